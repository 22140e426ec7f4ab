import JvmDerived
import JvmDerived.Pilot.@@N@@Statement
import JvmDerived.Pilot.@@N@@Code
set_option linter.unusedVariables false
set_option linter.unusedSimpArgs false
namespace Jvm.RoadKit
open Sem ClassFile Op Lib Jvm.Stand Jvm.Free Jvm.LawKit
section New
variable {p : Program} {l : Launch} {e : Env} {R : Room} {s : State} {m : MethodId} {args : Array Value} {below : List Frame} {meth : Method} {c : Code} {T : State} {locs : List Loc} {cells slots : Nat}
theorem retI (X : Stand p l e R s m args below meth c T locs cells slots) (hx : p.tables.exec = Jvm.exec) {pc : Nat} {Ls : Array Slot} {z : Int32} {rest : List Value} (hret : meth.sig.returnType = some .int) (hd : decode c.code pc = .ok (.ireturn, 1)) {fs : List Frame}
    (hl : ∀ (f : JFrame) (acts : List Action), f.method = m → f.locked = none → f.entered = [] → (doReturn e (T.setTop f) acts (some (.int z))).1 = T.setFrames fs) : Steps p.tables e below (T.setTop (mkF m pc Ls (.int z :: rest))) (T.setFrames fs) := by
  have hm' : T.vm.method? m = some meth := X.method'
  have hn : narrow .int (.int z) = .int z := rfl
  show Steps p.tables e below (T.setTop { method := m, pc := pc, locals := Ls, stack := _ :: rest, locked := none }) _
  jvm_step X.here [X.here.top, hx, hd, hm', hret, hn]
  first | (intro acts; rw [hl _ acts rfl rfl rfl]) | rw [hl _ _ rfl rfl rfl]
  exact Steps.refl _
theorem own_lremM {g : JFrame} {target : State} (X : Stand p l e R s m args below meth c T locs cells slots) (hx : p.tables.exec = Jvm.exec) (hg : g.method = m) {x y : Int64} {rest : List Value} (hd : decode c.code g.pc = .ok (.lrem, 1)) (hs : g.stack = .long y :: .long x :: rest) (hy : y ≠ 0)
    (hr : Steps p.tables e below (T.setTop { g with pc := g.pc + 1, stack := .long (x % y) :: rest }) target) : Steps p.tables e below (T.setTop g) target := by
  have q : x - (x / y) * y = x % y := lrem_mod x y
  exact XS.lrem X.here hx hg hd hs hy (by rw [q]; exact hr)
end New
/-! own: a long's comparison, an array by a function -/
theorem own_tltL {x y : Int64} (h : x < y) : ifCond.holds .lt (lcmpW x y) = true ∧ ifCond.holds .ge (lcmpW x y) = false ∧ ifCond.holds .gt (lcmpW y x) = true ∧ ifCond.holds .le (lcmpW y x) = false := by
  have h1 := (lc_lt x y).mpr h
  have h2 := (lc_gt y x).mpr h
  rw [← lcW] at h1 h2
  simp only [if0]
  exact ⟨(tlt h1).1, (tlt h1).2.1, (tlt h2).2.2.1, (tlt h2).2.2.2⟩
theorem own_fltL {x y : Int64} (h : ¬ x < y) : ifCond.holds .lt (lcmpW x y) = false ∧ ifCond.holds .ge (lcmpW x y) = true ∧ ifCond.holds .gt (lcmpW y x) = false ∧ ifCond.holds .le (lcmpW y x) = true := by
  have h1 := mt (lc_lt x y).mp h
  have h2 := mt (lc_gt y x).mp h
  rw [← lcW] at h1 h2
  simp only [if0]
  exact ⟨(flt h1).1, (flt h1).2.1, (flt h2).2.2.1, (flt h2).2.2.2⟩
theorem own_teqL {x y : Int64} (h : x = y) : ifCond.holds .eq (lcmpW x y) = true ∧ ifCond.holds .ne (lcmpW x y) = false := by
  have h1 := (lc_eq x y).mpr h
  rw [← lcW] at h1
  simp only [if0]
  exact teq h1
theorem own_feqL {x y : Int64} (h : ¬ x = y) : ifCond.holds .eq (lcmpW x y) = false ∧ ifCond.holds .ne (lcmpW x y) = true := by
  have h1 := mt (lc_eq x y).mp h
  rw [← lcW] at h1
  simp only [if0]
  exact feq h1
theorem own_iadd {x y : Int32} {X Y : Int} (hx : x.toInt = X) (hy : y.toInt = Y) (h1 : -2147483648 ≤ X + Y) (h2 : X + Y < 2147483648) : (x + y).toInt = X + Y := by
  have := c_iadd x y; have := rng32 (x + y); omega
theorem own_isub {x y : Int32} {X Y : Int} (hx : x.toInt = X) (hy : y.toInt = Y) (h1 : -2147483648 ≤ X - Y) (h2 : X - Y < 2147483648) : (x - y).toInt = X - Y := by
  have := c_isub x y; have := rng32 (x - y); omega
theorem own_imul {x y : Int32} {X Y : Int} (hx : x.toInt = X) (hy : y.toInt = Y) (h1 : -2147483648 ≤ X * Y) (h2 : X * Y < 2147483648) : (x * y).toInt = X * Y := by
  have := c_imul x y; have := rng32 (x * y); subst hx hy; omega
theorem own_ladd {x y : Int64} {X Y : Int} (hx : x.toInt = X) (hy : y.toInt = Y) (h1 : -9223372036854775808 ≤ X + Y) (h2 : X + Y < 9223372036854775808) : (x + y).toInt = X + Y := by
  have := c_ladd x y; have := rng64 (x + y); omega
theorem own_lsub {x y : Int64} {X Y : Int} (hx : x.toInt = X) (hy : y.toInt = Y) (h1 : -9223372036854775808 ≤ X - Y) (h2 : X - Y < 9223372036854775808) : (x - y).toInt = X - Y := by
  have := c_lsub x y; have := rng64 (x - y); omega
theorem own_lmul {x y : Int64} {X Y : Int} (hx : x.toInt = X) (hy : y.toInt = Y) (h1 : -9223372036854775808 ≤ X * Y) (h2 : X * Y < 9223372036854775808) : (x * y).toInt = X * Y := by
  have := c_lmul x y; have := rng64 (x * y); subst hx hy; omega
theorem own_maskL (x m : Int64) (k : Nat) (M : Int) (hM : m.toInt = M) (hk : k ≤ 63) (hm : m.toBitVec.toNat = 2 ^ k - 1) : 0 ≤ (x &&& m).toInt ∧ (x &&& m).toInt ≤ M := by
  have h := c_maskL x m k hk hm
  have h2 := c_maskL m m k hk hm
  have e : m &&& m = m := by simp
  rw [e] at h2
  have p : (0 : Int) < ((2 ^ k : Nat) : Int) := by have := Nat.two_pow_pos k; omega
  have a1 := Int.emod_nonneg x.toInt (show ((2 ^ k : Nat) : Int) ≠ 0 by omega)
  have a2 := Int.emod_lt_of_pos x.toInt p
  have hmi : m.toInt = ((2 ^ k - 1 : Nat) : Int) := by
    have h3 : m.toInt = (m.toBitVec.toNat : Int) := by
      show m.toBitVec.toInt = _
      rw [BitVec.toInt_eq_toNat_cond, hm]
      have : 2 ^ k ≤ 2 ^ 63 := Nat.pow_le_pow_right (by decide) hk
      split <;> omega
    rw [h3, hm]
  omega
theorem own_nb (x : Int32) : nar .byte (x.toInt8.toInt32) = x.toInt8.toInt32 := by
  show (x.toInt8.toInt32).toInt8.toInt32 = _
  simp
theorem own_sel {args : Array Value} {s : State} {y z : MethodName} (hi : (Cond.instanceMethod y).before args s = true) (hp : (Cond.privateMethod y).before args s = true) (h2 : (Cond.selects y.cls z z).before args s = true) (hc : z.cls = y.cls)
    (hy : y.cls ≠ "java/lang/invoke/MethodHandle" ∧ y.cls ≠ "java/lang/invoke/VarHandle") : (Cond.selects y.cls y y).before args s = true := by
  obtain ⟨mk, meth, hn, hm, -, -⟩ := Cond.instanceMethod_spec hi
  obtain ⟨c, r, m2, -, -, f3, -, k, f4, f5⟩ := Cond.selects_spec h2
  have e1 := findClass_of_methodNamed hn
  have e2 := findClass_of_methodNamed f3
  rw [hc, e1] at e2
  have e3 : m2.cls = mk.cls := (Option.some.inj e2).symm
  have e4 := State.methodFound?_of_named hn hy
  have e5 := selectMethod_private (p := {}) (c := mk.cls) hm (Cond.privateMethod_at hp mk meth hn hm)
  rw [e3] at f4
  simp [Cond.before, Cond.holds, Cond.value, e1, e4, hn, e5, f4, f5]
def AF (Z : State) (h : Heap) (a : Addr) (ty : FieldType) (n : Nat) (g : Nat → Value) : Prop := ∃ c : Cell, Arr Z h a c ty ∧ c.slots.size = n ∧ ∀ j, j < n → c.slots[j]? = some (g j)
abbrev AI (Z : State) (h : Heap) (a : Addr) (ty : FieldType) (n : Nat) (f : Nat → Int32) : Prop := AF Z h a ty n (fun j => .int (f j))
abbrev AJ (Z : State) (h : Heap) (a : Addr) (ty : FieldType) (n : Nat) (f : Nat → Int64) : Prop := AF Z h a ty n (fun j => .long (f j))
abbrev AD (Z : State) (h : Heap) (a : Addr) (ty : FieldType) (n : Nat) (f : Nat → UInt64) : Prop := AF Z h a ty n (fun j => .double (f j))
def up {α : Type} (f : Nat → α) (i : Nat) (v : α) : Nat → α := fun j => if j = i then v else f j
def zI : Nat → Int32 := fun _ => 0
def zJ : Nat → Int64 := fun _ => 0
section Arrs
variable {Z : State} {h h' : Heap} {a b : Addr} {ty : FieldType} {n : Nat} {g g' : Nat → Value}
theorem AF.lt (F : AF Z h a ty n g) : a < h.size := by obtain ⟨c, A, -⟩ := F; exact A.lt
theorem AF.ext (F : AF Z h a ty n g) (E : Ext h h') : AF Z h' a ty n g := by obtain ⟨c, A, r⟩ := F; exact ⟨c, A.ext E, r⟩
theorem AF.other {sl : Nat} {v : Value} (F : AF Z h b ty n g) (W : Wr h h' a sl v) (q : b ≠ a) : AF Z h' b ty n g := by obtain ⟨c, A, r⟩ := F; exact ⟨c, A.other W q, r⟩
theorem AF.keep {ws : List Addr} (F : AF Z h a ty n g) (K : Keep h h' ws) (q : a ∉ ws) : AF Z h' a ty n g := by obtain ⟨c, A, r⟩ := F; exact ⟨c, ⟨K.2.1 a c A.1 q, A.2⟩, r⟩
theorem AF.re (F : AF Z h a ty n g) (q : ∀ j, j < n → g j = g' j) : AF Z h a ty n g' := by obtain ⟨c, A, S, H⟩ := F; exact ⟨c, A, S, fun j hj => by rw [H j hj, q j hj]⟩
theorem AF.at (F : AF Z h a ty n g) {j : Int32} (i : Nat) (hj : j.toInt = i) (hi : i < n) : ∃ c : Cell, Arr Z h a c ty ∧ ¬ (j < 0 ∨ c.slots.size ≤ j.toNatClampNeg) ∧ c.slots[j.toNatClampNeg]? = some (g i) := by
  obtain ⟨c, A, S, H⟩ := F
  have e : j.toNatClampNeg = i := by simp only [Int32.toNatClampNeg, hj]; omega
  refine ⟨c, A, ?_, by rw [e]; exact H i hi⟩
  rw [e, S, Int32.lt_iff_toInt_lt, hj]
  have : (0 : Int32).toInt = 0 := rfl
  omega
theorem AF.len (F : AF Z h a ty n g) : ∃ c : Cell, Arr Z h a c ty ∧ c.slots.size = n := by obtain ⟨c, A, S, -⟩ := F; exact ⟨c, A, S⟩
theorem AF.set {k : Nat} {v : Value} (F : AF Z h a ty n g) (W : Wr h h' a k v) : AF Z h' a ty n (fun j => if j = k then v else g j) := by
  obtain ⟨c, A, S, H⟩ := F
  refine ⟨_, A.same W, by rw [sz_set]; exact S, fun j hj => ?_⟩
  by_cases q : j = k
  · subst q; simp [Cell.setSlot, S, hj]
  · show _ = some (if j = k then v else g j)
    rw [if_neg q]; have := H j hj; simp only [Cell.setSlot] at this ⊢; rw [Array.getElem?_setIfInBounds_ne (Ne.symm q)]; exact this
theorem own_tn {j : Int32} {i : Nat} (hj : j.toInt = i) : j.toNatClampNeg = i := by simp only [Int32.toNatClampNeg, hj]; omega
theorem AF.setI {f : Nat → Int32} {j : Int32} {v : Int32} (F : AI Z h a ty n f) (W : Wr h h' a j.toNatClampNeg (.int v)) (i : Nat) (hj : j.toInt = i) : AI Z h' a ty n (up f i v) := by
  rw [own_tn hj] at W
  exact (AF.set F W).re fun k _ => by by_cases q : k = i <;> simp [up, q]
theorem AF.setJ {f : Nat → Int64} {j : Int32} {v : Int64} (F : AJ Z h a ty n f) (W : Wr h h' a j.toNatClampNeg (.long v)) (i : Nat) (hj : j.toInt = i) : AJ Z h' a ty n (up f i v) := by
  rw [own_tn hj] at W
  exact (AF.set F W).re fun k _ => by by_cases q : k = i <;> simp [up, q]
theorem AF.setD {f : Nat → UInt64} {j : Int32} {v : UInt64} (F : AD Z h a ty n f) (W : Wr h h' a j.toNatClampNeg (.double v)) (i : Nat) (hj : j.toInt = i) : AD Z h' a ty n (up f i v) := by
  rw [own_tn hj] at W
  exact (AF.set F W).re fun k _ => by by_cases q : k = i <;> simp [up, q]
theorem AF.new {k : ClassId} {z : Int32} (A : Arr Z h a (newA k ty z) ty) (hz : z.toInt = n) : AF Z h a ty n (fun _ => defaultValue ty) :=
  ⟨_, A, by rw [sz_new]; exact own_tn hz, fun j hj => by simp [newA, own_tn hz, hj]⟩
end Arrs
end Jvm.RoadKit
namespace Jvm.Pilot.@@N@@
open Jvm Jvm.ClassFile Sem Op Lib Jvm.Free Jvm.Stand Jvm.LawKit Jvm.RoadKit Bundle Jvm.Pilot.@@N@@.Jvm.D
theorem ef_1 (m : MethodId) (tb : Int32) (ix : Int32) : entryFrame m #[(.int tb), (.int ix)] 2 = mkF m 0 #[.val (.int tb), .val (.int ix)] [] := by first | (simp [entryFrame, mkF, argsToLocals, Value.category]; done) | rfl
theorem d1_0 : decode method_2_code 0 = .ok (.iload_n 0, 1) := by decide +kernel
theorem d1_1 : decode method_2_code 1 = .ok (.bipush 8, 2) := by decide +kernel
theorem d1_3 : decode method_2_code 3 = .ok (.iload_n 1, 1) := by decide +kernel
theorem d1_4 : decode method_2_code 4 = .ok (.imul, 1) := by decide +kernel
theorem d1_5 : decode method_2_code 5 = .ok (.iushr, 1) := by decide +kernel
theorem d1_6 : decode method_2_code 6 = .ok (.sipush 255, 3) := by decide +kernel
theorem d1_9 : decode method_2_code 9 = .ok (.iand, 1) := by decide +kernel
theorem d1_10 : decode method_2_code 10 = .ok (.iload_n 1, 1) := by decide +kernel
theorem d1_11 : decode method_2_code 11 = .ok (.iconst 1, 1) := by decide +kernel
theorem d1_12 : decode method_2_code 12 = .ok (.iadd, 1) := by decide +kernel
theorem d1_13 : decode method_2_code 13 = .ok (.irem, 1) := by decide +kernel
theorem d1_14 : decode method_2_code 14 = .ok (.ireturn, 1) := by decide +kernel
theorem pn_skipstitch_search_PrefixTableScanResumePinLaw : plainName "skipstitch/search/PrefixTableScanResumePinLaw" = true := by first | (simp [plainName, overriddenIn]; done) | decide +kernel
def Q1 (Z : State) (tb : Int32) (ix : Int32) (h0 : Heap) (n0 : Nat) (v : Option Value) (h : Heap) (L : List Loc) : Prop := v = some (.int ((((tb.toUInt32 >>> (((8 : Int32) * ix) &&& 31).toUInt32).toInt32) &&& (255 : Int32)) % (ix + (1 : Int32)))) ∧ Fr n0 L ∧ h = h0
set_option maxRecDepth 65536 in
set_option maxHeartbeats 40000000 in
theorem rm1 (l : Launch) (Z : State) (a0 : Array Value) (hw : ∀ d ∈ tables_1, d.before a0 Z = true) (ws : List Jvm.Cond) (tb : Int32) (ix : Int32) (h0 : Heap) (n0 : Nat) (Z0 : n0 ≤ h0.size) (hnz : (ix + (1 : Int32)) ≠ (0 : Int32)) :
    MetFree l (⟨"skipstitch/search/PrefixTableScanResumePinLaw", "entry", "(II)I"⟩ : MethodName) (head1 (Jvm.Cond.code (⟨"skipstitch/search/PrefixTableScanResumePinLaw", "entry", "(II)I"⟩ : MethodName) method_2_code 2 (some .int) :: ws) ({ frames := 0, cells := 0, slots := 0, locals := 0 } : Room)) (fun a U => a = #[(.int tb), (.int ix)] ∧ Z.Warmed39 U.vm ∧ U.heap = h0) (fun _ _ _ _ _ => True) (fun _ U o U' => ∃ v L, o = .returned v ∧ Q1 Z tb ix h0 n0 v U'.heap L ∧ FrameEnd U o U' L ({ frames := 0, cells := 0, slots := 0, locals := 0 } : Room).cells ({ frames := 0, cells := 0, slots := 0, locals := 0 } : Room).slots) := by
  refine MetFree.of_bodySF (plainFor_of_name pn_skipstitch_search_PrefixTableScanResumePinLaw) hisR ?_
  intro p e s m args below meth c s₁ Bd hml0 hP hK
  obtain ⟨rfl, hZ, hh⟩ := hP
  have hx := Bd.exec
  have hby := Bd.bytes
  have hml : c.maxLocals = 2 := hml0
  have hown : s.vm.findClass "skipstitch/search/PrefixTableScanResumePinLaw" = some m.cls := findClass_of_methodNamed Bd.named
  have hnm := (name_of_methodNamed Bd.named Bd.method).1
  have X0 : Stand p l e ({ frames := 0, cells := 0, slots := 0, locals := 0 } : Room) s m #[(.int tb), (.int ix)] below meth c s₁ [] 0 0 := Stand.of_body Bd
  have e0 : s₁.heap = h0 := by rw [← hh, Bd.state]; rfl
  have N0 := Fr.nil n0
  have K0 : Keep h0 h0 [] := Keep.refl h0 _
  have pre0 : ∀ t, Steps p.tables e below (s₁.setTop (mkF m 0 #[.val (.int tb), .val (.int ix)] [])) t → Steps p.tables e below (s₁.setTop (entryFrame m #[(.int tb), (.int ix)] 2)) t := fun t k => castTop (ef_1 m tb ix) k
  obtain ⟨fs, hr, hrun, hended, hW, hsame⟩ := X0.leave (v := some (.int ((((tb.toUInt32 >>> (((8 : Int32) * ix) &&& 31).toUInt32).toInt32) &&& (255 : Int32)) % (ix + (1 : Int32))))) (fun h => by rw [Bd.returns] at h; cases h)
  refine ⟨_, _, pre0 _ ?_, hrun, hended, _, _, rfl, ?_, ⟨_, rfl⟩, hW, hsame.mono (by decide) (by decide)⟩
  · show Steps p.tables e below (s₁.setTop (mkF m 0 #[.val (.int tb), .val (.int ix)] [])) _
    refine XS.iloadN X0.here hx rfl (hb hby d1_0) rfl ?_
    show Steps p.tables e below (s₁.setTop (mkF m 1 #[.val (.int tb), .val (.int ix)] [(.int tb)])) _
    refine XS.bipush X0.here hx rfl (hb hby d1_1) ?_
    show Steps p.tables e below (s₁.setTop (mkF m 3 #[.val (.int tb), .val (.int ix)] [(.int (8 : Int32)), (.int tb)])) _
    refine XS.iloadN X0.here hx rfl (hb hby d1_3) rfl ?_
    show Steps p.tables e below (s₁.setTop (mkF m 4 #[.val (.int tb), .val (.int ix)] [(.int ix), (.int (8 : Int32)), (.int tb)])) _
    refine XS.imul X0.here hx rfl (hb hby d1_4) rfl ?_
    show Steps p.tables e below (s₁.setTop (mkF m 5 #[.val (.int tb), .val (.int ix)] [(.int ((8 : Int32) * ix)), (.int tb)])) _
    refine XS.iushr X0.here hx rfl (hb hby d1_5) rfl ?_
    show Steps p.tables e below (s₁.setTop (mkF m 6 #[.val (.int tb), .val (.int ix)] [(.int ((tb.toUInt32 >>> (((8 : Int32) * ix) &&& 31).toUInt32).toInt32))])) _
    refine XS.sipush X0.here hx rfl (hb hby d1_6) ?_
    show Steps p.tables e below (s₁.setTop (mkF m 9 #[.val (.int tb), .val (.int ix)] [(.int (255 : Int32)), (.int ((tb.toUInt32 >>> (((8 : Int32) * ix) &&& 31).toUInt32).toInt32))])) _
    refine XS.iand X0.here hx rfl (hb hby d1_9) rfl ?_
    show Steps p.tables e below (s₁.setTop (mkF m 10 #[.val (.int tb), .val (.int ix)] [(.int (((tb.toUInt32 >>> (((8 : Int32) * ix) &&& 31).toUInt32).toInt32) &&& (255 : Int32)))])) _
    refine XS.iloadN X0.here hx rfl (hb hby d1_10) rfl ?_
    show Steps p.tables e below (s₁.setTop (mkF m 11 #[.val (.int tb), .val (.int ix)] [(.int ix), (.int (((tb.toUInt32 >>> (((8 : Int32) * ix) &&& 31).toUInt32).toInt32) &&& (255 : Int32)))])) _
    refine XS.iconst X0.here hx rfl (hb hby d1_11) ?_
    show Steps p.tables e below (s₁.setTop (mkF m 12 #[.val (.int tb), .val (.int ix)] [(.int (1 : Int32)), (.int ix), (.int (((tb.toUInt32 >>> (((8 : Int32) * ix) &&& 31).toUInt32).toInt32) &&& (255 : Int32)))])) _
    refine XS.iadd X0.here hx rfl (hb hby d1_12) rfl ?_
    show Steps p.tables e below (s₁.setTop (mkF m 13 #[.val (.int tb), .val (.int ix)] [(.int (ix + (1 : Int32))), (.int (((tb.toUInt32 >>> (((8 : Int32) * ix) &&& 31).toUInt32).toInt32) &&& (255 : Int32)))])) _
    refine iremM X0 hx rfl (hb hby d1_13) rfl (hnz) ?_
    show Steps p.tables e below (s₁.setTop (mkF m 14 #[.val (.int tb), .val (.int ix)] [(.int ((((tb.toUInt32 >>> (((8 : Int32) * ix) &&& 31).toUInt32).toInt32) &&& (255 : Int32)) % (ix + (1 : Int32))))])) _
    exact retI X0 hx Bd.returns (hb hby d1_14) hr
  · show Q1 Z tb ix h0 n0 _ s₁.heap _
    rw [e0]
    exact ⟨rfl, N0, rfl⟩
theorem ef_2 (m : MethodId) (ra : Addr) (rp : Addr) (rt : Addr) : entryFrame m #[(.ref ra), (.ref rp), (.ref rt)] 3 = mkF m 0 #[.val (.ref ra), .val (.ref rp), .val (.ref rt)] [] := by first | (simp [entryFrame, mkF, argsToLocals, Value.category]; done) | rfl
theorem d2_0 : decode prog_30_method_1_code 0 = .ok (.aload_n 0, 1) := by decide +kernel
theorem d2_1 : decode prog_30_method_1_code 1 = .ok (.invokespecial 1, 3) := by decide +kernel
theorem d2_4 : decode prog_30_method_1_code 4 = .ok (.aload_n 0, 1) := by decide +kernel
theorem d2_5 : decode prog_30_method_1_code 5 = .ok (.aload_n 1, 1) := by decide +kernel
theorem d2_6 : decode prog_30_method_1_code 6 = .ok (.putfield 7, 3) := by decide +kernel
theorem d2_9 : decode prog_30_method_1_code 9 = .ok (.aload_n 0, 1) := by decide +kernel
theorem d2_10 : decode prog_30_method_1_code 10 = .ok (.aload_n 2, 1) := by decide +kernel
theorem d2_11 : decode prog_30_method_1_code 11 = .ok (.putfield 13, 3) := by decide +kernel
theorem d2_14 : decode prog_30_method_1_code 14 = .ok (.return_, 1) := by decide +kernel
theorem pn_skipstitch_search_PrefixTableScan : plainName "skipstitch/search/PrefixTableScan" = true := by first | (simp [plainName, overriddenIn]; done) | decide +kernel
def Q2 (Z : State) (ra : Addr) (rp : Addr) (rt : Addr) (h0 : Heap) (n0 : Nat) (v : Option Value) (h : Heap) (L : List Loc) : Prop := v = none ∧ Fr n0 L ∧ Keep h0 h [ra] ∧ Fld Z h ra "skipstitch/search/PrefixTableScan" "pattern" "[B" (.ref rp) ∧ Fld Z h ra "skipstitch/search/PrefixTableScan" "table" "[I" (.ref rt) ∧ Fld Z h ra "skipstitch/search/PrefixTableScan" "matched" "I" (.int (0 : Int32)) ∧ Fld Z h ra "skipstitch/search/PrefixTableScan" "comparisons" "J" (.long (0 : Int64)) ∧ Fld Z h ra "skipstitch/search/PrefixTableScan" "occurrences" "J" (.long (0 : Int64))
set_option maxRecDepth 65536 in
set_option maxHeartbeats 40000000 in
theorem rm2 (l : Launch) (Z : State) (a0 : Array Value) (hw : ∀ d ∈ tables_1, d.before a0 Z = true) (ws : List Jvm.Cond) (ra : Addr) (rp : Addr) (rt : Addr) (h0 : Heap) (n0 : Nat) (Z0 : n0 ≤ h0.size) (E_ra : Exa Z h0 ra "skipstitch/search/PrefixTableScan") (F_pattern_ra : Fld Z h0 ra "skipstitch/search/PrefixTableScan" "pattern" "[B" .null) (F_table_ra : Fld Z h0 ra "skipstitch/search/PrefixTableScan" "table" "[I" .null) (g_ra : n0 ≤ ra) (F_matched_ra : Fld Z h0 ra "skipstitch/search/PrefixTableScan" "matched" "I" (.int (0 : Int32))) (F_comparisons_ra : Fld Z h0 ra "skipstitch/search/PrefixTableScan" "comparisons" "J" (.long (0 : Int64))) (F_occurrences_ra : Fld Z h0 ra "skipstitch/search/PrefixTableScan" "occurrences" "J" (.long (0 : Int64))) :
    MetFree l (⟨"skipstitch/search/PrefixTableScan", "<init>", "([B[I)V"⟩ : MethodName) (head1 (Jvm.Cond.code (⟨"skipstitch/search/PrefixTableScan", "<init>", "([B[I)V"⟩ : MethodName) prog_30_method_1_code 3 none :: ws) ({ frames := 1, cells := 0, slots := 0, locals := 12 } : Room)) (fun a U => a = #[(.ref ra), (.ref rp), (.ref rt)] ∧ Z.Warmed39 U.vm ∧ U.heap = h0) (fun _ _ _ _ _ => True) (fun _ U o U' => ∃ v L, o = .returned v ∧ Q2 Z ra rp rt h0 n0 v U'.heap L ∧ FrameEnd U o U' L ({ frames := 1, cells := 0, slots := 0, locals := 12 } : Room).cells ({ frames := 1, cells := 0, slots := 0, locals := 12 } : Room).slots) := by
  refine MetFree.of_bodySF (plainFor_of_name pn_skipstitch_search_PrefixTableScan) hisR ?_
  intro p e s m args below meth c s₁ Bd hml0 hP hK
  obtain ⟨rfl, hZ, hh⟩ := hP
  have hx := Bd.exec
  have hby := Bd.bytes
  have hml : c.maxLocals = 3 := hml0
  have hown : s.vm.findClass "skipstitch/search/PrefixTableScan" = some m.cls := findClass_of_methodNamed Bd.named
  have hnm := (name_of_methodNamed Bd.named Bd.method).1
  have X0 : Stand p l e ({ frames := 1, cells := 0, slots := 0, locals := 12 } : Room) s m #[(.ref ra), (.ref rp), (.ref rt)] below meth c s₁ [] 0 0 := Stand.of_body Bd
  have e0 : s₁.heap = h0 := by rw [← hh, Bd.state]; rfl
  have N0 := Fr.nil n0
  have K0 : Keep h0 h0 [ra] := Keep.refl h0 _
  have pre0 : ∀ t, Steps p.tables e below (s₁.setTop (mkF m 0 #[.val (.ref ra), .val (.ref rp), .val (.ref rt)] [])) t → Steps p.tables e below (s₁.setTop (entryFrame m #[(.ref ra), (.ref rp), (.ref rt)] 3)) t := fun t k => castTop (ef_2 m ra rp rt) k
  obtain ⟨T1, X1, e1, st1⟩ := initO X0 hx hZ hown (hw _ (List.mem_of_getElem? (i := 13) rfl)) (hw _ (List.mem_of_getElem? (i := 14) rfl)) (hw _ (List.mem_of_getElem? (i := 15) rfl)) e0 (g := (mkF m 1 #[.val (.ref ra), .val (.ref rp), .val (.ref rt)] [(.ref ra)])) rfl (by rw [hml]; rfl) rfl (hb hby d2_1) (by decide) (W := 0) (by show 2 * 0 + _ ≤ _; exact Nat.le_of_eq rfl) (by decide)
  obtain ⟨T2, h2, X2, e2, W2, st2⟩ := putF X1 hx hZ hown (host := "") (Or.inl (hw _ (List.mem_of_getElem? (i := 16) rfl))) Via.refl e1 F_pattern_ra E_ra (Or.inr ⟨(hw _ (List.mem_of_getElem? (i := 17) rfl)), rfl, hnm⟩) (hw _ (List.mem_of_getElem? (i := 8) rfl)) (ty := (.array .byte)) (by decide) rfl rfl (g := (mkF m 6 #[.val (.ref ra), .val (.ref rp), .val (.ref rt)] [(.ref rp), (.ref ra)])) rfl rfl (hb hby d2_6)
  have N2 := Fr.snoc X2 N0 g_ra
  have Z2 : n0 ≤ h2.size := Nat.le_trans Z0 (Keep.of_wr W2).1
  have K2 : Keep h0 h2 [ra] := K0.wr W2 (Or.inl (List.mem_of_getElem? (i := 0) rfl))
  have f3 : Fld Z h2 ra "skipstitch/search/PrefixTableScan" "pattern" "[B" (.ref rp) := F_pattern_ra.same W2
  have f4 : Exa Z h2 ra "skipstitch/search/PrefixTableScan" := E_ra.wr W2
  have f5 : Fld Z h2 ra "skipstitch/search/PrefixTableScan" "table" "[I" .null := F_table_ra.other W2 (Or.inr (slot_ne (Or.inr (hw _ (List.mem_of_getElem? (i := 19) rfl))) (Or.inr (hw _ (List.mem_of_getElem? (i := 17) rfl))) (by decide) (t := (.array .int)) (t' := (.array .byte)) (by decide) (by decide)))
  have f6 : Fld Z h2 ra "skipstitch/search/PrefixTableScan" "matched" "I" (.int (0 : Int32)) := F_matched_ra.other W2 (Or.inr (slot_ne (Or.inl (hw _ (List.mem_of_getElem? (i := 26) rfl))) (Or.inr (hw _ (List.mem_of_getElem? (i := 17) rfl))) (by decide) (t := .int) (t' := (.array .byte)) (by decide) (by decide)))
  have f7 : Fld Z h2 ra "skipstitch/search/PrefixTableScan" "comparisons" "J" (.long (0 : Int64)) := F_comparisons_ra.other W2 (Or.inr (slot_ne (Or.inl (hw _ (List.mem_of_getElem? (i := 28) rfl))) (Or.inr (hw _ (List.mem_of_getElem? (i := 17) rfl))) (by decide) (t := .long) (t' := (.array .byte)) (by decide) (by decide)))
  have f8 : Fld Z h2 ra "skipstitch/search/PrefixTableScan" "occurrences" "J" (.long (0 : Int64)) := F_occurrences_ra.other W2 (Or.inr (slot_ne (Or.inl (hw _ (List.mem_of_getElem? (i := 30) rfl))) (Or.inr (hw _ (List.mem_of_getElem? (i := 17) rfl))) (by decide) (t := .long) (t' := (.array .byte)) (by decide) (by decide)))
  obtain ⟨T9, h9, X9, e9, W9, st9⟩ := putF X2 hx hZ hown (host := "") (Or.inl (hw _ (List.mem_of_getElem? (i := 18) rfl))) Via.refl e2 f5 f4 (Or.inr ⟨(hw _ (List.mem_of_getElem? (i := 19) rfl)), rfl, hnm⟩) (hw _ (List.mem_of_getElem? (i := 8) rfl)) (ty := (.array .int)) (by decide) rfl rfl (g := (mkF m 11 #[.val (.ref ra), .val (.ref rp), .val (.ref rt)] [(.ref rt), (.ref ra)])) rfl rfl (hb hby d2_11)
  have N9 := Fr.snoc X9 N2 g_ra
  have Z9 : n0 ≤ h9.size := Nat.le_trans Z2 (Keep.of_wr W9).1
  have K9 : Keep h0 h9 [ra] := K2.wr W9 (Or.inl (List.mem_of_getElem? (i := 0) rfl))
  have f10 : Fld Z h9 ra "skipstitch/search/PrefixTableScan" "table" "[I" (.ref rt) := f5.same W9
  have f11 : Exa Z h9 ra "skipstitch/search/PrefixTableScan" := f4.wr W9
  have f12 : Fld Z h9 ra "skipstitch/search/PrefixTableScan" "pattern" "[B" (.ref rp) := f3.other W9 (Or.inr (slot_ne (Or.inr (hw _ (List.mem_of_getElem? (i := 17) rfl))) (Or.inr (hw _ (List.mem_of_getElem? (i := 19) rfl))) (by decide) (t := (.array .byte)) (t' := (.array .int)) (by decide) (by decide)))
  have f13 : Fld Z h9 ra "skipstitch/search/PrefixTableScan" "matched" "I" (.int (0 : Int32)) := f6.other W9 (Or.inr (slot_ne (Or.inl (hw _ (List.mem_of_getElem? (i := 26) rfl))) (Or.inr (hw _ (List.mem_of_getElem? (i := 19) rfl))) (by decide) (t := .int) (t' := (.array .int)) (by decide) (by decide)))
  have f14 : Fld Z h9 ra "skipstitch/search/PrefixTableScan" "comparisons" "J" (.long (0 : Int64)) := f7.other W9 (Or.inr (slot_ne (Or.inl (hw _ (List.mem_of_getElem? (i := 28) rfl))) (Or.inr (hw _ (List.mem_of_getElem? (i := 19) rfl))) (by decide) (t := .long) (t' := (.array .int)) (by decide) (by decide)))
  have f15 : Fld Z h9 ra "skipstitch/search/PrefixTableScan" "occurrences" "J" (.long (0 : Int64)) := f8.other W9 (Or.inr (slot_ne (Or.inl (hw _ (List.mem_of_getElem? (i := 30) rfl))) (Or.inr (hw _ (List.mem_of_getElem? (i := 19) rfl))) (by decide) (t := .long) (t' := (.array .int)) (by decide) (by decide)))
  obtain ⟨fs, hr, hrun, hended, hW, hsame⟩ := X9.leave (v := none) (fun _ => rfl)
  refine ⟨_, _, pre0 _ ?_, hrun, hended, _, _, rfl, ?_, ⟨_, rfl⟩, hW, hsame.mono (by decide) (by decide)⟩
  · show Steps p.tables e below (s₁.setTop (mkF m 0 #[.val (.ref ra), .val (.ref rp), .val (.ref rt)] [])) _
    refine XS.aloadN X0.here hx rfl (hb hby d2_0) rfl rfl ?_
    show Steps p.tables e below (s₁.setTop (mkF m 1 #[.val (.ref ra), .val (.ref rp), .val (.ref rt)] [(.ref ra)])) _
    refine st1 _ ?_
    show Steps p.tables e below (T1.setTop (mkF m 4 #[.val (.ref ra), .val (.ref rp), .val (.ref rt)] [])) _
    refine XS.aloadN X1.here hx rfl (hb hby d2_4) rfl rfl ?_
    show Steps p.tables e below (T1.setTop (mkF m 5 #[.val (.ref ra), .val (.ref rp), .val (.ref rt)] [(.ref ra)])) _
    refine XS.aloadN X1.here hx rfl (hb hby d2_5) rfl rfl ?_
    show Steps p.tables e below (T1.setTop (mkF m 6 #[.val (.ref ra), .val (.ref rp), .val (.ref rt)] [(.ref rp), (.ref ra)])) _
    refine st2 _ ?_
    show Steps p.tables e below (T2.setTop (mkF m 9 #[.val (.ref ra), .val (.ref rp), .val (.ref rt)] [])) _
    refine XS.aloadN X2.here hx rfl (hb hby d2_9) rfl rfl ?_
    show Steps p.tables e below (T2.setTop (mkF m 10 #[.val (.ref ra), .val (.ref rp), .val (.ref rt)] [(.ref ra)])) _
    refine XS.aloadN X2.here hx rfl (hb hby d2_10) rfl rfl ?_
    show Steps p.tables e below (T2.setTop (mkF m 11 #[.val (.ref ra), .val (.ref rp), .val (.ref rt)] [(.ref rt), (.ref ra)])) _
    refine st9 _ ?_
    show Steps p.tables e below (T9.setTop (mkF m 14 #[.val (.ref ra), .val (.ref rp), .val (.ref rt)] [])) _
    exact X9.returnOut hx Bd.returns (hb hby d2_14) hr
  · show Q2 Z ra rp rt h0 n0 _ T9.heap _
    rw [e9]
    exact ⟨rfl, N9, K9, f12, f10, f13, f14, f15⟩
theorem d4_0 : decode prog_30_method_4_code 0 = .ok (.aload_n 0, 1) := by decide +kernel
theorem d4_1 : decode prog_30_method_4_code 1 = .ok (.iload_n 1, 1) := by decide +kernel
theorem d4_2 : decode prog_30_method_4_code 2 = .ok (.aload_n 0, 1) := by decide +kernel
theorem d4_3 : decode prog_30_method_4_code 3 = .ok (.getfield 7, 3) := by decide +kernel
theorem d4_6 : decode prog_30_method_4_code 6 = .ok (.arraylength, 1) := by decide +kernel
theorem d4_7 : decode prog_30_method_4_code 7 = .ok (.if_icmp .ne 14, 3) := by decide +kernel
theorem d4_10 : decode prog_30_method_4_code 10 = .ok (.aload_n 0, 1) := by decide +kernel
theorem d4_11 : decode prog_30_method_4_code 11 = .ok (.getfield 13, 3) := by decide +kernel
theorem d4_14 : decode prog_30_method_4_code 14 = .ok (.iload_n 1, 1) := by decide +kernel
theorem d4_15 : decode prog_30_method_4_code 15 = .ok (.iconst 1, 1) := by decide +kernel
theorem d4_16 : decode prog_30_method_4_code 16 = .ok (.isub, 1) := by decide +kernel
theorem d4_17 : decode prog_30_method_4_code 17 = .ok (.iaload, 1) := by decide +kernel
theorem d4_18 : decode prog_30_method_4_code 18 = .ok (.goto 4, 3) := by decide +kernel
theorem d4_22 : decode prog_30_method_4_code 22 = .ok (.putfield 17, 3) := by decide +kernel
theorem d4_25 : decode prog_30_method_4_code 25 = .ok (.aload_n 0, 1) := by decide +kernel
theorem d4_26 : decode prog_30_method_4_code 26 = .ok (.lload_n 2, 1) := by decide +kernel
theorem d4_27 : decode prog_30_method_4_code 27 = .ok (.putfield 21, 3) := by decide +kernel
theorem d4_30 : decode prog_30_method_4_code 30 = .ok (.aload_n 0, 1) := by decide +kernel
theorem d4_31 : decode prog_30_method_4_code 31 = .ok (.lload 4, 2) := by decide +kernel
theorem d4_33 : decode prog_30_method_4_code 33 = .ok (.putfield 25, 3) := by decide +kernel
theorem d4_36 : decode prog_30_method_4_code 36 = .ok (.return_, 1) := by decide +kernel
theorem d4_21 : decode prog_30_method_4_code 21 = .ok (.iload_n 1, 1) := by decide +kernel
theorem ef_4k1 (m : MethodId) (ra : Addr) (iv : Int32) (cv : Int64) (ov : Int64) : entryFrame m #[(.ref ra), (.int iv), (.long cv), (.long ov)] 6 = mkF m 0 #[.val (.ref ra), .val (.int iv), .val (.long cv), .second, .val (.long ov), .second] [] := by first | (simp [entryFrame, mkF, argsToLocals, Value.category]; done) | rfl
def r4k1_matched (iv : Int32) (fq : Nat → Int32) : Int32 := (if iv = (1 : Int32) then (fq 0) else iv)
def Q4k1 (Z : State) (ra : Addr) (iv : Int32) (cv : Int64) (ov : Int64) (rp : Addr) (rt : Addr) (fp : Nat → Int32) (fq : Nat → Int32) (u_matched_ra : Int32) (u_comparisons_ra : Int64) (u_occurrences_ra : Int64) (h0 : Heap) (n0 : Nat) (v : Option Value) (h : Heap) (L : List Loc) : Prop := v = none ∧ Fr n0 L ∧ Keep h0 h [ra] ∧ Fld Z h ra "skipstitch/search/PrefixTableScan" "pattern" "[B" (.ref rp) ∧ Fld Z h ra "skipstitch/search/PrefixTableScan" "table" "[I" (.ref rt) ∧ Fld Z h ra "skipstitch/search/PrefixTableScan" "matched" "I" (.int (r4k1_matched iv fq)) ∧ Fld Z h ra "skipstitch/search/PrefixTableScan" "comparisons" "J" (.long cv) ∧ Fld Z h ra "skipstitch/search/PrefixTableScan" "occurrences" "J" (.long ov)
set_option maxRecDepth 65536 in
set_option maxHeartbeats 40000000 in
theorem rm4k1 (l : Launch) (Z : State) (a0 : Array Value) (hw : ∀ d ∈ tables_1, d.before a0 Z = true) (ws : List Jvm.Cond) (ra : Addr) (iv : Int32) (cv : Int64) (ov : Int64) (rp : Addr) (rt : Addr) (fp : Nat → Int32) (fq : Nat → Int32) (u_matched_ra : Int32) (u_comparisons_ra : Int64) (u_occurrences_ra : Int64) (h0 : Heap) (n0 : Nat) (Z0 : n0 ≤ h0.size) (E_ra : Exa Z h0 ra "skipstitch/search/PrefixTableScan") (F_pattern_ra : Fld Z h0 ra "skipstitch/search/PrefixTableScan" "pattern" "[B" (.ref rp)) (F_table_ra : Fld Z h0 ra "skipstitch/search/PrefixTableScan" "table" "[I" (.ref rt)) (A_rp : AI Z h0 rp .byte 1 fp) (A_rt : AI Z h0 rt .int 1 fq) (ne_ra_rp : ra ≠ rp) (ne_ra_rt : ra ≠ rt) (F_matched_ra : Fld Z h0 ra "skipstitch/search/PrefixTableScan" "matched" "I" (.int u_matched_ra)) (F_comparisons_ra : Fld Z h0 ra "skipstitch/search/PrefixTableScan" "comparisons" "J" (.long u_comparisons_ra)) (F_occurrences_ra : Fld Z h0 ra "skipstitch/search/PrefixTableScan" "occurrences" "J" (.long u_occurrences_ra)) (g_ra : n0 ≤ ra) :
    MetFree l (⟨"skipstitch/search/PrefixTableScan", "resume", "(IJJ)V"⟩ : MethodName) (head1 (Jvm.Cond.code (⟨"skipstitch/search/PrefixTableScan", "resume", "(IJJ)V"⟩ : MethodName) prog_30_method_4_code 6 none :: ws) ({ frames := 0, cells := 0, slots := 0, locals := 0 } : Room)) (fun a U => a = #[(.ref ra), (.int iv), (.long cv), (.long ov)] ∧ Z.Warmed39 U.vm ∧ U.heap = h0) (fun _ _ _ _ _ => True) (fun _ U o U' => ∃ v L, o = .returned v ∧ Q4k1 Z ra iv cv ov rp rt fp fq u_matched_ra u_comparisons_ra u_occurrences_ra h0 n0 v U'.heap L ∧ FrameEnd U o U' L ({ frames := 0, cells := 0, slots := 0, locals := 0 } : Room).cells ({ frames := 0, cells := 0, slots := 0, locals := 0 } : Room).slots) := by
  refine MetFree.of_bodySF (plainFor_of_name pn_skipstitch_search_PrefixTableScan) hisR ?_
  intro p e s m args below meth c s₁ Bd hml0 hP hK
  obtain ⟨rfl, hZ, hh⟩ := hP
  have hx := Bd.exec
  have hby := Bd.bytes
  have hml : c.maxLocals = 6 := hml0
  have hown : s.vm.findClass "skipstitch/search/PrefixTableScan" = some m.cls := findClass_of_methodNamed Bd.named
  have hnm := (name_of_methodNamed Bd.named Bd.method).1
  have X0 : Stand p l e ({ frames := 0, cells := 0, slots := 0, locals := 0 } : Room) s m #[(.ref ra), (.int iv), (.long cv), (.long ov)] below meth c s₁ [] 0 0 := Stand.of_body Bd
  have e0 : s₁.heap = h0 := by rw [← hh, Bd.state]; rfl
  have N0 := Fr.nil n0
  have K0 : Keep h0 h0 [ra] := Keep.refl h0 _
  have pre0 : ∀ t, Steps p.tables e below (s₁.setTop (mkF m 0 #[.val (.ref ra), .val (.int iv), .val (.long cv), .second, .val (.long ov), .second] [])) t → Steps p.tables e below (s₁.setTop (entryFrame m #[(.ref ra), (.int iv), (.long cv), (.long ov)] 6)) t := fun t k => castTop (ef_4k1 m ra iv cv ov) k
  obtain ⟨T1, X1, e1, st1⟩ := getF X0 hx hZ hown (host := "") (Or.inl (hw _ (List.mem_of_getElem? (i := 16) rfl))) Via.refl e0 F_pattern_ra (g := (mkF m 3 #[.val (.ref ra), .val (.int iv), .val (.long cv), .second, .val (.long ov), .second] [(.ref ra), (.int iv), (.ref ra)])) rfl rfl (hb hby d4_3)
  obtain ⟨cl2, Arcl2, Szcl2⟩ := AF.len A_rp
  have pre3 : ∀ t, Steps p.tables e below (T1.setTop (mkF m 7 #[.val (.ref ra), .val (.int iv), .val (.long cv), .second, .val (.long ov), .second] [(.int (1 : Int32)), (.int iv), (.ref ra)])) t → Steps p.tables e below (s₁.setTop (entryFrame m #[(.ref ra), (.int iv), (.long cv), (.long ov)] 6)) t := by
    intro t k
    refine pre0 _ ?_
    show Steps p.tables e below (s₁.setTop (mkF m 0 #[.val (.ref ra), .val (.int iv), .val (.long cv), .second, .val (.long ov), .second] [])) _
    refine XS.aloadN X0.here hx rfl (hb hby d4_0) rfl rfl ?_
    show Steps p.tables e below (s₁.setTop (mkF m 1 #[.val (.ref ra), .val (.int iv), .val (.long cv), .second, .val (.long ov), .second] [(.ref ra)])) _
    refine XS.iloadN X0.here hx rfl (hb hby d4_1) rfl ?_
    show Steps p.tables e below (s₁.setTop (mkF m 2 #[.val (.ref ra), .val (.int iv), .val (.long cv), .second, .val (.long ov), .second] [(.int iv), (.ref ra)])) _
    refine XS.aloadN X0.here hx rfl (hb hby d4_2) rfl rfl ?_
    show Steps p.tables e below (s₁.setTop (mkF m 3 #[.val (.ref ra), .val (.int iv), .val (.long cv), .second, .val (.long ov), .second] [(.ref ra), (.int iv), (.ref ra)])) _
    refine st1 _ ?_
    show Steps p.tables e below (T1.setTop (mkF m 6 #[.val (.ref ra), .val (.int iv), .val (.long cv), .second, .val (.long ov), .second] [(.ref rp), (.int iv), (.ref ra)])) _
    refine X1.arraylength hx (by rw [e1]; exact Arcl2.1) (State.isArrayOf_alike hZ.alike Arcl2.2.1) (g := (mkF m 6 #[.val (.ref ra), .val (.int iv), .val (.long cv), .second, .val (.long ov), .second] [(.ref rp), (.int iv), (.ref ra)])) rfl rfl (hb hby d4_6) _ ?_
    rw [Szcl2]
    exact k
  by_cases hk4 : iv = (1 : Int32)
  · obtain ⟨T5, X5, e5, st5⟩ := getF X1 hx hZ hown (host := "") (Or.inl (hw _ (List.mem_of_getElem? (i := 18) rfl))) Via.refl e1 F_table_ra (g := (mkF m 11 #[.val (.ref ra), .val (.int iv), .val (.long cv), .second, .val (.long ov), .second] [(.ref ra), (.ref ra)])) rfl rfl (hb hby d4_11)
    obtain ⟨cl6, Arcl6, hincl6, hatcl6⟩ := AF.at A_rt (j := (iv - (1 : Int32))) 0 (by rw [hk4]; decide) (by decide)
    obtain ⟨T7, h7, X7, e7, W7, st7⟩ := putF X5 hx hZ hown (host := "") (Or.inl (hw _ (List.mem_of_getElem? (i := 25) rfl))) Via.refl e5 F_matched_ra E_ra (Or.inl (hw _ (List.mem_of_getElem? (i := 26) rfl))) (hw _ (List.mem_of_getElem? (i := 8) rfl)) (ty := .int) (by decide) rfl rfl (g := (mkF m 22 #[.val (.ref ra), .val (.int iv), .val (.long cv), .second, .val (.long ov), .second] [(.int (fq 0)), (.ref ra)])) rfl rfl (hb hby d4_22)
    have N7 := Fr.snoc X7 N0 g_ra
    have Z7 : n0 ≤ h7.size := Nat.le_trans Z0 (Keep.of_wr W7).1
    have K7 : Keep h0 h7 [ra] := K0.wr W7 (Or.inl (List.mem_of_getElem? (i := 0) rfl))
    have f8 : Fld Z h7 ra "skipstitch/search/PrefixTableScan" "matched" "I" (.int (fq 0)) := F_matched_ra.same W7
    have f9 : Exa Z h7 ra "skipstitch/search/PrefixTableScan" := E_ra.wr W7
    have f10 : Fld Z h7 ra "skipstitch/search/PrefixTableScan" "pattern" "[B" (.ref rp) := F_pattern_ra.other W7 (Or.inr (slot_ne (Or.inr (hw _ (List.mem_of_getElem? (i := 17) rfl))) (Or.inl (hw _ (List.mem_of_getElem? (i := 26) rfl))) (by decide) (t := (.array .byte)) (t' := .int) (by decide) (by decide)))
    have f11 : Fld Z h7 ra "skipstitch/search/PrefixTableScan" "table" "[I" (.ref rt) := F_table_ra.other W7 (Or.inr (slot_ne (Or.inr (hw _ (List.mem_of_getElem? (i := 19) rfl))) (Or.inl (hw _ (List.mem_of_getElem? (i := 26) rfl))) (by decide) (t := (.array .int)) (t' := .int) (by decide) (by decide)))
    have f12 : AI Z h7 rp .byte 1 fp := A_rp.other W7 (Ne.symm ne_ra_rp)
    have f13 : AI Z h7 rt .int 1 fq := A_rt.other W7 (Ne.symm ne_ra_rt)
    have f14 : Fld Z h7 ra "skipstitch/search/PrefixTableScan" "comparisons" "J" (.long u_comparisons_ra) := F_comparisons_ra.other W7 (Or.inr (slot_ne (Or.inl (hw _ (List.mem_of_getElem? (i := 28) rfl))) (Or.inl (hw _ (List.mem_of_getElem? (i := 26) rfl))) (by decide) (t := .long) (t' := .int) (by decide) (by decide)))
    have f15 : Fld Z h7 ra "skipstitch/search/PrefixTableScan" "occurrences" "J" (.long u_occurrences_ra) := F_occurrences_ra.other W7 (Or.inr (slot_ne (Or.inl (hw _ (List.mem_of_getElem? (i := 30) rfl))) (Or.inl (hw _ (List.mem_of_getElem? (i := 26) rfl))) (by decide) (t := .long) (t' := .int) (by decide) (by decide)))
    obtain ⟨T16, h16, X16, e16, W16, st16⟩ := putF X7 hx hZ hown (host := "") (Or.inl (hw _ (List.mem_of_getElem? (i := 27) rfl))) Via.refl e7 f14 f9 (Or.inl (hw _ (List.mem_of_getElem? (i := 28) rfl))) (hw _ (List.mem_of_getElem? (i := 8) rfl)) (ty := .long) (by decide) rfl rfl (g := (mkF m 27 #[.val (.ref ra), .val (.int iv), .val (.long cv), .second, .val (.long ov), .second] [(.long cv), (.ref ra)])) rfl rfl (hb hby d4_27)
    have N16 := Fr.snoc X16 N7 g_ra
    have Z16 : n0 ≤ h16.size := Nat.le_trans Z7 (Keep.of_wr W16).1
    have K16 : Keep h0 h16 [ra] := K7.wr W16 (Or.inl (List.mem_of_getElem? (i := 0) rfl))
    have f17 : Fld Z h16 ra "skipstitch/search/PrefixTableScan" "comparisons" "J" (.long cv) := f14.same W16
    have f18 : Exa Z h16 ra "skipstitch/search/PrefixTableScan" := f9.wr W16
    have f19 : Fld Z h16 ra "skipstitch/search/PrefixTableScan" "pattern" "[B" (.ref rp) := f10.other W16 (Or.inr (slot_ne (Or.inr (hw _ (List.mem_of_getElem? (i := 17) rfl))) (Or.inl (hw _ (List.mem_of_getElem? (i := 28) rfl))) (by decide) (t := (.array .byte)) (t' := .long) (by decide) (by decide)))
    have f20 : Fld Z h16 ra "skipstitch/search/PrefixTableScan" "table" "[I" (.ref rt) := f11.other W16 (Or.inr (slot_ne (Or.inr (hw _ (List.mem_of_getElem? (i := 19) rfl))) (Or.inl (hw _ (List.mem_of_getElem? (i := 28) rfl))) (by decide) (t := (.array .int)) (t' := .long) (by decide) (by decide)))
    have f21 : AI Z h16 rp .byte 1 fp := f12.other W16 (Ne.symm ne_ra_rp)
    have f22 : AI Z h16 rt .int 1 fq := f13.other W16 (Ne.symm ne_ra_rt)
    have f23 : Fld Z h16 ra "skipstitch/search/PrefixTableScan" "matched" "I" (.int (fq 0)) := f8.other W16 (Or.inr (slot_ne (Or.inl (hw _ (List.mem_of_getElem? (i := 26) rfl))) (Or.inl (hw _ (List.mem_of_getElem? (i := 28) rfl))) (by decide) (t := .int) (t' := .long) (by decide) (by decide)))
    have f24 : Fld Z h16 ra "skipstitch/search/PrefixTableScan" "occurrences" "J" (.long u_occurrences_ra) := f15.other W16 (Or.inr (slot_ne (Or.inl (hw _ (List.mem_of_getElem? (i := 30) rfl))) (Or.inl (hw _ (List.mem_of_getElem? (i := 28) rfl))) (by decide) (t := .long) (t' := .long) (by decide) (by decide)))
    obtain ⟨T25, h25, X25, e25, W25, st25⟩ := putF X16 hx hZ hown (host := "") (Or.inl (hw _ (List.mem_of_getElem? (i := 29) rfl))) Via.refl e16 f24 f18 (Or.inl (hw _ (List.mem_of_getElem? (i := 30) rfl))) (hw _ (List.mem_of_getElem? (i := 8) rfl)) (ty := .long) (by decide) rfl rfl (g := (mkF m 33 #[.val (.ref ra), .val (.int iv), .val (.long cv), .second, .val (.long ov), .second] [(.long ov), (.ref ra)])) rfl rfl (hb hby d4_33)
    have N25 := Fr.snoc X25 N16 g_ra
    have Z25 : n0 ≤ h25.size := Nat.le_trans Z16 (Keep.of_wr W25).1
    have K25 : Keep h0 h25 [ra] := K16.wr W25 (Or.inl (List.mem_of_getElem? (i := 0) rfl))
    have f26 : Fld Z h25 ra "skipstitch/search/PrefixTableScan" "occurrences" "J" (.long ov) := f24.same W25
    have f27 : Exa Z h25 ra "skipstitch/search/PrefixTableScan" := f18.wr W25
    have f28 : Fld Z h25 ra "skipstitch/search/PrefixTableScan" "pattern" "[B" (.ref rp) := f19.other W25 (Or.inr (slot_ne (Or.inr (hw _ (List.mem_of_getElem? (i := 17) rfl))) (Or.inl (hw _ (List.mem_of_getElem? (i := 30) rfl))) (by decide) (t := (.array .byte)) (t' := .long) (by decide) (by decide)))
    have f29 : Fld Z h25 ra "skipstitch/search/PrefixTableScan" "table" "[I" (.ref rt) := f20.other W25 (Or.inr (slot_ne (Or.inr (hw _ (List.mem_of_getElem? (i := 19) rfl))) (Or.inl (hw _ (List.mem_of_getElem? (i := 30) rfl))) (by decide) (t := (.array .int)) (t' := .long) (by decide) (by decide)))
    have f30 : AI Z h25 rp .byte 1 fp := f21.other W25 (Ne.symm ne_ra_rp)
    have f31 : AI Z h25 rt .int 1 fq := f22.other W25 (Ne.symm ne_ra_rt)
    have f32 : Fld Z h25 ra "skipstitch/search/PrefixTableScan" "matched" "I" (.int (fq 0)) := f23.other W25 (Or.inr (slot_ne (Or.inl (hw _ (List.mem_of_getElem? (i := 26) rfl))) (Or.inl (hw _ (List.mem_of_getElem? (i := 30) rfl))) (by decide) (t := .int) (t' := .long) (by decide) (by decide)))
    have f33 : Fld Z h25 ra "skipstitch/search/PrefixTableScan" "comparisons" "J" (.long cv) := f17.other W25 (Or.inr (slot_ne (Or.inl (hw _ (List.mem_of_getElem? (i := 28) rfl))) (Or.inl (hw _ (List.mem_of_getElem? (i := 30) rfl))) (by decide) (t := .long) (t' := .long) (by decide) (by decide)))
    obtain ⟨fs, hr, hrun, hended, hW, hsame⟩ := X25.leave (v := none) (fun _ => rfl)
    refine ⟨_, _, pre3 _ ?_, hrun, hended, _, _, rfl, ?_, ⟨_, rfl⟩, hW, hsame.mono (by decide) (by decide)⟩
    · show Steps p.tables e below (T1.setTop (mkF m 7 #[.val (.ref ra), .val (.int iv), .val (.long cv), .second, .val (.long ov), .second] [(.int (1 : Int32)), (.int iv), (.ref ra)])) _
      refine XS.icmpNo X1.here hx rfl (hb hby d4_7) rfl (teq hk4).2 ?_
      show Steps p.tables e below (T1.setTop (mkF m 10 #[.val (.ref ra), .val (.int iv), .val (.long cv), .second, .val (.long ov), .second] [(.ref ra)])) _
      refine XS.aloadN X1.here hx rfl (hb hby d4_10) rfl rfl ?_
      show Steps p.tables e below (T1.setTop (mkF m 11 #[.val (.ref ra), .val (.int iv), .val (.long cv), .second, .val (.long ov), .second] [(.ref ra), (.ref ra)])) _
      refine st5 _ ?_
      show Steps p.tables e below (T5.setTop (mkF m 14 #[.val (.ref ra), .val (.int iv), .val (.long cv), .second, .val (.long ov), .second] [(.ref rt), (.ref ra)])) _
      refine XS.iloadN X5.here hx rfl (hb hby d4_14) rfl ?_
      show Steps p.tables e below (T5.setTop (mkF m 15 #[.val (.ref ra), .val (.int iv), .val (.long cv), .second, .val (.long ov), .second] [(.int iv), (.ref rt), (.ref ra)])) _
      refine XS.iconst X5.here hx rfl (hb hby d4_15) ?_
      show Steps p.tables e below (T5.setTop (mkF m 16 #[.val (.ref ra), .val (.int iv), .val (.long cv), .second, .val (.long ov), .second] [(.int (1 : Int32)), (.int iv), (.ref rt), (.ref ra)])) _
      refine XS.isub X5.here hx rfl (hb hby d4_16) rfl ?_
      show Steps p.tables e below (T5.setTop (mkF m 17 #[.val (.ref ra), .val (.int iv), .val (.long cv), .second, .val (.long ov), .second] [(.int (iv - (1 : Int32))), (.ref rt), (.ref ra)])) _
      refine X5.iaload hx (j := (iv - (1 : Int32))) (v := (.int (fq 0))) (by rw [e5]; exact Arcl6.1) (State.isArrayOf_alike hZ.alike Arcl6.2.1) Arcl6.2.2 hincl6 hatcl6 (g := (mkF m 17 #[.val (.ref ra), .val (.int iv), .val (.long cv), .second, .val (.long ov), .second] [(.int (iv - (1 : Int32))), (.ref rt), (.ref ra)])) rfl rfl (hb hby d4_17) _ ?_
      show Steps p.tables e below (T5.setTop (mkF m 18 #[.val (.ref ra), .val (.int iv), .val (.long cv), .second, .val (.long ov), .second] [(.int (fq 0)), (.ref ra)])) _
      refine XS.goto X5.here hx rfl (pc0 := 18) (pc' := 22) rfl (hb hby d4_18) (by decide) (by decide) ?_
      show Steps p.tables e below (T5.setTop (mkF m 22 #[.val (.ref ra), .val (.int iv), .val (.long cv), .second, .val (.long ov), .second] [(.int (fq 0)), (.ref ra)])) _
      refine st7 _ ?_
      show Steps p.tables e below (T7.setTop (mkF m 25 #[.val (.ref ra), .val (.int iv), .val (.long cv), .second, .val (.long ov), .second] [])) _
      refine XS.aloadN X7.here hx rfl (hb hby d4_25) rfl rfl ?_
      show Steps p.tables e below (T7.setTop (mkF m 26 #[.val (.ref ra), .val (.int iv), .val (.long cv), .second, .val (.long ov), .second] [(.ref ra)])) _
      refine XS.lloadN X7.here hx rfl (hb hby d4_26) rfl ?_
      show Steps p.tables e below (T7.setTop (mkF m 27 #[.val (.ref ra), .val (.int iv), .val (.long cv), .second, .val (.long ov), .second] [(.long cv), (.ref ra)])) _
      refine st16 _ ?_
      show Steps p.tables e below (T16.setTop (mkF m 30 #[.val (.ref ra), .val (.int iv), .val (.long cv), .second, .val (.long ov), .second] [])) _
      refine XS.aloadN X16.here hx rfl (hb hby d4_30) rfl rfl ?_
      show Steps p.tables e below (T16.setTop (mkF m 31 #[.val (.ref ra), .val (.int iv), .val (.long cv), .second, .val (.long ov), .second] [(.ref ra)])) _
      refine XS.lload X16.here hx rfl (hb hby d4_31) rfl ?_
      show Steps p.tables e below (T16.setTop (mkF m 33 #[.val (.ref ra), .val (.int iv), .val (.long cv), .second, .val (.long ov), .second] [(.long ov), (.ref ra)])) _
      refine st25 _ ?_
      show Steps p.tables e below (T25.setTop (mkF m 36 #[.val (.ref ra), .val (.int iv), .val (.long cv), .second, .val (.long ov), .second] [])) _
      exact X25.returnOut hx Bd.returns (hb hby d4_36) hr
    · show Q4k1 Z ra iv cv ov rp rt fp fq u_matched_ra u_comparisons_ra u_occurrences_ra h0 n0 _ T25.heap _
      rw [e25]
      have ev61 : (r4k1_matched iv fq) = (fq 0) := by unfold r4k1_matched; rw [if_pos hk4]
      exact ⟨rfl, N25, K25, f28, f29, (by rw [ev61]; exact f32), f33, f26⟩
  · obtain ⟨T34, h34, X34, e34, W34, st34⟩ := putF X1 hx hZ hown (host := "") (Or.inl (hw _ (List.mem_of_getElem? (i := 25) rfl))) Via.refl e1 F_matched_ra E_ra (Or.inl (hw _ (List.mem_of_getElem? (i := 26) rfl))) (hw _ (List.mem_of_getElem? (i := 8) rfl)) (ty := .int) (by decide) rfl rfl (g := (mkF m 22 #[.val (.ref ra), .val (.int iv), .val (.long cv), .second, .val (.long ov), .second] [(.int iv), (.ref ra)])) rfl rfl (hb hby d4_22)
    have N34 := Fr.snoc X34 N0 g_ra
    have Z34 : n0 ≤ h34.size := Nat.le_trans Z0 (Keep.of_wr W34).1
    have K34 : Keep h0 h34 [ra] := K0.wr W34 (Or.inl (List.mem_of_getElem? (i := 0) rfl))
    have f35 : Fld Z h34 ra "skipstitch/search/PrefixTableScan" "matched" "I" (.int iv) := F_matched_ra.same W34
    have f36 : Exa Z h34 ra "skipstitch/search/PrefixTableScan" := E_ra.wr W34
    have f37 : Fld Z h34 ra "skipstitch/search/PrefixTableScan" "pattern" "[B" (.ref rp) := F_pattern_ra.other W34 (Or.inr (slot_ne (Or.inr (hw _ (List.mem_of_getElem? (i := 17) rfl))) (Or.inl (hw _ (List.mem_of_getElem? (i := 26) rfl))) (by decide) (t := (.array .byte)) (t' := .int) (by decide) (by decide)))
    have f38 : Fld Z h34 ra "skipstitch/search/PrefixTableScan" "table" "[I" (.ref rt) := F_table_ra.other W34 (Or.inr (slot_ne (Or.inr (hw _ (List.mem_of_getElem? (i := 19) rfl))) (Or.inl (hw _ (List.mem_of_getElem? (i := 26) rfl))) (by decide) (t := (.array .int)) (t' := .int) (by decide) (by decide)))
    have f39 : AI Z h34 rp .byte 1 fp := A_rp.other W34 (Ne.symm ne_ra_rp)
    have f40 : AI Z h34 rt .int 1 fq := A_rt.other W34 (Ne.symm ne_ra_rt)
    have f41 : Fld Z h34 ra "skipstitch/search/PrefixTableScan" "comparisons" "J" (.long u_comparisons_ra) := F_comparisons_ra.other W34 (Or.inr (slot_ne (Or.inl (hw _ (List.mem_of_getElem? (i := 28) rfl))) (Or.inl (hw _ (List.mem_of_getElem? (i := 26) rfl))) (by decide) (t := .long) (t' := .int) (by decide) (by decide)))
    have f42 : Fld Z h34 ra "skipstitch/search/PrefixTableScan" "occurrences" "J" (.long u_occurrences_ra) := F_occurrences_ra.other W34 (Or.inr (slot_ne (Or.inl (hw _ (List.mem_of_getElem? (i := 30) rfl))) (Or.inl (hw _ (List.mem_of_getElem? (i := 26) rfl))) (by decide) (t := .long) (t' := .int) (by decide) (by decide)))
    obtain ⟨T43, h43, X43, e43, W43, st43⟩ := putF X34 hx hZ hown (host := "") (Or.inl (hw _ (List.mem_of_getElem? (i := 27) rfl))) Via.refl e34 f41 f36 (Or.inl (hw _ (List.mem_of_getElem? (i := 28) rfl))) (hw _ (List.mem_of_getElem? (i := 8) rfl)) (ty := .long) (by decide) rfl rfl (g := (mkF m 27 #[.val (.ref ra), .val (.int iv), .val (.long cv), .second, .val (.long ov), .second] [(.long cv), (.ref ra)])) rfl rfl (hb hby d4_27)
    have N43 := Fr.snoc X43 N34 g_ra
    have Z43 : n0 ≤ h43.size := Nat.le_trans Z34 (Keep.of_wr W43).1
    have K43 : Keep h0 h43 [ra] := K34.wr W43 (Or.inl (List.mem_of_getElem? (i := 0) rfl))
    have f44 : Fld Z h43 ra "skipstitch/search/PrefixTableScan" "comparisons" "J" (.long cv) := f41.same W43
    have f45 : Exa Z h43 ra "skipstitch/search/PrefixTableScan" := f36.wr W43
    have f46 : Fld Z h43 ra "skipstitch/search/PrefixTableScan" "pattern" "[B" (.ref rp) := f37.other W43 (Or.inr (slot_ne (Or.inr (hw _ (List.mem_of_getElem? (i := 17) rfl))) (Or.inl (hw _ (List.mem_of_getElem? (i := 28) rfl))) (by decide) (t := (.array .byte)) (t' := .long) (by decide) (by decide)))
    have f47 : Fld Z h43 ra "skipstitch/search/PrefixTableScan" "table" "[I" (.ref rt) := f38.other W43 (Or.inr (slot_ne (Or.inr (hw _ (List.mem_of_getElem? (i := 19) rfl))) (Or.inl (hw _ (List.mem_of_getElem? (i := 28) rfl))) (by decide) (t := (.array .int)) (t' := .long) (by decide) (by decide)))
    have f48 : AI Z h43 rp .byte 1 fp := f39.other W43 (Ne.symm ne_ra_rp)
    have f49 : AI Z h43 rt .int 1 fq := f40.other W43 (Ne.symm ne_ra_rt)
    have f50 : Fld Z h43 ra "skipstitch/search/PrefixTableScan" "matched" "I" (.int iv) := f35.other W43 (Or.inr (slot_ne (Or.inl (hw _ (List.mem_of_getElem? (i := 26) rfl))) (Or.inl (hw _ (List.mem_of_getElem? (i := 28) rfl))) (by decide) (t := .int) (t' := .long) (by decide) (by decide)))
    have f51 : Fld Z h43 ra "skipstitch/search/PrefixTableScan" "occurrences" "J" (.long u_occurrences_ra) := f42.other W43 (Or.inr (slot_ne (Or.inl (hw _ (List.mem_of_getElem? (i := 30) rfl))) (Or.inl (hw _ (List.mem_of_getElem? (i := 28) rfl))) (by decide) (t := .long) (t' := .long) (by decide) (by decide)))
    obtain ⟨T52, h52, X52, e52, W52, st52⟩ := putF X43 hx hZ hown (host := "") (Or.inl (hw _ (List.mem_of_getElem? (i := 29) rfl))) Via.refl e43 f51 f45 (Or.inl (hw _ (List.mem_of_getElem? (i := 30) rfl))) (hw _ (List.mem_of_getElem? (i := 8) rfl)) (ty := .long) (by decide) rfl rfl (g := (mkF m 33 #[.val (.ref ra), .val (.int iv), .val (.long cv), .second, .val (.long ov), .second] [(.long ov), (.ref ra)])) rfl rfl (hb hby d4_33)
    have N52 := Fr.snoc X52 N43 g_ra
    have Z52 : n0 ≤ h52.size := Nat.le_trans Z43 (Keep.of_wr W52).1
    have K52 : Keep h0 h52 [ra] := K43.wr W52 (Or.inl (List.mem_of_getElem? (i := 0) rfl))
    have f53 : Fld Z h52 ra "skipstitch/search/PrefixTableScan" "occurrences" "J" (.long ov) := f51.same W52
    have f54 : Exa Z h52 ra "skipstitch/search/PrefixTableScan" := f45.wr W52
    have f55 : Fld Z h52 ra "skipstitch/search/PrefixTableScan" "pattern" "[B" (.ref rp) := f46.other W52 (Or.inr (slot_ne (Or.inr (hw _ (List.mem_of_getElem? (i := 17) rfl))) (Or.inl (hw _ (List.mem_of_getElem? (i := 30) rfl))) (by decide) (t := (.array .byte)) (t' := .long) (by decide) (by decide)))
    have f56 : Fld Z h52 ra "skipstitch/search/PrefixTableScan" "table" "[I" (.ref rt) := f47.other W52 (Or.inr (slot_ne (Or.inr (hw _ (List.mem_of_getElem? (i := 19) rfl))) (Or.inl (hw _ (List.mem_of_getElem? (i := 30) rfl))) (by decide) (t := (.array .int)) (t' := .long) (by decide) (by decide)))
    have f57 : AI Z h52 rp .byte 1 fp := f48.other W52 (Ne.symm ne_ra_rp)
    have f58 : AI Z h52 rt .int 1 fq := f49.other W52 (Ne.symm ne_ra_rt)
    have f59 : Fld Z h52 ra "skipstitch/search/PrefixTableScan" "matched" "I" (.int iv) := f50.other W52 (Or.inr (slot_ne (Or.inl (hw _ (List.mem_of_getElem? (i := 26) rfl))) (Or.inl (hw _ (List.mem_of_getElem? (i := 30) rfl))) (by decide) (t := .int) (t' := .long) (by decide) (by decide)))
    have f60 : Fld Z h52 ra "skipstitch/search/PrefixTableScan" "comparisons" "J" (.long cv) := f44.other W52 (Or.inr (slot_ne (Or.inl (hw _ (List.mem_of_getElem? (i := 28) rfl))) (Or.inl (hw _ (List.mem_of_getElem? (i := 30) rfl))) (by decide) (t := .long) (t' := .long) (by decide) (by decide)))
    obtain ⟨fs, hr, hrun, hended, hW, hsame⟩ := X52.leave (v := none) (fun _ => rfl)
    refine ⟨_, _, pre3 _ ?_, hrun, hended, _, _, rfl, ?_, ⟨_, rfl⟩, hW, hsame.mono (by decide) (by decide)⟩
    · show Steps p.tables e below (T1.setTop (mkF m 7 #[.val (.ref ra), .val (.int iv), .val (.long cv), .second, .val (.long ov), .second] [(.int (1 : Int32)), (.int iv), (.ref ra)])) _
      refine XS.icmpYes X1.here hx rfl (pc0 := 7) (pc' := 21) rfl (hb hby d4_7) rfl (feq hk4).2 (by decide) (by decide) ?_
      show Steps p.tables e below (T1.setTop (mkF m 21 #[.val (.ref ra), .val (.int iv), .val (.long cv), .second, .val (.long ov), .second] [(.ref ra)])) _
      refine XS.iloadN X1.here hx rfl (hb hby d4_21) rfl ?_
      show Steps p.tables e below (T1.setTop (mkF m 22 #[.val (.ref ra), .val (.int iv), .val (.long cv), .second, .val (.long ov), .second] [(.int iv), (.ref ra)])) _
      refine st34 _ ?_
      show Steps p.tables e below (T34.setTop (mkF m 25 #[.val (.ref ra), .val (.int iv), .val (.long cv), .second, .val (.long ov), .second] [])) _
      refine XS.aloadN X34.here hx rfl (hb hby d4_25) rfl rfl ?_
      show Steps p.tables e below (T34.setTop (mkF m 26 #[.val (.ref ra), .val (.int iv), .val (.long cv), .second, .val (.long ov), .second] [(.ref ra)])) _
      refine XS.lloadN X34.here hx rfl (hb hby d4_26) rfl ?_
      show Steps p.tables e below (T34.setTop (mkF m 27 #[.val (.ref ra), .val (.int iv), .val (.long cv), .second, .val (.long ov), .second] [(.long cv), (.ref ra)])) _
      refine st43 _ ?_
      show Steps p.tables e below (T43.setTop (mkF m 30 #[.val (.ref ra), .val (.int iv), .val (.long cv), .second, .val (.long ov), .second] [])) _
      refine XS.aloadN X43.here hx rfl (hb hby d4_30) rfl rfl ?_
      show Steps p.tables e below (T43.setTop (mkF m 31 #[.val (.ref ra), .val (.int iv), .val (.long cv), .second, .val (.long ov), .second] [(.ref ra)])) _
      refine XS.lload X43.here hx rfl (hb hby d4_31) rfl ?_
      show Steps p.tables e below (T43.setTop (mkF m 33 #[.val (.ref ra), .val (.int iv), .val (.long cv), .second, .val (.long ov), .second] [(.long ov), (.ref ra)])) _
      refine st52 _ ?_
      show Steps p.tables e below (T52.setTop (mkF m 36 #[.val (.ref ra), .val (.int iv), .val (.long cv), .second, .val (.long ov), .second] [])) _
      exact X52.returnOut hx Bd.returns (hb hby d4_36) hr
    · show Q4k1 Z ra iv cv ov rp rt fp fq u_matched_ra u_comparisons_ra u_occurrences_ra h0 n0 _ T52.heap _
      rw [e52]
      have ev62 : (r4k1_matched iv fq) = iv := by unfold r4k1_matched; rw [if_neg hk4]
      exact ⟨rfl, N52, K52, f55, f56, (by rw [ev62]; exact f59), f60, f53⟩
theorem ef_4k2 (m : MethodId) (ra : Addr) (iv : Int32) (cv : Int64) (ov : Int64) : entryFrame m #[(.ref ra), (.int iv), (.long cv), (.long ov)] 6 = mkF m 0 #[.val (.ref ra), .val (.int iv), .val (.long cv), .second, .val (.long ov), .second] [] := by first | (simp [entryFrame, mkF, argsToLocals, Value.category]; done) | rfl
def r4k2_matched (iv : Int32) (fq : Nat → Int32) : Int32 := (if iv = (2 : Int32) then (fq 1) else iv)
def Q4k2 (Z : State) (ra : Addr) (iv : Int32) (cv : Int64) (ov : Int64) (rp : Addr) (rt : Addr) (fp : Nat → Int32) (fq : Nat → Int32) (u_matched_ra : Int32) (u_comparisons_ra : Int64) (u_occurrences_ra : Int64) (h0 : Heap) (n0 : Nat) (v : Option Value) (h : Heap) (L : List Loc) : Prop := v = none ∧ Fr n0 L ∧ Keep h0 h [ra] ∧ Fld Z h ra "skipstitch/search/PrefixTableScan" "pattern" "[B" (.ref rp) ∧ Fld Z h ra "skipstitch/search/PrefixTableScan" "table" "[I" (.ref rt) ∧ Fld Z h ra "skipstitch/search/PrefixTableScan" "matched" "I" (.int (r4k2_matched iv fq)) ∧ Fld Z h ra "skipstitch/search/PrefixTableScan" "comparisons" "J" (.long cv) ∧ Fld Z h ra "skipstitch/search/PrefixTableScan" "occurrences" "J" (.long ov)
set_option maxRecDepth 65536 in
set_option maxHeartbeats 40000000 in
theorem rm4k2 (l : Launch) (Z : State) (a0 : Array Value) (hw : ∀ d ∈ tables_1, d.before a0 Z = true) (ws : List Jvm.Cond) (ra : Addr) (iv : Int32) (cv : Int64) (ov : Int64) (rp : Addr) (rt : Addr) (fp : Nat → Int32) (fq : Nat → Int32) (u_matched_ra : Int32) (u_comparisons_ra : Int64) (u_occurrences_ra : Int64) (h0 : Heap) (n0 : Nat) (Z0 : n0 ≤ h0.size) (E_ra : Exa Z h0 ra "skipstitch/search/PrefixTableScan") (F_pattern_ra : Fld Z h0 ra "skipstitch/search/PrefixTableScan" "pattern" "[B" (.ref rp)) (F_table_ra : Fld Z h0 ra "skipstitch/search/PrefixTableScan" "table" "[I" (.ref rt)) (A_rp : AI Z h0 rp .byte 2 fp) (A_rt : AI Z h0 rt .int 2 fq) (ne_ra_rp : ra ≠ rp) (ne_ra_rt : ra ≠ rt) (F_matched_ra : Fld Z h0 ra "skipstitch/search/PrefixTableScan" "matched" "I" (.int u_matched_ra)) (F_comparisons_ra : Fld Z h0 ra "skipstitch/search/PrefixTableScan" "comparisons" "J" (.long u_comparisons_ra)) (F_occurrences_ra : Fld Z h0 ra "skipstitch/search/PrefixTableScan" "occurrences" "J" (.long u_occurrences_ra)) (g_ra : n0 ≤ ra) :
    MetFree l (⟨"skipstitch/search/PrefixTableScan", "resume", "(IJJ)V"⟩ : MethodName) (head1 (Jvm.Cond.code (⟨"skipstitch/search/PrefixTableScan", "resume", "(IJJ)V"⟩ : MethodName) prog_30_method_4_code 6 none :: ws) ({ frames := 0, cells := 0, slots := 0, locals := 0 } : Room)) (fun a U => a = #[(.ref ra), (.int iv), (.long cv), (.long ov)] ∧ Z.Warmed39 U.vm ∧ U.heap = h0) (fun _ _ _ _ _ => True) (fun _ U o U' => ∃ v L, o = .returned v ∧ Q4k2 Z ra iv cv ov rp rt fp fq u_matched_ra u_comparisons_ra u_occurrences_ra h0 n0 v U'.heap L ∧ FrameEnd U o U' L ({ frames := 0, cells := 0, slots := 0, locals := 0 } : Room).cells ({ frames := 0, cells := 0, slots := 0, locals := 0 } : Room).slots) := by
  refine MetFree.of_bodySF (plainFor_of_name pn_skipstitch_search_PrefixTableScan) hisR ?_
  intro p e s m args below meth c s₁ Bd hml0 hP hK
  obtain ⟨rfl, hZ, hh⟩ := hP
  have hx := Bd.exec
  have hby := Bd.bytes
  have hml : c.maxLocals = 6 := hml0
  have hown : s.vm.findClass "skipstitch/search/PrefixTableScan" = some m.cls := findClass_of_methodNamed Bd.named
  have hnm := (name_of_methodNamed Bd.named Bd.method).1
  have X0 : Stand p l e ({ frames := 0, cells := 0, slots := 0, locals := 0 } : Room) s m #[(.ref ra), (.int iv), (.long cv), (.long ov)] below meth c s₁ [] 0 0 := Stand.of_body Bd
  have e0 : s₁.heap = h0 := by rw [← hh, Bd.state]; rfl
  have N0 := Fr.nil n0
  have K0 : Keep h0 h0 [ra] := Keep.refl h0 _
  have pre0 : ∀ t, Steps p.tables e below (s₁.setTop (mkF m 0 #[.val (.ref ra), .val (.int iv), .val (.long cv), .second, .val (.long ov), .second] [])) t → Steps p.tables e below (s₁.setTop (entryFrame m #[(.ref ra), (.int iv), (.long cv), (.long ov)] 6)) t := fun t k => castTop (ef_4k2 m ra iv cv ov) k
  obtain ⟨T1, X1, e1, st1⟩ := getF X0 hx hZ hown (host := "") (Or.inl (hw _ (List.mem_of_getElem? (i := 16) rfl))) Via.refl e0 F_pattern_ra (g := (mkF m 3 #[.val (.ref ra), .val (.int iv), .val (.long cv), .second, .val (.long ov), .second] [(.ref ra), (.int iv), (.ref ra)])) rfl rfl (hb hby d4_3)
  obtain ⟨cl2, Arcl2, Szcl2⟩ := AF.len A_rp
  have pre3 : ∀ t, Steps p.tables e below (T1.setTop (mkF m 7 #[.val (.ref ra), .val (.int iv), .val (.long cv), .second, .val (.long ov), .second] [(.int (2 : Int32)), (.int iv), (.ref ra)])) t → Steps p.tables e below (s₁.setTop (entryFrame m #[(.ref ra), (.int iv), (.long cv), (.long ov)] 6)) t := by
    intro t k
    refine pre0 _ ?_
    show Steps p.tables e below (s₁.setTop (mkF m 0 #[.val (.ref ra), .val (.int iv), .val (.long cv), .second, .val (.long ov), .second] [])) _
    refine XS.aloadN X0.here hx rfl (hb hby d4_0) rfl rfl ?_
    show Steps p.tables e below (s₁.setTop (mkF m 1 #[.val (.ref ra), .val (.int iv), .val (.long cv), .second, .val (.long ov), .second] [(.ref ra)])) _
    refine XS.iloadN X0.here hx rfl (hb hby d4_1) rfl ?_
    show Steps p.tables e below (s₁.setTop (mkF m 2 #[.val (.ref ra), .val (.int iv), .val (.long cv), .second, .val (.long ov), .second] [(.int iv), (.ref ra)])) _
    refine XS.aloadN X0.here hx rfl (hb hby d4_2) rfl rfl ?_
    show Steps p.tables e below (s₁.setTop (mkF m 3 #[.val (.ref ra), .val (.int iv), .val (.long cv), .second, .val (.long ov), .second] [(.ref ra), (.int iv), (.ref ra)])) _
    refine st1 _ ?_
    show Steps p.tables e below (T1.setTop (mkF m 6 #[.val (.ref ra), .val (.int iv), .val (.long cv), .second, .val (.long ov), .second] [(.ref rp), (.int iv), (.ref ra)])) _
    refine X1.arraylength hx (by rw [e1]; exact Arcl2.1) (State.isArrayOf_alike hZ.alike Arcl2.2.1) (g := (mkF m 6 #[.val (.ref ra), .val (.int iv), .val (.long cv), .second, .val (.long ov), .second] [(.ref rp), (.int iv), (.ref ra)])) rfl rfl (hb hby d4_6) _ ?_
    rw [Szcl2]
    exact k
  by_cases hk4 : iv = (2 : Int32)
  · obtain ⟨T5, X5, e5, st5⟩ := getF X1 hx hZ hown (host := "") (Or.inl (hw _ (List.mem_of_getElem? (i := 18) rfl))) Via.refl e1 F_table_ra (g := (mkF m 11 #[.val (.ref ra), .val (.int iv), .val (.long cv), .second, .val (.long ov), .second] [(.ref ra), (.ref ra)])) rfl rfl (hb hby d4_11)
    obtain ⟨cl6, Arcl6, hincl6, hatcl6⟩ := AF.at A_rt (j := (iv - (1 : Int32))) 1 (by rw [hk4]; decide) (by decide)
    obtain ⟨T7, h7, X7, e7, W7, st7⟩ := putF X5 hx hZ hown (host := "") (Or.inl (hw _ (List.mem_of_getElem? (i := 25) rfl))) Via.refl e5 F_matched_ra E_ra (Or.inl (hw _ (List.mem_of_getElem? (i := 26) rfl))) (hw _ (List.mem_of_getElem? (i := 8) rfl)) (ty := .int) (by decide) rfl rfl (g := (mkF m 22 #[.val (.ref ra), .val (.int iv), .val (.long cv), .second, .val (.long ov), .second] [(.int (fq 1)), (.ref ra)])) rfl rfl (hb hby d4_22)
    have N7 := Fr.snoc X7 N0 g_ra
    have Z7 : n0 ≤ h7.size := Nat.le_trans Z0 (Keep.of_wr W7).1
    have K7 : Keep h0 h7 [ra] := K0.wr W7 (Or.inl (List.mem_of_getElem? (i := 0) rfl))
    have f8 : Fld Z h7 ra "skipstitch/search/PrefixTableScan" "matched" "I" (.int (fq 1)) := F_matched_ra.same W7
    have f9 : Exa Z h7 ra "skipstitch/search/PrefixTableScan" := E_ra.wr W7
    have f10 : Fld Z h7 ra "skipstitch/search/PrefixTableScan" "pattern" "[B" (.ref rp) := F_pattern_ra.other W7 (Or.inr (slot_ne (Or.inr (hw _ (List.mem_of_getElem? (i := 17) rfl))) (Or.inl (hw _ (List.mem_of_getElem? (i := 26) rfl))) (by decide) (t := (.array .byte)) (t' := .int) (by decide) (by decide)))
    have f11 : Fld Z h7 ra "skipstitch/search/PrefixTableScan" "table" "[I" (.ref rt) := F_table_ra.other W7 (Or.inr (slot_ne (Or.inr (hw _ (List.mem_of_getElem? (i := 19) rfl))) (Or.inl (hw _ (List.mem_of_getElem? (i := 26) rfl))) (by decide) (t := (.array .int)) (t' := .int) (by decide) (by decide)))
    have f12 : AI Z h7 rp .byte 2 fp := A_rp.other W7 (Ne.symm ne_ra_rp)
    have f13 : AI Z h7 rt .int 2 fq := A_rt.other W7 (Ne.symm ne_ra_rt)
    have f14 : Fld Z h7 ra "skipstitch/search/PrefixTableScan" "comparisons" "J" (.long u_comparisons_ra) := F_comparisons_ra.other W7 (Or.inr (slot_ne (Or.inl (hw _ (List.mem_of_getElem? (i := 28) rfl))) (Or.inl (hw _ (List.mem_of_getElem? (i := 26) rfl))) (by decide) (t := .long) (t' := .int) (by decide) (by decide)))
    have f15 : Fld Z h7 ra "skipstitch/search/PrefixTableScan" "occurrences" "J" (.long u_occurrences_ra) := F_occurrences_ra.other W7 (Or.inr (slot_ne (Or.inl (hw _ (List.mem_of_getElem? (i := 30) rfl))) (Or.inl (hw _ (List.mem_of_getElem? (i := 26) rfl))) (by decide) (t := .long) (t' := .int) (by decide) (by decide)))
    obtain ⟨T16, h16, X16, e16, W16, st16⟩ := putF X7 hx hZ hown (host := "") (Or.inl (hw _ (List.mem_of_getElem? (i := 27) rfl))) Via.refl e7 f14 f9 (Or.inl (hw _ (List.mem_of_getElem? (i := 28) rfl))) (hw _ (List.mem_of_getElem? (i := 8) rfl)) (ty := .long) (by decide) rfl rfl (g := (mkF m 27 #[.val (.ref ra), .val (.int iv), .val (.long cv), .second, .val (.long ov), .second] [(.long cv), (.ref ra)])) rfl rfl (hb hby d4_27)
    have N16 := Fr.snoc X16 N7 g_ra
    have Z16 : n0 ≤ h16.size := Nat.le_trans Z7 (Keep.of_wr W16).1
    have K16 : Keep h0 h16 [ra] := K7.wr W16 (Or.inl (List.mem_of_getElem? (i := 0) rfl))
    have f17 : Fld Z h16 ra "skipstitch/search/PrefixTableScan" "comparisons" "J" (.long cv) := f14.same W16
    have f18 : Exa Z h16 ra "skipstitch/search/PrefixTableScan" := f9.wr W16
    have f19 : Fld Z h16 ra "skipstitch/search/PrefixTableScan" "pattern" "[B" (.ref rp) := f10.other W16 (Or.inr (slot_ne (Or.inr (hw _ (List.mem_of_getElem? (i := 17) rfl))) (Or.inl (hw _ (List.mem_of_getElem? (i := 28) rfl))) (by decide) (t := (.array .byte)) (t' := .long) (by decide) (by decide)))
    have f20 : Fld Z h16 ra "skipstitch/search/PrefixTableScan" "table" "[I" (.ref rt) := f11.other W16 (Or.inr (slot_ne (Or.inr (hw _ (List.mem_of_getElem? (i := 19) rfl))) (Or.inl (hw _ (List.mem_of_getElem? (i := 28) rfl))) (by decide) (t := (.array .int)) (t' := .long) (by decide) (by decide)))
    have f21 : AI Z h16 rp .byte 2 fp := f12.other W16 (Ne.symm ne_ra_rp)
    have f22 : AI Z h16 rt .int 2 fq := f13.other W16 (Ne.symm ne_ra_rt)
    have f23 : Fld Z h16 ra "skipstitch/search/PrefixTableScan" "matched" "I" (.int (fq 1)) := f8.other W16 (Or.inr (slot_ne (Or.inl (hw _ (List.mem_of_getElem? (i := 26) rfl))) (Or.inl (hw _ (List.mem_of_getElem? (i := 28) rfl))) (by decide) (t := .int) (t' := .long) (by decide) (by decide)))
    have f24 : Fld Z h16 ra "skipstitch/search/PrefixTableScan" "occurrences" "J" (.long u_occurrences_ra) := f15.other W16 (Or.inr (slot_ne (Or.inl (hw _ (List.mem_of_getElem? (i := 30) rfl))) (Or.inl (hw _ (List.mem_of_getElem? (i := 28) rfl))) (by decide) (t := .long) (t' := .long) (by decide) (by decide)))
    obtain ⟨T25, h25, X25, e25, W25, st25⟩ := putF X16 hx hZ hown (host := "") (Or.inl (hw _ (List.mem_of_getElem? (i := 29) rfl))) Via.refl e16 f24 f18 (Or.inl (hw _ (List.mem_of_getElem? (i := 30) rfl))) (hw _ (List.mem_of_getElem? (i := 8) rfl)) (ty := .long) (by decide) rfl rfl (g := (mkF m 33 #[.val (.ref ra), .val (.int iv), .val (.long cv), .second, .val (.long ov), .second] [(.long ov), (.ref ra)])) rfl rfl (hb hby d4_33)
    have N25 := Fr.snoc X25 N16 g_ra
    have Z25 : n0 ≤ h25.size := Nat.le_trans Z16 (Keep.of_wr W25).1
    have K25 : Keep h0 h25 [ra] := K16.wr W25 (Or.inl (List.mem_of_getElem? (i := 0) rfl))
    have f26 : Fld Z h25 ra "skipstitch/search/PrefixTableScan" "occurrences" "J" (.long ov) := f24.same W25
    have f27 : Exa Z h25 ra "skipstitch/search/PrefixTableScan" := f18.wr W25
    have f28 : Fld Z h25 ra "skipstitch/search/PrefixTableScan" "pattern" "[B" (.ref rp) := f19.other W25 (Or.inr (slot_ne (Or.inr (hw _ (List.mem_of_getElem? (i := 17) rfl))) (Or.inl (hw _ (List.mem_of_getElem? (i := 30) rfl))) (by decide) (t := (.array .byte)) (t' := .long) (by decide) (by decide)))
    have f29 : Fld Z h25 ra "skipstitch/search/PrefixTableScan" "table" "[I" (.ref rt) := f20.other W25 (Or.inr (slot_ne (Or.inr (hw _ (List.mem_of_getElem? (i := 19) rfl))) (Or.inl (hw _ (List.mem_of_getElem? (i := 30) rfl))) (by decide) (t := (.array .int)) (t' := .long) (by decide) (by decide)))
    have f30 : AI Z h25 rp .byte 2 fp := f21.other W25 (Ne.symm ne_ra_rp)
    have f31 : AI Z h25 rt .int 2 fq := f22.other W25 (Ne.symm ne_ra_rt)
    have f32 : Fld Z h25 ra "skipstitch/search/PrefixTableScan" "matched" "I" (.int (fq 1)) := f23.other W25 (Or.inr (slot_ne (Or.inl (hw _ (List.mem_of_getElem? (i := 26) rfl))) (Or.inl (hw _ (List.mem_of_getElem? (i := 30) rfl))) (by decide) (t := .int) (t' := .long) (by decide) (by decide)))
    have f33 : Fld Z h25 ra "skipstitch/search/PrefixTableScan" "comparisons" "J" (.long cv) := f17.other W25 (Or.inr (slot_ne (Or.inl (hw _ (List.mem_of_getElem? (i := 28) rfl))) (Or.inl (hw _ (List.mem_of_getElem? (i := 30) rfl))) (by decide) (t := .long) (t' := .long) (by decide) (by decide)))
    obtain ⟨fs, hr, hrun, hended, hW, hsame⟩ := X25.leave (v := none) (fun _ => rfl)
    refine ⟨_, _, pre3 _ ?_, hrun, hended, _, _, rfl, ?_, ⟨_, rfl⟩, hW, hsame.mono (by decide) (by decide)⟩
    · show Steps p.tables e below (T1.setTop (mkF m 7 #[.val (.ref ra), .val (.int iv), .val (.long cv), .second, .val (.long ov), .second] [(.int (2 : Int32)), (.int iv), (.ref ra)])) _
      refine XS.icmpNo X1.here hx rfl (hb hby d4_7) rfl (teq hk4).2 ?_
      show Steps p.tables e below (T1.setTop (mkF m 10 #[.val (.ref ra), .val (.int iv), .val (.long cv), .second, .val (.long ov), .second] [(.ref ra)])) _
      refine XS.aloadN X1.here hx rfl (hb hby d4_10) rfl rfl ?_
      show Steps p.tables e below (T1.setTop (mkF m 11 #[.val (.ref ra), .val (.int iv), .val (.long cv), .second, .val (.long ov), .second] [(.ref ra), (.ref ra)])) _
      refine st5 _ ?_
      show Steps p.tables e below (T5.setTop (mkF m 14 #[.val (.ref ra), .val (.int iv), .val (.long cv), .second, .val (.long ov), .second] [(.ref rt), (.ref ra)])) _
      refine XS.iloadN X5.here hx rfl (hb hby d4_14) rfl ?_
      show Steps p.tables e below (T5.setTop (mkF m 15 #[.val (.ref ra), .val (.int iv), .val (.long cv), .second, .val (.long ov), .second] [(.int iv), (.ref rt), (.ref ra)])) _
      refine XS.iconst X5.here hx rfl (hb hby d4_15) ?_
      show Steps p.tables e below (T5.setTop (mkF m 16 #[.val (.ref ra), .val (.int iv), .val (.long cv), .second, .val (.long ov), .second] [(.int (1 : Int32)), (.int iv), (.ref rt), (.ref ra)])) _
      refine XS.isub X5.here hx rfl (hb hby d4_16) rfl ?_
      show Steps p.tables e below (T5.setTop (mkF m 17 #[.val (.ref ra), .val (.int iv), .val (.long cv), .second, .val (.long ov), .second] [(.int (iv - (1 : Int32))), (.ref rt), (.ref ra)])) _
      refine X5.iaload hx (j := (iv - (1 : Int32))) (v := (.int (fq 1))) (by rw [e5]; exact Arcl6.1) (State.isArrayOf_alike hZ.alike Arcl6.2.1) Arcl6.2.2 hincl6 hatcl6 (g := (mkF m 17 #[.val (.ref ra), .val (.int iv), .val (.long cv), .second, .val (.long ov), .second] [(.int (iv - (1 : Int32))), (.ref rt), (.ref ra)])) rfl rfl (hb hby d4_17) _ ?_
      show Steps p.tables e below (T5.setTop (mkF m 18 #[.val (.ref ra), .val (.int iv), .val (.long cv), .second, .val (.long ov), .second] [(.int (fq 1)), (.ref ra)])) _
      refine XS.goto X5.here hx rfl (pc0 := 18) (pc' := 22) rfl (hb hby d4_18) (by decide) (by decide) ?_
      show Steps p.tables e below (T5.setTop (mkF m 22 #[.val (.ref ra), .val (.int iv), .val (.long cv), .second, .val (.long ov), .second] [(.int (fq 1)), (.ref ra)])) _
      refine st7 _ ?_
      show Steps p.tables e below (T7.setTop (mkF m 25 #[.val (.ref ra), .val (.int iv), .val (.long cv), .second, .val (.long ov), .second] [])) _
      refine XS.aloadN X7.here hx rfl (hb hby d4_25) rfl rfl ?_
      show Steps p.tables e below (T7.setTop (mkF m 26 #[.val (.ref ra), .val (.int iv), .val (.long cv), .second, .val (.long ov), .second] [(.ref ra)])) _
      refine XS.lloadN X7.here hx rfl (hb hby d4_26) rfl ?_
      show Steps p.tables e below (T7.setTop (mkF m 27 #[.val (.ref ra), .val (.int iv), .val (.long cv), .second, .val (.long ov), .second] [(.long cv), (.ref ra)])) _
      refine st16 _ ?_
      show Steps p.tables e below (T16.setTop (mkF m 30 #[.val (.ref ra), .val (.int iv), .val (.long cv), .second, .val (.long ov), .second] [])) _
      refine XS.aloadN X16.here hx rfl (hb hby d4_30) rfl rfl ?_
      show Steps p.tables e below (T16.setTop (mkF m 31 #[.val (.ref ra), .val (.int iv), .val (.long cv), .second, .val (.long ov), .second] [(.ref ra)])) _
      refine XS.lload X16.here hx rfl (hb hby d4_31) rfl ?_
      show Steps p.tables e below (T16.setTop (mkF m 33 #[.val (.ref ra), .val (.int iv), .val (.long cv), .second, .val (.long ov), .second] [(.long ov), (.ref ra)])) _
      refine st25 _ ?_
      show Steps p.tables e below (T25.setTop (mkF m 36 #[.val (.ref ra), .val (.int iv), .val (.long cv), .second, .val (.long ov), .second] [])) _
      exact X25.returnOut hx Bd.returns (hb hby d4_36) hr
    · show Q4k2 Z ra iv cv ov rp rt fp fq u_matched_ra u_comparisons_ra u_occurrences_ra h0 n0 _ T25.heap _
      rw [e25]
      have ev61 : (r4k2_matched iv fq) = (fq 1) := by unfold r4k2_matched; rw [if_pos hk4]
      exact ⟨rfl, N25, K25, f28, f29, (by rw [ev61]; exact f32), f33, f26⟩
  · obtain ⟨T34, h34, X34, e34, W34, st34⟩ := putF X1 hx hZ hown (host := "") (Or.inl (hw _ (List.mem_of_getElem? (i := 25) rfl))) Via.refl e1 F_matched_ra E_ra (Or.inl (hw _ (List.mem_of_getElem? (i := 26) rfl))) (hw _ (List.mem_of_getElem? (i := 8) rfl)) (ty := .int) (by decide) rfl rfl (g := (mkF m 22 #[.val (.ref ra), .val (.int iv), .val (.long cv), .second, .val (.long ov), .second] [(.int iv), (.ref ra)])) rfl rfl (hb hby d4_22)
    have N34 := Fr.snoc X34 N0 g_ra
    have Z34 : n0 ≤ h34.size := Nat.le_trans Z0 (Keep.of_wr W34).1
    have K34 : Keep h0 h34 [ra] := K0.wr W34 (Or.inl (List.mem_of_getElem? (i := 0) rfl))
    have f35 : Fld Z h34 ra "skipstitch/search/PrefixTableScan" "matched" "I" (.int iv) := F_matched_ra.same W34
    have f36 : Exa Z h34 ra "skipstitch/search/PrefixTableScan" := E_ra.wr W34
    have f37 : Fld Z h34 ra "skipstitch/search/PrefixTableScan" "pattern" "[B" (.ref rp) := F_pattern_ra.other W34 (Or.inr (slot_ne (Or.inr (hw _ (List.mem_of_getElem? (i := 17) rfl))) (Or.inl (hw _ (List.mem_of_getElem? (i := 26) rfl))) (by decide) (t := (.array .byte)) (t' := .int) (by decide) (by decide)))
    have f38 : Fld Z h34 ra "skipstitch/search/PrefixTableScan" "table" "[I" (.ref rt) := F_table_ra.other W34 (Or.inr (slot_ne (Or.inr (hw _ (List.mem_of_getElem? (i := 19) rfl))) (Or.inl (hw _ (List.mem_of_getElem? (i := 26) rfl))) (by decide) (t := (.array .int)) (t' := .int) (by decide) (by decide)))
    have f39 : AI Z h34 rp .byte 2 fp := A_rp.other W34 (Ne.symm ne_ra_rp)
    have f40 : AI Z h34 rt .int 2 fq := A_rt.other W34 (Ne.symm ne_ra_rt)
    have f41 : Fld Z h34 ra "skipstitch/search/PrefixTableScan" "comparisons" "J" (.long u_comparisons_ra) := F_comparisons_ra.other W34 (Or.inr (slot_ne (Or.inl (hw _ (List.mem_of_getElem? (i := 28) rfl))) (Or.inl (hw _ (List.mem_of_getElem? (i := 26) rfl))) (by decide) (t := .long) (t' := .int) (by decide) (by decide)))
    have f42 : Fld Z h34 ra "skipstitch/search/PrefixTableScan" "occurrences" "J" (.long u_occurrences_ra) := F_occurrences_ra.other W34 (Or.inr (slot_ne (Or.inl (hw _ (List.mem_of_getElem? (i := 30) rfl))) (Or.inl (hw _ (List.mem_of_getElem? (i := 26) rfl))) (by decide) (t := .long) (t' := .int) (by decide) (by decide)))
    obtain ⟨T43, h43, X43, e43, W43, st43⟩ := putF X34 hx hZ hown (host := "") (Or.inl (hw _ (List.mem_of_getElem? (i := 27) rfl))) Via.refl e34 f41 f36 (Or.inl (hw _ (List.mem_of_getElem? (i := 28) rfl))) (hw _ (List.mem_of_getElem? (i := 8) rfl)) (ty := .long) (by decide) rfl rfl (g := (mkF m 27 #[.val (.ref ra), .val (.int iv), .val (.long cv), .second, .val (.long ov), .second] [(.long cv), (.ref ra)])) rfl rfl (hb hby d4_27)
    have N43 := Fr.snoc X43 N34 g_ra
    have Z43 : n0 ≤ h43.size := Nat.le_trans Z34 (Keep.of_wr W43).1
    have K43 : Keep h0 h43 [ra] := K34.wr W43 (Or.inl (List.mem_of_getElem? (i := 0) rfl))
    have f44 : Fld Z h43 ra "skipstitch/search/PrefixTableScan" "comparisons" "J" (.long cv) := f41.same W43
    have f45 : Exa Z h43 ra "skipstitch/search/PrefixTableScan" := f36.wr W43
    have f46 : Fld Z h43 ra "skipstitch/search/PrefixTableScan" "pattern" "[B" (.ref rp) := f37.other W43 (Or.inr (slot_ne (Or.inr (hw _ (List.mem_of_getElem? (i := 17) rfl))) (Or.inl (hw _ (List.mem_of_getElem? (i := 28) rfl))) (by decide) (t := (.array .byte)) (t' := .long) (by decide) (by decide)))
    have f47 : Fld Z h43 ra "skipstitch/search/PrefixTableScan" "table" "[I" (.ref rt) := f38.other W43 (Or.inr (slot_ne (Or.inr (hw _ (List.mem_of_getElem? (i := 19) rfl))) (Or.inl (hw _ (List.mem_of_getElem? (i := 28) rfl))) (by decide) (t := (.array .int)) (t' := .long) (by decide) (by decide)))
    have f48 : AI Z h43 rp .byte 2 fp := f39.other W43 (Ne.symm ne_ra_rp)
    have f49 : AI Z h43 rt .int 2 fq := f40.other W43 (Ne.symm ne_ra_rt)
    have f50 : Fld Z h43 ra "skipstitch/search/PrefixTableScan" "matched" "I" (.int iv) := f35.other W43 (Or.inr (slot_ne (Or.inl (hw _ (List.mem_of_getElem? (i := 26) rfl))) (Or.inl (hw _ (List.mem_of_getElem? (i := 28) rfl))) (by decide) (t := .int) (t' := .long) (by decide) (by decide)))
    have f51 : Fld Z h43 ra "skipstitch/search/PrefixTableScan" "occurrences" "J" (.long u_occurrences_ra) := f42.other W43 (Or.inr (slot_ne (Or.inl (hw _ (List.mem_of_getElem? (i := 30) rfl))) (Or.inl (hw _ (List.mem_of_getElem? (i := 28) rfl))) (by decide) (t := .long) (t' := .long) (by decide) (by decide)))
    obtain ⟨T52, h52, X52, e52, W52, st52⟩ := putF X43 hx hZ hown (host := "") (Or.inl (hw _ (List.mem_of_getElem? (i := 29) rfl))) Via.refl e43 f51 f45 (Or.inl (hw _ (List.mem_of_getElem? (i := 30) rfl))) (hw _ (List.mem_of_getElem? (i := 8) rfl)) (ty := .long) (by decide) rfl rfl (g := (mkF m 33 #[.val (.ref ra), .val (.int iv), .val (.long cv), .second, .val (.long ov), .second] [(.long ov), (.ref ra)])) rfl rfl (hb hby d4_33)
    have N52 := Fr.snoc X52 N43 g_ra
    have Z52 : n0 ≤ h52.size := Nat.le_trans Z43 (Keep.of_wr W52).1
    have K52 : Keep h0 h52 [ra] := K43.wr W52 (Or.inl (List.mem_of_getElem? (i := 0) rfl))
    have f53 : Fld Z h52 ra "skipstitch/search/PrefixTableScan" "occurrences" "J" (.long ov) := f51.same W52
    have f54 : Exa Z h52 ra "skipstitch/search/PrefixTableScan" := f45.wr W52
    have f55 : Fld Z h52 ra "skipstitch/search/PrefixTableScan" "pattern" "[B" (.ref rp) := f46.other W52 (Or.inr (slot_ne (Or.inr (hw _ (List.mem_of_getElem? (i := 17) rfl))) (Or.inl (hw _ (List.mem_of_getElem? (i := 30) rfl))) (by decide) (t := (.array .byte)) (t' := .long) (by decide) (by decide)))
    have f56 : Fld Z h52 ra "skipstitch/search/PrefixTableScan" "table" "[I" (.ref rt) := f47.other W52 (Or.inr (slot_ne (Or.inr (hw _ (List.mem_of_getElem? (i := 19) rfl))) (Or.inl (hw _ (List.mem_of_getElem? (i := 30) rfl))) (by decide) (t := (.array .int)) (t' := .long) (by decide) (by decide)))
    have f57 : AI Z h52 rp .byte 2 fp := f48.other W52 (Ne.symm ne_ra_rp)
    have f58 : AI Z h52 rt .int 2 fq := f49.other W52 (Ne.symm ne_ra_rt)
    have f59 : Fld Z h52 ra "skipstitch/search/PrefixTableScan" "matched" "I" (.int iv) := f50.other W52 (Or.inr (slot_ne (Or.inl (hw _ (List.mem_of_getElem? (i := 26) rfl))) (Or.inl (hw _ (List.mem_of_getElem? (i := 30) rfl))) (by decide) (t := .int) (t' := .long) (by decide) (by decide)))
    have f60 : Fld Z h52 ra "skipstitch/search/PrefixTableScan" "comparisons" "J" (.long cv) := f44.other W52 (Or.inr (slot_ne (Or.inl (hw _ (List.mem_of_getElem? (i := 28) rfl))) (Or.inl (hw _ (List.mem_of_getElem? (i := 30) rfl))) (by decide) (t := .long) (t' := .long) (by decide) (by decide)))
    obtain ⟨fs, hr, hrun, hended, hW, hsame⟩ := X52.leave (v := none) (fun _ => rfl)
    refine ⟨_, _, pre3 _ ?_, hrun, hended, _, _, rfl, ?_, ⟨_, rfl⟩, hW, hsame.mono (by decide) (by decide)⟩
    · show Steps p.tables e below (T1.setTop (mkF m 7 #[.val (.ref ra), .val (.int iv), .val (.long cv), .second, .val (.long ov), .second] [(.int (2 : Int32)), (.int iv), (.ref ra)])) _
      refine XS.icmpYes X1.here hx rfl (pc0 := 7) (pc' := 21) rfl (hb hby d4_7) rfl (feq hk4).2 (by decide) (by decide) ?_
      show Steps p.tables e below (T1.setTop (mkF m 21 #[.val (.ref ra), .val (.int iv), .val (.long cv), .second, .val (.long ov), .second] [(.ref ra)])) _
      refine XS.iloadN X1.here hx rfl (hb hby d4_21) rfl ?_
      show Steps p.tables e below (T1.setTop (mkF m 22 #[.val (.ref ra), .val (.int iv), .val (.long cv), .second, .val (.long ov), .second] [(.int iv), (.ref ra)])) _
      refine st34 _ ?_
      show Steps p.tables e below (T34.setTop (mkF m 25 #[.val (.ref ra), .val (.int iv), .val (.long cv), .second, .val (.long ov), .second] [])) _
      refine XS.aloadN X34.here hx rfl (hb hby d4_25) rfl rfl ?_
      show Steps p.tables e below (T34.setTop (mkF m 26 #[.val (.ref ra), .val (.int iv), .val (.long cv), .second, .val (.long ov), .second] [(.ref ra)])) _
      refine XS.lloadN X34.here hx rfl (hb hby d4_26) rfl ?_
      show Steps p.tables e below (T34.setTop (mkF m 27 #[.val (.ref ra), .val (.int iv), .val (.long cv), .second, .val (.long ov), .second] [(.long cv), (.ref ra)])) _
      refine st43 _ ?_
      show Steps p.tables e below (T43.setTop (mkF m 30 #[.val (.ref ra), .val (.int iv), .val (.long cv), .second, .val (.long ov), .second] [])) _
      refine XS.aloadN X43.here hx rfl (hb hby d4_30) rfl rfl ?_
      show Steps p.tables e below (T43.setTop (mkF m 31 #[.val (.ref ra), .val (.int iv), .val (.long cv), .second, .val (.long ov), .second] [(.ref ra)])) _
      refine XS.lload X43.here hx rfl (hb hby d4_31) rfl ?_
      show Steps p.tables e below (T43.setTop (mkF m 33 #[.val (.ref ra), .val (.int iv), .val (.long cv), .second, .val (.long ov), .second] [(.long ov), (.ref ra)])) _
      refine st52 _ ?_
      show Steps p.tables e below (T52.setTop (mkF m 36 #[.val (.ref ra), .val (.int iv), .val (.long cv), .second, .val (.long ov), .second] [])) _
      exact X52.returnOut hx Bd.returns (hb hby d4_36) hr
    · show Q4k2 Z ra iv cv ov rp rt fp fq u_matched_ra u_comparisons_ra u_occurrences_ra h0 n0 _ T52.heap _
      rw [e52]
      have ev62 : (r4k2_matched iv fq) = iv := by unfold r4k2_matched; rw [if_neg hk4]
      exact ⟨rfl, N52, K52, f55, f56, (by rw [ev62]; exact f59), f60, f53⟩
theorem ef_4k3 (m : MethodId) (ra : Addr) (iv : Int32) (cv : Int64) (ov : Int64) : entryFrame m #[(.ref ra), (.int iv), (.long cv), (.long ov)] 6 = mkF m 0 #[.val (.ref ra), .val (.int iv), .val (.long cv), .second, .val (.long ov), .second] [] := by first | (simp [entryFrame, mkF, argsToLocals, Value.category]; done) | rfl
def r4k3_matched (iv : Int32) (fq : Nat → Int32) : Int32 := (if iv = (3 : Int32) then (fq 2) else iv)
def Q4k3 (Z : State) (ra : Addr) (iv : Int32) (cv : Int64) (ov : Int64) (rp : Addr) (rt : Addr) (fp : Nat → Int32) (fq : Nat → Int32) (u_matched_ra : Int32) (u_comparisons_ra : Int64) (u_occurrences_ra : Int64) (h0 : Heap) (n0 : Nat) (v : Option Value) (h : Heap) (L : List Loc) : Prop := v = none ∧ Fr n0 L ∧ Keep h0 h [ra] ∧ Fld Z h ra "skipstitch/search/PrefixTableScan" "pattern" "[B" (.ref rp) ∧ Fld Z h ra "skipstitch/search/PrefixTableScan" "table" "[I" (.ref rt) ∧ Fld Z h ra "skipstitch/search/PrefixTableScan" "matched" "I" (.int (r4k3_matched iv fq)) ∧ Fld Z h ra "skipstitch/search/PrefixTableScan" "comparisons" "J" (.long cv) ∧ Fld Z h ra "skipstitch/search/PrefixTableScan" "occurrences" "J" (.long ov)
set_option maxRecDepth 65536 in
set_option maxHeartbeats 40000000 in
theorem rm4k3 (l : Launch) (Z : State) (a0 : Array Value) (hw : ∀ d ∈ tables_1, d.before a0 Z = true) (ws : List Jvm.Cond) (ra : Addr) (iv : Int32) (cv : Int64) (ov : Int64) (rp : Addr) (rt : Addr) (fp : Nat → Int32) (fq : Nat → Int32) (u_matched_ra : Int32) (u_comparisons_ra : Int64) (u_occurrences_ra : Int64) (h0 : Heap) (n0 : Nat) (Z0 : n0 ≤ h0.size) (E_ra : Exa Z h0 ra "skipstitch/search/PrefixTableScan") (F_pattern_ra : Fld Z h0 ra "skipstitch/search/PrefixTableScan" "pattern" "[B" (.ref rp)) (F_table_ra : Fld Z h0 ra "skipstitch/search/PrefixTableScan" "table" "[I" (.ref rt)) (A_rp : AI Z h0 rp .byte 3 fp) (A_rt : AI Z h0 rt .int 3 fq) (ne_ra_rp : ra ≠ rp) (ne_ra_rt : ra ≠ rt) (F_matched_ra : Fld Z h0 ra "skipstitch/search/PrefixTableScan" "matched" "I" (.int u_matched_ra)) (F_comparisons_ra : Fld Z h0 ra "skipstitch/search/PrefixTableScan" "comparisons" "J" (.long u_comparisons_ra)) (F_occurrences_ra : Fld Z h0 ra "skipstitch/search/PrefixTableScan" "occurrences" "J" (.long u_occurrences_ra)) (g_ra : n0 ≤ ra) :
    MetFree l (⟨"skipstitch/search/PrefixTableScan", "resume", "(IJJ)V"⟩ : MethodName) (head1 (Jvm.Cond.code (⟨"skipstitch/search/PrefixTableScan", "resume", "(IJJ)V"⟩ : MethodName) prog_30_method_4_code 6 none :: ws) ({ frames := 0, cells := 0, slots := 0, locals := 0 } : Room)) (fun a U => a = #[(.ref ra), (.int iv), (.long cv), (.long ov)] ∧ Z.Warmed39 U.vm ∧ U.heap = h0) (fun _ _ _ _ _ => True) (fun _ U o U' => ∃ v L, o = .returned v ∧ Q4k3 Z ra iv cv ov rp rt fp fq u_matched_ra u_comparisons_ra u_occurrences_ra h0 n0 v U'.heap L ∧ FrameEnd U o U' L ({ frames := 0, cells := 0, slots := 0, locals := 0 } : Room).cells ({ frames := 0, cells := 0, slots := 0, locals := 0 } : Room).slots) := by
  refine MetFree.of_bodySF (plainFor_of_name pn_skipstitch_search_PrefixTableScan) hisR ?_
  intro p e s m args below meth c s₁ Bd hml0 hP hK
  obtain ⟨rfl, hZ, hh⟩ := hP
  have hx := Bd.exec
  have hby := Bd.bytes
  have hml : c.maxLocals = 6 := hml0
  have hown : s.vm.findClass "skipstitch/search/PrefixTableScan" = some m.cls := findClass_of_methodNamed Bd.named
  have hnm := (name_of_methodNamed Bd.named Bd.method).1
  have X0 : Stand p l e ({ frames := 0, cells := 0, slots := 0, locals := 0 } : Room) s m #[(.ref ra), (.int iv), (.long cv), (.long ov)] below meth c s₁ [] 0 0 := Stand.of_body Bd
  have e0 : s₁.heap = h0 := by rw [← hh, Bd.state]; rfl
  have N0 := Fr.nil n0
  have K0 : Keep h0 h0 [ra] := Keep.refl h0 _
  have pre0 : ∀ t, Steps p.tables e below (s₁.setTop (mkF m 0 #[.val (.ref ra), .val (.int iv), .val (.long cv), .second, .val (.long ov), .second] [])) t → Steps p.tables e below (s₁.setTop (entryFrame m #[(.ref ra), (.int iv), (.long cv), (.long ov)] 6)) t := fun t k => castTop (ef_4k3 m ra iv cv ov) k
  obtain ⟨T1, X1, e1, st1⟩ := getF X0 hx hZ hown (host := "") (Or.inl (hw _ (List.mem_of_getElem? (i := 16) rfl))) Via.refl e0 F_pattern_ra (g := (mkF m 3 #[.val (.ref ra), .val (.int iv), .val (.long cv), .second, .val (.long ov), .second] [(.ref ra), (.int iv), (.ref ra)])) rfl rfl (hb hby d4_3)
  obtain ⟨cl2, Arcl2, Szcl2⟩ := AF.len A_rp
  have pre3 : ∀ t, Steps p.tables e below (T1.setTop (mkF m 7 #[.val (.ref ra), .val (.int iv), .val (.long cv), .second, .val (.long ov), .second] [(.int (3 : Int32)), (.int iv), (.ref ra)])) t → Steps p.tables e below (s₁.setTop (entryFrame m #[(.ref ra), (.int iv), (.long cv), (.long ov)] 6)) t := by
    intro t k
    refine pre0 _ ?_
    show Steps p.tables e below (s₁.setTop (mkF m 0 #[.val (.ref ra), .val (.int iv), .val (.long cv), .second, .val (.long ov), .second] [])) _
    refine XS.aloadN X0.here hx rfl (hb hby d4_0) rfl rfl ?_
    show Steps p.tables e below (s₁.setTop (mkF m 1 #[.val (.ref ra), .val (.int iv), .val (.long cv), .second, .val (.long ov), .second] [(.ref ra)])) _
    refine XS.iloadN X0.here hx rfl (hb hby d4_1) rfl ?_
    show Steps p.tables e below (s₁.setTop (mkF m 2 #[.val (.ref ra), .val (.int iv), .val (.long cv), .second, .val (.long ov), .second] [(.int iv), (.ref ra)])) _
    refine XS.aloadN X0.here hx rfl (hb hby d4_2) rfl rfl ?_
    show Steps p.tables e below (s₁.setTop (mkF m 3 #[.val (.ref ra), .val (.int iv), .val (.long cv), .second, .val (.long ov), .second] [(.ref ra), (.int iv), (.ref ra)])) _
    refine st1 _ ?_
    show Steps p.tables e below (T1.setTop (mkF m 6 #[.val (.ref ra), .val (.int iv), .val (.long cv), .second, .val (.long ov), .second] [(.ref rp), (.int iv), (.ref ra)])) _
    refine X1.arraylength hx (by rw [e1]; exact Arcl2.1) (State.isArrayOf_alike hZ.alike Arcl2.2.1) (g := (mkF m 6 #[.val (.ref ra), .val (.int iv), .val (.long cv), .second, .val (.long ov), .second] [(.ref rp), (.int iv), (.ref ra)])) rfl rfl (hb hby d4_6) _ ?_
    rw [Szcl2]
    exact k
  by_cases hk4 : iv = (3 : Int32)
  · obtain ⟨T5, X5, e5, st5⟩ := getF X1 hx hZ hown (host := "") (Or.inl (hw _ (List.mem_of_getElem? (i := 18) rfl))) Via.refl e1 F_table_ra (g := (mkF m 11 #[.val (.ref ra), .val (.int iv), .val (.long cv), .second, .val (.long ov), .second] [(.ref ra), (.ref ra)])) rfl rfl (hb hby d4_11)
    obtain ⟨cl6, Arcl6, hincl6, hatcl6⟩ := AF.at A_rt (j := (iv - (1 : Int32))) 2 (by rw [hk4]; decide) (by decide)
    obtain ⟨T7, h7, X7, e7, W7, st7⟩ := putF X5 hx hZ hown (host := "") (Or.inl (hw _ (List.mem_of_getElem? (i := 25) rfl))) Via.refl e5 F_matched_ra E_ra (Or.inl (hw _ (List.mem_of_getElem? (i := 26) rfl))) (hw _ (List.mem_of_getElem? (i := 8) rfl)) (ty := .int) (by decide) rfl rfl (g := (mkF m 22 #[.val (.ref ra), .val (.int iv), .val (.long cv), .second, .val (.long ov), .second] [(.int (fq 2)), (.ref ra)])) rfl rfl (hb hby d4_22)
    have N7 := Fr.snoc X7 N0 g_ra
    have Z7 : n0 ≤ h7.size := Nat.le_trans Z0 (Keep.of_wr W7).1
    have K7 : Keep h0 h7 [ra] := K0.wr W7 (Or.inl (List.mem_of_getElem? (i := 0) rfl))
    have f8 : Fld Z h7 ra "skipstitch/search/PrefixTableScan" "matched" "I" (.int (fq 2)) := F_matched_ra.same W7
    have f9 : Exa Z h7 ra "skipstitch/search/PrefixTableScan" := E_ra.wr W7
    have f10 : Fld Z h7 ra "skipstitch/search/PrefixTableScan" "pattern" "[B" (.ref rp) := F_pattern_ra.other W7 (Or.inr (slot_ne (Or.inr (hw _ (List.mem_of_getElem? (i := 17) rfl))) (Or.inl (hw _ (List.mem_of_getElem? (i := 26) rfl))) (by decide) (t := (.array .byte)) (t' := .int) (by decide) (by decide)))
    have f11 : Fld Z h7 ra "skipstitch/search/PrefixTableScan" "table" "[I" (.ref rt) := F_table_ra.other W7 (Or.inr (slot_ne (Or.inr (hw _ (List.mem_of_getElem? (i := 19) rfl))) (Or.inl (hw _ (List.mem_of_getElem? (i := 26) rfl))) (by decide) (t := (.array .int)) (t' := .int) (by decide) (by decide)))
    have f12 : AI Z h7 rp .byte 3 fp := A_rp.other W7 (Ne.symm ne_ra_rp)
    have f13 : AI Z h7 rt .int 3 fq := A_rt.other W7 (Ne.symm ne_ra_rt)
    have f14 : Fld Z h7 ra "skipstitch/search/PrefixTableScan" "comparisons" "J" (.long u_comparisons_ra) := F_comparisons_ra.other W7 (Or.inr (slot_ne (Or.inl (hw _ (List.mem_of_getElem? (i := 28) rfl))) (Or.inl (hw _ (List.mem_of_getElem? (i := 26) rfl))) (by decide) (t := .long) (t' := .int) (by decide) (by decide)))
    have f15 : Fld Z h7 ra "skipstitch/search/PrefixTableScan" "occurrences" "J" (.long u_occurrences_ra) := F_occurrences_ra.other W7 (Or.inr (slot_ne (Or.inl (hw _ (List.mem_of_getElem? (i := 30) rfl))) (Or.inl (hw _ (List.mem_of_getElem? (i := 26) rfl))) (by decide) (t := .long) (t' := .int) (by decide) (by decide)))
    obtain ⟨T16, h16, X16, e16, W16, st16⟩ := putF X7 hx hZ hown (host := "") (Or.inl (hw _ (List.mem_of_getElem? (i := 27) rfl))) Via.refl e7 f14 f9 (Or.inl (hw _ (List.mem_of_getElem? (i := 28) rfl))) (hw _ (List.mem_of_getElem? (i := 8) rfl)) (ty := .long) (by decide) rfl rfl (g := (mkF m 27 #[.val (.ref ra), .val (.int iv), .val (.long cv), .second, .val (.long ov), .second] [(.long cv), (.ref ra)])) rfl rfl (hb hby d4_27)
    have N16 := Fr.snoc X16 N7 g_ra
    have Z16 : n0 ≤ h16.size := Nat.le_trans Z7 (Keep.of_wr W16).1
    have K16 : Keep h0 h16 [ra] := K7.wr W16 (Or.inl (List.mem_of_getElem? (i := 0) rfl))
    have f17 : Fld Z h16 ra "skipstitch/search/PrefixTableScan" "comparisons" "J" (.long cv) := f14.same W16
    have f18 : Exa Z h16 ra "skipstitch/search/PrefixTableScan" := f9.wr W16
    have f19 : Fld Z h16 ra "skipstitch/search/PrefixTableScan" "pattern" "[B" (.ref rp) := f10.other W16 (Or.inr (slot_ne (Or.inr (hw _ (List.mem_of_getElem? (i := 17) rfl))) (Or.inl (hw _ (List.mem_of_getElem? (i := 28) rfl))) (by decide) (t := (.array .byte)) (t' := .long) (by decide) (by decide)))
    have f20 : Fld Z h16 ra "skipstitch/search/PrefixTableScan" "table" "[I" (.ref rt) := f11.other W16 (Or.inr (slot_ne (Or.inr (hw _ (List.mem_of_getElem? (i := 19) rfl))) (Or.inl (hw _ (List.mem_of_getElem? (i := 28) rfl))) (by decide) (t := (.array .int)) (t' := .long) (by decide) (by decide)))
    have f21 : AI Z h16 rp .byte 3 fp := f12.other W16 (Ne.symm ne_ra_rp)
    have f22 : AI Z h16 rt .int 3 fq := f13.other W16 (Ne.symm ne_ra_rt)
    have f23 : Fld Z h16 ra "skipstitch/search/PrefixTableScan" "matched" "I" (.int (fq 2)) := f8.other W16 (Or.inr (slot_ne (Or.inl (hw _ (List.mem_of_getElem? (i := 26) rfl))) (Or.inl (hw _ (List.mem_of_getElem? (i := 28) rfl))) (by decide) (t := .int) (t' := .long) (by decide) (by decide)))
    have f24 : Fld Z h16 ra "skipstitch/search/PrefixTableScan" "occurrences" "J" (.long u_occurrences_ra) := f15.other W16 (Or.inr (slot_ne (Or.inl (hw _ (List.mem_of_getElem? (i := 30) rfl))) (Or.inl (hw _ (List.mem_of_getElem? (i := 28) rfl))) (by decide) (t := .long) (t' := .long) (by decide) (by decide)))
    obtain ⟨T25, h25, X25, e25, W25, st25⟩ := putF X16 hx hZ hown (host := "") (Or.inl (hw _ (List.mem_of_getElem? (i := 29) rfl))) Via.refl e16 f24 f18 (Or.inl (hw _ (List.mem_of_getElem? (i := 30) rfl))) (hw _ (List.mem_of_getElem? (i := 8) rfl)) (ty := .long) (by decide) rfl rfl (g := (mkF m 33 #[.val (.ref ra), .val (.int iv), .val (.long cv), .second, .val (.long ov), .second] [(.long ov), (.ref ra)])) rfl rfl (hb hby d4_33)
    have N25 := Fr.snoc X25 N16 g_ra
    have Z25 : n0 ≤ h25.size := Nat.le_trans Z16 (Keep.of_wr W25).1
    have K25 : Keep h0 h25 [ra] := K16.wr W25 (Or.inl (List.mem_of_getElem? (i := 0) rfl))
    have f26 : Fld Z h25 ra "skipstitch/search/PrefixTableScan" "occurrences" "J" (.long ov) := f24.same W25
    have f27 : Exa Z h25 ra "skipstitch/search/PrefixTableScan" := f18.wr W25
    have f28 : Fld Z h25 ra "skipstitch/search/PrefixTableScan" "pattern" "[B" (.ref rp) := f19.other W25 (Or.inr (slot_ne (Or.inr (hw _ (List.mem_of_getElem? (i := 17) rfl))) (Or.inl (hw _ (List.mem_of_getElem? (i := 30) rfl))) (by decide) (t := (.array .byte)) (t' := .long) (by decide) (by decide)))
    have f29 : Fld Z h25 ra "skipstitch/search/PrefixTableScan" "table" "[I" (.ref rt) := f20.other W25 (Or.inr (slot_ne (Or.inr (hw _ (List.mem_of_getElem? (i := 19) rfl))) (Or.inl (hw _ (List.mem_of_getElem? (i := 30) rfl))) (by decide) (t := (.array .int)) (t' := .long) (by decide) (by decide)))
    have f30 : AI Z h25 rp .byte 3 fp := f21.other W25 (Ne.symm ne_ra_rp)
    have f31 : AI Z h25 rt .int 3 fq := f22.other W25 (Ne.symm ne_ra_rt)
    have f32 : Fld Z h25 ra "skipstitch/search/PrefixTableScan" "matched" "I" (.int (fq 2)) := f23.other W25 (Or.inr (slot_ne (Or.inl (hw _ (List.mem_of_getElem? (i := 26) rfl))) (Or.inl (hw _ (List.mem_of_getElem? (i := 30) rfl))) (by decide) (t := .int) (t' := .long) (by decide) (by decide)))
    have f33 : Fld Z h25 ra "skipstitch/search/PrefixTableScan" "comparisons" "J" (.long cv) := f17.other W25 (Or.inr (slot_ne (Or.inl (hw _ (List.mem_of_getElem? (i := 28) rfl))) (Or.inl (hw _ (List.mem_of_getElem? (i := 30) rfl))) (by decide) (t := .long) (t' := .long) (by decide) (by decide)))
    obtain ⟨fs, hr, hrun, hended, hW, hsame⟩ := X25.leave (v := none) (fun _ => rfl)
    refine ⟨_, _, pre3 _ ?_, hrun, hended, _, _, rfl, ?_, ⟨_, rfl⟩, hW, hsame.mono (by decide) (by decide)⟩
    · show Steps p.tables e below (T1.setTop (mkF m 7 #[.val (.ref ra), .val (.int iv), .val (.long cv), .second, .val (.long ov), .second] [(.int (3 : Int32)), (.int iv), (.ref ra)])) _
      refine XS.icmpNo X1.here hx rfl (hb hby d4_7) rfl (teq hk4).2 ?_
      show Steps p.tables e below (T1.setTop (mkF m 10 #[.val (.ref ra), .val (.int iv), .val (.long cv), .second, .val (.long ov), .second] [(.ref ra)])) _
      refine XS.aloadN X1.here hx rfl (hb hby d4_10) rfl rfl ?_
      show Steps p.tables e below (T1.setTop (mkF m 11 #[.val (.ref ra), .val (.int iv), .val (.long cv), .second, .val (.long ov), .second] [(.ref ra), (.ref ra)])) _
      refine st5 _ ?_
      show Steps p.tables e below (T5.setTop (mkF m 14 #[.val (.ref ra), .val (.int iv), .val (.long cv), .second, .val (.long ov), .second] [(.ref rt), (.ref ra)])) _
      refine XS.iloadN X5.here hx rfl (hb hby d4_14) rfl ?_
      show Steps p.tables e below (T5.setTop (mkF m 15 #[.val (.ref ra), .val (.int iv), .val (.long cv), .second, .val (.long ov), .second] [(.int iv), (.ref rt), (.ref ra)])) _
      refine XS.iconst X5.here hx rfl (hb hby d4_15) ?_
      show Steps p.tables e below (T5.setTop (mkF m 16 #[.val (.ref ra), .val (.int iv), .val (.long cv), .second, .val (.long ov), .second] [(.int (1 : Int32)), (.int iv), (.ref rt), (.ref ra)])) _
      refine XS.isub X5.here hx rfl (hb hby d4_16) rfl ?_
      show Steps p.tables e below (T5.setTop (mkF m 17 #[.val (.ref ra), .val (.int iv), .val (.long cv), .second, .val (.long ov), .second] [(.int (iv - (1 : Int32))), (.ref rt), (.ref ra)])) _
      refine X5.iaload hx (j := (iv - (1 : Int32))) (v := (.int (fq 2))) (by rw [e5]; exact Arcl6.1) (State.isArrayOf_alike hZ.alike Arcl6.2.1) Arcl6.2.2 hincl6 hatcl6 (g := (mkF m 17 #[.val (.ref ra), .val (.int iv), .val (.long cv), .second, .val (.long ov), .second] [(.int (iv - (1 : Int32))), (.ref rt), (.ref ra)])) rfl rfl (hb hby d4_17) _ ?_
      show Steps p.tables e below (T5.setTop (mkF m 18 #[.val (.ref ra), .val (.int iv), .val (.long cv), .second, .val (.long ov), .second] [(.int (fq 2)), (.ref ra)])) _
      refine XS.goto X5.here hx rfl (pc0 := 18) (pc' := 22) rfl (hb hby d4_18) (by decide) (by decide) ?_
      show Steps p.tables e below (T5.setTop (mkF m 22 #[.val (.ref ra), .val (.int iv), .val (.long cv), .second, .val (.long ov), .second] [(.int (fq 2)), (.ref ra)])) _
      refine st7 _ ?_
      show Steps p.tables e below (T7.setTop (mkF m 25 #[.val (.ref ra), .val (.int iv), .val (.long cv), .second, .val (.long ov), .second] [])) _
      refine XS.aloadN X7.here hx rfl (hb hby d4_25) rfl rfl ?_
      show Steps p.tables e below (T7.setTop (mkF m 26 #[.val (.ref ra), .val (.int iv), .val (.long cv), .second, .val (.long ov), .second] [(.ref ra)])) _
      refine XS.lloadN X7.here hx rfl (hb hby d4_26) rfl ?_
      show Steps p.tables e below (T7.setTop (mkF m 27 #[.val (.ref ra), .val (.int iv), .val (.long cv), .second, .val (.long ov), .second] [(.long cv), (.ref ra)])) _
      refine st16 _ ?_
      show Steps p.tables e below (T16.setTop (mkF m 30 #[.val (.ref ra), .val (.int iv), .val (.long cv), .second, .val (.long ov), .second] [])) _
      refine XS.aloadN X16.here hx rfl (hb hby d4_30) rfl rfl ?_
      show Steps p.tables e below (T16.setTop (mkF m 31 #[.val (.ref ra), .val (.int iv), .val (.long cv), .second, .val (.long ov), .second] [(.ref ra)])) _
      refine XS.lload X16.here hx rfl (hb hby d4_31) rfl ?_
      show Steps p.tables e below (T16.setTop (mkF m 33 #[.val (.ref ra), .val (.int iv), .val (.long cv), .second, .val (.long ov), .second] [(.long ov), (.ref ra)])) _
      refine st25 _ ?_
      show Steps p.tables e below (T25.setTop (mkF m 36 #[.val (.ref ra), .val (.int iv), .val (.long cv), .second, .val (.long ov), .second] [])) _
      exact X25.returnOut hx Bd.returns (hb hby d4_36) hr
    · show Q4k3 Z ra iv cv ov rp rt fp fq u_matched_ra u_comparisons_ra u_occurrences_ra h0 n0 _ T25.heap _
      rw [e25]
      have ev61 : (r4k3_matched iv fq) = (fq 2) := by unfold r4k3_matched; rw [if_pos hk4]
      exact ⟨rfl, N25, K25, f28, f29, (by rw [ev61]; exact f32), f33, f26⟩
  · obtain ⟨T34, h34, X34, e34, W34, st34⟩ := putF X1 hx hZ hown (host := "") (Or.inl (hw _ (List.mem_of_getElem? (i := 25) rfl))) Via.refl e1 F_matched_ra E_ra (Or.inl (hw _ (List.mem_of_getElem? (i := 26) rfl))) (hw _ (List.mem_of_getElem? (i := 8) rfl)) (ty := .int) (by decide) rfl rfl (g := (mkF m 22 #[.val (.ref ra), .val (.int iv), .val (.long cv), .second, .val (.long ov), .second] [(.int iv), (.ref ra)])) rfl rfl (hb hby d4_22)
    have N34 := Fr.snoc X34 N0 g_ra
    have Z34 : n0 ≤ h34.size := Nat.le_trans Z0 (Keep.of_wr W34).1
    have K34 : Keep h0 h34 [ra] := K0.wr W34 (Or.inl (List.mem_of_getElem? (i := 0) rfl))
    have f35 : Fld Z h34 ra "skipstitch/search/PrefixTableScan" "matched" "I" (.int iv) := F_matched_ra.same W34
    have f36 : Exa Z h34 ra "skipstitch/search/PrefixTableScan" := E_ra.wr W34
    have f37 : Fld Z h34 ra "skipstitch/search/PrefixTableScan" "pattern" "[B" (.ref rp) := F_pattern_ra.other W34 (Or.inr (slot_ne (Or.inr (hw _ (List.mem_of_getElem? (i := 17) rfl))) (Or.inl (hw _ (List.mem_of_getElem? (i := 26) rfl))) (by decide) (t := (.array .byte)) (t' := .int) (by decide) (by decide)))
    have f38 : Fld Z h34 ra "skipstitch/search/PrefixTableScan" "table" "[I" (.ref rt) := F_table_ra.other W34 (Or.inr (slot_ne (Or.inr (hw _ (List.mem_of_getElem? (i := 19) rfl))) (Or.inl (hw _ (List.mem_of_getElem? (i := 26) rfl))) (by decide) (t := (.array .int)) (t' := .int) (by decide) (by decide)))
    have f39 : AI Z h34 rp .byte 3 fp := A_rp.other W34 (Ne.symm ne_ra_rp)
    have f40 : AI Z h34 rt .int 3 fq := A_rt.other W34 (Ne.symm ne_ra_rt)
    have f41 : Fld Z h34 ra "skipstitch/search/PrefixTableScan" "comparisons" "J" (.long u_comparisons_ra) := F_comparisons_ra.other W34 (Or.inr (slot_ne (Or.inl (hw _ (List.mem_of_getElem? (i := 28) rfl))) (Or.inl (hw _ (List.mem_of_getElem? (i := 26) rfl))) (by decide) (t := .long) (t' := .int) (by decide) (by decide)))
    have f42 : Fld Z h34 ra "skipstitch/search/PrefixTableScan" "occurrences" "J" (.long u_occurrences_ra) := F_occurrences_ra.other W34 (Or.inr (slot_ne (Or.inl (hw _ (List.mem_of_getElem? (i := 30) rfl))) (Or.inl (hw _ (List.mem_of_getElem? (i := 26) rfl))) (by decide) (t := .long) (t' := .int) (by decide) (by decide)))
    obtain ⟨T43, h43, X43, e43, W43, st43⟩ := putF X34 hx hZ hown (host := "") (Or.inl (hw _ (List.mem_of_getElem? (i := 27) rfl))) Via.refl e34 f41 f36 (Or.inl (hw _ (List.mem_of_getElem? (i := 28) rfl))) (hw _ (List.mem_of_getElem? (i := 8) rfl)) (ty := .long) (by decide) rfl rfl (g := (mkF m 27 #[.val (.ref ra), .val (.int iv), .val (.long cv), .second, .val (.long ov), .second] [(.long cv), (.ref ra)])) rfl rfl (hb hby d4_27)
    have N43 := Fr.snoc X43 N34 g_ra
    have Z43 : n0 ≤ h43.size := Nat.le_trans Z34 (Keep.of_wr W43).1
    have K43 : Keep h0 h43 [ra] := K34.wr W43 (Or.inl (List.mem_of_getElem? (i := 0) rfl))
    have f44 : Fld Z h43 ra "skipstitch/search/PrefixTableScan" "comparisons" "J" (.long cv) := f41.same W43
    have f45 : Exa Z h43 ra "skipstitch/search/PrefixTableScan" := f36.wr W43
    have f46 : Fld Z h43 ra "skipstitch/search/PrefixTableScan" "pattern" "[B" (.ref rp) := f37.other W43 (Or.inr (slot_ne (Or.inr (hw _ (List.mem_of_getElem? (i := 17) rfl))) (Or.inl (hw _ (List.mem_of_getElem? (i := 28) rfl))) (by decide) (t := (.array .byte)) (t' := .long) (by decide) (by decide)))
    have f47 : Fld Z h43 ra "skipstitch/search/PrefixTableScan" "table" "[I" (.ref rt) := f38.other W43 (Or.inr (slot_ne (Or.inr (hw _ (List.mem_of_getElem? (i := 19) rfl))) (Or.inl (hw _ (List.mem_of_getElem? (i := 28) rfl))) (by decide) (t := (.array .int)) (t' := .long) (by decide) (by decide)))
    have f48 : AI Z h43 rp .byte 3 fp := f39.other W43 (Ne.symm ne_ra_rp)
    have f49 : AI Z h43 rt .int 3 fq := f40.other W43 (Ne.symm ne_ra_rt)
    have f50 : Fld Z h43 ra "skipstitch/search/PrefixTableScan" "matched" "I" (.int iv) := f35.other W43 (Or.inr (slot_ne (Or.inl (hw _ (List.mem_of_getElem? (i := 26) rfl))) (Or.inl (hw _ (List.mem_of_getElem? (i := 28) rfl))) (by decide) (t := .int) (t' := .long) (by decide) (by decide)))
    have f51 : Fld Z h43 ra "skipstitch/search/PrefixTableScan" "occurrences" "J" (.long u_occurrences_ra) := f42.other W43 (Or.inr (slot_ne (Or.inl (hw _ (List.mem_of_getElem? (i := 30) rfl))) (Or.inl (hw _ (List.mem_of_getElem? (i := 28) rfl))) (by decide) (t := .long) (t' := .long) (by decide) (by decide)))
    obtain ⟨T52, h52, X52, e52, W52, st52⟩ := putF X43 hx hZ hown (host := "") (Or.inl (hw _ (List.mem_of_getElem? (i := 29) rfl))) Via.refl e43 f51 f45 (Or.inl (hw _ (List.mem_of_getElem? (i := 30) rfl))) (hw _ (List.mem_of_getElem? (i := 8) rfl)) (ty := .long) (by decide) rfl rfl (g := (mkF m 33 #[.val (.ref ra), .val (.int iv), .val (.long cv), .second, .val (.long ov), .second] [(.long ov), (.ref ra)])) rfl rfl (hb hby d4_33)
    have N52 := Fr.snoc X52 N43 g_ra
    have Z52 : n0 ≤ h52.size := Nat.le_trans Z43 (Keep.of_wr W52).1
    have K52 : Keep h0 h52 [ra] := K43.wr W52 (Or.inl (List.mem_of_getElem? (i := 0) rfl))
    have f53 : Fld Z h52 ra "skipstitch/search/PrefixTableScan" "occurrences" "J" (.long ov) := f51.same W52
    have f54 : Exa Z h52 ra "skipstitch/search/PrefixTableScan" := f45.wr W52
    have f55 : Fld Z h52 ra "skipstitch/search/PrefixTableScan" "pattern" "[B" (.ref rp) := f46.other W52 (Or.inr (slot_ne (Or.inr (hw _ (List.mem_of_getElem? (i := 17) rfl))) (Or.inl (hw _ (List.mem_of_getElem? (i := 30) rfl))) (by decide) (t := (.array .byte)) (t' := .long) (by decide) (by decide)))
    have f56 : Fld Z h52 ra "skipstitch/search/PrefixTableScan" "table" "[I" (.ref rt) := f47.other W52 (Or.inr (slot_ne (Or.inr (hw _ (List.mem_of_getElem? (i := 19) rfl))) (Or.inl (hw _ (List.mem_of_getElem? (i := 30) rfl))) (by decide) (t := (.array .int)) (t' := .long) (by decide) (by decide)))
    have f57 : AI Z h52 rp .byte 3 fp := f48.other W52 (Ne.symm ne_ra_rp)
    have f58 : AI Z h52 rt .int 3 fq := f49.other W52 (Ne.symm ne_ra_rt)
    have f59 : Fld Z h52 ra "skipstitch/search/PrefixTableScan" "matched" "I" (.int iv) := f50.other W52 (Or.inr (slot_ne (Or.inl (hw _ (List.mem_of_getElem? (i := 26) rfl))) (Or.inl (hw _ (List.mem_of_getElem? (i := 30) rfl))) (by decide) (t := .int) (t' := .long) (by decide) (by decide)))
    have f60 : Fld Z h52 ra "skipstitch/search/PrefixTableScan" "comparisons" "J" (.long cv) := f44.other W52 (Or.inr (slot_ne (Or.inl (hw _ (List.mem_of_getElem? (i := 28) rfl))) (Or.inl (hw _ (List.mem_of_getElem? (i := 30) rfl))) (by decide) (t := .long) (t' := .long) (by decide) (by decide)))
    obtain ⟨fs, hr, hrun, hended, hW, hsame⟩ := X52.leave (v := none) (fun _ => rfl)
    refine ⟨_, _, pre3 _ ?_, hrun, hended, _, _, rfl, ?_, ⟨_, rfl⟩, hW, hsame.mono (by decide) (by decide)⟩
    · show Steps p.tables e below (T1.setTop (mkF m 7 #[.val (.ref ra), .val (.int iv), .val (.long cv), .second, .val (.long ov), .second] [(.int (3 : Int32)), (.int iv), (.ref ra)])) _
      refine XS.icmpYes X1.here hx rfl (pc0 := 7) (pc' := 21) rfl (hb hby d4_7) rfl (feq hk4).2 (by decide) (by decide) ?_
      show Steps p.tables e below (T1.setTop (mkF m 21 #[.val (.ref ra), .val (.int iv), .val (.long cv), .second, .val (.long ov), .second] [(.ref ra)])) _
      refine XS.iloadN X1.here hx rfl (hb hby d4_21) rfl ?_
      show Steps p.tables e below (T1.setTop (mkF m 22 #[.val (.ref ra), .val (.int iv), .val (.long cv), .second, .val (.long ov), .second] [(.int iv), (.ref ra)])) _
      refine st34 _ ?_
      show Steps p.tables e below (T34.setTop (mkF m 25 #[.val (.ref ra), .val (.int iv), .val (.long cv), .second, .val (.long ov), .second] [])) _
      refine XS.aloadN X34.here hx rfl (hb hby d4_25) rfl rfl ?_
      show Steps p.tables e below (T34.setTop (mkF m 26 #[.val (.ref ra), .val (.int iv), .val (.long cv), .second, .val (.long ov), .second] [(.ref ra)])) _
      refine XS.lloadN X34.here hx rfl (hb hby d4_26) rfl ?_
      show Steps p.tables e below (T34.setTop (mkF m 27 #[.val (.ref ra), .val (.int iv), .val (.long cv), .second, .val (.long ov), .second] [(.long cv), (.ref ra)])) _
      refine st43 _ ?_
      show Steps p.tables e below (T43.setTop (mkF m 30 #[.val (.ref ra), .val (.int iv), .val (.long cv), .second, .val (.long ov), .second] [])) _
      refine XS.aloadN X43.here hx rfl (hb hby d4_30) rfl rfl ?_
      show Steps p.tables e below (T43.setTop (mkF m 31 #[.val (.ref ra), .val (.int iv), .val (.long cv), .second, .val (.long ov), .second] [(.ref ra)])) _
      refine XS.lload X43.here hx rfl (hb hby d4_31) rfl ?_
      show Steps p.tables e below (T43.setTop (mkF m 33 #[.val (.ref ra), .val (.int iv), .val (.long cv), .second, .val (.long ov), .second] [(.long ov), (.ref ra)])) _
      refine st52 _ ?_
      show Steps p.tables e below (T52.setTop (mkF m 36 #[.val (.ref ra), .val (.int iv), .val (.long cv), .second, .val (.long ov), .second] [])) _
      exact X52.returnOut hx Bd.returns (hb hby d4_36) hr
    · show Q4k3 Z ra iv cv ov rp rt fp fq u_matched_ra u_comparisons_ra u_occurrences_ra h0 n0 _ T52.heap _
      rw [e52]
      have ev62 : (r4k3_matched iv fq) = iv := by unfold r4k3_matched; rw [if_neg hk4]
      exact ⟨rfl, N52, K52, f55, f56, (by rw [ev62]; exact f59), f60, f53⟩
theorem ef_4k4 (m : MethodId) (ra : Addr) (iv : Int32) (cv : Int64) (ov : Int64) : entryFrame m #[(.ref ra), (.int iv), (.long cv), (.long ov)] 6 = mkF m 0 #[.val (.ref ra), .val (.int iv), .val (.long cv), .second, .val (.long ov), .second] [] := by first | (simp [entryFrame, mkF, argsToLocals, Value.category]; done) | rfl
def r4k4_matched (iv : Int32) (fq : Nat → Int32) : Int32 := (if iv = (4 : Int32) then (fq 3) else iv)
def Q4k4 (Z : State) (ra : Addr) (iv : Int32) (cv : Int64) (ov : Int64) (rp : Addr) (rt : Addr) (fp : Nat → Int32) (fq : Nat → Int32) (u_matched_ra : Int32) (u_comparisons_ra : Int64) (u_occurrences_ra : Int64) (h0 : Heap) (n0 : Nat) (v : Option Value) (h : Heap) (L : List Loc) : Prop := v = none ∧ Fr n0 L ∧ Keep h0 h [ra] ∧ Fld Z h ra "skipstitch/search/PrefixTableScan" "pattern" "[B" (.ref rp) ∧ Fld Z h ra "skipstitch/search/PrefixTableScan" "table" "[I" (.ref rt) ∧ Fld Z h ra "skipstitch/search/PrefixTableScan" "matched" "I" (.int (r4k4_matched iv fq)) ∧ Fld Z h ra "skipstitch/search/PrefixTableScan" "comparisons" "J" (.long cv) ∧ Fld Z h ra "skipstitch/search/PrefixTableScan" "occurrences" "J" (.long ov)
set_option maxRecDepth 65536 in
set_option maxHeartbeats 40000000 in
theorem rm4k4 (l : Launch) (Z : State) (a0 : Array Value) (hw : ∀ d ∈ tables_1, d.before a0 Z = true) (ws : List Jvm.Cond) (ra : Addr) (iv : Int32) (cv : Int64) (ov : Int64) (rp : Addr) (rt : Addr) (fp : Nat → Int32) (fq : Nat → Int32) (u_matched_ra : Int32) (u_comparisons_ra : Int64) (u_occurrences_ra : Int64) (h0 : Heap) (n0 : Nat) (Z0 : n0 ≤ h0.size) (E_ra : Exa Z h0 ra "skipstitch/search/PrefixTableScan") (F_pattern_ra : Fld Z h0 ra "skipstitch/search/PrefixTableScan" "pattern" "[B" (.ref rp)) (F_table_ra : Fld Z h0 ra "skipstitch/search/PrefixTableScan" "table" "[I" (.ref rt)) (A_rp : AI Z h0 rp .byte 4 fp) (A_rt : AI Z h0 rt .int 4 fq) (ne_ra_rp : ra ≠ rp) (ne_ra_rt : ra ≠ rt) (F_matched_ra : Fld Z h0 ra "skipstitch/search/PrefixTableScan" "matched" "I" (.int u_matched_ra)) (F_comparisons_ra : Fld Z h0 ra "skipstitch/search/PrefixTableScan" "comparisons" "J" (.long u_comparisons_ra)) (F_occurrences_ra : Fld Z h0 ra "skipstitch/search/PrefixTableScan" "occurrences" "J" (.long u_occurrences_ra)) (g_ra : n0 ≤ ra) :
    MetFree l (⟨"skipstitch/search/PrefixTableScan", "resume", "(IJJ)V"⟩ : MethodName) (head1 (Jvm.Cond.code (⟨"skipstitch/search/PrefixTableScan", "resume", "(IJJ)V"⟩ : MethodName) prog_30_method_4_code 6 none :: ws) ({ frames := 0, cells := 0, slots := 0, locals := 0 } : Room)) (fun a U => a = #[(.ref ra), (.int iv), (.long cv), (.long ov)] ∧ Z.Warmed39 U.vm ∧ U.heap = h0) (fun _ _ _ _ _ => True) (fun _ U o U' => ∃ v L, o = .returned v ∧ Q4k4 Z ra iv cv ov rp rt fp fq u_matched_ra u_comparisons_ra u_occurrences_ra h0 n0 v U'.heap L ∧ FrameEnd U o U' L ({ frames := 0, cells := 0, slots := 0, locals := 0 } : Room).cells ({ frames := 0, cells := 0, slots := 0, locals := 0 } : Room).slots) := by
  refine MetFree.of_bodySF (plainFor_of_name pn_skipstitch_search_PrefixTableScan) hisR ?_
  intro p e s m args below meth c s₁ Bd hml0 hP hK
  obtain ⟨rfl, hZ, hh⟩ := hP
  have hx := Bd.exec
  have hby := Bd.bytes
  have hml : c.maxLocals = 6 := hml0
  have hown : s.vm.findClass "skipstitch/search/PrefixTableScan" = some m.cls := findClass_of_methodNamed Bd.named
  have hnm := (name_of_methodNamed Bd.named Bd.method).1
  have X0 : Stand p l e ({ frames := 0, cells := 0, slots := 0, locals := 0 } : Room) s m #[(.ref ra), (.int iv), (.long cv), (.long ov)] below meth c s₁ [] 0 0 := Stand.of_body Bd
  have e0 : s₁.heap = h0 := by rw [← hh, Bd.state]; rfl
  have N0 := Fr.nil n0
  have K0 : Keep h0 h0 [ra] := Keep.refl h0 _
  have pre0 : ∀ t, Steps p.tables e below (s₁.setTop (mkF m 0 #[.val (.ref ra), .val (.int iv), .val (.long cv), .second, .val (.long ov), .second] [])) t → Steps p.tables e below (s₁.setTop (entryFrame m #[(.ref ra), (.int iv), (.long cv), (.long ov)] 6)) t := fun t k => castTop (ef_4k4 m ra iv cv ov) k
  obtain ⟨T1, X1, e1, st1⟩ := getF X0 hx hZ hown (host := "") (Or.inl (hw _ (List.mem_of_getElem? (i := 16) rfl))) Via.refl e0 F_pattern_ra (g := (mkF m 3 #[.val (.ref ra), .val (.int iv), .val (.long cv), .second, .val (.long ov), .second] [(.ref ra), (.int iv), (.ref ra)])) rfl rfl (hb hby d4_3)
  obtain ⟨cl2, Arcl2, Szcl2⟩ := AF.len A_rp
  have pre3 : ∀ t, Steps p.tables e below (T1.setTop (mkF m 7 #[.val (.ref ra), .val (.int iv), .val (.long cv), .second, .val (.long ov), .second] [(.int (4 : Int32)), (.int iv), (.ref ra)])) t → Steps p.tables e below (s₁.setTop (entryFrame m #[(.ref ra), (.int iv), (.long cv), (.long ov)] 6)) t := by
    intro t k
    refine pre0 _ ?_
    show Steps p.tables e below (s₁.setTop (mkF m 0 #[.val (.ref ra), .val (.int iv), .val (.long cv), .second, .val (.long ov), .second] [])) _
    refine XS.aloadN X0.here hx rfl (hb hby d4_0) rfl rfl ?_
    show Steps p.tables e below (s₁.setTop (mkF m 1 #[.val (.ref ra), .val (.int iv), .val (.long cv), .second, .val (.long ov), .second] [(.ref ra)])) _
    refine XS.iloadN X0.here hx rfl (hb hby d4_1) rfl ?_
    show Steps p.tables e below (s₁.setTop (mkF m 2 #[.val (.ref ra), .val (.int iv), .val (.long cv), .second, .val (.long ov), .second] [(.int iv), (.ref ra)])) _
    refine XS.aloadN X0.here hx rfl (hb hby d4_2) rfl rfl ?_
    show Steps p.tables e below (s₁.setTop (mkF m 3 #[.val (.ref ra), .val (.int iv), .val (.long cv), .second, .val (.long ov), .second] [(.ref ra), (.int iv), (.ref ra)])) _
    refine st1 _ ?_
    show Steps p.tables e below (T1.setTop (mkF m 6 #[.val (.ref ra), .val (.int iv), .val (.long cv), .second, .val (.long ov), .second] [(.ref rp), (.int iv), (.ref ra)])) _
    refine X1.arraylength hx (by rw [e1]; exact Arcl2.1) (State.isArrayOf_alike hZ.alike Arcl2.2.1) (g := (mkF m 6 #[.val (.ref ra), .val (.int iv), .val (.long cv), .second, .val (.long ov), .second] [(.ref rp), (.int iv), (.ref ra)])) rfl rfl (hb hby d4_6) _ ?_
    rw [Szcl2]
    exact k
  by_cases hk4 : iv = (4 : Int32)
  · obtain ⟨T5, X5, e5, st5⟩ := getF X1 hx hZ hown (host := "") (Or.inl (hw _ (List.mem_of_getElem? (i := 18) rfl))) Via.refl e1 F_table_ra (g := (mkF m 11 #[.val (.ref ra), .val (.int iv), .val (.long cv), .second, .val (.long ov), .second] [(.ref ra), (.ref ra)])) rfl rfl (hb hby d4_11)
    obtain ⟨cl6, Arcl6, hincl6, hatcl6⟩ := AF.at A_rt (j := (iv - (1 : Int32))) 3 (by rw [hk4]; decide) (by decide)
    obtain ⟨T7, h7, X7, e7, W7, st7⟩ := putF X5 hx hZ hown (host := "") (Or.inl (hw _ (List.mem_of_getElem? (i := 25) rfl))) Via.refl e5 F_matched_ra E_ra (Or.inl (hw _ (List.mem_of_getElem? (i := 26) rfl))) (hw _ (List.mem_of_getElem? (i := 8) rfl)) (ty := .int) (by decide) rfl rfl (g := (mkF m 22 #[.val (.ref ra), .val (.int iv), .val (.long cv), .second, .val (.long ov), .second] [(.int (fq 3)), (.ref ra)])) rfl rfl (hb hby d4_22)
    have N7 := Fr.snoc X7 N0 g_ra
    have Z7 : n0 ≤ h7.size := Nat.le_trans Z0 (Keep.of_wr W7).1
    have K7 : Keep h0 h7 [ra] := K0.wr W7 (Or.inl (List.mem_of_getElem? (i := 0) rfl))
    have f8 : Fld Z h7 ra "skipstitch/search/PrefixTableScan" "matched" "I" (.int (fq 3)) := F_matched_ra.same W7
    have f9 : Exa Z h7 ra "skipstitch/search/PrefixTableScan" := E_ra.wr W7
    have f10 : Fld Z h7 ra "skipstitch/search/PrefixTableScan" "pattern" "[B" (.ref rp) := F_pattern_ra.other W7 (Or.inr (slot_ne (Or.inr (hw _ (List.mem_of_getElem? (i := 17) rfl))) (Or.inl (hw _ (List.mem_of_getElem? (i := 26) rfl))) (by decide) (t := (.array .byte)) (t' := .int) (by decide) (by decide)))
    have f11 : Fld Z h7 ra "skipstitch/search/PrefixTableScan" "table" "[I" (.ref rt) := F_table_ra.other W7 (Or.inr (slot_ne (Or.inr (hw _ (List.mem_of_getElem? (i := 19) rfl))) (Or.inl (hw _ (List.mem_of_getElem? (i := 26) rfl))) (by decide) (t := (.array .int)) (t' := .int) (by decide) (by decide)))
    have f12 : AI Z h7 rp .byte 4 fp := A_rp.other W7 (Ne.symm ne_ra_rp)
    have f13 : AI Z h7 rt .int 4 fq := A_rt.other W7 (Ne.symm ne_ra_rt)
    have f14 : Fld Z h7 ra "skipstitch/search/PrefixTableScan" "comparisons" "J" (.long u_comparisons_ra) := F_comparisons_ra.other W7 (Or.inr (slot_ne (Or.inl (hw _ (List.mem_of_getElem? (i := 28) rfl))) (Or.inl (hw _ (List.mem_of_getElem? (i := 26) rfl))) (by decide) (t := .long) (t' := .int) (by decide) (by decide)))
    have f15 : Fld Z h7 ra "skipstitch/search/PrefixTableScan" "occurrences" "J" (.long u_occurrences_ra) := F_occurrences_ra.other W7 (Or.inr (slot_ne (Or.inl (hw _ (List.mem_of_getElem? (i := 30) rfl))) (Or.inl (hw _ (List.mem_of_getElem? (i := 26) rfl))) (by decide) (t := .long) (t' := .int) (by decide) (by decide)))
    obtain ⟨T16, h16, X16, e16, W16, st16⟩ := putF X7 hx hZ hown (host := "") (Or.inl (hw _ (List.mem_of_getElem? (i := 27) rfl))) Via.refl e7 f14 f9 (Or.inl (hw _ (List.mem_of_getElem? (i := 28) rfl))) (hw _ (List.mem_of_getElem? (i := 8) rfl)) (ty := .long) (by decide) rfl rfl (g := (mkF m 27 #[.val (.ref ra), .val (.int iv), .val (.long cv), .second, .val (.long ov), .second] [(.long cv), (.ref ra)])) rfl rfl (hb hby d4_27)
    have N16 := Fr.snoc X16 N7 g_ra
    have Z16 : n0 ≤ h16.size := Nat.le_trans Z7 (Keep.of_wr W16).1
    have K16 : Keep h0 h16 [ra] := K7.wr W16 (Or.inl (List.mem_of_getElem? (i := 0) rfl))
    have f17 : Fld Z h16 ra "skipstitch/search/PrefixTableScan" "comparisons" "J" (.long cv) := f14.same W16
    have f18 : Exa Z h16 ra "skipstitch/search/PrefixTableScan" := f9.wr W16
    have f19 : Fld Z h16 ra "skipstitch/search/PrefixTableScan" "pattern" "[B" (.ref rp) := f10.other W16 (Or.inr (slot_ne (Or.inr (hw _ (List.mem_of_getElem? (i := 17) rfl))) (Or.inl (hw _ (List.mem_of_getElem? (i := 28) rfl))) (by decide) (t := (.array .byte)) (t' := .long) (by decide) (by decide)))
    have f20 : Fld Z h16 ra "skipstitch/search/PrefixTableScan" "table" "[I" (.ref rt) := f11.other W16 (Or.inr (slot_ne (Or.inr (hw _ (List.mem_of_getElem? (i := 19) rfl))) (Or.inl (hw _ (List.mem_of_getElem? (i := 28) rfl))) (by decide) (t := (.array .int)) (t' := .long) (by decide) (by decide)))
    have f21 : AI Z h16 rp .byte 4 fp := f12.other W16 (Ne.symm ne_ra_rp)
    have f22 : AI Z h16 rt .int 4 fq := f13.other W16 (Ne.symm ne_ra_rt)
    have f23 : Fld Z h16 ra "skipstitch/search/PrefixTableScan" "matched" "I" (.int (fq 3)) := f8.other W16 (Or.inr (slot_ne (Or.inl (hw _ (List.mem_of_getElem? (i := 26) rfl))) (Or.inl (hw _ (List.mem_of_getElem? (i := 28) rfl))) (by decide) (t := .int) (t' := .long) (by decide) (by decide)))
    have f24 : Fld Z h16 ra "skipstitch/search/PrefixTableScan" "occurrences" "J" (.long u_occurrences_ra) := f15.other W16 (Or.inr (slot_ne (Or.inl (hw _ (List.mem_of_getElem? (i := 30) rfl))) (Or.inl (hw _ (List.mem_of_getElem? (i := 28) rfl))) (by decide) (t := .long) (t' := .long) (by decide) (by decide)))
    obtain ⟨T25, h25, X25, e25, W25, st25⟩ := putF X16 hx hZ hown (host := "") (Or.inl (hw _ (List.mem_of_getElem? (i := 29) rfl))) Via.refl e16 f24 f18 (Or.inl (hw _ (List.mem_of_getElem? (i := 30) rfl))) (hw _ (List.mem_of_getElem? (i := 8) rfl)) (ty := .long) (by decide) rfl rfl (g := (mkF m 33 #[.val (.ref ra), .val (.int iv), .val (.long cv), .second, .val (.long ov), .second] [(.long ov), (.ref ra)])) rfl rfl (hb hby d4_33)
    have N25 := Fr.snoc X25 N16 g_ra
    have Z25 : n0 ≤ h25.size := Nat.le_trans Z16 (Keep.of_wr W25).1
    have K25 : Keep h0 h25 [ra] := K16.wr W25 (Or.inl (List.mem_of_getElem? (i := 0) rfl))
    have f26 : Fld Z h25 ra "skipstitch/search/PrefixTableScan" "occurrences" "J" (.long ov) := f24.same W25
    have f27 : Exa Z h25 ra "skipstitch/search/PrefixTableScan" := f18.wr W25
    have f28 : Fld Z h25 ra "skipstitch/search/PrefixTableScan" "pattern" "[B" (.ref rp) := f19.other W25 (Or.inr (slot_ne (Or.inr (hw _ (List.mem_of_getElem? (i := 17) rfl))) (Or.inl (hw _ (List.mem_of_getElem? (i := 30) rfl))) (by decide) (t := (.array .byte)) (t' := .long) (by decide) (by decide)))
    have f29 : Fld Z h25 ra "skipstitch/search/PrefixTableScan" "table" "[I" (.ref rt) := f20.other W25 (Or.inr (slot_ne (Or.inr (hw _ (List.mem_of_getElem? (i := 19) rfl))) (Or.inl (hw _ (List.mem_of_getElem? (i := 30) rfl))) (by decide) (t := (.array .int)) (t' := .long) (by decide) (by decide)))
    have f30 : AI Z h25 rp .byte 4 fp := f21.other W25 (Ne.symm ne_ra_rp)
    have f31 : AI Z h25 rt .int 4 fq := f22.other W25 (Ne.symm ne_ra_rt)
    have f32 : Fld Z h25 ra "skipstitch/search/PrefixTableScan" "matched" "I" (.int (fq 3)) := f23.other W25 (Or.inr (slot_ne (Or.inl (hw _ (List.mem_of_getElem? (i := 26) rfl))) (Or.inl (hw _ (List.mem_of_getElem? (i := 30) rfl))) (by decide) (t := .int) (t' := .long) (by decide) (by decide)))
    have f33 : Fld Z h25 ra "skipstitch/search/PrefixTableScan" "comparisons" "J" (.long cv) := f17.other W25 (Or.inr (slot_ne (Or.inl (hw _ (List.mem_of_getElem? (i := 28) rfl))) (Or.inl (hw _ (List.mem_of_getElem? (i := 30) rfl))) (by decide) (t := .long) (t' := .long) (by decide) (by decide)))
    obtain ⟨fs, hr, hrun, hended, hW, hsame⟩ := X25.leave (v := none) (fun _ => rfl)
    refine ⟨_, _, pre3 _ ?_, hrun, hended, _, _, rfl, ?_, ⟨_, rfl⟩, hW, hsame.mono (by decide) (by decide)⟩
    · show Steps p.tables e below (T1.setTop (mkF m 7 #[.val (.ref ra), .val (.int iv), .val (.long cv), .second, .val (.long ov), .second] [(.int (4 : Int32)), (.int iv), (.ref ra)])) _
      refine XS.icmpNo X1.here hx rfl (hb hby d4_7) rfl (teq hk4).2 ?_
      show Steps p.tables e below (T1.setTop (mkF m 10 #[.val (.ref ra), .val (.int iv), .val (.long cv), .second, .val (.long ov), .second] [(.ref ra)])) _
      refine XS.aloadN X1.here hx rfl (hb hby d4_10) rfl rfl ?_
      show Steps p.tables e below (T1.setTop (mkF m 11 #[.val (.ref ra), .val (.int iv), .val (.long cv), .second, .val (.long ov), .second] [(.ref ra), (.ref ra)])) _
      refine st5 _ ?_
      show Steps p.tables e below (T5.setTop (mkF m 14 #[.val (.ref ra), .val (.int iv), .val (.long cv), .second, .val (.long ov), .second] [(.ref rt), (.ref ra)])) _
      refine XS.iloadN X5.here hx rfl (hb hby d4_14) rfl ?_
      show Steps p.tables e below (T5.setTop (mkF m 15 #[.val (.ref ra), .val (.int iv), .val (.long cv), .second, .val (.long ov), .second] [(.int iv), (.ref rt), (.ref ra)])) _
      refine XS.iconst X5.here hx rfl (hb hby d4_15) ?_
      show Steps p.tables e below (T5.setTop (mkF m 16 #[.val (.ref ra), .val (.int iv), .val (.long cv), .second, .val (.long ov), .second] [(.int (1 : Int32)), (.int iv), (.ref rt), (.ref ra)])) _
      refine XS.isub X5.here hx rfl (hb hby d4_16) rfl ?_
      show Steps p.tables e below (T5.setTop (mkF m 17 #[.val (.ref ra), .val (.int iv), .val (.long cv), .second, .val (.long ov), .second] [(.int (iv - (1 : Int32))), (.ref rt), (.ref ra)])) _
      refine X5.iaload hx (j := (iv - (1 : Int32))) (v := (.int (fq 3))) (by rw [e5]; exact Arcl6.1) (State.isArrayOf_alike hZ.alike Arcl6.2.1) Arcl6.2.2 hincl6 hatcl6 (g := (mkF m 17 #[.val (.ref ra), .val (.int iv), .val (.long cv), .second, .val (.long ov), .second] [(.int (iv - (1 : Int32))), (.ref rt), (.ref ra)])) rfl rfl (hb hby d4_17) _ ?_
      show Steps p.tables e below (T5.setTop (mkF m 18 #[.val (.ref ra), .val (.int iv), .val (.long cv), .second, .val (.long ov), .second] [(.int (fq 3)), (.ref ra)])) _
      refine XS.goto X5.here hx rfl (pc0 := 18) (pc' := 22) rfl (hb hby d4_18) (by decide) (by decide) ?_
      show Steps p.tables e below (T5.setTop (mkF m 22 #[.val (.ref ra), .val (.int iv), .val (.long cv), .second, .val (.long ov), .second] [(.int (fq 3)), (.ref ra)])) _
      refine st7 _ ?_
      show Steps p.tables e below (T7.setTop (mkF m 25 #[.val (.ref ra), .val (.int iv), .val (.long cv), .second, .val (.long ov), .second] [])) _
      refine XS.aloadN X7.here hx rfl (hb hby d4_25) rfl rfl ?_
      show Steps p.tables e below (T7.setTop (mkF m 26 #[.val (.ref ra), .val (.int iv), .val (.long cv), .second, .val (.long ov), .second] [(.ref ra)])) _
      refine XS.lloadN X7.here hx rfl (hb hby d4_26) rfl ?_
      show Steps p.tables e below (T7.setTop (mkF m 27 #[.val (.ref ra), .val (.int iv), .val (.long cv), .second, .val (.long ov), .second] [(.long cv), (.ref ra)])) _
      refine st16 _ ?_
      show Steps p.tables e below (T16.setTop (mkF m 30 #[.val (.ref ra), .val (.int iv), .val (.long cv), .second, .val (.long ov), .second] [])) _
      refine XS.aloadN X16.here hx rfl (hb hby d4_30) rfl rfl ?_
      show Steps p.tables e below (T16.setTop (mkF m 31 #[.val (.ref ra), .val (.int iv), .val (.long cv), .second, .val (.long ov), .second] [(.ref ra)])) _
      refine XS.lload X16.here hx rfl (hb hby d4_31) rfl ?_
      show Steps p.tables e below (T16.setTop (mkF m 33 #[.val (.ref ra), .val (.int iv), .val (.long cv), .second, .val (.long ov), .second] [(.long ov), (.ref ra)])) _
      refine st25 _ ?_
      show Steps p.tables e below (T25.setTop (mkF m 36 #[.val (.ref ra), .val (.int iv), .val (.long cv), .second, .val (.long ov), .second] [])) _
      exact X25.returnOut hx Bd.returns (hb hby d4_36) hr
    · show Q4k4 Z ra iv cv ov rp rt fp fq u_matched_ra u_comparisons_ra u_occurrences_ra h0 n0 _ T25.heap _
      rw [e25]
      have ev61 : (r4k4_matched iv fq) = (fq 3) := by unfold r4k4_matched; rw [if_pos hk4]
      exact ⟨rfl, N25, K25, f28, f29, (by rw [ev61]; exact f32), f33, f26⟩
  · obtain ⟨T34, h34, X34, e34, W34, st34⟩ := putF X1 hx hZ hown (host := "") (Or.inl (hw _ (List.mem_of_getElem? (i := 25) rfl))) Via.refl e1 F_matched_ra E_ra (Or.inl (hw _ (List.mem_of_getElem? (i := 26) rfl))) (hw _ (List.mem_of_getElem? (i := 8) rfl)) (ty := .int) (by decide) rfl rfl (g := (mkF m 22 #[.val (.ref ra), .val (.int iv), .val (.long cv), .second, .val (.long ov), .second] [(.int iv), (.ref ra)])) rfl rfl (hb hby d4_22)
    have N34 := Fr.snoc X34 N0 g_ra
    have Z34 : n0 ≤ h34.size := Nat.le_trans Z0 (Keep.of_wr W34).1
    have K34 : Keep h0 h34 [ra] := K0.wr W34 (Or.inl (List.mem_of_getElem? (i := 0) rfl))
    have f35 : Fld Z h34 ra "skipstitch/search/PrefixTableScan" "matched" "I" (.int iv) := F_matched_ra.same W34
    have f36 : Exa Z h34 ra "skipstitch/search/PrefixTableScan" := E_ra.wr W34
    have f37 : Fld Z h34 ra "skipstitch/search/PrefixTableScan" "pattern" "[B" (.ref rp) := F_pattern_ra.other W34 (Or.inr (slot_ne (Or.inr (hw _ (List.mem_of_getElem? (i := 17) rfl))) (Or.inl (hw _ (List.mem_of_getElem? (i := 26) rfl))) (by decide) (t := (.array .byte)) (t' := .int) (by decide) (by decide)))
    have f38 : Fld Z h34 ra "skipstitch/search/PrefixTableScan" "table" "[I" (.ref rt) := F_table_ra.other W34 (Or.inr (slot_ne (Or.inr (hw _ (List.mem_of_getElem? (i := 19) rfl))) (Or.inl (hw _ (List.mem_of_getElem? (i := 26) rfl))) (by decide) (t := (.array .int)) (t' := .int) (by decide) (by decide)))
    have f39 : AI Z h34 rp .byte 4 fp := A_rp.other W34 (Ne.symm ne_ra_rp)
    have f40 : AI Z h34 rt .int 4 fq := A_rt.other W34 (Ne.symm ne_ra_rt)
    have f41 : Fld Z h34 ra "skipstitch/search/PrefixTableScan" "comparisons" "J" (.long u_comparisons_ra) := F_comparisons_ra.other W34 (Or.inr (slot_ne (Or.inl (hw _ (List.mem_of_getElem? (i := 28) rfl))) (Or.inl (hw _ (List.mem_of_getElem? (i := 26) rfl))) (by decide) (t := .long) (t' := .int) (by decide) (by decide)))
    have f42 : Fld Z h34 ra "skipstitch/search/PrefixTableScan" "occurrences" "J" (.long u_occurrences_ra) := F_occurrences_ra.other W34 (Or.inr (slot_ne (Or.inl (hw _ (List.mem_of_getElem? (i := 30) rfl))) (Or.inl (hw _ (List.mem_of_getElem? (i := 26) rfl))) (by decide) (t := .long) (t' := .int) (by decide) (by decide)))
    obtain ⟨T43, h43, X43, e43, W43, st43⟩ := putF X34 hx hZ hown (host := "") (Or.inl (hw _ (List.mem_of_getElem? (i := 27) rfl))) Via.refl e34 f41 f36 (Or.inl (hw _ (List.mem_of_getElem? (i := 28) rfl))) (hw _ (List.mem_of_getElem? (i := 8) rfl)) (ty := .long) (by decide) rfl rfl (g := (mkF m 27 #[.val (.ref ra), .val (.int iv), .val (.long cv), .second, .val (.long ov), .second] [(.long cv), (.ref ra)])) rfl rfl (hb hby d4_27)
    have N43 := Fr.snoc X43 N34 g_ra
    have Z43 : n0 ≤ h43.size := Nat.le_trans Z34 (Keep.of_wr W43).1
    have K43 : Keep h0 h43 [ra] := K34.wr W43 (Or.inl (List.mem_of_getElem? (i := 0) rfl))
    have f44 : Fld Z h43 ra "skipstitch/search/PrefixTableScan" "comparisons" "J" (.long cv) := f41.same W43
    have f45 : Exa Z h43 ra "skipstitch/search/PrefixTableScan" := f36.wr W43
    have f46 : Fld Z h43 ra "skipstitch/search/PrefixTableScan" "pattern" "[B" (.ref rp) := f37.other W43 (Or.inr (slot_ne (Or.inr (hw _ (List.mem_of_getElem? (i := 17) rfl))) (Or.inl (hw _ (List.mem_of_getElem? (i := 28) rfl))) (by decide) (t := (.array .byte)) (t' := .long) (by decide) (by decide)))
    have f47 : Fld Z h43 ra "skipstitch/search/PrefixTableScan" "table" "[I" (.ref rt) := f38.other W43 (Or.inr (slot_ne (Or.inr (hw _ (List.mem_of_getElem? (i := 19) rfl))) (Or.inl (hw _ (List.mem_of_getElem? (i := 28) rfl))) (by decide) (t := (.array .int)) (t' := .long) (by decide) (by decide)))
    have f48 : AI Z h43 rp .byte 4 fp := f39.other W43 (Ne.symm ne_ra_rp)
    have f49 : AI Z h43 rt .int 4 fq := f40.other W43 (Ne.symm ne_ra_rt)
    have f50 : Fld Z h43 ra "skipstitch/search/PrefixTableScan" "matched" "I" (.int iv) := f35.other W43 (Or.inr (slot_ne (Or.inl (hw _ (List.mem_of_getElem? (i := 26) rfl))) (Or.inl (hw _ (List.mem_of_getElem? (i := 28) rfl))) (by decide) (t := .int) (t' := .long) (by decide) (by decide)))
    have f51 : Fld Z h43 ra "skipstitch/search/PrefixTableScan" "occurrences" "J" (.long u_occurrences_ra) := f42.other W43 (Or.inr (slot_ne (Or.inl (hw _ (List.mem_of_getElem? (i := 30) rfl))) (Or.inl (hw _ (List.mem_of_getElem? (i := 28) rfl))) (by decide) (t := .long) (t' := .long) (by decide) (by decide)))
    obtain ⟨T52, h52, X52, e52, W52, st52⟩ := putF X43 hx hZ hown (host := "") (Or.inl (hw _ (List.mem_of_getElem? (i := 29) rfl))) Via.refl e43 f51 f45 (Or.inl (hw _ (List.mem_of_getElem? (i := 30) rfl))) (hw _ (List.mem_of_getElem? (i := 8) rfl)) (ty := .long) (by decide) rfl rfl (g := (mkF m 33 #[.val (.ref ra), .val (.int iv), .val (.long cv), .second, .val (.long ov), .second] [(.long ov), (.ref ra)])) rfl rfl (hb hby d4_33)
    have N52 := Fr.snoc X52 N43 g_ra
    have Z52 : n0 ≤ h52.size := Nat.le_trans Z43 (Keep.of_wr W52).1
    have K52 : Keep h0 h52 [ra] := K43.wr W52 (Or.inl (List.mem_of_getElem? (i := 0) rfl))
    have f53 : Fld Z h52 ra "skipstitch/search/PrefixTableScan" "occurrences" "J" (.long ov) := f51.same W52
    have f54 : Exa Z h52 ra "skipstitch/search/PrefixTableScan" := f45.wr W52
    have f55 : Fld Z h52 ra "skipstitch/search/PrefixTableScan" "pattern" "[B" (.ref rp) := f46.other W52 (Or.inr (slot_ne (Or.inr (hw _ (List.mem_of_getElem? (i := 17) rfl))) (Or.inl (hw _ (List.mem_of_getElem? (i := 30) rfl))) (by decide) (t := (.array .byte)) (t' := .long) (by decide) (by decide)))
    have f56 : Fld Z h52 ra "skipstitch/search/PrefixTableScan" "table" "[I" (.ref rt) := f47.other W52 (Or.inr (slot_ne (Or.inr (hw _ (List.mem_of_getElem? (i := 19) rfl))) (Or.inl (hw _ (List.mem_of_getElem? (i := 30) rfl))) (by decide) (t := (.array .int)) (t' := .long) (by decide) (by decide)))
    have f57 : AI Z h52 rp .byte 4 fp := f48.other W52 (Ne.symm ne_ra_rp)
    have f58 : AI Z h52 rt .int 4 fq := f49.other W52 (Ne.symm ne_ra_rt)
    have f59 : Fld Z h52 ra "skipstitch/search/PrefixTableScan" "matched" "I" (.int iv) := f50.other W52 (Or.inr (slot_ne (Or.inl (hw _ (List.mem_of_getElem? (i := 26) rfl))) (Or.inl (hw _ (List.mem_of_getElem? (i := 30) rfl))) (by decide) (t := .int) (t' := .long) (by decide) (by decide)))
    have f60 : Fld Z h52 ra "skipstitch/search/PrefixTableScan" "comparisons" "J" (.long cv) := f44.other W52 (Or.inr (slot_ne (Or.inl (hw _ (List.mem_of_getElem? (i := 28) rfl))) (Or.inl (hw _ (List.mem_of_getElem? (i := 30) rfl))) (by decide) (t := .long) (t' := .long) (by decide) (by decide)))
    obtain ⟨fs, hr, hrun, hended, hW, hsame⟩ := X52.leave (v := none) (fun _ => rfl)
    refine ⟨_, _, pre3 _ ?_, hrun, hended, _, _, rfl, ?_, ⟨_, rfl⟩, hW, hsame.mono (by decide) (by decide)⟩
    · show Steps p.tables e below (T1.setTop (mkF m 7 #[.val (.ref ra), .val (.int iv), .val (.long cv), .second, .val (.long ov), .second] [(.int (4 : Int32)), (.int iv), (.ref ra)])) _
      refine XS.icmpYes X1.here hx rfl (pc0 := 7) (pc' := 21) rfl (hb hby d4_7) rfl (feq hk4).2 (by decide) (by decide) ?_
      show Steps p.tables e below (T1.setTop (mkF m 21 #[.val (.ref ra), .val (.int iv), .val (.long cv), .second, .val (.long ov), .second] [(.ref ra)])) _
      refine XS.iloadN X1.here hx rfl (hb hby d4_21) rfl ?_
      show Steps p.tables e below (T1.setTop (mkF m 22 #[.val (.ref ra), .val (.int iv), .val (.long cv), .second, .val (.long ov), .second] [(.int iv), (.ref ra)])) _
      refine st34 _ ?_
      show Steps p.tables e below (T34.setTop (mkF m 25 #[.val (.ref ra), .val (.int iv), .val (.long cv), .second, .val (.long ov), .second] [])) _
      refine XS.aloadN X34.here hx rfl (hb hby d4_25) rfl rfl ?_
      show Steps p.tables e below (T34.setTop (mkF m 26 #[.val (.ref ra), .val (.int iv), .val (.long cv), .second, .val (.long ov), .second] [(.ref ra)])) _
      refine XS.lloadN X34.here hx rfl (hb hby d4_26) rfl ?_
      show Steps p.tables e below (T34.setTop (mkF m 27 #[.val (.ref ra), .val (.int iv), .val (.long cv), .second, .val (.long ov), .second] [(.long cv), (.ref ra)])) _
      refine st43 _ ?_
      show Steps p.tables e below (T43.setTop (mkF m 30 #[.val (.ref ra), .val (.int iv), .val (.long cv), .second, .val (.long ov), .second] [])) _
      refine XS.aloadN X43.here hx rfl (hb hby d4_30) rfl rfl ?_
      show Steps p.tables e below (T43.setTop (mkF m 31 #[.val (.ref ra), .val (.int iv), .val (.long cv), .second, .val (.long ov), .second] [(.ref ra)])) _
      refine XS.lload X43.here hx rfl (hb hby d4_31) rfl ?_
      show Steps p.tables e below (T43.setTop (mkF m 33 #[.val (.ref ra), .val (.int iv), .val (.long cv), .second, .val (.long ov), .second] [(.long ov), (.ref ra)])) _
      refine st52 _ ?_
      show Steps p.tables e below (T52.setTop (mkF m 36 #[.val (.ref ra), .val (.int iv), .val (.long cv), .second, .val (.long ov), .second] [])) _
      exact X52.returnOut hx Bd.returns (hb hby d4_36) hr
    · show Q4k4 Z ra iv cv ov rp rt fp fq u_matched_ra u_comparisons_ra u_occurrences_ra h0 n0 _ T52.heap _
      rw [e52]
      have ev62 : (r4k4_matched iv fq) = iv := by unfold r4k4_matched; rw [if_neg hk4]
      exact ⟨rfl, N52, K52, f55, f56, (by rw [ev62]; exact f59), f60, f53⟩
theorem ef_5 (m : MethodId) (ra : Addr) : entryFrame m #[(.ref ra)] 1 = mkF m 0 #[.val (.ref ra)] [] := by first | (simp [entryFrame, mkF, argsToLocals, Value.category]; done) | rfl
theorem d5_0 : decode prog_30_method_3_code 0 = .ok (.aload_n 0, 1) := by decide +kernel
theorem d5_1 : decode prog_30_method_3_code 1 = .ok (.getfield 17, 3) := by decide +kernel
theorem d5_4 : decode prog_30_method_3_code 4 = .ok (.ireturn, 1) := by decide +kernel
def Q5 (Z : State) (ra : Addr) (wm : Int32) (h0 : Heap) (n0 : Nat) (v : Option Value) (h : Heap) (L : List Loc) : Prop := v = some (.int wm) ∧ Fr n0 L ∧ h = h0
set_option maxRecDepth 65536 in
set_option maxHeartbeats 40000000 in
theorem rm5 (l : Launch) (Z : State) (a0 : Array Value) (hw : ∀ d ∈ tables_1, d.before a0 Z = true) (ws : List Jvm.Cond) (ra : Addr) (wm : Int32) (h0 : Heap) (n0 : Nat) (Z0 : n0 ≤ h0.size) (F_matched_ra : Fld Z h0 ra "skipstitch/search/PrefixTableScan" "matched" "I" (.int wm)) :
    MetFree l (⟨"skipstitch/search/PrefixTableScan", "matched", "()I"⟩ : MethodName) (head1 (Jvm.Cond.code (⟨"skipstitch/search/PrefixTableScan", "matched", "()I"⟩ : MethodName) prog_30_method_3_code 1 (some .int) :: ws) ({ frames := 0, cells := 0, slots := 0, locals := 0 } : Room)) (fun a U => a = #[(.ref ra)] ∧ Z.Warmed39 U.vm ∧ U.heap = h0) (fun _ _ _ _ _ => True) (fun _ U o U' => ∃ v L, o = .returned v ∧ Q5 Z ra wm h0 n0 v U'.heap L ∧ FrameEnd U o U' L ({ frames := 0, cells := 0, slots := 0, locals := 0 } : Room).cells ({ frames := 0, cells := 0, slots := 0, locals := 0 } : Room).slots) := by
  refine MetFree.of_bodySF (plainFor_of_name pn_skipstitch_search_PrefixTableScan) hisR ?_
  intro p e s m args below meth c s₁ Bd hml0 hP hK
  obtain ⟨rfl, hZ, hh⟩ := hP
  have hx := Bd.exec
  have hby := Bd.bytes
  have hml : c.maxLocals = 1 := hml0
  have hown : s.vm.findClass "skipstitch/search/PrefixTableScan" = some m.cls := findClass_of_methodNamed Bd.named
  have hnm := (name_of_methodNamed Bd.named Bd.method).1
  have X0 : Stand p l e ({ frames := 0, cells := 0, slots := 0, locals := 0 } : Room) s m #[(.ref ra)] below meth c s₁ [] 0 0 := Stand.of_body Bd
  have e0 : s₁.heap = h0 := by rw [← hh, Bd.state]; rfl
  have N0 := Fr.nil n0
  have K0 : Keep h0 h0 [] := Keep.refl h0 _
  have pre0 : ∀ t, Steps p.tables e below (s₁.setTop (mkF m 0 #[.val (.ref ra)] [])) t → Steps p.tables e below (s₁.setTop (entryFrame m #[(.ref ra)] 1)) t := fun t k => castTop (ef_5 m ra) k
  obtain ⟨T1, X1, e1, st1⟩ := getF X0 hx hZ hown (host := "") (Or.inl (hw _ (List.mem_of_getElem? (i := 25) rfl))) Via.refl e0 F_matched_ra (g := (mkF m 1 #[.val (.ref ra)] [(.ref ra)])) rfl rfl (hb hby d5_1)
  obtain ⟨fs, hr, hrun, hended, hW, hsame⟩ := X1.leave (v := some (.int wm)) (fun h => by rw [Bd.returns] at h; cases h)
  refine ⟨_, _, pre0 _ ?_, hrun, hended, _, _, rfl, ?_, ⟨_, rfl⟩, hW, hsame.mono (by decide) (by decide)⟩
  · show Steps p.tables e below (s₁.setTop (mkF m 0 #[.val (.ref ra)] [])) _
    refine XS.aloadN X0.here hx rfl (hb hby d5_0) rfl rfl ?_
    show Steps p.tables e below (s₁.setTop (mkF m 1 #[.val (.ref ra)] [(.ref ra)])) _
    refine st1 _ ?_
    show Steps p.tables e below (T1.setTop (mkF m 4 #[.val (.ref ra)] [(.int wm)])) _
    exact retI X1 hx Bd.returns (hb hby d5_4) hr
  · show Q5 Z ra wm h0 n0 _ T1.heap _
    rw [e1]
    exact ⟨rfl, N0, rfl⟩
theorem ef_6 (m : MethodId) (ra : Addr) : entryFrame m #[(.ref ra)] 1 = mkF m 0 #[.val (.ref ra)] [] := by first | (simp [entryFrame, mkF, argsToLocals, Value.category]; done) | rfl
theorem d6_0 : decode prog_30_method_6_code 0 = .ok (.aload_n 0, 1) := by decide +kernel
theorem d6_1 : decode prog_30_method_6_code 1 = .ok (.getfield 21, 3) := by decide +kernel
theorem d6_4 : decode prog_30_method_6_code 4 = .ok (.lreturn, 1) := by decide +kernel
def Q6 (Z : State) (ra : Addr) (wc : Int64) (h0 : Heap) (n0 : Nat) (v : Option Value) (h : Heap) (L : List Loc) : Prop := v = some (.long wc) ∧ Fr n0 L ∧ h = h0
set_option maxRecDepth 65536 in
set_option maxHeartbeats 40000000 in
theorem rm6 (l : Launch) (Z : State) (a0 : Array Value) (hw : ∀ d ∈ tables_1, d.before a0 Z = true) (ws : List Jvm.Cond) (ra : Addr) (wc : Int64) (h0 : Heap) (n0 : Nat) (Z0 : n0 ≤ h0.size) (F_comparisons_ra : Fld Z h0 ra "skipstitch/search/PrefixTableScan" "comparisons" "J" (.long wc)) :
    MetFree l (⟨"skipstitch/search/PrefixTableScan", "comparisons", "()J"⟩ : MethodName) (head1 (Jvm.Cond.code (⟨"skipstitch/search/PrefixTableScan", "comparisons", "()J"⟩ : MethodName) prog_30_method_6_code 1 (some .long) :: ws) ({ frames := 0, cells := 0, slots := 0, locals := 0 } : Room)) (fun a U => a = #[(.ref ra)] ∧ Z.Warmed39 U.vm ∧ U.heap = h0) (fun _ _ _ _ _ => True) (fun _ U o U' => ∃ v L, o = .returned v ∧ Q6 Z ra wc h0 n0 v U'.heap L ∧ FrameEnd U o U' L ({ frames := 0, cells := 0, slots := 0, locals := 0 } : Room).cells ({ frames := 0, cells := 0, slots := 0, locals := 0 } : Room).slots) := by
  refine MetFree.of_bodySF (plainFor_of_name pn_skipstitch_search_PrefixTableScan) hisR ?_
  intro p e s m args below meth c s₁ Bd hml0 hP hK
  obtain ⟨rfl, hZ, hh⟩ := hP
  have hx := Bd.exec
  have hby := Bd.bytes
  have hml : c.maxLocals = 1 := hml0
  have hown : s.vm.findClass "skipstitch/search/PrefixTableScan" = some m.cls := findClass_of_methodNamed Bd.named
  have hnm := (name_of_methodNamed Bd.named Bd.method).1
  have X0 : Stand p l e ({ frames := 0, cells := 0, slots := 0, locals := 0 } : Room) s m #[(.ref ra)] below meth c s₁ [] 0 0 := Stand.of_body Bd
  have e0 : s₁.heap = h0 := by rw [← hh, Bd.state]; rfl
  have N0 := Fr.nil n0
  have K0 : Keep h0 h0 [] := Keep.refl h0 _
  have pre0 : ∀ t, Steps p.tables e below (s₁.setTop (mkF m 0 #[.val (.ref ra)] [])) t → Steps p.tables e below (s₁.setTop (entryFrame m #[(.ref ra)] 1)) t := fun t k => castTop (ef_6 m ra) k
  obtain ⟨T1, X1, e1, st1⟩ := getF X0 hx hZ hown (host := "") (Or.inl (hw _ (List.mem_of_getElem? (i := 27) rfl))) Via.refl e0 F_comparisons_ra (g := (mkF m 1 #[.val (.ref ra)] [(.ref ra)])) rfl rfl (hb hby d6_1)
  obtain ⟨fs, hr, hrun, hended, hW, hsame⟩ := X1.leave (v := some (.long wc)) (fun h => by rw [Bd.returns] at h; cases h)
  refine ⟨_, _, pre0 _ ?_, hrun, hended, _, _, rfl, ?_, ⟨_, rfl⟩, hW, hsame.mono (by decide) (by decide)⟩
  · show Steps p.tables e below (s₁.setTop (mkF m 0 #[.val (.ref ra)] [])) _
    refine XS.aloadN X0.here hx rfl (hb hby d6_0) rfl rfl ?_
    show Steps p.tables e below (s₁.setTop (mkF m 1 #[.val (.ref ra)] [(.ref ra)])) _
    refine st1 _ ?_
    show Steps p.tables e below (T1.setTop (mkF m 4 #[.val (.ref ra)] [(.long wc)])) _
    exact retOut X1 hx Bd.returns rfl (Or.inr (Or.inl ⟨rfl, rfl, _, rfl⟩)) (hb hby d6_4) hr
  · show Q6 Z ra wc h0 n0 _ T1.heap _
    rw [e1]
    exact ⟨rfl, N0, rfl⟩
theorem ef_7 (m : MethodId) (ra : Addr) : entryFrame m #[(.ref ra)] 1 = mkF m 0 #[.val (.ref ra)] [] := by first | (simp [entryFrame, mkF, argsToLocals, Value.category]; done) | rfl
theorem d7_0 : decode prog_30_method_7_code 0 = .ok (.aload_n 0, 1) := by decide +kernel
theorem d7_1 : decode prog_30_method_7_code 1 = .ok (.getfield 25, 3) := by decide +kernel
theorem d7_4 : decode prog_30_method_7_code 4 = .ok (.lreturn, 1) := by decide +kernel
def Q7 (Z : State) (ra : Addr) (wo : Int64) (h0 : Heap) (n0 : Nat) (v : Option Value) (h : Heap) (L : List Loc) : Prop := v = some (.long wo) ∧ Fr n0 L ∧ h = h0
set_option maxRecDepth 65536 in
set_option maxHeartbeats 40000000 in
theorem rm7 (l : Launch) (Z : State) (a0 : Array Value) (hw : ∀ d ∈ tables_1, d.before a0 Z = true) (ws : List Jvm.Cond) (ra : Addr) (wo : Int64) (h0 : Heap) (n0 : Nat) (Z0 : n0 ≤ h0.size) (F_occurrences_ra : Fld Z h0 ra "skipstitch/search/PrefixTableScan" "occurrences" "J" (.long wo)) :
    MetFree l (⟨"skipstitch/search/PrefixTableScan", "occurrences", "()J"⟩ : MethodName) (head1 (Jvm.Cond.code (⟨"skipstitch/search/PrefixTableScan", "occurrences", "()J"⟩ : MethodName) prog_30_method_7_code 1 (some .long) :: ws) ({ frames := 0, cells := 0, slots := 0, locals := 0 } : Room)) (fun a U => a = #[(.ref ra)] ∧ Z.Warmed39 U.vm ∧ U.heap = h0) (fun _ _ _ _ _ => True) (fun _ U o U' => ∃ v L, o = .returned v ∧ Q7 Z ra wo h0 n0 v U'.heap L ∧ FrameEnd U o U' L ({ frames := 0, cells := 0, slots := 0, locals := 0 } : Room).cells ({ frames := 0, cells := 0, slots := 0, locals := 0 } : Room).slots) := by
  refine MetFree.of_bodySF (plainFor_of_name pn_skipstitch_search_PrefixTableScan) hisR ?_
  intro p e s m args below meth c s₁ Bd hml0 hP hK
  obtain ⟨rfl, hZ, hh⟩ := hP
  have hx := Bd.exec
  have hby := Bd.bytes
  have hml : c.maxLocals = 1 := hml0
  have hown : s.vm.findClass "skipstitch/search/PrefixTableScan" = some m.cls := findClass_of_methodNamed Bd.named
  have hnm := (name_of_methodNamed Bd.named Bd.method).1
  have X0 : Stand p l e ({ frames := 0, cells := 0, slots := 0, locals := 0 } : Room) s m #[(.ref ra)] below meth c s₁ [] 0 0 := Stand.of_body Bd
  have e0 : s₁.heap = h0 := by rw [← hh, Bd.state]; rfl
  have N0 := Fr.nil n0
  have K0 : Keep h0 h0 [] := Keep.refl h0 _
  have pre0 : ∀ t, Steps p.tables e below (s₁.setTop (mkF m 0 #[.val (.ref ra)] [])) t → Steps p.tables e below (s₁.setTop (entryFrame m #[(.ref ra)] 1)) t := fun t k => castTop (ef_7 m ra) k
  obtain ⟨T1, X1, e1, st1⟩ := getF X0 hx hZ hown (host := "") (Or.inl (hw _ (List.mem_of_getElem? (i := 29) rfl))) Via.refl e0 F_occurrences_ra (g := (mkF m 1 #[.val (.ref ra)] [(.ref ra)])) rfl rfl (hb hby d7_1)
  obtain ⟨fs, hr, hrun, hended, hW, hsame⟩ := X1.leave (v := some (.long wo)) (fun h => by rw [Bd.returns] at h; cases h)
  refine ⟨_, _, pre0 _ ?_, hrun, hended, _, _, rfl, ?_, ⟨_, rfl⟩, hW, hsame.mono (by decide) (by decide)⟩
  · show Steps p.tables e below (s₁.setTop (mkF m 0 #[.val (.ref ra)] [])) _
    refine XS.aloadN X0.here hx rfl (hb hby d7_0) rfl rfl ?_
    show Steps p.tables e below (s₁.setTop (mkF m 1 #[.val (.ref ra)] [(.ref ra)])) _
    refine st1 _ ?_
    show Steps p.tables e below (T1.setTop (mkF m 4 #[.val (.ref ra)] [(.long wo)])) _
    exact retOut X1 hx Bd.returns rfl (Or.inr (Or.inl ⟨rfl, rfl, _, rfl⟩)) (hb hby d7_4) hr
  · show Q7 Z ra wo h0 n0 _ T1.heap _
    rw [e1]
    exact ⟨rfl, N0, rfl⟩
theorem ef_0 (m : MethodId) (sh : Int32) (tb : Int32) (ma : Int32) (mb : Int32) (cv : Int64) (ov : Int64) : entryFrame m #[(.int sh), (.int tb), (.int ma), (.int mb), (.long cv), (.long ov)] maxLocals = mkF m 0 #[.val (.int sh), .val (.int tb), .val (.int ma), .val (.int mb), .val (.long cv), .second, .val (.long ov), .second, .unset, .unset, .unset, .unset, .unset, .unset, .unset, .unset, .unset, .unset] [] := by first | (simp [entryFrame, mkF, argsToLocals, Value.category, maxLocals]; done) | rfl
theorem pd_0 : parseMethodDescriptor "(II)I" = some ⟨[.int, .int], some .int⟩ := by decide +kernel
theorem pd_1 : parseMethodDescriptor "([B[I)V" = some ⟨[(.array .byte), (.array .int)], none⟩ := by decide +kernel
theorem pd_2 : parseMethodDescriptor "(IJJ)V" = some ⟨[.int, .long, .long], none⟩ := by decide +kernel
theorem pd_3 : parseMethodDescriptor "()I" = some ⟨[], some .int⟩ := by decide +kernel
theorem pd_4 : parseMethodDescriptor "()J" = some ⟨[], some .long⟩ := by decide +kernel
def j0_154_s0 (tb : Int32) (ma : Int32) : Int32 := (if ((ma &&& (2147483647 : Int32)) % (2 : Int32)) = (1 : Int32) then ((((tb.toUInt32 >>> (((8 : Int32) * (0 : Int32)) &&& 31).toUInt32).toInt32) &&& (255 : Int32)) % ((0 : Int32) + (1 : Int32))) else ((ma &&& (2147483647 : Int32)) % (2 : Int32)))
def j0_226_s0 (tb : Int32) (mb : Int32) : Int32 := (if ((mb &&& (2147483647 : Int32)) % (2 : Int32)) = (1 : Int32) then ((((tb.toUInt32 >>> (((8 : Int32) * (0 : Int32)) &&& 31).toUInt32).toInt32) &&& (255 : Int32)) % ((0 : Int32) + (1 : Int32))) else ((mb &&& (2147483647 : Int32)) % (2 : Int32)))
def j0_154_s0_1 (tb : Int32) (ma : Int32) : Int32 := (if ((ma &&& (2147483647 : Int32)) % (3 : Int32)) = (2 : Int32) then ((((tb.toUInt32 >>> (((8 : Int32) * (1 : Int32)) &&& 31).toUInt32).toInt32) &&& (255 : Int32)) % ((1 : Int32) + (1 : Int32))) else ((ma &&& (2147483647 : Int32)) % (3 : Int32)))
def j0_226_s0_1 (tb : Int32) (mb : Int32) : Int32 := (if ((mb &&& (2147483647 : Int32)) % (3 : Int32)) = (2 : Int32) then ((((tb.toUInt32 >>> (((8 : Int32) * (1 : Int32)) &&& 31).toUInt32).toInt32) &&& (255 : Int32)) % ((1 : Int32) + (1 : Int32))) else ((mb &&& (2147483647 : Int32)) % (3 : Int32)))
def j0_154_s0_2 (tb : Int32) (ma : Int32) : Int32 := (if ((ma &&& (2147483647 : Int32)) % (4 : Int32)) = (3 : Int32) then ((((tb.toUInt32 >>> (((8 : Int32) * (2 : Int32)) &&& 31).toUInt32).toInt32) &&& (255 : Int32)) % ((2 : Int32) + (1 : Int32))) else ((ma &&& (2147483647 : Int32)) % (4 : Int32)))
def j0_226_s0_2 (tb : Int32) (mb : Int32) : Int32 := (if ((mb &&& (2147483647 : Int32)) % (4 : Int32)) = (3 : Int32) then ((((tb.toUInt32 >>> (((8 : Int32) * (2 : Int32)) &&& 31).toUInt32).toInt32) &&& (255 : Int32)) % ((2 : Int32) + (1 : Int32))) else ((mb &&& (2147483647 : Int32)) % (4 : Int32)))
def j0_154_s0_3 (tb : Int32) (ma : Int32) : Int32 := (if ((ma &&& (2147483647 : Int32)) % (5 : Int32)) = (4 : Int32) then ((((tb.toUInt32 >>> (((8 : Int32) * (3 : Int32)) &&& 31).toUInt32).toInt32) &&& (255 : Int32)) % ((3 : Int32) + (1 : Int32))) else ((ma &&& (2147483647 : Int32)) % (5 : Int32)))
def j0_226_s0_3 (tb : Int32) (mb : Int32) : Int32 := (if ((mb &&& (2147483647 : Int32)) % (5 : Int32)) = (4 : Int32) then ((((tb.toUInt32 >>> (((8 : Int32) * (3 : Int32)) &&& 31).toUInt32).toInt32) &&& (255 : Int32)) % ((3 : Int32) + (1 : Int32))) else ((mb &&& (2147483647 : Int32)) % (5 : Int32)))
theorem own_k (sh : Int32) : ((sh &&& (3 : Int32)) + (1 : Int32)) = (1 : Int32) ∨ ((sh &&& (3 : Int32)) + (1 : Int32)) = (2 : Int32) ∨ ((sh &&& (3 : Int32)) + (1 : Int32)) = (3 : Int32) ∨ ((sh &&& (3 : Int32)) + (1 : Int32)) = (4 : Int32) := by
  have : 0 ≤ (sh &&& (3 : Int32)).toInt ∧ (sh &&& (3 : Int32)).toInt ≤ 3 := c_and sh (3 : Int32) (by decide)
  generalize (sh &&& (3 : Int32)) = u1_ at *
  first | have : (u1_ + (1 : Int32)).toInt = u1_.toInt + 1 := own_iadd rfl rfl (by omega) (by omega) | (have := c_iadd u1_ (1 : Int32); simp only [Int32.reduceToInt, Int64.reduceToInt] at this; have := rng32 (u1_ + (1 : Int32)))
  generalize (u1_ + (1 : Int32)) = u2_ at *
  try simp only [Int32.reduceToInt, Int64.reduceToInt] at *
  simp only [← Int32.toInt_inj, Int32.reduceToInt, Int64.reduceToInt]
  omega
def Q0 (Z : State) (sh : Int32) (tb : Int32) (ma : Int32) (mb : Int32) (cv : Int64) (ov : Int64) (h0 : Heap) (n0 : Nat) (v : Option Value) (h : Heap) (L : List Loc) : Prop := v = some (.int (1 : Int32)) ∧ Fr n0 L
set_option maxRecDepth 65536 in
set_option maxHeartbeats 40000000 in
theorem rm0 (l : Launch) (Z : State) (a0 : Array Value) (hw : ∀ d ∈ tables_1, d.before a0 Z = true) (ws : List Jvm.Cond) (sh : Int32) (tb : Int32) (ma : Int32) (mb : Int32) (cv : Int64) (ov : Int64) (h0 : Heap) (n0 : Nat) (Z0 : n0 ≤ h0.size) :
    MetFree l x (head1 (Jvm.Cond.code x code maxLocals ret :: ws) room_1) (fun a U => a = #[(.int sh), (.int tb), (.int ma), (.int mb), (.long cv), (.long ov)] ∧ Z.Warmed39 U.vm ∧ U.heap = h0) (fun _ _ _ _ _ => True) (fun _ U o U' => ∃ v L, o = .returned v ∧ Q0 Z sh tb ma mb cv ov h0 n0 v U'.heap L ∧ FrameEnd U o U' L room_1.cells room_1.slots) := by
  refine MetFree.of_bodySF (plainFor_of_name pn_skipstitch_search_PrefixTableScanResumePinLaw) hisR ?_
  intro p e s m args below meth c s₁ Bd hml0 hP hK
  obtain ⟨rfl, hZ, hh⟩ := hP
  have hx := Bd.exec
  have hby := Bd.bytes
  have hml : c.maxLocals = 18 := hml0
  have hown : s.vm.findClass "skipstitch/search/PrefixTableScanResumePinLaw" = some m.cls := findClass_of_methodNamed Bd.named
  have hnm := (name_of_methodNamed Bd.named Bd.method).1
  have X0 : Stand p l e room_1 s m #[(.int sh), (.int tb), (.int ma), (.int mb), (.long cv), (.long ov)] below meth c s₁ [] 0 0 := Stand.of_body Bd
  have e0 : s₁.heap = h0 := by rw [← hh, Bd.state]; rfl
  have N0 := Fr.nil n0
  have K0 : Keep h0 h0 [] := Keep.refl h0 _
  have pre0 : ∀ t, Steps p.tables e below (s₁.setTop (mkF m 0 #[.val (.int sh), .val (.int tb), .val (.int ma), .val (.int mb), .val (.long cv), .second, .val (.long ov), .second, .unset, .unset, .unset, .unset, .unset, .unset, .unset, .unset, .unset, .unset] [])) t → Steps p.tables e below (s₁.setTop (entryFrame m #[(.int sh), (.int tb), (.int ma), (.int mb), (.long cv), (.long ov)] maxLocals)) t := fun t k => castTop (ef_0 m sh tb ma mb cv ov) k
  have pre1 : ∀ t, Steps p.tables e below (s₁.setTop (mkF m 5 #[.val (.int sh), .val (.int tb), .val (.int ma), .val (.int mb), .val (.long cv), .second, .val (.long ov), .second, .unset, .unset, .unset, .unset, .unset, .unset, .unset, .unset, .unset, .unset] [(.int ((sh &&& (3 : Int32)) + (1 : Int32)))])) t → Steps p.tables e below (s₁.setTop (entryFrame m #[(.int sh), (.int tb), (.int ma), (.int mb), (.long cv), (.long ov)] maxLocals)) t := by
    intro t k
    refine pre0 _ ?_
    show Steps p.tables e below (s₁.setTop (mkF m 0 #[.val (.int sh), .val (.int tb), .val (.int ma), .val (.int mb), .val (.long cv), .second, .val (.long ov), .second, .unset, .unset, .unset, .unset, .unset, .unset, .unset, .unset, .unset, .unset] [])) _
    refine XS.iloadN X0.here hx rfl (hb hby at_0) rfl ?_
    show Steps p.tables e below (s₁.setTop (mkF m 1 #[.val (.int sh), .val (.int tb), .val (.int ma), .val (.int mb), .val (.long cv), .second, .val (.long ov), .second, .unset, .unset, .unset, .unset, .unset, .unset, .unset, .unset, .unset, .unset] [(.int sh)])) _
    refine XS.iconst X0.here hx rfl (hb hby at_1) ?_
    show Steps p.tables e below (s₁.setTop (mkF m 2 #[.val (.int sh), .val (.int tb), .val (.int ma), .val (.int mb), .val (.long cv), .second, .val (.long ov), .second, .unset, .unset, .unset, .unset, .unset, .unset, .unset, .unset, .unset, .unset] [(.int (3 : Int32)), (.int sh)])) _
    refine XS.iand X0.here hx rfl (hb hby at_2) rfl ?_
    show Steps p.tables e below (s₁.setTop (mkF m 3 #[.val (.int sh), .val (.int tb), .val (.int ma), .val (.int mb), .val (.long cv), .second, .val (.long ov), .second, .unset, .unset, .unset, .unset, .unset, .unset, .unset, .unset, .unset, .unset] [(.int (sh &&& (3 : Int32)))])) _
    refine XS.iconst X0.here hx rfl (hb hby at_3) ?_
    show Steps p.tables e below (s₁.setTop (mkF m 4 #[.val (.int sh), .val (.int tb), .val (.int ma), .val (.int mb), .val (.long cv), .second, .val (.long ov), .second, .unset, .unset, .unset, .unset, .unset, .unset, .unset, .unset, .unset, .unset] [(.int (1 : Int32)), (.int (sh &&& (3 : Int32)))])) _
    refine XS.iadd X0.here hx rfl (hb hby at_4) rfl ?_
    exact k
  rcases own_k sh with hk2 | hk2 | hk2 | hk2
  · have pre3 : ∀ t, Steps p.tables e below (s₁.setTop (mkF m 5 #[.val (.int sh), .val (.int tb), .val (.int ma), .val (.int mb), .val (.long cv), .second, .val (.long ov), .second, .unset, .unset, .unset, .unset, .unset, .unset, .unset, .unset, .unset, .unset] [(.int (1 : Int32))])) t → Steps p.tables e below (s₁.setTop (entryFrame m #[(.int sh), (.int tb), (.int ma), (.int mb), (.long cv), (.long ov)] maxLocals)) t := by
      intro t k
      refine pre1 _ ?_
      rw [hk2]
      exact k
    obtain ⟨T4, h4, k4, X4, e4, E4, A4, st4⟩ := newP X0 hx hZ (hw _ (List.mem_of_getElem? (i := 0) rfl)) e0 (g := (mkF m 9 #[.val (.int sh), .val (.int tb), .val (.int ma), .val (.int mb), .val (.long cv), .second, .val (.long ov), .second, .val (.int (1 : Int32)), .unset, .unset, .unset, .unset, .unset, .unset, .unset, .unset, .unset] [(.int (1 : Int32))])) rfl (hb hby at_9) rfl (by decide) (cap := 1) (by decide) (by decide) (by decide) (by decide)
    obtain ⟨b4, g4⟩ : ∃ z, z = h0.size := ⟨_, rfl⟩
    rw [← g4] at A4 st4
    have gg4 : n0 ≤ b4 := Nat.le_trans Z0 (Nat.le_of_eq g4.symm)
    have Z4 : n0 ≤ h4.size := Nat.le_trans Z0 E4.1
    have f5 : AI Z h4 b4 .byte 1 zI := AF.new A4 (by decide)
    obtain ⟨T6, h6, k6, X6, e6, E6, A6, st6⟩ := newP X4 hx hZ (hw _ (List.mem_of_getElem? (i := 1) rfl)) e4 (g := (mkF m 15 #[.val (.int sh), .val (.int tb), .val (.int ma), .val (.int mb), .val (.long cv), .second, .val (.long ov), .second, .val (.int (1 : Int32)), .val (.ref b4), .unset, .unset, .unset, .unset, .unset, .unset, .unset, .unset] [(.int (1 : Int32))])) rfl (hb hby at_15) rfl (by decide) (cap := 1) (by decide) (by decide) (by decide) (by decide)
    obtain ⟨b6, g6⟩ : ∃ z, z = h4.size := ⟨_, rfl⟩
    rw [← g6] at A6 st6
    have ne7 : b4 ≠ b6 := Nat.ne_of_lt (Nat.lt_of_lt_of_le f5.lt (Nat.le_of_eq g6.symm))
    have gg6 : n0 ≤ b6 := Nat.le_trans Z4 (Nat.le_of_eq g6.symm)
    have f8 : AI Z h6 b4 .byte 1 zI := f5.ext E6
    have Z6 : n0 ≤ h6.size := Nat.le_trans Z4 E6.1
    have f9 : AI Z h6 b6 .int 1 zI := AF.new A6 (by decide)
    obtain ⟨cl10, Arcl10, hincl10, -⟩ := AF.at f8 (j := (0 : Int32)) 0 (by decide) (by decide)
    obtain ⟨T11, h11, X11, e11, W11, st11⟩ := stB X6 hx hZ e6 Arcl10 (j := (0 : Int32)) hincl10 (g := (mkF m 26 #[.val (.int sh), .val (.int tb), .val (.int ma), .val (.int mb), .val (.long cv), .second, .val (.long ov), .second, .val (.int (1 : Int32)), .val (.ref b4), .val (.ref b6), .unset, .unset, .unset, .unset, .unset, .unset, .unset] [(.int ((sh >>> ((2 : Int32) &&& 31)).toInt8.toInt32)), (.int (0 : Int32)), (.ref b4)])) rfl rfl (hb hby at_26)
    rw [own_nb] at W11
    have N11 := Fr.snoc X11 N0 gg4
    have Z11 : n0 ≤ h11.size := Nat.le_trans Z6 (Keep.of_wr W11).1
    have f12 : AI Z h11 b4 .byte 1 (up zI 0 ((sh >>> ((2 : Int32) &&& 31)).toInt8.toInt32)) := AF.setI f8 W11 0 (by decide)
    have f13 : AI Z h11 b6 .int 1 zI := f9.other W11 (Ne.symm ne7)
    obtain ⟨_, _, ⟨T14, L14, k14, n14⟩, -, X14, ⟨Lc14, hQ14, l14, y14, z14⟩, st14⟩ := Jvm.LawKit.callS X11 hx (y := (⟨"skipstitch/search/PrefixTableScanResumePinLaw", "entry", "(II)I"⟩ : MethodName)) hown (mvT hZ (hw _ (List.mem_of_getElem? (i := 2) rfl))) (mvT hZ (hw _ (List.mem_of_getElem? (i := 3) rfl))) (mvT hZ (hw _ (List.mem_of_getElem? (i := 4) rfl))) (mvT hZ (hw _ (List.mem_of_getElem? (i := 5) rfl))) (by decide) (backOf (W := 2) (rm1 l Z a0 hw [] tb (0 : Int32) h11 n0 Z11 (by decide)) hZ (hw _ (List.mem_of_getElem? (i := 5) rfl)) (hw _ (List.mem_of_getElem? (i := 4) rfl)) (by decide) (by decide)) (g := (mkF m 32 #[.val (.int sh), .val (.int tb), .val (.int ma), .val (.int mb), .val (.long cv), .second, .val (.long ov), .second, .val (.int (1 : Int32)), .val (.ref b4), .val (.ref b6), .unset, .unset, .unset, .unset, .unset, .unset, .unset] [(.int (0 : Int32)), (.int tb), (.int (0 : Int32)), (.ref b6)])) rfl (by rw [hml]; rfl) (argsL := [(.int tb), (.int (0 : Int32))]) (rest := [(.int (0 : Int32)), (.ref b6)]) (lenOf pd_0 rfl) rfl (by show 2 * 0 + _ ≤ _; exact Nat.le_of_eq rfl) (hb hby at_32) (fun _ _ => ⟨rfl, e11, (by decide : 2 + 0 ≤ _), (by decide : 2 + 0 ≤ _)⟩)
    dsimp only [Pt.U, Pt.locs, Pt.cells, Pt.slots] at X14 l14 y14 z14 st14 hQ14
    subst l14 y14 z14
    obtain ⟨rfl, N14q, e14⟩ := hQ14
    have N14 := Fr.app N11 N14q
    obtain ⟨cl15, Arcl15, hincl15, -⟩ := AF.at f13 (j := (0 : Int32)) 0 (by decide) (by decide)
    obtain ⟨T16, h16, X16, e16, W16, st16⟩ := stI X14 hx hZ e14 Arcl15 (j := (0 : Int32)) hincl15 (g := (mkF m 35 #[.val (.int sh), .val (.int tb), .val (.int ma), .val (.int mb), .val (.long cv), .second, .val (.long ov), .second, .val (.int (1 : Int32)), .val (.ref b4), .val (.ref b6), .unset, .unset, .unset, .unset, .unset, .unset, .unset] [(.int ((((tb.toUInt32 >>> (((8 : Int32) * (0 : Int32)) &&& 31).toUInt32).toInt32) &&& (255 : Int32)) % ((0 : Int32) + (1 : Int32)))), (.int (0 : Int32)), (.ref b6)])) rfl rfl (hb hby at_35)
    have N16 := Fr.snoc X16 N14 gg6
    have Z16 : n0 ≤ h16.size := Nat.le_trans Z11 (Keep.of_wr W16).1
    have f17 : AI Z h16 b6 .int 1 (up zI 0 ((((tb.toUInt32 >>> (((8 : Int32) * (0 : Int32)) &&& 31).toUInt32).toInt32) &&& (255 : Int32)) % ((0 : Int32) + (1 : Int32)))) := AF.setI f13 W16 0 (by decide)
    have f18 : AI Z h16 b4 .byte 1 (up zI 0 ((sh >>> ((2 : Int32) &&& 31)).toInt8.toInt32)) := f12.other W16 ne7
    obtain ⟨T19, h19, X19, e19, E19, A19, D19, -, st19⟩ := newO X16 hx hZ hown (hw _ (List.mem_of_getElem? (i := 7) rfl)) (hw _ (List.mem_of_getElem? (i := 8) rfl)) (hw _ (List.mem_of_getElem? (i := 9) rfl)) e16 (g := (mkF m 130 #[.val (.int sh), .val (.int tb), .val (.int ma), .val (.int mb), .val (.long cv), .second, .val (.long ov), .second, .val (.int (1 : Int32)), .val (.ref b4), .val (.ref b6), .val (.int ((ma &&& (2147483647 : Int32)) % (2 : Int32))), .val (.int ((mb &&& (2147483647 : Int32)) % (2 : Int32))), .unset, .unset, .unset, .unset, .unset] [])) rfl (hb hby at_130) (by decide) (by decide)
    obtain ⟨b19, g19⟩ : ∃ z, z = h16.size := ⟨_, rfl⟩
    rw [← g19] at A19 D19 st19
    have ne20 : b4 ≠ b19 := Nat.ne_of_lt (Nat.lt_of_lt_of_le f18.lt (Nat.le_of_eq g19.symm))
    have ne21 : b6 ≠ b19 := Nat.ne_of_lt (Nat.lt_of_lt_of_le f17.lt (Nat.le_of_eq g19.symm))
    have gg19 : n0 ≤ b19 := Nat.le_trans Z16 (Nat.le_of_eq g19.symm)
    have f22 : AI Z h19 b4 .byte 1 (up zI 0 ((sh >>> ((2 : Int32) &&& 31)).toInt8.toInt32)) := f18.ext E19
    have f23 : AI Z h19 b6 .int 1 (up zI 0 ((((tb.toUInt32 >>> (((8 : Int32) * (0 : Int32)) &&& 31).toUInt32).toInt32) &&& (255 : Int32)) % ((0 : Int32) + (1 : Int32)))) := f17.ext E19
    have Z19 : n0 ≤ h19.size := Nat.le_trans Z16 E19.1
    have f24 : Fld Z h19 b19 "skipstitch/search/PrefixTableScan" "pattern" "[B" .null := D19 (Or.inr (hw _ (List.mem_of_getElem? (i := 17) rfl))) (ty := (.array .byte)) (by decide)
    have f25 : Fld Z h19 b19 "skipstitch/search/PrefixTableScan" "table" "[I" .null := D19 (Or.inr (hw _ (List.mem_of_getElem? (i := 19) rfl))) (ty := (.array .int)) (by decide)
    have f26 : Fld Z h19 b19 "skipstitch/search/PrefixTableScan" "matched" "I" (.int (0 : Int32)) := D19 (Or.inl (hw _ (List.mem_of_getElem? (i := 26) rfl))) (ty := .int) (by decide)
    have f27 : Fld Z h19 b19 "skipstitch/search/PrefixTableScan" "comparisons" "J" (.long (0 : Int64)) := D19 (Or.inl (hw _ (List.mem_of_getElem? (i := 28) rfl))) (ty := .long) (by decide)
    have f28 : Fld Z h19 b19 "skipstitch/search/PrefixTableScan" "occurrences" "J" (.long (0 : Int64)) := D19 (Or.inl (hw _ (List.mem_of_getElem? (i := 30) rfl))) (ty := .long) (by decide)
    obtain ⟨_, _, ⟨T29, L29, k29, n29⟩, -, X29, ⟨Lc29, hQ29, l29, y29, z29⟩, st29⟩ := X19.specialBack hx (y := (⟨"skipstitch/search/PrefixTableScan", "<init>", "([B[I)V"⟩ : MethodName)) rfl hown (mvT hZ (hw _ (List.mem_of_getElem? (i := 10) rfl))) (mvT hZ (hw _ (List.mem_of_getElem? (i := 11) rfl))) (mvT hZ (hw _ (List.mem_of_getElem? (i := 12) rfl))) (by decide) (backOf (W := 1) (rm2 l Z a0 hw [] b19 b4 b6 h19 n0 Z19 A19 f24 f25 gg19 f26 f27 f28) hZ (hw _ (List.mem_of_getElem? (i := 12) rfl)) (hw _ (List.mem_of_getElem? (i := 9) rfl)) (by decide) (by decide)) (g := (mkF m 138 #[.val (.int sh), .val (.int tb), .val (.int ma), .val (.int mb), .val (.long cv), .second, .val (.long ov), .second, .val (.int (1 : Int32)), .val (.ref b4), .val (.ref b6), .val (.int ((ma &&& (2147483647 : Int32)) % (2 : Int32))), .val (.int ((mb &&& (2147483647 : Int32)) % (2 : Int32))), .unset, .unset, .unset, .unset, .unset] [(.ref b6), (.ref b4), (.ref b19), (.ref b19)])) rfl (by rw [hml]; rfl) (Steps.refl _) (a := b19) (argsL := [(.ref b4), (.ref b6)]) (rest := [(.ref b19)]) (lenOf pd_1 rfl) rfl (by show 2 * 0 + _ ≤ _; exact Nat.le_of_eq rfl) (hb hby at_138) (fun _ _ => ⟨rfl, e19, (by decide : 3 + 0 ≤ _), (by decide : 7 + 0 ≤ _)⟩)
    dsimp only [Pt.U, Pt.locs, Pt.cells, Pt.slots] at X29 l29 y29 z29 st29 hQ29
    subst l29 y29 z29
    obtain ⟨rfl, N29q, K29c, f30, f31, f32, f33, f34⟩ := hQ29
    have N29 := Fr.app N16 N29q
    have f35 : AI Z T29.heap b4 .byte 1 (up zI 0 ((sh >>> ((2 : Int32) &&& 31)).toInt8.toInt32)) := f22.keep K29c (ninS ne20 nin0)
    have f36 : AI Z T29.heap b6 .int 1 (up zI 0 ((((tb.toUInt32 >>> (((8 : Int32) * (0 : Int32)) &&& 31).toUInt32).toInt32) &&& (255 : Int32)) % ((0 : Int32) + (1 : Int32)))) := f23.keep K29c (ninS ne21 nin0)
    have f37 : Exa Z T29.heap b19 "skipstitch/search/PrefixTableScan" := A19.keep K29c
    have Z29 : n0 ≤ T29.heap.size := Nat.le_trans Z19 K29c.1
    obtain ⟨cq38, kq38, q38a, q38b, q38c⟩ := isOf hZ rfl f37
    obtain ⟨_, _, ⟨T38, L38, k38, n38⟩, -, X38, ⟨Lc38, hQ38, l38, y38, z38⟩, st38⟩ := X29.virtualBack hx (y := (⟨"skipstitch/search/PrefixTableScan", "resume", "(IJJ)V"⟩ : MethodName)) (z := (⟨"skipstitch/search/PrefixTableScan", "resume", "(IJJ)V"⟩ : MethodName)) hown (mvT hZ (hw _ (List.mem_of_getElem? (i := 20) rfl))) (mvT hZ (hw _ (List.mem_of_getElem? (i := 21) rfl))) (notFace_of_selects (args := #[]) (mvT hZ (hw _ (List.mem_of_getElem? (i := 23) rfl)))) (mvT hZ (hw _ (List.mem_of_getElem? (i := 23) rfl))) (mvT hZ (hw _ (List.mem_of_getElem? (i := 22) rfl))) (by decide) (backOf (W := 0) (rm4k1 l Z a0 hw [] b19 ((ma &&& (2147483647 : Int32)) % (2 : Int32)) cv ov b4 b6 (up zI 0 ((sh >>> ((2 : Int32) &&& 31)).toInt8.toInt32)) (up zI 0 ((((tb.toUInt32 >>> (((8 : Int32) * (0 : Int32)) &&& 31).toUInt32).toInt32) &&& (255 : Int32)) % ((0 : Int32) + (1 : Int32)))) (0 : Int32) (0 : Int64) (0 : Int64) T29.heap n0 Z29 f37 f30 f31 f35 f36 (Ne.symm ne20) (Ne.symm ne21) f32 f33 f34 gg19) hZ (hw _ (List.mem_of_getElem? (i := 24) rfl)) (hw _ (List.mem_of_getElem? (i := 9) rfl)) (by decide) (by decide)) q38a q38c (g := (mkF m 151 #[.val (.int sh), .val (.int tb), .val (.int ma), .val (.int mb), .val (.long cv), .second, .val (.long ov), .second, .val (.int (1 : Int32)), .val (.ref b4), .val (.ref b6), .val (.int ((ma &&& (2147483647 : Int32)) % (2 : Int32))), .val (.int ((mb &&& (2147483647 : Int32)) % (2 : Int32))), .val (.ref b19), .unset, .unset, .unset, .unset] [(.long ov), (.long cv), (.int ((ma &&& (2147483647 : Int32)) % (2 : Int32))), (.ref b19)])) rfl (by rw [hml]; rfl) (Steps.refl _) (argsL := [(.int ((ma &&& (2147483647 : Int32)) % (2 : Int32))), (.long cv), (.long ov)]) (rest := []) (lenOf pd_2 rfl) rfl (by show 2 * 0 + _ ≤ _; exact Nat.le_of_eq rfl) (hb hby at_151) (fun _ _ => ⟨rfl, rfl, (by decide : 3 + 0 ≤ _), (by decide : 7 + 0 ≤ _)⟩)
    dsimp only [Pt.U, Pt.locs, Pt.cells, Pt.slots] at X38 l38 y38 z38 st38 hQ38
    subst l38 y38 z38
    obtain ⟨rfl, N38q, K38c, f39, f40, f41, f42, f43⟩ := hQ38
    have N38 := Fr.app N29 N38q
    have f44 : AI Z T38.heap b4 .byte 1 (up zI 0 ((sh >>> ((2 : Int32) &&& 31)).toInt8.toInt32)) := f35.keep K38c (ninS ne20 nin0)
    have f45 : AI Z T38.heap b6 .int 1 (up zI 0 ((((tb.toUInt32 >>> (((8 : Int32) * (0 : Int32)) &&& 31).toUInt32).toInt32) &&& (255 : Int32)) % ((0 : Int32) + (1 : Int32)))) := f36.keep K38c (ninS ne21 nin0)
    have f46 : Exa Z T38.heap b19 "skipstitch/search/PrefixTableScan" := f37.keep K38c
    have Z38 : n0 ≤ T38.heap.size := Nat.le_trans Z29 K38c.1
    have pre47 : ∀ t, Steps p.tables e below (T38.setTop (mkF m 154 #[.val (.int sh), .val (.int tb), .val (.int ma), .val (.int mb), .val (.long cv), .second, .val (.long ov), .second, .val (.int (1 : Int32)), .val (.ref b4), .val (.ref b6), .val (.int ((ma &&& (2147483647 : Int32)) % (2 : Int32))), .val (.int ((mb &&& (2147483647 : Int32)) % (2 : Int32))), .val (.ref b19), .unset, .unset, .unset, .unset] [])) t → Steps p.tables e below (s₁.setTop (entryFrame m #[(.int sh), (.int tb), (.int ma), (.int mb), (.long cv), (.long ov)] maxLocals)) t := by
      intro t k
      refine pre3 _ ?_
      show Steps p.tables e below (s₁.setTop (mkF m 5 #[.val (.int sh), .val (.int tb), .val (.int ma), .val (.int mb), .val (.long cv), .second, .val (.long ov), .second, .unset, .unset, .unset, .unset, .unset, .unset, .unset, .unset, .unset, .unset] [(.int (1 : Int32))])) _
      refine XS.istore X0.here hx rfl (hb hby at_5) rfl (l' := #[.val (.int sh), .val (.int tb), .val (.int ma), .val (.int mb), .val (.long cv), .second, .val (.long ov), .second, .val (.int (1 : Int32)), .unset, .unset, .unset, .unset, .unset, .unset, .unset, .unset, .unset]) rfl ?_
      show Steps p.tables e below (s₁.setTop (mkF m 7 #[.val (.int sh), .val (.int tb), .val (.int ma), .val (.int mb), .val (.long cv), .second, .val (.long ov), .second, .val (.int (1 : Int32)), .unset, .unset, .unset, .unset, .unset, .unset, .unset, .unset, .unset] [])) _
      refine XS.iload X0.here hx rfl (hb hby at_7) rfl ?_
      show Steps p.tables e below (s₁.setTop (mkF m 9 #[.val (.int sh), .val (.int tb), .val (.int ma), .val (.int mb), .val (.long cv), .second, .val (.long ov), .second, .val (.int (1 : Int32)), .unset, .unset, .unset, .unset, .unset, .unset, .unset, .unset, .unset] [(.int (1 : Int32))])) _
      refine st4 _ ?_
      show Steps p.tables e below (T4.setTop (mkF m 11 #[.val (.int sh), .val (.int tb), .val (.int ma), .val (.int mb), .val (.long cv), .second, .val (.long ov), .second, .val (.int (1 : Int32)), .unset, .unset, .unset, .unset, .unset, .unset, .unset, .unset, .unset] [(.ref b4)])) _
      refine XS.astore X4.here hx rfl (hb hby at_11) rfl rfl (l' := #[.val (.int sh), .val (.int tb), .val (.int ma), .val (.int mb), .val (.long cv), .second, .val (.long ov), .second, .val (.int (1 : Int32)), .val (.ref b4), .unset, .unset, .unset, .unset, .unset, .unset, .unset, .unset]) rfl ?_
      show Steps p.tables e below (T4.setTop (mkF m 13 #[.val (.int sh), .val (.int tb), .val (.int ma), .val (.int mb), .val (.long cv), .second, .val (.long ov), .second, .val (.int (1 : Int32)), .val (.ref b4), .unset, .unset, .unset, .unset, .unset, .unset, .unset, .unset] [])) _
      refine XS.iload X4.here hx rfl (hb hby at_13) rfl ?_
      show Steps p.tables e below (T4.setTop (mkF m 15 #[.val (.int sh), .val (.int tb), .val (.int ma), .val (.int mb), .val (.long cv), .second, .val (.long ov), .second, .val (.int (1 : Int32)), .val (.ref b4), .unset, .unset, .unset, .unset, .unset, .unset, .unset, .unset] [(.int (1 : Int32))])) _
      refine st6 _ ?_
      show Steps p.tables e below (T6.setTop (mkF m 17 #[.val (.int sh), .val (.int tb), .val (.int ma), .val (.int mb), .val (.long cv), .second, .val (.long ov), .second, .val (.int (1 : Int32)), .val (.ref b4), .unset, .unset, .unset, .unset, .unset, .unset, .unset, .unset] [(.ref b6)])) _
      refine XS.astore X6.here hx rfl (hb hby at_17) rfl rfl (l' := #[.val (.int sh), .val (.int tb), .val (.int ma), .val (.int mb), .val (.long cv), .second, .val (.long ov), .second, .val (.int (1 : Int32)), .val (.ref b4), .val (.ref b6), .unset, .unset, .unset, .unset, .unset, .unset, .unset]) rfl ?_
      show Steps p.tables e below (T6.setTop (mkF m 19 #[.val (.int sh), .val (.int tb), .val (.int ma), .val (.int mb), .val (.long cv), .second, .val (.long ov), .second, .val (.int (1 : Int32)), .val (.ref b4), .val (.ref b6), .unset, .unset, .unset, .unset, .unset, .unset, .unset] [])) _
      refine XS.aload X6.here hx rfl (hb hby at_19) rfl rfl ?_
      show Steps p.tables e below (T6.setTop (mkF m 21 #[.val (.int sh), .val (.int tb), .val (.int ma), .val (.int mb), .val (.long cv), .second, .val (.long ov), .second, .val (.int (1 : Int32)), .val (.ref b4), .val (.ref b6), .unset, .unset, .unset, .unset, .unset, .unset, .unset] [(.ref b4)])) _
      refine XS.iconst X6.here hx rfl (hb hby at_21) ?_
      show Steps p.tables e below (T6.setTop (mkF m 22 #[.val (.int sh), .val (.int tb), .val (.int ma), .val (.int mb), .val (.long cv), .second, .val (.long ov), .second, .val (.int (1 : Int32)), .val (.ref b4), .val (.ref b6), .unset, .unset, .unset, .unset, .unset, .unset, .unset] [(.int (0 : Int32)), (.ref b4)])) _
      refine XS.iloadN X6.here hx rfl (hb hby at_22) rfl ?_
      show Steps p.tables e below (T6.setTop (mkF m 23 #[.val (.int sh), .val (.int tb), .val (.int ma), .val (.int mb), .val (.long cv), .second, .val (.long ov), .second, .val (.int (1 : Int32)), .val (.ref b4), .val (.ref b6), .unset, .unset, .unset, .unset, .unset, .unset, .unset] [(.int sh), (.int (0 : Int32)), (.ref b4)])) _
      refine XS.iconst X6.here hx rfl (hb hby at_23) ?_
      show Steps p.tables e below (T6.setTop (mkF m 24 #[.val (.int sh), .val (.int tb), .val (.int ma), .val (.int mb), .val (.long cv), .second, .val (.long ov), .second, .val (.int (1 : Int32)), .val (.ref b4), .val (.ref b6), .unset, .unset, .unset, .unset, .unset, .unset, .unset] [(.int (2 : Int32)), (.int sh), (.int (0 : Int32)), (.ref b4)])) _
      refine XS.ishr X6.here hx rfl (hb hby at_24) rfl ?_
      show Steps p.tables e below (T6.setTop (mkF m 25 #[.val (.int sh), .val (.int tb), .val (.int ma), .val (.int mb), .val (.long cv), .second, .val (.long ov), .second, .val (.int (1 : Int32)), .val (.ref b4), .val (.ref b6), .unset, .unset, .unset, .unset, .unset, .unset, .unset] [(.int (sh >>> ((2 : Int32) &&& 31))), (.int (0 : Int32)), (.ref b4)])) _
      refine XS.i2b X6.here hx rfl (hb hby at_25) rfl ?_
      show Steps p.tables e below (T6.setTop (mkF m 26 #[.val (.int sh), .val (.int tb), .val (.int ma), .val (.int mb), .val (.long cv), .second, .val (.long ov), .second, .val (.int (1 : Int32)), .val (.ref b4), .val (.ref b6), .unset, .unset, .unset, .unset, .unset, .unset, .unset] [(.int ((sh >>> ((2 : Int32) &&& 31)).toInt8.toInt32)), (.int (0 : Int32)), (.ref b4)])) _
      refine st11 _ ?_
      show Steps p.tables e below (T11.setTop (mkF m 27 #[.val (.int sh), .val (.int tb), .val (.int ma), .val (.int mb), .val (.long cv), .second, .val (.long ov), .second, .val (.int (1 : Int32)), .val (.ref b4), .val (.ref b6), .unset, .unset, .unset, .unset, .unset, .unset, .unset] [])) _
      refine XS.aload X11.here hx rfl (hb hby at_27) rfl rfl ?_
      show Steps p.tables e below (T11.setTop (mkF m 29 #[.val (.int sh), .val (.int tb), .val (.int ma), .val (.int mb), .val (.long cv), .second, .val (.long ov), .second, .val (.int (1 : Int32)), .val (.ref b4), .val (.ref b6), .unset, .unset, .unset, .unset, .unset, .unset, .unset] [(.ref b6)])) _
      refine XS.iconst X11.here hx rfl (hb hby at_29) ?_
      show Steps p.tables e below (T11.setTop (mkF m 30 #[.val (.int sh), .val (.int tb), .val (.int ma), .val (.int mb), .val (.long cv), .second, .val (.long ov), .second, .val (.int (1 : Int32)), .val (.ref b4), .val (.ref b6), .unset, .unset, .unset, .unset, .unset, .unset, .unset] [(.int (0 : Int32)), (.ref b6)])) _
      refine XS.iloadN X11.here hx rfl (hb hby at_30) rfl ?_
      show Steps p.tables e below (T11.setTop (mkF m 31 #[.val (.int sh), .val (.int tb), .val (.int ma), .val (.int mb), .val (.long cv), .second, .val (.long ov), .second, .val (.int (1 : Int32)), .val (.ref b4), .val (.ref b6), .unset, .unset, .unset, .unset, .unset, .unset, .unset] [(.int tb), (.int (0 : Int32)), (.ref b6)])) _
      refine XS.iconst X11.here hx rfl (hb hby at_31) ?_
      show Steps p.tables e below (T11.setTop (mkF m 32 #[.val (.int sh), .val (.int tb), .val (.int ma), .val (.int mb), .val (.long cv), .second, .val (.long ov), .second, .val (.int (1 : Int32)), .val (.ref b4), .val (.ref b6), .unset, .unset, .unset, .unset, .unset, .unset, .unset] [(.int (0 : Int32)), (.int tb), (.int (0 : Int32)), (.ref b6)])) _
      refine st14 _ ?_
      show Steps p.tables e below (T14.setTop (mkF m 35 #[.val (.int sh), .val (.int tb), .val (.int ma), .val (.int mb), .val (.long cv), .second, .val (.long ov), .second, .val (.int (1 : Int32)), .val (.ref b4), .val (.ref b6), .unset, .unset, .unset, .unset, .unset, .unset, .unset] [(.int ((((tb.toUInt32 >>> (((8 : Int32) * (0 : Int32)) &&& 31).toUInt32).toInt32) &&& (255 : Int32)) % ((0 : Int32) + (1 : Int32)))), (.int (0 : Int32)), (.ref b6)])) _
      refine st16 _ ?_
      show Steps p.tables e below (T16.setTop (mkF m 36 #[.val (.int sh), .val (.int tb), .val (.int ma), .val (.int mb), .val (.long cv), .second, .val (.long ov), .second, .val (.int (1 : Int32)), .val (.ref b4), .val (.ref b6), .unset, .unset, .unset, .unset, .unset, .unset, .unset] [])) _
      refine XS.iload X16.here hx rfl (hb hby at_36) rfl ?_
      show Steps p.tables e below (T16.setTop (mkF m 38 #[.val (.int sh), .val (.int tb), .val (.int ma), .val (.int mb), .val (.long cv), .second, .val (.long ov), .second, .val (.int (1 : Int32)), .val (.ref b4), .val (.ref b6), .unset, .unset, .unset, .unset, .unset, .unset, .unset] [(.int (1 : Int32))])) _
      refine XS.iconst X16.here hx rfl (hb hby at_38) ?_
      show Steps p.tables e below (T16.setTop (mkF m 39 #[.val (.int sh), .val (.int tb), .val (.int ma), .val (.int mb), .val (.long cv), .second, .val (.long ov), .second, .val (.int (1 : Int32)), .val (.ref b4), .val (.ref b6), .unset, .unset, .unset, .unset, .unset, .unset, .unset] [(.int (1 : Int32)), (.int (1 : Int32))])) _
      refine XS.icmpYes X16.here hx rfl (pc0 := 39) (pc' := 60) rfl (hb hby at_39) rfl (flt (by decide : ¬ ((1 : Int32) < (1 : Int32)))).2.2.2 (by decide) (by decide) ?_
      show Steps p.tables e below (T16.setTop (mkF m 60 #[.val (.int sh), .val (.int tb), .val (.int ma), .val (.int mb), .val (.long cv), .second, .val (.long ov), .second, .val (.int (1 : Int32)), .val (.ref b4), .val (.ref b6), .unset, .unset, .unset, .unset, .unset, .unset, .unset] [])) _
      refine XS.iload X16.here hx rfl (hb hby at_60) rfl ?_
      show Steps p.tables e below (T16.setTop (mkF m 62 #[.val (.int sh), .val (.int tb), .val (.int ma), .val (.int mb), .val (.long cv), .second, .val (.long ov), .second, .val (.int (1 : Int32)), .val (.ref b4), .val (.ref b6), .unset, .unset, .unset, .unset, .unset, .unset, .unset] [(.int (1 : Int32))])) _
      refine XS.iconst X16.here hx rfl (hb hby at_62) ?_
      show Steps p.tables e below (T16.setTop (mkF m 63 #[.val (.int sh), .val (.int tb), .val (.int ma), .val (.int mb), .val (.long cv), .second, .val (.long ov), .second, .val (.int (1 : Int32)), .val (.ref b4), .val (.ref b6), .unset, .unset, .unset, .unset, .unset, .unset, .unset] [(.int (2 : Int32)), (.int (1 : Int32))])) _
      refine XS.icmpYes X16.here hx rfl (pc0 := 63) (pc' := 84) rfl (hb hby at_63) rfl (flt (by decide : ¬ ((2 : Int32) < (1 : Int32)))).2.2.2 (by decide) (by decide) ?_
      show Steps p.tables e below (T16.setTop (mkF m 84 #[.val (.int sh), .val (.int tb), .val (.int ma), .val (.int mb), .val (.long cv), .second, .val (.long ov), .second, .val (.int (1 : Int32)), .val (.ref b4), .val (.ref b6), .unset, .unset, .unset, .unset, .unset, .unset, .unset] [])) _
      refine XS.iload X16.here hx rfl (hb hby at_84) rfl ?_
      show Steps p.tables e below (T16.setTop (mkF m 86 #[.val (.int sh), .val (.int tb), .val (.int ma), .val (.int mb), .val (.long cv), .second, .val (.long ov), .second, .val (.int (1 : Int32)), .val (.ref b4), .val (.ref b6), .unset, .unset, .unset, .unset, .unset, .unset, .unset] [(.int (1 : Int32))])) _
      refine XS.iconst X16.here hx rfl (hb hby at_86) ?_
      show Steps p.tables e below (T16.setTop (mkF m 87 #[.val (.int sh), .val (.int tb), .val (.int ma), .val (.int mb), .val (.long cv), .second, .val (.long ov), .second, .val (.int (1 : Int32)), .val (.ref b4), .val (.ref b6), .unset, .unset, .unset, .unset, .unset, .unset, .unset] [(.int (3 : Int32)), (.int (1 : Int32))])) _
      refine XS.icmpYes X16.here hx rfl (pc0 := 87) (pc' := 108) rfl (hb hby at_87) rfl (flt (by decide : ¬ ((3 : Int32) < (1 : Int32)))).2.2.2 (by decide) (by decide) ?_
      show Steps p.tables e below (T16.setTop (mkF m 108 #[.val (.int sh), .val (.int tb), .val (.int ma), .val (.int mb), .val (.long cv), .second, .val (.long ov), .second, .val (.int (1 : Int32)), .val (.ref b4), .val (.ref b6), .unset, .unset, .unset, .unset, .unset, .unset, .unset] [])) _
      refine XS.iloadN X16.here hx rfl (hb hby at_108) rfl ?_
      show Steps p.tables e below (T16.setTop (mkF m 109 #[.val (.int sh), .val (.int tb), .val (.int ma), .val (.int mb), .val (.long cv), .second, .val (.long ov), .second, .val (.int (1 : Int32)), .val (.ref b4), .val (.ref b6), .unset, .unset, .unset, .unset, .unset, .unset, .unset] [(.int ma)])) _
      refine X16.ldcInt hx hown (mvT hZ (hw _ (List.mem_of_getElem? (i := 6) rfl))) (g := (mkF m 109 #[.val (.int sh), .val (.int tb), .val (.int ma), .val (.int mb), .val (.long cv), .second, .val (.long ov), .second, .val (.int (1 : Int32)), .val (.ref b4), .val (.ref b6), .unset, .unset, .unset, .unset, .unset, .unset, .unset] [(.int ma)])) rfl (hb hby at_109) _ ?_
      show Steps p.tables e below (T16.setTop (mkF m 111 #[.val (.int sh), .val (.int tb), .val (.int ma), .val (.int mb), .val (.long cv), .second, .val (.long ov), .second, .val (.int (1 : Int32)), .val (.ref b4), .val (.ref b6), .unset, .unset, .unset, .unset, .unset, .unset, .unset] [(.int (2147483647 : Int32)), (.int ma)])) _
      refine XS.iand X16.here hx rfl (hb hby at_111) rfl ?_
      show Steps p.tables e below (T16.setTop (mkF m 112 #[.val (.int sh), .val (.int tb), .val (.int ma), .val (.int mb), .val (.long cv), .second, .val (.long ov), .second, .val (.int (1 : Int32)), .val (.ref b4), .val (.ref b6), .unset, .unset, .unset, .unset, .unset, .unset, .unset] [(.int (ma &&& (2147483647 : Int32)))])) _
      refine XS.iload X16.here hx rfl (hb hby at_112) rfl ?_
      show Steps p.tables e below (T16.setTop (mkF m 114 #[.val (.int sh), .val (.int tb), .val (.int ma), .val (.int mb), .val (.long cv), .second, .val (.long ov), .second, .val (.int (1 : Int32)), .val (.ref b4), .val (.ref b6), .unset, .unset, .unset, .unset, .unset, .unset, .unset] [(.int (1 : Int32)), (.int (ma &&& (2147483647 : Int32)))])) _
      refine XS.iconst X16.here hx rfl (hb hby at_114) ?_
      show Steps p.tables e below (T16.setTop (mkF m 115 #[.val (.int sh), .val (.int tb), .val (.int ma), .val (.int mb), .val (.long cv), .second, .val (.long ov), .second, .val (.int (1 : Int32)), .val (.ref b4), .val (.ref b6), .unset, .unset, .unset, .unset, .unset, .unset, .unset] [(.int (1 : Int32)), (.int (1 : Int32)), (.int (ma &&& (2147483647 : Int32)))])) _
      refine XS.iadd X16.here hx rfl (hb hby at_115) rfl ?_
      show Steps p.tables e below (T16.setTop (mkF m 116 #[.val (.int sh), .val (.int tb), .val (.int ma), .val (.int mb), .val (.long cv), .second, .val (.long ov), .second, .val (.int (1 : Int32)), .val (.ref b4), .val (.ref b6), .unset, .unset, .unset, .unset, .unset, .unset, .unset] [(.int (2 : Int32)), (.int (ma &&& (2147483647 : Int32)))])) _
      refine iremM X16 hx rfl (hb hby at_116) rfl (by decide) ?_
      show Steps p.tables e below (T16.setTop (mkF m 117 #[.val (.int sh), .val (.int tb), .val (.int ma), .val (.int mb), .val (.long cv), .second, .val (.long ov), .second, .val (.int (1 : Int32)), .val (.ref b4), .val (.ref b6), .unset, .unset, .unset, .unset, .unset, .unset, .unset] [(.int ((ma &&& (2147483647 : Int32)) % (2 : Int32)))])) _
      refine XS.istore X16.here hx rfl (hb hby at_117) rfl (l' := #[.val (.int sh), .val (.int tb), .val (.int ma), .val (.int mb), .val (.long cv), .second, .val (.long ov), .second, .val (.int (1 : Int32)), .val (.ref b4), .val (.ref b6), .val (.int ((ma &&& (2147483647 : Int32)) % (2 : Int32))), .unset, .unset, .unset, .unset, .unset, .unset]) rfl ?_
      show Steps p.tables e below (T16.setTop (mkF m 119 #[.val (.int sh), .val (.int tb), .val (.int ma), .val (.int mb), .val (.long cv), .second, .val (.long ov), .second, .val (.int (1 : Int32)), .val (.ref b4), .val (.ref b6), .val (.int ((ma &&& (2147483647 : Int32)) % (2 : Int32))), .unset, .unset, .unset, .unset, .unset, .unset] [])) _
      refine XS.iloadN X16.here hx rfl (hb hby at_119) rfl ?_
      show Steps p.tables e below (T16.setTop (mkF m 120 #[.val (.int sh), .val (.int tb), .val (.int ma), .val (.int mb), .val (.long cv), .second, .val (.long ov), .second, .val (.int (1 : Int32)), .val (.ref b4), .val (.ref b6), .val (.int ((ma &&& (2147483647 : Int32)) % (2 : Int32))), .unset, .unset, .unset, .unset, .unset, .unset] [(.int mb)])) _
      refine X16.ldcInt hx hown (mvT hZ (hw _ (List.mem_of_getElem? (i := 6) rfl))) (g := (mkF m 120 #[.val (.int sh), .val (.int tb), .val (.int ma), .val (.int mb), .val (.long cv), .second, .val (.long ov), .second, .val (.int (1 : Int32)), .val (.ref b4), .val (.ref b6), .val (.int ((ma &&& (2147483647 : Int32)) % (2 : Int32))), .unset, .unset, .unset, .unset, .unset, .unset] [(.int mb)])) rfl (hb hby at_120) _ ?_
      show Steps p.tables e below (T16.setTop (mkF m 122 #[.val (.int sh), .val (.int tb), .val (.int ma), .val (.int mb), .val (.long cv), .second, .val (.long ov), .second, .val (.int (1 : Int32)), .val (.ref b4), .val (.ref b6), .val (.int ((ma &&& (2147483647 : Int32)) % (2 : Int32))), .unset, .unset, .unset, .unset, .unset, .unset] [(.int (2147483647 : Int32)), (.int mb)])) _
      refine XS.iand X16.here hx rfl (hb hby at_122) rfl ?_
      show Steps p.tables e below (T16.setTop (mkF m 123 #[.val (.int sh), .val (.int tb), .val (.int ma), .val (.int mb), .val (.long cv), .second, .val (.long ov), .second, .val (.int (1 : Int32)), .val (.ref b4), .val (.ref b6), .val (.int ((ma &&& (2147483647 : Int32)) % (2 : Int32))), .unset, .unset, .unset, .unset, .unset, .unset] [(.int (mb &&& (2147483647 : Int32)))])) _
      refine XS.iload X16.here hx rfl (hb hby at_123) rfl ?_
      show Steps p.tables e below (T16.setTop (mkF m 125 #[.val (.int sh), .val (.int tb), .val (.int ma), .val (.int mb), .val (.long cv), .second, .val (.long ov), .second, .val (.int (1 : Int32)), .val (.ref b4), .val (.ref b6), .val (.int ((ma &&& (2147483647 : Int32)) % (2 : Int32))), .unset, .unset, .unset, .unset, .unset, .unset] [(.int (1 : Int32)), (.int (mb &&& (2147483647 : Int32)))])) _
      refine XS.iconst X16.here hx rfl (hb hby at_125) ?_
      show Steps p.tables e below (T16.setTop (mkF m 126 #[.val (.int sh), .val (.int tb), .val (.int ma), .val (.int mb), .val (.long cv), .second, .val (.long ov), .second, .val (.int (1 : Int32)), .val (.ref b4), .val (.ref b6), .val (.int ((ma &&& (2147483647 : Int32)) % (2 : Int32))), .unset, .unset, .unset, .unset, .unset, .unset] [(.int (1 : Int32)), (.int (1 : Int32)), (.int (mb &&& (2147483647 : Int32)))])) _
      refine XS.iadd X16.here hx rfl (hb hby at_126) rfl ?_
      show Steps p.tables e below (T16.setTop (mkF m 127 #[.val (.int sh), .val (.int tb), .val (.int ma), .val (.int mb), .val (.long cv), .second, .val (.long ov), .second, .val (.int (1 : Int32)), .val (.ref b4), .val (.ref b6), .val (.int ((ma &&& (2147483647 : Int32)) % (2 : Int32))), .unset, .unset, .unset, .unset, .unset, .unset] [(.int (2 : Int32)), (.int (mb &&& (2147483647 : Int32)))])) _
      refine iremM X16 hx rfl (hb hby at_127) rfl (by decide) ?_
      show Steps p.tables e below (T16.setTop (mkF m 128 #[.val (.int sh), .val (.int tb), .val (.int ma), .val (.int mb), .val (.long cv), .second, .val (.long ov), .second, .val (.int (1 : Int32)), .val (.ref b4), .val (.ref b6), .val (.int ((ma &&& (2147483647 : Int32)) % (2 : Int32))), .unset, .unset, .unset, .unset, .unset, .unset] [(.int ((mb &&& (2147483647 : Int32)) % (2 : Int32)))])) _
      refine XS.istore X16.here hx rfl (hb hby at_128) rfl (l' := #[.val (.int sh), .val (.int tb), .val (.int ma), .val (.int mb), .val (.long cv), .second, .val (.long ov), .second, .val (.int (1 : Int32)), .val (.ref b4), .val (.ref b6), .val (.int ((ma &&& (2147483647 : Int32)) % (2 : Int32))), .val (.int ((mb &&& (2147483647 : Int32)) % (2 : Int32))), .unset, .unset, .unset, .unset, .unset]) rfl ?_
      show Steps p.tables e below (T16.setTop (mkF m 130 #[.val (.int sh), .val (.int tb), .val (.int ma), .val (.int mb), .val (.long cv), .second, .val (.long ov), .second, .val (.int (1 : Int32)), .val (.ref b4), .val (.ref b6), .val (.int ((ma &&& (2147483647 : Int32)) % (2 : Int32))), .val (.int ((mb &&& (2147483647 : Int32)) % (2 : Int32))), .unset, .unset, .unset, .unset, .unset] [])) _
      refine st19 _ ?_
      show Steps p.tables e below (T19.setTop (mkF m 133 #[.val (.int sh), .val (.int tb), .val (.int ma), .val (.int mb), .val (.long cv), .second, .val (.long ov), .second, .val (.int (1 : Int32)), .val (.ref b4), .val (.ref b6), .val (.int ((ma &&& (2147483647 : Int32)) % (2 : Int32))), .val (.int ((mb &&& (2147483647 : Int32)) % (2 : Int32))), .unset, .unset, .unset, .unset, .unset] [(.ref b19)])) _
      refine XS.dup X19.here hx rfl (hb hby at_133) rfl rfl ?_
      show Steps p.tables e below (T19.setTop (mkF m 134 #[.val (.int sh), .val (.int tb), .val (.int ma), .val (.int mb), .val (.long cv), .second, .val (.long ov), .second, .val (.int (1 : Int32)), .val (.ref b4), .val (.ref b6), .val (.int ((ma &&& (2147483647 : Int32)) % (2 : Int32))), .val (.int ((mb &&& (2147483647 : Int32)) % (2 : Int32))), .unset, .unset, .unset, .unset, .unset] [(.ref b19), (.ref b19)])) _
      refine XS.aload X19.here hx rfl (hb hby at_134) rfl rfl ?_
      show Steps p.tables e below (T19.setTop (mkF m 136 #[.val (.int sh), .val (.int tb), .val (.int ma), .val (.int mb), .val (.long cv), .second, .val (.long ov), .second, .val (.int (1 : Int32)), .val (.ref b4), .val (.ref b6), .val (.int ((ma &&& (2147483647 : Int32)) % (2 : Int32))), .val (.int ((mb &&& (2147483647 : Int32)) % (2 : Int32))), .unset, .unset, .unset, .unset, .unset] [(.ref b4), (.ref b19), (.ref b19)])) _
      refine XS.aload X19.here hx rfl (hb hby at_136) rfl rfl ?_
      show Steps p.tables e below (T19.setTop (mkF m 138 #[.val (.int sh), .val (.int tb), .val (.int ma), .val (.int mb), .val (.long cv), .second, .val (.long ov), .second, .val (.int (1 : Int32)), .val (.ref b4), .val (.ref b6), .val (.int ((ma &&& (2147483647 : Int32)) % (2 : Int32))), .val (.int ((mb &&& (2147483647 : Int32)) % (2 : Int32))), .unset, .unset, .unset, .unset, .unset] [(.ref b6), (.ref b4), (.ref b19), (.ref b19)])) _
      refine st29.trans ?_
      show Steps p.tables e below (T29.setTop (mkF m 141 #[.val (.int sh), .val (.int tb), .val (.int ma), .val (.int mb), .val (.long cv), .second, .val (.long ov), .second, .val (.int (1 : Int32)), .val (.ref b4), .val (.ref b6), .val (.int ((ma &&& (2147483647 : Int32)) % (2 : Int32))), .val (.int ((mb &&& (2147483647 : Int32)) % (2 : Int32))), .unset, .unset, .unset, .unset, .unset] [(.ref b19)])) _
      refine XS.astore X29.here hx rfl (hb hby at_141) rfl rfl (l' := #[.val (.int sh), .val (.int tb), .val (.int ma), .val (.int mb), .val (.long cv), .second, .val (.long ov), .second, .val (.int (1 : Int32)), .val (.ref b4), .val (.ref b6), .val (.int ((ma &&& (2147483647 : Int32)) % (2 : Int32))), .val (.int ((mb &&& (2147483647 : Int32)) % (2 : Int32))), .val (.ref b19), .unset, .unset, .unset, .unset]) rfl ?_
      show Steps p.tables e below (T29.setTop (mkF m 143 #[.val (.int sh), .val (.int tb), .val (.int ma), .val (.int mb), .val (.long cv), .second, .val (.long ov), .second, .val (.int (1 : Int32)), .val (.ref b4), .val (.ref b6), .val (.int ((ma &&& (2147483647 : Int32)) % (2 : Int32))), .val (.int ((mb &&& (2147483647 : Int32)) % (2 : Int32))), .val (.ref b19), .unset, .unset, .unset, .unset] [])) _
      refine XS.aload X29.here hx rfl (hb hby at_143) rfl rfl ?_
      show Steps p.tables e below (T29.setTop (mkF m 145 #[.val (.int sh), .val (.int tb), .val (.int ma), .val (.int mb), .val (.long cv), .second, .val (.long ov), .second, .val (.int (1 : Int32)), .val (.ref b4), .val (.ref b6), .val (.int ((ma &&& (2147483647 : Int32)) % (2 : Int32))), .val (.int ((mb &&& (2147483647 : Int32)) % (2 : Int32))), .val (.ref b19), .unset, .unset, .unset, .unset] [(.ref b19)])) _
      refine XS.iload X29.here hx rfl (hb hby at_145) rfl ?_
      show Steps p.tables e below (T29.setTop (mkF m 147 #[.val (.int sh), .val (.int tb), .val (.int ma), .val (.int mb), .val (.long cv), .second, .val (.long ov), .second, .val (.int (1 : Int32)), .val (.ref b4), .val (.ref b6), .val (.int ((ma &&& (2147483647 : Int32)) % (2 : Int32))), .val (.int ((mb &&& (2147483647 : Int32)) % (2 : Int32))), .val (.ref b19), .unset, .unset, .unset, .unset] [(.int ((ma &&& (2147483647 : Int32)) % (2 : Int32))), (.ref b19)])) _
      refine XS.lload X29.here hx rfl (hb hby at_147) rfl ?_
      show Steps p.tables e below (T29.setTop (mkF m 149 #[.val (.int sh), .val (.int tb), .val (.int ma), .val (.int mb), .val (.long cv), .second, .val (.long ov), .second, .val (.int (1 : Int32)), .val (.ref b4), .val (.ref b6), .val (.int ((ma &&& (2147483647 : Int32)) % (2 : Int32))), .val (.int ((mb &&& (2147483647 : Int32)) % (2 : Int32))), .val (.ref b19), .unset, .unset, .unset, .unset] [(.long cv), (.int ((ma &&& (2147483647 : Int32)) % (2 : Int32))), (.ref b19)])) _
      refine XS.lload X29.here hx rfl (hb hby at_149) rfl ?_
      show Steps p.tables e below (T29.setTop (mkF m 151 #[.val (.int sh), .val (.int tb), .val (.int ma), .val (.int mb), .val (.long cv), .second, .val (.long ov), .second, .val (.int (1 : Int32)), .val (.ref b4), .val (.ref b6), .val (.int ((ma &&& (2147483647 : Int32)) % (2 : Int32))), .val (.int ((mb &&& (2147483647 : Int32)) % (2 : Int32))), .val (.ref b19), .unset, .unset, .unset, .unset] [(.long ov), (.long cv), (.int ((ma &&& (2147483647 : Int32)) % (2 : Int32))), (.ref b19)])) _
      refine st38.trans ?_
      exact k
    obtain ⟨T55, Lo55, X55, e55, N55, pre55⟩ : ∃ (T' : State) (lo : List Loc), Stand p l e room_1 s m #[(.int sh), (.int tb), (.int ma), (.int mb), (.long cv), (.long ov)] below meth c T' lo 3 7 ∧ T'.heap = T38.heap ∧ Fr n0 lo ∧ ∀ t, Steps p.tables e below (T'.setTop (mkF m 174 #[.val (.int sh), .val (.int tb), .val (.int ma), .val (.int mb), .val (.long cv), .second, .val (.long ov), .second, .val (.int (1 : Int32)), .val (.ref b4), .val (.ref b6), .val (.int ((ma &&& (2147483647 : Int32)) % (2 : Int32))), .val (.int ((mb &&& (2147483647 : Int32)) % (2 : Int32))), .val (.ref b19), .unset, .unset, .unset, .unset] [(.int (j0_154_s0 tb ma))])) t → Steps p.tables e below (s₁.setTop (entryFrame m #[(.int sh), (.int tb), (.int ma), (.int mb), (.long cv), (.long ov)] maxLocals)) t := by
      have pre48 : ∀ t, Steps p.tables e below (T38.setTop (mkF m 158 #[.val (.int sh), .val (.int tb), .val (.int ma), .val (.int mb), .val (.long cv), .second, .val (.long ov), .second, .val (.int (1 : Int32)), .val (.ref b4), .val (.ref b6), .val (.int ((ma &&& (2147483647 : Int32)) % (2 : Int32))), .val (.int ((mb &&& (2147483647 : Int32)) % (2 : Int32))), .val (.ref b19), .unset, .unset, .unset, .unset] [(.int (1 : Int32)), (.int ((ma &&& (2147483647 : Int32)) % (2 : Int32)))])) t → Steps p.tables e below (s₁.setTop (entryFrame m #[(.int sh), (.int tb), (.int ma), (.int mb), (.long cv), (.long ov)] maxLocals)) t := by
        intro t k
        refine pre47 _ ?_
        show Steps p.tables e below (T38.setTop (mkF m 154 #[.val (.int sh), .val (.int tb), .val (.int ma), .val (.int mb), .val (.long cv), .second, .val (.long ov), .second, .val (.int (1 : Int32)), .val (.ref b4), .val (.ref b6), .val (.int ((ma &&& (2147483647 : Int32)) % (2 : Int32))), .val (.int ((mb &&& (2147483647 : Int32)) % (2 : Int32))), .val (.ref b19), .unset, .unset, .unset, .unset] [])) _
        refine XS.iload X38.here hx rfl (hb hby at_154) rfl ?_
        show Steps p.tables e below (T38.setTop (mkF m 156 #[.val (.int sh), .val (.int tb), .val (.int ma), .val (.int mb), .val (.long cv), .second, .val (.long ov), .second, .val (.int (1 : Int32)), .val (.ref b4), .val (.ref b6), .val (.int ((ma &&& (2147483647 : Int32)) % (2 : Int32))), .val (.int ((mb &&& (2147483647 : Int32)) % (2 : Int32))), .val (.ref b19), .unset, .unset, .unset, .unset] [(.int ((ma &&& (2147483647 : Int32)) % (2 : Int32)))])) _
        refine XS.iload X38.here hx rfl (hb hby at_156) rfl ?_
        exact k
      by_cases hk49 : ((ma &&& (2147483647 : Int32)) % (2 : Int32)) = (1 : Int32)
      · obtain ⟨_, _, ⟨T50, L50, k50, n50⟩, -, X50, ⟨Lc50, hQ50, l50, y50, z50⟩, st50⟩ := Jvm.LawKit.callS X38 hx (y := (⟨"skipstitch/search/PrefixTableScanResumePinLaw", "entry", "(II)I"⟩ : MethodName)) hown (mvT hZ (hw _ (List.mem_of_getElem? (i := 2) rfl))) (mvT hZ (hw _ (List.mem_of_getElem? (i := 3) rfl))) (mvT hZ (hw _ (List.mem_of_getElem? (i := 4) rfl))) (mvT hZ (hw _ (List.mem_of_getElem? (i := 5) rfl))) (by decide) (backOf (W := 0) (rm1 l Z a0 hw [] tb (0 : Int32) T38.heap n0 Z38 (by decide)) hZ (hw _ (List.mem_of_getElem? (i := 5) rfl)) (hw _ (List.mem_of_getElem? (i := 4) rfl)) (by decide) (by decide)) (g := (mkF m 166 #[.val (.int sh), .val (.int tb), .val (.int ma), .val (.int mb), .val (.long cv), .second, .val (.long ov), .second, .val (.int (1 : Int32)), .val (.ref b4), .val (.ref b6), .val (.int ((ma &&& (2147483647 : Int32)) % (2 : Int32))), .val (.int ((mb &&& (2147483647 : Int32)) % (2 : Int32))), .val (.ref b19), .unset, .unset, .unset, .unset] [(.int (0 : Int32)), (.int tb)])) rfl (by rw [hml]; rfl) (argsL := [(.int tb), (.int (0 : Int32))]) (rest := []) (lenOf pd_0 rfl) rfl (by show 2 * 0 + _ ≤ _; exact Nat.le_of_eq rfl) (hb hby at_166) (fun _ _ => ⟨rfl, rfl, (by decide : 3 + 0 ≤ _), (by decide : 7 + 0 ≤ _)⟩)
        dsimp only [Pt.U, Pt.locs, Pt.cells, Pt.slots] at X50 l50 y50 z50 st50 hQ50
        subst l50 y50 z50
        obtain ⟨rfl, N50q, e50⟩ := hQ50
        have N50 := Fr.app N38 N50q
        have pre51 : ∀ t, Steps p.tables e below (T50.setTop (mkF m 174 #[.val (.int sh), .val (.int tb), .val (.int ma), .val (.int mb), .val (.long cv), .second, .val (.long ov), .second, .val (.int (1 : Int32)), .val (.ref b4), .val (.ref b6), .val (.int ((ma &&& (2147483647 : Int32)) % (2 : Int32))), .val (.int ((mb &&& (2147483647 : Int32)) % (2 : Int32))), .val (.ref b19), .unset, .unset, .unset, .unset] [(.int ((((tb.toUInt32 >>> (((8 : Int32) * (0 : Int32)) &&& 31).toUInt32).toInt32) &&& (255 : Int32)) % ((0 : Int32) + (1 : Int32))))])) t → Steps p.tables e below (s₁.setTop (entryFrame m #[(.int sh), (.int tb), (.int ma), (.int mb), (.long cv), (.long ov)] maxLocals)) t := by
          intro t k
          refine pre48 _ ?_
          show Steps p.tables e below (T38.setTop (mkF m 158 #[.val (.int sh), .val (.int tb), .val (.int ma), .val (.int mb), .val (.long cv), .second, .val (.long ov), .second, .val (.int (1 : Int32)), .val (.ref b4), .val (.ref b6), .val (.int ((ma &&& (2147483647 : Int32)) % (2 : Int32))), .val (.int ((mb &&& (2147483647 : Int32)) % (2 : Int32))), .val (.ref b19), .unset, .unset, .unset, .unset] [(.int (1 : Int32)), (.int ((ma &&& (2147483647 : Int32)) % (2 : Int32)))])) _
          refine XS.icmpNo X38.here hx rfl (hb hby at_158) rfl (teq hk49).2 ?_
          show Steps p.tables e below (T38.setTop (mkF m 161 #[.val (.int sh), .val (.int tb), .val (.int ma), .val (.int mb), .val (.long cv), .second, .val (.long ov), .second, .val (.int (1 : Int32)), .val (.ref b4), .val (.ref b6), .val (.int ((ma &&& (2147483647 : Int32)) % (2 : Int32))), .val (.int ((mb &&& (2147483647 : Int32)) % (2 : Int32))), .val (.ref b19), .unset, .unset, .unset, .unset] [])) _
          refine XS.iloadN X38.here hx rfl (hb hby at_161) rfl ?_
          show Steps p.tables e below (T38.setTop (mkF m 162 #[.val (.int sh), .val (.int tb), .val (.int ma), .val (.int mb), .val (.long cv), .second, .val (.long ov), .second, .val (.int (1 : Int32)), .val (.ref b4), .val (.ref b6), .val (.int ((ma &&& (2147483647 : Int32)) % (2 : Int32))), .val (.int ((mb &&& (2147483647 : Int32)) % (2 : Int32))), .val (.ref b19), .unset, .unset, .unset, .unset] [(.int tb)])) _
          refine XS.iload X38.here hx rfl (hb hby at_162) rfl ?_
          show Steps p.tables e below (T38.setTop (mkF m 164 #[.val (.int sh), .val (.int tb), .val (.int ma), .val (.int mb), .val (.long cv), .second, .val (.long ov), .second, .val (.int (1 : Int32)), .val (.ref b4), .val (.ref b6), .val (.int ((ma &&& (2147483647 : Int32)) % (2 : Int32))), .val (.int ((mb &&& (2147483647 : Int32)) % (2 : Int32))), .val (.ref b19), .unset, .unset, .unset, .unset] [(.int (1 : Int32)), (.int tb)])) _
          refine XS.iconst X38.here hx rfl (hb hby at_164) ?_
          show Steps p.tables e below (T38.setTop (mkF m 165 #[.val (.int sh), .val (.int tb), .val (.int ma), .val (.int mb), .val (.long cv), .second, .val (.long ov), .second, .val (.int (1 : Int32)), .val (.ref b4), .val (.ref b6), .val (.int ((ma &&& (2147483647 : Int32)) % (2 : Int32))), .val (.int ((mb &&& (2147483647 : Int32)) % (2 : Int32))), .val (.ref b19), .unset, .unset, .unset, .unset] [(.int (1 : Int32)), (.int (1 : Int32)), (.int tb)])) _
          refine XS.isub X38.here hx rfl (hb hby at_165) rfl ?_
          show Steps p.tables e below (T38.setTop (mkF m 166 #[.val (.int sh), .val (.int tb), .val (.int ma), .val (.int mb), .val (.long cv), .second, .val (.long ov), .second, .val (.int (1 : Int32)), .val (.ref b4), .val (.ref b6), .val (.int ((ma &&& (2147483647 : Int32)) % (2 : Int32))), .val (.int ((mb &&& (2147483647 : Int32)) % (2 : Int32))), .val (.ref b19), .unset, .unset, .unset, .unset] [(.int (0 : Int32)), (.int tb)])) _
          refine st50 _ ?_
          show Steps p.tables e below (T50.setTop (mkF m 169 #[.val (.int sh), .val (.int tb), .val (.int ma), .val (.int mb), .val (.long cv), .second, .val (.long ov), .second, .val (.int (1 : Int32)), .val (.ref b4), .val (.ref b6), .val (.int ((ma &&& (2147483647 : Int32)) % (2 : Int32))), .val (.int ((mb &&& (2147483647 : Int32)) % (2 : Int32))), .val (.ref b19), .unset, .unset, .unset, .unset] [(.int ((((tb.toUInt32 >>> (((8 : Int32) * (0 : Int32)) &&& 31).toUInt32).toInt32) &&& (255 : Int32)) % ((0 : Int32) + (1 : Int32))))])) _
          refine XS.goto X50.here hx rfl (pc0 := 169) (pc' := 174) rfl (hb hby at_169) (by decide) (by decide) ?_
          exact k
        have ev53 : (j0_154_s0 tb ma) = ((((tb.toUInt32 >>> (((8 : Int32) * (0 : Int32)) &&& 31).toUInt32).toInt32) &&& (255 : Int32)) % ((0 : Int32) + (1 : Int32))) := by unfold j0_154_s0; rw [if_pos hk49]
        exact ⟨_, _, X50, e50, N50, fun t k => pre51 _ (by rw [ev53] at k; exact k)⟩
      · have pre52 : ∀ t, Steps p.tables e below (T38.setTop (mkF m 174 #[.val (.int sh), .val (.int tb), .val (.int ma), .val (.int mb), .val (.long cv), .second, .val (.long ov), .second, .val (.int (1 : Int32)), .val (.ref b4), .val (.ref b6), .val (.int ((ma &&& (2147483647 : Int32)) % (2 : Int32))), .val (.int ((mb &&& (2147483647 : Int32)) % (2 : Int32))), .val (.ref b19), .unset, .unset, .unset, .unset] [(.int ((ma &&& (2147483647 : Int32)) % (2 : Int32)))])) t → Steps p.tables e below (s₁.setTop (entryFrame m #[(.int sh), (.int tb), (.int ma), (.int mb), (.long cv), (.long ov)] maxLocals)) t := by
          intro t k
          refine pre48 _ ?_
          show Steps p.tables e below (T38.setTop (mkF m 158 #[.val (.int sh), .val (.int tb), .val (.int ma), .val (.int mb), .val (.long cv), .second, .val (.long ov), .second, .val (.int (1 : Int32)), .val (.ref b4), .val (.ref b6), .val (.int ((ma &&& (2147483647 : Int32)) % (2 : Int32))), .val (.int ((mb &&& (2147483647 : Int32)) % (2 : Int32))), .val (.ref b19), .unset, .unset, .unset, .unset] [(.int (1 : Int32)), (.int ((ma &&& (2147483647 : Int32)) % (2 : Int32)))])) _
          refine XS.icmpYes X38.here hx rfl (pc0 := 158) (pc' := 172) rfl (hb hby at_158) rfl (feq hk49).2 (by decide) (by decide) ?_
          show Steps p.tables e below (T38.setTop (mkF m 172 #[.val (.int sh), .val (.int tb), .val (.int ma), .val (.int mb), .val (.long cv), .second, .val (.long ov), .second, .val (.int (1 : Int32)), .val (.ref b4), .val (.ref b6), .val (.int ((ma &&& (2147483647 : Int32)) % (2 : Int32))), .val (.int ((mb &&& (2147483647 : Int32)) % (2 : Int32))), .val (.ref b19), .unset, .unset, .unset, .unset] [])) _
          refine XS.iload X38.here hx rfl (hb hby at_172) rfl ?_
          exact k
        have ev54 : (j0_154_s0 tb ma) = ((ma &&& (2147483647 : Int32)) % (2 : Int32)) := by unfold j0_154_s0; rw [if_neg hk49]
        exact ⟨_, _, X38, rfl, N38, fun t k => pre52 _ (by rw [ev54] at k; exact k)⟩
    obtain ⟨cq56, kq56, q56a, q56b, q56c⟩ := isOf hZ e55 f46
    obtain ⟨_, _, ⟨T56, L56, k56, n56⟩, -, X56, ⟨Lc56, hQ56, l56, y56, z56⟩, st56⟩ := X55.virtualBack hx (y := (⟨"skipstitch/search/PrefixTableScan", "matched", "()I"⟩ : MethodName)) (z := (⟨"skipstitch/search/PrefixTableScan", "matched", "()I"⟩ : MethodName)) hown (mvT hZ (hw _ (List.mem_of_getElem? (i := 31) rfl))) (mvT hZ (hw _ (List.mem_of_getElem? (i := 32) rfl))) (notFace_of_selects (args := #[]) (mvT hZ (hw _ (List.mem_of_getElem? (i := 34) rfl)))) (mvT hZ (hw _ (List.mem_of_getElem? (i := 34) rfl))) (mvT hZ (hw _ (List.mem_of_getElem? (i := 33) rfl))) (by decide) (backOf (W := 0) (rm5 l Z a0 hw [] b19 (r4k1_matched ((ma &&& (2147483647 : Int32)) % (2 : Int32)) (up zI 0 ((((tb.toUInt32 >>> (((8 : Int32) * (0 : Int32)) &&& 31).toUInt32).toInt32) &&& (255 : Int32)) % ((0 : Int32) + (1 : Int32))))) T38.heap n0 Z38 f41) hZ (hw _ (List.mem_of_getElem? (i := 35) rfl)) (hw _ (List.mem_of_getElem? (i := 9) rfl)) (by decide) (by decide)) q56a q56c (g := (mkF m 178 #[.val (.int sh), .val (.int tb), .val (.int ma), .val (.int mb), .val (.long cv), .second, .val (.long ov), .second, .val (.int (1 : Int32)), .val (.ref b4), .val (.ref b6), .val (.int ((ma &&& (2147483647 : Int32)) % (2 : Int32))), .val (.int ((mb &&& (2147483647 : Int32)) % (2 : Int32))), .val (.ref b19), .val (.int (j0_154_s0 tb ma)), .unset, .unset, .unset] [(.ref b19)])) rfl (by rw [hml]; rfl) (Steps.refl _) (argsL := []) (rest := []) (lenOf pd_3 rfl) rfl (by show 2 * 0 + _ ≤ _; exact Nat.le_of_eq rfl) (hb hby at_178) (fun _ _ => ⟨rfl, e55, (by decide : 3 + 0 ≤ _), (by decide : 7 + 0 ≤ _)⟩)
    dsimp only [Pt.U, Pt.locs, Pt.cells, Pt.slots] at X56 l56 y56 z56 st56 hQ56
    subst l56 y56 z56
    obtain ⟨rfl, N56q, e56⟩ := hQ56
    have N56 := Fr.app N55 N56q
    obtain ⟨cq57, kq57, q57a, q57b, q57c⟩ := isOf hZ e56 f46
    obtain ⟨_, _, ⟨T57, L57, k57, n57⟩, -, X57, ⟨Lc57, hQ57, l57, y57, z57⟩, st57⟩ := X56.virtualBack hx (y := (⟨"skipstitch/search/PrefixTableScan", "comparisons", "()J"⟩ : MethodName)) (z := (⟨"skipstitch/search/PrefixTableScan", "comparisons", "()J"⟩ : MethodName)) hown (mvT hZ (hw _ (List.mem_of_getElem? (i := 36) rfl))) (mvT hZ (hw _ (List.mem_of_getElem? (i := 37) rfl))) (notFace_of_selects (args := #[]) (mvT hZ (hw _ (List.mem_of_getElem? (i := 39) rfl)))) (mvT hZ (hw _ (List.mem_of_getElem? (i := 39) rfl))) (mvT hZ (hw _ (List.mem_of_getElem? (i := 38) rfl))) (by decide) (backOf (W := 0) (rm6 l Z a0 hw [] b19 cv T38.heap n0 Z38 f42) hZ (hw _ (List.mem_of_getElem? (i := 40) rfl)) (hw _ (List.mem_of_getElem? (i := 9) rfl)) (by decide) (by decide)) q57a q57c (g := (mkF m 188 #[.val (.int sh), .val (.int tb), .val (.int ma), .val (.int mb), .val (.long cv), .second, .val (.long ov), .second, .val (.int (1 : Int32)), .val (.ref b4), .val (.ref b6), .val (.int ((ma &&& (2147483647 : Int32)) % (2 : Int32))), .val (.int ((mb &&& (2147483647 : Int32)) % (2 : Int32))), .val (.ref b19), .val (.int (j0_154_s0 tb ma)), .unset, .unset, .unset] [(.ref b19)])) rfl (by rw [hml]; rfl) (Steps.refl _) (argsL := []) (rest := []) (lenOf pd_4 rfl) rfl (by show 2 * 0 + _ ≤ _; exact Nat.le_of_eq rfl) (hb hby at_188) (fun _ _ => ⟨rfl, e56, (by decide : 3 + 0 ≤ _), (by decide : 7 + 0 ≤ _)⟩)
    dsimp only [Pt.U, Pt.locs, Pt.cells, Pt.slots] at X57 l57 y57 z57 st57 hQ57
    subst l57 y57 z57
    obtain ⟨rfl, N57q, e57⟩ := hQ57
    have N57 := Fr.app N56 N57q
    obtain ⟨cq58, kq58, q58a, q58b, q58c⟩ := isOf hZ e57 f46
    obtain ⟨_, _, ⟨T58, L58, k58, n58⟩, -, X58, ⟨Lc58, hQ58, l58, y58, z58⟩, st58⟩ := X57.virtualBack hx (y := (⟨"skipstitch/search/PrefixTableScan", "occurrences", "()J"⟩ : MethodName)) (z := (⟨"skipstitch/search/PrefixTableScan", "occurrences", "()J"⟩ : MethodName)) hown (mvT hZ (hw _ (List.mem_of_getElem? (i := 41) rfl))) (mvT hZ (hw _ (List.mem_of_getElem? (i := 42) rfl))) (notFace_of_selects (args := #[]) (mvT hZ (hw _ (List.mem_of_getElem? (i := 44) rfl)))) (mvT hZ (hw _ (List.mem_of_getElem? (i := 44) rfl))) (mvT hZ (hw _ (List.mem_of_getElem? (i := 43) rfl))) (by decide) (backOf (W := 0) (rm7 l Z a0 hw [] b19 ov T38.heap n0 Z38 f43) hZ (hw _ (List.mem_of_getElem? (i := 45) rfl)) (hw _ (List.mem_of_getElem? (i := 9) rfl)) (by decide) (by decide)) q58a q58c (g := (mkF m 199 #[.val (.int sh), .val (.int tb), .val (.int ma), .val (.int mb), .val (.long cv), .second, .val (.long ov), .second, .val (.int (1 : Int32)), .val (.ref b4), .val (.ref b6), .val (.int ((ma &&& (2147483647 : Int32)) % (2 : Int32))), .val (.int ((mb &&& (2147483647 : Int32)) % (2 : Int32))), .val (.ref b19), .val (.int (j0_154_s0 tb ma)), .unset, .unset, .unset] [(.ref b19)])) rfl (by rw [hml]; rfl) (Steps.refl _) (argsL := []) (rest := []) (lenOf pd_4 rfl) rfl (by show 2 * 0 + _ ≤ _; exact Nat.le_of_eq rfl) (hb hby at_199) (fun _ _ => ⟨rfl, e57, (by decide : 3 + 0 ≤ _), (by decide : 7 + 0 ≤ _)⟩)
    dsimp only [Pt.U, Pt.locs, Pt.cells, Pt.slots] at X58 l58 y58 z58 st58 hQ58
    subst l58 y58 z58
    obtain ⟨rfl, N58q, e58⟩ := hQ58
    have N58 := Fr.app N57 N58q
    obtain ⟨cq59, kq59, q59a, q59b, q59c⟩ := isOf hZ e58 f46
    obtain ⟨_, _, ⟨T59, L59, k59, n59⟩, -, X59, ⟨Lc59, hQ59, l59, y59, z59⟩, st59⟩ := X58.virtualBack hx (y := (⟨"skipstitch/search/PrefixTableScan", "resume", "(IJJ)V"⟩ : MethodName)) (z := (⟨"skipstitch/search/PrefixTableScan", "resume", "(IJJ)V"⟩ : MethodName)) hown (mvT hZ (hw _ (List.mem_of_getElem? (i := 20) rfl))) (mvT hZ (hw _ (List.mem_of_getElem? (i := 21) rfl))) (notFace_of_selects (args := #[]) (mvT hZ (hw _ (List.mem_of_getElem? (i := 23) rfl)))) (mvT hZ (hw _ (List.mem_of_getElem? (i := 23) rfl))) (mvT hZ (hw _ (List.mem_of_getElem? (i := 22) rfl))) (by decide) (backOf (W := 0) (rm4k1 l Z a0 hw [] b19 ((mb &&& (2147483647 : Int32)) % (2 : Int32)) ov cv b4 b6 (up zI 0 ((sh >>> ((2 : Int32) &&& 31)).toInt8.toInt32)) (up zI 0 ((((tb.toUInt32 >>> (((8 : Int32) * (0 : Int32)) &&& 31).toUInt32).toInt32) &&& (255 : Int32)) % ((0 : Int32) + (1 : Int32)))) (r4k1_matched ((ma &&& (2147483647 : Int32)) % (2 : Int32)) (up zI 0 ((((tb.toUInt32 >>> (((8 : Int32) * (0 : Int32)) &&& 31).toUInt32).toInt32) &&& (255 : Int32)) % ((0 : Int32) + (1 : Int32))))) cv ov T38.heap n0 Z38 f46 f39 f40 f44 f45 (Ne.symm ne20) (Ne.symm ne21) f41 f42 f43 gg19) hZ (hw _ (List.mem_of_getElem? (i := 24) rfl)) (hw _ (List.mem_of_getElem? (i := 9) rfl)) (by decide) (by decide)) q59a q59c (g := (mkF m 223 #[.val (.int sh), .val (.int tb), .val (.int ma), .val (.int mb), .val (.long cv), .second, .val (.long ov), .second, .val (.int (1 : Int32)), .val (.ref b4), .val (.ref b6), .val (.int ((ma &&& (2147483647 : Int32)) % (2 : Int32))), .val (.int ((mb &&& (2147483647 : Int32)) % (2 : Int32))), .val (.ref b19), .val (.int (j0_154_s0 tb ma)), .val (.int (1 : Int32)), .unset, .unset] [(.long cv), (.long ov), (.int ((mb &&& (2147483647 : Int32)) % (2 : Int32))), (.ref b19)])) rfl (by rw [hml]; rfl) (Steps.refl _) (argsL := [(.int ((mb &&& (2147483647 : Int32)) % (2 : Int32))), (.long ov), (.long cv)]) (rest := []) (lenOf pd_2 rfl) rfl (by show 2 * 0 + _ ≤ _; exact Nat.le_of_eq rfl) (hb hby at_223) (fun _ _ => ⟨rfl, e58, (by decide : 3 + 0 ≤ _), (by decide : 7 + 0 ≤ _)⟩)
    dsimp only [Pt.U, Pt.locs, Pt.cells, Pt.slots] at X59 l59 y59 z59 st59 hQ59
    subst l59 y59 z59
    obtain ⟨rfl, N59q, K59c, f60, f61, f62, f63, f64⟩ := hQ59
    have N59 := Fr.app N58 N59q
    have f65 : AI Z T59.heap b4 .byte 1 (up zI 0 ((sh >>> ((2 : Int32) &&& 31)).toInt8.toInt32)) := f44.keep K59c (ninS ne20 nin0)
    have f66 : AI Z T59.heap b6 .int 1 (up zI 0 ((((tb.toUInt32 >>> (((8 : Int32) * (0 : Int32)) &&& 31).toUInt32).toInt32) &&& (255 : Int32)) % ((0 : Int32) + (1 : Int32)))) := f45.keep K59c (ninS ne21 nin0)
    have f67 : Exa Z T59.heap b19 "skipstitch/search/PrefixTableScan" := f46.keep K59c
    have Z59 : n0 ≤ T59.heap.size := Nat.le_trans Z38 K59c.1
    have pre68 : ∀ t, Steps p.tables e below (T59.setTop (mkF m 226 #[.val (.int sh), .val (.int tb), .val (.int ma), .val (.int mb), .val (.long cv), .second, .val (.long ov), .second, .val (.int (1 : Int32)), .val (.ref b4), .val (.ref b6), .val (.int ((ma &&& (2147483647 : Int32)) % (2 : Int32))), .val (.int ((mb &&& (2147483647 : Int32)) % (2 : Int32))), .val (.ref b19), .val (.int (j0_154_s0 tb ma)), .val (.int (1 : Int32)), .unset, .unset] [])) t → Steps p.tables e below (s₁.setTop (entryFrame m #[(.int sh), (.int tb), (.int ma), (.int mb), (.long cv), (.long ov)] maxLocals)) t := by
      intro t k
      refine pre55 _ ?_
      show Steps p.tables e below (T55.setTop (mkF m 174 #[.val (.int sh), .val (.int tb), .val (.int ma), .val (.int mb), .val (.long cv), .second, .val (.long ov), .second, .val (.int (1 : Int32)), .val (.ref b4), .val (.ref b6), .val (.int ((ma &&& (2147483647 : Int32)) % (2 : Int32))), .val (.int ((mb &&& (2147483647 : Int32)) % (2 : Int32))), .val (.ref b19), .unset, .unset, .unset, .unset] [(.int (j0_154_s0 tb ma))])) _
      refine XS.istore X55.here hx rfl (hb hby at_174) rfl (l' := #[.val (.int sh), .val (.int tb), .val (.int ma), .val (.int mb), .val (.long cv), .second, .val (.long ov), .second, .val (.int (1 : Int32)), .val (.ref b4), .val (.ref b6), .val (.int ((ma &&& (2147483647 : Int32)) % (2 : Int32))), .val (.int ((mb &&& (2147483647 : Int32)) % (2 : Int32))), .val (.ref b19), .val (.int (j0_154_s0 tb ma)), .unset, .unset, .unset]) rfl ?_
      show Steps p.tables e below (T55.setTop (mkF m 176 #[.val (.int sh), .val (.int tb), .val (.int ma), .val (.int mb), .val (.long cv), .second, .val (.long ov), .second, .val (.int (1 : Int32)), .val (.ref b4), .val (.ref b6), .val (.int ((ma &&& (2147483647 : Int32)) % (2 : Int32))), .val (.int ((mb &&& (2147483647 : Int32)) % (2 : Int32))), .val (.ref b19), .val (.int (j0_154_s0 tb ma)), .unset, .unset, .unset] [])) _
      refine XS.aload X55.here hx rfl (hb hby at_176) rfl rfl ?_
      show Steps p.tables e below (T55.setTop (mkF m 178 #[.val (.int sh), .val (.int tb), .val (.int ma), .val (.int mb), .val (.long cv), .second, .val (.long ov), .second, .val (.int (1 : Int32)), .val (.ref b4), .val (.ref b6), .val (.int ((ma &&& (2147483647 : Int32)) % (2 : Int32))), .val (.int ((mb &&& (2147483647 : Int32)) % (2 : Int32))), .val (.ref b19), .val (.int (j0_154_s0 tb ma)), .unset, .unset, .unset] [(.ref b19)])) _
      refine st56.trans ?_
      show Steps p.tables e below (T56.setTop (mkF m 181 #[.val (.int sh), .val (.int tb), .val (.int ma), .val (.int mb), .val (.long cv), .second, .val (.long ov), .second, .val (.int (1 : Int32)), .val (.ref b4), .val (.ref b6), .val (.int ((ma &&& (2147483647 : Int32)) % (2 : Int32))), .val (.int ((mb &&& (2147483647 : Int32)) % (2 : Int32))), .val (.ref b19), .val (.int (j0_154_s0 tb ma)), .unset, .unset, .unset] [(.int (r4k1_matched ((ma &&& (2147483647 : Int32)) % (2 : Int32)) (up zI 0 ((((tb.toUInt32 >>> (((8 : Int32) * (0 : Int32)) &&& 31).toUInt32).toInt32) &&& (255 : Int32)) % ((0 : Int32) + (1 : Int32))))))])) _
      refine XS.iload X56.here hx rfl (hb hby at_181) rfl ?_
      show Steps p.tables e below (T56.setTop (mkF m 183 #[.val (.int sh), .val (.int tb), .val (.int ma), .val (.int mb), .val (.long cv), .second, .val (.long ov), .second, .val (.int (1 : Int32)), .val (.ref b4), .val (.ref b6), .val (.int ((ma &&& (2147483647 : Int32)) % (2 : Int32))), .val (.int ((mb &&& (2147483647 : Int32)) % (2 : Int32))), .val (.ref b19), .val (.int (j0_154_s0 tb ma)), .unset, .unset, .unset] [(.int (j0_154_s0 tb ma)), (.int (r4k1_matched ((ma &&& (2147483647 : Int32)) % (2 : Int32)) (up zI 0 ((((tb.toUInt32 >>> (((8 : Int32) * (0 : Int32)) &&& 31).toUInt32).toInt32) &&& (255 : Int32)) % ((0 : Int32) + (1 : Int32))))))])) _
      refine XS.icmpNo X56.here hx rfl (hb hby at_183) rfl (teq (rfl : ((r4k1_matched ((ma &&& (2147483647 : Int32)) % (2 : Int32)) (up zI 0 ((((tb.toUInt32 >>> (((8 : Int32) * (0 : Int32)) &&& 31).toUInt32).toInt32) &&& (255 : Int32)) % ((0 : Int32) + (1 : Int32))))) = (j0_154_s0 tb ma)))).2 ?_
      show Steps p.tables e below (T56.setTop (mkF m 186 #[.val (.int sh), .val (.int tb), .val (.int ma), .val (.int mb), .val (.long cv), .second, .val (.long ov), .second, .val (.int (1 : Int32)), .val (.ref b4), .val (.ref b6), .val (.int ((ma &&& (2147483647 : Int32)) % (2 : Int32))), .val (.int ((mb &&& (2147483647 : Int32)) % (2 : Int32))), .val (.ref b19), .val (.int (j0_154_s0 tb ma)), .unset, .unset, .unset] [])) _
      refine XS.aload X56.here hx rfl (hb hby at_186) rfl rfl ?_
      show Steps p.tables e below (T56.setTop (mkF m 188 #[.val (.int sh), .val (.int tb), .val (.int ma), .val (.int mb), .val (.long cv), .second, .val (.long ov), .second, .val (.int (1 : Int32)), .val (.ref b4), .val (.ref b6), .val (.int ((ma &&& (2147483647 : Int32)) % (2 : Int32))), .val (.int ((mb &&& (2147483647 : Int32)) % (2 : Int32))), .val (.ref b19), .val (.int (j0_154_s0 tb ma)), .unset, .unset, .unset] [(.ref b19)])) _
      refine st57.trans ?_
      show Steps p.tables e below (T57.setTop (mkF m 191 #[.val (.int sh), .val (.int tb), .val (.int ma), .val (.int mb), .val (.long cv), .second, .val (.long ov), .second, .val (.int (1 : Int32)), .val (.ref b4), .val (.ref b6), .val (.int ((ma &&& (2147483647 : Int32)) % (2 : Int32))), .val (.int ((mb &&& (2147483647 : Int32)) % (2 : Int32))), .val (.ref b19), .val (.int (j0_154_s0 tb ma)), .unset, .unset, .unset] [(.long cv)])) _
      refine XS.lload X57.here hx rfl (hb hby at_191) rfl ?_
      show Steps p.tables e below (T57.setTop (mkF m 193 #[.val (.int sh), .val (.int tb), .val (.int ma), .val (.int mb), .val (.long cv), .second, .val (.long ov), .second, .val (.int (1 : Int32)), .val (.ref b4), .val (.ref b6), .val (.int ((ma &&& (2147483647 : Int32)) % (2 : Int32))), .val (.int ((mb &&& (2147483647 : Int32)) % (2 : Int32))), .val (.ref b19), .val (.int (j0_154_s0 tb ma)), .unset, .unset, .unset] [(.long cv), (.long cv)])) _
      refine XS.lcmp X57.here hx rfl (hb hby at_193) rfl ?_
      show Steps p.tables e below (T57.setTop (mkF m 194 #[.val (.int sh), .val (.int tb), .val (.int ma), .val (.int mb), .val (.long cv), .second, .val (.long ov), .second, .val (.int (1 : Int32)), .val (.ref b4), .val (.ref b6), .val (.int ((ma &&& (2147483647 : Int32)) % (2 : Int32))), .val (.int ((mb &&& (2147483647 : Int32)) % (2 : Int32))), .val (.ref b19), .val (.int (j0_154_s0 tb ma)), .unset, .unset, .unset] [(.int (lcmpW cv cv))])) _
      refine XS.ifNo X57.here hx rfl (hb hby at_194) rfl (own_teqL (rfl : cv = cv)).2 ?_
      show Steps p.tables e below (T57.setTop (mkF m 197 #[.val (.int sh), .val (.int tb), .val (.int ma), .val (.int mb), .val (.long cv), .second, .val (.long ov), .second, .val (.int (1 : Int32)), .val (.ref b4), .val (.ref b6), .val (.int ((ma &&& (2147483647 : Int32)) % (2 : Int32))), .val (.int ((mb &&& (2147483647 : Int32)) % (2 : Int32))), .val (.ref b19), .val (.int (j0_154_s0 tb ma)), .unset, .unset, .unset] [])) _
      refine XS.aload X57.here hx rfl (hb hby at_197) rfl rfl ?_
      show Steps p.tables e below (T57.setTop (mkF m 199 #[.val (.int sh), .val (.int tb), .val (.int ma), .val (.int mb), .val (.long cv), .second, .val (.long ov), .second, .val (.int (1 : Int32)), .val (.ref b4), .val (.ref b6), .val (.int ((ma &&& (2147483647 : Int32)) % (2 : Int32))), .val (.int ((mb &&& (2147483647 : Int32)) % (2 : Int32))), .val (.ref b19), .val (.int (j0_154_s0 tb ma)), .unset, .unset, .unset] [(.ref b19)])) _
      refine st58.trans ?_
      show Steps p.tables e below (T58.setTop (mkF m 202 #[.val (.int sh), .val (.int tb), .val (.int ma), .val (.int mb), .val (.long cv), .second, .val (.long ov), .second, .val (.int (1 : Int32)), .val (.ref b4), .val (.ref b6), .val (.int ((ma &&& (2147483647 : Int32)) % (2 : Int32))), .val (.int ((mb &&& (2147483647 : Int32)) % (2 : Int32))), .val (.ref b19), .val (.int (j0_154_s0 tb ma)), .unset, .unset, .unset] [(.long ov)])) _
      refine XS.lload X58.here hx rfl (hb hby at_202) rfl ?_
      show Steps p.tables e below (T58.setTop (mkF m 204 #[.val (.int sh), .val (.int tb), .val (.int ma), .val (.int mb), .val (.long cv), .second, .val (.long ov), .second, .val (.int (1 : Int32)), .val (.ref b4), .val (.ref b6), .val (.int ((ma &&& (2147483647 : Int32)) % (2 : Int32))), .val (.int ((mb &&& (2147483647 : Int32)) % (2 : Int32))), .val (.ref b19), .val (.int (j0_154_s0 tb ma)), .unset, .unset, .unset] [(.long ov), (.long ov)])) _
      refine XS.lcmp X58.here hx rfl (hb hby at_204) rfl ?_
      show Steps p.tables e below (T58.setTop (mkF m 205 #[.val (.int sh), .val (.int tb), .val (.int ma), .val (.int mb), .val (.long cv), .second, .val (.long ov), .second, .val (.int (1 : Int32)), .val (.ref b4), .val (.ref b6), .val (.int ((ma &&& (2147483647 : Int32)) % (2 : Int32))), .val (.int ((mb &&& (2147483647 : Int32)) % (2 : Int32))), .val (.ref b19), .val (.int (j0_154_s0 tb ma)), .unset, .unset, .unset] [(.int (lcmpW ov ov))])) _
      refine XS.ifNo X58.here hx rfl (hb hby at_205) rfl (own_teqL (rfl : ov = ov)).2 ?_
      show Steps p.tables e below (T58.setTop (mkF m 208 #[.val (.int sh), .val (.int tb), .val (.int ma), .val (.int mb), .val (.long cv), .second, .val (.long ov), .second, .val (.int (1 : Int32)), .val (.ref b4), .val (.ref b6), .val (.int ((ma &&& (2147483647 : Int32)) % (2 : Int32))), .val (.int ((mb &&& (2147483647 : Int32)) % (2 : Int32))), .val (.ref b19), .val (.int (j0_154_s0 tb ma)), .unset, .unset, .unset] [])) _
      refine XS.iconst X58.here hx rfl (hb hby at_208) ?_
      show Steps p.tables e below (T58.setTop (mkF m 209 #[.val (.int sh), .val (.int tb), .val (.int ma), .val (.int mb), .val (.long cv), .second, .val (.long ov), .second, .val (.int (1 : Int32)), .val (.ref b4), .val (.ref b6), .val (.int ((ma &&& (2147483647 : Int32)) % (2 : Int32))), .val (.int ((mb &&& (2147483647 : Int32)) % (2 : Int32))), .val (.ref b19), .val (.int (j0_154_s0 tb ma)), .unset, .unset, .unset] [(.int (1 : Int32))])) _
      refine XS.goto X58.here hx rfl (pc0 := 209) (pc' := 213) rfl (hb hby at_209) (by decide) (by decide) ?_
      show Steps p.tables e below (T58.setTop (mkF m 213 #[.val (.int sh), .val (.int tb), .val (.int ma), .val (.int mb), .val (.long cv), .second, .val (.long ov), .second, .val (.int (1 : Int32)), .val (.ref b4), .val (.ref b6), .val (.int ((ma &&& (2147483647 : Int32)) % (2 : Int32))), .val (.int ((mb &&& (2147483647 : Int32)) % (2 : Int32))), .val (.ref b19), .val (.int (j0_154_s0 tb ma)), .unset, .unset, .unset] [(.int (1 : Int32))])) _
      refine XS.istore X58.here hx rfl (hb hby at_213) rfl (l' := #[.val (.int sh), .val (.int tb), .val (.int ma), .val (.int mb), .val (.long cv), .second, .val (.long ov), .second, .val (.int (1 : Int32)), .val (.ref b4), .val (.ref b6), .val (.int ((ma &&& (2147483647 : Int32)) % (2 : Int32))), .val (.int ((mb &&& (2147483647 : Int32)) % (2 : Int32))), .val (.ref b19), .val (.int (j0_154_s0 tb ma)), .val (.int (1 : Int32)), .unset, .unset]) rfl ?_
      show Steps p.tables e below (T58.setTop (mkF m 215 #[.val (.int sh), .val (.int tb), .val (.int ma), .val (.int mb), .val (.long cv), .second, .val (.long ov), .second, .val (.int (1 : Int32)), .val (.ref b4), .val (.ref b6), .val (.int ((ma &&& (2147483647 : Int32)) % (2 : Int32))), .val (.int ((mb &&& (2147483647 : Int32)) % (2 : Int32))), .val (.ref b19), .val (.int (j0_154_s0 tb ma)), .val (.int (1 : Int32)), .unset, .unset] [])) _
      refine XS.aload X58.here hx rfl (hb hby at_215) rfl rfl ?_
      show Steps p.tables e below (T58.setTop (mkF m 217 #[.val (.int sh), .val (.int tb), .val (.int ma), .val (.int mb), .val (.long cv), .second, .val (.long ov), .second, .val (.int (1 : Int32)), .val (.ref b4), .val (.ref b6), .val (.int ((ma &&& (2147483647 : Int32)) % (2 : Int32))), .val (.int ((mb &&& (2147483647 : Int32)) % (2 : Int32))), .val (.ref b19), .val (.int (j0_154_s0 tb ma)), .val (.int (1 : Int32)), .unset, .unset] [(.ref b19)])) _
      refine XS.iload X58.here hx rfl (hb hby at_217) rfl ?_
      show Steps p.tables e below (T58.setTop (mkF m 219 #[.val (.int sh), .val (.int tb), .val (.int ma), .val (.int mb), .val (.long cv), .second, .val (.long ov), .second, .val (.int (1 : Int32)), .val (.ref b4), .val (.ref b6), .val (.int ((ma &&& (2147483647 : Int32)) % (2 : Int32))), .val (.int ((mb &&& (2147483647 : Int32)) % (2 : Int32))), .val (.ref b19), .val (.int (j0_154_s0 tb ma)), .val (.int (1 : Int32)), .unset, .unset] [(.int ((mb &&& (2147483647 : Int32)) % (2 : Int32))), (.ref b19)])) _
      refine XS.lload X58.here hx rfl (hb hby at_219) rfl ?_
      show Steps p.tables e below (T58.setTop (mkF m 221 #[.val (.int sh), .val (.int tb), .val (.int ma), .val (.int mb), .val (.long cv), .second, .val (.long ov), .second, .val (.int (1 : Int32)), .val (.ref b4), .val (.ref b6), .val (.int ((ma &&& (2147483647 : Int32)) % (2 : Int32))), .val (.int ((mb &&& (2147483647 : Int32)) % (2 : Int32))), .val (.ref b19), .val (.int (j0_154_s0 tb ma)), .val (.int (1 : Int32)), .unset, .unset] [(.long ov), (.int ((mb &&& (2147483647 : Int32)) % (2 : Int32))), (.ref b19)])) _
      refine XS.lload X58.here hx rfl (hb hby at_221) rfl ?_
      show Steps p.tables e below (T58.setTop (mkF m 223 #[.val (.int sh), .val (.int tb), .val (.int ma), .val (.int mb), .val (.long cv), .second, .val (.long ov), .second, .val (.int (1 : Int32)), .val (.ref b4), .val (.ref b6), .val (.int ((ma &&& (2147483647 : Int32)) % (2 : Int32))), .val (.int ((mb &&& (2147483647 : Int32)) % (2 : Int32))), .val (.ref b19), .val (.int (j0_154_s0 tb ma)), .val (.int (1 : Int32)), .unset, .unset] [(.long cv), (.long ov), (.int ((mb &&& (2147483647 : Int32)) % (2 : Int32))), (.ref b19)])) _
      refine st59.trans ?_
      exact k
    obtain ⟨T76, Lo76, X76, e76, N76, pre76⟩ : ∃ (T' : State) (lo : List Loc), Stand p l e room_1 s m #[(.int sh), (.int tb), (.int ma), (.int mb), (.long cv), (.long ov)] below meth c T' lo 3 7 ∧ T'.heap = T59.heap ∧ Fr n0 lo ∧ ∀ t, Steps p.tables e below (T'.setTop (mkF m 246 #[.val (.int sh), .val (.int tb), .val (.int ma), .val (.int mb), .val (.long cv), .second, .val (.long ov), .second, .val (.int (1 : Int32)), .val (.ref b4), .val (.ref b6), .val (.int ((ma &&& (2147483647 : Int32)) % (2 : Int32))), .val (.int ((mb &&& (2147483647 : Int32)) % (2 : Int32))), .val (.ref b19), .val (.int (j0_154_s0 tb ma)), .val (.int (1 : Int32)), .unset, .unset] [(.int (j0_226_s0 tb mb))])) t → Steps p.tables e below (s₁.setTop (entryFrame m #[(.int sh), (.int tb), (.int ma), (.int mb), (.long cv), (.long ov)] maxLocals)) t := by
      have pre69 : ∀ t, Steps p.tables e below (T59.setTop (mkF m 230 #[.val (.int sh), .val (.int tb), .val (.int ma), .val (.int mb), .val (.long cv), .second, .val (.long ov), .second, .val (.int (1 : Int32)), .val (.ref b4), .val (.ref b6), .val (.int ((ma &&& (2147483647 : Int32)) % (2 : Int32))), .val (.int ((mb &&& (2147483647 : Int32)) % (2 : Int32))), .val (.ref b19), .val (.int (j0_154_s0 tb ma)), .val (.int (1 : Int32)), .unset, .unset] [(.int (1 : Int32)), (.int ((mb &&& (2147483647 : Int32)) % (2 : Int32)))])) t → Steps p.tables e below (s₁.setTop (entryFrame m #[(.int sh), (.int tb), (.int ma), (.int mb), (.long cv), (.long ov)] maxLocals)) t := by
        intro t k
        refine pre68 _ ?_
        show Steps p.tables e below (T59.setTop (mkF m 226 #[.val (.int sh), .val (.int tb), .val (.int ma), .val (.int mb), .val (.long cv), .second, .val (.long ov), .second, .val (.int (1 : Int32)), .val (.ref b4), .val (.ref b6), .val (.int ((ma &&& (2147483647 : Int32)) % (2 : Int32))), .val (.int ((mb &&& (2147483647 : Int32)) % (2 : Int32))), .val (.ref b19), .val (.int (j0_154_s0 tb ma)), .val (.int (1 : Int32)), .unset, .unset] [])) _
        refine XS.iload X59.here hx rfl (hb hby at_226) rfl ?_
        show Steps p.tables e below (T59.setTop (mkF m 228 #[.val (.int sh), .val (.int tb), .val (.int ma), .val (.int mb), .val (.long cv), .second, .val (.long ov), .second, .val (.int (1 : Int32)), .val (.ref b4), .val (.ref b6), .val (.int ((ma &&& (2147483647 : Int32)) % (2 : Int32))), .val (.int ((mb &&& (2147483647 : Int32)) % (2 : Int32))), .val (.ref b19), .val (.int (j0_154_s0 tb ma)), .val (.int (1 : Int32)), .unset, .unset] [(.int ((mb &&& (2147483647 : Int32)) % (2 : Int32)))])) _
        refine XS.iload X59.here hx rfl (hb hby at_228) rfl ?_
        exact k
      by_cases hk70 : ((mb &&& (2147483647 : Int32)) % (2 : Int32)) = (1 : Int32)
      · obtain ⟨_, _, ⟨T71, L71, k71, n71⟩, -, X71, ⟨Lc71, hQ71, l71, y71, z71⟩, st71⟩ := Jvm.LawKit.callS X59 hx (y := (⟨"skipstitch/search/PrefixTableScanResumePinLaw", "entry", "(II)I"⟩ : MethodName)) hown (mvT hZ (hw _ (List.mem_of_getElem? (i := 2) rfl))) (mvT hZ (hw _ (List.mem_of_getElem? (i := 3) rfl))) (mvT hZ (hw _ (List.mem_of_getElem? (i := 4) rfl))) (mvT hZ (hw _ (List.mem_of_getElem? (i := 5) rfl))) (by decide) (backOf (W := 0) (rm1 l Z a0 hw [] tb (0 : Int32) T59.heap n0 Z59 (by decide)) hZ (hw _ (List.mem_of_getElem? (i := 5) rfl)) (hw _ (List.mem_of_getElem? (i := 4) rfl)) (by decide) (by decide)) (g := (mkF m 238 #[.val (.int sh), .val (.int tb), .val (.int ma), .val (.int mb), .val (.long cv), .second, .val (.long ov), .second, .val (.int (1 : Int32)), .val (.ref b4), .val (.ref b6), .val (.int ((ma &&& (2147483647 : Int32)) % (2 : Int32))), .val (.int ((mb &&& (2147483647 : Int32)) % (2 : Int32))), .val (.ref b19), .val (.int (j0_154_s0 tb ma)), .val (.int (1 : Int32)), .unset, .unset] [(.int (0 : Int32)), (.int tb)])) rfl (by rw [hml]; rfl) (argsL := [(.int tb), (.int (0 : Int32))]) (rest := []) (lenOf pd_0 rfl) rfl (by show 2 * 0 + _ ≤ _; exact Nat.le_of_eq rfl) (hb hby at_238) (fun _ _ => ⟨rfl, rfl, (by decide : 3 + 0 ≤ _), (by decide : 7 + 0 ≤ _)⟩)
        dsimp only [Pt.U, Pt.locs, Pt.cells, Pt.slots] at X71 l71 y71 z71 st71 hQ71
        subst l71 y71 z71
        obtain ⟨rfl, N71q, e71⟩ := hQ71
        have N71 := Fr.app N59 N71q
        have pre72 : ∀ t, Steps p.tables e below (T71.setTop (mkF m 246 #[.val (.int sh), .val (.int tb), .val (.int ma), .val (.int mb), .val (.long cv), .second, .val (.long ov), .second, .val (.int (1 : Int32)), .val (.ref b4), .val (.ref b6), .val (.int ((ma &&& (2147483647 : Int32)) % (2 : Int32))), .val (.int ((mb &&& (2147483647 : Int32)) % (2 : Int32))), .val (.ref b19), .val (.int (j0_154_s0 tb ma)), .val (.int (1 : Int32)), .unset, .unset] [(.int ((((tb.toUInt32 >>> (((8 : Int32) * (0 : Int32)) &&& 31).toUInt32).toInt32) &&& (255 : Int32)) % ((0 : Int32) + (1 : Int32))))])) t → Steps p.tables e below (s₁.setTop (entryFrame m #[(.int sh), (.int tb), (.int ma), (.int mb), (.long cv), (.long ov)] maxLocals)) t := by
          intro t k
          refine pre69 _ ?_
          show Steps p.tables e below (T59.setTop (mkF m 230 #[.val (.int sh), .val (.int tb), .val (.int ma), .val (.int mb), .val (.long cv), .second, .val (.long ov), .second, .val (.int (1 : Int32)), .val (.ref b4), .val (.ref b6), .val (.int ((ma &&& (2147483647 : Int32)) % (2 : Int32))), .val (.int ((mb &&& (2147483647 : Int32)) % (2 : Int32))), .val (.ref b19), .val (.int (j0_154_s0 tb ma)), .val (.int (1 : Int32)), .unset, .unset] [(.int (1 : Int32)), (.int ((mb &&& (2147483647 : Int32)) % (2 : Int32)))])) _
          refine XS.icmpNo X59.here hx rfl (hb hby at_230) rfl (teq hk70).2 ?_
          show Steps p.tables e below (T59.setTop (mkF m 233 #[.val (.int sh), .val (.int tb), .val (.int ma), .val (.int mb), .val (.long cv), .second, .val (.long ov), .second, .val (.int (1 : Int32)), .val (.ref b4), .val (.ref b6), .val (.int ((ma &&& (2147483647 : Int32)) % (2 : Int32))), .val (.int ((mb &&& (2147483647 : Int32)) % (2 : Int32))), .val (.ref b19), .val (.int (j0_154_s0 tb ma)), .val (.int (1 : Int32)), .unset, .unset] [])) _
          refine XS.iloadN X59.here hx rfl (hb hby at_233) rfl ?_
          show Steps p.tables e below (T59.setTop (mkF m 234 #[.val (.int sh), .val (.int tb), .val (.int ma), .val (.int mb), .val (.long cv), .second, .val (.long ov), .second, .val (.int (1 : Int32)), .val (.ref b4), .val (.ref b6), .val (.int ((ma &&& (2147483647 : Int32)) % (2 : Int32))), .val (.int ((mb &&& (2147483647 : Int32)) % (2 : Int32))), .val (.ref b19), .val (.int (j0_154_s0 tb ma)), .val (.int (1 : Int32)), .unset, .unset] [(.int tb)])) _
          refine XS.iload X59.here hx rfl (hb hby at_234) rfl ?_
          show Steps p.tables e below (T59.setTop (mkF m 236 #[.val (.int sh), .val (.int tb), .val (.int ma), .val (.int mb), .val (.long cv), .second, .val (.long ov), .second, .val (.int (1 : Int32)), .val (.ref b4), .val (.ref b6), .val (.int ((ma &&& (2147483647 : Int32)) % (2 : Int32))), .val (.int ((mb &&& (2147483647 : Int32)) % (2 : Int32))), .val (.ref b19), .val (.int (j0_154_s0 tb ma)), .val (.int (1 : Int32)), .unset, .unset] [(.int (1 : Int32)), (.int tb)])) _
          refine XS.iconst X59.here hx rfl (hb hby at_236) ?_
          show Steps p.tables e below (T59.setTop (mkF m 237 #[.val (.int sh), .val (.int tb), .val (.int ma), .val (.int mb), .val (.long cv), .second, .val (.long ov), .second, .val (.int (1 : Int32)), .val (.ref b4), .val (.ref b6), .val (.int ((ma &&& (2147483647 : Int32)) % (2 : Int32))), .val (.int ((mb &&& (2147483647 : Int32)) % (2 : Int32))), .val (.ref b19), .val (.int (j0_154_s0 tb ma)), .val (.int (1 : Int32)), .unset, .unset] [(.int (1 : Int32)), (.int (1 : Int32)), (.int tb)])) _
          refine XS.isub X59.here hx rfl (hb hby at_237) rfl ?_
          show Steps p.tables e below (T59.setTop (mkF m 238 #[.val (.int sh), .val (.int tb), .val (.int ma), .val (.int mb), .val (.long cv), .second, .val (.long ov), .second, .val (.int (1 : Int32)), .val (.ref b4), .val (.ref b6), .val (.int ((ma &&& (2147483647 : Int32)) % (2 : Int32))), .val (.int ((mb &&& (2147483647 : Int32)) % (2 : Int32))), .val (.ref b19), .val (.int (j0_154_s0 tb ma)), .val (.int (1 : Int32)), .unset, .unset] [(.int (0 : Int32)), (.int tb)])) _
          refine st71 _ ?_
          show Steps p.tables e below (T71.setTop (mkF m 241 #[.val (.int sh), .val (.int tb), .val (.int ma), .val (.int mb), .val (.long cv), .second, .val (.long ov), .second, .val (.int (1 : Int32)), .val (.ref b4), .val (.ref b6), .val (.int ((ma &&& (2147483647 : Int32)) % (2 : Int32))), .val (.int ((mb &&& (2147483647 : Int32)) % (2 : Int32))), .val (.ref b19), .val (.int (j0_154_s0 tb ma)), .val (.int (1 : Int32)), .unset, .unset] [(.int ((((tb.toUInt32 >>> (((8 : Int32) * (0 : Int32)) &&& 31).toUInt32).toInt32) &&& (255 : Int32)) % ((0 : Int32) + (1 : Int32))))])) _
          refine XS.goto X71.here hx rfl (pc0 := 241) (pc' := 246) rfl (hb hby at_241) (by decide) (by decide) ?_
          exact k
        have ev74 : (j0_226_s0 tb mb) = ((((tb.toUInt32 >>> (((8 : Int32) * (0 : Int32)) &&& 31).toUInt32).toInt32) &&& (255 : Int32)) % ((0 : Int32) + (1 : Int32))) := by unfold j0_226_s0; rw [if_pos hk70]
        exact ⟨_, _, X71, e71, N71, fun t k => pre72 _ (by rw [ev74] at k; exact k)⟩
      · have pre73 : ∀ t, Steps p.tables e below (T59.setTop (mkF m 246 #[.val (.int sh), .val (.int tb), .val (.int ma), .val (.int mb), .val (.long cv), .second, .val (.long ov), .second, .val (.int (1 : Int32)), .val (.ref b4), .val (.ref b6), .val (.int ((ma &&& (2147483647 : Int32)) % (2 : Int32))), .val (.int ((mb &&& (2147483647 : Int32)) % (2 : Int32))), .val (.ref b19), .val (.int (j0_154_s0 tb ma)), .val (.int (1 : Int32)), .unset, .unset] [(.int ((mb &&& (2147483647 : Int32)) % (2 : Int32)))])) t → Steps p.tables e below (s₁.setTop (entryFrame m #[(.int sh), (.int tb), (.int ma), (.int mb), (.long cv), (.long ov)] maxLocals)) t := by
          intro t k
          refine pre69 _ ?_
          show Steps p.tables e below (T59.setTop (mkF m 230 #[.val (.int sh), .val (.int tb), .val (.int ma), .val (.int mb), .val (.long cv), .second, .val (.long ov), .second, .val (.int (1 : Int32)), .val (.ref b4), .val (.ref b6), .val (.int ((ma &&& (2147483647 : Int32)) % (2 : Int32))), .val (.int ((mb &&& (2147483647 : Int32)) % (2 : Int32))), .val (.ref b19), .val (.int (j0_154_s0 tb ma)), .val (.int (1 : Int32)), .unset, .unset] [(.int (1 : Int32)), (.int ((mb &&& (2147483647 : Int32)) % (2 : Int32)))])) _
          refine XS.icmpYes X59.here hx rfl (pc0 := 230) (pc' := 244) rfl (hb hby at_230) rfl (feq hk70).2 (by decide) (by decide) ?_
          show Steps p.tables e below (T59.setTop (mkF m 244 #[.val (.int sh), .val (.int tb), .val (.int ma), .val (.int mb), .val (.long cv), .second, .val (.long ov), .second, .val (.int (1 : Int32)), .val (.ref b4), .val (.ref b6), .val (.int ((ma &&& (2147483647 : Int32)) % (2 : Int32))), .val (.int ((mb &&& (2147483647 : Int32)) % (2 : Int32))), .val (.ref b19), .val (.int (j0_154_s0 tb ma)), .val (.int (1 : Int32)), .unset, .unset] [])) _
          refine XS.iload X59.here hx rfl (hb hby at_244) rfl ?_
          exact k
        have ev75 : (j0_226_s0 tb mb) = ((mb &&& (2147483647 : Int32)) % (2 : Int32)) := by unfold j0_226_s0; rw [if_neg hk70]
        exact ⟨_, _, X59, rfl, N59, fun t k => pre73 _ (by rw [ev75] at k; exact k)⟩
    obtain ⟨cq77, kq77, q77a, q77b, q77c⟩ := isOf hZ e76 f67
    obtain ⟨_, _, ⟨T77, L77, k77, n77⟩, -, X77, ⟨Lc77, hQ77, l77, y77, z77⟩, st77⟩ := X76.virtualBack hx (y := (⟨"skipstitch/search/PrefixTableScan", "matched", "()I"⟩ : MethodName)) (z := (⟨"skipstitch/search/PrefixTableScan", "matched", "()I"⟩ : MethodName)) hown (mvT hZ (hw _ (List.mem_of_getElem? (i := 31) rfl))) (mvT hZ (hw _ (List.mem_of_getElem? (i := 32) rfl))) (notFace_of_selects (args := #[]) (mvT hZ (hw _ (List.mem_of_getElem? (i := 34) rfl)))) (mvT hZ (hw _ (List.mem_of_getElem? (i := 34) rfl))) (mvT hZ (hw _ (List.mem_of_getElem? (i := 33) rfl))) (by decide) (backOf (W := 0) (rm5 l Z a0 hw [] b19 (r4k1_matched ((mb &&& (2147483647 : Int32)) % (2 : Int32)) (up zI 0 ((((tb.toUInt32 >>> (((8 : Int32) * (0 : Int32)) &&& 31).toUInt32).toInt32) &&& (255 : Int32)) % ((0 : Int32) + (1 : Int32))))) T59.heap n0 Z59 f62) hZ (hw _ (List.mem_of_getElem? (i := 35) rfl)) (hw _ (List.mem_of_getElem? (i := 9) rfl)) (by decide) (by decide)) q77a q77c (g := (mkF m 250 #[.val (.int sh), .val (.int tb), .val (.int ma), .val (.int mb), .val (.long cv), .second, .val (.long ov), .second, .val (.int (1 : Int32)), .val (.ref b4), .val (.ref b6), .val (.int ((ma &&& (2147483647 : Int32)) % (2 : Int32))), .val (.int ((mb &&& (2147483647 : Int32)) % (2 : Int32))), .val (.ref b19), .val (.int (j0_154_s0 tb ma)), .val (.int (1 : Int32)), .val (.int (j0_226_s0 tb mb)), .unset] [(.ref b19)])) rfl (by rw [hml]; rfl) (Steps.refl _) (argsL := []) (rest := []) (lenOf pd_3 rfl) rfl (by show 2 * 0 + _ ≤ _; exact Nat.le_of_eq rfl) (hb hby at_250) (fun _ _ => ⟨rfl, e76, (by decide : 3 + 0 ≤ _), (by decide : 7 + 0 ≤ _)⟩)
    dsimp only [Pt.U, Pt.locs, Pt.cells, Pt.slots] at X77 l77 y77 z77 st77 hQ77
    subst l77 y77 z77
    obtain ⟨rfl, N77q, e77⟩ := hQ77
    have N77 := Fr.app N76 N77q
    obtain ⟨cq78, kq78, q78a, q78b, q78c⟩ := isOf hZ e77 f67
    obtain ⟨_, _, ⟨T78, L78, k78, n78⟩, -, X78, ⟨Lc78, hQ78, l78, y78, z78⟩, st78⟩ := X77.virtualBack hx (y := (⟨"skipstitch/search/PrefixTableScan", "comparisons", "()J"⟩ : MethodName)) (z := (⟨"skipstitch/search/PrefixTableScan", "comparisons", "()J"⟩ : MethodName)) hown (mvT hZ (hw _ (List.mem_of_getElem? (i := 36) rfl))) (mvT hZ (hw _ (List.mem_of_getElem? (i := 37) rfl))) (notFace_of_selects (args := #[]) (mvT hZ (hw _ (List.mem_of_getElem? (i := 39) rfl)))) (mvT hZ (hw _ (List.mem_of_getElem? (i := 39) rfl))) (mvT hZ (hw _ (List.mem_of_getElem? (i := 38) rfl))) (by decide) (backOf (W := 0) (rm6 l Z a0 hw [] b19 ov T59.heap n0 Z59 f63) hZ (hw _ (List.mem_of_getElem? (i := 40) rfl)) (hw _ (List.mem_of_getElem? (i := 9) rfl)) (by decide) (by decide)) q78a q78c (g := (mkF m 260 #[.val (.int sh), .val (.int tb), .val (.int ma), .val (.int mb), .val (.long cv), .second, .val (.long ov), .second, .val (.int (1 : Int32)), .val (.ref b4), .val (.ref b6), .val (.int ((ma &&& (2147483647 : Int32)) % (2 : Int32))), .val (.int ((mb &&& (2147483647 : Int32)) % (2 : Int32))), .val (.ref b19), .val (.int (j0_154_s0 tb ma)), .val (.int (1 : Int32)), .val (.int (j0_226_s0 tb mb)), .unset] [(.ref b19)])) rfl (by rw [hml]; rfl) (Steps.refl _) (argsL := []) (rest := []) (lenOf pd_4 rfl) rfl (by show 2 * 0 + _ ≤ _; exact Nat.le_of_eq rfl) (hb hby at_260) (fun _ _ => ⟨rfl, e77, (by decide : 3 + 0 ≤ _), (by decide : 7 + 0 ≤ _)⟩)
    dsimp only [Pt.U, Pt.locs, Pt.cells, Pt.slots] at X78 l78 y78 z78 st78 hQ78
    subst l78 y78 z78
    obtain ⟨rfl, N78q, e78⟩ := hQ78
    have N78 := Fr.app N77 N78q
    obtain ⟨cq79, kq79, q79a, q79b, q79c⟩ := isOf hZ e78 f67
    obtain ⟨_, _, ⟨T79, L79, k79, n79⟩, -, X79, ⟨Lc79, hQ79, l79, y79, z79⟩, st79⟩ := X78.virtualBack hx (y := (⟨"skipstitch/search/PrefixTableScan", "occurrences", "()J"⟩ : MethodName)) (z := (⟨"skipstitch/search/PrefixTableScan", "occurrences", "()J"⟩ : MethodName)) hown (mvT hZ (hw _ (List.mem_of_getElem? (i := 41) rfl))) (mvT hZ (hw _ (List.mem_of_getElem? (i := 42) rfl))) (notFace_of_selects (args := #[]) (mvT hZ (hw _ (List.mem_of_getElem? (i := 44) rfl)))) (mvT hZ (hw _ (List.mem_of_getElem? (i := 44) rfl))) (mvT hZ (hw _ (List.mem_of_getElem? (i := 43) rfl))) (by decide) (backOf (W := 0) (rm7 l Z a0 hw [] b19 cv T59.heap n0 Z59 f64) hZ (hw _ (List.mem_of_getElem? (i := 45) rfl)) (hw _ (List.mem_of_getElem? (i := 9) rfl)) (by decide) (by decide)) q79a q79c (g := (mkF m 271 #[.val (.int sh), .val (.int tb), .val (.int ma), .val (.int mb), .val (.long cv), .second, .val (.long ov), .second, .val (.int (1 : Int32)), .val (.ref b4), .val (.ref b6), .val (.int ((ma &&& (2147483647 : Int32)) % (2 : Int32))), .val (.int ((mb &&& (2147483647 : Int32)) % (2 : Int32))), .val (.ref b19), .val (.int (j0_154_s0 tb ma)), .val (.int (1 : Int32)), .val (.int (j0_226_s0 tb mb)), .unset] [(.ref b19)])) rfl (by rw [hml]; rfl) (Steps.refl _) (argsL := []) (rest := []) (lenOf pd_4 rfl) rfl (by show 2 * 0 + _ ≤ _; exact Nat.le_of_eq rfl) (hb hby at_271) (fun _ _ => ⟨rfl, e78, (by decide : 3 + 0 ≤ _), (by decide : 7 + 0 ≤ _)⟩)
    dsimp only [Pt.U, Pt.locs, Pt.cells, Pt.slots] at X79 l79 y79 z79 st79 hQ79
    subst l79 y79 z79
    obtain ⟨rfl, N79q, e79⟩ := hQ79
    have N79 := Fr.app N78 N79q
    obtain ⟨fs, hr, hrun, hended, hW, hsame⟩ := X79.leave (v := some (.int (1 : Int32))) (fun h => by rw [Bd.returns] at h; cases h)
    refine ⟨_, _, pre76 _ ?_, hrun, hended, _, _, rfl, ?_, ⟨_, rfl⟩, hW, hsame.mono (by decide) (by decide)⟩
    · show Steps p.tables e below (T76.setTop (mkF m 246 #[.val (.int sh), .val (.int tb), .val (.int ma), .val (.int mb), .val (.long cv), .second, .val (.long ov), .second, .val (.int (1 : Int32)), .val (.ref b4), .val (.ref b6), .val (.int ((ma &&& (2147483647 : Int32)) % (2 : Int32))), .val (.int ((mb &&& (2147483647 : Int32)) % (2 : Int32))), .val (.ref b19), .val (.int (j0_154_s0 tb ma)), .val (.int (1 : Int32)), .unset, .unset] [(.int (j0_226_s0 tb mb))])) _
      refine XS.istore X76.here hx rfl (hb hby at_246) rfl (l' := #[.val (.int sh), .val (.int tb), .val (.int ma), .val (.int mb), .val (.long cv), .second, .val (.long ov), .second, .val (.int (1 : Int32)), .val (.ref b4), .val (.ref b6), .val (.int ((ma &&& (2147483647 : Int32)) % (2 : Int32))), .val (.int ((mb &&& (2147483647 : Int32)) % (2 : Int32))), .val (.ref b19), .val (.int (j0_154_s0 tb ma)), .val (.int (1 : Int32)), .val (.int (j0_226_s0 tb mb)), .unset]) rfl ?_
      show Steps p.tables e below (T76.setTop (mkF m 248 #[.val (.int sh), .val (.int tb), .val (.int ma), .val (.int mb), .val (.long cv), .second, .val (.long ov), .second, .val (.int (1 : Int32)), .val (.ref b4), .val (.ref b6), .val (.int ((ma &&& (2147483647 : Int32)) % (2 : Int32))), .val (.int ((mb &&& (2147483647 : Int32)) % (2 : Int32))), .val (.ref b19), .val (.int (j0_154_s0 tb ma)), .val (.int (1 : Int32)), .val (.int (j0_226_s0 tb mb)), .unset] [])) _
      refine XS.aload X76.here hx rfl (hb hby at_248) rfl rfl ?_
      show Steps p.tables e below (T76.setTop (mkF m 250 #[.val (.int sh), .val (.int tb), .val (.int ma), .val (.int mb), .val (.long cv), .second, .val (.long ov), .second, .val (.int (1 : Int32)), .val (.ref b4), .val (.ref b6), .val (.int ((ma &&& (2147483647 : Int32)) % (2 : Int32))), .val (.int ((mb &&& (2147483647 : Int32)) % (2 : Int32))), .val (.ref b19), .val (.int (j0_154_s0 tb ma)), .val (.int (1 : Int32)), .val (.int (j0_226_s0 tb mb)), .unset] [(.ref b19)])) _
      refine st77.trans ?_
      show Steps p.tables e below (T77.setTop (mkF m 253 #[.val (.int sh), .val (.int tb), .val (.int ma), .val (.int mb), .val (.long cv), .second, .val (.long ov), .second, .val (.int (1 : Int32)), .val (.ref b4), .val (.ref b6), .val (.int ((ma &&& (2147483647 : Int32)) % (2 : Int32))), .val (.int ((mb &&& (2147483647 : Int32)) % (2 : Int32))), .val (.ref b19), .val (.int (j0_154_s0 tb ma)), .val (.int (1 : Int32)), .val (.int (j0_226_s0 tb mb)), .unset] [(.int (r4k1_matched ((mb &&& (2147483647 : Int32)) % (2 : Int32)) (up zI 0 ((((tb.toUInt32 >>> (((8 : Int32) * (0 : Int32)) &&& 31).toUInt32).toInt32) &&& (255 : Int32)) % ((0 : Int32) + (1 : Int32))))))])) _
      refine XS.iload X77.here hx rfl (hb hby at_253) rfl ?_
      show Steps p.tables e below (T77.setTop (mkF m 255 #[.val (.int sh), .val (.int tb), .val (.int ma), .val (.int mb), .val (.long cv), .second, .val (.long ov), .second, .val (.int (1 : Int32)), .val (.ref b4), .val (.ref b6), .val (.int ((ma &&& (2147483647 : Int32)) % (2 : Int32))), .val (.int ((mb &&& (2147483647 : Int32)) % (2 : Int32))), .val (.ref b19), .val (.int (j0_154_s0 tb ma)), .val (.int (1 : Int32)), .val (.int (j0_226_s0 tb mb)), .unset] [(.int (j0_226_s0 tb mb)), (.int (r4k1_matched ((mb &&& (2147483647 : Int32)) % (2 : Int32)) (up zI 0 ((((tb.toUInt32 >>> (((8 : Int32) * (0 : Int32)) &&& 31).toUInt32).toInt32) &&& (255 : Int32)) % ((0 : Int32) + (1 : Int32))))))])) _
      refine XS.icmpNo X77.here hx rfl (hb hby at_255) rfl (teq (rfl : ((r4k1_matched ((mb &&& (2147483647 : Int32)) % (2 : Int32)) (up zI 0 ((((tb.toUInt32 >>> (((8 : Int32) * (0 : Int32)) &&& 31).toUInt32).toInt32) &&& (255 : Int32)) % ((0 : Int32) + (1 : Int32))))) = (j0_226_s0 tb mb)))).2 ?_
      show Steps p.tables e below (T77.setTop (mkF m 258 #[.val (.int sh), .val (.int tb), .val (.int ma), .val (.int mb), .val (.long cv), .second, .val (.long ov), .second, .val (.int (1 : Int32)), .val (.ref b4), .val (.ref b6), .val (.int ((ma &&& (2147483647 : Int32)) % (2 : Int32))), .val (.int ((mb &&& (2147483647 : Int32)) % (2 : Int32))), .val (.ref b19), .val (.int (j0_154_s0 tb ma)), .val (.int (1 : Int32)), .val (.int (j0_226_s0 tb mb)), .unset] [])) _
      refine XS.aload X77.here hx rfl (hb hby at_258) rfl rfl ?_
      show Steps p.tables e below (T77.setTop (mkF m 260 #[.val (.int sh), .val (.int tb), .val (.int ma), .val (.int mb), .val (.long cv), .second, .val (.long ov), .second, .val (.int (1 : Int32)), .val (.ref b4), .val (.ref b6), .val (.int ((ma &&& (2147483647 : Int32)) % (2 : Int32))), .val (.int ((mb &&& (2147483647 : Int32)) % (2 : Int32))), .val (.ref b19), .val (.int (j0_154_s0 tb ma)), .val (.int (1 : Int32)), .val (.int (j0_226_s0 tb mb)), .unset] [(.ref b19)])) _
      refine st78.trans ?_
      show Steps p.tables e below (T78.setTop (mkF m 263 #[.val (.int sh), .val (.int tb), .val (.int ma), .val (.int mb), .val (.long cv), .second, .val (.long ov), .second, .val (.int (1 : Int32)), .val (.ref b4), .val (.ref b6), .val (.int ((ma &&& (2147483647 : Int32)) % (2 : Int32))), .val (.int ((mb &&& (2147483647 : Int32)) % (2 : Int32))), .val (.ref b19), .val (.int (j0_154_s0 tb ma)), .val (.int (1 : Int32)), .val (.int (j0_226_s0 tb mb)), .unset] [(.long ov)])) _
      refine XS.lload X78.here hx rfl (hb hby at_263) rfl ?_
      show Steps p.tables e below (T78.setTop (mkF m 265 #[.val (.int sh), .val (.int tb), .val (.int ma), .val (.int mb), .val (.long cv), .second, .val (.long ov), .second, .val (.int (1 : Int32)), .val (.ref b4), .val (.ref b6), .val (.int ((ma &&& (2147483647 : Int32)) % (2 : Int32))), .val (.int ((mb &&& (2147483647 : Int32)) % (2 : Int32))), .val (.ref b19), .val (.int (j0_154_s0 tb ma)), .val (.int (1 : Int32)), .val (.int (j0_226_s0 tb mb)), .unset] [(.long ov), (.long ov)])) _
      refine XS.lcmp X78.here hx rfl (hb hby at_265) rfl ?_
      show Steps p.tables e below (T78.setTop (mkF m 266 #[.val (.int sh), .val (.int tb), .val (.int ma), .val (.int mb), .val (.long cv), .second, .val (.long ov), .second, .val (.int (1 : Int32)), .val (.ref b4), .val (.ref b6), .val (.int ((ma &&& (2147483647 : Int32)) % (2 : Int32))), .val (.int ((mb &&& (2147483647 : Int32)) % (2 : Int32))), .val (.ref b19), .val (.int (j0_154_s0 tb ma)), .val (.int (1 : Int32)), .val (.int (j0_226_s0 tb mb)), .unset] [(.int (lcmpW ov ov))])) _
      refine XS.ifNo X78.here hx rfl (hb hby at_266) rfl (own_teqL (rfl : ov = ov)).2 ?_
      show Steps p.tables e below (T78.setTop (mkF m 269 #[.val (.int sh), .val (.int tb), .val (.int ma), .val (.int mb), .val (.long cv), .second, .val (.long ov), .second, .val (.int (1 : Int32)), .val (.ref b4), .val (.ref b6), .val (.int ((ma &&& (2147483647 : Int32)) % (2 : Int32))), .val (.int ((mb &&& (2147483647 : Int32)) % (2 : Int32))), .val (.ref b19), .val (.int (j0_154_s0 tb ma)), .val (.int (1 : Int32)), .val (.int (j0_226_s0 tb mb)), .unset] [])) _
      refine XS.aload X78.here hx rfl (hb hby at_269) rfl rfl ?_
      show Steps p.tables e below (T78.setTop (mkF m 271 #[.val (.int sh), .val (.int tb), .val (.int ma), .val (.int mb), .val (.long cv), .second, .val (.long ov), .second, .val (.int (1 : Int32)), .val (.ref b4), .val (.ref b6), .val (.int ((ma &&& (2147483647 : Int32)) % (2 : Int32))), .val (.int ((mb &&& (2147483647 : Int32)) % (2 : Int32))), .val (.ref b19), .val (.int (j0_154_s0 tb ma)), .val (.int (1 : Int32)), .val (.int (j0_226_s0 tb mb)), .unset] [(.ref b19)])) _
      refine st79.trans ?_
      show Steps p.tables e below (T79.setTop (mkF m 274 #[.val (.int sh), .val (.int tb), .val (.int ma), .val (.int mb), .val (.long cv), .second, .val (.long ov), .second, .val (.int (1 : Int32)), .val (.ref b4), .val (.ref b6), .val (.int ((ma &&& (2147483647 : Int32)) % (2 : Int32))), .val (.int ((mb &&& (2147483647 : Int32)) % (2 : Int32))), .val (.ref b19), .val (.int (j0_154_s0 tb ma)), .val (.int (1 : Int32)), .val (.int (j0_226_s0 tb mb)), .unset] [(.long cv)])) _
      refine XS.lload X79.here hx rfl (hb hby at_274) rfl ?_
      show Steps p.tables e below (T79.setTop (mkF m 276 #[.val (.int sh), .val (.int tb), .val (.int ma), .val (.int mb), .val (.long cv), .second, .val (.long ov), .second, .val (.int (1 : Int32)), .val (.ref b4), .val (.ref b6), .val (.int ((ma &&& (2147483647 : Int32)) % (2 : Int32))), .val (.int ((mb &&& (2147483647 : Int32)) % (2 : Int32))), .val (.ref b19), .val (.int (j0_154_s0 tb ma)), .val (.int (1 : Int32)), .val (.int (j0_226_s0 tb mb)), .unset] [(.long cv), (.long cv)])) _
      refine XS.lcmp X79.here hx rfl (hb hby at_276) rfl ?_
      show Steps p.tables e below (T79.setTop (mkF m 277 #[.val (.int sh), .val (.int tb), .val (.int ma), .val (.int mb), .val (.long cv), .second, .val (.long ov), .second, .val (.int (1 : Int32)), .val (.ref b4), .val (.ref b6), .val (.int ((ma &&& (2147483647 : Int32)) % (2 : Int32))), .val (.int ((mb &&& (2147483647 : Int32)) % (2 : Int32))), .val (.ref b19), .val (.int (j0_154_s0 tb ma)), .val (.int (1 : Int32)), .val (.int (j0_226_s0 tb mb)), .unset] [(.int (lcmpW cv cv))])) _
      refine XS.ifNo X79.here hx rfl (hb hby at_277) rfl (own_teqL (rfl : cv = cv)).2 ?_
      show Steps p.tables e below (T79.setTop (mkF m 280 #[.val (.int sh), .val (.int tb), .val (.int ma), .val (.int mb), .val (.long cv), .second, .val (.long ov), .second, .val (.int (1 : Int32)), .val (.ref b4), .val (.ref b6), .val (.int ((ma &&& (2147483647 : Int32)) % (2 : Int32))), .val (.int ((mb &&& (2147483647 : Int32)) % (2 : Int32))), .val (.ref b19), .val (.int (j0_154_s0 tb ma)), .val (.int (1 : Int32)), .val (.int (j0_226_s0 tb mb)), .unset] [])) _
      refine XS.iconst X79.here hx rfl (hb hby at_280) ?_
      show Steps p.tables e below (T79.setTop (mkF m 281 #[.val (.int sh), .val (.int tb), .val (.int ma), .val (.int mb), .val (.long cv), .second, .val (.long ov), .second, .val (.int (1 : Int32)), .val (.ref b4), .val (.ref b6), .val (.int ((ma &&& (2147483647 : Int32)) % (2 : Int32))), .val (.int ((mb &&& (2147483647 : Int32)) % (2 : Int32))), .val (.ref b19), .val (.int (j0_154_s0 tb ma)), .val (.int (1 : Int32)), .val (.int (j0_226_s0 tb mb)), .unset] [(.int (1 : Int32))])) _
      refine XS.goto X79.here hx rfl (pc0 := 281) (pc' := 285) rfl (hb hby at_281) (by decide) (by decide) ?_
      show Steps p.tables e below (T79.setTop (mkF m 285 #[.val (.int sh), .val (.int tb), .val (.int ma), .val (.int mb), .val (.long cv), .second, .val (.long ov), .second, .val (.int (1 : Int32)), .val (.ref b4), .val (.ref b6), .val (.int ((ma &&& (2147483647 : Int32)) % (2 : Int32))), .val (.int ((mb &&& (2147483647 : Int32)) % (2 : Int32))), .val (.ref b19), .val (.int (j0_154_s0 tb ma)), .val (.int (1 : Int32)), .val (.int (j0_226_s0 tb mb)), .unset] [(.int (1 : Int32))])) _
      refine XS.istore X79.here hx rfl (hb hby at_285) rfl (l' := #[.val (.int sh), .val (.int tb), .val (.int ma), .val (.int mb), .val (.long cv), .second, .val (.long ov), .second, .val (.int (1 : Int32)), .val (.ref b4), .val (.ref b6), .val (.int ((ma &&& (2147483647 : Int32)) % (2 : Int32))), .val (.int ((mb &&& (2147483647 : Int32)) % (2 : Int32))), .val (.ref b19), .val (.int (j0_154_s0 tb ma)), .val (.int (1 : Int32)), .val (.int (j0_226_s0 tb mb)), .val (.int (1 : Int32))]) rfl ?_
      show Steps p.tables e below (T79.setTop (mkF m 287 #[.val (.int sh), .val (.int tb), .val (.int ma), .val (.int mb), .val (.long cv), .second, .val (.long ov), .second, .val (.int (1 : Int32)), .val (.ref b4), .val (.ref b6), .val (.int ((ma &&& (2147483647 : Int32)) % (2 : Int32))), .val (.int ((mb &&& (2147483647 : Int32)) % (2 : Int32))), .val (.ref b19), .val (.int (j0_154_s0 tb ma)), .val (.int (1 : Int32)), .val (.int (j0_226_s0 tb mb)), .val (.int (1 : Int32))] [])) _
      refine XS.iload X79.here hx rfl (hb hby at_287) rfl ?_
      show Steps p.tables e below (T79.setTop (mkF m 289 #[.val (.int sh), .val (.int tb), .val (.int ma), .val (.int mb), .val (.long cv), .second, .val (.long ov), .second, .val (.int (1 : Int32)), .val (.ref b4), .val (.ref b6), .val (.int ((ma &&& (2147483647 : Int32)) % (2 : Int32))), .val (.int ((mb &&& (2147483647 : Int32)) % (2 : Int32))), .val (.ref b19), .val (.int (j0_154_s0 tb ma)), .val (.int (1 : Int32)), .val (.int (j0_226_s0 tb mb)), .val (.int (1 : Int32))] [(.int (1 : Int32))])) _
      refine XS.ifNo X79.here hx rfl (hb hby at_289) rfl ((if0 _ _).trans (feq (by decide : ¬ ((1 : Int32) = (0 : Int32)))).1) ?_
      show Steps p.tables e below (T79.setTop (mkF m 292 #[.val (.int sh), .val (.int tb), .val (.int ma), .val (.int mb), .val (.long cv), .second, .val (.long ov), .second, .val (.int (1 : Int32)), .val (.ref b4), .val (.ref b6), .val (.int ((ma &&& (2147483647 : Int32)) % (2 : Int32))), .val (.int ((mb &&& (2147483647 : Int32)) % (2 : Int32))), .val (.ref b19), .val (.int (j0_154_s0 tb ma)), .val (.int (1 : Int32)), .val (.int (j0_226_s0 tb mb)), .val (.int (1 : Int32))] [])) _
      refine XS.iload X79.here hx rfl (hb hby at_292) rfl ?_
      show Steps p.tables e below (T79.setTop (mkF m 294 #[.val (.int sh), .val (.int tb), .val (.int ma), .val (.int mb), .val (.long cv), .second, .val (.long ov), .second, .val (.int (1 : Int32)), .val (.ref b4), .val (.ref b6), .val (.int ((ma &&& (2147483647 : Int32)) % (2 : Int32))), .val (.int ((mb &&& (2147483647 : Int32)) % (2 : Int32))), .val (.ref b19), .val (.int (j0_154_s0 tb ma)), .val (.int (1 : Int32)), .val (.int (j0_226_s0 tb mb)), .val (.int (1 : Int32))] [(.int (1 : Int32))])) _
      refine XS.ifNo X79.here hx rfl (hb hby at_294) rfl ((if0 _ _).trans (feq (by decide : ¬ ((1 : Int32) = (0 : Int32)))).1) ?_
      show Steps p.tables e below (T79.setTop (mkF m 297 #[.val (.int sh), .val (.int tb), .val (.int ma), .val (.int mb), .val (.long cv), .second, .val (.long ov), .second, .val (.int (1 : Int32)), .val (.ref b4), .val (.ref b6), .val (.int ((ma &&& (2147483647 : Int32)) % (2 : Int32))), .val (.int ((mb &&& (2147483647 : Int32)) % (2 : Int32))), .val (.ref b19), .val (.int (j0_154_s0 tb ma)), .val (.int (1 : Int32)), .val (.int (j0_226_s0 tb mb)), .val (.int (1 : Int32))] [])) _
      refine XS.iconst X79.here hx rfl (hb hby at_297) ?_
      show Steps p.tables e below (T79.setTop (mkF m 298 #[.val (.int sh), .val (.int tb), .val (.int ma), .val (.int mb), .val (.long cv), .second, .val (.long ov), .second, .val (.int (1 : Int32)), .val (.ref b4), .val (.ref b6), .val (.int ((ma &&& (2147483647 : Int32)) % (2 : Int32))), .val (.int ((mb &&& (2147483647 : Int32)) % (2 : Int32))), .val (.ref b19), .val (.int (j0_154_s0 tb ma)), .val (.int (1 : Int32)), .val (.int (j0_226_s0 tb mb)), .val (.int (1 : Int32))] [(.int (1 : Int32))])) _
      refine XS.goto X79.here hx rfl (pc0 := 298) (pc' := 302) rfl (hb hby at_298) (by decide) (by decide) ?_
      show Steps p.tables e below (T79.setTop (mkF m 302 #[.val (.int sh), .val (.int tb), .val (.int ma), .val (.int mb), .val (.long cv), .second, .val (.long ov), .second, .val (.int (1 : Int32)), .val (.ref b4), .val (.ref b6), .val (.int ((ma &&& (2147483647 : Int32)) % (2 : Int32))), .val (.int ((mb &&& (2147483647 : Int32)) % (2 : Int32))), .val (.ref b19), .val (.int (j0_154_s0 tb ma)), .val (.int (1 : Int32)), .val (.int (j0_226_s0 tb mb)), .val (.int (1 : Int32))] [(.int (1 : Int32))])) _
      exact retN X79 hx (t := .boolean) Bd.returns (by simp) (hb hby at_302) hr
    · show Q0 Z sh tb ma mb cv ov h0 n0 _ T79.heap _
      rw [e79]
      exact ⟨rfl, N79⟩
  · have pre80 : ∀ t, Steps p.tables e below (s₁.setTop (mkF m 5 #[.val (.int sh), .val (.int tb), .val (.int ma), .val (.int mb), .val (.long cv), .second, .val (.long ov), .second, .unset, .unset, .unset, .unset, .unset, .unset, .unset, .unset, .unset, .unset] [(.int (2 : Int32))])) t → Steps p.tables e below (s₁.setTop (entryFrame m #[(.int sh), (.int tb), (.int ma), (.int mb), (.long cv), (.long ov)] maxLocals)) t := by
      intro t k
      refine pre1 _ ?_
      rw [hk2]
      exact k
    obtain ⟨T81, h81, k81, X81, e81, E81, A81, st81⟩ := newP X0 hx hZ (hw _ (List.mem_of_getElem? (i := 0) rfl)) e0 (g := (mkF m 9 #[.val (.int sh), .val (.int tb), .val (.int ma), .val (.int mb), .val (.long cv), .second, .val (.long ov), .second, .val (.int (2 : Int32)), .unset, .unset, .unset, .unset, .unset, .unset, .unset, .unset, .unset] [(.int (2 : Int32))])) rfl (hb hby at_9) rfl (by decide) (cap := 2) (by decide) (by decide) (by decide) (by decide)
    obtain ⟨b81, g81⟩ : ∃ z, z = h0.size := ⟨_, rfl⟩
    rw [← g81] at A81 st81
    have gg81 : n0 ≤ b81 := Nat.le_trans Z0 (Nat.le_of_eq g81.symm)
    have Z81 : n0 ≤ h81.size := Nat.le_trans Z0 E81.1
    have f82 : AI Z h81 b81 .byte 2 zI := AF.new A81 (by decide)
    obtain ⟨T83, h83, k83, X83, e83, E83, A83, st83⟩ := newP X81 hx hZ (hw _ (List.mem_of_getElem? (i := 1) rfl)) e81 (g := (mkF m 15 #[.val (.int sh), .val (.int tb), .val (.int ma), .val (.int mb), .val (.long cv), .second, .val (.long ov), .second, .val (.int (2 : Int32)), .val (.ref b81), .unset, .unset, .unset, .unset, .unset, .unset, .unset, .unset] [(.int (2 : Int32))])) rfl (hb hby at_15) rfl (by decide) (cap := 2) (by decide) (by decide) (by decide) (by decide)
    obtain ⟨b83, g83⟩ : ∃ z, z = h81.size := ⟨_, rfl⟩
    rw [← g83] at A83 st83
    have ne84 : b81 ≠ b83 := Nat.ne_of_lt (Nat.lt_of_lt_of_le f82.lt (Nat.le_of_eq g83.symm))
    have gg83 : n0 ≤ b83 := Nat.le_trans Z81 (Nat.le_of_eq g83.symm)
    have f85 : AI Z h83 b81 .byte 2 zI := f82.ext E83
    have Z83 : n0 ≤ h83.size := Nat.le_trans Z81 E83.1
    have f86 : AI Z h83 b83 .int 2 zI := AF.new A83 (by decide)
    obtain ⟨cl87, Arcl87, hincl87, -⟩ := AF.at f85 (j := (0 : Int32)) 0 (by decide) (by decide)
    obtain ⟨T88, h88, X88, e88, W88, st88⟩ := stB X83 hx hZ e83 Arcl87 (j := (0 : Int32)) hincl87 (g := (mkF m 26 #[.val (.int sh), .val (.int tb), .val (.int ma), .val (.int mb), .val (.long cv), .second, .val (.long ov), .second, .val (.int (2 : Int32)), .val (.ref b81), .val (.ref b83), .unset, .unset, .unset, .unset, .unset, .unset, .unset] [(.int ((sh >>> ((2 : Int32) &&& 31)).toInt8.toInt32)), (.int (0 : Int32)), (.ref b81)])) rfl rfl (hb hby at_26)
    rw [own_nb] at W88
    have N88 := Fr.snoc X88 N0 gg81
    have Z88 : n0 ≤ h88.size := Nat.le_trans Z83 (Keep.of_wr W88).1
    have f89 : AI Z h88 b81 .byte 2 (up zI 0 ((sh >>> ((2 : Int32) &&& 31)).toInt8.toInt32)) := AF.setI f85 W88 0 (by decide)
    have f90 : AI Z h88 b83 .int 2 zI := f86.other W88 (Ne.symm ne84)
    obtain ⟨_, _, ⟨T91, L91, k91, n91⟩, -, X91, ⟨Lc91, hQ91, l91, y91, z91⟩, st91⟩ := Jvm.LawKit.callS X88 hx (y := (⟨"skipstitch/search/PrefixTableScanResumePinLaw", "entry", "(II)I"⟩ : MethodName)) hown (mvT hZ (hw _ (List.mem_of_getElem? (i := 2) rfl))) (mvT hZ (hw _ (List.mem_of_getElem? (i := 3) rfl))) (mvT hZ (hw _ (List.mem_of_getElem? (i := 4) rfl))) (mvT hZ (hw _ (List.mem_of_getElem? (i := 5) rfl))) (by decide) (backOf (W := 2) (rm1 l Z a0 hw [] tb (0 : Int32) h88 n0 Z88 (by decide)) hZ (hw _ (List.mem_of_getElem? (i := 5) rfl)) (hw _ (List.mem_of_getElem? (i := 4) rfl)) (by decide) (by decide)) (g := (mkF m 32 #[.val (.int sh), .val (.int tb), .val (.int ma), .val (.int mb), .val (.long cv), .second, .val (.long ov), .second, .val (.int (2 : Int32)), .val (.ref b81), .val (.ref b83), .unset, .unset, .unset, .unset, .unset, .unset, .unset] [(.int (0 : Int32)), (.int tb), (.int (0 : Int32)), (.ref b83)])) rfl (by rw [hml]; rfl) (argsL := [(.int tb), (.int (0 : Int32))]) (rest := [(.int (0 : Int32)), (.ref b83)]) (lenOf pd_0 rfl) rfl (by show 2 * 0 + _ ≤ _; exact Nat.le_of_eq rfl) (hb hby at_32) (fun _ _ => ⟨rfl, e88, (by decide : 2 + 0 ≤ _), (by decide : 4 + 0 ≤ _)⟩)
    dsimp only [Pt.U, Pt.locs, Pt.cells, Pt.slots] at X91 l91 y91 z91 st91 hQ91
    subst l91 y91 z91
    obtain ⟨rfl, N91q, e91⟩ := hQ91
    have N91 := Fr.app N88 N91q
    obtain ⟨cl92, Arcl92, hincl92, -⟩ := AF.at f90 (j := (0 : Int32)) 0 (by decide) (by decide)
    obtain ⟨T93, h93, X93, e93, W93, st93⟩ := stI X91 hx hZ e91 Arcl92 (j := (0 : Int32)) hincl92 (g := (mkF m 35 #[.val (.int sh), .val (.int tb), .val (.int ma), .val (.int mb), .val (.long cv), .second, .val (.long ov), .second, .val (.int (2 : Int32)), .val (.ref b81), .val (.ref b83), .unset, .unset, .unset, .unset, .unset, .unset, .unset] [(.int ((((tb.toUInt32 >>> (((8 : Int32) * (0 : Int32)) &&& 31).toUInt32).toInt32) &&& (255 : Int32)) % ((0 : Int32) + (1 : Int32)))), (.int (0 : Int32)), (.ref b83)])) rfl rfl (hb hby at_35)
    have N93 := Fr.snoc X93 N91 gg83
    have Z93 : n0 ≤ h93.size := Nat.le_trans Z88 (Keep.of_wr W93).1
    have f94 : AI Z h93 b83 .int 2 (up zI 0 ((((tb.toUInt32 >>> (((8 : Int32) * (0 : Int32)) &&& 31).toUInt32).toInt32) &&& (255 : Int32)) % ((0 : Int32) + (1 : Int32)))) := AF.setI f90 W93 0 (by decide)
    have f95 : AI Z h93 b81 .byte 2 (up zI 0 ((sh >>> ((2 : Int32) &&& 31)).toInt8.toInt32)) := f89.other W93 ne84
    obtain ⟨cl96, Arcl96, hincl96, -⟩ := AF.at f95 (j := (1 : Int32)) 1 (by decide) (by decide)
    obtain ⟨T97, h97, X97, e97, W97, st97⟩ := stB X93 hx hZ e93 Arcl96 (j := (1 : Int32)) hincl96 (g := (mkF m 50 #[.val (.int sh), .val (.int tb), .val (.int ma), .val (.int mb), .val (.long cv), .second, .val (.long ov), .second, .val (.int (2 : Int32)), .val (.ref b81), .val (.ref b83), .unset, .unset, .unset, .unset, .unset, .unset, .unset] [(.int ((sh >>> ((10 : Int32) &&& 31)).toInt8.toInt32)), (.int (1 : Int32)), (.ref b81)])) rfl rfl (hb hby at_50)
    rw [own_nb] at W97
    have N97 := Fr.snoc X97 N93 gg81
    have Z97 : n0 ≤ h97.size := Nat.le_trans Z93 (Keep.of_wr W97).1
    have f98 : AI Z h97 b81 .byte 2 (up (up zI 0 ((sh >>> ((2 : Int32) &&& 31)).toInt8.toInt32)) 1 ((sh >>> ((10 : Int32) &&& 31)).toInt8.toInt32)) := AF.setI f95 W97 1 (by decide)
    have f99 : AI Z h97 b83 .int 2 (up zI 0 ((((tb.toUInt32 >>> (((8 : Int32) * (0 : Int32)) &&& 31).toUInt32).toInt32) &&& (255 : Int32)) % ((0 : Int32) + (1 : Int32)))) := f94.other W97 (Ne.symm ne84)
    obtain ⟨_, _, ⟨T100, L100, k100, n100⟩, -, X100, ⟨Lc100, hQ100, l100, y100, z100⟩, st100⟩ := Jvm.LawKit.callS X97 hx (y := (⟨"skipstitch/search/PrefixTableScanResumePinLaw", "entry", "(II)I"⟩ : MethodName)) hown (mvT hZ (hw _ (List.mem_of_getElem? (i := 2) rfl))) (mvT hZ (hw _ (List.mem_of_getElem? (i := 3) rfl))) (mvT hZ (hw _ (List.mem_of_getElem? (i := 4) rfl))) (mvT hZ (hw _ (List.mem_of_getElem? (i := 5) rfl))) (by decide) (backOf (W := 2) (rm1 l Z a0 hw [] tb (1 : Int32) h97 n0 Z97 (by decide)) hZ (hw _ (List.mem_of_getElem? (i := 5) rfl)) (hw _ (List.mem_of_getElem? (i := 4) rfl)) (by decide) (by decide)) (g := (mkF m 56 #[.val (.int sh), .val (.int tb), .val (.int ma), .val (.int mb), .val (.long cv), .second, .val (.long ov), .second, .val (.int (2 : Int32)), .val (.ref b81), .val (.ref b83), .unset, .unset, .unset, .unset, .unset, .unset, .unset] [(.int (1 : Int32)), (.int tb), (.int (1 : Int32)), (.ref b83)])) rfl (by rw [hml]; rfl) (argsL := [(.int tb), (.int (1 : Int32))]) (rest := [(.int (1 : Int32)), (.ref b83)]) (lenOf pd_0 rfl) rfl (by show 2 * 0 + _ ≤ _; exact Nat.le_of_eq rfl) (hb hby at_56) (fun _ _ => ⟨rfl, e97, (by decide : 2 + 0 ≤ _), (by decide : 4 + 0 ≤ _)⟩)
    dsimp only [Pt.U, Pt.locs, Pt.cells, Pt.slots] at X100 l100 y100 z100 st100 hQ100
    subst l100 y100 z100
    obtain ⟨rfl, N100q, e100⟩ := hQ100
    have N100 := Fr.app N97 N100q
    obtain ⟨cl101, Arcl101, hincl101, -⟩ := AF.at f99 (j := (1 : Int32)) 1 (by decide) (by decide)
    obtain ⟨T102, h102, X102, e102, W102, st102⟩ := stI X100 hx hZ e100 Arcl101 (j := (1 : Int32)) hincl101 (g := (mkF m 59 #[.val (.int sh), .val (.int tb), .val (.int ma), .val (.int mb), .val (.long cv), .second, .val (.long ov), .second, .val (.int (2 : Int32)), .val (.ref b81), .val (.ref b83), .unset, .unset, .unset, .unset, .unset, .unset, .unset] [(.int ((((tb.toUInt32 >>> (((8 : Int32) * (1 : Int32)) &&& 31).toUInt32).toInt32) &&& (255 : Int32)) % ((1 : Int32) + (1 : Int32)))), (.int (1 : Int32)), (.ref b83)])) rfl rfl (hb hby at_59)
    have N102 := Fr.snoc X102 N100 gg83
    have Z102 : n0 ≤ h102.size := Nat.le_trans Z97 (Keep.of_wr W102).1
    have f103 : AI Z h102 b83 .int 2 (up (up zI 0 ((((tb.toUInt32 >>> (((8 : Int32) * (0 : Int32)) &&& 31).toUInt32).toInt32) &&& (255 : Int32)) % ((0 : Int32) + (1 : Int32)))) 1 ((((tb.toUInt32 >>> (((8 : Int32) * (1 : Int32)) &&& 31).toUInt32).toInt32) &&& (255 : Int32)) % ((1 : Int32) + (1 : Int32)))) := AF.setI f99 W102 1 (by decide)
    have f104 : AI Z h102 b81 .byte 2 (up (up zI 0 ((sh >>> ((2 : Int32) &&& 31)).toInt8.toInt32)) 1 ((sh >>> ((10 : Int32) &&& 31)).toInt8.toInt32)) := f98.other W102 ne84
    obtain ⟨T105, h105, X105, e105, E105, A105, D105, -, st105⟩ := newO X102 hx hZ hown (hw _ (List.mem_of_getElem? (i := 7) rfl)) (hw _ (List.mem_of_getElem? (i := 8) rfl)) (hw _ (List.mem_of_getElem? (i := 9) rfl)) e102 (g := (mkF m 130 #[.val (.int sh), .val (.int tb), .val (.int ma), .val (.int mb), .val (.long cv), .second, .val (.long ov), .second, .val (.int (2 : Int32)), .val (.ref b81), .val (.ref b83), .val (.int ((ma &&& (2147483647 : Int32)) % (3 : Int32))), .val (.int ((mb &&& (2147483647 : Int32)) % (3 : Int32))), .unset, .unset, .unset, .unset, .unset] [])) rfl (hb hby at_130) (by decide) (by decide)
    obtain ⟨b105, g105⟩ : ∃ z, z = h102.size := ⟨_, rfl⟩
    rw [← g105] at A105 D105 st105
    have ne106 : b81 ≠ b105 := Nat.ne_of_lt (Nat.lt_of_lt_of_le f104.lt (Nat.le_of_eq g105.symm))
    have ne107 : b83 ≠ b105 := Nat.ne_of_lt (Nat.lt_of_lt_of_le f103.lt (Nat.le_of_eq g105.symm))
    have gg105 : n0 ≤ b105 := Nat.le_trans Z102 (Nat.le_of_eq g105.symm)
    have f108 : AI Z h105 b81 .byte 2 (up (up zI 0 ((sh >>> ((2 : Int32) &&& 31)).toInt8.toInt32)) 1 ((sh >>> ((10 : Int32) &&& 31)).toInt8.toInt32)) := f104.ext E105
    have f109 : AI Z h105 b83 .int 2 (up (up zI 0 ((((tb.toUInt32 >>> (((8 : Int32) * (0 : Int32)) &&& 31).toUInt32).toInt32) &&& (255 : Int32)) % ((0 : Int32) + (1 : Int32)))) 1 ((((tb.toUInt32 >>> (((8 : Int32) * (1 : Int32)) &&& 31).toUInt32).toInt32) &&& (255 : Int32)) % ((1 : Int32) + (1 : Int32)))) := f103.ext E105
    have Z105 : n0 ≤ h105.size := Nat.le_trans Z102 E105.1
    have f110 : Fld Z h105 b105 "skipstitch/search/PrefixTableScan" "pattern" "[B" .null := D105 (Or.inr (hw _ (List.mem_of_getElem? (i := 17) rfl))) (ty := (.array .byte)) (by decide)
    have f111 : Fld Z h105 b105 "skipstitch/search/PrefixTableScan" "table" "[I" .null := D105 (Or.inr (hw _ (List.mem_of_getElem? (i := 19) rfl))) (ty := (.array .int)) (by decide)
    have f112 : Fld Z h105 b105 "skipstitch/search/PrefixTableScan" "matched" "I" (.int (0 : Int32)) := D105 (Or.inl (hw _ (List.mem_of_getElem? (i := 26) rfl))) (ty := .int) (by decide)
    have f113 : Fld Z h105 b105 "skipstitch/search/PrefixTableScan" "comparisons" "J" (.long (0 : Int64)) := D105 (Or.inl (hw _ (List.mem_of_getElem? (i := 28) rfl))) (ty := .long) (by decide)
    have f114 : Fld Z h105 b105 "skipstitch/search/PrefixTableScan" "occurrences" "J" (.long (0 : Int64)) := D105 (Or.inl (hw _ (List.mem_of_getElem? (i := 30) rfl))) (ty := .long) (by decide)
    obtain ⟨_, _, ⟨T115, L115, k115, n115⟩, -, X115, ⟨Lc115, hQ115, l115, y115, z115⟩, st115⟩ := X105.specialBack hx (y := (⟨"skipstitch/search/PrefixTableScan", "<init>", "([B[I)V"⟩ : MethodName)) rfl hown (mvT hZ (hw _ (List.mem_of_getElem? (i := 10) rfl))) (mvT hZ (hw _ (List.mem_of_getElem? (i := 11) rfl))) (mvT hZ (hw _ (List.mem_of_getElem? (i := 12) rfl))) (by decide) (backOf (W := 1) (rm2 l Z a0 hw [] b105 b81 b83 h105 n0 Z105 A105 f110 f111 gg105 f112 f113 f114) hZ (hw _ (List.mem_of_getElem? (i := 12) rfl)) (hw _ (List.mem_of_getElem? (i := 9) rfl)) (by decide) (by decide)) (g := (mkF m 138 #[.val (.int sh), .val (.int tb), .val (.int ma), .val (.int mb), .val (.long cv), .second, .val (.long ov), .second, .val (.int (2 : Int32)), .val (.ref b81), .val (.ref b83), .val (.int ((ma &&& (2147483647 : Int32)) % (3 : Int32))), .val (.int ((mb &&& (2147483647 : Int32)) % (3 : Int32))), .unset, .unset, .unset, .unset, .unset] [(.ref b83), (.ref b81), (.ref b105), (.ref b105)])) rfl (by rw [hml]; rfl) (Steps.refl _) (a := b105) (argsL := [(.ref b81), (.ref b83)]) (rest := [(.ref b105)]) (lenOf pd_1 rfl) rfl (by show 2 * 0 + _ ≤ _; exact Nat.le_of_eq rfl) (hb hby at_138) (fun _ _ => ⟨rfl, e105, (by decide : 3 + 0 ≤ _), (by decide : 9 + 0 ≤ _)⟩)
    dsimp only [Pt.U, Pt.locs, Pt.cells, Pt.slots] at X115 l115 y115 z115 st115 hQ115
    subst l115 y115 z115
    obtain ⟨rfl, N115q, K115c, f116, f117, f118, f119, f120⟩ := hQ115
    have N115 := Fr.app N102 N115q
    have f121 : AI Z T115.heap b81 .byte 2 (up (up zI 0 ((sh >>> ((2 : Int32) &&& 31)).toInt8.toInt32)) 1 ((sh >>> ((10 : Int32) &&& 31)).toInt8.toInt32)) := f108.keep K115c (ninS ne106 nin0)
    have f122 : AI Z T115.heap b83 .int 2 (up (up zI 0 ((((tb.toUInt32 >>> (((8 : Int32) * (0 : Int32)) &&& 31).toUInt32).toInt32) &&& (255 : Int32)) % ((0 : Int32) + (1 : Int32)))) 1 ((((tb.toUInt32 >>> (((8 : Int32) * (1 : Int32)) &&& 31).toUInt32).toInt32) &&& (255 : Int32)) % ((1 : Int32) + (1 : Int32)))) := f109.keep K115c (ninS ne107 nin0)
    have f123 : Exa Z T115.heap b105 "skipstitch/search/PrefixTableScan" := A105.keep K115c
    have Z115 : n0 ≤ T115.heap.size := Nat.le_trans Z105 K115c.1
    obtain ⟨cq124, kq124, q124a, q124b, q124c⟩ := isOf hZ rfl f123
    obtain ⟨_, _, ⟨T124, L124, k124, n124⟩, -, X124, ⟨Lc124, hQ124, l124, y124, z124⟩, st124⟩ := X115.virtualBack hx (y := (⟨"skipstitch/search/PrefixTableScan", "resume", "(IJJ)V"⟩ : MethodName)) (z := (⟨"skipstitch/search/PrefixTableScan", "resume", "(IJJ)V"⟩ : MethodName)) hown (mvT hZ (hw _ (List.mem_of_getElem? (i := 20) rfl))) (mvT hZ (hw _ (List.mem_of_getElem? (i := 21) rfl))) (notFace_of_selects (args := #[]) (mvT hZ (hw _ (List.mem_of_getElem? (i := 23) rfl)))) (mvT hZ (hw _ (List.mem_of_getElem? (i := 23) rfl))) (mvT hZ (hw _ (List.mem_of_getElem? (i := 22) rfl))) (by decide) (backOf (W := 0) (rm4k2 l Z a0 hw [] b105 ((ma &&& (2147483647 : Int32)) % (3 : Int32)) cv ov b81 b83 (up (up zI 0 ((sh >>> ((2 : Int32) &&& 31)).toInt8.toInt32)) 1 ((sh >>> ((10 : Int32) &&& 31)).toInt8.toInt32)) (up (up zI 0 ((((tb.toUInt32 >>> (((8 : Int32) * (0 : Int32)) &&& 31).toUInt32).toInt32) &&& (255 : Int32)) % ((0 : Int32) + (1 : Int32)))) 1 ((((tb.toUInt32 >>> (((8 : Int32) * (1 : Int32)) &&& 31).toUInt32).toInt32) &&& (255 : Int32)) % ((1 : Int32) + (1 : Int32)))) (0 : Int32) (0 : Int64) (0 : Int64) T115.heap n0 Z115 f123 f116 f117 f121 f122 (Ne.symm ne106) (Ne.symm ne107) f118 f119 f120 gg105) hZ (hw _ (List.mem_of_getElem? (i := 24) rfl)) (hw _ (List.mem_of_getElem? (i := 9) rfl)) (by decide) (by decide)) q124a q124c (g := (mkF m 151 #[.val (.int sh), .val (.int tb), .val (.int ma), .val (.int mb), .val (.long cv), .second, .val (.long ov), .second, .val (.int (2 : Int32)), .val (.ref b81), .val (.ref b83), .val (.int ((ma &&& (2147483647 : Int32)) % (3 : Int32))), .val (.int ((mb &&& (2147483647 : Int32)) % (3 : Int32))), .val (.ref b105), .unset, .unset, .unset, .unset] [(.long ov), (.long cv), (.int ((ma &&& (2147483647 : Int32)) % (3 : Int32))), (.ref b105)])) rfl (by rw [hml]; rfl) (Steps.refl _) (argsL := [(.int ((ma &&& (2147483647 : Int32)) % (3 : Int32))), (.long cv), (.long ov)]) (rest := []) (lenOf pd_2 rfl) rfl (by show 2 * 0 + _ ≤ _; exact Nat.le_of_eq rfl) (hb hby at_151) (fun _ _ => ⟨rfl, rfl, (by decide : 3 + 0 ≤ _), (by decide : 9 + 0 ≤ _)⟩)
    dsimp only [Pt.U, Pt.locs, Pt.cells, Pt.slots] at X124 l124 y124 z124 st124 hQ124
    subst l124 y124 z124
    obtain ⟨rfl, N124q, K124c, f125, f126, f127, f128, f129⟩ := hQ124
    have N124 := Fr.app N115 N124q
    have f130 : AI Z T124.heap b81 .byte 2 (up (up zI 0 ((sh >>> ((2 : Int32) &&& 31)).toInt8.toInt32)) 1 ((sh >>> ((10 : Int32) &&& 31)).toInt8.toInt32)) := f121.keep K124c (ninS ne106 nin0)
    have f131 : AI Z T124.heap b83 .int 2 (up (up zI 0 ((((tb.toUInt32 >>> (((8 : Int32) * (0 : Int32)) &&& 31).toUInt32).toInt32) &&& (255 : Int32)) % ((0 : Int32) + (1 : Int32)))) 1 ((((tb.toUInt32 >>> (((8 : Int32) * (1 : Int32)) &&& 31).toUInt32).toInt32) &&& (255 : Int32)) % ((1 : Int32) + (1 : Int32)))) := f122.keep K124c (ninS ne107 nin0)
    have f132 : Exa Z T124.heap b105 "skipstitch/search/PrefixTableScan" := f123.keep K124c
    have Z124 : n0 ≤ T124.heap.size := Nat.le_trans Z115 K124c.1
    have pre133 : ∀ t, Steps p.tables e below (T124.setTop (mkF m 154 #[.val (.int sh), .val (.int tb), .val (.int ma), .val (.int mb), .val (.long cv), .second, .val (.long ov), .second, .val (.int (2 : Int32)), .val (.ref b81), .val (.ref b83), .val (.int ((ma &&& (2147483647 : Int32)) % (3 : Int32))), .val (.int ((mb &&& (2147483647 : Int32)) % (3 : Int32))), .val (.ref b105), .unset, .unset, .unset, .unset] [])) t → Steps p.tables e below (s₁.setTop (entryFrame m #[(.int sh), (.int tb), (.int ma), (.int mb), (.long cv), (.long ov)] maxLocals)) t := by
      intro t k
      refine pre80 _ ?_
      show Steps p.tables e below (s₁.setTop (mkF m 5 #[.val (.int sh), .val (.int tb), .val (.int ma), .val (.int mb), .val (.long cv), .second, .val (.long ov), .second, .unset, .unset, .unset, .unset, .unset, .unset, .unset, .unset, .unset, .unset] [(.int (2 : Int32))])) _
      refine XS.istore X0.here hx rfl (hb hby at_5) rfl (l' := #[.val (.int sh), .val (.int tb), .val (.int ma), .val (.int mb), .val (.long cv), .second, .val (.long ov), .second, .val (.int (2 : Int32)), .unset, .unset, .unset, .unset, .unset, .unset, .unset, .unset, .unset]) rfl ?_
      show Steps p.tables e below (s₁.setTop (mkF m 7 #[.val (.int sh), .val (.int tb), .val (.int ma), .val (.int mb), .val (.long cv), .second, .val (.long ov), .second, .val (.int (2 : Int32)), .unset, .unset, .unset, .unset, .unset, .unset, .unset, .unset, .unset] [])) _
      refine XS.iload X0.here hx rfl (hb hby at_7) rfl ?_
      show Steps p.tables e below (s₁.setTop (mkF m 9 #[.val (.int sh), .val (.int tb), .val (.int ma), .val (.int mb), .val (.long cv), .second, .val (.long ov), .second, .val (.int (2 : Int32)), .unset, .unset, .unset, .unset, .unset, .unset, .unset, .unset, .unset] [(.int (2 : Int32))])) _
      refine st81 _ ?_
      show Steps p.tables e below (T81.setTop (mkF m 11 #[.val (.int sh), .val (.int tb), .val (.int ma), .val (.int mb), .val (.long cv), .second, .val (.long ov), .second, .val (.int (2 : Int32)), .unset, .unset, .unset, .unset, .unset, .unset, .unset, .unset, .unset] [(.ref b81)])) _
      refine XS.astore X81.here hx rfl (hb hby at_11) rfl rfl (l' := #[.val (.int sh), .val (.int tb), .val (.int ma), .val (.int mb), .val (.long cv), .second, .val (.long ov), .second, .val (.int (2 : Int32)), .val (.ref b81), .unset, .unset, .unset, .unset, .unset, .unset, .unset, .unset]) rfl ?_
      show Steps p.tables e below (T81.setTop (mkF m 13 #[.val (.int sh), .val (.int tb), .val (.int ma), .val (.int mb), .val (.long cv), .second, .val (.long ov), .second, .val (.int (2 : Int32)), .val (.ref b81), .unset, .unset, .unset, .unset, .unset, .unset, .unset, .unset] [])) _
      refine XS.iload X81.here hx rfl (hb hby at_13) rfl ?_
      show Steps p.tables e below (T81.setTop (mkF m 15 #[.val (.int sh), .val (.int tb), .val (.int ma), .val (.int mb), .val (.long cv), .second, .val (.long ov), .second, .val (.int (2 : Int32)), .val (.ref b81), .unset, .unset, .unset, .unset, .unset, .unset, .unset, .unset] [(.int (2 : Int32))])) _
      refine st83 _ ?_
      show Steps p.tables e below (T83.setTop (mkF m 17 #[.val (.int sh), .val (.int tb), .val (.int ma), .val (.int mb), .val (.long cv), .second, .val (.long ov), .second, .val (.int (2 : Int32)), .val (.ref b81), .unset, .unset, .unset, .unset, .unset, .unset, .unset, .unset] [(.ref b83)])) _
      refine XS.astore X83.here hx rfl (hb hby at_17) rfl rfl (l' := #[.val (.int sh), .val (.int tb), .val (.int ma), .val (.int mb), .val (.long cv), .second, .val (.long ov), .second, .val (.int (2 : Int32)), .val (.ref b81), .val (.ref b83), .unset, .unset, .unset, .unset, .unset, .unset, .unset]) rfl ?_
      show Steps p.tables e below (T83.setTop (mkF m 19 #[.val (.int sh), .val (.int tb), .val (.int ma), .val (.int mb), .val (.long cv), .second, .val (.long ov), .second, .val (.int (2 : Int32)), .val (.ref b81), .val (.ref b83), .unset, .unset, .unset, .unset, .unset, .unset, .unset] [])) _
      refine XS.aload X83.here hx rfl (hb hby at_19) rfl rfl ?_
      show Steps p.tables e below (T83.setTop (mkF m 21 #[.val (.int sh), .val (.int tb), .val (.int ma), .val (.int mb), .val (.long cv), .second, .val (.long ov), .second, .val (.int (2 : Int32)), .val (.ref b81), .val (.ref b83), .unset, .unset, .unset, .unset, .unset, .unset, .unset] [(.ref b81)])) _
      refine XS.iconst X83.here hx rfl (hb hby at_21) ?_
      show Steps p.tables e below (T83.setTop (mkF m 22 #[.val (.int sh), .val (.int tb), .val (.int ma), .val (.int mb), .val (.long cv), .second, .val (.long ov), .second, .val (.int (2 : Int32)), .val (.ref b81), .val (.ref b83), .unset, .unset, .unset, .unset, .unset, .unset, .unset] [(.int (0 : Int32)), (.ref b81)])) _
      refine XS.iloadN X83.here hx rfl (hb hby at_22) rfl ?_
      show Steps p.tables e below (T83.setTop (mkF m 23 #[.val (.int sh), .val (.int tb), .val (.int ma), .val (.int mb), .val (.long cv), .second, .val (.long ov), .second, .val (.int (2 : Int32)), .val (.ref b81), .val (.ref b83), .unset, .unset, .unset, .unset, .unset, .unset, .unset] [(.int sh), (.int (0 : Int32)), (.ref b81)])) _
      refine XS.iconst X83.here hx rfl (hb hby at_23) ?_
      show Steps p.tables e below (T83.setTop (mkF m 24 #[.val (.int sh), .val (.int tb), .val (.int ma), .val (.int mb), .val (.long cv), .second, .val (.long ov), .second, .val (.int (2 : Int32)), .val (.ref b81), .val (.ref b83), .unset, .unset, .unset, .unset, .unset, .unset, .unset] [(.int (2 : Int32)), (.int sh), (.int (0 : Int32)), (.ref b81)])) _
      refine XS.ishr X83.here hx rfl (hb hby at_24) rfl ?_
      show Steps p.tables e below (T83.setTop (mkF m 25 #[.val (.int sh), .val (.int tb), .val (.int ma), .val (.int mb), .val (.long cv), .second, .val (.long ov), .second, .val (.int (2 : Int32)), .val (.ref b81), .val (.ref b83), .unset, .unset, .unset, .unset, .unset, .unset, .unset] [(.int (sh >>> ((2 : Int32) &&& 31))), (.int (0 : Int32)), (.ref b81)])) _
      refine XS.i2b X83.here hx rfl (hb hby at_25) rfl ?_
      show Steps p.tables e below (T83.setTop (mkF m 26 #[.val (.int sh), .val (.int tb), .val (.int ma), .val (.int mb), .val (.long cv), .second, .val (.long ov), .second, .val (.int (2 : Int32)), .val (.ref b81), .val (.ref b83), .unset, .unset, .unset, .unset, .unset, .unset, .unset] [(.int ((sh >>> ((2 : Int32) &&& 31)).toInt8.toInt32)), (.int (0 : Int32)), (.ref b81)])) _
      refine st88 _ ?_
      show Steps p.tables e below (T88.setTop (mkF m 27 #[.val (.int sh), .val (.int tb), .val (.int ma), .val (.int mb), .val (.long cv), .second, .val (.long ov), .second, .val (.int (2 : Int32)), .val (.ref b81), .val (.ref b83), .unset, .unset, .unset, .unset, .unset, .unset, .unset] [])) _
      refine XS.aload X88.here hx rfl (hb hby at_27) rfl rfl ?_
      show Steps p.tables e below (T88.setTop (mkF m 29 #[.val (.int sh), .val (.int tb), .val (.int ma), .val (.int mb), .val (.long cv), .second, .val (.long ov), .second, .val (.int (2 : Int32)), .val (.ref b81), .val (.ref b83), .unset, .unset, .unset, .unset, .unset, .unset, .unset] [(.ref b83)])) _
      refine XS.iconst X88.here hx rfl (hb hby at_29) ?_
      show Steps p.tables e below (T88.setTop (mkF m 30 #[.val (.int sh), .val (.int tb), .val (.int ma), .val (.int mb), .val (.long cv), .second, .val (.long ov), .second, .val (.int (2 : Int32)), .val (.ref b81), .val (.ref b83), .unset, .unset, .unset, .unset, .unset, .unset, .unset] [(.int (0 : Int32)), (.ref b83)])) _
      refine XS.iloadN X88.here hx rfl (hb hby at_30) rfl ?_
      show Steps p.tables e below (T88.setTop (mkF m 31 #[.val (.int sh), .val (.int tb), .val (.int ma), .val (.int mb), .val (.long cv), .second, .val (.long ov), .second, .val (.int (2 : Int32)), .val (.ref b81), .val (.ref b83), .unset, .unset, .unset, .unset, .unset, .unset, .unset] [(.int tb), (.int (0 : Int32)), (.ref b83)])) _
      refine XS.iconst X88.here hx rfl (hb hby at_31) ?_
      show Steps p.tables e below (T88.setTop (mkF m 32 #[.val (.int sh), .val (.int tb), .val (.int ma), .val (.int mb), .val (.long cv), .second, .val (.long ov), .second, .val (.int (2 : Int32)), .val (.ref b81), .val (.ref b83), .unset, .unset, .unset, .unset, .unset, .unset, .unset] [(.int (0 : Int32)), (.int tb), (.int (0 : Int32)), (.ref b83)])) _
      refine st91 _ ?_
      show Steps p.tables e below (T91.setTop (mkF m 35 #[.val (.int sh), .val (.int tb), .val (.int ma), .val (.int mb), .val (.long cv), .second, .val (.long ov), .second, .val (.int (2 : Int32)), .val (.ref b81), .val (.ref b83), .unset, .unset, .unset, .unset, .unset, .unset, .unset] [(.int ((((tb.toUInt32 >>> (((8 : Int32) * (0 : Int32)) &&& 31).toUInt32).toInt32) &&& (255 : Int32)) % ((0 : Int32) + (1 : Int32)))), (.int (0 : Int32)), (.ref b83)])) _
      refine st93 _ ?_
      show Steps p.tables e below (T93.setTop (mkF m 36 #[.val (.int sh), .val (.int tb), .val (.int ma), .val (.int mb), .val (.long cv), .second, .val (.long ov), .second, .val (.int (2 : Int32)), .val (.ref b81), .val (.ref b83), .unset, .unset, .unset, .unset, .unset, .unset, .unset] [])) _
      refine XS.iload X93.here hx rfl (hb hby at_36) rfl ?_
      show Steps p.tables e below (T93.setTop (mkF m 38 #[.val (.int sh), .val (.int tb), .val (.int ma), .val (.int mb), .val (.long cv), .second, .val (.long ov), .second, .val (.int (2 : Int32)), .val (.ref b81), .val (.ref b83), .unset, .unset, .unset, .unset, .unset, .unset, .unset] [(.int (2 : Int32))])) _
      refine XS.iconst X93.here hx rfl (hb hby at_38) ?_
      show Steps p.tables e below (T93.setTop (mkF m 39 #[.val (.int sh), .val (.int tb), .val (.int ma), .val (.int mb), .val (.long cv), .second, .val (.long ov), .second, .val (.int (2 : Int32)), .val (.ref b81), .val (.ref b83), .unset, .unset, .unset, .unset, .unset, .unset, .unset] [(.int (1 : Int32)), (.int (2 : Int32))])) _
      refine XS.icmpNo X93.here hx rfl (hb hby at_39) rfl (tlt (by decide : ((1 : Int32) < (2 : Int32)))).2.2.2 ?_
      show Steps p.tables e below (T93.setTop (mkF m 42 #[.val (.int sh), .val (.int tb), .val (.int ma), .val (.int mb), .val (.long cv), .second, .val (.long ov), .second, .val (.int (2 : Int32)), .val (.ref b81), .val (.ref b83), .unset, .unset, .unset, .unset, .unset, .unset, .unset] [])) _
      refine XS.aload X93.here hx rfl (hb hby at_42) rfl rfl ?_
      show Steps p.tables e below (T93.setTop (mkF m 44 #[.val (.int sh), .val (.int tb), .val (.int ma), .val (.int mb), .val (.long cv), .second, .val (.long ov), .second, .val (.int (2 : Int32)), .val (.ref b81), .val (.ref b83), .unset, .unset, .unset, .unset, .unset, .unset, .unset] [(.ref b81)])) _
      refine XS.iconst X93.here hx rfl (hb hby at_44) ?_
      show Steps p.tables e below (T93.setTop (mkF m 45 #[.val (.int sh), .val (.int tb), .val (.int ma), .val (.int mb), .val (.long cv), .second, .val (.long ov), .second, .val (.int (2 : Int32)), .val (.ref b81), .val (.ref b83), .unset, .unset, .unset, .unset, .unset, .unset, .unset] [(.int (1 : Int32)), (.ref b81)])) _
      refine XS.iloadN X93.here hx rfl (hb hby at_45) rfl ?_
      show Steps p.tables e below (T93.setTop (mkF m 46 #[.val (.int sh), .val (.int tb), .val (.int ma), .val (.int mb), .val (.long cv), .second, .val (.long ov), .second, .val (.int (2 : Int32)), .val (.ref b81), .val (.ref b83), .unset, .unset, .unset, .unset, .unset, .unset, .unset] [(.int sh), (.int (1 : Int32)), (.ref b81)])) _
      refine XS.bipush X93.here hx rfl (hb hby at_46) ?_
      show Steps p.tables e below (T93.setTop (mkF m 48 #[.val (.int sh), .val (.int tb), .val (.int ma), .val (.int mb), .val (.long cv), .second, .val (.long ov), .second, .val (.int (2 : Int32)), .val (.ref b81), .val (.ref b83), .unset, .unset, .unset, .unset, .unset, .unset, .unset] [(.int (10 : Int32)), (.int sh), (.int (1 : Int32)), (.ref b81)])) _
      refine XS.ishr X93.here hx rfl (hb hby at_48) rfl ?_
      show Steps p.tables e below (T93.setTop (mkF m 49 #[.val (.int sh), .val (.int tb), .val (.int ma), .val (.int mb), .val (.long cv), .second, .val (.long ov), .second, .val (.int (2 : Int32)), .val (.ref b81), .val (.ref b83), .unset, .unset, .unset, .unset, .unset, .unset, .unset] [(.int (sh >>> ((10 : Int32) &&& 31))), (.int (1 : Int32)), (.ref b81)])) _
      refine XS.i2b X93.here hx rfl (hb hby at_49) rfl ?_
      show Steps p.tables e below (T93.setTop (mkF m 50 #[.val (.int sh), .val (.int tb), .val (.int ma), .val (.int mb), .val (.long cv), .second, .val (.long ov), .second, .val (.int (2 : Int32)), .val (.ref b81), .val (.ref b83), .unset, .unset, .unset, .unset, .unset, .unset, .unset] [(.int ((sh >>> ((10 : Int32) &&& 31)).toInt8.toInt32)), (.int (1 : Int32)), (.ref b81)])) _
      refine st97 _ ?_
      show Steps p.tables e below (T97.setTop (mkF m 51 #[.val (.int sh), .val (.int tb), .val (.int ma), .val (.int mb), .val (.long cv), .second, .val (.long ov), .second, .val (.int (2 : Int32)), .val (.ref b81), .val (.ref b83), .unset, .unset, .unset, .unset, .unset, .unset, .unset] [])) _
      refine XS.aload X97.here hx rfl (hb hby at_51) rfl rfl ?_
      show Steps p.tables e below (T97.setTop (mkF m 53 #[.val (.int sh), .val (.int tb), .val (.int ma), .val (.int mb), .val (.long cv), .second, .val (.long ov), .second, .val (.int (2 : Int32)), .val (.ref b81), .val (.ref b83), .unset, .unset, .unset, .unset, .unset, .unset, .unset] [(.ref b83)])) _
      refine XS.iconst X97.here hx rfl (hb hby at_53) ?_
      show Steps p.tables e below (T97.setTop (mkF m 54 #[.val (.int sh), .val (.int tb), .val (.int ma), .val (.int mb), .val (.long cv), .second, .val (.long ov), .second, .val (.int (2 : Int32)), .val (.ref b81), .val (.ref b83), .unset, .unset, .unset, .unset, .unset, .unset, .unset] [(.int (1 : Int32)), (.ref b83)])) _
      refine XS.iloadN X97.here hx rfl (hb hby at_54) rfl ?_
      show Steps p.tables e below (T97.setTop (mkF m 55 #[.val (.int sh), .val (.int tb), .val (.int ma), .val (.int mb), .val (.long cv), .second, .val (.long ov), .second, .val (.int (2 : Int32)), .val (.ref b81), .val (.ref b83), .unset, .unset, .unset, .unset, .unset, .unset, .unset] [(.int tb), (.int (1 : Int32)), (.ref b83)])) _
      refine XS.iconst X97.here hx rfl (hb hby at_55) ?_
      show Steps p.tables e below (T97.setTop (mkF m 56 #[.val (.int sh), .val (.int tb), .val (.int ma), .val (.int mb), .val (.long cv), .second, .val (.long ov), .second, .val (.int (2 : Int32)), .val (.ref b81), .val (.ref b83), .unset, .unset, .unset, .unset, .unset, .unset, .unset] [(.int (1 : Int32)), (.int tb), (.int (1 : Int32)), (.ref b83)])) _
      refine st100 _ ?_
      show Steps p.tables e below (T100.setTop (mkF m 59 #[.val (.int sh), .val (.int tb), .val (.int ma), .val (.int mb), .val (.long cv), .second, .val (.long ov), .second, .val (.int (2 : Int32)), .val (.ref b81), .val (.ref b83), .unset, .unset, .unset, .unset, .unset, .unset, .unset] [(.int ((((tb.toUInt32 >>> (((8 : Int32) * (1 : Int32)) &&& 31).toUInt32).toInt32) &&& (255 : Int32)) % ((1 : Int32) + (1 : Int32)))), (.int (1 : Int32)), (.ref b83)])) _
      refine st102 _ ?_
      show Steps p.tables e below (T102.setTop (mkF m 60 #[.val (.int sh), .val (.int tb), .val (.int ma), .val (.int mb), .val (.long cv), .second, .val (.long ov), .second, .val (.int (2 : Int32)), .val (.ref b81), .val (.ref b83), .unset, .unset, .unset, .unset, .unset, .unset, .unset] [])) _
      refine XS.iload X102.here hx rfl (hb hby at_60) rfl ?_
      show Steps p.tables e below (T102.setTop (mkF m 62 #[.val (.int sh), .val (.int tb), .val (.int ma), .val (.int mb), .val (.long cv), .second, .val (.long ov), .second, .val (.int (2 : Int32)), .val (.ref b81), .val (.ref b83), .unset, .unset, .unset, .unset, .unset, .unset, .unset] [(.int (2 : Int32))])) _
      refine XS.iconst X102.here hx rfl (hb hby at_62) ?_
      show Steps p.tables e below (T102.setTop (mkF m 63 #[.val (.int sh), .val (.int tb), .val (.int ma), .val (.int mb), .val (.long cv), .second, .val (.long ov), .second, .val (.int (2 : Int32)), .val (.ref b81), .val (.ref b83), .unset, .unset, .unset, .unset, .unset, .unset, .unset] [(.int (2 : Int32)), (.int (2 : Int32))])) _
      refine XS.icmpYes X102.here hx rfl (pc0 := 63) (pc' := 84) rfl (hb hby at_63) rfl (flt (by decide : ¬ ((2 : Int32) < (2 : Int32)))).2.2.2 (by decide) (by decide) ?_
      show Steps p.tables e below (T102.setTop (mkF m 84 #[.val (.int sh), .val (.int tb), .val (.int ma), .val (.int mb), .val (.long cv), .second, .val (.long ov), .second, .val (.int (2 : Int32)), .val (.ref b81), .val (.ref b83), .unset, .unset, .unset, .unset, .unset, .unset, .unset] [])) _
      refine XS.iload X102.here hx rfl (hb hby at_84) rfl ?_
      show Steps p.tables e below (T102.setTop (mkF m 86 #[.val (.int sh), .val (.int tb), .val (.int ma), .val (.int mb), .val (.long cv), .second, .val (.long ov), .second, .val (.int (2 : Int32)), .val (.ref b81), .val (.ref b83), .unset, .unset, .unset, .unset, .unset, .unset, .unset] [(.int (2 : Int32))])) _
      refine XS.iconst X102.here hx rfl (hb hby at_86) ?_
      show Steps p.tables e below (T102.setTop (mkF m 87 #[.val (.int sh), .val (.int tb), .val (.int ma), .val (.int mb), .val (.long cv), .second, .val (.long ov), .second, .val (.int (2 : Int32)), .val (.ref b81), .val (.ref b83), .unset, .unset, .unset, .unset, .unset, .unset, .unset] [(.int (3 : Int32)), (.int (2 : Int32))])) _
      refine XS.icmpYes X102.here hx rfl (pc0 := 87) (pc' := 108) rfl (hb hby at_87) rfl (flt (by decide : ¬ ((3 : Int32) < (2 : Int32)))).2.2.2 (by decide) (by decide) ?_
      show Steps p.tables e below (T102.setTop (mkF m 108 #[.val (.int sh), .val (.int tb), .val (.int ma), .val (.int mb), .val (.long cv), .second, .val (.long ov), .second, .val (.int (2 : Int32)), .val (.ref b81), .val (.ref b83), .unset, .unset, .unset, .unset, .unset, .unset, .unset] [])) _
      refine XS.iloadN X102.here hx rfl (hb hby at_108) rfl ?_
      show Steps p.tables e below (T102.setTop (mkF m 109 #[.val (.int sh), .val (.int tb), .val (.int ma), .val (.int mb), .val (.long cv), .second, .val (.long ov), .second, .val (.int (2 : Int32)), .val (.ref b81), .val (.ref b83), .unset, .unset, .unset, .unset, .unset, .unset, .unset] [(.int ma)])) _
      refine X102.ldcInt hx hown (mvT hZ (hw _ (List.mem_of_getElem? (i := 6) rfl))) (g := (mkF m 109 #[.val (.int sh), .val (.int tb), .val (.int ma), .val (.int mb), .val (.long cv), .second, .val (.long ov), .second, .val (.int (2 : Int32)), .val (.ref b81), .val (.ref b83), .unset, .unset, .unset, .unset, .unset, .unset, .unset] [(.int ma)])) rfl (hb hby at_109) _ ?_
      show Steps p.tables e below (T102.setTop (mkF m 111 #[.val (.int sh), .val (.int tb), .val (.int ma), .val (.int mb), .val (.long cv), .second, .val (.long ov), .second, .val (.int (2 : Int32)), .val (.ref b81), .val (.ref b83), .unset, .unset, .unset, .unset, .unset, .unset, .unset] [(.int (2147483647 : Int32)), (.int ma)])) _
      refine XS.iand X102.here hx rfl (hb hby at_111) rfl ?_
      show Steps p.tables e below (T102.setTop (mkF m 112 #[.val (.int sh), .val (.int tb), .val (.int ma), .val (.int mb), .val (.long cv), .second, .val (.long ov), .second, .val (.int (2 : Int32)), .val (.ref b81), .val (.ref b83), .unset, .unset, .unset, .unset, .unset, .unset, .unset] [(.int (ma &&& (2147483647 : Int32)))])) _
      refine XS.iload X102.here hx rfl (hb hby at_112) rfl ?_
      show Steps p.tables e below (T102.setTop (mkF m 114 #[.val (.int sh), .val (.int tb), .val (.int ma), .val (.int mb), .val (.long cv), .second, .val (.long ov), .second, .val (.int (2 : Int32)), .val (.ref b81), .val (.ref b83), .unset, .unset, .unset, .unset, .unset, .unset, .unset] [(.int (2 : Int32)), (.int (ma &&& (2147483647 : Int32)))])) _
      refine XS.iconst X102.here hx rfl (hb hby at_114) ?_
      show Steps p.tables e below (T102.setTop (mkF m 115 #[.val (.int sh), .val (.int tb), .val (.int ma), .val (.int mb), .val (.long cv), .second, .val (.long ov), .second, .val (.int (2 : Int32)), .val (.ref b81), .val (.ref b83), .unset, .unset, .unset, .unset, .unset, .unset, .unset] [(.int (1 : Int32)), (.int (2 : Int32)), (.int (ma &&& (2147483647 : Int32)))])) _
      refine XS.iadd X102.here hx rfl (hb hby at_115) rfl ?_
      show Steps p.tables e below (T102.setTop (mkF m 116 #[.val (.int sh), .val (.int tb), .val (.int ma), .val (.int mb), .val (.long cv), .second, .val (.long ov), .second, .val (.int (2 : Int32)), .val (.ref b81), .val (.ref b83), .unset, .unset, .unset, .unset, .unset, .unset, .unset] [(.int (3 : Int32)), (.int (ma &&& (2147483647 : Int32)))])) _
      refine iremM X102 hx rfl (hb hby at_116) rfl (by decide) ?_
      show Steps p.tables e below (T102.setTop (mkF m 117 #[.val (.int sh), .val (.int tb), .val (.int ma), .val (.int mb), .val (.long cv), .second, .val (.long ov), .second, .val (.int (2 : Int32)), .val (.ref b81), .val (.ref b83), .unset, .unset, .unset, .unset, .unset, .unset, .unset] [(.int ((ma &&& (2147483647 : Int32)) % (3 : Int32)))])) _
      refine XS.istore X102.here hx rfl (hb hby at_117) rfl (l' := #[.val (.int sh), .val (.int tb), .val (.int ma), .val (.int mb), .val (.long cv), .second, .val (.long ov), .second, .val (.int (2 : Int32)), .val (.ref b81), .val (.ref b83), .val (.int ((ma &&& (2147483647 : Int32)) % (3 : Int32))), .unset, .unset, .unset, .unset, .unset, .unset]) rfl ?_
      show Steps p.tables e below (T102.setTop (mkF m 119 #[.val (.int sh), .val (.int tb), .val (.int ma), .val (.int mb), .val (.long cv), .second, .val (.long ov), .second, .val (.int (2 : Int32)), .val (.ref b81), .val (.ref b83), .val (.int ((ma &&& (2147483647 : Int32)) % (3 : Int32))), .unset, .unset, .unset, .unset, .unset, .unset] [])) _
      refine XS.iloadN X102.here hx rfl (hb hby at_119) rfl ?_
      show Steps p.tables e below (T102.setTop (mkF m 120 #[.val (.int sh), .val (.int tb), .val (.int ma), .val (.int mb), .val (.long cv), .second, .val (.long ov), .second, .val (.int (2 : Int32)), .val (.ref b81), .val (.ref b83), .val (.int ((ma &&& (2147483647 : Int32)) % (3 : Int32))), .unset, .unset, .unset, .unset, .unset, .unset] [(.int mb)])) _
      refine X102.ldcInt hx hown (mvT hZ (hw _ (List.mem_of_getElem? (i := 6) rfl))) (g := (mkF m 120 #[.val (.int sh), .val (.int tb), .val (.int ma), .val (.int mb), .val (.long cv), .second, .val (.long ov), .second, .val (.int (2 : Int32)), .val (.ref b81), .val (.ref b83), .val (.int ((ma &&& (2147483647 : Int32)) % (3 : Int32))), .unset, .unset, .unset, .unset, .unset, .unset] [(.int mb)])) rfl (hb hby at_120) _ ?_
      show Steps p.tables e below (T102.setTop (mkF m 122 #[.val (.int sh), .val (.int tb), .val (.int ma), .val (.int mb), .val (.long cv), .second, .val (.long ov), .second, .val (.int (2 : Int32)), .val (.ref b81), .val (.ref b83), .val (.int ((ma &&& (2147483647 : Int32)) % (3 : Int32))), .unset, .unset, .unset, .unset, .unset, .unset] [(.int (2147483647 : Int32)), (.int mb)])) _
      refine XS.iand X102.here hx rfl (hb hby at_122) rfl ?_
      show Steps p.tables e below (T102.setTop (mkF m 123 #[.val (.int sh), .val (.int tb), .val (.int ma), .val (.int mb), .val (.long cv), .second, .val (.long ov), .second, .val (.int (2 : Int32)), .val (.ref b81), .val (.ref b83), .val (.int ((ma &&& (2147483647 : Int32)) % (3 : Int32))), .unset, .unset, .unset, .unset, .unset, .unset] [(.int (mb &&& (2147483647 : Int32)))])) _
      refine XS.iload X102.here hx rfl (hb hby at_123) rfl ?_
      show Steps p.tables e below (T102.setTop (mkF m 125 #[.val (.int sh), .val (.int tb), .val (.int ma), .val (.int mb), .val (.long cv), .second, .val (.long ov), .second, .val (.int (2 : Int32)), .val (.ref b81), .val (.ref b83), .val (.int ((ma &&& (2147483647 : Int32)) % (3 : Int32))), .unset, .unset, .unset, .unset, .unset, .unset] [(.int (2 : Int32)), (.int (mb &&& (2147483647 : Int32)))])) _
      refine XS.iconst X102.here hx rfl (hb hby at_125) ?_
      show Steps p.tables e below (T102.setTop (mkF m 126 #[.val (.int sh), .val (.int tb), .val (.int ma), .val (.int mb), .val (.long cv), .second, .val (.long ov), .second, .val (.int (2 : Int32)), .val (.ref b81), .val (.ref b83), .val (.int ((ma &&& (2147483647 : Int32)) % (3 : Int32))), .unset, .unset, .unset, .unset, .unset, .unset] [(.int (1 : Int32)), (.int (2 : Int32)), (.int (mb &&& (2147483647 : Int32)))])) _
      refine XS.iadd X102.here hx rfl (hb hby at_126) rfl ?_
      show Steps p.tables e below (T102.setTop (mkF m 127 #[.val (.int sh), .val (.int tb), .val (.int ma), .val (.int mb), .val (.long cv), .second, .val (.long ov), .second, .val (.int (2 : Int32)), .val (.ref b81), .val (.ref b83), .val (.int ((ma &&& (2147483647 : Int32)) % (3 : Int32))), .unset, .unset, .unset, .unset, .unset, .unset] [(.int (3 : Int32)), (.int (mb &&& (2147483647 : Int32)))])) _
      refine iremM X102 hx rfl (hb hby at_127) rfl (by decide) ?_
      show Steps p.tables e below (T102.setTop (mkF m 128 #[.val (.int sh), .val (.int tb), .val (.int ma), .val (.int mb), .val (.long cv), .second, .val (.long ov), .second, .val (.int (2 : Int32)), .val (.ref b81), .val (.ref b83), .val (.int ((ma &&& (2147483647 : Int32)) % (3 : Int32))), .unset, .unset, .unset, .unset, .unset, .unset] [(.int ((mb &&& (2147483647 : Int32)) % (3 : Int32)))])) _
      refine XS.istore X102.here hx rfl (hb hby at_128) rfl (l' := #[.val (.int sh), .val (.int tb), .val (.int ma), .val (.int mb), .val (.long cv), .second, .val (.long ov), .second, .val (.int (2 : Int32)), .val (.ref b81), .val (.ref b83), .val (.int ((ma &&& (2147483647 : Int32)) % (3 : Int32))), .val (.int ((mb &&& (2147483647 : Int32)) % (3 : Int32))), .unset, .unset, .unset, .unset, .unset]) rfl ?_
      show Steps p.tables e below (T102.setTop (mkF m 130 #[.val (.int sh), .val (.int tb), .val (.int ma), .val (.int mb), .val (.long cv), .second, .val (.long ov), .second, .val (.int (2 : Int32)), .val (.ref b81), .val (.ref b83), .val (.int ((ma &&& (2147483647 : Int32)) % (3 : Int32))), .val (.int ((mb &&& (2147483647 : Int32)) % (3 : Int32))), .unset, .unset, .unset, .unset, .unset] [])) _
      refine st105 _ ?_
      show Steps p.tables e below (T105.setTop (mkF m 133 #[.val (.int sh), .val (.int tb), .val (.int ma), .val (.int mb), .val (.long cv), .second, .val (.long ov), .second, .val (.int (2 : Int32)), .val (.ref b81), .val (.ref b83), .val (.int ((ma &&& (2147483647 : Int32)) % (3 : Int32))), .val (.int ((mb &&& (2147483647 : Int32)) % (3 : Int32))), .unset, .unset, .unset, .unset, .unset] [(.ref b105)])) _
      refine XS.dup X105.here hx rfl (hb hby at_133) rfl rfl ?_
      show Steps p.tables e below (T105.setTop (mkF m 134 #[.val (.int sh), .val (.int tb), .val (.int ma), .val (.int mb), .val (.long cv), .second, .val (.long ov), .second, .val (.int (2 : Int32)), .val (.ref b81), .val (.ref b83), .val (.int ((ma &&& (2147483647 : Int32)) % (3 : Int32))), .val (.int ((mb &&& (2147483647 : Int32)) % (3 : Int32))), .unset, .unset, .unset, .unset, .unset] [(.ref b105), (.ref b105)])) _
      refine XS.aload X105.here hx rfl (hb hby at_134) rfl rfl ?_
      show Steps p.tables e below (T105.setTop (mkF m 136 #[.val (.int sh), .val (.int tb), .val (.int ma), .val (.int mb), .val (.long cv), .second, .val (.long ov), .second, .val (.int (2 : Int32)), .val (.ref b81), .val (.ref b83), .val (.int ((ma &&& (2147483647 : Int32)) % (3 : Int32))), .val (.int ((mb &&& (2147483647 : Int32)) % (3 : Int32))), .unset, .unset, .unset, .unset, .unset] [(.ref b81), (.ref b105), (.ref b105)])) _
      refine XS.aload X105.here hx rfl (hb hby at_136) rfl rfl ?_
      show Steps p.tables e below (T105.setTop (mkF m 138 #[.val (.int sh), .val (.int tb), .val (.int ma), .val (.int mb), .val (.long cv), .second, .val (.long ov), .second, .val (.int (2 : Int32)), .val (.ref b81), .val (.ref b83), .val (.int ((ma &&& (2147483647 : Int32)) % (3 : Int32))), .val (.int ((mb &&& (2147483647 : Int32)) % (3 : Int32))), .unset, .unset, .unset, .unset, .unset] [(.ref b83), (.ref b81), (.ref b105), (.ref b105)])) _
      refine st115.trans ?_
      show Steps p.tables e below (T115.setTop (mkF m 141 #[.val (.int sh), .val (.int tb), .val (.int ma), .val (.int mb), .val (.long cv), .second, .val (.long ov), .second, .val (.int (2 : Int32)), .val (.ref b81), .val (.ref b83), .val (.int ((ma &&& (2147483647 : Int32)) % (3 : Int32))), .val (.int ((mb &&& (2147483647 : Int32)) % (3 : Int32))), .unset, .unset, .unset, .unset, .unset] [(.ref b105)])) _
      refine XS.astore X115.here hx rfl (hb hby at_141) rfl rfl (l' := #[.val (.int sh), .val (.int tb), .val (.int ma), .val (.int mb), .val (.long cv), .second, .val (.long ov), .second, .val (.int (2 : Int32)), .val (.ref b81), .val (.ref b83), .val (.int ((ma &&& (2147483647 : Int32)) % (3 : Int32))), .val (.int ((mb &&& (2147483647 : Int32)) % (3 : Int32))), .val (.ref b105), .unset, .unset, .unset, .unset]) rfl ?_
      show Steps p.tables e below (T115.setTop (mkF m 143 #[.val (.int sh), .val (.int tb), .val (.int ma), .val (.int mb), .val (.long cv), .second, .val (.long ov), .second, .val (.int (2 : Int32)), .val (.ref b81), .val (.ref b83), .val (.int ((ma &&& (2147483647 : Int32)) % (3 : Int32))), .val (.int ((mb &&& (2147483647 : Int32)) % (3 : Int32))), .val (.ref b105), .unset, .unset, .unset, .unset] [])) _
      refine XS.aload X115.here hx rfl (hb hby at_143) rfl rfl ?_
      show Steps p.tables e below (T115.setTop (mkF m 145 #[.val (.int sh), .val (.int tb), .val (.int ma), .val (.int mb), .val (.long cv), .second, .val (.long ov), .second, .val (.int (2 : Int32)), .val (.ref b81), .val (.ref b83), .val (.int ((ma &&& (2147483647 : Int32)) % (3 : Int32))), .val (.int ((mb &&& (2147483647 : Int32)) % (3 : Int32))), .val (.ref b105), .unset, .unset, .unset, .unset] [(.ref b105)])) _
      refine XS.iload X115.here hx rfl (hb hby at_145) rfl ?_
      show Steps p.tables e below (T115.setTop (mkF m 147 #[.val (.int sh), .val (.int tb), .val (.int ma), .val (.int mb), .val (.long cv), .second, .val (.long ov), .second, .val (.int (2 : Int32)), .val (.ref b81), .val (.ref b83), .val (.int ((ma &&& (2147483647 : Int32)) % (3 : Int32))), .val (.int ((mb &&& (2147483647 : Int32)) % (3 : Int32))), .val (.ref b105), .unset, .unset, .unset, .unset] [(.int ((ma &&& (2147483647 : Int32)) % (3 : Int32))), (.ref b105)])) _
      refine XS.lload X115.here hx rfl (hb hby at_147) rfl ?_
      show Steps p.tables e below (T115.setTop (mkF m 149 #[.val (.int sh), .val (.int tb), .val (.int ma), .val (.int mb), .val (.long cv), .second, .val (.long ov), .second, .val (.int (2 : Int32)), .val (.ref b81), .val (.ref b83), .val (.int ((ma &&& (2147483647 : Int32)) % (3 : Int32))), .val (.int ((mb &&& (2147483647 : Int32)) % (3 : Int32))), .val (.ref b105), .unset, .unset, .unset, .unset] [(.long cv), (.int ((ma &&& (2147483647 : Int32)) % (3 : Int32))), (.ref b105)])) _
      refine XS.lload X115.here hx rfl (hb hby at_149) rfl ?_
      show Steps p.tables e below (T115.setTop (mkF m 151 #[.val (.int sh), .val (.int tb), .val (.int ma), .val (.int mb), .val (.long cv), .second, .val (.long ov), .second, .val (.int (2 : Int32)), .val (.ref b81), .val (.ref b83), .val (.int ((ma &&& (2147483647 : Int32)) % (3 : Int32))), .val (.int ((mb &&& (2147483647 : Int32)) % (3 : Int32))), .val (.ref b105), .unset, .unset, .unset, .unset] [(.long ov), (.long cv), (.int ((ma &&& (2147483647 : Int32)) % (3 : Int32))), (.ref b105)])) _
      refine st124.trans ?_
      exact k
    obtain ⟨T141, Lo141, X141, e141, N141, pre141⟩ : ∃ (T' : State) (lo : List Loc), Stand p l e room_1 s m #[(.int sh), (.int tb), (.int ma), (.int mb), (.long cv), (.long ov)] below meth c T' lo 3 9 ∧ T'.heap = T124.heap ∧ Fr n0 lo ∧ ∀ t, Steps p.tables e below (T'.setTop (mkF m 174 #[.val (.int sh), .val (.int tb), .val (.int ma), .val (.int mb), .val (.long cv), .second, .val (.long ov), .second, .val (.int (2 : Int32)), .val (.ref b81), .val (.ref b83), .val (.int ((ma &&& (2147483647 : Int32)) % (3 : Int32))), .val (.int ((mb &&& (2147483647 : Int32)) % (3 : Int32))), .val (.ref b105), .unset, .unset, .unset, .unset] [(.int (j0_154_s0_1 tb ma))])) t → Steps p.tables e below (s₁.setTop (entryFrame m #[(.int sh), (.int tb), (.int ma), (.int mb), (.long cv), (.long ov)] maxLocals)) t := by
      have pre134 : ∀ t, Steps p.tables e below (T124.setTop (mkF m 158 #[.val (.int sh), .val (.int tb), .val (.int ma), .val (.int mb), .val (.long cv), .second, .val (.long ov), .second, .val (.int (2 : Int32)), .val (.ref b81), .val (.ref b83), .val (.int ((ma &&& (2147483647 : Int32)) % (3 : Int32))), .val (.int ((mb &&& (2147483647 : Int32)) % (3 : Int32))), .val (.ref b105), .unset, .unset, .unset, .unset] [(.int (2 : Int32)), (.int ((ma &&& (2147483647 : Int32)) % (3 : Int32)))])) t → Steps p.tables e below (s₁.setTop (entryFrame m #[(.int sh), (.int tb), (.int ma), (.int mb), (.long cv), (.long ov)] maxLocals)) t := by
        intro t k
        refine pre133 _ ?_
        show Steps p.tables e below (T124.setTop (mkF m 154 #[.val (.int sh), .val (.int tb), .val (.int ma), .val (.int mb), .val (.long cv), .second, .val (.long ov), .second, .val (.int (2 : Int32)), .val (.ref b81), .val (.ref b83), .val (.int ((ma &&& (2147483647 : Int32)) % (3 : Int32))), .val (.int ((mb &&& (2147483647 : Int32)) % (3 : Int32))), .val (.ref b105), .unset, .unset, .unset, .unset] [])) _
        refine XS.iload X124.here hx rfl (hb hby at_154) rfl ?_
        show Steps p.tables e below (T124.setTop (mkF m 156 #[.val (.int sh), .val (.int tb), .val (.int ma), .val (.int mb), .val (.long cv), .second, .val (.long ov), .second, .val (.int (2 : Int32)), .val (.ref b81), .val (.ref b83), .val (.int ((ma &&& (2147483647 : Int32)) % (3 : Int32))), .val (.int ((mb &&& (2147483647 : Int32)) % (3 : Int32))), .val (.ref b105), .unset, .unset, .unset, .unset] [(.int ((ma &&& (2147483647 : Int32)) % (3 : Int32)))])) _
        refine XS.iload X124.here hx rfl (hb hby at_156) rfl ?_
        exact k
      by_cases hk135 : ((ma &&& (2147483647 : Int32)) % (3 : Int32)) = (2 : Int32)
      · obtain ⟨_, _, ⟨T136, L136, k136, n136⟩, -, X136, ⟨Lc136, hQ136, l136, y136, z136⟩, st136⟩ := Jvm.LawKit.callS X124 hx (y := (⟨"skipstitch/search/PrefixTableScanResumePinLaw", "entry", "(II)I"⟩ : MethodName)) hown (mvT hZ (hw _ (List.mem_of_getElem? (i := 2) rfl))) (mvT hZ (hw _ (List.mem_of_getElem? (i := 3) rfl))) (mvT hZ (hw _ (List.mem_of_getElem? (i := 4) rfl))) (mvT hZ (hw _ (List.mem_of_getElem? (i := 5) rfl))) (by decide) (backOf (W := 0) (rm1 l Z a0 hw [] tb (1 : Int32) T124.heap n0 Z124 (by decide)) hZ (hw _ (List.mem_of_getElem? (i := 5) rfl)) (hw _ (List.mem_of_getElem? (i := 4) rfl)) (by decide) (by decide)) (g := (mkF m 166 #[.val (.int sh), .val (.int tb), .val (.int ma), .val (.int mb), .val (.long cv), .second, .val (.long ov), .second, .val (.int (2 : Int32)), .val (.ref b81), .val (.ref b83), .val (.int ((ma &&& (2147483647 : Int32)) % (3 : Int32))), .val (.int ((mb &&& (2147483647 : Int32)) % (3 : Int32))), .val (.ref b105), .unset, .unset, .unset, .unset] [(.int (1 : Int32)), (.int tb)])) rfl (by rw [hml]; rfl) (argsL := [(.int tb), (.int (1 : Int32))]) (rest := []) (lenOf pd_0 rfl) rfl (by show 2 * 0 + _ ≤ _; exact Nat.le_of_eq rfl) (hb hby at_166) (fun _ _ => ⟨rfl, rfl, (by decide : 3 + 0 ≤ _), (by decide : 9 + 0 ≤ _)⟩)
        dsimp only [Pt.U, Pt.locs, Pt.cells, Pt.slots] at X136 l136 y136 z136 st136 hQ136
        subst l136 y136 z136
        obtain ⟨rfl, N136q, e136⟩ := hQ136
        have N136 := Fr.app N124 N136q
        have pre137 : ∀ t, Steps p.tables e below (T136.setTop (mkF m 174 #[.val (.int sh), .val (.int tb), .val (.int ma), .val (.int mb), .val (.long cv), .second, .val (.long ov), .second, .val (.int (2 : Int32)), .val (.ref b81), .val (.ref b83), .val (.int ((ma &&& (2147483647 : Int32)) % (3 : Int32))), .val (.int ((mb &&& (2147483647 : Int32)) % (3 : Int32))), .val (.ref b105), .unset, .unset, .unset, .unset] [(.int ((((tb.toUInt32 >>> (((8 : Int32) * (1 : Int32)) &&& 31).toUInt32).toInt32) &&& (255 : Int32)) % ((1 : Int32) + (1 : Int32))))])) t → Steps p.tables e below (s₁.setTop (entryFrame m #[(.int sh), (.int tb), (.int ma), (.int mb), (.long cv), (.long ov)] maxLocals)) t := by
          intro t k
          refine pre134 _ ?_
          show Steps p.tables e below (T124.setTop (mkF m 158 #[.val (.int sh), .val (.int tb), .val (.int ma), .val (.int mb), .val (.long cv), .second, .val (.long ov), .second, .val (.int (2 : Int32)), .val (.ref b81), .val (.ref b83), .val (.int ((ma &&& (2147483647 : Int32)) % (3 : Int32))), .val (.int ((mb &&& (2147483647 : Int32)) % (3 : Int32))), .val (.ref b105), .unset, .unset, .unset, .unset] [(.int (2 : Int32)), (.int ((ma &&& (2147483647 : Int32)) % (3 : Int32)))])) _
          refine XS.icmpNo X124.here hx rfl (hb hby at_158) rfl (teq hk135).2 ?_
          show Steps p.tables e below (T124.setTop (mkF m 161 #[.val (.int sh), .val (.int tb), .val (.int ma), .val (.int mb), .val (.long cv), .second, .val (.long ov), .second, .val (.int (2 : Int32)), .val (.ref b81), .val (.ref b83), .val (.int ((ma &&& (2147483647 : Int32)) % (3 : Int32))), .val (.int ((mb &&& (2147483647 : Int32)) % (3 : Int32))), .val (.ref b105), .unset, .unset, .unset, .unset] [])) _
          refine XS.iloadN X124.here hx rfl (hb hby at_161) rfl ?_
          show Steps p.tables e below (T124.setTop (mkF m 162 #[.val (.int sh), .val (.int tb), .val (.int ma), .val (.int mb), .val (.long cv), .second, .val (.long ov), .second, .val (.int (2 : Int32)), .val (.ref b81), .val (.ref b83), .val (.int ((ma &&& (2147483647 : Int32)) % (3 : Int32))), .val (.int ((mb &&& (2147483647 : Int32)) % (3 : Int32))), .val (.ref b105), .unset, .unset, .unset, .unset] [(.int tb)])) _
          refine XS.iload X124.here hx rfl (hb hby at_162) rfl ?_
          show Steps p.tables e below (T124.setTop (mkF m 164 #[.val (.int sh), .val (.int tb), .val (.int ma), .val (.int mb), .val (.long cv), .second, .val (.long ov), .second, .val (.int (2 : Int32)), .val (.ref b81), .val (.ref b83), .val (.int ((ma &&& (2147483647 : Int32)) % (3 : Int32))), .val (.int ((mb &&& (2147483647 : Int32)) % (3 : Int32))), .val (.ref b105), .unset, .unset, .unset, .unset] [(.int (2 : Int32)), (.int tb)])) _
          refine XS.iconst X124.here hx rfl (hb hby at_164) ?_
          show Steps p.tables e below (T124.setTop (mkF m 165 #[.val (.int sh), .val (.int tb), .val (.int ma), .val (.int mb), .val (.long cv), .second, .val (.long ov), .second, .val (.int (2 : Int32)), .val (.ref b81), .val (.ref b83), .val (.int ((ma &&& (2147483647 : Int32)) % (3 : Int32))), .val (.int ((mb &&& (2147483647 : Int32)) % (3 : Int32))), .val (.ref b105), .unset, .unset, .unset, .unset] [(.int (1 : Int32)), (.int (2 : Int32)), (.int tb)])) _
          refine XS.isub X124.here hx rfl (hb hby at_165) rfl ?_
          show Steps p.tables e below (T124.setTop (mkF m 166 #[.val (.int sh), .val (.int tb), .val (.int ma), .val (.int mb), .val (.long cv), .second, .val (.long ov), .second, .val (.int (2 : Int32)), .val (.ref b81), .val (.ref b83), .val (.int ((ma &&& (2147483647 : Int32)) % (3 : Int32))), .val (.int ((mb &&& (2147483647 : Int32)) % (3 : Int32))), .val (.ref b105), .unset, .unset, .unset, .unset] [(.int (1 : Int32)), (.int tb)])) _
          refine st136 _ ?_
          show Steps p.tables e below (T136.setTop (mkF m 169 #[.val (.int sh), .val (.int tb), .val (.int ma), .val (.int mb), .val (.long cv), .second, .val (.long ov), .second, .val (.int (2 : Int32)), .val (.ref b81), .val (.ref b83), .val (.int ((ma &&& (2147483647 : Int32)) % (3 : Int32))), .val (.int ((mb &&& (2147483647 : Int32)) % (3 : Int32))), .val (.ref b105), .unset, .unset, .unset, .unset] [(.int ((((tb.toUInt32 >>> (((8 : Int32) * (1 : Int32)) &&& 31).toUInt32).toInt32) &&& (255 : Int32)) % ((1 : Int32) + (1 : Int32))))])) _
          refine XS.goto X136.here hx rfl (pc0 := 169) (pc' := 174) rfl (hb hby at_169) (by decide) (by decide) ?_
          exact k
        have ev139 : (j0_154_s0_1 tb ma) = ((((tb.toUInt32 >>> (((8 : Int32) * (1 : Int32)) &&& 31).toUInt32).toInt32) &&& (255 : Int32)) % ((1 : Int32) + (1 : Int32))) := by unfold j0_154_s0_1; rw [if_pos hk135]
        exact ⟨_, _, X136, e136, N136, fun t k => pre137 _ (by rw [ev139] at k; exact k)⟩
      · have pre138 : ∀ t, Steps p.tables e below (T124.setTop (mkF m 174 #[.val (.int sh), .val (.int tb), .val (.int ma), .val (.int mb), .val (.long cv), .second, .val (.long ov), .second, .val (.int (2 : Int32)), .val (.ref b81), .val (.ref b83), .val (.int ((ma &&& (2147483647 : Int32)) % (3 : Int32))), .val (.int ((mb &&& (2147483647 : Int32)) % (3 : Int32))), .val (.ref b105), .unset, .unset, .unset, .unset] [(.int ((ma &&& (2147483647 : Int32)) % (3 : Int32)))])) t → Steps p.tables e below (s₁.setTop (entryFrame m #[(.int sh), (.int tb), (.int ma), (.int mb), (.long cv), (.long ov)] maxLocals)) t := by
          intro t k
          refine pre134 _ ?_
          show Steps p.tables e below (T124.setTop (mkF m 158 #[.val (.int sh), .val (.int tb), .val (.int ma), .val (.int mb), .val (.long cv), .second, .val (.long ov), .second, .val (.int (2 : Int32)), .val (.ref b81), .val (.ref b83), .val (.int ((ma &&& (2147483647 : Int32)) % (3 : Int32))), .val (.int ((mb &&& (2147483647 : Int32)) % (3 : Int32))), .val (.ref b105), .unset, .unset, .unset, .unset] [(.int (2 : Int32)), (.int ((ma &&& (2147483647 : Int32)) % (3 : Int32)))])) _
          refine XS.icmpYes X124.here hx rfl (pc0 := 158) (pc' := 172) rfl (hb hby at_158) rfl (feq hk135).2 (by decide) (by decide) ?_
          show Steps p.tables e below (T124.setTop (mkF m 172 #[.val (.int sh), .val (.int tb), .val (.int ma), .val (.int mb), .val (.long cv), .second, .val (.long ov), .second, .val (.int (2 : Int32)), .val (.ref b81), .val (.ref b83), .val (.int ((ma &&& (2147483647 : Int32)) % (3 : Int32))), .val (.int ((mb &&& (2147483647 : Int32)) % (3 : Int32))), .val (.ref b105), .unset, .unset, .unset, .unset] [])) _
          refine XS.iload X124.here hx rfl (hb hby at_172) rfl ?_
          exact k
        have ev140 : (j0_154_s0_1 tb ma) = ((ma &&& (2147483647 : Int32)) % (3 : Int32)) := by unfold j0_154_s0_1; rw [if_neg hk135]
        exact ⟨_, _, X124, rfl, N124, fun t k => pre138 _ (by rw [ev140] at k; exact k)⟩
    obtain ⟨cq142, kq142, q142a, q142b, q142c⟩ := isOf hZ e141 f132
    obtain ⟨_, _, ⟨T142, L142, k142, n142⟩, -, X142, ⟨Lc142, hQ142, l142, y142, z142⟩, st142⟩ := X141.virtualBack hx (y := (⟨"skipstitch/search/PrefixTableScan", "matched", "()I"⟩ : MethodName)) (z := (⟨"skipstitch/search/PrefixTableScan", "matched", "()I"⟩ : MethodName)) hown (mvT hZ (hw _ (List.mem_of_getElem? (i := 31) rfl))) (mvT hZ (hw _ (List.mem_of_getElem? (i := 32) rfl))) (notFace_of_selects (args := #[]) (mvT hZ (hw _ (List.mem_of_getElem? (i := 34) rfl)))) (mvT hZ (hw _ (List.mem_of_getElem? (i := 34) rfl))) (mvT hZ (hw _ (List.mem_of_getElem? (i := 33) rfl))) (by decide) (backOf (W := 0) (rm5 l Z a0 hw [] b105 (r4k2_matched ((ma &&& (2147483647 : Int32)) % (3 : Int32)) (up (up zI 0 ((((tb.toUInt32 >>> (((8 : Int32) * (0 : Int32)) &&& 31).toUInt32).toInt32) &&& (255 : Int32)) % ((0 : Int32) + (1 : Int32)))) 1 ((((tb.toUInt32 >>> (((8 : Int32) * (1 : Int32)) &&& 31).toUInt32).toInt32) &&& (255 : Int32)) % ((1 : Int32) + (1 : Int32))))) T124.heap n0 Z124 f127) hZ (hw _ (List.mem_of_getElem? (i := 35) rfl)) (hw _ (List.mem_of_getElem? (i := 9) rfl)) (by decide) (by decide)) q142a q142c (g := (mkF m 178 #[.val (.int sh), .val (.int tb), .val (.int ma), .val (.int mb), .val (.long cv), .second, .val (.long ov), .second, .val (.int (2 : Int32)), .val (.ref b81), .val (.ref b83), .val (.int ((ma &&& (2147483647 : Int32)) % (3 : Int32))), .val (.int ((mb &&& (2147483647 : Int32)) % (3 : Int32))), .val (.ref b105), .val (.int (j0_154_s0_1 tb ma)), .unset, .unset, .unset] [(.ref b105)])) rfl (by rw [hml]; rfl) (Steps.refl _) (argsL := []) (rest := []) (lenOf pd_3 rfl) rfl (by show 2 * 0 + _ ≤ _; exact Nat.le_of_eq rfl) (hb hby at_178) (fun _ _ => ⟨rfl, e141, (by decide : 3 + 0 ≤ _), (by decide : 9 + 0 ≤ _)⟩)
    dsimp only [Pt.U, Pt.locs, Pt.cells, Pt.slots] at X142 l142 y142 z142 st142 hQ142
    subst l142 y142 z142
    obtain ⟨rfl, N142q, e142⟩ := hQ142
    have N142 := Fr.app N141 N142q
    obtain ⟨cq143, kq143, q143a, q143b, q143c⟩ := isOf hZ e142 f132
    obtain ⟨_, _, ⟨T143, L143, k143, n143⟩, -, X143, ⟨Lc143, hQ143, l143, y143, z143⟩, st143⟩ := X142.virtualBack hx (y := (⟨"skipstitch/search/PrefixTableScan", "comparisons", "()J"⟩ : MethodName)) (z := (⟨"skipstitch/search/PrefixTableScan", "comparisons", "()J"⟩ : MethodName)) hown (mvT hZ (hw _ (List.mem_of_getElem? (i := 36) rfl))) (mvT hZ (hw _ (List.mem_of_getElem? (i := 37) rfl))) (notFace_of_selects (args := #[]) (mvT hZ (hw _ (List.mem_of_getElem? (i := 39) rfl)))) (mvT hZ (hw _ (List.mem_of_getElem? (i := 39) rfl))) (mvT hZ (hw _ (List.mem_of_getElem? (i := 38) rfl))) (by decide) (backOf (W := 0) (rm6 l Z a0 hw [] b105 cv T124.heap n0 Z124 f128) hZ (hw _ (List.mem_of_getElem? (i := 40) rfl)) (hw _ (List.mem_of_getElem? (i := 9) rfl)) (by decide) (by decide)) q143a q143c (g := (mkF m 188 #[.val (.int sh), .val (.int tb), .val (.int ma), .val (.int mb), .val (.long cv), .second, .val (.long ov), .second, .val (.int (2 : Int32)), .val (.ref b81), .val (.ref b83), .val (.int ((ma &&& (2147483647 : Int32)) % (3 : Int32))), .val (.int ((mb &&& (2147483647 : Int32)) % (3 : Int32))), .val (.ref b105), .val (.int (j0_154_s0_1 tb ma)), .unset, .unset, .unset] [(.ref b105)])) rfl (by rw [hml]; rfl) (Steps.refl _) (argsL := []) (rest := []) (lenOf pd_4 rfl) rfl (by show 2 * 0 + _ ≤ _; exact Nat.le_of_eq rfl) (hb hby at_188) (fun _ _ => ⟨rfl, e142, (by decide : 3 + 0 ≤ _), (by decide : 9 + 0 ≤ _)⟩)
    dsimp only [Pt.U, Pt.locs, Pt.cells, Pt.slots] at X143 l143 y143 z143 st143 hQ143
    subst l143 y143 z143
    obtain ⟨rfl, N143q, e143⟩ := hQ143
    have N143 := Fr.app N142 N143q
    obtain ⟨cq144, kq144, q144a, q144b, q144c⟩ := isOf hZ e143 f132
    obtain ⟨_, _, ⟨T144, L144, k144, n144⟩, -, X144, ⟨Lc144, hQ144, l144, y144, z144⟩, st144⟩ := X143.virtualBack hx (y := (⟨"skipstitch/search/PrefixTableScan", "occurrences", "()J"⟩ : MethodName)) (z := (⟨"skipstitch/search/PrefixTableScan", "occurrences", "()J"⟩ : MethodName)) hown (mvT hZ (hw _ (List.mem_of_getElem? (i := 41) rfl))) (mvT hZ (hw _ (List.mem_of_getElem? (i := 42) rfl))) (notFace_of_selects (args := #[]) (mvT hZ (hw _ (List.mem_of_getElem? (i := 44) rfl)))) (mvT hZ (hw _ (List.mem_of_getElem? (i := 44) rfl))) (mvT hZ (hw _ (List.mem_of_getElem? (i := 43) rfl))) (by decide) (backOf (W := 0) (rm7 l Z a0 hw [] b105 ov T124.heap n0 Z124 f129) hZ (hw _ (List.mem_of_getElem? (i := 45) rfl)) (hw _ (List.mem_of_getElem? (i := 9) rfl)) (by decide) (by decide)) q144a q144c (g := (mkF m 199 #[.val (.int sh), .val (.int tb), .val (.int ma), .val (.int mb), .val (.long cv), .second, .val (.long ov), .second, .val (.int (2 : Int32)), .val (.ref b81), .val (.ref b83), .val (.int ((ma &&& (2147483647 : Int32)) % (3 : Int32))), .val (.int ((mb &&& (2147483647 : Int32)) % (3 : Int32))), .val (.ref b105), .val (.int (j0_154_s0_1 tb ma)), .unset, .unset, .unset] [(.ref b105)])) rfl (by rw [hml]; rfl) (Steps.refl _) (argsL := []) (rest := []) (lenOf pd_4 rfl) rfl (by show 2 * 0 + _ ≤ _; exact Nat.le_of_eq rfl) (hb hby at_199) (fun _ _ => ⟨rfl, e143, (by decide : 3 + 0 ≤ _), (by decide : 9 + 0 ≤ _)⟩)
    dsimp only [Pt.U, Pt.locs, Pt.cells, Pt.slots] at X144 l144 y144 z144 st144 hQ144
    subst l144 y144 z144
    obtain ⟨rfl, N144q, e144⟩ := hQ144
    have N144 := Fr.app N143 N144q
    obtain ⟨cq145, kq145, q145a, q145b, q145c⟩ := isOf hZ e144 f132
    obtain ⟨_, _, ⟨T145, L145, k145, n145⟩, -, X145, ⟨Lc145, hQ145, l145, y145, z145⟩, st145⟩ := X144.virtualBack hx (y := (⟨"skipstitch/search/PrefixTableScan", "resume", "(IJJ)V"⟩ : MethodName)) (z := (⟨"skipstitch/search/PrefixTableScan", "resume", "(IJJ)V"⟩ : MethodName)) hown (mvT hZ (hw _ (List.mem_of_getElem? (i := 20) rfl))) (mvT hZ (hw _ (List.mem_of_getElem? (i := 21) rfl))) (notFace_of_selects (args := #[]) (mvT hZ (hw _ (List.mem_of_getElem? (i := 23) rfl)))) (mvT hZ (hw _ (List.mem_of_getElem? (i := 23) rfl))) (mvT hZ (hw _ (List.mem_of_getElem? (i := 22) rfl))) (by decide) (backOf (W := 0) (rm4k2 l Z a0 hw [] b105 ((mb &&& (2147483647 : Int32)) % (3 : Int32)) ov cv b81 b83 (up (up zI 0 ((sh >>> ((2 : Int32) &&& 31)).toInt8.toInt32)) 1 ((sh >>> ((10 : Int32) &&& 31)).toInt8.toInt32)) (up (up zI 0 ((((tb.toUInt32 >>> (((8 : Int32) * (0 : Int32)) &&& 31).toUInt32).toInt32) &&& (255 : Int32)) % ((0 : Int32) + (1 : Int32)))) 1 ((((tb.toUInt32 >>> (((8 : Int32) * (1 : Int32)) &&& 31).toUInt32).toInt32) &&& (255 : Int32)) % ((1 : Int32) + (1 : Int32)))) (r4k2_matched ((ma &&& (2147483647 : Int32)) % (3 : Int32)) (up (up zI 0 ((((tb.toUInt32 >>> (((8 : Int32) * (0 : Int32)) &&& 31).toUInt32).toInt32) &&& (255 : Int32)) % ((0 : Int32) + (1 : Int32)))) 1 ((((tb.toUInt32 >>> (((8 : Int32) * (1 : Int32)) &&& 31).toUInt32).toInt32) &&& (255 : Int32)) % ((1 : Int32) + (1 : Int32))))) cv ov T124.heap n0 Z124 f132 f125 f126 f130 f131 (Ne.symm ne106) (Ne.symm ne107) f127 f128 f129 gg105) hZ (hw _ (List.mem_of_getElem? (i := 24) rfl)) (hw _ (List.mem_of_getElem? (i := 9) rfl)) (by decide) (by decide)) q145a q145c (g := (mkF m 223 #[.val (.int sh), .val (.int tb), .val (.int ma), .val (.int mb), .val (.long cv), .second, .val (.long ov), .second, .val (.int (2 : Int32)), .val (.ref b81), .val (.ref b83), .val (.int ((ma &&& (2147483647 : Int32)) % (3 : Int32))), .val (.int ((mb &&& (2147483647 : Int32)) % (3 : Int32))), .val (.ref b105), .val (.int (j0_154_s0_1 tb ma)), .val (.int (1 : Int32)), .unset, .unset] [(.long cv), (.long ov), (.int ((mb &&& (2147483647 : Int32)) % (3 : Int32))), (.ref b105)])) rfl (by rw [hml]; rfl) (Steps.refl _) (argsL := [(.int ((mb &&& (2147483647 : Int32)) % (3 : Int32))), (.long ov), (.long cv)]) (rest := []) (lenOf pd_2 rfl) rfl (by show 2 * 0 + _ ≤ _; exact Nat.le_of_eq rfl) (hb hby at_223) (fun _ _ => ⟨rfl, e144, (by decide : 3 + 0 ≤ _), (by decide : 9 + 0 ≤ _)⟩)
    dsimp only [Pt.U, Pt.locs, Pt.cells, Pt.slots] at X145 l145 y145 z145 st145 hQ145
    subst l145 y145 z145
    obtain ⟨rfl, N145q, K145c, f146, f147, f148, f149, f150⟩ := hQ145
    have N145 := Fr.app N144 N145q
    have f151 : AI Z T145.heap b81 .byte 2 (up (up zI 0 ((sh >>> ((2 : Int32) &&& 31)).toInt8.toInt32)) 1 ((sh >>> ((10 : Int32) &&& 31)).toInt8.toInt32)) := f130.keep K145c (ninS ne106 nin0)
    have f152 : AI Z T145.heap b83 .int 2 (up (up zI 0 ((((tb.toUInt32 >>> (((8 : Int32) * (0 : Int32)) &&& 31).toUInt32).toInt32) &&& (255 : Int32)) % ((0 : Int32) + (1 : Int32)))) 1 ((((tb.toUInt32 >>> (((8 : Int32) * (1 : Int32)) &&& 31).toUInt32).toInt32) &&& (255 : Int32)) % ((1 : Int32) + (1 : Int32)))) := f131.keep K145c (ninS ne107 nin0)
    have f153 : Exa Z T145.heap b105 "skipstitch/search/PrefixTableScan" := f132.keep K145c
    have Z145 : n0 ≤ T145.heap.size := Nat.le_trans Z124 K145c.1
    have pre154 : ∀ t, Steps p.tables e below (T145.setTop (mkF m 226 #[.val (.int sh), .val (.int tb), .val (.int ma), .val (.int mb), .val (.long cv), .second, .val (.long ov), .second, .val (.int (2 : Int32)), .val (.ref b81), .val (.ref b83), .val (.int ((ma &&& (2147483647 : Int32)) % (3 : Int32))), .val (.int ((mb &&& (2147483647 : Int32)) % (3 : Int32))), .val (.ref b105), .val (.int (j0_154_s0_1 tb ma)), .val (.int (1 : Int32)), .unset, .unset] [])) t → Steps p.tables e below (s₁.setTop (entryFrame m #[(.int sh), (.int tb), (.int ma), (.int mb), (.long cv), (.long ov)] maxLocals)) t := by
      intro t k
      refine pre141 _ ?_
      show Steps p.tables e below (T141.setTop (mkF m 174 #[.val (.int sh), .val (.int tb), .val (.int ma), .val (.int mb), .val (.long cv), .second, .val (.long ov), .second, .val (.int (2 : Int32)), .val (.ref b81), .val (.ref b83), .val (.int ((ma &&& (2147483647 : Int32)) % (3 : Int32))), .val (.int ((mb &&& (2147483647 : Int32)) % (3 : Int32))), .val (.ref b105), .unset, .unset, .unset, .unset] [(.int (j0_154_s0_1 tb ma))])) _
      refine XS.istore X141.here hx rfl (hb hby at_174) rfl (l' := #[.val (.int sh), .val (.int tb), .val (.int ma), .val (.int mb), .val (.long cv), .second, .val (.long ov), .second, .val (.int (2 : Int32)), .val (.ref b81), .val (.ref b83), .val (.int ((ma &&& (2147483647 : Int32)) % (3 : Int32))), .val (.int ((mb &&& (2147483647 : Int32)) % (3 : Int32))), .val (.ref b105), .val (.int (j0_154_s0_1 tb ma)), .unset, .unset, .unset]) rfl ?_
      show Steps p.tables e below (T141.setTop (mkF m 176 #[.val (.int sh), .val (.int tb), .val (.int ma), .val (.int mb), .val (.long cv), .second, .val (.long ov), .second, .val (.int (2 : Int32)), .val (.ref b81), .val (.ref b83), .val (.int ((ma &&& (2147483647 : Int32)) % (3 : Int32))), .val (.int ((mb &&& (2147483647 : Int32)) % (3 : Int32))), .val (.ref b105), .val (.int (j0_154_s0_1 tb ma)), .unset, .unset, .unset] [])) _
      refine XS.aload X141.here hx rfl (hb hby at_176) rfl rfl ?_
      show Steps p.tables e below (T141.setTop (mkF m 178 #[.val (.int sh), .val (.int tb), .val (.int ma), .val (.int mb), .val (.long cv), .second, .val (.long ov), .second, .val (.int (2 : Int32)), .val (.ref b81), .val (.ref b83), .val (.int ((ma &&& (2147483647 : Int32)) % (3 : Int32))), .val (.int ((mb &&& (2147483647 : Int32)) % (3 : Int32))), .val (.ref b105), .val (.int (j0_154_s0_1 tb ma)), .unset, .unset, .unset] [(.ref b105)])) _
      refine st142.trans ?_
      show Steps p.tables e below (T142.setTop (mkF m 181 #[.val (.int sh), .val (.int tb), .val (.int ma), .val (.int mb), .val (.long cv), .second, .val (.long ov), .second, .val (.int (2 : Int32)), .val (.ref b81), .val (.ref b83), .val (.int ((ma &&& (2147483647 : Int32)) % (3 : Int32))), .val (.int ((mb &&& (2147483647 : Int32)) % (3 : Int32))), .val (.ref b105), .val (.int (j0_154_s0_1 tb ma)), .unset, .unset, .unset] [(.int (r4k2_matched ((ma &&& (2147483647 : Int32)) % (3 : Int32)) (up (up zI 0 ((((tb.toUInt32 >>> (((8 : Int32) * (0 : Int32)) &&& 31).toUInt32).toInt32) &&& (255 : Int32)) % ((0 : Int32) + (1 : Int32)))) 1 ((((tb.toUInt32 >>> (((8 : Int32) * (1 : Int32)) &&& 31).toUInt32).toInt32) &&& (255 : Int32)) % ((1 : Int32) + (1 : Int32))))))])) _
      refine XS.iload X142.here hx rfl (hb hby at_181) rfl ?_
      show Steps p.tables e below (T142.setTop (mkF m 183 #[.val (.int sh), .val (.int tb), .val (.int ma), .val (.int mb), .val (.long cv), .second, .val (.long ov), .second, .val (.int (2 : Int32)), .val (.ref b81), .val (.ref b83), .val (.int ((ma &&& (2147483647 : Int32)) % (3 : Int32))), .val (.int ((mb &&& (2147483647 : Int32)) % (3 : Int32))), .val (.ref b105), .val (.int (j0_154_s0_1 tb ma)), .unset, .unset, .unset] [(.int (j0_154_s0_1 tb ma)), (.int (r4k2_matched ((ma &&& (2147483647 : Int32)) % (3 : Int32)) (up (up zI 0 ((((tb.toUInt32 >>> (((8 : Int32) * (0 : Int32)) &&& 31).toUInt32).toInt32) &&& (255 : Int32)) % ((0 : Int32) + (1 : Int32)))) 1 ((((tb.toUInt32 >>> (((8 : Int32) * (1 : Int32)) &&& 31).toUInt32).toInt32) &&& (255 : Int32)) % ((1 : Int32) + (1 : Int32))))))])) _
      refine XS.icmpNo X142.here hx rfl (hb hby at_183) rfl (teq (rfl : ((r4k2_matched ((ma &&& (2147483647 : Int32)) % (3 : Int32)) (up (up zI 0 ((((tb.toUInt32 >>> (((8 : Int32) * (0 : Int32)) &&& 31).toUInt32).toInt32) &&& (255 : Int32)) % ((0 : Int32) + (1 : Int32)))) 1 ((((tb.toUInt32 >>> (((8 : Int32) * (1 : Int32)) &&& 31).toUInt32).toInt32) &&& (255 : Int32)) % ((1 : Int32) + (1 : Int32))))) = (j0_154_s0_1 tb ma)))).2 ?_
      show Steps p.tables e below (T142.setTop (mkF m 186 #[.val (.int sh), .val (.int tb), .val (.int ma), .val (.int mb), .val (.long cv), .second, .val (.long ov), .second, .val (.int (2 : Int32)), .val (.ref b81), .val (.ref b83), .val (.int ((ma &&& (2147483647 : Int32)) % (3 : Int32))), .val (.int ((mb &&& (2147483647 : Int32)) % (3 : Int32))), .val (.ref b105), .val (.int (j0_154_s0_1 tb ma)), .unset, .unset, .unset] [])) _
      refine XS.aload X142.here hx rfl (hb hby at_186) rfl rfl ?_
      show Steps p.tables e below (T142.setTop (mkF m 188 #[.val (.int sh), .val (.int tb), .val (.int ma), .val (.int mb), .val (.long cv), .second, .val (.long ov), .second, .val (.int (2 : Int32)), .val (.ref b81), .val (.ref b83), .val (.int ((ma &&& (2147483647 : Int32)) % (3 : Int32))), .val (.int ((mb &&& (2147483647 : Int32)) % (3 : Int32))), .val (.ref b105), .val (.int (j0_154_s0_1 tb ma)), .unset, .unset, .unset] [(.ref b105)])) _
      refine st143.trans ?_
      show Steps p.tables e below (T143.setTop (mkF m 191 #[.val (.int sh), .val (.int tb), .val (.int ma), .val (.int mb), .val (.long cv), .second, .val (.long ov), .second, .val (.int (2 : Int32)), .val (.ref b81), .val (.ref b83), .val (.int ((ma &&& (2147483647 : Int32)) % (3 : Int32))), .val (.int ((mb &&& (2147483647 : Int32)) % (3 : Int32))), .val (.ref b105), .val (.int (j0_154_s0_1 tb ma)), .unset, .unset, .unset] [(.long cv)])) _
      refine XS.lload X143.here hx rfl (hb hby at_191) rfl ?_
      show Steps p.tables e below (T143.setTop (mkF m 193 #[.val (.int sh), .val (.int tb), .val (.int ma), .val (.int mb), .val (.long cv), .second, .val (.long ov), .second, .val (.int (2 : Int32)), .val (.ref b81), .val (.ref b83), .val (.int ((ma &&& (2147483647 : Int32)) % (3 : Int32))), .val (.int ((mb &&& (2147483647 : Int32)) % (3 : Int32))), .val (.ref b105), .val (.int (j0_154_s0_1 tb ma)), .unset, .unset, .unset] [(.long cv), (.long cv)])) _
      refine XS.lcmp X143.here hx rfl (hb hby at_193) rfl ?_
      show Steps p.tables e below (T143.setTop (mkF m 194 #[.val (.int sh), .val (.int tb), .val (.int ma), .val (.int mb), .val (.long cv), .second, .val (.long ov), .second, .val (.int (2 : Int32)), .val (.ref b81), .val (.ref b83), .val (.int ((ma &&& (2147483647 : Int32)) % (3 : Int32))), .val (.int ((mb &&& (2147483647 : Int32)) % (3 : Int32))), .val (.ref b105), .val (.int (j0_154_s0_1 tb ma)), .unset, .unset, .unset] [(.int (lcmpW cv cv))])) _
      refine XS.ifNo X143.here hx rfl (hb hby at_194) rfl (own_teqL (rfl : cv = cv)).2 ?_
      show Steps p.tables e below (T143.setTop (mkF m 197 #[.val (.int sh), .val (.int tb), .val (.int ma), .val (.int mb), .val (.long cv), .second, .val (.long ov), .second, .val (.int (2 : Int32)), .val (.ref b81), .val (.ref b83), .val (.int ((ma &&& (2147483647 : Int32)) % (3 : Int32))), .val (.int ((mb &&& (2147483647 : Int32)) % (3 : Int32))), .val (.ref b105), .val (.int (j0_154_s0_1 tb ma)), .unset, .unset, .unset] [])) _
      refine XS.aload X143.here hx rfl (hb hby at_197) rfl rfl ?_
      show Steps p.tables e below (T143.setTop (mkF m 199 #[.val (.int sh), .val (.int tb), .val (.int ma), .val (.int mb), .val (.long cv), .second, .val (.long ov), .second, .val (.int (2 : Int32)), .val (.ref b81), .val (.ref b83), .val (.int ((ma &&& (2147483647 : Int32)) % (3 : Int32))), .val (.int ((mb &&& (2147483647 : Int32)) % (3 : Int32))), .val (.ref b105), .val (.int (j0_154_s0_1 tb ma)), .unset, .unset, .unset] [(.ref b105)])) _
      refine st144.trans ?_
      show Steps p.tables e below (T144.setTop (mkF m 202 #[.val (.int sh), .val (.int tb), .val (.int ma), .val (.int mb), .val (.long cv), .second, .val (.long ov), .second, .val (.int (2 : Int32)), .val (.ref b81), .val (.ref b83), .val (.int ((ma &&& (2147483647 : Int32)) % (3 : Int32))), .val (.int ((mb &&& (2147483647 : Int32)) % (3 : Int32))), .val (.ref b105), .val (.int (j0_154_s0_1 tb ma)), .unset, .unset, .unset] [(.long ov)])) _
      refine XS.lload X144.here hx rfl (hb hby at_202) rfl ?_
      show Steps p.tables e below (T144.setTop (mkF m 204 #[.val (.int sh), .val (.int tb), .val (.int ma), .val (.int mb), .val (.long cv), .second, .val (.long ov), .second, .val (.int (2 : Int32)), .val (.ref b81), .val (.ref b83), .val (.int ((ma &&& (2147483647 : Int32)) % (3 : Int32))), .val (.int ((mb &&& (2147483647 : Int32)) % (3 : Int32))), .val (.ref b105), .val (.int (j0_154_s0_1 tb ma)), .unset, .unset, .unset] [(.long ov), (.long ov)])) _
      refine XS.lcmp X144.here hx rfl (hb hby at_204) rfl ?_
      show Steps p.tables e below (T144.setTop (mkF m 205 #[.val (.int sh), .val (.int tb), .val (.int ma), .val (.int mb), .val (.long cv), .second, .val (.long ov), .second, .val (.int (2 : Int32)), .val (.ref b81), .val (.ref b83), .val (.int ((ma &&& (2147483647 : Int32)) % (3 : Int32))), .val (.int ((mb &&& (2147483647 : Int32)) % (3 : Int32))), .val (.ref b105), .val (.int (j0_154_s0_1 tb ma)), .unset, .unset, .unset] [(.int (lcmpW ov ov))])) _
      refine XS.ifNo X144.here hx rfl (hb hby at_205) rfl (own_teqL (rfl : ov = ov)).2 ?_
      show Steps p.tables e below (T144.setTop (mkF m 208 #[.val (.int sh), .val (.int tb), .val (.int ma), .val (.int mb), .val (.long cv), .second, .val (.long ov), .second, .val (.int (2 : Int32)), .val (.ref b81), .val (.ref b83), .val (.int ((ma &&& (2147483647 : Int32)) % (3 : Int32))), .val (.int ((mb &&& (2147483647 : Int32)) % (3 : Int32))), .val (.ref b105), .val (.int (j0_154_s0_1 tb ma)), .unset, .unset, .unset] [])) _
      refine XS.iconst X144.here hx rfl (hb hby at_208) ?_
      show Steps p.tables e below (T144.setTop (mkF m 209 #[.val (.int sh), .val (.int tb), .val (.int ma), .val (.int mb), .val (.long cv), .second, .val (.long ov), .second, .val (.int (2 : Int32)), .val (.ref b81), .val (.ref b83), .val (.int ((ma &&& (2147483647 : Int32)) % (3 : Int32))), .val (.int ((mb &&& (2147483647 : Int32)) % (3 : Int32))), .val (.ref b105), .val (.int (j0_154_s0_1 tb ma)), .unset, .unset, .unset] [(.int (1 : Int32))])) _
      refine XS.goto X144.here hx rfl (pc0 := 209) (pc' := 213) rfl (hb hby at_209) (by decide) (by decide) ?_
      show Steps p.tables e below (T144.setTop (mkF m 213 #[.val (.int sh), .val (.int tb), .val (.int ma), .val (.int mb), .val (.long cv), .second, .val (.long ov), .second, .val (.int (2 : Int32)), .val (.ref b81), .val (.ref b83), .val (.int ((ma &&& (2147483647 : Int32)) % (3 : Int32))), .val (.int ((mb &&& (2147483647 : Int32)) % (3 : Int32))), .val (.ref b105), .val (.int (j0_154_s0_1 tb ma)), .unset, .unset, .unset] [(.int (1 : Int32))])) _
      refine XS.istore X144.here hx rfl (hb hby at_213) rfl (l' := #[.val (.int sh), .val (.int tb), .val (.int ma), .val (.int mb), .val (.long cv), .second, .val (.long ov), .second, .val (.int (2 : Int32)), .val (.ref b81), .val (.ref b83), .val (.int ((ma &&& (2147483647 : Int32)) % (3 : Int32))), .val (.int ((mb &&& (2147483647 : Int32)) % (3 : Int32))), .val (.ref b105), .val (.int (j0_154_s0_1 tb ma)), .val (.int (1 : Int32)), .unset, .unset]) rfl ?_
      show Steps p.tables e below (T144.setTop (mkF m 215 #[.val (.int sh), .val (.int tb), .val (.int ma), .val (.int mb), .val (.long cv), .second, .val (.long ov), .second, .val (.int (2 : Int32)), .val (.ref b81), .val (.ref b83), .val (.int ((ma &&& (2147483647 : Int32)) % (3 : Int32))), .val (.int ((mb &&& (2147483647 : Int32)) % (3 : Int32))), .val (.ref b105), .val (.int (j0_154_s0_1 tb ma)), .val (.int (1 : Int32)), .unset, .unset] [])) _
      refine XS.aload X144.here hx rfl (hb hby at_215) rfl rfl ?_
      show Steps p.tables e below (T144.setTop (mkF m 217 #[.val (.int sh), .val (.int tb), .val (.int ma), .val (.int mb), .val (.long cv), .second, .val (.long ov), .second, .val (.int (2 : Int32)), .val (.ref b81), .val (.ref b83), .val (.int ((ma &&& (2147483647 : Int32)) % (3 : Int32))), .val (.int ((mb &&& (2147483647 : Int32)) % (3 : Int32))), .val (.ref b105), .val (.int (j0_154_s0_1 tb ma)), .val (.int (1 : Int32)), .unset, .unset] [(.ref b105)])) _
      refine XS.iload X144.here hx rfl (hb hby at_217) rfl ?_
      show Steps p.tables e below (T144.setTop (mkF m 219 #[.val (.int sh), .val (.int tb), .val (.int ma), .val (.int mb), .val (.long cv), .second, .val (.long ov), .second, .val (.int (2 : Int32)), .val (.ref b81), .val (.ref b83), .val (.int ((ma &&& (2147483647 : Int32)) % (3 : Int32))), .val (.int ((mb &&& (2147483647 : Int32)) % (3 : Int32))), .val (.ref b105), .val (.int (j0_154_s0_1 tb ma)), .val (.int (1 : Int32)), .unset, .unset] [(.int ((mb &&& (2147483647 : Int32)) % (3 : Int32))), (.ref b105)])) _
      refine XS.lload X144.here hx rfl (hb hby at_219) rfl ?_
      show Steps p.tables e below (T144.setTop (mkF m 221 #[.val (.int sh), .val (.int tb), .val (.int ma), .val (.int mb), .val (.long cv), .second, .val (.long ov), .second, .val (.int (2 : Int32)), .val (.ref b81), .val (.ref b83), .val (.int ((ma &&& (2147483647 : Int32)) % (3 : Int32))), .val (.int ((mb &&& (2147483647 : Int32)) % (3 : Int32))), .val (.ref b105), .val (.int (j0_154_s0_1 tb ma)), .val (.int (1 : Int32)), .unset, .unset] [(.long ov), (.int ((mb &&& (2147483647 : Int32)) % (3 : Int32))), (.ref b105)])) _
      refine XS.lload X144.here hx rfl (hb hby at_221) rfl ?_
      show Steps p.tables e below (T144.setTop (mkF m 223 #[.val (.int sh), .val (.int tb), .val (.int ma), .val (.int mb), .val (.long cv), .second, .val (.long ov), .second, .val (.int (2 : Int32)), .val (.ref b81), .val (.ref b83), .val (.int ((ma &&& (2147483647 : Int32)) % (3 : Int32))), .val (.int ((mb &&& (2147483647 : Int32)) % (3 : Int32))), .val (.ref b105), .val (.int (j0_154_s0_1 tb ma)), .val (.int (1 : Int32)), .unset, .unset] [(.long cv), (.long ov), (.int ((mb &&& (2147483647 : Int32)) % (3 : Int32))), (.ref b105)])) _
      refine st145.trans ?_
      exact k
    obtain ⟨T162, Lo162, X162, e162, N162, pre162⟩ : ∃ (T' : State) (lo : List Loc), Stand p l e room_1 s m #[(.int sh), (.int tb), (.int ma), (.int mb), (.long cv), (.long ov)] below meth c T' lo 3 9 ∧ T'.heap = T145.heap ∧ Fr n0 lo ∧ ∀ t, Steps p.tables e below (T'.setTop (mkF m 246 #[.val (.int sh), .val (.int tb), .val (.int ma), .val (.int mb), .val (.long cv), .second, .val (.long ov), .second, .val (.int (2 : Int32)), .val (.ref b81), .val (.ref b83), .val (.int ((ma &&& (2147483647 : Int32)) % (3 : Int32))), .val (.int ((mb &&& (2147483647 : Int32)) % (3 : Int32))), .val (.ref b105), .val (.int (j0_154_s0_1 tb ma)), .val (.int (1 : Int32)), .unset, .unset] [(.int (j0_226_s0_1 tb mb))])) t → Steps p.tables e below (s₁.setTop (entryFrame m #[(.int sh), (.int tb), (.int ma), (.int mb), (.long cv), (.long ov)] maxLocals)) t := by
      have pre155 : ∀ t, Steps p.tables e below (T145.setTop (mkF m 230 #[.val (.int sh), .val (.int tb), .val (.int ma), .val (.int mb), .val (.long cv), .second, .val (.long ov), .second, .val (.int (2 : Int32)), .val (.ref b81), .val (.ref b83), .val (.int ((ma &&& (2147483647 : Int32)) % (3 : Int32))), .val (.int ((mb &&& (2147483647 : Int32)) % (3 : Int32))), .val (.ref b105), .val (.int (j0_154_s0_1 tb ma)), .val (.int (1 : Int32)), .unset, .unset] [(.int (2 : Int32)), (.int ((mb &&& (2147483647 : Int32)) % (3 : Int32)))])) t → Steps p.tables e below (s₁.setTop (entryFrame m #[(.int sh), (.int tb), (.int ma), (.int mb), (.long cv), (.long ov)] maxLocals)) t := by
        intro t k
        refine pre154 _ ?_
        show Steps p.tables e below (T145.setTop (mkF m 226 #[.val (.int sh), .val (.int tb), .val (.int ma), .val (.int mb), .val (.long cv), .second, .val (.long ov), .second, .val (.int (2 : Int32)), .val (.ref b81), .val (.ref b83), .val (.int ((ma &&& (2147483647 : Int32)) % (3 : Int32))), .val (.int ((mb &&& (2147483647 : Int32)) % (3 : Int32))), .val (.ref b105), .val (.int (j0_154_s0_1 tb ma)), .val (.int (1 : Int32)), .unset, .unset] [])) _
        refine XS.iload X145.here hx rfl (hb hby at_226) rfl ?_
        show Steps p.tables e below (T145.setTop (mkF m 228 #[.val (.int sh), .val (.int tb), .val (.int ma), .val (.int mb), .val (.long cv), .second, .val (.long ov), .second, .val (.int (2 : Int32)), .val (.ref b81), .val (.ref b83), .val (.int ((ma &&& (2147483647 : Int32)) % (3 : Int32))), .val (.int ((mb &&& (2147483647 : Int32)) % (3 : Int32))), .val (.ref b105), .val (.int (j0_154_s0_1 tb ma)), .val (.int (1 : Int32)), .unset, .unset] [(.int ((mb &&& (2147483647 : Int32)) % (3 : Int32)))])) _
        refine XS.iload X145.here hx rfl (hb hby at_228) rfl ?_
        exact k
      by_cases hk156 : ((mb &&& (2147483647 : Int32)) % (3 : Int32)) = (2 : Int32)
      · obtain ⟨_, _, ⟨T157, L157, k157, n157⟩, -, X157, ⟨Lc157, hQ157, l157, y157, z157⟩, st157⟩ := Jvm.LawKit.callS X145 hx (y := (⟨"skipstitch/search/PrefixTableScanResumePinLaw", "entry", "(II)I"⟩ : MethodName)) hown (mvT hZ (hw _ (List.mem_of_getElem? (i := 2) rfl))) (mvT hZ (hw _ (List.mem_of_getElem? (i := 3) rfl))) (mvT hZ (hw _ (List.mem_of_getElem? (i := 4) rfl))) (mvT hZ (hw _ (List.mem_of_getElem? (i := 5) rfl))) (by decide) (backOf (W := 0) (rm1 l Z a0 hw [] tb (1 : Int32) T145.heap n0 Z145 (by decide)) hZ (hw _ (List.mem_of_getElem? (i := 5) rfl)) (hw _ (List.mem_of_getElem? (i := 4) rfl)) (by decide) (by decide)) (g := (mkF m 238 #[.val (.int sh), .val (.int tb), .val (.int ma), .val (.int mb), .val (.long cv), .second, .val (.long ov), .second, .val (.int (2 : Int32)), .val (.ref b81), .val (.ref b83), .val (.int ((ma &&& (2147483647 : Int32)) % (3 : Int32))), .val (.int ((mb &&& (2147483647 : Int32)) % (3 : Int32))), .val (.ref b105), .val (.int (j0_154_s0_1 tb ma)), .val (.int (1 : Int32)), .unset, .unset] [(.int (1 : Int32)), (.int tb)])) rfl (by rw [hml]; rfl) (argsL := [(.int tb), (.int (1 : Int32))]) (rest := []) (lenOf pd_0 rfl) rfl (by show 2 * 0 + _ ≤ _; exact Nat.le_of_eq rfl) (hb hby at_238) (fun _ _ => ⟨rfl, rfl, (by decide : 3 + 0 ≤ _), (by decide : 9 + 0 ≤ _)⟩)
        dsimp only [Pt.U, Pt.locs, Pt.cells, Pt.slots] at X157 l157 y157 z157 st157 hQ157
        subst l157 y157 z157
        obtain ⟨rfl, N157q, e157⟩ := hQ157
        have N157 := Fr.app N145 N157q
        have pre158 : ∀ t, Steps p.tables e below (T157.setTop (mkF m 246 #[.val (.int sh), .val (.int tb), .val (.int ma), .val (.int mb), .val (.long cv), .second, .val (.long ov), .second, .val (.int (2 : Int32)), .val (.ref b81), .val (.ref b83), .val (.int ((ma &&& (2147483647 : Int32)) % (3 : Int32))), .val (.int ((mb &&& (2147483647 : Int32)) % (3 : Int32))), .val (.ref b105), .val (.int (j0_154_s0_1 tb ma)), .val (.int (1 : Int32)), .unset, .unset] [(.int ((((tb.toUInt32 >>> (((8 : Int32) * (1 : Int32)) &&& 31).toUInt32).toInt32) &&& (255 : Int32)) % ((1 : Int32) + (1 : Int32))))])) t → Steps p.tables e below (s₁.setTop (entryFrame m #[(.int sh), (.int tb), (.int ma), (.int mb), (.long cv), (.long ov)] maxLocals)) t := by
          intro t k
          refine pre155 _ ?_
          show Steps p.tables e below (T145.setTop (mkF m 230 #[.val (.int sh), .val (.int tb), .val (.int ma), .val (.int mb), .val (.long cv), .second, .val (.long ov), .second, .val (.int (2 : Int32)), .val (.ref b81), .val (.ref b83), .val (.int ((ma &&& (2147483647 : Int32)) % (3 : Int32))), .val (.int ((mb &&& (2147483647 : Int32)) % (3 : Int32))), .val (.ref b105), .val (.int (j0_154_s0_1 tb ma)), .val (.int (1 : Int32)), .unset, .unset] [(.int (2 : Int32)), (.int ((mb &&& (2147483647 : Int32)) % (3 : Int32)))])) _
          refine XS.icmpNo X145.here hx rfl (hb hby at_230) rfl (teq hk156).2 ?_
          show Steps p.tables e below (T145.setTop (mkF m 233 #[.val (.int sh), .val (.int tb), .val (.int ma), .val (.int mb), .val (.long cv), .second, .val (.long ov), .second, .val (.int (2 : Int32)), .val (.ref b81), .val (.ref b83), .val (.int ((ma &&& (2147483647 : Int32)) % (3 : Int32))), .val (.int ((mb &&& (2147483647 : Int32)) % (3 : Int32))), .val (.ref b105), .val (.int (j0_154_s0_1 tb ma)), .val (.int (1 : Int32)), .unset, .unset] [])) _
          refine XS.iloadN X145.here hx rfl (hb hby at_233) rfl ?_
          show Steps p.tables e below (T145.setTop (mkF m 234 #[.val (.int sh), .val (.int tb), .val (.int ma), .val (.int mb), .val (.long cv), .second, .val (.long ov), .second, .val (.int (2 : Int32)), .val (.ref b81), .val (.ref b83), .val (.int ((ma &&& (2147483647 : Int32)) % (3 : Int32))), .val (.int ((mb &&& (2147483647 : Int32)) % (3 : Int32))), .val (.ref b105), .val (.int (j0_154_s0_1 tb ma)), .val (.int (1 : Int32)), .unset, .unset] [(.int tb)])) _
          refine XS.iload X145.here hx rfl (hb hby at_234) rfl ?_
          show Steps p.tables e below (T145.setTop (mkF m 236 #[.val (.int sh), .val (.int tb), .val (.int ma), .val (.int mb), .val (.long cv), .second, .val (.long ov), .second, .val (.int (2 : Int32)), .val (.ref b81), .val (.ref b83), .val (.int ((ma &&& (2147483647 : Int32)) % (3 : Int32))), .val (.int ((mb &&& (2147483647 : Int32)) % (3 : Int32))), .val (.ref b105), .val (.int (j0_154_s0_1 tb ma)), .val (.int (1 : Int32)), .unset, .unset] [(.int (2 : Int32)), (.int tb)])) _
          refine XS.iconst X145.here hx rfl (hb hby at_236) ?_
          show Steps p.tables e below (T145.setTop (mkF m 237 #[.val (.int sh), .val (.int tb), .val (.int ma), .val (.int mb), .val (.long cv), .second, .val (.long ov), .second, .val (.int (2 : Int32)), .val (.ref b81), .val (.ref b83), .val (.int ((ma &&& (2147483647 : Int32)) % (3 : Int32))), .val (.int ((mb &&& (2147483647 : Int32)) % (3 : Int32))), .val (.ref b105), .val (.int (j0_154_s0_1 tb ma)), .val (.int (1 : Int32)), .unset, .unset] [(.int (1 : Int32)), (.int (2 : Int32)), (.int tb)])) _
          refine XS.isub X145.here hx rfl (hb hby at_237) rfl ?_
          show Steps p.tables e below (T145.setTop (mkF m 238 #[.val (.int sh), .val (.int tb), .val (.int ma), .val (.int mb), .val (.long cv), .second, .val (.long ov), .second, .val (.int (2 : Int32)), .val (.ref b81), .val (.ref b83), .val (.int ((ma &&& (2147483647 : Int32)) % (3 : Int32))), .val (.int ((mb &&& (2147483647 : Int32)) % (3 : Int32))), .val (.ref b105), .val (.int (j0_154_s0_1 tb ma)), .val (.int (1 : Int32)), .unset, .unset] [(.int (1 : Int32)), (.int tb)])) _
          refine st157 _ ?_
          show Steps p.tables e below (T157.setTop (mkF m 241 #[.val (.int sh), .val (.int tb), .val (.int ma), .val (.int mb), .val (.long cv), .second, .val (.long ov), .second, .val (.int (2 : Int32)), .val (.ref b81), .val (.ref b83), .val (.int ((ma &&& (2147483647 : Int32)) % (3 : Int32))), .val (.int ((mb &&& (2147483647 : Int32)) % (3 : Int32))), .val (.ref b105), .val (.int (j0_154_s0_1 tb ma)), .val (.int (1 : Int32)), .unset, .unset] [(.int ((((tb.toUInt32 >>> (((8 : Int32) * (1 : Int32)) &&& 31).toUInt32).toInt32) &&& (255 : Int32)) % ((1 : Int32) + (1 : Int32))))])) _
          refine XS.goto X157.here hx rfl (pc0 := 241) (pc' := 246) rfl (hb hby at_241) (by decide) (by decide) ?_
          exact k
        have ev160 : (j0_226_s0_1 tb mb) = ((((tb.toUInt32 >>> (((8 : Int32) * (1 : Int32)) &&& 31).toUInt32).toInt32) &&& (255 : Int32)) % ((1 : Int32) + (1 : Int32))) := by unfold j0_226_s0_1; rw [if_pos hk156]
        exact ⟨_, _, X157, e157, N157, fun t k => pre158 _ (by rw [ev160] at k; exact k)⟩
      · have pre159 : ∀ t, Steps p.tables e below (T145.setTop (mkF m 246 #[.val (.int sh), .val (.int tb), .val (.int ma), .val (.int mb), .val (.long cv), .second, .val (.long ov), .second, .val (.int (2 : Int32)), .val (.ref b81), .val (.ref b83), .val (.int ((ma &&& (2147483647 : Int32)) % (3 : Int32))), .val (.int ((mb &&& (2147483647 : Int32)) % (3 : Int32))), .val (.ref b105), .val (.int (j0_154_s0_1 tb ma)), .val (.int (1 : Int32)), .unset, .unset] [(.int ((mb &&& (2147483647 : Int32)) % (3 : Int32)))])) t → Steps p.tables e below (s₁.setTop (entryFrame m #[(.int sh), (.int tb), (.int ma), (.int mb), (.long cv), (.long ov)] maxLocals)) t := by
          intro t k
          refine pre155 _ ?_
          show Steps p.tables e below (T145.setTop (mkF m 230 #[.val (.int sh), .val (.int tb), .val (.int ma), .val (.int mb), .val (.long cv), .second, .val (.long ov), .second, .val (.int (2 : Int32)), .val (.ref b81), .val (.ref b83), .val (.int ((ma &&& (2147483647 : Int32)) % (3 : Int32))), .val (.int ((mb &&& (2147483647 : Int32)) % (3 : Int32))), .val (.ref b105), .val (.int (j0_154_s0_1 tb ma)), .val (.int (1 : Int32)), .unset, .unset] [(.int (2 : Int32)), (.int ((mb &&& (2147483647 : Int32)) % (3 : Int32)))])) _
          refine XS.icmpYes X145.here hx rfl (pc0 := 230) (pc' := 244) rfl (hb hby at_230) rfl (feq hk156).2 (by decide) (by decide) ?_
          show Steps p.tables e below (T145.setTop (mkF m 244 #[.val (.int sh), .val (.int tb), .val (.int ma), .val (.int mb), .val (.long cv), .second, .val (.long ov), .second, .val (.int (2 : Int32)), .val (.ref b81), .val (.ref b83), .val (.int ((ma &&& (2147483647 : Int32)) % (3 : Int32))), .val (.int ((mb &&& (2147483647 : Int32)) % (3 : Int32))), .val (.ref b105), .val (.int (j0_154_s0_1 tb ma)), .val (.int (1 : Int32)), .unset, .unset] [])) _
          refine XS.iload X145.here hx rfl (hb hby at_244) rfl ?_
          exact k
        have ev161 : (j0_226_s0_1 tb mb) = ((mb &&& (2147483647 : Int32)) % (3 : Int32)) := by unfold j0_226_s0_1; rw [if_neg hk156]
        exact ⟨_, _, X145, rfl, N145, fun t k => pre159 _ (by rw [ev161] at k; exact k)⟩
    obtain ⟨cq163, kq163, q163a, q163b, q163c⟩ := isOf hZ e162 f153
    obtain ⟨_, _, ⟨T163, L163, k163, n163⟩, -, X163, ⟨Lc163, hQ163, l163, y163, z163⟩, st163⟩ := X162.virtualBack hx (y := (⟨"skipstitch/search/PrefixTableScan", "matched", "()I"⟩ : MethodName)) (z := (⟨"skipstitch/search/PrefixTableScan", "matched", "()I"⟩ : MethodName)) hown (mvT hZ (hw _ (List.mem_of_getElem? (i := 31) rfl))) (mvT hZ (hw _ (List.mem_of_getElem? (i := 32) rfl))) (notFace_of_selects (args := #[]) (mvT hZ (hw _ (List.mem_of_getElem? (i := 34) rfl)))) (mvT hZ (hw _ (List.mem_of_getElem? (i := 34) rfl))) (mvT hZ (hw _ (List.mem_of_getElem? (i := 33) rfl))) (by decide) (backOf (W := 0) (rm5 l Z a0 hw [] b105 (r4k2_matched ((mb &&& (2147483647 : Int32)) % (3 : Int32)) (up (up zI 0 ((((tb.toUInt32 >>> (((8 : Int32) * (0 : Int32)) &&& 31).toUInt32).toInt32) &&& (255 : Int32)) % ((0 : Int32) + (1 : Int32)))) 1 ((((tb.toUInt32 >>> (((8 : Int32) * (1 : Int32)) &&& 31).toUInt32).toInt32) &&& (255 : Int32)) % ((1 : Int32) + (1 : Int32))))) T145.heap n0 Z145 f148) hZ (hw _ (List.mem_of_getElem? (i := 35) rfl)) (hw _ (List.mem_of_getElem? (i := 9) rfl)) (by decide) (by decide)) q163a q163c (g := (mkF m 250 #[.val (.int sh), .val (.int tb), .val (.int ma), .val (.int mb), .val (.long cv), .second, .val (.long ov), .second, .val (.int (2 : Int32)), .val (.ref b81), .val (.ref b83), .val (.int ((ma &&& (2147483647 : Int32)) % (3 : Int32))), .val (.int ((mb &&& (2147483647 : Int32)) % (3 : Int32))), .val (.ref b105), .val (.int (j0_154_s0_1 tb ma)), .val (.int (1 : Int32)), .val (.int (j0_226_s0_1 tb mb)), .unset] [(.ref b105)])) rfl (by rw [hml]; rfl) (Steps.refl _) (argsL := []) (rest := []) (lenOf pd_3 rfl) rfl (by show 2 * 0 + _ ≤ _; exact Nat.le_of_eq rfl) (hb hby at_250) (fun _ _ => ⟨rfl, e162, (by decide : 3 + 0 ≤ _), (by decide : 9 + 0 ≤ _)⟩)
    dsimp only [Pt.U, Pt.locs, Pt.cells, Pt.slots] at X163 l163 y163 z163 st163 hQ163
    subst l163 y163 z163
    obtain ⟨rfl, N163q, e163⟩ := hQ163
    have N163 := Fr.app N162 N163q
    obtain ⟨cq164, kq164, q164a, q164b, q164c⟩ := isOf hZ e163 f153
    obtain ⟨_, _, ⟨T164, L164, k164, n164⟩, -, X164, ⟨Lc164, hQ164, l164, y164, z164⟩, st164⟩ := X163.virtualBack hx (y := (⟨"skipstitch/search/PrefixTableScan", "comparisons", "()J"⟩ : MethodName)) (z := (⟨"skipstitch/search/PrefixTableScan", "comparisons", "()J"⟩ : MethodName)) hown (mvT hZ (hw _ (List.mem_of_getElem? (i := 36) rfl))) (mvT hZ (hw _ (List.mem_of_getElem? (i := 37) rfl))) (notFace_of_selects (args := #[]) (mvT hZ (hw _ (List.mem_of_getElem? (i := 39) rfl)))) (mvT hZ (hw _ (List.mem_of_getElem? (i := 39) rfl))) (mvT hZ (hw _ (List.mem_of_getElem? (i := 38) rfl))) (by decide) (backOf (W := 0) (rm6 l Z a0 hw [] b105 ov T145.heap n0 Z145 f149) hZ (hw _ (List.mem_of_getElem? (i := 40) rfl)) (hw _ (List.mem_of_getElem? (i := 9) rfl)) (by decide) (by decide)) q164a q164c (g := (mkF m 260 #[.val (.int sh), .val (.int tb), .val (.int ma), .val (.int mb), .val (.long cv), .second, .val (.long ov), .second, .val (.int (2 : Int32)), .val (.ref b81), .val (.ref b83), .val (.int ((ma &&& (2147483647 : Int32)) % (3 : Int32))), .val (.int ((mb &&& (2147483647 : Int32)) % (3 : Int32))), .val (.ref b105), .val (.int (j0_154_s0_1 tb ma)), .val (.int (1 : Int32)), .val (.int (j0_226_s0_1 tb mb)), .unset] [(.ref b105)])) rfl (by rw [hml]; rfl) (Steps.refl _) (argsL := []) (rest := []) (lenOf pd_4 rfl) rfl (by show 2 * 0 + _ ≤ _; exact Nat.le_of_eq rfl) (hb hby at_260) (fun _ _ => ⟨rfl, e163, (by decide : 3 + 0 ≤ _), (by decide : 9 + 0 ≤ _)⟩)
    dsimp only [Pt.U, Pt.locs, Pt.cells, Pt.slots] at X164 l164 y164 z164 st164 hQ164
    subst l164 y164 z164
    obtain ⟨rfl, N164q, e164⟩ := hQ164
    have N164 := Fr.app N163 N164q
    obtain ⟨cq165, kq165, q165a, q165b, q165c⟩ := isOf hZ e164 f153
    obtain ⟨_, _, ⟨T165, L165, k165, n165⟩, -, X165, ⟨Lc165, hQ165, l165, y165, z165⟩, st165⟩ := X164.virtualBack hx (y := (⟨"skipstitch/search/PrefixTableScan", "occurrences", "()J"⟩ : MethodName)) (z := (⟨"skipstitch/search/PrefixTableScan", "occurrences", "()J"⟩ : MethodName)) hown (mvT hZ (hw _ (List.mem_of_getElem? (i := 41) rfl))) (mvT hZ (hw _ (List.mem_of_getElem? (i := 42) rfl))) (notFace_of_selects (args := #[]) (mvT hZ (hw _ (List.mem_of_getElem? (i := 44) rfl)))) (mvT hZ (hw _ (List.mem_of_getElem? (i := 44) rfl))) (mvT hZ (hw _ (List.mem_of_getElem? (i := 43) rfl))) (by decide) (backOf (W := 0) (rm7 l Z a0 hw [] b105 cv T145.heap n0 Z145 f150) hZ (hw _ (List.mem_of_getElem? (i := 45) rfl)) (hw _ (List.mem_of_getElem? (i := 9) rfl)) (by decide) (by decide)) q165a q165c (g := (mkF m 271 #[.val (.int sh), .val (.int tb), .val (.int ma), .val (.int mb), .val (.long cv), .second, .val (.long ov), .second, .val (.int (2 : Int32)), .val (.ref b81), .val (.ref b83), .val (.int ((ma &&& (2147483647 : Int32)) % (3 : Int32))), .val (.int ((mb &&& (2147483647 : Int32)) % (3 : Int32))), .val (.ref b105), .val (.int (j0_154_s0_1 tb ma)), .val (.int (1 : Int32)), .val (.int (j0_226_s0_1 tb mb)), .unset] [(.ref b105)])) rfl (by rw [hml]; rfl) (Steps.refl _) (argsL := []) (rest := []) (lenOf pd_4 rfl) rfl (by show 2 * 0 + _ ≤ _; exact Nat.le_of_eq rfl) (hb hby at_271) (fun _ _ => ⟨rfl, e164, (by decide : 3 + 0 ≤ _), (by decide : 9 + 0 ≤ _)⟩)
    dsimp only [Pt.U, Pt.locs, Pt.cells, Pt.slots] at X165 l165 y165 z165 st165 hQ165
    subst l165 y165 z165
    obtain ⟨rfl, N165q, e165⟩ := hQ165
    have N165 := Fr.app N164 N165q
    obtain ⟨fs, hr, hrun, hended, hW, hsame⟩ := X165.leave (v := some (.int (1 : Int32))) (fun h => by rw [Bd.returns] at h; cases h)
    refine ⟨_, _, pre162 _ ?_, hrun, hended, _, _, rfl, ?_, ⟨_, rfl⟩, hW, hsame.mono (by decide) (by decide)⟩
    · show Steps p.tables e below (T162.setTop (mkF m 246 #[.val (.int sh), .val (.int tb), .val (.int ma), .val (.int mb), .val (.long cv), .second, .val (.long ov), .second, .val (.int (2 : Int32)), .val (.ref b81), .val (.ref b83), .val (.int ((ma &&& (2147483647 : Int32)) % (3 : Int32))), .val (.int ((mb &&& (2147483647 : Int32)) % (3 : Int32))), .val (.ref b105), .val (.int (j0_154_s0_1 tb ma)), .val (.int (1 : Int32)), .unset, .unset] [(.int (j0_226_s0_1 tb mb))])) _
      refine XS.istore X162.here hx rfl (hb hby at_246) rfl (l' := #[.val (.int sh), .val (.int tb), .val (.int ma), .val (.int mb), .val (.long cv), .second, .val (.long ov), .second, .val (.int (2 : Int32)), .val (.ref b81), .val (.ref b83), .val (.int ((ma &&& (2147483647 : Int32)) % (3 : Int32))), .val (.int ((mb &&& (2147483647 : Int32)) % (3 : Int32))), .val (.ref b105), .val (.int (j0_154_s0_1 tb ma)), .val (.int (1 : Int32)), .val (.int (j0_226_s0_1 tb mb)), .unset]) rfl ?_
      show Steps p.tables e below (T162.setTop (mkF m 248 #[.val (.int sh), .val (.int tb), .val (.int ma), .val (.int mb), .val (.long cv), .second, .val (.long ov), .second, .val (.int (2 : Int32)), .val (.ref b81), .val (.ref b83), .val (.int ((ma &&& (2147483647 : Int32)) % (3 : Int32))), .val (.int ((mb &&& (2147483647 : Int32)) % (3 : Int32))), .val (.ref b105), .val (.int (j0_154_s0_1 tb ma)), .val (.int (1 : Int32)), .val (.int (j0_226_s0_1 tb mb)), .unset] [])) _
      refine XS.aload X162.here hx rfl (hb hby at_248) rfl rfl ?_
      show Steps p.tables e below (T162.setTop (mkF m 250 #[.val (.int sh), .val (.int tb), .val (.int ma), .val (.int mb), .val (.long cv), .second, .val (.long ov), .second, .val (.int (2 : Int32)), .val (.ref b81), .val (.ref b83), .val (.int ((ma &&& (2147483647 : Int32)) % (3 : Int32))), .val (.int ((mb &&& (2147483647 : Int32)) % (3 : Int32))), .val (.ref b105), .val (.int (j0_154_s0_1 tb ma)), .val (.int (1 : Int32)), .val (.int (j0_226_s0_1 tb mb)), .unset] [(.ref b105)])) _
      refine st163.trans ?_
      show Steps p.tables e below (T163.setTop (mkF m 253 #[.val (.int sh), .val (.int tb), .val (.int ma), .val (.int mb), .val (.long cv), .second, .val (.long ov), .second, .val (.int (2 : Int32)), .val (.ref b81), .val (.ref b83), .val (.int ((ma &&& (2147483647 : Int32)) % (3 : Int32))), .val (.int ((mb &&& (2147483647 : Int32)) % (3 : Int32))), .val (.ref b105), .val (.int (j0_154_s0_1 tb ma)), .val (.int (1 : Int32)), .val (.int (j0_226_s0_1 tb mb)), .unset] [(.int (r4k2_matched ((mb &&& (2147483647 : Int32)) % (3 : Int32)) (up (up zI 0 ((((tb.toUInt32 >>> (((8 : Int32) * (0 : Int32)) &&& 31).toUInt32).toInt32) &&& (255 : Int32)) % ((0 : Int32) + (1 : Int32)))) 1 ((((tb.toUInt32 >>> (((8 : Int32) * (1 : Int32)) &&& 31).toUInt32).toInt32) &&& (255 : Int32)) % ((1 : Int32) + (1 : Int32))))))])) _
      refine XS.iload X163.here hx rfl (hb hby at_253) rfl ?_
      show Steps p.tables e below (T163.setTop (mkF m 255 #[.val (.int sh), .val (.int tb), .val (.int ma), .val (.int mb), .val (.long cv), .second, .val (.long ov), .second, .val (.int (2 : Int32)), .val (.ref b81), .val (.ref b83), .val (.int ((ma &&& (2147483647 : Int32)) % (3 : Int32))), .val (.int ((mb &&& (2147483647 : Int32)) % (3 : Int32))), .val (.ref b105), .val (.int (j0_154_s0_1 tb ma)), .val (.int (1 : Int32)), .val (.int (j0_226_s0_1 tb mb)), .unset] [(.int (j0_226_s0_1 tb mb)), (.int (r4k2_matched ((mb &&& (2147483647 : Int32)) % (3 : Int32)) (up (up zI 0 ((((tb.toUInt32 >>> (((8 : Int32) * (0 : Int32)) &&& 31).toUInt32).toInt32) &&& (255 : Int32)) % ((0 : Int32) + (1 : Int32)))) 1 ((((tb.toUInt32 >>> (((8 : Int32) * (1 : Int32)) &&& 31).toUInt32).toInt32) &&& (255 : Int32)) % ((1 : Int32) + (1 : Int32))))))])) _
      refine XS.icmpNo X163.here hx rfl (hb hby at_255) rfl (teq (rfl : ((r4k2_matched ((mb &&& (2147483647 : Int32)) % (3 : Int32)) (up (up zI 0 ((((tb.toUInt32 >>> (((8 : Int32) * (0 : Int32)) &&& 31).toUInt32).toInt32) &&& (255 : Int32)) % ((0 : Int32) + (1 : Int32)))) 1 ((((tb.toUInt32 >>> (((8 : Int32) * (1 : Int32)) &&& 31).toUInt32).toInt32) &&& (255 : Int32)) % ((1 : Int32) + (1 : Int32))))) = (j0_226_s0_1 tb mb)))).2 ?_
      show Steps p.tables e below (T163.setTop (mkF m 258 #[.val (.int sh), .val (.int tb), .val (.int ma), .val (.int mb), .val (.long cv), .second, .val (.long ov), .second, .val (.int (2 : Int32)), .val (.ref b81), .val (.ref b83), .val (.int ((ma &&& (2147483647 : Int32)) % (3 : Int32))), .val (.int ((mb &&& (2147483647 : Int32)) % (3 : Int32))), .val (.ref b105), .val (.int (j0_154_s0_1 tb ma)), .val (.int (1 : Int32)), .val (.int (j0_226_s0_1 tb mb)), .unset] [])) _
      refine XS.aload X163.here hx rfl (hb hby at_258) rfl rfl ?_
      show Steps p.tables e below (T163.setTop (mkF m 260 #[.val (.int sh), .val (.int tb), .val (.int ma), .val (.int mb), .val (.long cv), .second, .val (.long ov), .second, .val (.int (2 : Int32)), .val (.ref b81), .val (.ref b83), .val (.int ((ma &&& (2147483647 : Int32)) % (3 : Int32))), .val (.int ((mb &&& (2147483647 : Int32)) % (3 : Int32))), .val (.ref b105), .val (.int (j0_154_s0_1 tb ma)), .val (.int (1 : Int32)), .val (.int (j0_226_s0_1 tb mb)), .unset] [(.ref b105)])) _
      refine st164.trans ?_
      show Steps p.tables e below (T164.setTop (mkF m 263 #[.val (.int sh), .val (.int tb), .val (.int ma), .val (.int mb), .val (.long cv), .second, .val (.long ov), .second, .val (.int (2 : Int32)), .val (.ref b81), .val (.ref b83), .val (.int ((ma &&& (2147483647 : Int32)) % (3 : Int32))), .val (.int ((mb &&& (2147483647 : Int32)) % (3 : Int32))), .val (.ref b105), .val (.int (j0_154_s0_1 tb ma)), .val (.int (1 : Int32)), .val (.int (j0_226_s0_1 tb mb)), .unset] [(.long ov)])) _
      refine XS.lload X164.here hx rfl (hb hby at_263) rfl ?_
      show Steps p.tables e below (T164.setTop (mkF m 265 #[.val (.int sh), .val (.int tb), .val (.int ma), .val (.int mb), .val (.long cv), .second, .val (.long ov), .second, .val (.int (2 : Int32)), .val (.ref b81), .val (.ref b83), .val (.int ((ma &&& (2147483647 : Int32)) % (3 : Int32))), .val (.int ((mb &&& (2147483647 : Int32)) % (3 : Int32))), .val (.ref b105), .val (.int (j0_154_s0_1 tb ma)), .val (.int (1 : Int32)), .val (.int (j0_226_s0_1 tb mb)), .unset] [(.long ov), (.long ov)])) _
      refine XS.lcmp X164.here hx rfl (hb hby at_265) rfl ?_
      show Steps p.tables e below (T164.setTop (mkF m 266 #[.val (.int sh), .val (.int tb), .val (.int ma), .val (.int mb), .val (.long cv), .second, .val (.long ov), .second, .val (.int (2 : Int32)), .val (.ref b81), .val (.ref b83), .val (.int ((ma &&& (2147483647 : Int32)) % (3 : Int32))), .val (.int ((mb &&& (2147483647 : Int32)) % (3 : Int32))), .val (.ref b105), .val (.int (j0_154_s0_1 tb ma)), .val (.int (1 : Int32)), .val (.int (j0_226_s0_1 tb mb)), .unset] [(.int (lcmpW ov ov))])) _
      refine XS.ifNo X164.here hx rfl (hb hby at_266) rfl (own_teqL (rfl : ov = ov)).2 ?_
      show Steps p.tables e below (T164.setTop (mkF m 269 #[.val (.int sh), .val (.int tb), .val (.int ma), .val (.int mb), .val (.long cv), .second, .val (.long ov), .second, .val (.int (2 : Int32)), .val (.ref b81), .val (.ref b83), .val (.int ((ma &&& (2147483647 : Int32)) % (3 : Int32))), .val (.int ((mb &&& (2147483647 : Int32)) % (3 : Int32))), .val (.ref b105), .val (.int (j0_154_s0_1 tb ma)), .val (.int (1 : Int32)), .val (.int (j0_226_s0_1 tb mb)), .unset] [])) _
      refine XS.aload X164.here hx rfl (hb hby at_269) rfl rfl ?_
      show Steps p.tables e below (T164.setTop (mkF m 271 #[.val (.int sh), .val (.int tb), .val (.int ma), .val (.int mb), .val (.long cv), .second, .val (.long ov), .second, .val (.int (2 : Int32)), .val (.ref b81), .val (.ref b83), .val (.int ((ma &&& (2147483647 : Int32)) % (3 : Int32))), .val (.int ((mb &&& (2147483647 : Int32)) % (3 : Int32))), .val (.ref b105), .val (.int (j0_154_s0_1 tb ma)), .val (.int (1 : Int32)), .val (.int (j0_226_s0_1 tb mb)), .unset] [(.ref b105)])) _
      refine st165.trans ?_
      show Steps p.tables e below (T165.setTop (mkF m 274 #[.val (.int sh), .val (.int tb), .val (.int ma), .val (.int mb), .val (.long cv), .second, .val (.long ov), .second, .val (.int (2 : Int32)), .val (.ref b81), .val (.ref b83), .val (.int ((ma &&& (2147483647 : Int32)) % (3 : Int32))), .val (.int ((mb &&& (2147483647 : Int32)) % (3 : Int32))), .val (.ref b105), .val (.int (j0_154_s0_1 tb ma)), .val (.int (1 : Int32)), .val (.int (j0_226_s0_1 tb mb)), .unset] [(.long cv)])) _
      refine XS.lload X165.here hx rfl (hb hby at_274) rfl ?_
      show Steps p.tables e below (T165.setTop (mkF m 276 #[.val (.int sh), .val (.int tb), .val (.int ma), .val (.int mb), .val (.long cv), .second, .val (.long ov), .second, .val (.int (2 : Int32)), .val (.ref b81), .val (.ref b83), .val (.int ((ma &&& (2147483647 : Int32)) % (3 : Int32))), .val (.int ((mb &&& (2147483647 : Int32)) % (3 : Int32))), .val (.ref b105), .val (.int (j0_154_s0_1 tb ma)), .val (.int (1 : Int32)), .val (.int (j0_226_s0_1 tb mb)), .unset] [(.long cv), (.long cv)])) _
      refine XS.lcmp X165.here hx rfl (hb hby at_276) rfl ?_
      show Steps p.tables e below (T165.setTop (mkF m 277 #[.val (.int sh), .val (.int tb), .val (.int ma), .val (.int mb), .val (.long cv), .second, .val (.long ov), .second, .val (.int (2 : Int32)), .val (.ref b81), .val (.ref b83), .val (.int ((ma &&& (2147483647 : Int32)) % (3 : Int32))), .val (.int ((mb &&& (2147483647 : Int32)) % (3 : Int32))), .val (.ref b105), .val (.int (j0_154_s0_1 tb ma)), .val (.int (1 : Int32)), .val (.int (j0_226_s0_1 tb mb)), .unset] [(.int (lcmpW cv cv))])) _
      refine XS.ifNo X165.here hx rfl (hb hby at_277) rfl (own_teqL (rfl : cv = cv)).2 ?_
      show Steps p.tables e below (T165.setTop (mkF m 280 #[.val (.int sh), .val (.int tb), .val (.int ma), .val (.int mb), .val (.long cv), .second, .val (.long ov), .second, .val (.int (2 : Int32)), .val (.ref b81), .val (.ref b83), .val (.int ((ma &&& (2147483647 : Int32)) % (3 : Int32))), .val (.int ((mb &&& (2147483647 : Int32)) % (3 : Int32))), .val (.ref b105), .val (.int (j0_154_s0_1 tb ma)), .val (.int (1 : Int32)), .val (.int (j0_226_s0_1 tb mb)), .unset] [])) _
      refine XS.iconst X165.here hx rfl (hb hby at_280) ?_
      show Steps p.tables e below (T165.setTop (mkF m 281 #[.val (.int sh), .val (.int tb), .val (.int ma), .val (.int mb), .val (.long cv), .second, .val (.long ov), .second, .val (.int (2 : Int32)), .val (.ref b81), .val (.ref b83), .val (.int ((ma &&& (2147483647 : Int32)) % (3 : Int32))), .val (.int ((mb &&& (2147483647 : Int32)) % (3 : Int32))), .val (.ref b105), .val (.int (j0_154_s0_1 tb ma)), .val (.int (1 : Int32)), .val (.int (j0_226_s0_1 tb mb)), .unset] [(.int (1 : Int32))])) _
      refine XS.goto X165.here hx rfl (pc0 := 281) (pc' := 285) rfl (hb hby at_281) (by decide) (by decide) ?_
      show Steps p.tables e below (T165.setTop (mkF m 285 #[.val (.int sh), .val (.int tb), .val (.int ma), .val (.int mb), .val (.long cv), .second, .val (.long ov), .second, .val (.int (2 : Int32)), .val (.ref b81), .val (.ref b83), .val (.int ((ma &&& (2147483647 : Int32)) % (3 : Int32))), .val (.int ((mb &&& (2147483647 : Int32)) % (3 : Int32))), .val (.ref b105), .val (.int (j0_154_s0_1 tb ma)), .val (.int (1 : Int32)), .val (.int (j0_226_s0_1 tb mb)), .unset] [(.int (1 : Int32))])) _
      refine XS.istore X165.here hx rfl (hb hby at_285) rfl (l' := #[.val (.int sh), .val (.int tb), .val (.int ma), .val (.int mb), .val (.long cv), .second, .val (.long ov), .second, .val (.int (2 : Int32)), .val (.ref b81), .val (.ref b83), .val (.int ((ma &&& (2147483647 : Int32)) % (3 : Int32))), .val (.int ((mb &&& (2147483647 : Int32)) % (3 : Int32))), .val (.ref b105), .val (.int (j0_154_s0_1 tb ma)), .val (.int (1 : Int32)), .val (.int (j0_226_s0_1 tb mb)), .val (.int (1 : Int32))]) rfl ?_
      show Steps p.tables e below (T165.setTop (mkF m 287 #[.val (.int sh), .val (.int tb), .val (.int ma), .val (.int mb), .val (.long cv), .second, .val (.long ov), .second, .val (.int (2 : Int32)), .val (.ref b81), .val (.ref b83), .val (.int ((ma &&& (2147483647 : Int32)) % (3 : Int32))), .val (.int ((mb &&& (2147483647 : Int32)) % (3 : Int32))), .val (.ref b105), .val (.int (j0_154_s0_1 tb ma)), .val (.int (1 : Int32)), .val (.int (j0_226_s0_1 tb mb)), .val (.int (1 : Int32))] [])) _
      refine XS.iload X165.here hx rfl (hb hby at_287) rfl ?_
      show Steps p.tables e below (T165.setTop (mkF m 289 #[.val (.int sh), .val (.int tb), .val (.int ma), .val (.int mb), .val (.long cv), .second, .val (.long ov), .second, .val (.int (2 : Int32)), .val (.ref b81), .val (.ref b83), .val (.int ((ma &&& (2147483647 : Int32)) % (3 : Int32))), .val (.int ((mb &&& (2147483647 : Int32)) % (3 : Int32))), .val (.ref b105), .val (.int (j0_154_s0_1 tb ma)), .val (.int (1 : Int32)), .val (.int (j0_226_s0_1 tb mb)), .val (.int (1 : Int32))] [(.int (1 : Int32))])) _
      refine XS.ifNo X165.here hx rfl (hb hby at_289) rfl ((if0 _ _).trans (feq (by decide : ¬ ((1 : Int32) = (0 : Int32)))).1) ?_
      show Steps p.tables e below (T165.setTop (mkF m 292 #[.val (.int sh), .val (.int tb), .val (.int ma), .val (.int mb), .val (.long cv), .second, .val (.long ov), .second, .val (.int (2 : Int32)), .val (.ref b81), .val (.ref b83), .val (.int ((ma &&& (2147483647 : Int32)) % (3 : Int32))), .val (.int ((mb &&& (2147483647 : Int32)) % (3 : Int32))), .val (.ref b105), .val (.int (j0_154_s0_1 tb ma)), .val (.int (1 : Int32)), .val (.int (j0_226_s0_1 tb mb)), .val (.int (1 : Int32))] [])) _
      refine XS.iload X165.here hx rfl (hb hby at_292) rfl ?_
      show Steps p.tables e below (T165.setTop (mkF m 294 #[.val (.int sh), .val (.int tb), .val (.int ma), .val (.int mb), .val (.long cv), .second, .val (.long ov), .second, .val (.int (2 : Int32)), .val (.ref b81), .val (.ref b83), .val (.int ((ma &&& (2147483647 : Int32)) % (3 : Int32))), .val (.int ((mb &&& (2147483647 : Int32)) % (3 : Int32))), .val (.ref b105), .val (.int (j0_154_s0_1 tb ma)), .val (.int (1 : Int32)), .val (.int (j0_226_s0_1 tb mb)), .val (.int (1 : Int32))] [(.int (1 : Int32))])) _
      refine XS.ifNo X165.here hx rfl (hb hby at_294) rfl ((if0 _ _).trans (feq (by decide : ¬ ((1 : Int32) = (0 : Int32)))).1) ?_
      show Steps p.tables e below (T165.setTop (mkF m 297 #[.val (.int sh), .val (.int tb), .val (.int ma), .val (.int mb), .val (.long cv), .second, .val (.long ov), .second, .val (.int (2 : Int32)), .val (.ref b81), .val (.ref b83), .val (.int ((ma &&& (2147483647 : Int32)) % (3 : Int32))), .val (.int ((mb &&& (2147483647 : Int32)) % (3 : Int32))), .val (.ref b105), .val (.int (j0_154_s0_1 tb ma)), .val (.int (1 : Int32)), .val (.int (j0_226_s0_1 tb mb)), .val (.int (1 : Int32))] [])) _
      refine XS.iconst X165.here hx rfl (hb hby at_297) ?_
      show Steps p.tables e below (T165.setTop (mkF m 298 #[.val (.int sh), .val (.int tb), .val (.int ma), .val (.int mb), .val (.long cv), .second, .val (.long ov), .second, .val (.int (2 : Int32)), .val (.ref b81), .val (.ref b83), .val (.int ((ma &&& (2147483647 : Int32)) % (3 : Int32))), .val (.int ((mb &&& (2147483647 : Int32)) % (3 : Int32))), .val (.ref b105), .val (.int (j0_154_s0_1 tb ma)), .val (.int (1 : Int32)), .val (.int (j0_226_s0_1 tb mb)), .val (.int (1 : Int32))] [(.int (1 : Int32))])) _
      refine XS.goto X165.here hx rfl (pc0 := 298) (pc' := 302) rfl (hb hby at_298) (by decide) (by decide) ?_
      show Steps p.tables e below (T165.setTop (mkF m 302 #[.val (.int sh), .val (.int tb), .val (.int ma), .val (.int mb), .val (.long cv), .second, .val (.long ov), .second, .val (.int (2 : Int32)), .val (.ref b81), .val (.ref b83), .val (.int ((ma &&& (2147483647 : Int32)) % (3 : Int32))), .val (.int ((mb &&& (2147483647 : Int32)) % (3 : Int32))), .val (.ref b105), .val (.int (j0_154_s0_1 tb ma)), .val (.int (1 : Int32)), .val (.int (j0_226_s0_1 tb mb)), .val (.int (1 : Int32))] [(.int (1 : Int32))])) _
      exact retN X165 hx (t := .boolean) Bd.returns (by simp) (hb hby at_302) hr
    · show Q0 Z sh tb ma mb cv ov h0 n0 _ T165.heap _
      rw [e165]
      exact ⟨rfl, N165⟩
  · have pre166 : ∀ t, Steps p.tables e below (s₁.setTop (mkF m 5 #[.val (.int sh), .val (.int tb), .val (.int ma), .val (.int mb), .val (.long cv), .second, .val (.long ov), .second, .unset, .unset, .unset, .unset, .unset, .unset, .unset, .unset, .unset, .unset] [(.int (3 : Int32))])) t → Steps p.tables e below (s₁.setTop (entryFrame m #[(.int sh), (.int tb), (.int ma), (.int mb), (.long cv), (.long ov)] maxLocals)) t := by
      intro t k
      refine pre1 _ ?_
      rw [hk2]
      exact k
    obtain ⟨T167, h167, k167, X167, e167, E167, A167, st167⟩ := newP X0 hx hZ (hw _ (List.mem_of_getElem? (i := 0) rfl)) e0 (g := (mkF m 9 #[.val (.int sh), .val (.int tb), .val (.int ma), .val (.int mb), .val (.long cv), .second, .val (.long ov), .second, .val (.int (3 : Int32)), .unset, .unset, .unset, .unset, .unset, .unset, .unset, .unset, .unset] [(.int (3 : Int32))])) rfl (hb hby at_9) rfl (by decide) (cap := 3) (by decide) (by decide) (by decide) (by decide)
    obtain ⟨b167, g167⟩ : ∃ z, z = h0.size := ⟨_, rfl⟩
    rw [← g167] at A167 st167
    have gg167 : n0 ≤ b167 := Nat.le_trans Z0 (Nat.le_of_eq g167.symm)
    have Z167 : n0 ≤ h167.size := Nat.le_trans Z0 E167.1
    have f168 : AI Z h167 b167 .byte 3 zI := AF.new A167 (by decide)
    obtain ⟨T169, h169, k169, X169, e169, E169, A169, st169⟩ := newP X167 hx hZ (hw _ (List.mem_of_getElem? (i := 1) rfl)) e167 (g := (mkF m 15 #[.val (.int sh), .val (.int tb), .val (.int ma), .val (.int mb), .val (.long cv), .second, .val (.long ov), .second, .val (.int (3 : Int32)), .val (.ref b167), .unset, .unset, .unset, .unset, .unset, .unset, .unset, .unset] [(.int (3 : Int32))])) rfl (hb hby at_15) rfl (by decide) (cap := 3) (by decide) (by decide) (by decide) (by decide)
    obtain ⟨b169, g169⟩ : ∃ z, z = h167.size := ⟨_, rfl⟩
    rw [← g169] at A169 st169
    have ne170 : b167 ≠ b169 := Nat.ne_of_lt (Nat.lt_of_lt_of_le f168.lt (Nat.le_of_eq g169.symm))
    have gg169 : n0 ≤ b169 := Nat.le_trans Z167 (Nat.le_of_eq g169.symm)
    have f171 : AI Z h169 b167 .byte 3 zI := f168.ext E169
    have Z169 : n0 ≤ h169.size := Nat.le_trans Z167 E169.1
    have f172 : AI Z h169 b169 .int 3 zI := AF.new A169 (by decide)
    obtain ⟨cl173, Arcl173, hincl173, -⟩ := AF.at f171 (j := (0 : Int32)) 0 (by decide) (by decide)
    obtain ⟨T174, h174, X174, e174, W174, st174⟩ := stB X169 hx hZ e169 Arcl173 (j := (0 : Int32)) hincl173 (g := (mkF m 26 #[.val (.int sh), .val (.int tb), .val (.int ma), .val (.int mb), .val (.long cv), .second, .val (.long ov), .second, .val (.int (3 : Int32)), .val (.ref b167), .val (.ref b169), .unset, .unset, .unset, .unset, .unset, .unset, .unset] [(.int ((sh >>> ((2 : Int32) &&& 31)).toInt8.toInt32)), (.int (0 : Int32)), (.ref b167)])) rfl rfl (hb hby at_26)
    rw [own_nb] at W174
    have N174 := Fr.snoc X174 N0 gg167
    have Z174 : n0 ≤ h174.size := Nat.le_trans Z169 (Keep.of_wr W174).1
    have f175 : AI Z h174 b167 .byte 3 (up zI 0 ((sh >>> ((2 : Int32) &&& 31)).toInt8.toInt32)) := AF.setI f171 W174 0 (by decide)
    have f176 : AI Z h174 b169 .int 3 zI := f172.other W174 (Ne.symm ne170)
    obtain ⟨_, _, ⟨T177, L177, k177, n177⟩, -, X177, ⟨Lc177, hQ177, l177, y177, z177⟩, st177⟩ := Jvm.LawKit.callS X174 hx (y := (⟨"skipstitch/search/PrefixTableScanResumePinLaw", "entry", "(II)I"⟩ : MethodName)) hown (mvT hZ (hw _ (List.mem_of_getElem? (i := 2) rfl))) (mvT hZ (hw _ (List.mem_of_getElem? (i := 3) rfl))) (mvT hZ (hw _ (List.mem_of_getElem? (i := 4) rfl))) (mvT hZ (hw _ (List.mem_of_getElem? (i := 5) rfl))) (by decide) (backOf (W := 2) (rm1 l Z a0 hw [] tb (0 : Int32) h174 n0 Z174 (by decide)) hZ (hw _ (List.mem_of_getElem? (i := 5) rfl)) (hw _ (List.mem_of_getElem? (i := 4) rfl)) (by decide) (by decide)) (g := (mkF m 32 #[.val (.int sh), .val (.int tb), .val (.int ma), .val (.int mb), .val (.long cv), .second, .val (.long ov), .second, .val (.int (3 : Int32)), .val (.ref b167), .val (.ref b169), .unset, .unset, .unset, .unset, .unset, .unset, .unset] [(.int (0 : Int32)), (.int tb), (.int (0 : Int32)), (.ref b169)])) rfl (by rw [hml]; rfl) (argsL := [(.int tb), (.int (0 : Int32))]) (rest := [(.int (0 : Int32)), (.ref b169)]) (lenOf pd_0 rfl) rfl (by show 2 * 0 + _ ≤ _; exact Nat.le_of_eq rfl) (hb hby at_32) (fun _ _ => ⟨rfl, e174, (by decide : 2 + 0 ≤ _), (by decide : 6 + 0 ≤ _)⟩)
    dsimp only [Pt.U, Pt.locs, Pt.cells, Pt.slots] at X177 l177 y177 z177 st177 hQ177
    subst l177 y177 z177
    obtain ⟨rfl, N177q, e177⟩ := hQ177
    have N177 := Fr.app N174 N177q
    obtain ⟨cl178, Arcl178, hincl178, -⟩ := AF.at f176 (j := (0 : Int32)) 0 (by decide) (by decide)
    obtain ⟨T179, h179, X179, e179, W179, st179⟩ := stI X177 hx hZ e177 Arcl178 (j := (0 : Int32)) hincl178 (g := (mkF m 35 #[.val (.int sh), .val (.int tb), .val (.int ma), .val (.int mb), .val (.long cv), .second, .val (.long ov), .second, .val (.int (3 : Int32)), .val (.ref b167), .val (.ref b169), .unset, .unset, .unset, .unset, .unset, .unset, .unset] [(.int ((((tb.toUInt32 >>> (((8 : Int32) * (0 : Int32)) &&& 31).toUInt32).toInt32) &&& (255 : Int32)) % ((0 : Int32) + (1 : Int32)))), (.int (0 : Int32)), (.ref b169)])) rfl rfl (hb hby at_35)
    have N179 := Fr.snoc X179 N177 gg169
    have Z179 : n0 ≤ h179.size := Nat.le_trans Z174 (Keep.of_wr W179).1
    have f180 : AI Z h179 b169 .int 3 (up zI 0 ((((tb.toUInt32 >>> (((8 : Int32) * (0 : Int32)) &&& 31).toUInt32).toInt32) &&& (255 : Int32)) % ((0 : Int32) + (1 : Int32)))) := AF.setI f176 W179 0 (by decide)
    have f181 : AI Z h179 b167 .byte 3 (up zI 0 ((sh >>> ((2 : Int32) &&& 31)).toInt8.toInt32)) := f175.other W179 ne170
    obtain ⟨cl182, Arcl182, hincl182, -⟩ := AF.at f181 (j := (1 : Int32)) 1 (by decide) (by decide)
    obtain ⟨T183, h183, X183, e183, W183, st183⟩ := stB X179 hx hZ e179 Arcl182 (j := (1 : Int32)) hincl182 (g := (mkF m 50 #[.val (.int sh), .val (.int tb), .val (.int ma), .val (.int mb), .val (.long cv), .second, .val (.long ov), .second, .val (.int (3 : Int32)), .val (.ref b167), .val (.ref b169), .unset, .unset, .unset, .unset, .unset, .unset, .unset] [(.int ((sh >>> ((10 : Int32) &&& 31)).toInt8.toInt32)), (.int (1 : Int32)), (.ref b167)])) rfl rfl (hb hby at_50)
    rw [own_nb] at W183
    have N183 := Fr.snoc X183 N179 gg167
    have Z183 : n0 ≤ h183.size := Nat.le_trans Z179 (Keep.of_wr W183).1
    have f184 : AI Z h183 b167 .byte 3 (up (up zI 0 ((sh >>> ((2 : Int32) &&& 31)).toInt8.toInt32)) 1 ((sh >>> ((10 : Int32) &&& 31)).toInt8.toInt32)) := AF.setI f181 W183 1 (by decide)
    have f185 : AI Z h183 b169 .int 3 (up zI 0 ((((tb.toUInt32 >>> (((8 : Int32) * (0 : Int32)) &&& 31).toUInt32).toInt32) &&& (255 : Int32)) % ((0 : Int32) + (1 : Int32)))) := f180.other W183 (Ne.symm ne170)
    obtain ⟨_, _, ⟨T186, L186, k186, n186⟩, -, X186, ⟨Lc186, hQ186, l186, y186, z186⟩, st186⟩ := Jvm.LawKit.callS X183 hx (y := (⟨"skipstitch/search/PrefixTableScanResumePinLaw", "entry", "(II)I"⟩ : MethodName)) hown (mvT hZ (hw _ (List.mem_of_getElem? (i := 2) rfl))) (mvT hZ (hw _ (List.mem_of_getElem? (i := 3) rfl))) (mvT hZ (hw _ (List.mem_of_getElem? (i := 4) rfl))) (mvT hZ (hw _ (List.mem_of_getElem? (i := 5) rfl))) (by decide) (backOf (W := 2) (rm1 l Z a0 hw [] tb (1 : Int32) h183 n0 Z183 (by decide)) hZ (hw _ (List.mem_of_getElem? (i := 5) rfl)) (hw _ (List.mem_of_getElem? (i := 4) rfl)) (by decide) (by decide)) (g := (mkF m 56 #[.val (.int sh), .val (.int tb), .val (.int ma), .val (.int mb), .val (.long cv), .second, .val (.long ov), .second, .val (.int (3 : Int32)), .val (.ref b167), .val (.ref b169), .unset, .unset, .unset, .unset, .unset, .unset, .unset] [(.int (1 : Int32)), (.int tb), (.int (1 : Int32)), (.ref b169)])) rfl (by rw [hml]; rfl) (argsL := [(.int tb), (.int (1 : Int32))]) (rest := [(.int (1 : Int32)), (.ref b169)]) (lenOf pd_0 rfl) rfl (by show 2 * 0 + _ ≤ _; exact Nat.le_of_eq rfl) (hb hby at_56) (fun _ _ => ⟨rfl, e183, (by decide : 2 + 0 ≤ _), (by decide : 6 + 0 ≤ _)⟩)
    dsimp only [Pt.U, Pt.locs, Pt.cells, Pt.slots] at X186 l186 y186 z186 st186 hQ186
    subst l186 y186 z186
    obtain ⟨rfl, N186q, e186⟩ := hQ186
    have N186 := Fr.app N183 N186q
    obtain ⟨cl187, Arcl187, hincl187, -⟩ := AF.at f185 (j := (1 : Int32)) 1 (by decide) (by decide)
    obtain ⟨T188, h188, X188, e188, W188, st188⟩ := stI X186 hx hZ e186 Arcl187 (j := (1 : Int32)) hincl187 (g := (mkF m 59 #[.val (.int sh), .val (.int tb), .val (.int ma), .val (.int mb), .val (.long cv), .second, .val (.long ov), .second, .val (.int (3 : Int32)), .val (.ref b167), .val (.ref b169), .unset, .unset, .unset, .unset, .unset, .unset, .unset] [(.int ((((tb.toUInt32 >>> (((8 : Int32) * (1 : Int32)) &&& 31).toUInt32).toInt32) &&& (255 : Int32)) % ((1 : Int32) + (1 : Int32)))), (.int (1 : Int32)), (.ref b169)])) rfl rfl (hb hby at_59)
    have N188 := Fr.snoc X188 N186 gg169
    have Z188 : n0 ≤ h188.size := Nat.le_trans Z183 (Keep.of_wr W188).1
    have f189 : AI Z h188 b169 .int 3 (up (up zI 0 ((((tb.toUInt32 >>> (((8 : Int32) * (0 : Int32)) &&& 31).toUInt32).toInt32) &&& (255 : Int32)) % ((0 : Int32) + (1 : Int32)))) 1 ((((tb.toUInt32 >>> (((8 : Int32) * (1 : Int32)) &&& 31).toUInt32).toInt32) &&& (255 : Int32)) % ((1 : Int32) + (1 : Int32)))) := AF.setI f185 W188 1 (by decide)
    have f190 : AI Z h188 b167 .byte 3 (up (up zI 0 ((sh >>> ((2 : Int32) &&& 31)).toInt8.toInt32)) 1 ((sh >>> ((10 : Int32) &&& 31)).toInt8.toInt32)) := f184.other W188 ne170
    obtain ⟨cl191, Arcl191, hincl191, -⟩ := AF.at f190 (j := (2 : Int32)) 2 (by decide) (by decide)
    obtain ⟨T192, h192, X192, e192, W192, st192⟩ := stB X188 hx hZ e188 Arcl191 (j := (2 : Int32)) hincl191 (g := (mkF m 74 #[.val (.int sh), .val (.int tb), .val (.int ma), .val (.int mb), .val (.long cv), .second, .val (.long ov), .second, .val (.int (3 : Int32)), .val (.ref b167), .val (.ref b169), .unset, .unset, .unset, .unset, .unset, .unset, .unset] [(.int ((sh >>> ((18 : Int32) &&& 31)).toInt8.toInt32)), (.int (2 : Int32)), (.ref b167)])) rfl rfl (hb hby at_74)
    rw [own_nb] at W192
    have N192 := Fr.snoc X192 N188 gg167
    have Z192 : n0 ≤ h192.size := Nat.le_trans Z188 (Keep.of_wr W192).1
    have f193 : AI Z h192 b167 .byte 3 (up (up (up zI 0 ((sh >>> ((2 : Int32) &&& 31)).toInt8.toInt32)) 1 ((sh >>> ((10 : Int32) &&& 31)).toInt8.toInt32)) 2 ((sh >>> ((18 : Int32) &&& 31)).toInt8.toInt32)) := AF.setI f190 W192 2 (by decide)
    have f194 : AI Z h192 b169 .int 3 (up (up zI 0 ((((tb.toUInt32 >>> (((8 : Int32) * (0 : Int32)) &&& 31).toUInt32).toInt32) &&& (255 : Int32)) % ((0 : Int32) + (1 : Int32)))) 1 ((((tb.toUInt32 >>> (((8 : Int32) * (1 : Int32)) &&& 31).toUInt32).toInt32) &&& (255 : Int32)) % ((1 : Int32) + (1 : Int32)))) := f189.other W192 (Ne.symm ne170)
    obtain ⟨_, _, ⟨T195, L195, k195, n195⟩, -, X195, ⟨Lc195, hQ195, l195, y195, z195⟩, st195⟩ := Jvm.LawKit.callS X192 hx (y := (⟨"skipstitch/search/PrefixTableScanResumePinLaw", "entry", "(II)I"⟩ : MethodName)) hown (mvT hZ (hw _ (List.mem_of_getElem? (i := 2) rfl))) (mvT hZ (hw _ (List.mem_of_getElem? (i := 3) rfl))) (mvT hZ (hw _ (List.mem_of_getElem? (i := 4) rfl))) (mvT hZ (hw _ (List.mem_of_getElem? (i := 5) rfl))) (by decide) (backOf (W := 2) (rm1 l Z a0 hw [] tb (2 : Int32) h192 n0 Z192 (by decide)) hZ (hw _ (List.mem_of_getElem? (i := 5) rfl)) (hw _ (List.mem_of_getElem? (i := 4) rfl)) (by decide) (by decide)) (g := (mkF m 80 #[.val (.int sh), .val (.int tb), .val (.int ma), .val (.int mb), .val (.long cv), .second, .val (.long ov), .second, .val (.int (3 : Int32)), .val (.ref b167), .val (.ref b169), .unset, .unset, .unset, .unset, .unset, .unset, .unset] [(.int (2 : Int32)), (.int tb), (.int (2 : Int32)), (.ref b169)])) rfl (by rw [hml]; rfl) (argsL := [(.int tb), (.int (2 : Int32))]) (rest := [(.int (2 : Int32)), (.ref b169)]) (lenOf pd_0 rfl) rfl (by show 2 * 0 + _ ≤ _; exact Nat.le_of_eq rfl) (hb hby at_80) (fun _ _ => ⟨rfl, e192, (by decide : 2 + 0 ≤ _), (by decide : 6 + 0 ≤ _)⟩)
    dsimp only [Pt.U, Pt.locs, Pt.cells, Pt.slots] at X195 l195 y195 z195 st195 hQ195
    subst l195 y195 z195
    obtain ⟨rfl, N195q, e195⟩ := hQ195
    have N195 := Fr.app N192 N195q
    obtain ⟨cl196, Arcl196, hincl196, -⟩ := AF.at f194 (j := (2 : Int32)) 2 (by decide) (by decide)
    obtain ⟨T197, h197, X197, e197, W197, st197⟩ := stI X195 hx hZ e195 Arcl196 (j := (2 : Int32)) hincl196 (g := (mkF m 83 #[.val (.int sh), .val (.int tb), .val (.int ma), .val (.int mb), .val (.long cv), .second, .val (.long ov), .second, .val (.int (3 : Int32)), .val (.ref b167), .val (.ref b169), .unset, .unset, .unset, .unset, .unset, .unset, .unset] [(.int ((((tb.toUInt32 >>> (((8 : Int32) * (2 : Int32)) &&& 31).toUInt32).toInt32) &&& (255 : Int32)) % ((2 : Int32) + (1 : Int32)))), (.int (2 : Int32)), (.ref b169)])) rfl rfl (hb hby at_83)
    have N197 := Fr.snoc X197 N195 gg169
    have Z197 : n0 ≤ h197.size := Nat.le_trans Z192 (Keep.of_wr W197).1
    have f198 : AI Z h197 b169 .int 3 (up (up (up zI 0 ((((tb.toUInt32 >>> (((8 : Int32) * (0 : Int32)) &&& 31).toUInt32).toInt32) &&& (255 : Int32)) % ((0 : Int32) + (1 : Int32)))) 1 ((((tb.toUInt32 >>> (((8 : Int32) * (1 : Int32)) &&& 31).toUInt32).toInt32) &&& (255 : Int32)) % ((1 : Int32) + (1 : Int32)))) 2 ((((tb.toUInt32 >>> (((8 : Int32) * (2 : Int32)) &&& 31).toUInt32).toInt32) &&& (255 : Int32)) % ((2 : Int32) + (1 : Int32)))) := AF.setI f194 W197 2 (by decide)
    have f199 : AI Z h197 b167 .byte 3 (up (up (up zI 0 ((sh >>> ((2 : Int32) &&& 31)).toInt8.toInt32)) 1 ((sh >>> ((10 : Int32) &&& 31)).toInt8.toInt32)) 2 ((sh >>> ((18 : Int32) &&& 31)).toInt8.toInt32)) := f193.other W197 ne170
    obtain ⟨T200, h200, X200, e200, E200, A200, D200, -, st200⟩ := newO X197 hx hZ hown (hw _ (List.mem_of_getElem? (i := 7) rfl)) (hw _ (List.mem_of_getElem? (i := 8) rfl)) (hw _ (List.mem_of_getElem? (i := 9) rfl)) e197 (g := (mkF m 130 #[.val (.int sh), .val (.int tb), .val (.int ma), .val (.int mb), .val (.long cv), .second, .val (.long ov), .second, .val (.int (3 : Int32)), .val (.ref b167), .val (.ref b169), .val (.int ((ma &&& (2147483647 : Int32)) % (4 : Int32))), .val (.int ((mb &&& (2147483647 : Int32)) % (4 : Int32))), .unset, .unset, .unset, .unset, .unset] [])) rfl (hb hby at_130) (by decide) (by decide)
    obtain ⟨b200, g200⟩ : ∃ z, z = h197.size := ⟨_, rfl⟩
    rw [← g200] at A200 D200 st200
    have ne201 : b167 ≠ b200 := Nat.ne_of_lt (Nat.lt_of_lt_of_le f199.lt (Nat.le_of_eq g200.symm))
    have ne202 : b169 ≠ b200 := Nat.ne_of_lt (Nat.lt_of_lt_of_le f198.lt (Nat.le_of_eq g200.symm))
    have gg200 : n0 ≤ b200 := Nat.le_trans Z197 (Nat.le_of_eq g200.symm)
    have f203 : AI Z h200 b167 .byte 3 (up (up (up zI 0 ((sh >>> ((2 : Int32) &&& 31)).toInt8.toInt32)) 1 ((sh >>> ((10 : Int32) &&& 31)).toInt8.toInt32)) 2 ((sh >>> ((18 : Int32) &&& 31)).toInt8.toInt32)) := f199.ext E200
    have f204 : AI Z h200 b169 .int 3 (up (up (up zI 0 ((((tb.toUInt32 >>> (((8 : Int32) * (0 : Int32)) &&& 31).toUInt32).toInt32) &&& (255 : Int32)) % ((0 : Int32) + (1 : Int32)))) 1 ((((tb.toUInt32 >>> (((8 : Int32) * (1 : Int32)) &&& 31).toUInt32).toInt32) &&& (255 : Int32)) % ((1 : Int32) + (1 : Int32)))) 2 ((((tb.toUInt32 >>> (((8 : Int32) * (2 : Int32)) &&& 31).toUInt32).toInt32) &&& (255 : Int32)) % ((2 : Int32) + (1 : Int32)))) := f198.ext E200
    have Z200 : n0 ≤ h200.size := Nat.le_trans Z197 E200.1
    have f205 : Fld Z h200 b200 "skipstitch/search/PrefixTableScan" "pattern" "[B" .null := D200 (Or.inr (hw _ (List.mem_of_getElem? (i := 17) rfl))) (ty := (.array .byte)) (by decide)
    have f206 : Fld Z h200 b200 "skipstitch/search/PrefixTableScan" "table" "[I" .null := D200 (Or.inr (hw _ (List.mem_of_getElem? (i := 19) rfl))) (ty := (.array .int)) (by decide)
    have f207 : Fld Z h200 b200 "skipstitch/search/PrefixTableScan" "matched" "I" (.int (0 : Int32)) := D200 (Or.inl (hw _ (List.mem_of_getElem? (i := 26) rfl))) (ty := .int) (by decide)
    have f208 : Fld Z h200 b200 "skipstitch/search/PrefixTableScan" "comparisons" "J" (.long (0 : Int64)) := D200 (Or.inl (hw _ (List.mem_of_getElem? (i := 28) rfl))) (ty := .long) (by decide)
    have f209 : Fld Z h200 b200 "skipstitch/search/PrefixTableScan" "occurrences" "J" (.long (0 : Int64)) := D200 (Or.inl (hw _ (List.mem_of_getElem? (i := 30) rfl))) (ty := .long) (by decide)
    obtain ⟨_, _, ⟨T210, L210, k210, n210⟩, -, X210, ⟨Lc210, hQ210, l210, y210, z210⟩, st210⟩ := X200.specialBack hx (y := (⟨"skipstitch/search/PrefixTableScan", "<init>", "([B[I)V"⟩ : MethodName)) rfl hown (mvT hZ (hw _ (List.mem_of_getElem? (i := 10) rfl))) (mvT hZ (hw _ (List.mem_of_getElem? (i := 11) rfl))) (mvT hZ (hw _ (List.mem_of_getElem? (i := 12) rfl))) (by decide) (backOf (W := 1) (rm2 l Z a0 hw [] b200 b167 b169 h200 n0 Z200 A200 f205 f206 gg200 f207 f208 f209) hZ (hw _ (List.mem_of_getElem? (i := 12) rfl)) (hw _ (List.mem_of_getElem? (i := 9) rfl)) (by decide) (by decide)) (g := (mkF m 138 #[.val (.int sh), .val (.int tb), .val (.int ma), .val (.int mb), .val (.long cv), .second, .val (.long ov), .second, .val (.int (3 : Int32)), .val (.ref b167), .val (.ref b169), .val (.int ((ma &&& (2147483647 : Int32)) % (4 : Int32))), .val (.int ((mb &&& (2147483647 : Int32)) % (4 : Int32))), .unset, .unset, .unset, .unset, .unset] [(.ref b169), (.ref b167), (.ref b200), (.ref b200)])) rfl (by rw [hml]; rfl) (Steps.refl _) (a := b200) (argsL := [(.ref b167), (.ref b169)]) (rest := [(.ref b200)]) (lenOf pd_1 rfl) rfl (by show 2 * 0 + _ ≤ _; exact Nat.le_of_eq rfl) (hb hby at_138) (fun _ _ => ⟨rfl, e200, (by decide : 3 + 0 ≤ _), (by decide : 11 + 0 ≤ _)⟩)
    dsimp only [Pt.U, Pt.locs, Pt.cells, Pt.slots] at X210 l210 y210 z210 st210 hQ210
    subst l210 y210 z210
    obtain ⟨rfl, N210q, K210c, f211, f212, f213, f214, f215⟩ := hQ210
    have N210 := Fr.app N197 N210q
    have f216 : AI Z T210.heap b167 .byte 3 (up (up (up zI 0 ((sh >>> ((2 : Int32) &&& 31)).toInt8.toInt32)) 1 ((sh >>> ((10 : Int32) &&& 31)).toInt8.toInt32)) 2 ((sh >>> ((18 : Int32) &&& 31)).toInt8.toInt32)) := f203.keep K210c (ninS ne201 nin0)
    have f217 : AI Z T210.heap b169 .int 3 (up (up (up zI 0 ((((tb.toUInt32 >>> (((8 : Int32) * (0 : Int32)) &&& 31).toUInt32).toInt32) &&& (255 : Int32)) % ((0 : Int32) + (1 : Int32)))) 1 ((((tb.toUInt32 >>> (((8 : Int32) * (1 : Int32)) &&& 31).toUInt32).toInt32) &&& (255 : Int32)) % ((1 : Int32) + (1 : Int32)))) 2 ((((tb.toUInt32 >>> (((8 : Int32) * (2 : Int32)) &&& 31).toUInt32).toInt32) &&& (255 : Int32)) % ((2 : Int32) + (1 : Int32)))) := f204.keep K210c (ninS ne202 nin0)
    have f218 : Exa Z T210.heap b200 "skipstitch/search/PrefixTableScan" := A200.keep K210c
    have Z210 : n0 ≤ T210.heap.size := Nat.le_trans Z200 K210c.1
    obtain ⟨cq219, kq219, q219a, q219b, q219c⟩ := isOf hZ rfl f218
    obtain ⟨_, _, ⟨T219, L219, k219, n219⟩, -, X219, ⟨Lc219, hQ219, l219, y219, z219⟩, st219⟩ := X210.virtualBack hx (y := (⟨"skipstitch/search/PrefixTableScan", "resume", "(IJJ)V"⟩ : MethodName)) (z := (⟨"skipstitch/search/PrefixTableScan", "resume", "(IJJ)V"⟩ : MethodName)) hown (mvT hZ (hw _ (List.mem_of_getElem? (i := 20) rfl))) (mvT hZ (hw _ (List.mem_of_getElem? (i := 21) rfl))) (notFace_of_selects (args := #[]) (mvT hZ (hw _ (List.mem_of_getElem? (i := 23) rfl)))) (mvT hZ (hw _ (List.mem_of_getElem? (i := 23) rfl))) (mvT hZ (hw _ (List.mem_of_getElem? (i := 22) rfl))) (by decide) (backOf (W := 0) (rm4k3 l Z a0 hw [] b200 ((ma &&& (2147483647 : Int32)) % (4 : Int32)) cv ov b167 b169 (up (up (up zI 0 ((sh >>> ((2 : Int32) &&& 31)).toInt8.toInt32)) 1 ((sh >>> ((10 : Int32) &&& 31)).toInt8.toInt32)) 2 ((sh >>> ((18 : Int32) &&& 31)).toInt8.toInt32)) (up (up (up zI 0 ((((tb.toUInt32 >>> (((8 : Int32) * (0 : Int32)) &&& 31).toUInt32).toInt32) &&& (255 : Int32)) % ((0 : Int32) + (1 : Int32)))) 1 ((((tb.toUInt32 >>> (((8 : Int32) * (1 : Int32)) &&& 31).toUInt32).toInt32) &&& (255 : Int32)) % ((1 : Int32) + (1 : Int32)))) 2 ((((tb.toUInt32 >>> (((8 : Int32) * (2 : Int32)) &&& 31).toUInt32).toInt32) &&& (255 : Int32)) % ((2 : Int32) + (1 : Int32)))) (0 : Int32) (0 : Int64) (0 : Int64) T210.heap n0 Z210 f218 f211 f212 f216 f217 (Ne.symm ne201) (Ne.symm ne202) f213 f214 f215 gg200) hZ (hw _ (List.mem_of_getElem? (i := 24) rfl)) (hw _ (List.mem_of_getElem? (i := 9) rfl)) (by decide) (by decide)) q219a q219c (g := (mkF m 151 #[.val (.int sh), .val (.int tb), .val (.int ma), .val (.int mb), .val (.long cv), .second, .val (.long ov), .second, .val (.int (3 : Int32)), .val (.ref b167), .val (.ref b169), .val (.int ((ma &&& (2147483647 : Int32)) % (4 : Int32))), .val (.int ((mb &&& (2147483647 : Int32)) % (4 : Int32))), .val (.ref b200), .unset, .unset, .unset, .unset] [(.long ov), (.long cv), (.int ((ma &&& (2147483647 : Int32)) % (4 : Int32))), (.ref b200)])) rfl (by rw [hml]; rfl) (Steps.refl _) (argsL := [(.int ((ma &&& (2147483647 : Int32)) % (4 : Int32))), (.long cv), (.long ov)]) (rest := []) (lenOf pd_2 rfl) rfl (by show 2 * 0 + _ ≤ _; exact Nat.le_of_eq rfl) (hb hby at_151) (fun _ _ => ⟨rfl, rfl, (by decide : 3 + 0 ≤ _), (by decide : 11 + 0 ≤ _)⟩)
    dsimp only [Pt.U, Pt.locs, Pt.cells, Pt.slots] at X219 l219 y219 z219 st219 hQ219
    subst l219 y219 z219
    obtain ⟨rfl, N219q, K219c, f220, f221, f222, f223, f224⟩ := hQ219
    have N219 := Fr.app N210 N219q
    have f225 : AI Z T219.heap b167 .byte 3 (up (up (up zI 0 ((sh >>> ((2 : Int32) &&& 31)).toInt8.toInt32)) 1 ((sh >>> ((10 : Int32) &&& 31)).toInt8.toInt32)) 2 ((sh >>> ((18 : Int32) &&& 31)).toInt8.toInt32)) := f216.keep K219c (ninS ne201 nin0)
    have f226 : AI Z T219.heap b169 .int 3 (up (up (up zI 0 ((((tb.toUInt32 >>> (((8 : Int32) * (0 : Int32)) &&& 31).toUInt32).toInt32) &&& (255 : Int32)) % ((0 : Int32) + (1 : Int32)))) 1 ((((tb.toUInt32 >>> (((8 : Int32) * (1 : Int32)) &&& 31).toUInt32).toInt32) &&& (255 : Int32)) % ((1 : Int32) + (1 : Int32)))) 2 ((((tb.toUInt32 >>> (((8 : Int32) * (2 : Int32)) &&& 31).toUInt32).toInt32) &&& (255 : Int32)) % ((2 : Int32) + (1 : Int32)))) := f217.keep K219c (ninS ne202 nin0)
    have f227 : Exa Z T219.heap b200 "skipstitch/search/PrefixTableScan" := f218.keep K219c
    have Z219 : n0 ≤ T219.heap.size := Nat.le_trans Z210 K219c.1
    have pre228 : ∀ t, Steps p.tables e below (T219.setTop (mkF m 154 #[.val (.int sh), .val (.int tb), .val (.int ma), .val (.int mb), .val (.long cv), .second, .val (.long ov), .second, .val (.int (3 : Int32)), .val (.ref b167), .val (.ref b169), .val (.int ((ma &&& (2147483647 : Int32)) % (4 : Int32))), .val (.int ((mb &&& (2147483647 : Int32)) % (4 : Int32))), .val (.ref b200), .unset, .unset, .unset, .unset] [])) t → Steps p.tables e below (s₁.setTop (entryFrame m #[(.int sh), (.int tb), (.int ma), (.int mb), (.long cv), (.long ov)] maxLocals)) t := by
      intro t k
      refine pre166 _ ?_
      show Steps p.tables e below (s₁.setTop (mkF m 5 #[.val (.int sh), .val (.int tb), .val (.int ma), .val (.int mb), .val (.long cv), .second, .val (.long ov), .second, .unset, .unset, .unset, .unset, .unset, .unset, .unset, .unset, .unset, .unset] [(.int (3 : Int32))])) _
      refine XS.istore X0.here hx rfl (hb hby at_5) rfl (l' := #[.val (.int sh), .val (.int tb), .val (.int ma), .val (.int mb), .val (.long cv), .second, .val (.long ov), .second, .val (.int (3 : Int32)), .unset, .unset, .unset, .unset, .unset, .unset, .unset, .unset, .unset]) rfl ?_
      show Steps p.tables e below (s₁.setTop (mkF m 7 #[.val (.int sh), .val (.int tb), .val (.int ma), .val (.int mb), .val (.long cv), .second, .val (.long ov), .second, .val (.int (3 : Int32)), .unset, .unset, .unset, .unset, .unset, .unset, .unset, .unset, .unset] [])) _
      refine XS.iload X0.here hx rfl (hb hby at_7) rfl ?_
      show Steps p.tables e below (s₁.setTop (mkF m 9 #[.val (.int sh), .val (.int tb), .val (.int ma), .val (.int mb), .val (.long cv), .second, .val (.long ov), .second, .val (.int (3 : Int32)), .unset, .unset, .unset, .unset, .unset, .unset, .unset, .unset, .unset] [(.int (3 : Int32))])) _
      refine st167 _ ?_
      show Steps p.tables e below (T167.setTop (mkF m 11 #[.val (.int sh), .val (.int tb), .val (.int ma), .val (.int mb), .val (.long cv), .second, .val (.long ov), .second, .val (.int (3 : Int32)), .unset, .unset, .unset, .unset, .unset, .unset, .unset, .unset, .unset] [(.ref b167)])) _
      refine XS.astore X167.here hx rfl (hb hby at_11) rfl rfl (l' := #[.val (.int sh), .val (.int tb), .val (.int ma), .val (.int mb), .val (.long cv), .second, .val (.long ov), .second, .val (.int (3 : Int32)), .val (.ref b167), .unset, .unset, .unset, .unset, .unset, .unset, .unset, .unset]) rfl ?_
      show Steps p.tables e below (T167.setTop (mkF m 13 #[.val (.int sh), .val (.int tb), .val (.int ma), .val (.int mb), .val (.long cv), .second, .val (.long ov), .second, .val (.int (3 : Int32)), .val (.ref b167), .unset, .unset, .unset, .unset, .unset, .unset, .unset, .unset] [])) _
      refine XS.iload X167.here hx rfl (hb hby at_13) rfl ?_
      show Steps p.tables e below (T167.setTop (mkF m 15 #[.val (.int sh), .val (.int tb), .val (.int ma), .val (.int mb), .val (.long cv), .second, .val (.long ov), .second, .val (.int (3 : Int32)), .val (.ref b167), .unset, .unset, .unset, .unset, .unset, .unset, .unset, .unset] [(.int (3 : Int32))])) _
      refine st169 _ ?_
      show Steps p.tables e below (T169.setTop (mkF m 17 #[.val (.int sh), .val (.int tb), .val (.int ma), .val (.int mb), .val (.long cv), .second, .val (.long ov), .second, .val (.int (3 : Int32)), .val (.ref b167), .unset, .unset, .unset, .unset, .unset, .unset, .unset, .unset] [(.ref b169)])) _
      refine XS.astore X169.here hx rfl (hb hby at_17) rfl rfl (l' := #[.val (.int sh), .val (.int tb), .val (.int ma), .val (.int mb), .val (.long cv), .second, .val (.long ov), .second, .val (.int (3 : Int32)), .val (.ref b167), .val (.ref b169), .unset, .unset, .unset, .unset, .unset, .unset, .unset]) rfl ?_
      show Steps p.tables e below (T169.setTop (mkF m 19 #[.val (.int sh), .val (.int tb), .val (.int ma), .val (.int mb), .val (.long cv), .second, .val (.long ov), .second, .val (.int (3 : Int32)), .val (.ref b167), .val (.ref b169), .unset, .unset, .unset, .unset, .unset, .unset, .unset] [])) _
      refine XS.aload X169.here hx rfl (hb hby at_19) rfl rfl ?_
      show Steps p.tables e below (T169.setTop (mkF m 21 #[.val (.int sh), .val (.int tb), .val (.int ma), .val (.int mb), .val (.long cv), .second, .val (.long ov), .second, .val (.int (3 : Int32)), .val (.ref b167), .val (.ref b169), .unset, .unset, .unset, .unset, .unset, .unset, .unset] [(.ref b167)])) _
      refine XS.iconst X169.here hx rfl (hb hby at_21) ?_
      show Steps p.tables e below (T169.setTop (mkF m 22 #[.val (.int sh), .val (.int tb), .val (.int ma), .val (.int mb), .val (.long cv), .second, .val (.long ov), .second, .val (.int (3 : Int32)), .val (.ref b167), .val (.ref b169), .unset, .unset, .unset, .unset, .unset, .unset, .unset] [(.int (0 : Int32)), (.ref b167)])) _
      refine XS.iloadN X169.here hx rfl (hb hby at_22) rfl ?_
      show Steps p.tables e below (T169.setTop (mkF m 23 #[.val (.int sh), .val (.int tb), .val (.int ma), .val (.int mb), .val (.long cv), .second, .val (.long ov), .second, .val (.int (3 : Int32)), .val (.ref b167), .val (.ref b169), .unset, .unset, .unset, .unset, .unset, .unset, .unset] [(.int sh), (.int (0 : Int32)), (.ref b167)])) _
      refine XS.iconst X169.here hx rfl (hb hby at_23) ?_
      show Steps p.tables e below (T169.setTop (mkF m 24 #[.val (.int sh), .val (.int tb), .val (.int ma), .val (.int mb), .val (.long cv), .second, .val (.long ov), .second, .val (.int (3 : Int32)), .val (.ref b167), .val (.ref b169), .unset, .unset, .unset, .unset, .unset, .unset, .unset] [(.int (2 : Int32)), (.int sh), (.int (0 : Int32)), (.ref b167)])) _
      refine XS.ishr X169.here hx rfl (hb hby at_24) rfl ?_
      show Steps p.tables e below (T169.setTop (mkF m 25 #[.val (.int sh), .val (.int tb), .val (.int ma), .val (.int mb), .val (.long cv), .second, .val (.long ov), .second, .val (.int (3 : Int32)), .val (.ref b167), .val (.ref b169), .unset, .unset, .unset, .unset, .unset, .unset, .unset] [(.int (sh >>> ((2 : Int32) &&& 31))), (.int (0 : Int32)), (.ref b167)])) _
      refine XS.i2b X169.here hx rfl (hb hby at_25) rfl ?_
      show Steps p.tables e below (T169.setTop (mkF m 26 #[.val (.int sh), .val (.int tb), .val (.int ma), .val (.int mb), .val (.long cv), .second, .val (.long ov), .second, .val (.int (3 : Int32)), .val (.ref b167), .val (.ref b169), .unset, .unset, .unset, .unset, .unset, .unset, .unset] [(.int ((sh >>> ((2 : Int32) &&& 31)).toInt8.toInt32)), (.int (0 : Int32)), (.ref b167)])) _
      refine st174 _ ?_
      show Steps p.tables e below (T174.setTop (mkF m 27 #[.val (.int sh), .val (.int tb), .val (.int ma), .val (.int mb), .val (.long cv), .second, .val (.long ov), .second, .val (.int (3 : Int32)), .val (.ref b167), .val (.ref b169), .unset, .unset, .unset, .unset, .unset, .unset, .unset] [])) _
      refine XS.aload X174.here hx rfl (hb hby at_27) rfl rfl ?_
      show Steps p.tables e below (T174.setTop (mkF m 29 #[.val (.int sh), .val (.int tb), .val (.int ma), .val (.int mb), .val (.long cv), .second, .val (.long ov), .second, .val (.int (3 : Int32)), .val (.ref b167), .val (.ref b169), .unset, .unset, .unset, .unset, .unset, .unset, .unset] [(.ref b169)])) _
      refine XS.iconst X174.here hx rfl (hb hby at_29) ?_
      show Steps p.tables e below (T174.setTop (mkF m 30 #[.val (.int sh), .val (.int tb), .val (.int ma), .val (.int mb), .val (.long cv), .second, .val (.long ov), .second, .val (.int (3 : Int32)), .val (.ref b167), .val (.ref b169), .unset, .unset, .unset, .unset, .unset, .unset, .unset] [(.int (0 : Int32)), (.ref b169)])) _
      refine XS.iloadN X174.here hx rfl (hb hby at_30) rfl ?_
      show Steps p.tables e below (T174.setTop (mkF m 31 #[.val (.int sh), .val (.int tb), .val (.int ma), .val (.int mb), .val (.long cv), .second, .val (.long ov), .second, .val (.int (3 : Int32)), .val (.ref b167), .val (.ref b169), .unset, .unset, .unset, .unset, .unset, .unset, .unset] [(.int tb), (.int (0 : Int32)), (.ref b169)])) _
      refine XS.iconst X174.here hx rfl (hb hby at_31) ?_
      show Steps p.tables e below (T174.setTop (mkF m 32 #[.val (.int sh), .val (.int tb), .val (.int ma), .val (.int mb), .val (.long cv), .second, .val (.long ov), .second, .val (.int (3 : Int32)), .val (.ref b167), .val (.ref b169), .unset, .unset, .unset, .unset, .unset, .unset, .unset] [(.int (0 : Int32)), (.int tb), (.int (0 : Int32)), (.ref b169)])) _
      refine st177 _ ?_
      show Steps p.tables e below (T177.setTop (mkF m 35 #[.val (.int sh), .val (.int tb), .val (.int ma), .val (.int mb), .val (.long cv), .second, .val (.long ov), .second, .val (.int (3 : Int32)), .val (.ref b167), .val (.ref b169), .unset, .unset, .unset, .unset, .unset, .unset, .unset] [(.int ((((tb.toUInt32 >>> (((8 : Int32) * (0 : Int32)) &&& 31).toUInt32).toInt32) &&& (255 : Int32)) % ((0 : Int32) + (1 : Int32)))), (.int (0 : Int32)), (.ref b169)])) _
      refine st179 _ ?_
      show Steps p.tables e below (T179.setTop (mkF m 36 #[.val (.int sh), .val (.int tb), .val (.int ma), .val (.int mb), .val (.long cv), .second, .val (.long ov), .second, .val (.int (3 : Int32)), .val (.ref b167), .val (.ref b169), .unset, .unset, .unset, .unset, .unset, .unset, .unset] [])) _
      refine XS.iload X179.here hx rfl (hb hby at_36) rfl ?_
      show Steps p.tables e below (T179.setTop (mkF m 38 #[.val (.int sh), .val (.int tb), .val (.int ma), .val (.int mb), .val (.long cv), .second, .val (.long ov), .second, .val (.int (3 : Int32)), .val (.ref b167), .val (.ref b169), .unset, .unset, .unset, .unset, .unset, .unset, .unset] [(.int (3 : Int32))])) _
      refine XS.iconst X179.here hx rfl (hb hby at_38) ?_
      show Steps p.tables e below (T179.setTop (mkF m 39 #[.val (.int sh), .val (.int tb), .val (.int ma), .val (.int mb), .val (.long cv), .second, .val (.long ov), .second, .val (.int (3 : Int32)), .val (.ref b167), .val (.ref b169), .unset, .unset, .unset, .unset, .unset, .unset, .unset] [(.int (1 : Int32)), (.int (3 : Int32))])) _
      refine XS.icmpNo X179.here hx rfl (hb hby at_39) rfl (tlt (by decide : ((1 : Int32) < (3 : Int32)))).2.2.2 ?_
      show Steps p.tables e below (T179.setTop (mkF m 42 #[.val (.int sh), .val (.int tb), .val (.int ma), .val (.int mb), .val (.long cv), .second, .val (.long ov), .second, .val (.int (3 : Int32)), .val (.ref b167), .val (.ref b169), .unset, .unset, .unset, .unset, .unset, .unset, .unset] [])) _
      refine XS.aload X179.here hx rfl (hb hby at_42) rfl rfl ?_
      show Steps p.tables e below (T179.setTop (mkF m 44 #[.val (.int sh), .val (.int tb), .val (.int ma), .val (.int mb), .val (.long cv), .second, .val (.long ov), .second, .val (.int (3 : Int32)), .val (.ref b167), .val (.ref b169), .unset, .unset, .unset, .unset, .unset, .unset, .unset] [(.ref b167)])) _
      refine XS.iconst X179.here hx rfl (hb hby at_44) ?_
      show Steps p.tables e below (T179.setTop (mkF m 45 #[.val (.int sh), .val (.int tb), .val (.int ma), .val (.int mb), .val (.long cv), .second, .val (.long ov), .second, .val (.int (3 : Int32)), .val (.ref b167), .val (.ref b169), .unset, .unset, .unset, .unset, .unset, .unset, .unset] [(.int (1 : Int32)), (.ref b167)])) _
      refine XS.iloadN X179.here hx rfl (hb hby at_45) rfl ?_
      show Steps p.tables e below (T179.setTop (mkF m 46 #[.val (.int sh), .val (.int tb), .val (.int ma), .val (.int mb), .val (.long cv), .second, .val (.long ov), .second, .val (.int (3 : Int32)), .val (.ref b167), .val (.ref b169), .unset, .unset, .unset, .unset, .unset, .unset, .unset] [(.int sh), (.int (1 : Int32)), (.ref b167)])) _
      refine XS.bipush X179.here hx rfl (hb hby at_46) ?_
      show Steps p.tables e below (T179.setTop (mkF m 48 #[.val (.int sh), .val (.int tb), .val (.int ma), .val (.int mb), .val (.long cv), .second, .val (.long ov), .second, .val (.int (3 : Int32)), .val (.ref b167), .val (.ref b169), .unset, .unset, .unset, .unset, .unset, .unset, .unset] [(.int (10 : Int32)), (.int sh), (.int (1 : Int32)), (.ref b167)])) _
      refine XS.ishr X179.here hx rfl (hb hby at_48) rfl ?_
      show Steps p.tables e below (T179.setTop (mkF m 49 #[.val (.int sh), .val (.int tb), .val (.int ma), .val (.int mb), .val (.long cv), .second, .val (.long ov), .second, .val (.int (3 : Int32)), .val (.ref b167), .val (.ref b169), .unset, .unset, .unset, .unset, .unset, .unset, .unset] [(.int (sh >>> ((10 : Int32) &&& 31))), (.int (1 : Int32)), (.ref b167)])) _
      refine XS.i2b X179.here hx rfl (hb hby at_49) rfl ?_
      show Steps p.tables e below (T179.setTop (mkF m 50 #[.val (.int sh), .val (.int tb), .val (.int ma), .val (.int mb), .val (.long cv), .second, .val (.long ov), .second, .val (.int (3 : Int32)), .val (.ref b167), .val (.ref b169), .unset, .unset, .unset, .unset, .unset, .unset, .unset] [(.int ((sh >>> ((10 : Int32) &&& 31)).toInt8.toInt32)), (.int (1 : Int32)), (.ref b167)])) _
      refine st183 _ ?_
      show Steps p.tables e below (T183.setTop (mkF m 51 #[.val (.int sh), .val (.int tb), .val (.int ma), .val (.int mb), .val (.long cv), .second, .val (.long ov), .second, .val (.int (3 : Int32)), .val (.ref b167), .val (.ref b169), .unset, .unset, .unset, .unset, .unset, .unset, .unset] [])) _
      refine XS.aload X183.here hx rfl (hb hby at_51) rfl rfl ?_
      show Steps p.tables e below (T183.setTop (mkF m 53 #[.val (.int sh), .val (.int tb), .val (.int ma), .val (.int mb), .val (.long cv), .second, .val (.long ov), .second, .val (.int (3 : Int32)), .val (.ref b167), .val (.ref b169), .unset, .unset, .unset, .unset, .unset, .unset, .unset] [(.ref b169)])) _
      refine XS.iconst X183.here hx rfl (hb hby at_53) ?_
      show Steps p.tables e below (T183.setTop (mkF m 54 #[.val (.int sh), .val (.int tb), .val (.int ma), .val (.int mb), .val (.long cv), .second, .val (.long ov), .second, .val (.int (3 : Int32)), .val (.ref b167), .val (.ref b169), .unset, .unset, .unset, .unset, .unset, .unset, .unset] [(.int (1 : Int32)), (.ref b169)])) _
      refine XS.iloadN X183.here hx rfl (hb hby at_54) rfl ?_
      show Steps p.tables e below (T183.setTop (mkF m 55 #[.val (.int sh), .val (.int tb), .val (.int ma), .val (.int mb), .val (.long cv), .second, .val (.long ov), .second, .val (.int (3 : Int32)), .val (.ref b167), .val (.ref b169), .unset, .unset, .unset, .unset, .unset, .unset, .unset] [(.int tb), (.int (1 : Int32)), (.ref b169)])) _
      refine XS.iconst X183.here hx rfl (hb hby at_55) ?_
      show Steps p.tables e below (T183.setTop (mkF m 56 #[.val (.int sh), .val (.int tb), .val (.int ma), .val (.int mb), .val (.long cv), .second, .val (.long ov), .second, .val (.int (3 : Int32)), .val (.ref b167), .val (.ref b169), .unset, .unset, .unset, .unset, .unset, .unset, .unset] [(.int (1 : Int32)), (.int tb), (.int (1 : Int32)), (.ref b169)])) _
      refine st186 _ ?_
      show Steps p.tables e below (T186.setTop (mkF m 59 #[.val (.int sh), .val (.int tb), .val (.int ma), .val (.int mb), .val (.long cv), .second, .val (.long ov), .second, .val (.int (3 : Int32)), .val (.ref b167), .val (.ref b169), .unset, .unset, .unset, .unset, .unset, .unset, .unset] [(.int ((((tb.toUInt32 >>> (((8 : Int32) * (1 : Int32)) &&& 31).toUInt32).toInt32) &&& (255 : Int32)) % ((1 : Int32) + (1 : Int32)))), (.int (1 : Int32)), (.ref b169)])) _
      refine st188 _ ?_
      show Steps p.tables e below (T188.setTop (mkF m 60 #[.val (.int sh), .val (.int tb), .val (.int ma), .val (.int mb), .val (.long cv), .second, .val (.long ov), .second, .val (.int (3 : Int32)), .val (.ref b167), .val (.ref b169), .unset, .unset, .unset, .unset, .unset, .unset, .unset] [])) _
      refine XS.iload X188.here hx rfl (hb hby at_60) rfl ?_
      show Steps p.tables e below (T188.setTop (mkF m 62 #[.val (.int sh), .val (.int tb), .val (.int ma), .val (.int mb), .val (.long cv), .second, .val (.long ov), .second, .val (.int (3 : Int32)), .val (.ref b167), .val (.ref b169), .unset, .unset, .unset, .unset, .unset, .unset, .unset] [(.int (3 : Int32))])) _
      refine XS.iconst X188.here hx rfl (hb hby at_62) ?_
      show Steps p.tables e below (T188.setTop (mkF m 63 #[.val (.int sh), .val (.int tb), .val (.int ma), .val (.int mb), .val (.long cv), .second, .val (.long ov), .second, .val (.int (3 : Int32)), .val (.ref b167), .val (.ref b169), .unset, .unset, .unset, .unset, .unset, .unset, .unset] [(.int (2 : Int32)), (.int (3 : Int32))])) _
      refine XS.icmpNo X188.here hx rfl (hb hby at_63) rfl (tlt (by decide : ((2 : Int32) < (3 : Int32)))).2.2.2 ?_
      show Steps p.tables e below (T188.setTop (mkF m 66 #[.val (.int sh), .val (.int tb), .val (.int ma), .val (.int mb), .val (.long cv), .second, .val (.long ov), .second, .val (.int (3 : Int32)), .val (.ref b167), .val (.ref b169), .unset, .unset, .unset, .unset, .unset, .unset, .unset] [])) _
      refine XS.aload X188.here hx rfl (hb hby at_66) rfl rfl ?_
      show Steps p.tables e below (T188.setTop (mkF m 68 #[.val (.int sh), .val (.int tb), .val (.int ma), .val (.int mb), .val (.long cv), .second, .val (.long ov), .second, .val (.int (3 : Int32)), .val (.ref b167), .val (.ref b169), .unset, .unset, .unset, .unset, .unset, .unset, .unset] [(.ref b167)])) _
      refine XS.iconst X188.here hx rfl (hb hby at_68) ?_
      show Steps p.tables e below (T188.setTop (mkF m 69 #[.val (.int sh), .val (.int tb), .val (.int ma), .val (.int mb), .val (.long cv), .second, .val (.long ov), .second, .val (.int (3 : Int32)), .val (.ref b167), .val (.ref b169), .unset, .unset, .unset, .unset, .unset, .unset, .unset] [(.int (2 : Int32)), (.ref b167)])) _
      refine XS.iloadN X188.here hx rfl (hb hby at_69) rfl ?_
      show Steps p.tables e below (T188.setTop (mkF m 70 #[.val (.int sh), .val (.int tb), .val (.int ma), .val (.int mb), .val (.long cv), .second, .val (.long ov), .second, .val (.int (3 : Int32)), .val (.ref b167), .val (.ref b169), .unset, .unset, .unset, .unset, .unset, .unset, .unset] [(.int sh), (.int (2 : Int32)), (.ref b167)])) _
      refine XS.bipush X188.here hx rfl (hb hby at_70) ?_
      show Steps p.tables e below (T188.setTop (mkF m 72 #[.val (.int sh), .val (.int tb), .val (.int ma), .val (.int mb), .val (.long cv), .second, .val (.long ov), .second, .val (.int (3 : Int32)), .val (.ref b167), .val (.ref b169), .unset, .unset, .unset, .unset, .unset, .unset, .unset] [(.int (18 : Int32)), (.int sh), (.int (2 : Int32)), (.ref b167)])) _
      refine XS.ishr X188.here hx rfl (hb hby at_72) rfl ?_
      show Steps p.tables e below (T188.setTop (mkF m 73 #[.val (.int sh), .val (.int tb), .val (.int ma), .val (.int mb), .val (.long cv), .second, .val (.long ov), .second, .val (.int (3 : Int32)), .val (.ref b167), .val (.ref b169), .unset, .unset, .unset, .unset, .unset, .unset, .unset] [(.int (sh >>> ((18 : Int32) &&& 31))), (.int (2 : Int32)), (.ref b167)])) _
      refine XS.i2b X188.here hx rfl (hb hby at_73) rfl ?_
      show Steps p.tables e below (T188.setTop (mkF m 74 #[.val (.int sh), .val (.int tb), .val (.int ma), .val (.int mb), .val (.long cv), .second, .val (.long ov), .second, .val (.int (3 : Int32)), .val (.ref b167), .val (.ref b169), .unset, .unset, .unset, .unset, .unset, .unset, .unset] [(.int ((sh >>> ((18 : Int32) &&& 31)).toInt8.toInt32)), (.int (2 : Int32)), (.ref b167)])) _
      refine st192 _ ?_
      show Steps p.tables e below (T192.setTop (mkF m 75 #[.val (.int sh), .val (.int tb), .val (.int ma), .val (.int mb), .val (.long cv), .second, .val (.long ov), .second, .val (.int (3 : Int32)), .val (.ref b167), .val (.ref b169), .unset, .unset, .unset, .unset, .unset, .unset, .unset] [])) _
      refine XS.aload X192.here hx rfl (hb hby at_75) rfl rfl ?_
      show Steps p.tables e below (T192.setTop (mkF m 77 #[.val (.int sh), .val (.int tb), .val (.int ma), .val (.int mb), .val (.long cv), .second, .val (.long ov), .second, .val (.int (3 : Int32)), .val (.ref b167), .val (.ref b169), .unset, .unset, .unset, .unset, .unset, .unset, .unset] [(.ref b169)])) _
      refine XS.iconst X192.here hx rfl (hb hby at_77) ?_
      show Steps p.tables e below (T192.setTop (mkF m 78 #[.val (.int sh), .val (.int tb), .val (.int ma), .val (.int mb), .val (.long cv), .second, .val (.long ov), .second, .val (.int (3 : Int32)), .val (.ref b167), .val (.ref b169), .unset, .unset, .unset, .unset, .unset, .unset, .unset] [(.int (2 : Int32)), (.ref b169)])) _
      refine XS.iloadN X192.here hx rfl (hb hby at_78) rfl ?_
      show Steps p.tables e below (T192.setTop (mkF m 79 #[.val (.int sh), .val (.int tb), .val (.int ma), .val (.int mb), .val (.long cv), .second, .val (.long ov), .second, .val (.int (3 : Int32)), .val (.ref b167), .val (.ref b169), .unset, .unset, .unset, .unset, .unset, .unset, .unset] [(.int tb), (.int (2 : Int32)), (.ref b169)])) _
      refine XS.iconst X192.here hx rfl (hb hby at_79) ?_
      show Steps p.tables e below (T192.setTop (mkF m 80 #[.val (.int sh), .val (.int tb), .val (.int ma), .val (.int mb), .val (.long cv), .second, .val (.long ov), .second, .val (.int (3 : Int32)), .val (.ref b167), .val (.ref b169), .unset, .unset, .unset, .unset, .unset, .unset, .unset] [(.int (2 : Int32)), (.int tb), (.int (2 : Int32)), (.ref b169)])) _
      refine st195 _ ?_
      show Steps p.tables e below (T195.setTop (mkF m 83 #[.val (.int sh), .val (.int tb), .val (.int ma), .val (.int mb), .val (.long cv), .second, .val (.long ov), .second, .val (.int (3 : Int32)), .val (.ref b167), .val (.ref b169), .unset, .unset, .unset, .unset, .unset, .unset, .unset] [(.int ((((tb.toUInt32 >>> (((8 : Int32) * (2 : Int32)) &&& 31).toUInt32).toInt32) &&& (255 : Int32)) % ((2 : Int32) + (1 : Int32)))), (.int (2 : Int32)), (.ref b169)])) _
      refine st197 _ ?_
      show Steps p.tables e below (T197.setTop (mkF m 84 #[.val (.int sh), .val (.int tb), .val (.int ma), .val (.int mb), .val (.long cv), .second, .val (.long ov), .second, .val (.int (3 : Int32)), .val (.ref b167), .val (.ref b169), .unset, .unset, .unset, .unset, .unset, .unset, .unset] [])) _
      refine XS.iload X197.here hx rfl (hb hby at_84) rfl ?_
      show Steps p.tables e below (T197.setTop (mkF m 86 #[.val (.int sh), .val (.int tb), .val (.int ma), .val (.int mb), .val (.long cv), .second, .val (.long ov), .second, .val (.int (3 : Int32)), .val (.ref b167), .val (.ref b169), .unset, .unset, .unset, .unset, .unset, .unset, .unset] [(.int (3 : Int32))])) _
      refine XS.iconst X197.here hx rfl (hb hby at_86) ?_
      show Steps p.tables e below (T197.setTop (mkF m 87 #[.val (.int sh), .val (.int tb), .val (.int ma), .val (.int mb), .val (.long cv), .second, .val (.long ov), .second, .val (.int (3 : Int32)), .val (.ref b167), .val (.ref b169), .unset, .unset, .unset, .unset, .unset, .unset, .unset] [(.int (3 : Int32)), (.int (3 : Int32))])) _
      refine XS.icmpYes X197.here hx rfl (pc0 := 87) (pc' := 108) rfl (hb hby at_87) rfl (flt (by decide : ¬ ((3 : Int32) < (3 : Int32)))).2.2.2 (by decide) (by decide) ?_
      show Steps p.tables e below (T197.setTop (mkF m 108 #[.val (.int sh), .val (.int tb), .val (.int ma), .val (.int mb), .val (.long cv), .second, .val (.long ov), .second, .val (.int (3 : Int32)), .val (.ref b167), .val (.ref b169), .unset, .unset, .unset, .unset, .unset, .unset, .unset] [])) _
      refine XS.iloadN X197.here hx rfl (hb hby at_108) rfl ?_
      show Steps p.tables e below (T197.setTop (mkF m 109 #[.val (.int sh), .val (.int tb), .val (.int ma), .val (.int mb), .val (.long cv), .second, .val (.long ov), .second, .val (.int (3 : Int32)), .val (.ref b167), .val (.ref b169), .unset, .unset, .unset, .unset, .unset, .unset, .unset] [(.int ma)])) _
      refine X197.ldcInt hx hown (mvT hZ (hw _ (List.mem_of_getElem? (i := 6) rfl))) (g := (mkF m 109 #[.val (.int sh), .val (.int tb), .val (.int ma), .val (.int mb), .val (.long cv), .second, .val (.long ov), .second, .val (.int (3 : Int32)), .val (.ref b167), .val (.ref b169), .unset, .unset, .unset, .unset, .unset, .unset, .unset] [(.int ma)])) rfl (hb hby at_109) _ ?_
      show Steps p.tables e below (T197.setTop (mkF m 111 #[.val (.int sh), .val (.int tb), .val (.int ma), .val (.int mb), .val (.long cv), .second, .val (.long ov), .second, .val (.int (3 : Int32)), .val (.ref b167), .val (.ref b169), .unset, .unset, .unset, .unset, .unset, .unset, .unset] [(.int (2147483647 : Int32)), (.int ma)])) _
      refine XS.iand X197.here hx rfl (hb hby at_111) rfl ?_
      show Steps p.tables e below (T197.setTop (mkF m 112 #[.val (.int sh), .val (.int tb), .val (.int ma), .val (.int mb), .val (.long cv), .second, .val (.long ov), .second, .val (.int (3 : Int32)), .val (.ref b167), .val (.ref b169), .unset, .unset, .unset, .unset, .unset, .unset, .unset] [(.int (ma &&& (2147483647 : Int32)))])) _
      refine XS.iload X197.here hx rfl (hb hby at_112) rfl ?_
      show Steps p.tables e below (T197.setTop (mkF m 114 #[.val (.int sh), .val (.int tb), .val (.int ma), .val (.int mb), .val (.long cv), .second, .val (.long ov), .second, .val (.int (3 : Int32)), .val (.ref b167), .val (.ref b169), .unset, .unset, .unset, .unset, .unset, .unset, .unset] [(.int (3 : Int32)), (.int (ma &&& (2147483647 : Int32)))])) _
      refine XS.iconst X197.here hx rfl (hb hby at_114) ?_
      show Steps p.tables e below (T197.setTop (mkF m 115 #[.val (.int sh), .val (.int tb), .val (.int ma), .val (.int mb), .val (.long cv), .second, .val (.long ov), .second, .val (.int (3 : Int32)), .val (.ref b167), .val (.ref b169), .unset, .unset, .unset, .unset, .unset, .unset, .unset] [(.int (1 : Int32)), (.int (3 : Int32)), (.int (ma &&& (2147483647 : Int32)))])) _
      refine XS.iadd X197.here hx rfl (hb hby at_115) rfl ?_
      show Steps p.tables e below (T197.setTop (mkF m 116 #[.val (.int sh), .val (.int tb), .val (.int ma), .val (.int mb), .val (.long cv), .second, .val (.long ov), .second, .val (.int (3 : Int32)), .val (.ref b167), .val (.ref b169), .unset, .unset, .unset, .unset, .unset, .unset, .unset] [(.int (4 : Int32)), (.int (ma &&& (2147483647 : Int32)))])) _
      refine iremM X197 hx rfl (hb hby at_116) rfl (by decide) ?_
      show Steps p.tables e below (T197.setTop (mkF m 117 #[.val (.int sh), .val (.int tb), .val (.int ma), .val (.int mb), .val (.long cv), .second, .val (.long ov), .second, .val (.int (3 : Int32)), .val (.ref b167), .val (.ref b169), .unset, .unset, .unset, .unset, .unset, .unset, .unset] [(.int ((ma &&& (2147483647 : Int32)) % (4 : Int32)))])) _
      refine XS.istore X197.here hx rfl (hb hby at_117) rfl (l' := #[.val (.int sh), .val (.int tb), .val (.int ma), .val (.int mb), .val (.long cv), .second, .val (.long ov), .second, .val (.int (3 : Int32)), .val (.ref b167), .val (.ref b169), .val (.int ((ma &&& (2147483647 : Int32)) % (4 : Int32))), .unset, .unset, .unset, .unset, .unset, .unset]) rfl ?_
      show Steps p.tables e below (T197.setTop (mkF m 119 #[.val (.int sh), .val (.int tb), .val (.int ma), .val (.int mb), .val (.long cv), .second, .val (.long ov), .second, .val (.int (3 : Int32)), .val (.ref b167), .val (.ref b169), .val (.int ((ma &&& (2147483647 : Int32)) % (4 : Int32))), .unset, .unset, .unset, .unset, .unset, .unset] [])) _
      refine XS.iloadN X197.here hx rfl (hb hby at_119) rfl ?_
      show Steps p.tables e below (T197.setTop (mkF m 120 #[.val (.int sh), .val (.int tb), .val (.int ma), .val (.int mb), .val (.long cv), .second, .val (.long ov), .second, .val (.int (3 : Int32)), .val (.ref b167), .val (.ref b169), .val (.int ((ma &&& (2147483647 : Int32)) % (4 : Int32))), .unset, .unset, .unset, .unset, .unset, .unset] [(.int mb)])) _
      refine X197.ldcInt hx hown (mvT hZ (hw _ (List.mem_of_getElem? (i := 6) rfl))) (g := (mkF m 120 #[.val (.int sh), .val (.int tb), .val (.int ma), .val (.int mb), .val (.long cv), .second, .val (.long ov), .second, .val (.int (3 : Int32)), .val (.ref b167), .val (.ref b169), .val (.int ((ma &&& (2147483647 : Int32)) % (4 : Int32))), .unset, .unset, .unset, .unset, .unset, .unset] [(.int mb)])) rfl (hb hby at_120) _ ?_
      show Steps p.tables e below (T197.setTop (mkF m 122 #[.val (.int sh), .val (.int tb), .val (.int ma), .val (.int mb), .val (.long cv), .second, .val (.long ov), .second, .val (.int (3 : Int32)), .val (.ref b167), .val (.ref b169), .val (.int ((ma &&& (2147483647 : Int32)) % (4 : Int32))), .unset, .unset, .unset, .unset, .unset, .unset] [(.int (2147483647 : Int32)), (.int mb)])) _
      refine XS.iand X197.here hx rfl (hb hby at_122) rfl ?_
      show Steps p.tables e below (T197.setTop (mkF m 123 #[.val (.int sh), .val (.int tb), .val (.int ma), .val (.int mb), .val (.long cv), .second, .val (.long ov), .second, .val (.int (3 : Int32)), .val (.ref b167), .val (.ref b169), .val (.int ((ma &&& (2147483647 : Int32)) % (4 : Int32))), .unset, .unset, .unset, .unset, .unset, .unset] [(.int (mb &&& (2147483647 : Int32)))])) _
      refine XS.iload X197.here hx rfl (hb hby at_123) rfl ?_
      show Steps p.tables e below (T197.setTop (mkF m 125 #[.val (.int sh), .val (.int tb), .val (.int ma), .val (.int mb), .val (.long cv), .second, .val (.long ov), .second, .val (.int (3 : Int32)), .val (.ref b167), .val (.ref b169), .val (.int ((ma &&& (2147483647 : Int32)) % (4 : Int32))), .unset, .unset, .unset, .unset, .unset, .unset] [(.int (3 : Int32)), (.int (mb &&& (2147483647 : Int32)))])) _
      refine XS.iconst X197.here hx rfl (hb hby at_125) ?_
      show Steps p.tables e below (T197.setTop (mkF m 126 #[.val (.int sh), .val (.int tb), .val (.int ma), .val (.int mb), .val (.long cv), .second, .val (.long ov), .second, .val (.int (3 : Int32)), .val (.ref b167), .val (.ref b169), .val (.int ((ma &&& (2147483647 : Int32)) % (4 : Int32))), .unset, .unset, .unset, .unset, .unset, .unset] [(.int (1 : Int32)), (.int (3 : Int32)), (.int (mb &&& (2147483647 : Int32)))])) _
      refine XS.iadd X197.here hx rfl (hb hby at_126) rfl ?_
      show Steps p.tables e below (T197.setTop (mkF m 127 #[.val (.int sh), .val (.int tb), .val (.int ma), .val (.int mb), .val (.long cv), .second, .val (.long ov), .second, .val (.int (3 : Int32)), .val (.ref b167), .val (.ref b169), .val (.int ((ma &&& (2147483647 : Int32)) % (4 : Int32))), .unset, .unset, .unset, .unset, .unset, .unset] [(.int (4 : Int32)), (.int (mb &&& (2147483647 : Int32)))])) _
      refine iremM X197 hx rfl (hb hby at_127) rfl (by decide) ?_
      show Steps p.tables e below (T197.setTop (mkF m 128 #[.val (.int sh), .val (.int tb), .val (.int ma), .val (.int mb), .val (.long cv), .second, .val (.long ov), .second, .val (.int (3 : Int32)), .val (.ref b167), .val (.ref b169), .val (.int ((ma &&& (2147483647 : Int32)) % (4 : Int32))), .unset, .unset, .unset, .unset, .unset, .unset] [(.int ((mb &&& (2147483647 : Int32)) % (4 : Int32)))])) _
      refine XS.istore X197.here hx rfl (hb hby at_128) rfl (l' := #[.val (.int sh), .val (.int tb), .val (.int ma), .val (.int mb), .val (.long cv), .second, .val (.long ov), .second, .val (.int (3 : Int32)), .val (.ref b167), .val (.ref b169), .val (.int ((ma &&& (2147483647 : Int32)) % (4 : Int32))), .val (.int ((mb &&& (2147483647 : Int32)) % (4 : Int32))), .unset, .unset, .unset, .unset, .unset]) rfl ?_
      show Steps p.tables e below (T197.setTop (mkF m 130 #[.val (.int sh), .val (.int tb), .val (.int ma), .val (.int mb), .val (.long cv), .second, .val (.long ov), .second, .val (.int (3 : Int32)), .val (.ref b167), .val (.ref b169), .val (.int ((ma &&& (2147483647 : Int32)) % (4 : Int32))), .val (.int ((mb &&& (2147483647 : Int32)) % (4 : Int32))), .unset, .unset, .unset, .unset, .unset] [])) _
      refine st200 _ ?_
      show Steps p.tables e below (T200.setTop (mkF m 133 #[.val (.int sh), .val (.int tb), .val (.int ma), .val (.int mb), .val (.long cv), .second, .val (.long ov), .second, .val (.int (3 : Int32)), .val (.ref b167), .val (.ref b169), .val (.int ((ma &&& (2147483647 : Int32)) % (4 : Int32))), .val (.int ((mb &&& (2147483647 : Int32)) % (4 : Int32))), .unset, .unset, .unset, .unset, .unset] [(.ref b200)])) _
      refine XS.dup X200.here hx rfl (hb hby at_133) rfl rfl ?_
      show Steps p.tables e below (T200.setTop (mkF m 134 #[.val (.int sh), .val (.int tb), .val (.int ma), .val (.int mb), .val (.long cv), .second, .val (.long ov), .second, .val (.int (3 : Int32)), .val (.ref b167), .val (.ref b169), .val (.int ((ma &&& (2147483647 : Int32)) % (4 : Int32))), .val (.int ((mb &&& (2147483647 : Int32)) % (4 : Int32))), .unset, .unset, .unset, .unset, .unset] [(.ref b200), (.ref b200)])) _
      refine XS.aload X200.here hx rfl (hb hby at_134) rfl rfl ?_
      show Steps p.tables e below (T200.setTop (mkF m 136 #[.val (.int sh), .val (.int tb), .val (.int ma), .val (.int mb), .val (.long cv), .second, .val (.long ov), .second, .val (.int (3 : Int32)), .val (.ref b167), .val (.ref b169), .val (.int ((ma &&& (2147483647 : Int32)) % (4 : Int32))), .val (.int ((mb &&& (2147483647 : Int32)) % (4 : Int32))), .unset, .unset, .unset, .unset, .unset] [(.ref b167), (.ref b200), (.ref b200)])) _
      refine XS.aload X200.here hx rfl (hb hby at_136) rfl rfl ?_
      show Steps p.tables e below (T200.setTop (mkF m 138 #[.val (.int sh), .val (.int tb), .val (.int ma), .val (.int mb), .val (.long cv), .second, .val (.long ov), .second, .val (.int (3 : Int32)), .val (.ref b167), .val (.ref b169), .val (.int ((ma &&& (2147483647 : Int32)) % (4 : Int32))), .val (.int ((mb &&& (2147483647 : Int32)) % (4 : Int32))), .unset, .unset, .unset, .unset, .unset] [(.ref b169), (.ref b167), (.ref b200), (.ref b200)])) _
      refine st210.trans ?_
      show Steps p.tables e below (T210.setTop (mkF m 141 #[.val (.int sh), .val (.int tb), .val (.int ma), .val (.int mb), .val (.long cv), .second, .val (.long ov), .second, .val (.int (3 : Int32)), .val (.ref b167), .val (.ref b169), .val (.int ((ma &&& (2147483647 : Int32)) % (4 : Int32))), .val (.int ((mb &&& (2147483647 : Int32)) % (4 : Int32))), .unset, .unset, .unset, .unset, .unset] [(.ref b200)])) _
      refine XS.astore X210.here hx rfl (hb hby at_141) rfl rfl (l' := #[.val (.int sh), .val (.int tb), .val (.int ma), .val (.int mb), .val (.long cv), .second, .val (.long ov), .second, .val (.int (3 : Int32)), .val (.ref b167), .val (.ref b169), .val (.int ((ma &&& (2147483647 : Int32)) % (4 : Int32))), .val (.int ((mb &&& (2147483647 : Int32)) % (4 : Int32))), .val (.ref b200), .unset, .unset, .unset, .unset]) rfl ?_
      show Steps p.tables e below (T210.setTop (mkF m 143 #[.val (.int sh), .val (.int tb), .val (.int ma), .val (.int mb), .val (.long cv), .second, .val (.long ov), .second, .val (.int (3 : Int32)), .val (.ref b167), .val (.ref b169), .val (.int ((ma &&& (2147483647 : Int32)) % (4 : Int32))), .val (.int ((mb &&& (2147483647 : Int32)) % (4 : Int32))), .val (.ref b200), .unset, .unset, .unset, .unset] [])) _
      refine XS.aload X210.here hx rfl (hb hby at_143) rfl rfl ?_
      show Steps p.tables e below (T210.setTop (mkF m 145 #[.val (.int sh), .val (.int tb), .val (.int ma), .val (.int mb), .val (.long cv), .second, .val (.long ov), .second, .val (.int (3 : Int32)), .val (.ref b167), .val (.ref b169), .val (.int ((ma &&& (2147483647 : Int32)) % (4 : Int32))), .val (.int ((mb &&& (2147483647 : Int32)) % (4 : Int32))), .val (.ref b200), .unset, .unset, .unset, .unset] [(.ref b200)])) _
      refine XS.iload X210.here hx rfl (hb hby at_145) rfl ?_
      show Steps p.tables e below (T210.setTop (mkF m 147 #[.val (.int sh), .val (.int tb), .val (.int ma), .val (.int mb), .val (.long cv), .second, .val (.long ov), .second, .val (.int (3 : Int32)), .val (.ref b167), .val (.ref b169), .val (.int ((ma &&& (2147483647 : Int32)) % (4 : Int32))), .val (.int ((mb &&& (2147483647 : Int32)) % (4 : Int32))), .val (.ref b200), .unset, .unset, .unset, .unset] [(.int ((ma &&& (2147483647 : Int32)) % (4 : Int32))), (.ref b200)])) _
      refine XS.lload X210.here hx rfl (hb hby at_147) rfl ?_
      show Steps p.tables e below (T210.setTop (mkF m 149 #[.val (.int sh), .val (.int tb), .val (.int ma), .val (.int mb), .val (.long cv), .second, .val (.long ov), .second, .val (.int (3 : Int32)), .val (.ref b167), .val (.ref b169), .val (.int ((ma &&& (2147483647 : Int32)) % (4 : Int32))), .val (.int ((mb &&& (2147483647 : Int32)) % (4 : Int32))), .val (.ref b200), .unset, .unset, .unset, .unset] [(.long cv), (.int ((ma &&& (2147483647 : Int32)) % (4 : Int32))), (.ref b200)])) _
      refine XS.lload X210.here hx rfl (hb hby at_149) rfl ?_
      show Steps p.tables e below (T210.setTop (mkF m 151 #[.val (.int sh), .val (.int tb), .val (.int ma), .val (.int mb), .val (.long cv), .second, .val (.long ov), .second, .val (.int (3 : Int32)), .val (.ref b167), .val (.ref b169), .val (.int ((ma &&& (2147483647 : Int32)) % (4 : Int32))), .val (.int ((mb &&& (2147483647 : Int32)) % (4 : Int32))), .val (.ref b200), .unset, .unset, .unset, .unset] [(.long ov), (.long cv), (.int ((ma &&& (2147483647 : Int32)) % (4 : Int32))), (.ref b200)])) _
      refine st219.trans ?_
      exact k
    obtain ⟨T236, Lo236, X236, e236, N236, pre236⟩ : ∃ (T' : State) (lo : List Loc), Stand p l e room_1 s m #[(.int sh), (.int tb), (.int ma), (.int mb), (.long cv), (.long ov)] below meth c T' lo 3 11 ∧ T'.heap = T219.heap ∧ Fr n0 lo ∧ ∀ t, Steps p.tables e below (T'.setTop (mkF m 174 #[.val (.int sh), .val (.int tb), .val (.int ma), .val (.int mb), .val (.long cv), .second, .val (.long ov), .second, .val (.int (3 : Int32)), .val (.ref b167), .val (.ref b169), .val (.int ((ma &&& (2147483647 : Int32)) % (4 : Int32))), .val (.int ((mb &&& (2147483647 : Int32)) % (4 : Int32))), .val (.ref b200), .unset, .unset, .unset, .unset] [(.int (j0_154_s0_2 tb ma))])) t → Steps p.tables e below (s₁.setTop (entryFrame m #[(.int sh), (.int tb), (.int ma), (.int mb), (.long cv), (.long ov)] maxLocals)) t := by
      have pre229 : ∀ t, Steps p.tables e below (T219.setTop (mkF m 158 #[.val (.int sh), .val (.int tb), .val (.int ma), .val (.int mb), .val (.long cv), .second, .val (.long ov), .second, .val (.int (3 : Int32)), .val (.ref b167), .val (.ref b169), .val (.int ((ma &&& (2147483647 : Int32)) % (4 : Int32))), .val (.int ((mb &&& (2147483647 : Int32)) % (4 : Int32))), .val (.ref b200), .unset, .unset, .unset, .unset] [(.int (3 : Int32)), (.int ((ma &&& (2147483647 : Int32)) % (4 : Int32)))])) t → Steps p.tables e below (s₁.setTop (entryFrame m #[(.int sh), (.int tb), (.int ma), (.int mb), (.long cv), (.long ov)] maxLocals)) t := by
        intro t k
        refine pre228 _ ?_
        show Steps p.tables e below (T219.setTop (mkF m 154 #[.val (.int sh), .val (.int tb), .val (.int ma), .val (.int mb), .val (.long cv), .second, .val (.long ov), .second, .val (.int (3 : Int32)), .val (.ref b167), .val (.ref b169), .val (.int ((ma &&& (2147483647 : Int32)) % (4 : Int32))), .val (.int ((mb &&& (2147483647 : Int32)) % (4 : Int32))), .val (.ref b200), .unset, .unset, .unset, .unset] [])) _
        refine XS.iload X219.here hx rfl (hb hby at_154) rfl ?_
        show Steps p.tables e below (T219.setTop (mkF m 156 #[.val (.int sh), .val (.int tb), .val (.int ma), .val (.int mb), .val (.long cv), .second, .val (.long ov), .second, .val (.int (3 : Int32)), .val (.ref b167), .val (.ref b169), .val (.int ((ma &&& (2147483647 : Int32)) % (4 : Int32))), .val (.int ((mb &&& (2147483647 : Int32)) % (4 : Int32))), .val (.ref b200), .unset, .unset, .unset, .unset] [(.int ((ma &&& (2147483647 : Int32)) % (4 : Int32)))])) _
        refine XS.iload X219.here hx rfl (hb hby at_156) rfl ?_
        exact k
      by_cases hk230 : ((ma &&& (2147483647 : Int32)) % (4 : Int32)) = (3 : Int32)
      · obtain ⟨_, _, ⟨T231, L231, k231, n231⟩, -, X231, ⟨Lc231, hQ231, l231, y231, z231⟩, st231⟩ := Jvm.LawKit.callS X219 hx (y := (⟨"skipstitch/search/PrefixTableScanResumePinLaw", "entry", "(II)I"⟩ : MethodName)) hown (mvT hZ (hw _ (List.mem_of_getElem? (i := 2) rfl))) (mvT hZ (hw _ (List.mem_of_getElem? (i := 3) rfl))) (mvT hZ (hw _ (List.mem_of_getElem? (i := 4) rfl))) (mvT hZ (hw _ (List.mem_of_getElem? (i := 5) rfl))) (by decide) (backOf (W := 0) (rm1 l Z a0 hw [] tb (2 : Int32) T219.heap n0 Z219 (by decide)) hZ (hw _ (List.mem_of_getElem? (i := 5) rfl)) (hw _ (List.mem_of_getElem? (i := 4) rfl)) (by decide) (by decide)) (g := (mkF m 166 #[.val (.int sh), .val (.int tb), .val (.int ma), .val (.int mb), .val (.long cv), .second, .val (.long ov), .second, .val (.int (3 : Int32)), .val (.ref b167), .val (.ref b169), .val (.int ((ma &&& (2147483647 : Int32)) % (4 : Int32))), .val (.int ((mb &&& (2147483647 : Int32)) % (4 : Int32))), .val (.ref b200), .unset, .unset, .unset, .unset] [(.int (2 : Int32)), (.int tb)])) rfl (by rw [hml]; rfl) (argsL := [(.int tb), (.int (2 : Int32))]) (rest := []) (lenOf pd_0 rfl) rfl (by show 2 * 0 + _ ≤ _; exact Nat.le_of_eq rfl) (hb hby at_166) (fun _ _ => ⟨rfl, rfl, (by decide : 3 + 0 ≤ _), (by decide : 11 + 0 ≤ _)⟩)
        dsimp only [Pt.U, Pt.locs, Pt.cells, Pt.slots] at X231 l231 y231 z231 st231 hQ231
        subst l231 y231 z231
        obtain ⟨rfl, N231q, e231⟩ := hQ231
        have N231 := Fr.app N219 N231q
        have pre232 : ∀ t, Steps p.tables e below (T231.setTop (mkF m 174 #[.val (.int sh), .val (.int tb), .val (.int ma), .val (.int mb), .val (.long cv), .second, .val (.long ov), .second, .val (.int (3 : Int32)), .val (.ref b167), .val (.ref b169), .val (.int ((ma &&& (2147483647 : Int32)) % (4 : Int32))), .val (.int ((mb &&& (2147483647 : Int32)) % (4 : Int32))), .val (.ref b200), .unset, .unset, .unset, .unset] [(.int ((((tb.toUInt32 >>> (((8 : Int32) * (2 : Int32)) &&& 31).toUInt32).toInt32) &&& (255 : Int32)) % ((2 : Int32) + (1 : Int32))))])) t → Steps p.tables e below (s₁.setTop (entryFrame m #[(.int sh), (.int tb), (.int ma), (.int mb), (.long cv), (.long ov)] maxLocals)) t := by
          intro t k
          refine pre229 _ ?_
          show Steps p.tables e below (T219.setTop (mkF m 158 #[.val (.int sh), .val (.int tb), .val (.int ma), .val (.int mb), .val (.long cv), .second, .val (.long ov), .second, .val (.int (3 : Int32)), .val (.ref b167), .val (.ref b169), .val (.int ((ma &&& (2147483647 : Int32)) % (4 : Int32))), .val (.int ((mb &&& (2147483647 : Int32)) % (4 : Int32))), .val (.ref b200), .unset, .unset, .unset, .unset] [(.int (3 : Int32)), (.int ((ma &&& (2147483647 : Int32)) % (4 : Int32)))])) _
          refine XS.icmpNo X219.here hx rfl (hb hby at_158) rfl (teq hk230).2 ?_
          show Steps p.tables e below (T219.setTop (mkF m 161 #[.val (.int sh), .val (.int tb), .val (.int ma), .val (.int mb), .val (.long cv), .second, .val (.long ov), .second, .val (.int (3 : Int32)), .val (.ref b167), .val (.ref b169), .val (.int ((ma &&& (2147483647 : Int32)) % (4 : Int32))), .val (.int ((mb &&& (2147483647 : Int32)) % (4 : Int32))), .val (.ref b200), .unset, .unset, .unset, .unset] [])) _
          refine XS.iloadN X219.here hx rfl (hb hby at_161) rfl ?_
          show Steps p.tables e below (T219.setTop (mkF m 162 #[.val (.int sh), .val (.int tb), .val (.int ma), .val (.int mb), .val (.long cv), .second, .val (.long ov), .second, .val (.int (3 : Int32)), .val (.ref b167), .val (.ref b169), .val (.int ((ma &&& (2147483647 : Int32)) % (4 : Int32))), .val (.int ((mb &&& (2147483647 : Int32)) % (4 : Int32))), .val (.ref b200), .unset, .unset, .unset, .unset] [(.int tb)])) _
          refine XS.iload X219.here hx rfl (hb hby at_162) rfl ?_
          show Steps p.tables e below (T219.setTop (mkF m 164 #[.val (.int sh), .val (.int tb), .val (.int ma), .val (.int mb), .val (.long cv), .second, .val (.long ov), .second, .val (.int (3 : Int32)), .val (.ref b167), .val (.ref b169), .val (.int ((ma &&& (2147483647 : Int32)) % (4 : Int32))), .val (.int ((mb &&& (2147483647 : Int32)) % (4 : Int32))), .val (.ref b200), .unset, .unset, .unset, .unset] [(.int (3 : Int32)), (.int tb)])) _
          refine XS.iconst X219.here hx rfl (hb hby at_164) ?_
          show Steps p.tables e below (T219.setTop (mkF m 165 #[.val (.int sh), .val (.int tb), .val (.int ma), .val (.int mb), .val (.long cv), .second, .val (.long ov), .second, .val (.int (3 : Int32)), .val (.ref b167), .val (.ref b169), .val (.int ((ma &&& (2147483647 : Int32)) % (4 : Int32))), .val (.int ((mb &&& (2147483647 : Int32)) % (4 : Int32))), .val (.ref b200), .unset, .unset, .unset, .unset] [(.int (1 : Int32)), (.int (3 : Int32)), (.int tb)])) _
          refine XS.isub X219.here hx rfl (hb hby at_165) rfl ?_
          show Steps p.tables e below (T219.setTop (mkF m 166 #[.val (.int sh), .val (.int tb), .val (.int ma), .val (.int mb), .val (.long cv), .second, .val (.long ov), .second, .val (.int (3 : Int32)), .val (.ref b167), .val (.ref b169), .val (.int ((ma &&& (2147483647 : Int32)) % (4 : Int32))), .val (.int ((mb &&& (2147483647 : Int32)) % (4 : Int32))), .val (.ref b200), .unset, .unset, .unset, .unset] [(.int (2 : Int32)), (.int tb)])) _
          refine st231 _ ?_
          show Steps p.tables e below (T231.setTop (mkF m 169 #[.val (.int sh), .val (.int tb), .val (.int ma), .val (.int mb), .val (.long cv), .second, .val (.long ov), .second, .val (.int (3 : Int32)), .val (.ref b167), .val (.ref b169), .val (.int ((ma &&& (2147483647 : Int32)) % (4 : Int32))), .val (.int ((mb &&& (2147483647 : Int32)) % (4 : Int32))), .val (.ref b200), .unset, .unset, .unset, .unset] [(.int ((((tb.toUInt32 >>> (((8 : Int32) * (2 : Int32)) &&& 31).toUInt32).toInt32) &&& (255 : Int32)) % ((2 : Int32) + (1 : Int32))))])) _
          refine XS.goto X231.here hx rfl (pc0 := 169) (pc' := 174) rfl (hb hby at_169) (by decide) (by decide) ?_
          exact k
        have ev234 : (j0_154_s0_2 tb ma) = ((((tb.toUInt32 >>> (((8 : Int32) * (2 : Int32)) &&& 31).toUInt32).toInt32) &&& (255 : Int32)) % ((2 : Int32) + (1 : Int32))) := by unfold j0_154_s0_2; rw [if_pos hk230]
        exact ⟨_, _, X231, e231, N231, fun t k => pre232 _ (by rw [ev234] at k; exact k)⟩
      · have pre233 : ∀ t, Steps p.tables e below (T219.setTop (mkF m 174 #[.val (.int sh), .val (.int tb), .val (.int ma), .val (.int mb), .val (.long cv), .second, .val (.long ov), .second, .val (.int (3 : Int32)), .val (.ref b167), .val (.ref b169), .val (.int ((ma &&& (2147483647 : Int32)) % (4 : Int32))), .val (.int ((mb &&& (2147483647 : Int32)) % (4 : Int32))), .val (.ref b200), .unset, .unset, .unset, .unset] [(.int ((ma &&& (2147483647 : Int32)) % (4 : Int32)))])) t → Steps p.tables e below (s₁.setTop (entryFrame m #[(.int sh), (.int tb), (.int ma), (.int mb), (.long cv), (.long ov)] maxLocals)) t := by
          intro t k
          refine pre229 _ ?_
          show Steps p.tables e below (T219.setTop (mkF m 158 #[.val (.int sh), .val (.int tb), .val (.int ma), .val (.int mb), .val (.long cv), .second, .val (.long ov), .second, .val (.int (3 : Int32)), .val (.ref b167), .val (.ref b169), .val (.int ((ma &&& (2147483647 : Int32)) % (4 : Int32))), .val (.int ((mb &&& (2147483647 : Int32)) % (4 : Int32))), .val (.ref b200), .unset, .unset, .unset, .unset] [(.int (3 : Int32)), (.int ((ma &&& (2147483647 : Int32)) % (4 : Int32)))])) _
          refine XS.icmpYes X219.here hx rfl (pc0 := 158) (pc' := 172) rfl (hb hby at_158) rfl (feq hk230).2 (by decide) (by decide) ?_
          show Steps p.tables e below (T219.setTop (mkF m 172 #[.val (.int sh), .val (.int tb), .val (.int ma), .val (.int mb), .val (.long cv), .second, .val (.long ov), .second, .val (.int (3 : Int32)), .val (.ref b167), .val (.ref b169), .val (.int ((ma &&& (2147483647 : Int32)) % (4 : Int32))), .val (.int ((mb &&& (2147483647 : Int32)) % (4 : Int32))), .val (.ref b200), .unset, .unset, .unset, .unset] [])) _
          refine XS.iload X219.here hx rfl (hb hby at_172) rfl ?_
          exact k
        have ev235 : (j0_154_s0_2 tb ma) = ((ma &&& (2147483647 : Int32)) % (4 : Int32)) := by unfold j0_154_s0_2; rw [if_neg hk230]
        exact ⟨_, _, X219, rfl, N219, fun t k => pre233 _ (by rw [ev235] at k; exact k)⟩
    obtain ⟨cq237, kq237, q237a, q237b, q237c⟩ := isOf hZ e236 f227
    obtain ⟨_, _, ⟨T237, L237, k237, n237⟩, -, X237, ⟨Lc237, hQ237, l237, y237, z237⟩, st237⟩ := X236.virtualBack hx (y := (⟨"skipstitch/search/PrefixTableScan", "matched", "()I"⟩ : MethodName)) (z := (⟨"skipstitch/search/PrefixTableScan", "matched", "()I"⟩ : MethodName)) hown (mvT hZ (hw _ (List.mem_of_getElem? (i := 31) rfl))) (mvT hZ (hw _ (List.mem_of_getElem? (i := 32) rfl))) (notFace_of_selects (args := #[]) (mvT hZ (hw _ (List.mem_of_getElem? (i := 34) rfl)))) (mvT hZ (hw _ (List.mem_of_getElem? (i := 34) rfl))) (mvT hZ (hw _ (List.mem_of_getElem? (i := 33) rfl))) (by decide) (backOf (W := 0) (rm5 l Z a0 hw [] b200 (r4k3_matched ((ma &&& (2147483647 : Int32)) % (4 : Int32)) (up (up (up zI 0 ((((tb.toUInt32 >>> (((8 : Int32) * (0 : Int32)) &&& 31).toUInt32).toInt32) &&& (255 : Int32)) % ((0 : Int32) + (1 : Int32)))) 1 ((((tb.toUInt32 >>> (((8 : Int32) * (1 : Int32)) &&& 31).toUInt32).toInt32) &&& (255 : Int32)) % ((1 : Int32) + (1 : Int32)))) 2 ((((tb.toUInt32 >>> (((8 : Int32) * (2 : Int32)) &&& 31).toUInt32).toInt32) &&& (255 : Int32)) % ((2 : Int32) + (1 : Int32))))) T219.heap n0 Z219 f222) hZ (hw _ (List.mem_of_getElem? (i := 35) rfl)) (hw _ (List.mem_of_getElem? (i := 9) rfl)) (by decide) (by decide)) q237a q237c (g := (mkF m 178 #[.val (.int sh), .val (.int tb), .val (.int ma), .val (.int mb), .val (.long cv), .second, .val (.long ov), .second, .val (.int (3 : Int32)), .val (.ref b167), .val (.ref b169), .val (.int ((ma &&& (2147483647 : Int32)) % (4 : Int32))), .val (.int ((mb &&& (2147483647 : Int32)) % (4 : Int32))), .val (.ref b200), .val (.int (j0_154_s0_2 tb ma)), .unset, .unset, .unset] [(.ref b200)])) rfl (by rw [hml]; rfl) (Steps.refl _) (argsL := []) (rest := []) (lenOf pd_3 rfl) rfl (by show 2 * 0 + _ ≤ _; exact Nat.le_of_eq rfl) (hb hby at_178) (fun _ _ => ⟨rfl, e236, (by decide : 3 + 0 ≤ _), (by decide : 11 + 0 ≤ _)⟩)
    dsimp only [Pt.U, Pt.locs, Pt.cells, Pt.slots] at X237 l237 y237 z237 st237 hQ237
    subst l237 y237 z237
    obtain ⟨rfl, N237q, e237⟩ := hQ237
    have N237 := Fr.app N236 N237q
    obtain ⟨cq238, kq238, q238a, q238b, q238c⟩ := isOf hZ e237 f227
    obtain ⟨_, _, ⟨T238, L238, k238, n238⟩, -, X238, ⟨Lc238, hQ238, l238, y238, z238⟩, st238⟩ := X237.virtualBack hx (y := (⟨"skipstitch/search/PrefixTableScan", "comparisons", "()J"⟩ : MethodName)) (z := (⟨"skipstitch/search/PrefixTableScan", "comparisons", "()J"⟩ : MethodName)) hown (mvT hZ (hw _ (List.mem_of_getElem? (i := 36) rfl))) (mvT hZ (hw _ (List.mem_of_getElem? (i := 37) rfl))) (notFace_of_selects (args := #[]) (mvT hZ (hw _ (List.mem_of_getElem? (i := 39) rfl)))) (mvT hZ (hw _ (List.mem_of_getElem? (i := 39) rfl))) (mvT hZ (hw _ (List.mem_of_getElem? (i := 38) rfl))) (by decide) (backOf (W := 0) (rm6 l Z a0 hw [] b200 cv T219.heap n0 Z219 f223) hZ (hw _ (List.mem_of_getElem? (i := 40) rfl)) (hw _ (List.mem_of_getElem? (i := 9) rfl)) (by decide) (by decide)) q238a q238c (g := (mkF m 188 #[.val (.int sh), .val (.int tb), .val (.int ma), .val (.int mb), .val (.long cv), .second, .val (.long ov), .second, .val (.int (3 : Int32)), .val (.ref b167), .val (.ref b169), .val (.int ((ma &&& (2147483647 : Int32)) % (4 : Int32))), .val (.int ((mb &&& (2147483647 : Int32)) % (4 : Int32))), .val (.ref b200), .val (.int (j0_154_s0_2 tb ma)), .unset, .unset, .unset] [(.ref b200)])) rfl (by rw [hml]; rfl) (Steps.refl _) (argsL := []) (rest := []) (lenOf pd_4 rfl) rfl (by show 2 * 0 + _ ≤ _; exact Nat.le_of_eq rfl) (hb hby at_188) (fun _ _ => ⟨rfl, e237, (by decide : 3 + 0 ≤ _), (by decide : 11 + 0 ≤ _)⟩)
    dsimp only [Pt.U, Pt.locs, Pt.cells, Pt.slots] at X238 l238 y238 z238 st238 hQ238
    subst l238 y238 z238
    obtain ⟨rfl, N238q, e238⟩ := hQ238
    have N238 := Fr.app N237 N238q
    obtain ⟨cq239, kq239, q239a, q239b, q239c⟩ := isOf hZ e238 f227
    obtain ⟨_, _, ⟨T239, L239, k239, n239⟩, -, X239, ⟨Lc239, hQ239, l239, y239, z239⟩, st239⟩ := X238.virtualBack hx (y := (⟨"skipstitch/search/PrefixTableScan", "occurrences", "()J"⟩ : MethodName)) (z := (⟨"skipstitch/search/PrefixTableScan", "occurrences", "()J"⟩ : MethodName)) hown (mvT hZ (hw _ (List.mem_of_getElem? (i := 41) rfl))) (mvT hZ (hw _ (List.mem_of_getElem? (i := 42) rfl))) (notFace_of_selects (args := #[]) (mvT hZ (hw _ (List.mem_of_getElem? (i := 44) rfl)))) (mvT hZ (hw _ (List.mem_of_getElem? (i := 44) rfl))) (mvT hZ (hw _ (List.mem_of_getElem? (i := 43) rfl))) (by decide) (backOf (W := 0) (rm7 l Z a0 hw [] b200 ov T219.heap n0 Z219 f224) hZ (hw _ (List.mem_of_getElem? (i := 45) rfl)) (hw _ (List.mem_of_getElem? (i := 9) rfl)) (by decide) (by decide)) q239a q239c (g := (mkF m 199 #[.val (.int sh), .val (.int tb), .val (.int ma), .val (.int mb), .val (.long cv), .second, .val (.long ov), .second, .val (.int (3 : Int32)), .val (.ref b167), .val (.ref b169), .val (.int ((ma &&& (2147483647 : Int32)) % (4 : Int32))), .val (.int ((mb &&& (2147483647 : Int32)) % (4 : Int32))), .val (.ref b200), .val (.int (j0_154_s0_2 tb ma)), .unset, .unset, .unset] [(.ref b200)])) rfl (by rw [hml]; rfl) (Steps.refl _) (argsL := []) (rest := []) (lenOf pd_4 rfl) rfl (by show 2 * 0 + _ ≤ _; exact Nat.le_of_eq rfl) (hb hby at_199) (fun _ _ => ⟨rfl, e238, (by decide : 3 + 0 ≤ _), (by decide : 11 + 0 ≤ _)⟩)
    dsimp only [Pt.U, Pt.locs, Pt.cells, Pt.slots] at X239 l239 y239 z239 st239 hQ239
    subst l239 y239 z239
    obtain ⟨rfl, N239q, e239⟩ := hQ239
    have N239 := Fr.app N238 N239q
    obtain ⟨cq240, kq240, q240a, q240b, q240c⟩ := isOf hZ e239 f227
    obtain ⟨_, _, ⟨T240, L240, k240, n240⟩, -, X240, ⟨Lc240, hQ240, l240, y240, z240⟩, st240⟩ := X239.virtualBack hx (y := (⟨"skipstitch/search/PrefixTableScan", "resume", "(IJJ)V"⟩ : MethodName)) (z := (⟨"skipstitch/search/PrefixTableScan", "resume", "(IJJ)V"⟩ : MethodName)) hown (mvT hZ (hw _ (List.mem_of_getElem? (i := 20) rfl))) (mvT hZ (hw _ (List.mem_of_getElem? (i := 21) rfl))) (notFace_of_selects (args := #[]) (mvT hZ (hw _ (List.mem_of_getElem? (i := 23) rfl)))) (mvT hZ (hw _ (List.mem_of_getElem? (i := 23) rfl))) (mvT hZ (hw _ (List.mem_of_getElem? (i := 22) rfl))) (by decide) (backOf (W := 0) (rm4k3 l Z a0 hw [] b200 ((mb &&& (2147483647 : Int32)) % (4 : Int32)) ov cv b167 b169 (up (up (up zI 0 ((sh >>> ((2 : Int32) &&& 31)).toInt8.toInt32)) 1 ((sh >>> ((10 : Int32) &&& 31)).toInt8.toInt32)) 2 ((sh >>> ((18 : Int32) &&& 31)).toInt8.toInt32)) (up (up (up zI 0 ((((tb.toUInt32 >>> (((8 : Int32) * (0 : Int32)) &&& 31).toUInt32).toInt32) &&& (255 : Int32)) % ((0 : Int32) + (1 : Int32)))) 1 ((((tb.toUInt32 >>> (((8 : Int32) * (1 : Int32)) &&& 31).toUInt32).toInt32) &&& (255 : Int32)) % ((1 : Int32) + (1 : Int32)))) 2 ((((tb.toUInt32 >>> (((8 : Int32) * (2 : Int32)) &&& 31).toUInt32).toInt32) &&& (255 : Int32)) % ((2 : Int32) + (1 : Int32)))) (r4k3_matched ((ma &&& (2147483647 : Int32)) % (4 : Int32)) (up (up (up zI 0 ((((tb.toUInt32 >>> (((8 : Int32) * (0 : Int32)) &&& 31).toUInt32).toInt32) &&& (255 : Int32)) % ((0 : Int32) + (1 : Int32)))) 1 ((((tb.toUInt32 >>> (((8 : Int32) * (1 : Int32)) &&& 31).toUInt32).toInt32) &&& (255 : Int32)) % ((1 : Int32) + (1 : Int32)))) 2 ((((tb.toUInt32 >>> (((8 : Int32) * (2 : Int32)) &&& 31).toUInt32).toInt32) &&& (255 : Int32)) % ((2 : Int32) + (1 : Int32))))) cv ov T219.heap n0 Z219 f227 f220 f221 f225 f226 (Ne.symm ne201) (Ne.symm ne202) f222 f223 f224 gg200) hZ (hw _ (List.mem_of_getElem? (i := 24) rfl)) (hw _ (List.mem_of_getElem? (i := 9) rfl)) (by decide) (by decide)) q240a q240c (g := (mkF m 223 #[.val (.int sh), .val (.int tb), .val (.int ma), .val (.int mb), .val (.long cv), .second, .val (.long ov), .second, .val (.int (3 : Int32)), .val (.ref b167), .val (.ref b169), .val (.int ((ma &&& (2147483647 : Int32)) % (4 : Int32))), .val (.int ((mb &&& (2147483647 : Int32)) % (4 : Int32))), .val (.ref b200), .val (.int (j0_154_s0_2 tb ma)), .val (.int (1 : Int32)), .unset, .unset] [(.long cv), (.long ov), (.int ((mb &&& (2147483647 : Int32)) % (4 : Int32))), (.ref b200)])) rfl (by rw [hml]; rfl) (Steps.refl _) (argsL := [(.int ((mb &&& (2147483647 : Int32)) % (4 : Int32))), (.long ov), (.long cv)]) (rest := []) (lenOf pd_2 rfl) rfl (by show 2 * 0 + _ ≤ _; exact Nat.le_of_eq rfl) (hb hby at_223) (fun _ _ => ⟨rfl, e239, (by decide : 3 + 0 ≤ _), (by decide : 11 + 0 ≤ _)⟩)
    dsimp only [Pt.U, Pt.locs, Pt.cells, Pt.slots] at X240 l240 y240 z240 st240 hQ240
    subst l240 y240 z240
    obtain ⟨rfl, N240q, K240c, f241, f242, f243, f244, f245⟩ := hQ240
    have N240 := Fr.app N239 N240q
    have f246 : AI Z T240.heap b167 .byte 3 (up (up (up zI 0 ((sh >>> ((2 : Int32) &&& 31)).toInt8.toInt32)) 1 ((sh >>> ((10 : Int32) &&& 31)).toInt8.toInt32)) 2 ((sh >>> ((18 : Int32) &&& 31)).toInt8.toInt32)) := f225.keep K240c (ninS ne201 nin0)
    have f247 : AI Z T240.heap b169 .int 3 (up (up (up zI 0 ((((tb.toUInt32 >>> (((8 : Int32) * (0 : Int32)) &&& 31).toUInt32).toInt32) &&& (255 : Int32)) % ((0 : Int32) + (1 : Int32)))) 1 ((((tb.toUInt32 >>> (((8 : Int32) * (1 : Int32)) &&& 31).toUInt32).toInt32) &&& (255 : Int32)) % ((1 : Int32) + (1 : Int32)))) 2 ((((tb.toUInt32 >>> (((8 : Int32) * (2 : Int32)) &&& 31).toUInt32).toInt32) &&& (255 : Int32)) % ((2 : Int32) + (1 : Int32)))) := f226.keep K240c (ninS ne202 nin0)
    have f248 : Exa Z T240.heap b200 "skipstitch/search/PrefixTableScan" := f227.keep K240c
    have Z240 : n0 ≤ T240.heap.size := Nat.le_trans Z219 K240c.1
    have pre249 : ∀ t, Steps p.tables e below (T240.setTop (mkF m 226 #[.val (.int sh), .val (.int tb), .val (.int ma), .val (.int mb), .val (.long cv), .second, .val (.long ov), .second, .val (.int (3 : Int32)), .val (.ref b167), .val (.ref b169), .val (.int ((ma &&& (2147483647 : Int32)) % (4 : Int32))), .val (.int ((mb &&& (2147483647 : Int32)) % (4 : Int32))), .val (.ref b200), .val (.int (j0_154_s0_2 tb ma)), .val (.int (1 : Int32)), .unset, .unset] [])) t → Steps p.tables e below (s₁.setTop (entryFrame m #[(.int sh), (.int tb), (.int ma), (.int mb), (.long cv), (.long ov)] maxLocals)) t := by
      intro t k
      refine pre236 _ ?_
      show Steps p.tables e below (T236.setTop (mkF m 174 #[.val (.int sh), .val (.int tb), .val (.int ma), .val (.int mb), .val (.long cv), .second, .val (.long ov), .second, .val (.int (3 : Int32)), .val (.ref b167), .val (.ref b169), .val (.int ((ma &&& (2147483647 : Int32)) % (4 : Int32))), .val (.int ((mb &&& (2147483647 : Int32)) % (4 : Int32))), .val (.ref b200), .unset, .unset, .unset, .unset] [(.int (j0_154_s0_2 tb ma))])) _
      refine XS.istore X236.here hx rfl (hb hby at_174) rfl (l' := #[.val (.int sh), .val (.int tb), .val (.int ma), .val (.int mb), .val (.long cv), .second, .val (.long ov), .second, .val (.int (3 : Int32)), .val (.ref b167), .val (.ref b169), .val (.int ((ma &&& (2147483647 : Int32)) % (4 : Int32))), .val (.int ((mb &&& (2147483647 : Int32)) % (4 : Int32))), .val (.ref b200), .val (.int (j0_154_s0_2 tb ma)), .unset, .unset, .unset]) rfl ?_
      show Steps p.tables e below (T236.setTop (mkF m 176 #[.val (.int sh), .val (.int tb), .val (.int ma), .val (.int mb), .val (.long cv), .second, .val (.long ov), .second, .val (.int (3 : Int32)), .val (.ref b167), .val (.ref b169), .val (.int ((ma &&& (2147483647 : Int32)) % (4 : Int32))), .val (.int ((mb &&& (2147483647 : Int32)) % (4 : Int32))), .val (.ref b200), .val (.int (j0_154_s0_2 tb ma)), .unset, .unset, .unset] [])) _
      refine XS.aload X236.here hx rfl (hb hby at_176) rfl rfl ?_
      show Steps p.tables e below (T236.setTop (mkF m 178 #[.val (.int sh), .val (.int tb), .val (.int ma), .val (.int mb), .val (.long cv), .second, .val (.long ov), .second, .val (.int (3 : Int32)), .val (.ref b167), .val (.ref b169), .val (.int ((ma &&& (2147483647 : Int32)) % (4 : Int32))), .val (.int ((mb &&& (2147483647 : Int32)) % (4 : Int32))), .val (.ref b200), .val (.int (j0_154_s0_2 tb ma)), .unset, .unset, .unset] [(.ref b200)])) _
      refine st237.trans ?_
      show Steps p.tables e below (T237.setTop (mkF m 181 #[.val (.int sh), .val (.int tb), .val (.int ma), .val (.int mb), .val (.long cv), .second, .val (.long ov), .second, .val (.int (3 : Int32)), .val (.ref b167), .val (.ref b169), .val (.int ((ma &&& (2147483647 : Int32)) % (4 : Int32))), .val (.int ((mb &&& (2147483647 : Int32)) % (4 : Int32))), .val (.ref b200), .val (.int (j0_154_s0_2 tb ma)), .unset, .unset, .unset] [(.int (r4k3_matched ((ma &&& (2147483647 : Int32)) % (4 : Int32)) (up (up (up zI 0 ((((tb.toUInt32 >>> (((8 : Int32) * (0 : Int32)) &&& 31).toUInt32).toInt32) &&& (255 : Int32)) % ((0 : Int32) + (1 : Int32)))) 1 ((((tb.toUInt32 >>> (((8 : Int32) * (1 : Int32)) &&& 31).toUInt32).toInt32) &&& (255 : Int32)) % ((1 : Int32) + (1 : Int32)))) 2 ((((tb.toUInt32 >>> (((8 : Int32) * (2 : Int32)) &&& 31).toUInt32).toInt32) &&& (255 : Int32)) % ((2 : Int32) + (1 : Int32))))))])) _
      refine XS.iload X237.here hx rfl (hb hby at_181) rfl ?_
      show Steps p.tables e below (T237.setTop (mkF m 183 #[.val (.int sh), .val (.int tb), .val (.int ma), .val (.int mb), .val (.long cv), .second, .val (.long ov), .second, .val (.int (3 : Int32)), .val (.ref b167), .val (.ref b169), .val (.int ((ma &&& (2147483647 : Int32)) % (4 : Int32))), .val (.int ((mb &&& (2147483647 : Int32)) % (4 : Int32))), .val (.ref b200), .val (.int (j0_154_s0_2 tb ma)), .unset, .unset, .unset] [(.int (j0_154_s0_2 tb ma)), (.int (r4k3_matched ((ma &&& (2147483647 : Int32)) % (4 : Int32)) (up (up (up zI 0 ((((tb.toUInt32 >>> (((8 : Int32) * (0 : Int32)) &&& 31).toUInt32).toInt32) &&& (255 : Int32)) % ((0 : Int32) + (1 : Int32)))) 1 ((((tb.toUInt32 >>> (((8 : Int32) * (1 : Int32)) &&& 31).toUInt32).toInt32) &&& (255 : Int32)) % ((1 : Int32) + (1 : Int32)))) 2 ((((tb.toUInt32 >>> (((8 : Int32) * (2 : Int32)) &&& 31).toUInt32).toInt32) &&& (255 : Int32)) % ((2 : Int32) + (1 : Int32))))))])) _
      refine XS.icmpNo X237.here hx rfl (hb hby at_183) rfl (teq (rfl : ((r4k3_matched ((ma &&& (2147483647 : Int32)) % (4 : Int32)) (up (up (up zI 0 ((((tb.toUInt32 >>> (((8 : Int32) * (0 : Int32)) &&& 31).toUInt32).toInt32) &&& (255 : Int32)) % ((0 : Int32) + (1 : Int32)))) 1 ((((tb.toUInt32 >>> (((8 : Int32) * (1 : Int32)) &&& 31).toUInt32).toInt32) &&& (255 : Int32)) % ((1 : Int32) + (1 : Int32)))) 2 ((((tb.toUInt32 >>> (((8 : Int32) * (2 : Int32)) &&& 31).toUInt32).toInt32) &&& (255 : Int32)) % ((2 : Int32) + (1 : Int32))))) = (j0_154_s0_2 tb ma)))).2 ?_
      show Steps p.tables e below (T237.setTop (mkF m 186 #[.val (.int sh), .val (.int tb), .val (.int ma), .val (.int mb), .val (.long cv), .second, .val (.long ov), .second, .val (.int (3 : Int32)), .val (.ref b167), .val (.ref b169), .val (.int ((ma &&& (2147483647 : Int32)) % (4 : Int32))), .val (.int ((mb &&& (2147483647 : Int32)) % (4 : Int32))), .val (.ref b200), .val (.int (j0_154_s0_2 tb ma)), .unset, .unset, .unset] [])) _
      refine XS.aload X237.here hx rfl (hb hby at_186) rfl rfl ?_
      show Steps p.tables e below (T237.setTop (mkF m 188 #[.val (.int sh), .val (.int tb), .val (.int ma), .val (.int mb), .val (.long cv), .second, .val (.long ov), .second, .val (.int (3 : Int32)), .val (.ref b167), .val (.ref b169), .val (.int ((ma &&& (2147483647 : Int32)) % (4 : Int32))), .val (.int ((mb &&& (2147483647 : Int32)) % (4 : Int32))), .val (.ref b200), .val (.int (j0_154_s0_2 tb ma)), .unset, .unset, .unset] [(.ref b200)])) _
      refine st238.trans ?_
      show Steps p.tables e below (T238.setTop (mkF m 191 #[.val (.int sh), .val (.int tb), .val (.int ma), .val (.int mb), .val (.long cv), .second, .val (.long ov), .second, .val (.int (3 : Int32)), .val (.ref b167), .val (.ref b169), .val (.int ((ma &&& (2147483647 : Int32)) % (4 : Int32))), .val (.int ((mb &&& (2147483647 : Int32)) % (4 : Int32))), .val (.ref b200), .val (.int (j0_154_s0_2 tb ma)), .unset, .unset, .unset] [(.long cv)])) _
      refine XS.lload X238.here hx rfl (hb hby at_191) rfl ?_
      show Steps p.tables e below (T238.setTop (mkF m 193 #[.val (.int sh), .val (.int tb), .val (.int ma), .val (.int mb), .val (.long cv), .second, .val (.long ov), .second, .val (.int (3 : Int32)), .val (.ref b167), .val (.ref b169), .val (.int ((ma &&& (2147483647 : Int32)) % (4 : Int32))), .val (.int ((mb &&& (2147483647 : Int32)) % (4 : Int32))), .val (.ref b200), .val (.int (j0_154_s0_2 tb ma)), .unset, .unset, .unset] [(.long cv), (.long cv)])) _
      refine XS.lcmp X238.here hx rfl (hb hby at_193) rfl ?_
      show Steps p.tables e below (T238.setTop (mkF m 194 #[.val (.int sh), .val (.int tb), .val (.int ma), .val (.int mb), .val (.long cv), .second, .val (.long ov), .second, .val (.int (3 : Int32)), .val (.ref b167), .val (.ref b169), .val (.int ((ma &&& (2147483647 : Int32)) % (4 : Int32))), .val (.int ((mb &&& (2147483647 : Int32)) % (4 : Int32))), .val (.ref b200), .val (.int (j0_154_s0_2 tb ma)), .unset, .unset, .unset] [(.int (lcmpW cv cv))])) _
      refine XS.ifNo X238.here hx rfl (hb hby at_194) rfl (own_teqL (rfl : cv = cv)).2 ?_
      show Steps p.tables e below (T238.setTop (mkF m 197 #[.val (.int sh), .val (.int tb), .val (.int ma), .val (.int mb), .val (.long cv), .second, .val (.long ov), .second, .val (.int (3 : Int32)), .val (.ref b167), .val (.ref b169), .val (.int ((ma &&& (2147483647 : Int32)) % (4 : Int32))), .val (.int ((mb &&& (2147483647 : Int32)) % (4 : Int32))), .val (.ref b200), .val (.int (j0_154_s0_2 tb ma)), .unset, .unset, .unset] [])) _
      refine XS.aload X238.here hx rfl (hb hby at_197) rfl rfl ?_
      show Steps p.tables e below (T238.setTop (mkF m 199 #[.val (.int sh), .val (.int tb), .val (.int ma), .val (.int mb), .val (.long cv), .second, .val (.long ov), .second, .val (.int (3 : Int32)), .val (.ref b167), .val (.ref b169), .val (.int ((ma &&& (2147483647 : Int32)) % (4 : Int32))), .val (.int ((mb &&& (2147483647 : Int32)) % (4 : Int32))), .val (.ref b200), .val (.int (j0_154_s0_2 tb ma)), .unset, .unset, .unset] [(.ref b200)])) _
      refine st239.trans ?_
      show Steps p.tables e below (T239.setTop (mkF m 202 #[.val (.int sh), .val (.int tb), .val (.int ma), .val (.int mb), .val (.long cv), .second, .val (.long ov), .second, .val (.int (3 : Int32)), .val (.ref b167), .val (.ref b169), .val (.int ((ma &&& (2147483647 : Int32)) % (4 : Int32))), .val (.int ((mb &&& (2147483647 : Int32)) % (4 : Int32))), .val (.ref b200), .val (.int (j0_154_s0_2 tb ma)), .unset, .unset, .unset] [(.long ov)])) _
      refine XS.lload X239.here hx rfl (hb hby at_202) rfl ?_
      show Steps p.tables e below (T239.setTop (mkF m 204 #[.val (.int sh), .val (.int tb), .val (.int ma), .val (.int mb), .val (.long cv), .second, .val (.long ov), .second, .val (.int (3 : Int32)), .val (.ref b167), .val (.ref b169), .val (.int ((ma &&& (2147483647 : Int32)) % (4 : Int32))), .val (.int ((mb &&& (2147483647 : Int32)) % (4 : Int32))), .val (.ref b200), .val (.int (j0_154_s0_2 tb ma)), .unset, .unset, .unset] [(.long ov), (.long ov)])) _
      refine XS.lcmp X239.here hx rfl (hb hby at_204) rfl ?_
      show Steps p.tables e below (T239.setTop (mkF m 205 #[.val (.int sh), .val (.int tb), .val (.int ma), .val (.int mb), .val (.long cv), .second, .val (.long ov), .second, .val (.int (3 : Int32)), .val (.ref b167), .val (.ref b169), .val (.int ((ma &&& (2147483647 : Int32)) % (4 : Int32))), .val (.int ((mb &&& (2147483647 : Int32)) % (4 : Int32))), .val (.ref b200), .val (.int (j0_154_s0_2 tb ma)), .unset, .unset, .unset] [(.int (lcmpW ov ov))])) _
      refine XS.ifNo X239.here hx rfl (hb hby at_205) rfl (own_teqL (rfl : ov = ov)).2 ?_
      show Steps p.tables e below (T239.setTop (mkF m 208 #[.val (.int sh), .val (.int tb), .val (.int ma), .val (.int mb), .val (.long cv), .second, .val (.long ov), .second, .val (.int (3 : Int32)), .val (.ref b167), .val (.ref b169), .val (.int ((ma &&& (2147483647 : Int32)) % (4 : Int32))), .val (.int ((mb &&& (2147483647 : Int32)) % (4 : Int32))), .val (.ref b200), .val (.int (j0_154_s0_2 tb ma)), .unset, .unset, .unset] [])) _
      refine XS.iconst X239.here hx rfl (hb hby at_208) ?_
      show Steps p.tables e below (T239.setTop (mkF m 209 #[.val (.int sh), .val (.int tb), .val (.int ma), .val (.int mb), .val (.long cv), .second, .val (.long ov), .second, .val (.int (3 : Int32)), .val (.ref b167), .val (.ref b169), .val (.int ((ma &&& (2147483647 : Int32)) % (4 : Int32))), .val (.int ((mb &&& (2147483647 : Int32)) % (4 : Int32))), .val (.ref b200), .val (.int (j0_154_s0_2 tb ma)), .unset, .unset, .unset] [(.int (1 : Int32))])) _
      refine XS.goto X239.here hx rfl (pc0 := 209) (pc' := 213) rfl (hb hby at_209) (by decide) (by decide) ?_
      show Steps p.tables e below (T239.setTop (mkF m 213 #[.val (.int sh), .val (.int tb), .val (.int ma), .val (.int mb), .val (.long cv), .second, .val (.long ov), .second, .val (.int (3 : Int32)), .val (.ref b167), .val (.ref b169), .val (.int ((ma &&& (2147483647 : Int32)) % (4 : Int32))), .val (.int ((mb &&& (2147483647 : Int32)) % (4 : Int32))), .val (.ref b200), .val (.int (j0_154_s0_2 tb ma)), .unset, .unset, .unset] [(.int (1 : Int32))])) _
      refine XS.istore X239.here hx rfl (hb hby at_213) rfl (l' := #[.val (.int sh), .val (.int tb), .val (.int ma), .val (.int mb), .val (.long cv), .second, .val (.long ov), .second, .val (.int (3 : Int32)), .val (.ref b167), .val (.ref b169), .val (.int ((ma &&& (2147483647 : Int32)) % (4 : Int32))), .val (.int ((mb &&& (2147483647 : Int32)) % (4 : Int32))), .val (.ref b200), .val (.int (j0_154_s0_2 tb ma)), .val (.int (1 : Int32)), .unset, .unset]) rfl ?_
      show Steps p.tables e below (T239.setTop (mkF m 215 #[.val (.int sh), .val (.int tb), .val (.int ma), .val (.int mb), .val (.long cv), .second, .val (.long ov), .second, .val (.int (3 : Int32)), .val (.ref b167), .val (.ref b169), .val (.int ((ma &&& (2147483647 : Int32)) % (4 : Int32))), .val (.int ((mb &&& (2147483647 : Int32)) % (4 : Int32))), .val (.ref b200), .val (.int (j0_154_s0_2 tb ma)), .val (.int (1 : Int32)), .unset, .unset] [])) _
      refine XS.aload X239.here hx rfl (hb hby at_215) rfl rfl ?_
      show Steps p.tables e below (T239.setTop (mkF m 217 #[.val (.int sh), .val (.int tb), .val (.int ma), .val (.int mb), .val (.long cv), .second, .val (.long ov), .second, .val (.int (3 : Int32)), .val (.ref b167), .val (.ref b169), .val (.int ((ma &&& (2147483647 : Int32)) % (4 : Int32))), .val (.int ((mb &&& (2147483647 : Int32)) % (4 : Int32))), .val (.ref b200), .val (.int (j0_154_s0_2 tb ma)), .val (.int (1 : Int32)), .unset, .unset] [(.ref b200)])) _
      refine XS.iload X239.here hx rfl (hb hby at_217) rfl ?_
      show Steps p.tables e below (T239.setTop (mkF m 219 #[.val (.int sh), .val (.int tb), .val (.int ma), .val (.int mb), .val (.long cv), .second, .val (.long ov), .second, .val (.int (3 : Int32)), .val (.ref b167), .val (.ref b169), .val (.int ((ma &&& (2147483647 : Int32)) % (4 : Int32))), .val (.int ((mb &&& (2147483647 : Int32)) % (4 : Int32))), .val (.ref b200), .val (.int (j0_154_s0_2 tb ma)), .val (.int (1 : Int32)), .unset, .unset] [(.int ((mb &&& (2147483647 : Int32)) % (4 : Int32))), (.ref b200)])) _
      refine XS.lload X239.here hx rfl (hb hby at_219) rfl ?_
      show Steps p.tables e below (T239.setTop (mkF m 221 #[.val (.int sh), .val (.int tb), .val (.int ma), .val (.int mb), .val (.long cv), .second, .val (.long ov), .second, .val (.int (3 : Int32)), .val (.ref b167), .val (.ref b169), .val (.int ((ma &&& (2147483647 : Int32)) % (4 : Int32))), .val (.int ((mb &&& (2147483647 : Int32)) % (4 : Int32))), .val (.ref b200), .val (.int (j0_154_s0_2 tb ma)), .val (.int (1 : Int32)), .unset, .unset] [(.long ov), (.int ((mb &&& (2147483647 : Int32)) % (4 : Int32))), (.ref b200)])) _
      refine XS.lload X239.here hx rfl (hb hby at_221) rfl ?_
      show Steps p.tables e below (T239.setTop (mkF m 223 #[.val (.int sh), .val (.int tb), .val (.int ma), .val (.int mb), .val (.long cv), .second, .val (.long ov), .second, .val (.int (3 : Int32)), .val (.ref b167), .val (.ref b169), .val (.int ((ma &&& (2147483647 : Int32)) % (4 : Int32))), .val (.int ((mb &&& (2147483647 : Int32)) % (4 : Int32))), .val (.ref b200), .val (.int (j0_154_s0_2 tb ma)), .val (.int (1 : Int32)), .unset, .unset] [(.long cv), (.long ov), (.int ((mb &&& (2147483647 : Int32)) % (4 : Int32))), (.ref b200)])) _
      refine st240.trans ?_
      exact k
    obtain ⟨T257, Lo257, X257, e257, N257, pre257⟩ : ∃ (T' : State) (lo : List Loc), Stand p l e room_1 s m #[(.int sh), (.int tb), (.int ma), (.int mb), (.long cv), (.long ov)] below meth c T' lo 3 11 ∧ T'.heap = T240.heap ∧ Fr n0 lo ∧ ∀ t, Steps p.tables e below (T'.setTop (mkF m 246 #[.val (.int sh), .val (.int tb), .val (.int ma), .val (.int mb), .val (.long cv), .second, .val (.long ov), .second, .val (.int (3 : Int32)), .val (.ref b167), .val (.ref b169), .val (.int ((ma &&& (2147483647 : Int32)) % (4 : Int32))), .val (.int ((mb &&& (2147483647 : Int32)) % (4 : Int32))), .val (.ref b200), .val (.int (j0_154_s0_2 tb ma)), .val (.int (1 : Int32)), .unset, .unset] [(.int (j0_226_s0_2 tb mb))])) t → Steps p.tables e below (s₁.setTop (entryFrame m #[(.int sh), (.int tb), (.int ma), (.int mb), (.long cv), (.long ov)] maxLocals)) t := by
      have pre250 : ∀ t, Steps p.tables e below (T240.setTop (mkF m 230 #[.val (.int sh), .val (.int tb), .val (.int ma), .val (.int mb), .val (.long cv), .second, .val (.long ov), .second, .val (.int (3 : Int32)), .val (.ref b167), .val (.ref b169), .val (.int ((ma &&& (2147483647 : Int32)) % (4 : Int32))), .val (.int ((mb &&& (2147483647 : Int32)) % (4 : Int32))), .val (.ref b200), .val (.int (j0_154_s0_2 tb ma)), .val (.int (1 : Int32)), .unset, .unset] [(.int (3 : Int32)), (.int ((mb &&& (2147483647 : Int32)) % (4 : Int32)))])) t → Steps p.tables e below (s₁.setTop (entryFrame m #[(.int sh), (.int tb), (.int ma), (.int mb), (.long cv), (.long ov)] maxLocals)) t := by
        intro t k
        refine pre249 _ ?_
        show Steps p.tables e below (T240.setTop (mkF m 226 #[.val (.int sh), .val (.int tb), .val (.int ma), .val (.int mb), .val (.long cv), .second, .val (.long ov), .second, .val (.int (3 : Int32)), .val (.ref b167), .val (.ref b169), .val (.int ((ma &&& (2147483647 : Int32)) % (4 : Int32))), .val (.int ((mb &&& (2147483647 : Int32)) % (4 : Int32))), .val (.ref b200), .val (.int (j0_154_s0_2 tb ma)), .val (.int (1 : Int32)), .unset, .unset] [])) _
        refine XS.iload X240.here hx rfl (hb hby at_226) rfl ?_
        show Steps p.tables e below (T240.setTop (mkF m 228 #[.val (.int sh), .val (.int tb), .val (.int ma), .val (.int mb), .val (.long cv), .second, .val (.long ov), .second, .val (.int (3 : Int32)), .val (.ref b167), .val (.ref b169), .val (.int ((ma &&& (2147483647 : Int32)) % (4 : Int32))), .val (.int ((mb &&& (2147483647 : Int32)) % (4 : Int32))), .val (.ref b200), .val (.int (j0_154_s0_2 tb ma)), .val (.int (1 : Int32)), .unset, .unset] [(.int ((mb &&& (2147483647 : Int32)) % (4 : Int32)))])) _
        refine XS.iload X240.here hx rfl (hb hby at_228) rfl ?_
        exact k
      by_cases hk251 : ((mb &&& (2147483647 : Int32)) % (4 : Int32)) = (3 : Int32)
      · obtain ⟨_, _, ⟨T252, L252, k252, n252⟩, -, X252, ⟨Lc252, hQ252, l252, y252, z252⟩, st252⟩ := Jvm.LawKit.callS X240 hx (y := (⟨"skipstitch/search/PrefixTableScanResumePinLaw", "entry", "(II)I"⟩ : MethodName)) hown (mvT hZ (hw _ (List.mem_of_getElem? (i := 2) rfl))) (mvT hZ (hw _ (List.mem_of_getElem? (i := 3) rfl))) (mvT hZ (hw _ (List.mem_of_getElem? (i := 4) rfl))) (mvT hZ (hw _ (List.mem_of_getElem? (i := 5) rfl))) (by decide) (backOf (W := 0) (rm1 l Z a0 hw [] tb (2 : Int32) T240.heap n0 Z240 (by decide)) hZ (hw _ (List.mem_of_getElem? (i := 5) rfl)) (hw _ (List.mem_of_getElem? (i := 4) rfl)) (by decide) (by decide)) (g := (mkF m 238 #[.val (.int sh), .val (.int tb), .val (.int ma), .val (.int mb), .val (.long cv), .second, .val (.long ov), .second, .val (.int (3 : Int32)), .val (.ref b167), .val (.ref b169), .val (.int ((ma &&& (2147483647 : Int32)) % (4 : Int32))), .val (.int ((mb &&& (2147483647 : Int32)) % (4 : Int32))), .val (.ref b200), .val (.int (j0_154_s0_2 tb ma)), .val (.int (1 : Int32)), .unset, .unset] [(.int (2 : Int32)), (.int tb)])) rfl (by rw [hml]; rfl) (argsL := [(.int tb), (.int (2 : Int32))]) (rest := []) (lenOf pd_0 rfl) rfl (by show 2 * 0 + _ ≤ _; exact Nat.le_of_eq rfl) (hb hby at_238) (fun _ _ => ⟨rfl, rfl, (by decide : 3 + 0 ≤ _), (by decide : 11 + 0 ≤ _)⟩)
        dsimp only [Pt.U, Pt.locs, Pt.cells, Pt.slots] at X252 l252 y252 z252 st252 hQ252
        subst l252 y252 z252
        obtain ⟨rfl, N252q, e252⟩ := hQ252
        have N252 := Fr.app N240 N252q
        have pre253 : ∀ t, Steps p.tables e below (T252.setTop (mkF m 246 #[.val (.int sh), .val (.int tb), .val (.int ma), .val (.int mb), .val (.long cv), .second, .val (.long ov), .second, .val (.int (3 : Int32)), .val (.ref b167), .val (.ref b169), .val (.int ((ma &&& (2147483647 : Int32)) % (4 : Int32))), .val (.int ((mb &&& (2147483647 : Int32)) % (4 : Int32))), .val (.ref b200), .val (.int (j0_154_s0_2 tb ma)), .val (.int (1 : Int32)), .unset, .unset] [(.int ((((tb.toUInt32 >>> (((8 : Int32) * (2 : Int32)) &&& 31).toUInt32).toInt32) &&& (255 : Int32)) % ((2 : Int32) + (1 : Int32))))])) t → Steps p.tables e below (s₁.setTop (entryFrame m #[(.int sh), (.int tb), (.int ma), (.int mb), (.long cv), (.long ov)] maxLocals)) t := by
          intro t k
          refine pre250 _ ?_
          show Steps p.tables e below (T240.setTop (mkF m 230 #[.val (.int sh), .val (.int tb), .val (.int ma), .val (.int mb), .val (.long cv), .second, .val (.long ov), .second, .val (.int (3 : Int32)), .val (.ref b167), .val (.ref b169), .val (.int ((ma &&& (2147483647 : Int32)) % (4 : Int32))), .val (.int ((mb &&& (2147483647 : Int32)) % (4 : Int32))), .val (.ref b200), .val (.int (j0_154_s0_2 tb ma)), .val (.int (1 : Int32)), .unset, .unset] [(.int (3 : Int32)), (.int ((mb &&& (2147483647 : Int32)) % (4 : Int32)))])) _
          refine XS.icmpNo X240.here hx rfl (hb hby at_230) rfl (teq hk251).2 ?_
          show Steps p.tables e below (T240.setTop (mkF m 233 #[.val (.int sh), .val (.int tb), .val (.int ma), .val (.int mb), .val (.long cv), .second, .val (.long ov), .second, .val (.int (3 : Int32)), .val (.ref b167), .val (.ref b169), .val (.int ((ma &&& (2147483647 : Int32)) % (4 : Int32))), .val (.int ((mb &&& (2147483647 : Int32)) % (4 : Int32))), .val (.ref b200), .val (.int (j0_154_s0_2 tb ma)), .val (.int (1 : Int32)), .unset, .unset] [])) _
          refine XS.iloadN X240.here hx rfl (hb hby at_233) rfl ?_
          show Steps p.tables e below (T240.setTop (mkF m 234 #[.val (.int sh), .val (.int tb), .val (.int ma), .val (.int mb), .val (.long cv), .second, .val (.long ov), .second, .val (.int (3 : Int32)), .val (.ref b167), .val (.ref b169), .val (.int ((ma &&& (2147483647 : Int32)) % (4 : Int32))), .val (.int ((mb &&& (2147483647 : Int32)) % (4 : Int32))), .val (.ref b200), .val (.int (j0_154_s0_2 tb ma)), .val (.int (1 : Int32)), .unset, .unset] [(.int tb)])) _
          refine XS.iload X240.here hx rfl (hb hby at_234) rfl ?_
          show Steps p.tables e below (T240.setTop (mkF m 236 #[.val (.int sh), .val (.int tb), .val (.int ma), .val (.int mb), .val (.long cv), .second, .val (.long ov), .second, .val (.int (3 : Int32)), .val (.ref b167), .val (.ref b169), .val (.int ((ma &&& (2147483647 : Int32)) % (4 : Int32))), .val (.int ((mb &&& (2147483647 : Int32)) % (4 : Int32))), .val (.ref b200), .val (.int (j0_154_s0_2 tb ma)), .val (.int (1 : Int32)), .unset, .unset] [(.int (3 : Int32)), (.int tb)])) _
          refine XS.iconst X240.here hx rfl (hb hby at_236) ?_
          show Steps p.tables e below (T240.setTop (mkF m 237 #[.val (.int sh), .val (.int tb), .val (.int ma), .val (.int mb), .val (.long cv), .second, .val (.long ov), .second, .val (.int (3 : Int32)), .val (.ref b167), .val (.ref b169), .val (.int ((ma &&& (2147483647 : Int32)) % (4 : Int32))), .val (.int ((mb &&& (2147483647 : Int32)) % (4 : Int32))), .val (.ref b200), .val (.int (j0_154_s0_2 tb ma)), .val (.int (1 : Int32)), .unset, .unset] [(.int (1 : Int32)), (.int (3 : Int32)), (.int tb)])) _
          refine XS.isub X240.here hx rfl (hb hby at_237) rfl ?_
          show Steps p.tables e below (T240.setTop (mkF m 238 #[.val (.int sh), .val (.int tb), .val (.int ma), .val (.int mb), .val (.long cv), .second, .val (.long ov), .second, .val (.int (3 : Int32)), .val (.ref b167), .val (.ref b169), .val (.int ((ma &&& (2147483647 : Int32)) % (4 : Int32))), .val (.int ((mb &&& (2147483647 : Int32)) % (4 : Int32))), .val (.ref b200), .val (.int (j0_154_s0_2 tb ma)), .val (.int (1 : Int32)), .unset, .unset] [(.int (2 : Int32)), (.int tb)])) _
          refine st252 _ ?_
          show Steps p.tables e below (T252.setTop (mkF m 241 #[.val (.int sh), .val (.int tb), .val (.int ma), .val (.int mb), .val (.long cv), .second, .val (.long ov), .second, .val (.int (3 : Int32)), .val (.ref b167), .val (.ref b169), .val (.int ((ma &&& (2147483647 : Int32)) % (4 : Int32))), .val (.int ((mb &&& (2147483647 : Int32)) % (4 : Int32))), .val (.ref b200), .val (.int (j0_154_s0_2 tb ma)), .val (.int (1 : Int32)), .unset, .unset] [(.int ((((tb.toUInt32 >>> (((8 : Int32) * (2 : Int32)) &&& 31).toUInt32).toInt32) &&& (255 : Int32)) % ((2 : Int32) + (1 : Int32))))])) _
          refine XS.goto X252.here hx rfl (pc0 := 241) (pc' := 246) rfl (hb hby at_241) (by decide) (by decide) ?_
          exact k
        have ev255 : (j0_226_s0_2 tb mb) = ((((tb.toUInt32 >>> (((8 : Int32) * (2 : Int32)) &&& 31).toUInt32).toInt32) &&& (255 : Int32)) % ((2 : Int32) + (1 : Int32))) := by unfold j0_226_s0_2; rw [if_pos hk251]
        exact ⟨_, _, X252, e252, N252, fun t k => pre253 _ (by rw [ev255] at k; exact k)⟩
      · have pre254 : ∀ t, Steps p.tables e below (T240.setTop (mkF m 246 #[.val (.int sh), .val (.int tb), .val (.int ma), .val (.int mb), .val (.long cv), .second, .val (.long ov), .second, .val (.int (3 : Int32)), .val (.ref b167), .val (.ref b169), .val (.int ((ma &&& (2147483647 : Int32)) % (4 : Int32))), .val (.int ((mb &&& (2147483647 : Int32)) % (4 : Int32))), .val (.ref b200), .val (.int (j0_154_s0_2 tb ma)), .val (.int (1 : Int32)), .unset, .unset] [(.int ((mb &&& (2147483647 : Int32)) % (4 : Int32)))])) t → Steps p.tables e below (s₁.setTop (entryFrame m #[(.int sh), (.int tb), (.int ma), (.int mb), (.long cv), (.long ov)] maxLocals)) t := by
          intro t k
          refine pre250 _ ?_
          show Steps p.tables e below (T240.setTop (mkF m 230 #[.val (.int sh), .val (.int tb), .val (.int ma), .val (.int mb), .val (.long cv), .second, .val (.long ov), .second, .val (.int (3 : Int32)), .val (.ref b167), .val (.ref b169), .val (.int ((ma &&& (2147483647 : Int32)) % (4 : Int32))), .val (.int ((mb &&& (2147483647 : Int32)) % (4 : Int32))), .val (.ref b200), .val (.int (j0_154_s0_2 tb ma)), .val (.int (1 : Int32)), .unset, .unset] [(.int (3 : Int32)), (.int ((mb &&& (2147483647 : Int32)) % (4 : Int32)))])) _
          refine XS.icmpYes X240.here hx rfl (pc0 := 230) (pc' := 244) rfl (hb hby at_230) rfl (feq hk251).2 (by decide) (by decide) ?_
          show Steps p.tables e below (T240.setTop (mkF m 244 #[.val (.int sh), .val (.int tb), .val (.int ma), .val (.int mb), .val (.long cv), .second, .val (.long ov), .second, .val (.int (3 : Int32)), .val (.ref b167), .val (.ref b169), .val (.int ((ma &&& (2147483647 : Int32)) % (4 : Int32))), .val (.int ((mb &&& (2147483647 : Int32)) % (4 : Int32))), .val (.ref b200), .val (.int (j0_154_s0_2 tb ma)), .val (.int (1 : Int32)), .unset, .unset] [])) _
          refine XS.iload X240.here hx rfl (hb hby at_244) rfl ?_
          exact k
        have ev256 : (j0_226_s0_2 tb mb) = ((mb &&& (2147483647 : Int32)) % (4 : Int32)) := by unfold j0_226_s0_2; rw [if_neg hk251]
        exact ⟨_, _, X240, rfl, N240, fun t k => pre254 _ (by rw [ev256] at k; exact k)⟩
    obtain ⟨cq258, kq258, q258a, q258b, q258c⟩ := isOf hZ e257 f248
    obtain ⟨_, _, ⟨T258, L258, k258, n258⟩, -, X258, ⟨Lc258, hQ258, l258, y258, z258⟩, st258⟩ := X257.virtualBack hx (y := (⟨"skipstitch/search/PrefixTableScan", "matched", "()I"⟩ : MethodName)) (z := (⟨"skipstitch/search/PrefixTableScan", "matched", "()I"⟩ : MethodName)) hown (mvT hZ (hw _ (List.mem_of_getElem? (i := 31) rfl))) (mvT hZ (hw _ (List.mem_of_getElem? (i := 32) rfl))) (notFace_of_selects (args := #[]) (mvT hZ (hw _ (List.mem_of_getElem? (i := 34) rfl)))) (mvT hZ (hw _ (List.mem_of_getElem? (i := 34) rfl))) (mvT hZ (hw _ (List.mem_of_getElem? (i := 33) rfl))) (by decide) (backOf (W := 0) (rm5 l Z a0 hw [] b200 (r4k3_matched ((mb &&& (2147483647 : Int32)) % (4 : Int32)) (up (up (up zI 0 ((((tb.toUInt32 >>> (((8 : Int32) * (0 : Int32)) &&& 31).toUInt32).toInt32) &&& (255 : Int32)) % ((0 : Int32) + (1 : Int32)))) 1 ((((tb.toUInt32 >>> (((8 : Int32) * (1 : Int32)) &&& 31).toUInt32).toInt32) &&& (255 : Int32)) % ((1 : Int32) + (1 : Int32)))) 2 ((((tb.toUInt32 >>> (((8 : Int32) * (2 : Int32)) &&& 31).toUInt32).toInt32) &&& (255 : Int32)) % ((2 : Int32) + (1 : Int32))))) T240.heap n0 Z240 f243) hZ (hw _ (List.mem_of_getElem? (i := 35) rfl)) (hw _ (List.mem_of_getElem? (i := 9) rfl)) (by decide) (by decide)) q258a q258c (g := (mkF m 250 #[.val (.int sh), .val (.int tb), .val (.int ma), .val (.int mb), .val (.long cv), .second, .val (.long ov), .second, .val (.int (3 : Int32)), .val (.ref b167), .val (.ref b169), .val (.int ((ma &&& (2147483647 : Int32)) % (4 : Int32))), .val (.int ((mb &&& (2147483647 : Int32)) % (4 : Int32))), .val (.ref b200), .val (.int (j0_154_s0_2 tb ma)), .val (.int (1 : Int32)), .val (.int (j0_226_s0_2 tb mb)), .unset] [(.ref b200)])) rfl (by rw [hml]; rfl) (Steps.refl _) (argsL := []) (rest := []) (lenOf pd_3 rfl) rfl (by show 2 * 0 + _ ≤ _; exact Nat.le_of_eq rfl) (hb hby at_250) (fun _ _ => ⟨rfl, e257, (by decide : 3 + 0 ≤ _), (by decide : 11 + 0 ≤ _)⟩)
    dsimp only [Pt.U, Pt.locs, Pt.cells, Pt.slots] at X258 l258 y258 z258 st258 hQ258
    subst l258 y258 z258
    obtain ⟨rfl, N258q, e258⟩ := hQ258
    have N258 := Fr.app N257 N258q
    obtain ⟨cq259, kq259, q259a, q259b, q259c⟩ := isOf hZ e258 f248
    obtain ⟨_, _, ⟨T259, L259, k259, n259⟩, -, X259, ⟨Lc259, hQ259, l259, y259, z259⟩, st259⟩ := X258.virtualBack hx (y := (⟨"skipstitch/search/PrefixTableScan", "comparisons", "()J"⟩ : MethodName)) (z := (⟨"skipstitch/search/PrefixTableScan", "comparisons", "()J"⟩ : MethodName)) hown (mvT hZ (hw _ (List.mem_of_getElem? (i := 36) rfl))) (mvT hZ (hw _ (List.mem_of_getElem? (i := 37) rfl))) (notFace_of_selects (args := #[]) (mvT hZ (hw _ (List.mem_of_getElem? (i := 39) rfl)))) (mvT hZ (hw _ (List.mem_of_getElem? (i := 39) rfl))) (mvT hZ (hw _ (List.mem_of_getElem? (i := 38) rfl))) (by decide) (backOf (W := 0) (rm6 l Z a0 hw [] b200 ov T240.heap n0 Z240 f244) hZ (hw _ (List.mem_of_getElem? (i := 40) rfl)) (hw _ (List.mem_of_getElem? (i := 9) rfl)) (by decide) (by decide)) q259a q259c (g := (mkF m 260 #[.val (.int sh), .val (.int tb), .val (.int ma), .val (.int mb), .val (.long cv), .second, .val (.long ov), .second, .val (.int (3 : Int32)), .val (.ref b167), .val (.ref b169), .val (.int ((ma &&& (2147483647 : Int32)) % (4 : Int32))), .val (.int ((mb &&& (2147483647 : Int32)) % (4 : Int32))), .val (.ref b200), .val (.int (j0_154_s0_2 tb ma)), .val (.int (1 : Int32)), .val (.int (j0_226_s0_2 tb mb)), .unset] [(.ref b200)])) rfl (by rw [hml]; rfl) (Steps.refl _) (argsL := []) (rest := []) (lenOf pd_4 rfl) rfl (by show 2 * 0 + _ ≤ _; exact Nat.le_of_eq rfl) (hb hby at_260) (fun _ _ => ⟨rfl, e258, (by decide : 3 + 0 ≤ _), (by decide : 11 + 0 ≤ _)⟩)
    dsimp only [Pt.U, Pt.locs, Pt.cells, Pt.slots] at X259 l259 y259 z259 st259 hQ259
    subst l259 y259 z259
    obtain ⟨rfl, N259q, e259⟩ := hQ259
    have N259 := Fr.app N258 N259q
    obtain ⟨cq260, kq260, q260a, q260b, q260c⟩ := isOf hZ e259 f248
    obtain ⟨_, _, ⟨T260, L260, k260, n260⟩, -, X260, ⟨Lc260, hQ260, l260, y260, z260⟩, st260⟩ := X259.virtualBack hx (y := (⟨"skipstitch/search/PrefixTableScan", "occurrences", "()J"⟩ : MethodName)) (z := (⟨"skipstitch/search/PrefixTableScan", "occurrences", "()J"⟩ : MethodName)) hown (mvT hZ (hw _ (List.mem_of_getElem? (i := 41) rfl))) (mvT hZ (hw _ (List.mem_of_getElem? (i := 42) rfl))) (notFace_of_selects (args := #[]) (mvT hZ (hw _ (List.mem_of_getElem? (i := 44) rfl)))) (mvT hZ (hw _ (List.mem_of_getElem? (i := 44) rfl))) (mvT hZ (hw _ (List.mem_of_getElem? (i := 43) rfl))) (by decide) (backOf (W := 0) (rm7 l Z a0 hw [] b200 cv T240.heap n0 Z240 f245) hZ (hw _ (List.mem_of_getElem? (i := 45) rfl)) (hw _ (List.mem_of_getElem? (i := 9) rfl)) (by decide) (by decide)) q260a q260c (g := (mkF m 271 #[.val (.int sh), .val (.int tb), .val (.int ma), .val (.int mb), .val (.long cv), .second, .val (.long ov), .second, .val (.int (3 : Int32)), .val (.ref b167), .val (.ref b169), .val (.int ((ma &&& (2147483647 : Int32)) % (4 : Int32))), .val (.int ((mb &&& (2147483647 : Int32)) % (4 : Int32))), .val (.ref b200), .val (.int (j0_154_s0_2 tb ma)), .val (.int (1 : Int32)), .val (.int (j0_226_s0_2 tb mb)), .unset] [(.ref b200)])) rfl (by rw [hml]; rfl) (Steps.refl _) (argsL := []) (rest := []) (lenOf pd_4 rfl) rfl (by show 2 * 0 + _ ≤ _; exact Nat.le_of_eq rfl) (hb hby at_271) (fun _ _ => ⟨rfl, e259, (by decide : 3 + 0 ≤ _), (by decide : 11 + 0 ≤ _)⟩)
    dsimp only [Pt.U, Pt.locs, Pt.cells, Pt.slots] at X260 l260 y260 z260 st260 hQ260
    subst l260 y260 z260
    obtain ⟨rfl, N260q, e260⟩ := hQ260
    have N260 := Fr.app N259 N260q
    obtain ⟨fs, hr, hrun, hended, hW, hsame⟩ := X260.leave (v := some (.int (1 : Int32))) (fun h => by rw [Bd.returns] at h; cases h)
    refine ⟨_, _, pre257 _ ?_, hrun, hended, _, _, rfl, ?_, ⟨_, rfl⟩, hW, hsame.mono (by decide) (by decide)⟩
    · show Steps p.tables e below (T257.setTop (mkF m 246 #[.val (.int sh), .val (.int tb), .val (.int ma), .val (.int mb), .val (.long cv), .second, .val (.long ov), .second, .val (.int (3 : Int32)), .val (.ref b167), .val (.ref b169), .val (.int ((ma &&& (2147483647 : Int32)) % (4 : Int32))), .val (.int ((mb &&& (2147483647 : Int32)) % (4 : Int32))), .val (.ref b200), .val (.int (j0_154_s0_2 tb ma)), .val (.int (1 : Int32)), .unset, .unset] [(.int (j0_226_s0_2 tb mb))])) _
      refine XS.istore X257.here hx rfl (hb hby at_246) rfl (l' := #[.val (.int sh), .val (.int tb), .val (.int ma), .val (.int mb), .val (.long cv), .second, .val (.long ov), .second, .val (.int (3 : Int32)), .val (.ref b167), .val (.ref b169), .val (.int ((ma &&& (2147483647 : Int32)) % (4 : Int32))), .val (.int ((mb &&& (2147483647 : Int32)) % (4 : Int32))), .val (.ref b200), .val (.int (j0_154_s0_2 tb ma)), .val (.int (1 : Int32)), .val (.int (j0_226_s0_2 tb mb)), .unset]) rfl ?_
      show Steps p.tables e below (T257.setTop (mkF m 248 #[.val (.int sh), .val (.int tb), .val (.int ma), .val (.int mb), .val (.long cv), .second, .val (.long ov), .second, .val (.int (3 : Int32)), .val (.ref b167), .val (.ref b169), .val (.int ((ma &&& (2147483647 : Int32)) % (4 : Int32))), .val (.int ((mb &&& (2147483647 : Int32)) % (4 : Int32))), .val (.ref b200), .val (.int (j0_154_s0_2 tb ma)), .val (.int (1 : Int32)), .val (.int (j0_226_s0_2 tb mb)), .unset] [])) _
      refine XS.aload X257.here hx rfl (hb hby at_248) rfl rfl ?_
      show Steps p.tables e below (T257.setTop (mkF m 250 #[.val (.int sh), .val (.int tb), .val (.int ma), .val (.int mb), .val (.long cv), .second, .val (.long ov), .second, .val (.int (3 : Int32)), .val (.ref b167), .val (.ref b169), .val (.int ((ma &&& (2147483647 : Int32)) % (4 : Int32))), .val (.int ((mb &&& (2147483647 : Int32)) % (4 : Int32))), .val (.ref b200), .val (.int (j0_154_s0_2 tb ma)), .val (.int (1 : Int32)), .val (.int (j0_226_s0_2 tb mb)), .unset] [(.ref b200)])) _
      refine st258.trans ?_
      show Steps p.tables e below (T258.setTop (mkF m 253 #[.val (.int sh), .val (.int tb), .val (.int ma), .val (.int mb), .val (.long cv), .second, .val (.long ov), .second, .val (.int (3 : Int32)), .val (.ref b167), .val (.ref b169), .val (.int ((ma &&& (2147483647 : Int32)) % (4 : Int32))), .val (.int ((mb &&& (2147483647 : Int32)) % (4 : Int32))), .val (.ref b200), .val (.int (j0_154_s0_2 tb ma)), .val (.int (1 : Int32)), .val (.int (j0_226_s0_2 tb mb)), .unset] [(.int (r4k3_matched ((mb &&& (2147483647 : Int32)) % (4 : Int32)) (up (up (up zI 0 ((((tb.toUInt32 >>> (((8 : Int32) * (0 : Int32)) &&& 31).toUInt32).toInt32) &&& (255 : Int32)) % ((0 : Int32) + (1 : Int32)))) 1 ((((tb.toUInt32 >>> (((8 : Int32) * (1 : Int32)) &&& 31).toUInt32).toInt32) &&& (255 : Int32)) % ((1 : Int32) + (1 : Int32)))) 2 ((((tb.toUInt32 >>> (((8 : Int32) * (2 : Int32)) &&& 31).toUInt32).toInt32) &&& (255 : Int32)) % ((2 : Int32) + (1 : Int32))))))])) _
      refine XS.iload X258.here hx rfl (hb hby at_253) rfl ?_
      show Steps p.tables e below (T258.setTop (mkF m 255 #[.val (.int sh), .val (.int tb), .val (.int ma), .val (.int mb), .val (.long cv), .second, .val (.long ov), .second, .val (.int (3 : Int32)), .val (.ref b167), .val (.ref b169), .val (.int ((ma &&& (2147483647 : Int32)) % (4 : Int32))), .val (.int ((mb &&& (2147483647 : Int32)) % (4 : Int32))), .val (.ref b200), .val (.int (j0_154_s0_2 tb ma)), .val (.int (1 : Int32)), .val (.int (j0_226_s0_2 tb mb)), .unset] [(.int (j0_226_s0_2 tb mb)), (.int (r4k3_matched ((mb &&& (2147483647 : Int32)) % (4 : Int32)) (up (up (up zI 0 ((((tb.toUInt32 >>> (((8 : Int32) * (0 : Int32)) &&& 31).toUInt32).toInt32) &&& (255 : Int32)) % ((0 : Int32) + (1 : Int32)))) 1 ((((tb.toUInt32 >>> (((8 : Int32) * (1 : Int32)) &&& 31).toUInt32).toInt32) &&& (255 : Int32)) % ((1 : Int32) + (1 : Int32)))) 2 ((((tb.toUInt32 >>> (((8 : Int32) * (2 : Int32)) &&& 31).toUInt32).toInt32) &&& (255 : Int32)) % ((2 : Int32) + (1 : Int32))))))])) _
      refine XS.icmpNo X258.here hx rfl (hb hby at_255) rfl (teq (rfl : ((r4k3_matched ((mb &&& (2147483647 : Int32)) % (4 : Int32)) (up (up (up zI 0 ((((tb.toUInt32 >>> (((8 : Int32) * (0 : Int32)) &&& 31).toUInt32).toInt32) &&& (255 : Int32)) % ((0 : Int32) + (1 : Int32)))) 1 ((((tb.toUInt32 >>> (((8 : Int32) * (1 : Int32)) &&& 31).toUInt32).toInt32) &&& (255 : Int32)) % ((1 : Int32) + (1 : Int32)))) 2 ((((tb.toUInt32 >>> (((8 : Int32) * (2 : Int32)) &&& 31).toUInt32).toInt32) &&& (255 : Int32)) % ((2 : Int32) + (1 : Int32))))) = (j0_226_s0_2 tb mb)))).2 ?_
      show Steps p.tables e below (T258.setTop (mkF m 258 #[.val (.int sh), .val (.int tb), .val (.int ma), .val (.int mb), .val (.long cv), .second, .val (.long ov), .second, .val (.int (3 : Int32)), .val (.ref b167), .val (.ref b169), .val (.int ((ma &&& (2147483647 : Int32)) % (4 : Int32))), .val (.int ((mb &&& (2147483647 : Int32)) % (4 : Int32))), .val (.ref b200), .val (.int (j0_154_s0_2 tb ma)), .val (.int (1 : Int32)), .val (.int (j0_226_s0_2 tb mb)), .unset] [])) _
      refine XS.aload X258.here hx rfl (hb hby at_258) rfl rfl ?_
      show Steps p.tables e below (T258.setTop (mkF m 260 #[.val (.int sh), .val (.int tb), .val (.int ma), .val (.int mb), .val (.long cv), .second, .val (.long ov), .second, .val (.int (3 : Int32)), .val (.ref b167), .val (.ref b169), .val (.int ((ma &&& (2147483647 : Int32)) % (4 : Int32))), .val (.int ((mb &&& (2147483647 : Int32)) % (4 : Int32))), .val (.ref b200), .val (.int (j0_154_s0_2 tb ma)), .val (.int (1 : Int32)), .val (.int (j0_226_s0_2 tb mb)), .unset] [(.ref b200)])) _
      refine st259.trans ?_
      show Steps p.tables e below (T259.setTop (mkF m 263 #[.val (.int sh), .val (.int tb), .val (.int ma), .val (.int mb), .val (.long cv), .second, .val (.long ov), .second, .val (.int (3 : Int32)), .val (.ref b167), .val (.ref b169), .val (.int ((ma &&& (2147483647 : Int32)) % (4 : Int32))), .val (.int ((mb &&& (2147483647 : Int32)) % (4 : Int32))), .val (.ref b200), .val (.int (j0_154_s0_2 tb ma)), .val (.int (1 : Int32)), .val (.int (j0_226_s0_2 tb mb)), .unset] [(.long ov)])) _
      refine XS.lload X259.here hx rfl (hb hby at_263) rfl ?_
      show Steps p.tables e below (T259.setTop (mkF m 265 #[.val (.int sh), .val (.int tb), .val (.int ma), .val (.int mb), .val (.long cv), .second, .val (.long ov), .second, .val (.int (3 : Int32)), .val (.ref b167), .val (.ref b169), .val (.int ((ma &&& (2147483647 : Int32)) % (4 : Int32))), .val (.int ((mb &&& (2147483647 : Int32)) % (4 : Int32))), .val (.ref b200), .val (.int (j0_154_s0_2 tb ma)), .val (.int (1 : Int32)), .val (.int (j0_226_s0_2 tb mb)), .unset] [(.long ov), (.long ov)])) _
      refine XS.lcmp X259.here hx rfl (hb hby at_265) rfl ?_
      show Steps p.tables e below (T259.setTop (mkF m 266 #[.val (.int sh), .val (.int tb), .val (.int ma), .val (.int mb), .val (.long cv), .second, .val (.long ov), .second, .val (.int (3 : Int32)), .val (.ref b167), .val (.ref b169), .val (.int ((ma &&& (2147483647 : Int32)) % (4 : Int32))), .val (.int ((mb &&& (2147483647 : Int32)) % (4 : Int32))), .val (.ref b200), .val (.int (j0_154_s0_2 tb ma)), .val (.int (1 : Int32)), .val (.int (j0_226_s0_2 tb mb)), .unset] [(.int (lcmpW ov ov))])) _
      refine XS.ifNo X259.here hx rfl (hb hby at_266) rfl (own_teqL (rfl : ov = ov)).2 ?_
      show Steps p.tables e below (T259.setTop (mkF m 269 #[.val (.int sh), .val (.int tb), .val (.int ma), .val (.int mb), .val (.long cv), .second, .val (.long ov), .second, .val (.int (3 : Int32)), .val (.ref b167), .val (.ref b169), .val (.int ((ma &&& (2147483647 : Int32)) % (4 : Int32))), .val (.int ((mb &&& (2147483647 : Int32)) % (4 : Int32))), .val (.ref b200), .val (.int (j0_154_s0_2 tb ma)), .val (.int (1 : Int32)), .val (.int (j0_226_s0_2 tb mb)), .unset] [])) _
      refine XS.aload X259.here hx rfl (hb hby at_269) rfl rfl ?_
      show Steps p.tables e below (T259.setTop (mkF m 271 #[.val (.int sh), .val (.int tb), .val (.int ma), .val (.int mb), .val (.long cv), .second, .val (.long ov), .second, .val (.int (3 : Int32)), .val (.ref b167), .val (.ref b169), .val (.int ((ma &&& (2147483647 : Int32)) % (4 : Int32))), .val (.int ((mb &&& (2147483647 : Int32)) % (4 : Int32))), .val (.ref b200), .val (.int (j0_154_s0_2 tb ma)), .val (.int (1 : Int32)), .val (.int (j0_226_s0_2 tb mb)), .unset] [(.ref b200)])) _
      refine st260.trans ?_
      show Steps p.tables e below (T260.setTop (mkF m 274 #[.val (.int sh), .val (.int tb), .val (.int ma), .val (.int mb), .val (.long cv), .second, .val (.long ov), .second, .val (.int (3 : Int32)), .val (.ref b167), .val (.ref b169), .val (.int ((ma &&& (2147483647 : Int32)) % (4 : Int32))), .val (.int ((mb &&& (2147483647 : Int32)) % (4 : Int32))), .val (.ref b200), .val (.int (j0_154_s0_2 tb ma)), .val (.int (1 : Int32)), .val (.int (j0_226_s0_2 tb mb)), .unset] [(.long cv)])) _
      refine XS.lload X260.here hx rfl (hb hby at_274) rfl ?_
      show Steps p.tables e below (T260.setTop (mkF m 276 #[.val (.int sh), .val (.int tb), .val (.int ma), .val (.int mb), .val (.long cv), .second, .val (.long ov), .second, .val (.int (3 : Int32)), .val (.ref b167), .val (.ref b169), .val (.int ((ma &&& (2147483647 : Int32)) % (4 : Int32))), .val (.int ((mb &&& (2147483647 : Int32)) % (4 : Int32))), .val (.ref b200), .val (.int (j0_154_s0_2 tb ma)), .val (.int (1 : Int32)), .val (.int (j0_226_s0_2 tb mb)), .unset] [(.long cv), (.long cv)])) _
      refine XS.lcmp X260.here hx rfl (hb hby at_276) rfl ?_
      show Steps p.tables e below (T260.setTop (mkF m 277 #[.val (.int sh), .val (.int tb), .val (.int ma), .val (.int mb), .val (.long cv), .second, .val (.long ov), .second, .val (.int (3 : Int32)), .val (.ref b167), .val (.ref b169), .val (.int ((ma &&& (2147483647 : Int32)) % (4 : Int32))), .val (.int ((mb &&& (2147483647 : Int32)) % (4 : Int32))), .val (.ref b200), .val (.int (j0_154_s0_2 tb ma)), .val (.int (1 : Int32)), .val (.int (j0_226_s0_2 tb mb)), .unset] [(.int (lcmpW cv cv))])) _
      refine XS.ifNo X260.here hx rfl (hb hby at_277) rfl (own_teqL (rfl : cv = cv)).2 ?_
      show Steps p.tables e below (T260.setTop (mkF m 280 #[.val (.int sh), .val (.int tb), .val (.int ma), .val (.int mb), .val (.long cv), .second, .val (.long ov), .second, .val (.int (3 : Int32)), .val (.ref b167), .val (.ref b169), .val (.int ((ma &&& (2147483647 : Int32)) % (4 : Int32))), .val (.int ((mb &&& (2147483647 : Int32)) % (4 : Int32))), .val (.ref b200), .val (.int (j0_154_s0_2 tb ma)), .val (.int (1 : Int32)), .val (.int (j0_226_s0_2 tb mb)), .unset] [])) _
      refine XS.iconst X260.here hx rfl (hb hby at_280) ?_
      show Steps p.tables e below (T260.setTop (mkF m 281 #[.val (.int sh), .val (.int tb), .val (.int ma), .val (.int mb), .val (.long cv), .second, .val (.long ov), .second, .val (.int (3 : Int32)), .val (.ref b167), .val (.ref b169), .val (.int ((ma &&& (2147483647 : Int32)) % (4 : Int32))), .val (.int ((mb &&& (2147483647 : Int32)) % (4 : Int32))), .val (.ref b200), .val (.int (j0_154_s0_2 tb ma)), .val (.int (1 : Int32)), .val (.int (j0_226_s0_2 tb mb)), .unset] [(.int (1 : Int32))])) _
      refine XS.goto X260.here hx rfl (pc0 := 281) (pc' := 285) rfl (hb hby at_281) (by decide) (by decide) ?_
      show Steps p.tables e below (T260.setTop (mkF m 285 #[.val (.int sh), .val (.int tb), .val (.int ma), .val (.int mb), .val (.long cv), .second, .val (.long ov), .second, .val (.int (3 : Int32)), .val (.ref b167), .val (.ref b169), .val (.int ((ma &&& (2147483647 : Int32)) % (4 : Int32))), .val (.int ((mb &&& (2147483647 : Int32)) % (4 : Int32))), .val (.ref b200), .val (.int (j0_154_s0_2 tb ma)), .val (.int (1 : Int32)), .val (.int (j0_226_s0_2 tb mb)), .unset] [(.int (1 : Int32))])) _
      refine XS.istore X260.here hx rfl (hb hby at_285) rfl (l' := #[.val (.int sh), .val (.int tb), .val (.int ma), .val (.int mb), .val (.long cv), .second, .val (.long ov), .second, .val (.int (3 : Int32)), .val (.ref b167), .val (.ref b169), .val (.int ((ma &&& (2147483647 : Int32)) % (4 : Int32))), .val (.int ((mb &&& (2147483647 : Int32)) % (4 : Int32))), .val (.ref b200), .val (.int (j0_154_s0_2 tb ma)), .val (.int (1 : Int32)), .val (.int (j0_226_s0_2 tb mb)), .val (.int (1 : Int32))]) rfl ?_
      show Steps p.tables e below (T260.setTop (mkF m 287 #[.val (.int sh), .val (.int tb), .val (.int ma), .val (.int mb), .val (.long cv), .second, .val (.long ov), .second, .val (.int (3 : Int32)), .val (.ref b167), .val (.ref b169), .val (.int ((ma &&& (2147483647 : Int32)) % (4 : Int32))), .val (.int ((mb &&& (2147483647 : Int32)) % (4 : Int32))), .val (.ref b200), .val (.int (j0_154_s0_2 tb ma)), .val (.int (1 : Int32)), .val (.int (j0_226_s0_2 tb mb)), .val (.int (1 : Int32))] [])) _
      refine XS.iload X260.here hx rfl (hb hby at_287) rfl ?_
      show Steps p.tables e below (T260.setTop (mkF m 289 #[.val (.int sh), .val (.int tb), .val (.int ma), .val (.int mb), .val (.long cv), .second, .val (.long ov), .second, .val (.int (3 : Int32)), .val (.ref b167), .val (.ref b169), .val (.int ((ma &&& (2147483647 : Int32)) % (4 : Int32))), .val (.int ((mb &&& (2147483647 : Int32)) % (4 : Int32))), .val (.ref b200), .val (.int (j0_154_s0_2 tb ma)), .val (.int (1 : Int32)), .val (.int (j0_226_s0_2 tb mb)), .val (.int (1 : Int32))] [(.int (1 : Int32))])) _
      refine XS.ifNo X260.here hx rfl (hb hby at_289) rfl ((if0 _ _).trans (feq (by decide : ¬ ((1 : Int32) = (0 : Int32)))).1) ?_
      show Steps p.tables e below (T260.setTop (mkF m 292 #[.val (.int sh), .val (.int tb), .val (.int ma), .val (.int mb), .val (.long cv), .second, .val (.long ov), .second, .val (.int (3 : Int32)), .val (.ref b167), .val (.ref b169), .val (.int ((ma &&& (2147483647 : Int32)) % (4 : Int32))), .val (.int ((mb &&& (2147483647 : Int32)) % (4 : Int32))), .val (.ref b200), .val (.int (j0_154_s0_2 tb ma)), .val (.int (1 : Int32)), .val (.int (j0_226_s0_2 tb mb)), .val (.int (1 : Int32))] [])) _
      refine XS.iload X260.here hx rfl (hb hby at_292) rfl ?_
      show Steps p.tables e below (T260.setTop (mkF m 294 #[.val (.int sh), .val (.int tb), .val (.int ma), .val (.int mb), .val (.long cv), .second, .val (.long ov), .second, .val (.int (3 : Int32)), .val (.ref b167), .val (.ref b169), .val (.int ((ma &&& (2147483647 : Int32)) % (4 : Int32))), .val (.int ((mb &&& (2147483647 : Int32)) % (4 : Int32))), .val (.ref b200), .val (.int (j0_154_s0_2 tb ma)), .val (.int (1 : Int32)), .val (.int (j0_226_s0_2 tb mb)), .val (.int (1 : Int32))] [(.int (1 : Int32))])) _
      refine XS.ifNo X260.here hx rfl (hb hby at_294) rfl ((if0 _ _).trans (feq (by decide : ¬ ((1 : Int32) = (0 : Int32)))).1) ?_
      show Steps p.tables e below (T260.setTop (mkF m 297 #[.val (.int sh), .val (.int tb), .val (.int ma), .val (.int mb), .val (.long cv), .second, .val (.long ov), .second, .val (.int (3 : Int32)), .val (.ref b167), .val (.ref b169), .val (.int ((ma &&& (2147483647 : Int32)) % (4 : Int32))), .val (.int ((mb &&& (2147483647 : Int32)) % (4 : Int32))), .val (.ref b200), .val (.int (j0_154_s0_2 tb ma)), .val (.int (1 : Int32)), .val (.int (j0_226_s0_2 tb mb)), .val (.int (1 : Int32))] [])) _
      refine XS.iconst X260.here hx rfl (hb hby at_297) ?_
      show Steps p.tables e below (T260.setTop (mkF m 298 #[.val (.int sh), .val (.int tb), .val (.int ma), .val (.int mb), .val (.long cv), .second, .val (.long ov), .second, .val (.int (3 : Int32)), .val (.ref b167), .val (.ref b169), .val (.int ((ma &&& (2147483647 : Int32)) % (4 : Int32))), .val (.int ((mb &&& (2147483647 : Int32)) % (4 : Int32))), .val (.ref b200), .val (.int (j0_154_s0_2 tb ma)), .val (.int (1 : Int32)), .val (.int (j0_226_s0_2 tb mb)), .val (.int (1 : Int32))] [(.int (1 : Int32))])) _
      refine XS.goto X260.here hx rfl (pc0 := 298) (pc' := 302) rfl (hb hby at_298) (by decide) (by decide) ?_
      show Steps p.tables e below (T260.setTop (mkF m 302 #[.val (.int sh), .val (.int tb), .val (.int ma), .val (.int mb), .val (.long cv), .second, .val (.long ov), .second, .val (.int (3 : Int32)), .val (.ref b167), .val (.ref b169), .val (.int ((ma &&& (2147483647 : Int32)) % (4 : Int32))), .val (.int ((mb &&& (2147483647 : Int32)) % (4 : Int32))), .val (.ref b200), .val (.int (j0_154_s0_2 tb ma)), .val (.int (1 : Int32)), .val (.int (j0_226_s0_2 tb mb)), .val (.int (1 : Int32))] [(.int (1 : Int32))])) _
      exact retN X260 hx (t := .boolean) Bd.returns (by simp) (hb hby at_302) hr
    · show Q0 Z sh tb ma mb cv ov h0 n0 _ T260.heap _
      rw [e260]
      exact ⟨rfl, N260⟩
  · have pre261 : ∀ t, Steps p.tables e below (s₁.setTop (mkF m 5 #[.val (.int sh), .val (.int tb), .val (.int ma), .val (.int mb), .val (.long cv), .second, .val (.long ov), .second, .unset, .unset, .unset, .unset, .unset, .unset, .unset, .unset, .unset, .unset] [(.int (4 : Int32))])) t → Steps p.tables e below (s₁.setTop (entryFrame m #[(.int sh), (.int tb), (.int ma), (.int mb), (.long cv), (.long ov)] maxLocals)) t := by
      intro t k
      refine pre1 _ ?_
      rw [hk2]
      exact k
    obtain ⟨T262, h262, k262, X262, e262, E262, A262, st262⟩ := newP X0 hx hZ (hw _ (List.mem_of_getElem? (i := 0) rfl)) e0 (g := (mkF m 9 #[.val (.int sh), .val (.int tb), .val (.int ma), .val (.int mb), .val (.long cv), .second, .val (.long ov), .second, .val (.int (4 : Int32)), .unset, .unset, .unset, .unset, .unset, .unset, .unset, .unset, .unset] [(.int (4 : Int32))])) rfl (hb hby at_9) rfl (by decide) (cap := 4) (by decide) (by decide) (by decide) (by decide)
    obtain ⟨b262, g262⟩ : ∃ z, z = h0.size := ⟨_, rfl⟩
    rw [← g262] at A262 st262
    have gg262 : n0 ≤ b262 := Nat.le_trans Z0 (Nat.le_of_eq g262.symm)
    have Z262 : n0 ≤ h262.size := Nat.le_trans Z0 E262.1
    have f263 : AI Z h262 b262 .byte 4 zI := AF.new A262 (by decide)
    obtain ⟨T264, h264, k264, X264, e264, E264, A264, st264⟩ := newP X262 hx hZ (hw _ (List.mem_of_getElem? (i := 1) rfl)) e262 (g := (mkF m 15 #[.val (.int sh), .val (.int tb), .val (.int ma), .val (.int mb), .val (.long cv), .second, .val (.long ov), .second, .val (.int (4 : Int32)), .val (.ref b262), .unset, .unset, .unset, .unset, .unset, .unset, .unset, .unset] [(.int (4 : Int32))])) rfl (hb hby at_15) rfl (by decide) (cap := 4) (by decide) (by decide) (by decide) (by decide)
    obtain ⟨b264, g264⟩ : ∃ z, z = h262.size := ⟨_, rfl⟩
    rw [← g264] at A264 st264
    have ne265 : b262 ≠ b264 := Nat.ne_of_lt (Nat.lt_of_lt_of_le f263.lt (Nat.le_of_eq g264.symm))
    have gg264 : n0 ≤ b264 := Nat.le_trans Z262 (Nat.le_of_eq g264.symm)
    have f266 : AI Z h264 b262 .byte 4 zI := f263.ext E264
    have Z264 : n0 ≤ h264.size := Nat.le_trans Z262 E264.1
    have f267 : AI Z h264 b264 .int 4 zI := AF.new A264 (by decide)
    obtain ⟨cl268, Arcl268, hincl268, -⟩ := AF.at f266 (j := (0 : Int32)) 0 (by decide) (by decide)
    obtain ⟨T269, h269, X269, e269, W269, st269⟩ := stB X264 hx hZ e264 Arcl268 (j := (0 : Int32)) hincl268 (g := (mkF m 26 #[.val (.int sh), .val (.int tb), .val (.int ma), .val (.int mb), .val (.long cv), .second, .val (.long ov), .second, .val (.int (4 : Int32)), .val (.ref b262), .val (.ref b264), .unset, .unset, .unset, .unset, .unset, .unset, .unset] [(.int ((sh >>> ((2 : Int32) &&& 31)).toInt8.toInt32)), (.int (0 : Int32)), (.ref b262)])) rfl rfl (hb hby at_26)
    rw [own_nb] at W269
    have N269 := Fr.snoc X269 N0 gg262
    have Z269 : n0 ≤ h269.size := Nat.le_trans Z264 (Keep.of_wr W269).1
    have f270 : AI Z h269 b262 .byte 4 (up zI 0 ((sh >>> ((2 : Int32) &&& 31)).toInt8.toInt32)) := AF.setI f266 W269 0 (by decide)
    have f271 : AI Z h269 b264 .int 4 zI := f267.other W269 (Ne.symm ne265)
    obtain ⟨_, _, ⟨T272, L272, k272, n272⟩, -, X272, ⟨Lc272, hQ272, l272, y272, z272⟩, st272⟩ := Jvm.LawKit.callS X269 hx (y := (⟨"skipstitch/search/PrefixTableScanResumePinLaw", "entry", "(II)I"⟩ : MethodName)) hown (mvT hZ (hw _ (List.mem_of_getElem? (i := 2) rfl))) (mvT hZ (hw _ (List.mem_of_getElem? (i := 3) rfl))) (mvT hZ (hw _ (List.mem_of_getElem? (i := 4) rfl))) (mvT hZ (hw _ (List.mem_of_getElem? (i := 5) rfl))) (by decide) (backOf (W := 2) (rm1 l Z a0 hw [] tb (0 : Int32) h269 n0 Z269 (by decide)) hZ (hw _ (List.mem_of_getElem? (i := 5) rfl)) (hw _ (List.mem_of_getElem? (i := 4) rfl)) (by decide) (by decide)) (g := (mkF m 32 #[.val (.int sh), .val (.int tb), .val (.int ma), .val (.int mb), .val (.long cv), .second, .val (.long ov), .second, .val (.int (4 : Int32)), .val (.ref b262), .val (.ref b264), .unset, .unset, .unset, .unset, .unset, .unset, .unset] [(.int (0 : Int32)), (.int tb), (.int (0 : Int32)), (.ref b264)])) rfl (by rw [hml]; rfl) (argsL := [(.int tb), (.int (0 : Int32))]) (rest := [(.int (0 : Int32)), (.ref b264)]) (lenOf pd_0 rfl) rfl (by show 2 * 0 + _ ≤ _; exact Nat.le_of_eq rfl) (hb hby at_32) (fun _ _ => ⟨rfl, e269, (by decide : 2 + 0 ≤ _), (by decide : 8 + 0 ≤ _)⟩)
    dsimp only [Pt.U, Pt.locs, Pt.cells, Pt.slots] at X272 l272 y272 z272 st272 hQ272
    subst l272 y272 z272
    obtain ⟨rfl, N272q, e272⟩ := hQ272
    have N272 := Fr.app N269 N272q
    obtain ⟨cl273, Arcl273, hincl273, -⟩ := AF.at f271 (j := (0 : Int32)) 0 (by decide) (by decide)
    obtain ⟨T274, h274, X274, e274, W274, st274⟩ := stI X272 hx hZ e272 Arcl273 (j := (0 : Int32)) hincl273 (g := (mkF m 35 #[.val (.int sh), .val (.int tb), .val (.int ma), .val (.int mb), .val (.long cv), .second, .val (.long ov), .second, .val (.int (4 : Int32)), .val (.ref b262), .val (.ref b264), .unset, .unset, .unset, .unset, .unset, .unset, .unset] [(.int ((((tb.toUInt32 >>> (((8 : Int32) * (0 : Int32)) &&& 31).toUInt32).toInt32) &&& (255 : Int32)) % ((0 : Int32) + (1 : Int32)))), (.int (0 : Int32)), (.ref b264)])) rfl rfl (hb hby at_35)
    have N274 := Fr.snoc X274 N272 gg264
    have Z274 : n0 ≤ h274.size := Nat.le_trans Z269 (Keep.of_wr W274).1
    have f275 : AI Z h274 b264 .int 4 (up zI 0 ((((tb.toUInt32 >>> (((8 : Int32) * (0 : Int32)) &&& 31).toUInt32).toInt32) &&& (255 : Int32)) % ((0 : Int32) + (1 : Int32)))) := AF.setI f271 W274 0 (by decide)
    have f276 : AI Z h274 b262 .byte 4 (up zI 0 ((sh >>> ((2 : Int32) &&& 31)).toInt8.toInt32)) := f270.other W274 ne265
    obtain ⟨cl277, Arcl277, hincl277, -⟩ := AF.at f276 (j := (1 : Int32)) 1 (by decide) (by decide)
    obtain ⟨T278, h278, X278, e278, W278, st278⟩ := stB X274 hx hZ e274 Arcl277 (j := (1 : Int32)) hincl277 (g := (mkF m 50 #[.val (.int sh), .val (.int tb), .val (.int ma), .val (.int mb), .val (.long cv), .second, .val (.long ov), .second, .val (.int (4 : Int32)), .val (.ref b262), .val (.ref b264), .unset, .unset, .unset, .unset, .unset, .unset, .unset] [(.int ((sh >>> ((10 : Int32) &&& 31)).toInt8.toInt32)), (.int (1 : Int32)), (.ref b262)])) rfl rfl (hb hby at_50)
    rw [own_nb] at W278
    have N278 := Fr.snoc X278 N274 gg262
    have Z278 : n0 ≤ h278.size := Nat.le_trans Z274 (Keep.of_wr W278).1
    have f279 : AI Z h278 b262 .byte 4 (up (up zI 0 ((sh >>> ((2 : Int32) &&& 31)).toInt8.toInt32)) 1 ((sh >>> ((10 : Int32) &&& 31)).toInt8.toInt32)) := AF.setI f276 W278 1 (by decide)
    have f280 : AI Z h278 b264 .int 4 (up zI 0 ((((tb.toUInt32 >>> (((8 : Int32) * (0 : Int32)) &&& 31).toUInt32).toInt32) &&& (255 : Int32)) % ((0 : Int32) + (1 : Int32)))) := f275.other W278 (Ne.symm ne265)
    obtain ⟨_, _, ⟨T281, L281, k281, n281⟩, -, X281, ⟨Lc281, hQ281, l281, y281, z281⟩, st281⟩ := Jvm.LawKit.callS X278 hx (y := (⟨"skipstitch/search/PrefixTableScanResumePinLaw", "entry", "(II)I"⟩ : MethodName)) hown (mvT hZ (hw _ (List.mem_of_getElem? (i := 2) rfl))) (mvT hZ (hw _ (List.mem_of_getElem? (i := 3) rfl))) (mvT hZ (hw _ (List.mem_of_getElem? (i := 4) rfl))) (mvT hZ (hw _ (List.mem_of_getElem? (i := 5) rfl))) (by decide) (backOf (W := 2) (rm1 l Z a0 hw [] tb (1 : Int32) h278 n0 Z278 (by decide)) hZ (hw _ (List.mem_of_getElem? (i := 5) rfl)) (hw _ (List.mem_of_getElem? (i := 4) rfl)) (by decide) (by decide)) (g := (mkF m 56 #[.val (.int sh), .val (.int tb), .val (.int ma), .val (.int mb), .val (.long cv), .second, .val (.long ov), .second, .val (.int (4 : Int32)), .val (.ref b262), .val (.ref b264), .unset, .unset, .unset, .unset, .unset, .unset, .unset] [(.int (1 : Int32)), (.int tb), (.int (1 : Int32)), (.ref b264)])) rfl (by rw [hml]; rfl) (argsL := [(.int tb), (.int (1 : Int32))]) (rest := [(.int (1 : Int32)), (.ref b264)]) (lenOf pd_0 rfl) rfl (by show 2 * 0 + _ ≤ _; exact Nat.le_of_eq rfl) (hb hby at_56) (fun _ _ => ⟨rfl, e278, (by decide : 2 + 0 ≤ _), (by decide : 8 + 0 ≤ _)⟩)
    dsimp only [Pt.U, Pt.locs, Pt.cells, Pt.slots] at X281 l281 y281 z281 st281 hQ281
    subst l281 y281 z281
    obtain ⟨rfl, N281q, e281⟩ := hQ281
    have N281 := Fr.app N278 N281q
    obtain ⟨cl282, Arcl282, hincl282, -⟩ := AF.at f280 (j := (1 : Int32)) 1 (by decide) (by decide)
    obtain ⟨T283, h283, X283, e283, W283, st283⟩ := stI X281 hx hZ e281 Arcl282 (j := (1 : Int32)) hincl282 (g := (mkF m 59 #[.val (.int sh), .val (.int tb), .val (.int ma), .val (.int mb), .val (.long cv), .second, .val (.long ov), .second, .val (.int (4 : Int32)), .val (.ref b262), .val (.ref b264), .unset, .unset, .unset, .unset, .unset, .unset, .unset] [(.int ((((tb.toUInt32 >>> (((8 : Int32) * (1 : Int32)) &&& 31).toUInt32).toInt32) &&& (255 : Int32)) % ((1 : Int32) + (1 : Int32)))), (.int (1 : Int32)), (.ref b264)])) rfl rfl (hb hby at_59)
    have N283 := Fr.snoc X283 N281 gg264
    have Z283 : n0 ≤ h283.size := Nat.le_trans Z278 (Keep.of_wr W283).1
    have f284 : AI Z h283 b264 .int 4 (up (up zI 0 ((((tb.toUInt32 >>> (((8 : Int32) * (0 : Int32)) &&& 31).toUInt32).toInt32) &&& (255 : Int32)) % ((0 : Int32) + (1 : Int32)))) 1 ((((tb.toUInt32 >>> (((8 : Int32) * (1 : Int32)) &&& 31).toUInt32).toInt32) &&& (255 : Int32)) % ((1 : Int32) + (1 : Int32)))) := AF.setI f280 W283 1 (by decide)
    have f285 : AI Z h283 b262 .byte 4 (up (up zI 0 ((sh >>> ((2 : Int32) &&& 31)).toInt8.toInt32)) 1 ((sh >>> ((10 : Int32) &&& 31)).toInt8.toInt32)) := f279.other W283 ne265
    obtain ⟨cl286, Arcl286, hincl286, -⟩ := AF.at f285 (j := (2 : Int32)) 2 (by decide) (by decide)
    obtain ⟨T287, h287, X287, e287, W287, st287⟩ := stB X283 hx hZ e283 Arcl286 (j := (2 : Int32)) hincl286 (g := (mkF m 74 #[.val (.int sh), .val (.int tb), .val (.int ma), .val (.int mb), .val (.long cv), .second, .val (.long ov), .second, .val (.int (4 : Int32)), .val (.ref b262), .val (.ref b264), .unset, .unset, .unset, .unset, .unset, .unset, .unset] [(.int ((sh >>> ((18 : Int32) &&& 31)).toInt8.toInt32)), (.int (2 : Int32)), (.ref b262)])) rfl rfl (hb hby at_74)
    rw [own_nb] at W287
    have N287 := Fr.snoc X287 N283 gg262
    have Z287 : n0 ≤ h287.size := Nat.le_trans Z283 (Keep.of_wr W287).1
    have f288 : AI Z h287 b262 .byte 4 (up (up (up zI 0 ((sh >>> ((2 : Int32) &&& 31)).toInt8.toInt32)) 1 ((sh >>> ((10 : Int32) &&& 31)).toInt8.toInt32)) 2 ((sh >>> ((18 : Int32) &&& 31)).toInt8.toInt32)) := AF.setI f285 W287 2 (by decide)
    have f289 : AI Z h287 b264 .int 4 (up (up zI 0 ((((tb.toUInt32 >>> (((8 : Int32) * (0 : Int32)) &&& 31).toUInt32).toInt32) &&& (255 : Int32)) % ((0 : Int32) + (1 : Int32)))) 1 ((((tb.toUInt32 >>> (((8 : Int32) * (1 : Int32)) &&& 31).toUInt32).toInt32) &&& (255 : Int32)) % ((1 : Int32) + (1 : Int32)))) := f284.other W287 (Ne.symm ne265)
    obtain ⟨_, _, ⟨T290, L290, k290, n290⟩, -, X290, ⟨Lc290, hQ290, l290, y290, z290⟩, st290⟩ := Jvm.LawKit.callS X287 hx (y := (⟨"skipstitch/search/PrefixTableScanResumePinLaw", "entry", "(II)I"⟩ : MethodName)) hown (mvT hZ (hw _ (List.mem_of_getElem? (i := 2) rfl))) (mvT hZ (hw _ (List.mem_of_getElem? (i := 3) rfl))) (mvT hZ (hw _ (List.mem_of_getElem? (i := 4) rfl))) (mvT hZ (hw _ (List.mem_of_getElem? (i := 5) rfl))) (by decide) (backOf (W := 2) (rm1 l Z a0 hw [] tb (2 : Int32) h287 n0 Z287 (by decide)) hZ (hw _ (List.mem_of_getElem? (i := 5) rfl)) (hw _ (List.mem_of_getElem? (i := 4) rfl)) (by decide) (by decide)) (g := (mkF m 80 #[.val (.int sh), .val (.int tb), .val (.int ma), .val (.int mb), .val (.long cv), .second, .val (.long ov), .second, .val (.int (4 : Int32)), .val (.ref b262), .val (.ref b264), .unset, .unset, .unset, .unset, .unset, .unset, .unset] [(.int (2 : Int32)), (.int tb), (.int (2 : Int32)), (.ref b264)])) rfl (by rw [hml]; rfl) (argsL := [(.int tb), (.int (2 : Int32))]) (rest := [(.int (2 : Int32)), (.ref b264)]) (lenOf pd_0 rfl) rfl (by show 2 * 0 + _ ≤ _; exact Nat.le_of_eq rfl) (hb hby at_80) (fun _ _ => ⟨rfl, e287, (by decide : 2 + 0 ≤ _), (by decide : 8 + 0 ≤ _)⟩)
    dsimp only [Pt.U, Pt.locs, Pt.cells, Pt.slots] at X290 l290 y290 z290 st290 hQ290
    subst l290 y290 z290
    obtain ⟨rfl, N290q, e290⟩ := hQ290
    have N290 := Fr.app N287 N290q
    obtain ⟨cl291, Arcl291, hincl291, -⟩ := AF.at f289 (j := (2 : Int32)) 2 (by decide) (by decide)
    obtain ⟨T292, h292, X292, e292, W292, st292⟩ := stI X290 hx hZ e290 Arcl291 (j := (2 : Int32)) hincl291 (g := (mkF m 83 #[.val (.int sh), .val (.int tb), .val (.int ma), .val (.int mb), .val (.long cv), .second, .val (.long ov), .second, .val (.int (4 : Int32)), .val (.ref b262), .val (.ref b264), .unset, .unset, .unset, .unset, .unset, .unset, .unset] [(.int ((((tb.toUInt32 >>> (((8 : Int32) * (2 : Int32)) &&& 31).toUInt32).toInt32) &&& (255 : Int32)) % ((2 : Int32) + (1 : Int32)))), (.int (2 : Int32)), (.ref b264)])) rfl rfl (hb hby at_83)
    have N292 := Fr.snoc X292 N290 gg264
    have Z292 : n0 ≤ h292.size := Nat.le_trans Z287 (Keep.of_wr W292).1
    have f293 : AI Z h292 b264 .int 4 (up (up (up zI 0 ((((tb.toUInt32 >>> (((8 : Int32) * (0 : Int32)) &&& 31).toUInt32).toInt32) &&& (255 : Int32)) % ((0 : Int32) + (1 : Int32)))) 1 ((((tb.toUInt32 >>> (((8 : Int32) * (1 : Int32)) &&& 31).toUInt32).toInt32) &&& (255 : Int32)) % ((1 : Int32) + (1 : Int32)))) 2 ((((tb.toUInt32 >>> (((8 : Int32) * (2 : Int32)) &&& 31).toUInt32).toInt32) &&& (255 : Int32)) % ((2 : Int32) + (1 : Int32)))) := AF.setI f289 W292 2 (by decide)
    have f294 : AI Z h292 b262 .byte 4 (up (up (up zI 0 ((sh >>> ((2 : Int32) &&& 31)).toInt8.toInt32)) 1 ((sh >>> ((10 : Int32) &&& 31)).toInt8.toInt32)) 2 ((sh >>> ((18 : Int32) &&& 31)).toInt8.toInt32)) := f288.other W292 ne265
    obtain ⟨cl295, Arcl295, hincl295, -⟩ := AF.at f294 (j := (3 : Int32)) 3 (by decide) (by decide)
    obtain ⟨T296, h296, X296, e296, W296, st296⟩ := stB X292 hx hZ e292 Arcl295 (j := (3 : Int32)) hincl295 (g := (mkF m 98 #[.val (.int sh), .val (.int tb), .val (.int ma), .val (.int mb), .val (.long cv), .second, .val (.long ov), .second, .val (.int (4 : Int32)), .val (.ref b262), .val (.ref b264), .unset, .unset, .unset, .unset, .unset, .unset, .unset] [(.int ((sh >>> ((26 : Int32) &&& 31)).toInt8.toInt32)), (.int (3 : Int32)), (.ref b262)])) rfl rfl (hb hby at_98)
    rw [own_nb] at W296
    have N296 := Fr.snoc X296 N292 gg262
    have Z296 : n0 ≤ h296.size := Nat.le_trans Z292 (Keep.of_wr W296).1
    have f297 : AI Z h296 b262 .byte 4 (up (up (up (up zI 0 ((sh >>> ((2 : Int32) &&& 31)).toInt8.toInt32)) 1 ((sh >>> ((10 : Int32) &&& 31)).toInt8.toInt32)) 2 ((sh >>> ((18 : Int32) &&& 31)).toInt8.toInt32)) 3 ((sh >>> ((26 : Int32) &&& 31)).toInt8.toInt32)) := AF.setI f294 W296 3 (by decide)
    have f298 : AI Z h296 b264 .int 4 (up (up (up zI 0 ((((tb.toUInt32 >>> (((8 : Int32) * (0 : Int32)) &&& 31).toUInt32).toInt32) &&& (255 : Int32)) % ((0 : Int32) + (1 : Int32)))) 1 ((((tb.toUInt32 >>> (((8 : Int32) * (1 : Int32)) &&& 31).toUInt32).toInt32) &&& (255 : Int32)) % ((1 : Int32) + (1 : Int32)))) 2 ((((tb.toUInt32 >>> (((8 : Int32) * (2 : Int32)) &&& 31).toUInt32).toInt32) &&& (255 : Int32)) % ((2 : Int32) + (1 : Int32)))) := f293.other W296 (Ne.symm ne265)
    obtain ⟨_, _, ⟨T299, L299, k299, n299⟩, -, X299, ⟨Lc299, hQ299, l299, y299, z299⟩, st299⟩ := Jvm.LawKit.callS X296 hx (y := (⟨"skipstitch/search/PrefixTableScanResumePinLaw", "entry", "(II)I"⟩ : MethodName)) hown (mvT hZ (hw _ (List.mem_of_getElem? (i := 2) rfl))) (mvT hZ (hw _ (List.mem_of_getElem? (i := 3) rfl))) (mvT hZ (hw _ (List.mem_of_getElem? (i := 4) rfl))) (mvT hZ (hw _ (List.mem_of_getElem? (i := 5) rfl))) (by decide) (backOf (W := 2) (rm1 l Z a0 hw [] tb (3 : Int32) h296 n0 Z296 (by decide)) hZ (hw _ (List.mem_of_getElem? (i := 5) rfl)) (hw _ (List.mem_of_getElem? (i := 4) rfl)) (by decide) (by decide)) (g := (mkF m 104 #[.val (.int sh), .val (.int tb), .val (.int ma), .val (.int mb), .val (.long cv), .second, .val (.long ov), .second, .val (.int (4 : Int32)), .val (.ref b262), .val (.ref b264), .unset, .unset, .unset, .unset, .unset, .unset, .unset] [(.int (3 : Int32)), (.int tb), (.int (3 : Int32)), (.ref b264)])) rfl (by rw [hml]; rfl) (argsL := [(.int tb), (.int (3 : Int32))]) (rest := [(.int (3 : Int32)), (.ref b264)]) (lenOf pd_0 rfl) rfl (by show 2 * 0 + _ ≤ _; exact Nat.le_of_eq rfl) (hb hby at_104) (fun _ _ => ⟨rfl, e296, (by decide : 2 + 0 ≤ _), (by decide : 8 + 0 ≤ _)⟩)
    dsimp only [Pt.U, Pt.locs, Pt.cells, Pt.slots] at X299 l299 y299 z299 st299 hQ299
    subst l299 y299 z299
    obtain ⟨rfl, N299q, e299⟩ := hQ299
    have N299 := Fr.app N296 N299q
    obtain ⟨cl300, Arcl300, hincl300, -⟩ := AF.at f298 (j := (3 : Int32)) 3 (by decide) (by decide)
    obtain ⟨T301, h301, X301, e301, W301, st301⟩ := stI X299 hx hZ e299 Arcl300 (j := (3 : Int32)) hincl300 (g := (mkF m 107 #[.val (.int sh), .val (.int tb), .val (.int ma), .val (.int mb), .val (.long cv), .second, .val (.long ov), .second, .val (.int (4 : Int32)), .val (.ref b262), .val (.ref b264), .unset, .unset, .unset, .unset, .unset, .unset, .unset] [(.int ((((tb.toUInt32 >>> (((8 : Int32) * (3 : Int32)) &&& 31).toUInt32).toInt32) &&& (255 : Int32)) % ((3 : Int32) + (1 : Int32)))), (.int (3 : Int32)), (.ref b264)])) rfl rfl (hb hby at_107)
    have N301 := Fr.snoc X301 N299 gg264
    have Z301 : n0 ≤ h301.size := Nat.le_trans Z296 (Keep.of_wr W301).1
    have f302 : AI Z h301 b264 .int 4 (up (up (up (up zI 0 ((((tb.toUInt32 >>> (((8 : Int32) * (0 : Int32)) &&& 31).toUInt32).toInt32) &&& (255 : Int32)) % ((0 : Int32) + (1 : Int32)))) 1 ((((tb.toUInt32 >>> (((8 : Int32) * (1 : Int32)) &&& 31).toUInt32).toInt32) &&& (255 : Int32)) % ((1 : Int32) + (1 : Int32)))) 2 ((((tb.toUInt32 >>> (((8 : Int32) * (2 : Int32)) &&& 31).toUInt32).toInt32) &&& (255 : Int32)) % ((2 : Int32) + (1 : Int32)))) 3 ((((tb.toUInt32 >>> (((8 : Int32) * (3 : Int32)) &&& 31).toUInt32).toInt32) &&& (255 : Int32)) % ((3 : Int32) + (1 : Int32)))) := AF.setI f298 W301 3 (by decide)
    have f303 : AI Z h301 b262 .byte 4 (up (up (up (up zI 0 ((sh >>> ((2 : Int32) &&& 31)).toInt8.toInt32)) 1 ((sh >>> ((10 : Int32) &&& 31)).toInt8.toInt32)) 2 ((sh >>> ((18 : Int32) &&& 31)).toInt8.toInt32)) 3 ((sh >>> ((26 : Int32) &&& 31)).toInt8.toInt32)) := f297.other W301 ne265
    obtain ⟨T304, h304, X304, e304, E304, A304, D304, -, st304⟩ := newO X301 hx hZ hown (hw _ (List.mem_of_getElem? (i := 7) rfl)) (hw _ (List.mem_of_getElem? (i := 8) rfl)) (hw _ (List.mem_of_getElem? (i := 9) rfl)) e301 (g := (mkF m 130 #[.val (.int sh), .val (.int tb), .val (.int ma), .val (.int mb), .val (.long cv), .second, .val (.long ov), .second, .val (.int (4 : Int32)), .val (.ref b262), .val (.ref b264), .val (.int ((ma &&& (2147483647 : Int32)) % (5 : Int32))), .val (.int ((mb &&& (2147483647 : Int32)) % (5 : Int32))), .unset, .unset, .unset, .unset, .unset] [])) rfl (hb hby at_130) (by decide) (by decide)
    obtain ⟨b304, g304⟩ : ∃ z, z = h301.size := ⟨_, rfl⟩
    rw [← g304] at A304 D304 st304
    have ne305 : b262 ≠ b304 := Nat.ne_of_lt (Nat.lt_of_lt_of_le f303.lt (Nat.le_of_eq g304.symm))
    have ne306 : b264 ≠ b304 := Nat.ne_of_lt (Nat.lt_of_lt_of_le f302.lt (Nat.le_of_eq g304.symm))
    have gg304 : n0 ≤ b304 := Nat.le_trans Z301 (Nat.le_of_eq g304.symm)
    have f307 : AI Z h304 b262 .byte 4 (up (up (up (up zI 0 ((sh >>> ((2 : Int32) &&& 31)).toInt8.toInt32)) 1 ((sh >>> ((10 : Int32) &&& 31)).toInt8.toInt32)) 2 ((sh >>> ((18 : Int32) &&& 31)).toInt8.toInt32)) 3 ((sh >>> ((26 : Int32) &&& 31)).toInt8.toInt32)) := f303.ext E304
    have f308 : AI Z h304 b264 .int 4 (up (up (up (up zI 0 ((((tb.toUInt32 >>> (((8 : Int32) * (0 : Int32)) &&& 31).toUInt32).toInt32) &&& (255 : Int32)) % ((0 : Int32) + (1 : Int32)))) 1 ((((tb.toUInt32 >>> (((8 : Int32) * (1 : Int32)) &&& 31).toUInt32).toInt32) &&& (255 : Int32)) % ((1 : Int32) + (1 : Int32)))) 2 ((((tb.toUInt32 >>> (((8 : Int32) * (2 : Int32)) &&& 31).toUInt32).toInt32) &&& (255 : Int32)) % ((2 : Int32) + (1 : Int32)))) 3 ((((tb.toUInt32 >>> (((8 : Int32) * (3 : Int32)) &&& 31).toUInt32).toInt32) &&& (255 : Int32)) % ((3 : Int32) + (1 : Int32)))) := f302.ext E304
    have Z304 : n0 ≤ h304.size := Nat.le_trans Z301 E304.1
    have f309 : Fld Z h304 b304 "skipstitch/search/PrefixTableScan" "pattern" "[B" .null := D304 (Or.inr (hw _ (List.mem_of_getElem? (i := 17) rfl))) (ty := (.array .byte)) (by decide)
    have f310 : Fld Z h304 b304 "skipstitch/search/PrefixTableScan" "table" "[I" .null := D304 (Or.inr (hw _ (List.mem_of_getElem? (i := 19) rfl))) (ty := (.array .int)) (by decide)
    have f311 : Fld Z h304 b304 "skipstitch/search/PrefixTableScan" "matched" "I" (.int (0 : Int32)) := D304 (Or.inl (hw _ (List.mem_of_getElem? (i := 26) rfl))) (ty := .int) (by decide)
    have f312 : Fld Z h304 b304 "skipstitch/search/PrefixTableScan" "comparisons" "J" (.long (0 : Int64)) := D304 (Or.inl (hw _ (List.mem_of_getElem? (i := 28) rfl))) (ty := .long) (by decide)
    have f313 : Fld Z h304 b304 "skipstitch/search/PrefixTableScan" "occurrences" "J" (.long (0 : Int64)) := D304 (Or.inl (hw _ (List.mem_of_getElem? (i := 30) rfl))) (ty := .long) (by decide)
    obtain ⟨_, _, ⟨T314, L314, k314, n314⟩, -, X314, ⟨Lc314, hQ314, l314, y314, z314⟩, st314⟩ := X304.specialBack hx (y := (⟨"skipstitch/search/PrefixTableScan", "<init>", "([B[I)V"⟩ : MethodName)) rfl hown (mvT hZ (hw _ (List.mem_of_getElem? (i := 10) rfl))) (mvT hZ (hw _ (List.mem_of_getElem? (i := 11) rfl))) (mvT hZ (hw _ (List.mem_of_getElem? (i := 12) rfl))) (by decide) (backOf (W := 1) (rm2 l Z a0 hw [] b304 b262 b264 h304 n0 Z304 A304 f309 f310 gg304 f311 f312 f313) hZ (hw _ (List.mem_of_getElem? (i := 12) rfl)) (hw _ (List.mem_of_getElem? (i := 9) rfl)) (by decide) (by decide)) (g := (mkF m 138 #[.val (.int sh), .val (.int tb), .val (.int ma), .val (.int mb), .val (.long cv), .second, .val (.long ov), .second, .val (.int (4 : Int32)), .val (.ref b262), .val (.ref b264), .val (.int ((ma &&& (2147483647 : Int32)) % (5 : Int32))), .val (.int ((mb &&& (2147483647 : Int32)) % (5 : Int32))), .unset, .unset, .unset, .unset, .unset] [(.ref b264), (.ref b262), (.ref b304), (.ref b304)])) rfl (by rw [hml]; rfl) (Steps.refl _) (a := b304) (argsL := [(.ref b262), (.ref b264)]) (rest := [(.ref b304)]) (lenOf pd_1 rfl) rfl (by show 2 * 0 + _ ≤ _; exact Nat.le_of_eq rfl) (hb hby at_138) (fun _ _ => ⟨rfl, e304, (by decide : 3 + 0 ≤ _), (by decide : 13 + 0 ≤ _)⟩)
    dsimp only [Pt.U, Pt.locs, Pt.cells, Pt.slots] at X314 l314 y314 z314 st314 hQ314
    subst l314 y314 z314
    obtain ⟨rfl, N314q, K314c, f315, f316, f317, f318, f319⟩ := hQ314
    have N314 := Fr.app N301 N314q
    have f320 : AI Z T314.heap b262 .byte 4 (up (up (up (up zI 0 ((sh >>> ((2 : Int32) &&& 31)).toInt8.toInt32)) 1 ((sh >>> ((10 : Int32) &&& 31)).toInt8.toInt32)) 2 ((sh >>> ((18 : Int32) &&& 31)).toInt8.toInt32)) 3 ((sh >>> ((26 : Int32) &&& 31)).toInt8.toInt32)) := f307.keep K314c (ninS ne305 nin0)
    have f321 : AI Z T314.heap b264 .int 4 (up (up (up (up zI 0 ((((tb.toUInt32 >>> (((8 : Int32) * (0 : Int32)) &&& 31).toUInt32).toInt32) &&& (255 : Int32)) % ((0 : Int32) + (1 : Int32)))) 1 ((((tb.toUInt32 >>> (((8 : Int32) * (1 : Int32)) &&& 31).toUInt32).toInt32) &&& (255 : Int32)) % ((1 : Int32) + (1 : Int32)))) 2 ((((tb.toUInt32 >>> (((8 : Int32) * (2 : Int32)) &&& 31).toUInt32).toInt32) &&& (255 : Int32)) % ((2 : Int32) + (1 : Int32)))) 3 ((((tb.toUInt32 >>> (((8 : Int32) * (3 : Int32)) &&& 31).toUInt32).toInt32) &&& (255 : Int32)) % ((3 : Int32) + (1 : Int32)))) := f308.keep K314c (ninS ne306 nin0)
    have f322 : Exa Z T314.heap b304 "skipstitch/search/PrefixTableScan" := A304.keep K314c
    have Z314 : n0 ≤ T314.heap.size := Nat.le_trans Z304 K314c.1
    obtain ⟨cq323, kq323, q323a, q323b, q323c⟩ := isOf hZ rfl f322
    obtain ⟨_, _, ⟨T323, L323, k323, n323⟩, -, X323, ⟨Lc323, hQ323, l323, y323, z323⟩, st323⟩ := X314.virtualBack hx (y := (⟨"skipstitch/search/PrefixTableScan", "resume", "(IJJ)V"⟩ : MethodName)) (z := (⟨"skipstitch/search/PrefixTableScan", "resume", "(IJJ)V"⟩ : MethodName)) hown (mvT hZ (hw _ (List.mem_of_getElem? (i := 20) rfl))) (mvT hZ (hw _ (List.mem_of_getElem? (i := 21) rfl))) (notFace_of_selects (args := #[]) (mvT hZ (hw _ (List.mem_of_getElem? (i := 23) rfl)))) (mvT hZ (hw _ (List.mem_of_getElem? (i := 23) rfl))) (mvT hZ (hw _ (List.mem_of_getElem? (i := 22) rfl))) (by decide) (backOf (W := 0) (rm4k4 l Z a0 hw [] b304 ((ma &&& (2147483647 : Int32)) % (5 : Int32)) cv ov b262 b264 (up (up (up (up zI 0 ((sh >>> ((2 : Int32) &&& 31)).toInt8.toInt32)) 1 ((sh >>> ((10 : Int32) &&& 31)).toInt8.toInt32)) 2 ((sh >>> ((18 : Int32) &&& 31)).toInt8.toInt32)) 3 ((sh >>> ((26 : Int32) &&& 31)).toInt8.toInt32)) (up (up (up (up zI 0 ((((tb.toUInt32 >>> (((8 : Int32) * (0 : Int32)) &&& 31).toUInt32).toInt32) &&& (255 : Int32)) % ((0 : Int32) + (1 : Int32)))) 1 ((((tb.toUInt32 >>> (((8 : Int32) * (1 : Int32)) &&& 31).toUInt32).toInt32) &&& (255 : Int32)) % ((1 : Int32) + (1 : Int32)))) 2 ((((tb.toUInt32 >>> (((8 : Int32) * (2 : Int32)) &&& 31).toUInt32).toInt32) &&& (255 : Int32)) % ((2 : Int32) + (1 : Int32)))) 3 ((((tb.toUInt32 >>> (((8 : Int32) * (3 : Int32)) &&& 31).toUInt32).toInt32) &&& (255 : Int32)) % ((3 : Int32) + (1 : Int32)))) (0 : Int32) (0 : Int64) (0 : Int64) T314.heap n0 Z314 f322 f315 f316 f320 f321 (Ne.symm ne305) (Ne.symm ne306) f317 f318 f319 gg304) hZ (hw _ (List.mem_of_getElem? (i := 24) rfl)) (hw _ (List.mem_of_getElem? (i := 9) rfl)) (by decide) (by decide)) q323a q323c (g := (mkF m 151 #[.val (.int sh), .val (.int tb), .val (.int ma), .val (.int mb), .val (.long cv), .second, .val (.long ov), .second, .val (.int (4 : Int32)), .val (.ref b262), .val (.ref b264), .val (.int ((ma &&& (2147483647 : Int32)) % (5 : Int32))), .val (.int ((mb &&& (2147483647 : Int32)) % (5 : Int32))), .val (.ref b304), .unset, .unset, .unset, .unset] [(.long ov), (.long cv), (.int ((ma &&& (2147483647 : Int32)) % (5 : Int32))), (.ref b304)])) rfl (by rw [hml]; rfl) (Steps.refl _) (argsL := [(.int ((ma &&& (2147483647 : Int32)) % (5 : Int32))), (.long cv), (.long ov)]) (rest := []) (lenOf pd_2 rfl) rfl (by show 2 * 0 + _ ≤ _; exact Nat.le_of_eq rfl) (hb hby at_151) (fun _ _ => ⟨rfl, rfl, (by decide : 3 + 0 ≤ _), (by decide : 13 + 0 ≤ _)⟩)
    dsimp only [Pt.U, Pt.locs, Pt.cells, Pt.slots] at X323 l323 y323 z323 st323 hQ323
    subst l323 y323 z323
    obtain ⟨rfl, N323q, K323c, f324, f325, f326, f327, f328⟩ := hQ323
    have N323 := Fr.app N314 N323q
    have f329 : AI Z T323.heap b262 .byte 4 (up (up (up (up zI 0 ((sh >>> ((2 : Int32) &&& 31)).toInt8.toInt32)) 1 ((sh >>> ((10 : Int32) &&& 31)).toInt8.toInt32)) 2 ((sh >>> ((18 : Int32) &&& 31)).toInt8.toInt32)) 3 ((sh >>> ((26 : Int32) &&& 31)).toInt8.toInt32)) := f320.keep K323c (ninS ne305 nin0)
    have f330 : AI Z T323.heap b264 .int 4 (up (up (up (up zI 0 ((((tb.toUInt32 >>> (((8 : Int32) * (0 : Int32)) &&& 31).toUInt32).toInt32) &&& (255 : Int32)) % ((0 : Int32) + (1 : Int32)))) 1 ((((tb.toUInt32 >>> (((8 : Int32) * (1 : Int32)) &&& 31).toUInt32).toInt32) &&& (255 : Int32)) % ((1 : Int32) + (1 : Int32)))) 2 ((((tb.toUInt32 >>> (((8 : Int32) * (2 : Int32)) &&& 31).toUInt32).toInt32) &&& (255 : Int32)) % ((2 : Int32) + (1 : Int32)))) 3 ((((tb.toUInt32 >>> (((8 : Int32) * (3 : Int32)) &&& 31).toUInt32).toInt32) &&& (255 : Int32)) % ((3 : Int32) + (1 : Int32)))) := f321.keep K323c (ninS ne306 nin0)
    have f331 : Exa Z T323.heap b304 "skipstitch/search/PrefixTableScan" := f322.keep K323c
    have Z323 : n0 ≤ T323.heap.size := Nat.le_trans Z314 K323c.1
    have pre332 : ∀ t, Steps p.tables e below (T323.setTop (mkF m 154 #[.val (.int sh), .val (.int tb), .val (.int ma), .val (.int mb), .val (.long cv), .second, .val (.long ov), .second, .val (.int (4 : Int32)), .val (.ref b262), .val (.ref b264), .val (.int ((ma &&& (2147483647 : Int32)) % (5 : Int32))), .val (.int ((mb &&& (2147483647 : Int32)) % (5 : Int32))), .val (.ref b304), .unset, .unset, .unset, .unset] [])) t → Steps p.tables e below (s₁.setTop (entryFrame m #[(.int sh), (.int tb), (.int ma), (.int mb), (.long cv), (.long ov)] maxLocals)) t := by
      intro t k
      refine pre261 _ ?_
      show Steps p.tables e below (s₁.setTop (mkF m 5 #[.val (.int sh), .val (.int tb), .val (.int ma), .val (.int mb), .val (.long cv), .second, .val (.long ov), .second, .unset, .unset, .unset, .unset, .unset, .unset, .unset, .unset, .unset, .unset] [(.int (4 : Int32))])) _
      refine XS.istore X0.here hx rfl (hb hby at_5) rfl (l' := #[.val (.int sh), .val (.int tb), .val (.int ma), .val (.int mb), .val (.long cv), .second, .val (.long ov), .second, .val (.int (4 : Int32)), .unset, .unset, .unset, .unset, .unset, .unset, .unset, .unset, .unset]) rfl ?_
      show Steps p.tables e below (s₁.setTop (mkF m 7 #[.val (.int sh), .val (.int tb), .val (.int ma), .val (.int mb), .val (.long cv), .second, .val (.long ov), .second, .val (.int (4 : Int32)), .unset, .unset, .unset, .unset, .unset, .unset, .unset, .unset, .unset] [])) _
      refine XS.iload X0.here hx rfl (hb hby at_7) rfl ?_
      show Steps p.tables e below (s₁.setTop (mkF m 9 #[.val (.int sh), .val (.int tb), .val (.int ma), .val (.int mb), .val (.long cv), .second, .val (.long ov), .second, .val (.int (4 : Int32)), .unset, .unset, .unset, .unset, .unset, .unset, .unset, .unset, .unset] [(.int (4 : Int32))])) _
      refine st262 _ ?_
      show Steps p.tables e below (T262.setTop (mkF m 11 #[.val (.int sh), .val (.int tb), .val (.int ma), .val (.int mb), .val (.long cv), .second, .val (.long ov), .second, .val (.int (4 : Int32)), .unset, .unset, .unset, .unset, .unset, .unset, .unset, .unset, .unset] [(.ref b262)])) _
      refine XS.astore X262.here hx rfl (hb hby at_11) rfl rfl (l' := #[.val (.int sh), .val (.int tb), .val (.int ma), .val (.int mb), .val (.long cv), .second, .val (.long ov), .second, .val (.int (4 : Int32)), .val (.ref b262), .unset, .unset, .unset, .unset, .unset, .unset, .unset, .unset]) rfl ?_
      show Steps p.tables e below (T262.setTop (mkF m 13 #[.val (.int sh), .val (.int tb), .val (.int ma), .val (.int mb), .val (.long cv), .second, .val (.long ov), .second, .val (.int (4 : Int32)), .val (.ref b262), .unset, .unset, .unset, .unset, .unset, .unset, .unset, .unset] [])) _
      refine XS.iload X262.here hx rfl (hb hby at_13) rfl ?_
      show Steps p.tables e below (T262.setTop (mkF m 15 #[.val (.int sh), .val (.int tb), .val (.int ma), .val (.int mb), .val (.long cv), .second, .val (.long ov), .second, .val (.int (4 : Int32)), .val (.ref b262), .unset, .unset, .unset, .unset, .unset, .unset, .unset, .unset] [(.int (4 : Int32))])) _
      refine st264 _ ?_
      show Steps p.tables e below (T264.setTop (mkF m 17 #[.val (.int sh), .val (.int tb), .val (.int ma), .val (.int mb), .val (.long cv), .second, .val (.long ov), .second, .val (.int (4 : Int32)), .val (.ref b262), .unset, .unset, .unset, .unset, .unset, .unset, .unset, .unset] [(.ref b264)])) _
      refine XS.astore X264.here hx rfl (hb hby at_17) rfl rfl (l' := #[.val (.int sh), .val (.int tb), .val (.int ma), .val (.int mb), .val (.long cv), .second, .val (.long ov), .second, .val (.int (4 : Int32)), .val (.ref b262), .val (.ref b264), .unset, .unset, .unset, .unset, .unset, .unset, .unset]) rfl ?_
      show Steps p.tables e below (T264.setTop (mkF m 19 #[.val (.int sh), .val (.int tb), .val (.int ma), .val (.int mb), .val (.long cv), .second, .val (.long ov), .second, .val (.int (4 : Int32)), .val (.ref b262), .val (.ref b264), .unset, .unset, .unset, .unset, .unset, .unset, .unset] [])) _
      refine XS.aload X264.here hx rfl (hb hby at_19) rfl rfl ?_
      show Steps p.tables e below (T264.setTop (mkF m 21 #[.val (.int sh), .val (.int tb), .val (.int ma), .val (.int mb), .val (.long cv), .second, .val (.long ov), .second, .val (.int (4 : Int32)), .val (.ref b262), .val (.ref b264), .unset, .unset, .unset, .unset, .unset, .unset, .unset] [(.ref b262)])) _
      refine XS.iconst X264.here hx rfl (hb hby at_21) ?_
      show Steps p.tables e below (T264.setTop (mkF m 22 #[.val (.int sh), .val (.int tb), .val (.int ma), .val (.int mb), .val (.long cv), .second, .val (.long ov), .second, .val (.int (4 : Int32)), .val (.ref b262), .val (.ref b264), .unset, .unset, .unset, .unset, .unset, .unset, .unset] [(.int (0 : Int32)), (.ref b262)])) _
      refine XS.iloadN X264.here hx rfl (hb hby at_22) rfl ?_
      show Steps p.tables e below (T264.setTop (mkF m 23 #[.val (.int sh), .val (.int tb), .val (.int ma), .val (.int mb), .val (.long cv), .second, .val (.long ov), .second, .val (.int (4 : Int32)), .val (.ref b262), .val (.ref b264), .unset, .unset, .unset, .unset, .unset, .unset, .unset] [(.int sh), (.int (0 : Int32)), (.ref b262)])) _
      refine XS.iconst X264.here hx rfl (hb hby at_23) ?_
      show Steps p.tables e below (T264.setTop (mkF m 24 #[.val (.int sh), .val (.int tb), .val (.int ma), .val (.int mb), .val (.long cv), .second, .val (.long ov), .second, .val (.int (4 : Int32)), .val (.ref b262), .val (.ref b264), .unset, .unset, .unset, .unset, .unset, .unset, .unset] [(.int (2 : Int32)), (.int sh), (.int (0 : Int32)), (.ref b262)])) _
      refine XS.ishr X264.here hx rfl (hb hby at_24) rfl ?_
      show Steps p.tables e below (T264.setTop (mkF m 25 #[.val (.int sh), .val (.int tb), .val (.int ma), .val (.int mb), .val (.long cv), .second, .val (.long ov), .second, .val (.int (4 : Int32)), .val (.ref b262), .val (.ref b264), .unset, .unset, .unset, .unset, .unset, .unset, .unset] [(.int (sh >>> ((2 : Int32) &&& 31))), (.int (0 : Int32)), (.ref b262)])) _
      refine XS.i2b X264.here hx rfl (hb hby at_25) rfl ?_
      show Steps p.tables e below (T264.setTop (mkF m 26 #[.val (.int sh), .val (.int tb), .val (.int ma), .val (.int mb), .val (.long cv), .second, .val (.long ov), .second, .val (.int (4 : Int32)), .val (.ref b262), .val (.ref b264), .unset, .unset, .unset, .unset, .unset, .unset, .unset] [(.int ((sh >>> ((2 : Int32) &&& 31)).toInt8.toInt32)), (.int (0 : Int32)), (.ref b262)])) _
      refine st269 _ ?_
      show Steps p.tables e below (T269.setTop (mkF m 27 #[.val (.int sh), .val (.int tb), .val (.int ma), .val (.int mb), .val (.long cv), .second, .val (.long ov), .second, .val (.int (4 : Int32)), .val (.ref b262), .val (.ref b264), .unset, .unset, .unset, .unset, .unset, .unset, .unset] [])) _
      refine XS.aload X269.here hx rfl (hb hby at_27) rfl rfl ?_
      show Steps p.tables e below (T269.setTop (mkF m 29 #[.val (.int sh), .val (.int tb), .val (.int ma), .val (.int mb), .val (.long cv), .second, .val (.long ov), .second, .val (.int (4 : Int32)), .val (.ref b262), .val (.ref b264), .unset, .unset, .unset, .unset, .unset, .unset, .unset] [(.ref b264)])) _
      refine XS.iconst X269.here hx rfl (hb hby at_29) ?_
      show Steps p.tables e below (T269.setTop (mkF m 30 #[.val (.int sh), .val (.int tb), .val (.int ma), .val (.int mb), .val (.long cv), .second, .val (.long ov), .second, .val (.int (4 : Int32)), .val (.ref b262), .val (.ref b264), .unset, .unset, .unset, .unset, .unset, .unset, .unset] [(.int (0 : Int32)), (.ref b264)])) _
      refine XS.iloadN X269.here hx rfl (hb hby at_30) rfl ?_
      show Steps p.tables e below (T269.setTop (mkF m 31 #[.val (.int sh), .val (.int tb), .val (.int ma), .val (.int mb), .val (.long cv), .second, .val (.long ov), .second, .val (.int (4 : Int32)), .val (.ref b262), .val (.ref b264), .unset, .unset, .unset, .unset, .unset, .unset, .unset] [(.int tb), (.int (0 : Int32)), (.ref b264)])) _
      refine XS.iconst X269.here hx rfl (hb hby at_31) ?_
      show Steps p.tables e below (T269.setTop (mkF m 32 #[.val (.int sh), .val (.int tb), .val (.int ma), .val (.int mb), .val (.long cv), .second, .val (.long ov), .second, .val (.int (4 : Int32)), .val (.ref b262), .val (.ref b264), .unset, .unset, .unset, .unset, .unset, .unset, .unset] [(.int (0 : Int32)), (.int tb), (.int (0 : Int32)), (.ref b264)])) _
      refine st272 _ ?_
      show Steps p.tables e below (T272.setTop (mkF m 35 #[.val (.int sh), .val (.int tb), .val (.int ma), .val (.int mb), .val (.long cv), .second, .val (.long ov), .second, .val (.int (4 : Int32)), .val (.ref b262), .val (.ref b264), .unset, .unset, .unset, .unset, .unset, .unset, .unset] [(.int ((((tb.toUInt32 >>> (((8 : Int32) * (0 : Int32)) &&& 31).toUInt32).toInt32) &&& (255 : Int32)) % ((0 : Int32) + (1 : Int32)))), (.int (0 : Int32)), (.ref b264)])) _
      refine st274 _ ?_
      show Steps p.tables e below (T274.setTop (mkF m 36 #[.val (.int sh), .val (.int tb), .val (.int ma), .val (.int mb), .val (.long cv), .second, .val (.long ov), .second, .val (.int (4 : Int32)), .val (.ref b262), .val (.ref b264), .unset, .unset, .unset, .unset, .unset, .unset, .unset] [])) _
      refine XS.iload X274.here hx rfl (hb hby at_36) rfl ?_
      show Steps p.tables e below (T274.setTop (mkF m 38 #[.val (.int sh), .val (.int tb), .val (.int ma), .val (.int mb), .val (.long cv), .second, .val (.long ov), .second, .val (.int (4 : Int32)), .val (.ref b262), .val (.ref b264), .unset, .unset, .unset, .unset, .unset, .unset, .unset] [(.int (4 : Int32))])) _
      refine XS.iconst X274.here hx rfl (hb hby at_38) ?_
      show Steps p.tables e below (T274.setTop (mkF m 39 #[.val (.int sh), .val (.int tb), .val (.int ma), .val (.int mb), .val (.long cv), .second, .val (.long ov), .second, .val (.int (4 : Int32)), .val (.ref b262), .val (.ref b264), .unset, .unset, .unset, .unset, .unset, .unset, .unset] [(.int (1 : Int32)), (.int (4 : Int32))])) _
      refine XS.icmpNo X274.here hx rfl (hb hby at_39) rfl (tlt (by decide : ((1 : Int32) < (4 : Int32)))).2.2.2 ?_
      show Steps p.tables e below (T274.setTop (mkF m 42 #[.val (.int sh), .val (.int tb), .val (.int ma), .val (.int mb), .val (.long cv), .second, .val (.long ov), .second, .val (.int (4 : Int32)), .val (.ref b262), .val (.ref b264), .unset, .unset, .unset, .unset, .unset, .unset, .unset] [])) _
      refine XS.aload X274.here hx rfl (hb hby at_42) rfl rfl ?_
      show Steps p.tables e below (T274.setTop (mkF m 44 #[.val (.int sh), .val (.int tb), .val (.int ma), .val (.int mb), .val (.long cv), .second, .val (.long ov), .second, .val (.int (4 : Int32)), .val (.ref b262), .val (.ref b264), .unset, .unset, .unset, .unset, .unset, .unset, .unset] [(.ref b262)])) _
      refine XS.iconst X274.here hx rfl (hb hby at_44) ?_
      show Steps p.tables e below (T274.setTop (mkF m 45 #[.val (.int sh), .val (.int tb), .val (.int ma), .val (.int mb), .val (.long cv), .second, .val (.long ov), .second, .val (.int (4 : Int32)), .val (.ref b262), .val (.ref b264), .unset, .unset, .unset, .unset, .unset, .unset, .unset] [(.int (1 : Int32)), (.ref b262)])) _
      refine XS.iloadN X274.here hx rfl (hb hby at_45) rfl ?_
      show Steps p.tables e below (T274.setTop (mkF m 46 #[.val (.int sh), .val (.int tb), .val (.int ma), .val (.int mb), .val (.long cv), .second, .val (.long ov), .second, .val (.int (4 : Int32)), .val (.ref b262), .val (.ref b264), .unset, .unset, .unset, .unset, .unset, .unset, .unset] [(.int sh), (.int (1 : Int32)), (.ref b262)])) _
      refine XS.bipush X274.here hx rfl (hb hby at_46) ?_
      show Steps p.tables e below (T274.setTop (mkF m 48 #[.val (.int sh), .val (.int tb), .val (.int ma), .val (.int mb), .val (.long cv), .second, .val (.long ov), .second, .val (.int (4 : Int32)), .val (.ref b262), .val (.ref b264), .unset, .unset, .unset, .unset, .unset, .unset, .unset] [(.int (10 : Int32)), (.int sh), (.int (1 : Int32)), (.ref b262)])) _
      refine XS.ishr X274.here hx rfl (hb hby at_48) rfl ?_
      show Steps p.tables e below (T274.setTop (mkF m 49 #[.val (.int sh), .val (.int tb), .val (.int ma), .val (.int mb), .val (.long cv), .second, .val (.long ov), .second, .val (.int (4 : Int32)), .val (.ref b262), .val (.ref b264), .unset, .unset, .unset, .unset, .unset, .unset, .unset] [(.int (sh >>> ((10 : Int32) &&& 31))), (.int (1 : Int32)), (.ref b262)])) _
      refine XS.i2b X274.here hx rfl (hb hby at_49) rfl ?_
      show Steps p.tables e below (T274.setTop (mkF m 50 #[.val (.int sh), .val (.int tb), .val (.int ma), .val (.int mb), .val (.long cv), .second, .val (.long ov), .second, .val (.int (4 : Int32)), .val (.ref b262), .val (.ref b264), .unset, .unset, .unset, .unset, .unset, .unset, .unset] [(.int ((sh >>> ((10 : Int32) &&& 31)).toInt8.toInt32)), (.int (1 : Int32)), (.ref b262)])) _
      refine st278 _ ?_
      show Steps p.tables e below (T278.setTop (mkF m 51 #[.val (.int sh), .val (.int tb), .val (.int ma), .val (.int mb), .val (.long cv), .second, .val (.long ov), .second, .val (.int (4 : Int32)), .val (.ref b262), .val (.ref b264), .unset, .unset, .unset, .unset, .unset, .unset, .unset] [])) _
      refine XS.aload X278.here hx rfl (hb hby at_51) rfl rfl ?_
      show Steps p.tables e below (T278.setTop (mkF m 53 #[.val (.int sh), .val (.int tb), .val (.int ma), .val (.int mb), .val (.long cv), .second, .val (.long ov), .second, .val (.int (4 : Int32)), .val (.ref b262), .val (.ref b264), .unset, .unset, .unset, .unset, .unset, .unset, .unset] [(.ref b264)])) _
      refine XS.iconst X278.here hx rfl (hb hby at_53) ?_
      show Steps p.tables e below (T278.setTop (mkF m 54 #[.val (.int sh), .val (.int tb), .val (.int ma), .val (.int mb), .val (.long cv), .second, .val (.long ov), .second, .val (.int (4 : Int32)), .val (.ref b262), .val (.ref b264), .unset, .unset, .unset, .unset, .unset, .unset, .unset] [(.int (1 : Int32)), (.ref b264)])) _
      refine XS.iloadN X278.here hx rfl (hb hby at_54) rfl ?_
      show Steps p.tables e below (T278.setTop (mkF m 55 #[.val (.int sh), .val (.int tb), .val (.int ma), .val (.int mb), .val (.long cv), .second, .val (.long ov), .second, .val (.int (4 : Int32)), .val (.ref b262), .val (.ref b264), .unset, .unset, .unset, .unset, .unset, .unset, .unset] [(.int tb), (.int (1 : Int32)), (.ref b264)])) _
      refine XS.iconst X278.here hx rfl (hb hby at_55) ?_
      show Steps p.tables e below (T278.setTop (mkF m 56 #[.val (.int sh), .val (.int tb), .val (.int ma), .val (.int mb), .val (.long cv), .second, .val (.long ov), .second, .val (.int (4 : Int32)), .val (.ref b262), .val (.ref b264), .unset, .unset, .unset, .unset, .unset, .unset, .unset] [(.int (1 : Int32)), (.int tb), (.int (1 : Int32)), (.ref b264)])) _
      refine st281 _ ?_
      show Steps p.tables e below (T281.setTop (mkF m 59 #[.val (.int sh), .val (.int tb), .val (.int ma), .val (.int mb), .val (.long cv), .second, .val (.long ov), .second, .val (.int (4 : Int32)), .val (.ref b262), .val (.ref b264), .unset, .unset, .unset, .unset, .unset, .unset, .unset] [(.int ((((tb.toUInt32 >>> (((8 : Int32) * (1 : Int32)) &&& 31).toUInt32).toInt32) &&& (255 : Int32)) % ((1 : Int32) + (1 : Int32)))), (.int (1 : Int32)), (.ref b264)])) _
      refine st283 _ ?_
      show Steps p.tables e below (T283.setTop (mkF m 60 #[.val (.int sh), .val (.int tb), .val (.int ma), .val (.int mb), .val (.long cv), .second, .val (.long ov), .second, .val (.int (4 : Int32)), .val (.ref b262), .val (.ref b264), .unset, .unset, .unset, .unset, .unset, .unset, .unset] [])) _
      refine XS.iload X283.here hx rfl (hb hby at_60) rfl ?_
      show Steps p.tables e below (T283.setTop (mkF m 62 #[.val (.int sh), .val (.int tb), .val (.int ma), .val (.int mb), .val (.long cv), .second, .val (.long ov), .second, .val (.int (4 : Int32)), .val (.ref b262), .val (.ref b264), .unset, .unset, .unset, .unset, .unset, .unset, .unset] [(.int (4 : Int32))])) _
      refine XS.iconst X283.here hx rfl (hb hby at_62) ?_
      show Steps p.tables e below (T283.setTop (mkF m 63 #[.val (.int sh), .val (.int tb), .val (.int ma), .val (.int mb), .val (.long cv), .second, .val (.long ov), .second, .val (.int (4 : Int32)), .val (.ref b262), .val (.ref b264), .unset, .unset, .unset, .unset, .unset, .unset, .unset] [(.int (2 : Int32)), (.int (4 : Int32))])) _
      refine XS.icmpNo X283.here hx rfl (hb hby at_63) rfl (tlt (by decide : ((2 : Int32) < (4 : Int32)))).2.2.2 ?_
      show Steps p.tables e below (T283.setTop (mkF m 66 #[.val (.int sh), .val (.int tb), .val (.int ma), .val (.int mb), .val (.long cv), .second, .val (.long ov), .second, .val (.int (4 : Int32)), .val (.ref b262), .val (.ref b264), .unset, .unset, .unset, .unset, .unset, .unset, .unset] [])) _
      refine XS.aload X283.here hx rfl (hb hby at_66) rfl rfl ?_
      show Steps p.tables e below (T283.setTop (mkF m 68 #[.val (.int sh), .val (.int tb), .val (.int ma), .val (.int mb), .val (.long cv), .second, .val (.long ov), .second, .val (.int (4 : Int32)), .val (.ref b262), .val (.ref b264), .unset, .unset, .unset, .unset, .unset, .unset, .unset] [(.ref b262)])) _
      refine XS.iconst X283.here hx rfl (hb hby at_68) ?_
      show Steps p.tables e below (T283.setTop (mkF m 69 #[.val (.int sh), .val (.int tb), .val (.int ma), .val (.int mb), .val (.long cv), .second, .val (.long ov), .second, .val (.int (4 : Int32)), .val (.ref b262), .val (.ref b264), .unset, .unset, .unset, .unset, .unset, .unset, .unset] [(.int (2 : Int32)), (.ref b262)])) _
      refine XS.iloadN X283.here hx rfl (hb hby at_69) rfl ?_
      show Steps p.tables e below (T283.setTop (mkF m 70 #[.val (.int sh), .val (.int tb), .val (.int ma), .val (.int mb), .val (.long cv), .second, .val (.long ov), .second, .val (.int (4 : Int32)), .val (.ref b262), .val (.ref b264), .unset, .unset, .unset, .unset, .unset, .unset, .unset] [(.int sh), (.int (2 : Int32)), (.ref b262)])) _
      refine XS.bipush X283.here hx rfl (hb hby at_70) ?_
      show Steps p.tables e below (T283.setTop (mkF m 72 #[.val (.int sh), .val (.int tb), .val (.int ma), .val (.int mb), .val (.long cv), .second, .val (.long ov), .second, .val (.int (4 : Int32)), .val (.ref b262), .val (.ref b264), .unset, .unset, .unset, .unset, .unset, .unset, .unset] [(.int (18 : Int32)), (.int sh), (.int (2 : Int32)), (.ref b262)])) _
      refine XS.ishr X283.here hx rfl (hb hby at_72) rfl ?_
      show Steps p.tables e below (T283.setTop (mkF m 73 #[.val (.int sh), .val (.int tb), .val (.int ma), .val (.int mb), .val (.long cv), .second, .val (.long ov), .second, .val (.int (4 : Int32)), .val (.ref b262), .val (.ref b264), .unset, .unset, .unset, .unset, .unset, .unset, .unset] [(.int (sh >>> ((18 : Int32) &&& 31))), (.int (2 : Int32)), (.ref b262)])) _
      refine XS.i2b X283.here hx rfl (hb hby at_73) rfl ?_
      show Steps p.tables e below (T283.setTop (mkF m 74 #[.val (.int sh), .val (.int tb), .val (.int ma), .val (.int mb), .val (.long cv), .second, .val (.long ov), .second, .val (.int (4 : Int32)), .val (.ref b262), .val (.ref b264), .unset, .unset, .unset, .unset, .unset, .unset, .unset] [(.int ((sh >>> ((18 : Int32) &&& 31)).toInt8.toInt32)), (.int (2 : Int32)), (.ref b262)])) _
      refine st287 _ ?_
      show Steps p.tables e below (T287.setTop (mkF m 75 #[.val (.int sh), .val (.int tb), .val (.int ma), .val (.int mb), .val (.long cv), .second, .val (.long ov), .second, .val (.int (4 : Int32)), .val (.ref b262), .val (.ref b264), .unset, .unset, .unset, .unset, .unset, .unset, .unset] [])) _
      refine XS.aload X287.here hx rfl (hb hby at_75) rfl rfl ?_
      show Steps p.tables e below (T287.setTop (mkF m 77 #[.val (.int sh), .val (.int tb), .val (.int ma), .val (.int mb), .val (.long cv), .second, .val (.long ov), .second, .val (.int (4 : Int32)), .val (.ref b262), .val (.ref b264), .unset, .unset, .unset, .unset, .unset, .unset, .unset] [(.ref b264)])) _
      refine XS.iconst X287.here hx rfl (hb hby at_77) ?_
      show Steps p.tables e below (T287.setTop (mkF m 78 #[.val (.int sh), .val (.int tb), .val (.int ma), .val (.int mb), .val (.long cv), .second, .val (.long ov), .second, .val (.int (4 : Int32)), .val (.ref b262), .val (.ref b264), .unset, .unset, .unset, .unset, .unset, .unset, .unset] [(.int (2 : Int32)), (.ref b264)])) _
      refine XS.iloadN X287.here hx rfl (hb hby at_78) rfl ?_
      show Steps p.tables e below (T287.setTop (mkF m 79 #[.val (.int sh), .val (.int tb), .val (.int ma), .val (.int mb), .val (.long cv), .second, .val (.long ov), .second, .val (.int (4 : Int32)), .val (.ref b262), .val (.ref b264), .unset, .unset, .unset, .unset, .unset, .unset, .unset] [(.int tb), (.int (2 : Int32)), (.ref b264)])) _
      refine XS.iconst X287.here hx rfl (hb hby at_79) ?_
      show Steps p.tables e below (T287.setTop (mkF m 80 #[.val (.int sh), .val (.int tb), .val (.int ma), .val (.int mb), .val (.long cv), .second, .val (.long ov), .second, .val (.int (4 : Int32)), .val (.ref b262), .val (.ref b264), .unset, .unset, .unset, .unset, .unset, .unset, .unset] [(.int (2 : Int32)), (.int tb), (.int (2 : Int32)), (.ref b264)])) _
      refine st290 _ ?_
      show Steps p.tables e below (T290.setTop (mkF m 83 #[.val (.int sh), .val (.int tb), .val (.int ma), .val (.int mb), .val (.long cv), .second, .val (.long ov), .second, .val (.int (4 : Int32)), .val (.ref b262), .val (.ref b264), .unset, .unset, .unset, .unset, .unset, .unset, .unset] [(.int ((((tb.toUInt32 >>> (((8 : Int32) * (2 : Int32)) &&& 31).toUInt32).toInt32) &&& (255 : Int32)) % ((2 : Int32) + (1 : Int32)))), (.int (2 : Int32)), (.ref b264)])) _
      refine st292 _ ?_
      show Steps p.tables e below (T292.setTop (mkF m 84 #[.val (.int sh), .val (.int tb), .val (.int ma), .val (.int mb), .val (.long cv), .second, .val (.long ov), .second, .val (.int (4 : Int32)), .val (.ref b262), .val (.ref b264), .unset, .unset, .unset, .unset, .unset, .unset, .unset] [])) _
      refine XS.iload X292.here hx rfl (hb hby at_84) rfl ?_
      show Steps p.tables e below (T292.setTop (mkF m 86 #[.val (.int sh), .val (.int tb), .val (.int ma), .val (.int mb), .val (.long cv), .second, .val (.long ov), .second, .val (.int (4 : Int32)), .val (.ref b262), .val (.ref b264), .unset, .unset, .unset, .unset, .unset, .unset, .unset] [(.int (4 : Int32))])) _
      refine XS.iconst X292.here hx rfl (hb hby at_86) ?_
      show Steps p.tables e below (T292.setTop (mkF m 87 #[.val (.int sh), .val (.int tb), .val (.int ma), .val (.int mb), .val (.long cv), .second, .val (.long ov), .second, .val (.int (4 : Int32)), .val (.ref b262), .val (.ref b264), .unset, .unset, .unset, .unset, .unset, .unset, .unset] [(.int (3 : Int32)), (.int (4 : Int32))])) _
      refine XS.icmpNo X292.here hx rfl (hb hby at_87) rfl (tlt (by decide : ((3 : Int32) < (4 : Int32)))).2.2.2 ?_
      show Steps p.tables e below (T292.setTop (mkF m 90 #[.val (.int sh), .val (.int tb), .val (.int ma), .val (.int mb), .val (.long cv), .second, .val (.long ov), .second, .val (.int (4 : Int32)), .val (.ref b262), .val (.ref b264), .unset, .unset, .unset, .unset, .unset, .unset, .unset] [])) _
      refine XS.aload X292.here hx rfl (hb hby at_90) rfl rfl ?_
      show Steps p.tables e below (T292.setTop (mkF m 92 #[.val (.int sh), .val (.int tb), .val (.int ma), .val (.int mb), .val (.long cv), .second, .val (.long ov), .second, .val (.int (4 : Int32)), .val (.ref b262), .val (.ref b264), .unset, .unset, .unset, .unset, .unset, .unset, .unset] [(.ref b262)])) _
      refine XS.iconst X292.here hx rfl (hb hby at_92) ?_
      show Steps p.tables e below (T292.setTop (mkF m 93 #[.val (.int sh), .val (.int tb), .val (.int ma), .val (.int mb), .val (.long cv), .second, .val (.long ov), .second, .val (.int (4 : Int32)), .val (.ref b262), .val (.ref b264), .unset, .unset, .unset, .unset, .unset, .unset, .unset] [(.int (3 : Int32)), (.ref b262)])) _
      refine XS.iloadN X292.here hx rfl (hb hby at_93) rfl ?_
      show Steps p.tables e below (T292.setTop (mkF m 94 #[.val (.int sh), .val (.int tb), .val (.int ma), .val (.int mb), .val (.long cv), .second, .val (.long ov), .second, .val (.int (4 : Int32)), .val (.ref b262), .val (.ref b264), .unset, .unset, .unset, .unset, .unset, .unset, .unset] [(.int sh), (.int (3 : Int32)), (.ref b262)])) _
      refine XS.bipush X292.here hx rfl (hb hby at_94) ?_
      show Steps p.tables e below (T292.setTop (mkF m 96 #[.val (.int sh), .val (.int tb), .val (.int ma), .val (.int mb), .val (.long cv), .second, .val (.long ov), .second, .val (.int (4 : Int32)), .val (.ref b262), .val (.ref b264), .unset, .unset, .unset, .unset, .unset, .unset, .unset] [(.int (26 : Int32)), (.int sh), (.int (3 : Int32)), (.ref b262)])) _
      refine XS.ishr X292.here hx rfl (hb hby at_96) rfl ?_
      show Steps p.tables e below (T292.setTop (mkF m 97 #[.val (.int sh), .val (.int tb), .val (.int ma), .val (.int mb), .val (.long cv), .second, .val (.long ov), .second, .val (.int (4 : Int32)), .val (.ref b262), .val (.ref b264), .unset, .unset, .unset, .unset, .unset, .unset, .unset] [(.int (sh >>> ((26 : Int32) &&& 31))), (.int (3 : Int32)), (.ref b262)])) _
      refine XS.i2b X292.here hx rfl (hb hby at_97) rfl ?_
      show Steps p.tables e below (T292.setTop (mkF m 98 #[.val (.int sh), .val (.int tb), .val (.int ma), .val (.int mb), .val (.long cv), .second, .val (.long ov), .second, .val (.int (4 : Int32)), .val (.ref b262), .val (.ref b264), .unset, .unset, .unset, .unset, .unset, .unset, .unset] [(.int ((sh >>> ((26 : Int32) &&& 31)).toInt8.toInt32)), (.int (3 : Int32)), (.ref b262)])) _
      refine st296 _ ?_
      show Steps p.tables e below (T296.setTop (mkF m 99 #[.val (.int sh), .val (.int tb), .val (.int ma), .val (.int mb), .val (.long cv), .second, .val (.long ov), .second, .val (.int (4 : Int32)), .val (.ref b262), .val (.ref b264), .unset, .unset, .unset, .unset, .unset, .unset, .unset] [])) _
      refine XS.aload X296.here hx rfl (hb hby at_99) rfl rfl ?_
      show Steps p.tables e below (T296.setTop (mkF m 101 #[.val (.int sh), .val (.int tb), .val (.int ma), .val (.int mb), .val (.long cv), .second, .val (.long ov), .second, .val (.int (4 : Int32)), .val (.ref b262), .val (.ref b264), .unset, .unset, .unset, .unset, .unset, .unset, .unset] [(.ref b264)])) _
      refine XS.iconst X296.here hx rfl (hb hby at_101) ?_
      show Steps p.tables e below (T296.setTop (mkF m 102 #[.val (.int sh), .val (.int tb), .val (.int ma), .val (.int mb), .val (.long cv), .second, .val (.long ov), .second, .val (.int (4 : Int32)), .val (.ref b262), .val (.ref b264), .unset, .unset, .unset, .unset, .unset, .unset, .unset] [(.int (3 : Int32)), (.ref b264)])) _
      refine XS.iloadN X296.here hx rfl (hb hby at_102) rfl ?_
      show Steps p.tables e below (T296.setTop (mkF m 103 #[.val (.int sh), .val (.int tb), .val (.int ma), .val (.int mb), .val (.long cv), .second, .val (.long ov), .second, .val (.int (4 : Int32)), .val (.ref b262), .val (.ref b264), .unset, .unset, .unset, .unset, .unset, .unset, .unset] [(.int tb), (.int (3 : Int32)), (.ref b264)])) _
      refine XS.iconst X296.here hx rfl (hb hby at_103) ?_
      show Steps p.tables e below (T296.setTop (mkF m 104 #[.val (.int sh), .val (.int tb), .val (.int ma), .val (.int mb), .val (.long cv), .second, .val (.long ov), .second, .val (.int (4 : Int32)), .val (.ref b262), .val (.ref b264), .unset, .unset, .unset, .unset, .unset, .unset, .unset] [(.int (3 : Int32)), (.int tb), (.int (3 : Int32)), (.ref b264)])) _
      refine st299 _ ?_
      show Steps p.tables e below (T299.setTop (mkF m 107 #[.val (.int sh), .val (.int tb), .val (.int ma), .val (.int mb), .val (.long cv), .second, .val (.long ov), .second, .val (.int (4 : Int32)), .val (.ref b262), .val (.ref b264), .unset, .unset, .unset, .unset, .unset, .unset, .unset] [(.int ((((tb.toUInt32 >>> (((8 : Int32) * (3 : Int32)) &&& 31).toUInt32).toInt32) &&& (255 : Int32)) % ((3 : Int32) + (1 : Int32)))), (.int (3 : Int32)), (.ref b264)])) _
      refine st301 _ ?_
      show Steps p.tables e below (T301.setTop (mkF m 108 #[.val (.int sh), .val (.int tb), .val (.int ma), .val (.int mb), .val (.long cv), .second, .val (.long ov), .second, .val (.int (4 : Int32)), .val (.ref b262), .val (.ref b264), .unset, .unset, .unset, .unset, .unset, .unset, .unset] [])) _
      refine XS.iloadN X301.here hx rfl (hb hby at_108) rfl ?_
      show Steps p.tables e below (T301.setTop (mkF m 109 #[.val (.int sh), .val (.int tb), .val (.int ma), .val (.int mb), .val (.long cv), .second, .val (.long ov), .second, .val (.int (4 : Int32)), .val (.ref b262), .val (.ref b264), .unset, .unset, .unset, .unset, .unset, .unset, .unset] [(.int ma)])) _
      refine X301.ldcInt hx hown (mvT hZ (hw _ (List.mem_of_getElem? (i := 6) rfl))) (g := (mkF m 109 #[.val (.int sh), .val (.int tb), .val (.int ma), .val (.int mb), .val (.long cv), .second, .val (.long ov), .second, .val (.int (4 : Int32)), .val (.ref b262), .val (.ref b264), .unset, .unset, .unset, .unset, .unset, .unset, .unset] [(.int ma)])) rfl (hb hby at_109) _ ?_
      show Steps p.tables e below (T301.setTop (mkF m 111 #[.val (.int sh), .val (.int tb), .val (.int ma), .val (.int mb), .val (.long cv), .second, .val (.long ov), .second, .val (.int (4 : Int32)), .val (.ref b262), .val (.ref b264), .unset, .unset, .unset, .unset, .unset, .unset, .unset] [(.int (2147483647 : Int32)), (.int ma)])) _
      refine XS.iand X301.here hx rfl (hb hby at_111) rfl ?_
      show Steps p.tables e below (T301.setTop (mkF m 112 #[.val (.int sh), .val (.int tb), .val (.int ma), .val (.int mb), .val (.long cv), .second, .val (.long ov), .second, .val (.int (4 : Int32)), .val (.ref b262), .val (.ref b264), .unset, .unset, .unset, .unset, .unset, .unset, .unset] [(.int (ma &&& (2147483647 : Int32)))])) _
      refine XS.iload X301.here hx rfl (hb hby at_112) rfl ?_
      show Steps p.tables e below (T301.setTop (mkF m 114 #[.val (.int sh), .val (.int tb), .val (.int ma), .val (.int mb), .val (.long cv), .second, .val (.long ov), .second, .val (.int (4 : Int32)), .val (.ref b262), .val (.ref b264), .unset, .unset, .unset, .unset, .unset, .unset, .unset] [(.int (4 : Int32)), (.int (ma &&& (2147483647 : Int32)))])) _
      refine XS.iconst X301.here hx rfl (hb hby at_114) ?_
      show Steps p.tables e below (T301.setTop (mkF m 115 #[.val (.int sh), .val (.int tb), .val (.int ma), .val (.int mb), .val (.long cv), .second, .val (.long ov), .second, .val (.int (4 : Int32)), .val (.ref b262), .val (.ref b264), .unset, .unset, .unset, .unset, .unset, .unset, .unset] [(.int (1 : Int32)), (.int (4 : Int32)), (.int (ma &&& (2147483647 : Int32)))])) _
      refine XS.iadd X301.here hx rfl (hb hby at_115) rfl ?_
      show Steps p.tables e below (T301.setTop (mkF m 116 #[.val (.int sh), .val (.int tb), .val (.int ma), .val (.int mb), .val (.long cv), .second, .val (.long ov), .second, .val (.int (4 : Int32)), .val (.ref b262), .val (.ref b264), .unset, .unset, .unset, .unset, .unset, .unset, .unset] [(.int (5 : Int32)), (.int (ma &&& (2147483647 : Int32)))])) _
      refine iremM X301 hx rfl (hb hby at_116) rfl (by decide) ?_
      show Steps p.tables e below (T301.setTop (mkF m 117 #[.val (.int sh), .val (.int tb), .val (.int ma), .val (.int mb), .val (.long cv), .second, .val (.long ov), .second, .val (.int (4 : Int32)), .val (.ref b262), .val (.ref b264), .unset, .unset, .unset, .unset, .unset, .unset, .unset] [(.int ((ma &&& (2147483647 : Int32)) % (5 : Int32)))])) _
      refine XS.istore X301.here hx rfl (hb hby at_117) rfl (l' := #[.val (.int sh), .val (.int tb), .val (.int ma), .val (.int mb), .val (.long cv), .second, .val (.long ov), .second, .val (.int (4 : Int32)), .val (.ref b262), .val (.ref b264), .val (.int ((ma &&& (2147483647 : Int32)) % (5 : Int32))), .unset, .unset, .unset, .unset, .unset, .unset]) rfl ?_
      show Steps p.tables e below (T301.setTop (mkF m 119 #[.val (.int sh), .val (.int tb), .val (.int ma), .val (.int mb), .val (.long cv), .second, .val (.long ov), .second, .val (.int (4 : Int32)), .val (.ref b262), .val (.ref b264), .val (.int ((ma &&& (2147483647 : Int32)) % (5 : Int32))), .unset, .unset, .unset, .unset, .unset, .unset] [])) _
      refine XS.iloadN X301.here hx rfl (hb hby at_119) rfl ?_
      show Steps p.tables e below (T301.setTop (mkF m 120 #[.val (.int sh), .val (.int tb), .val (.int ma), .val (.int mb), .val (.long cv), .second, .val (.long ov), .second, .val (.int (4 : Int32)), .val (.ref b262), .val (.ref b264), .val (.int ((ma &&& (2147483647 : Int32)) % (5 : Int32))), .unset, .unset, .unset, .unset, .unset, .unset] [(.int mb)])) _
      refine X301.ldcInt hx hown (mvT hZ (hw _ (List.mem_of_getElem? (i := 6) rfl))) (g := (mkF m 120 #[.val (.int sh), .val (.int tb), .val (.int ma), .val (.int mb), .val (.long cv), .second, .val (.long ov), .second, .val (.int (4 : Int32)), .val (.ref b262), .val (.ref b264), .val (.int ((ma &&& (2147483647 : Int32)) % (5 : Int32))), .unset, .unset, .unset, .unset, .unset, .unset] [(.int mb)])) rfl (hb hby at_120) _ ?_
      show Steps p.tables e below (T301.setTop (mkF m 122 #[.val (.int sh), .val (.int tb), .val (.int ma), .val (.int mb), .val (.long cv), .second, .val (.long ov), .second, .val (.int (4 : Int32)), .val (.ref b262), .val (.ref b264), .val (.int ((ma &&& (2147483647 : Int32)) % (5 : Int32))), .unset, .unset, .unset, .unset, .unset, .unset] [(.int (2147483647 : Int32)), (.int mb)])) _
      refine XS.iand X301.here hx rfl (hb hby at_122) rfl ?_
      show Steps p.tables e below (T301.setTop (mkF m 123 #[.val (.int sh), .val (.int tb), .val (.int ma), .val (.int mb), .val (.long cv), .second, .val (.long ov), .second, .val (.int (4 : Int32)), .val (.ref b262), .val (.ref b264), .val (.int ((ma &&& (2147483647 : Int32)) % (5 : Int32))), .unset, .unset, .unset, .unset, .unset, .unset] [(.int (mb &&& (2147483647 : Int32)))])) _
      refine XS.iload X301.here hx rfl (hb hby at_123) rfl ?_
      show Steps p.tables e below (T301.setTop (mkF m 125 #[.val (.int sh), .val (.int tb), .val (.int ma), .val (.int mb), .val (.long cv), .second, .val (.long ov), .second, .val (.int (4 : Int32)), .val (.ref b262), .val (.ref b264), .val (.int ((ma &&& (2147483647 : Int32)) % (5 : Int32))), .unset, .unset, .unset, .unset, .unset, .unset] [(.int (4 : Int32)), (.int (mb &&& (2147483647 : Int32)))])) _
      refine XS.iconst X301.here hx rfl (hb hby at_125) ?_
      show Steps p.tables e below (T301.setTop (mkF m 126 #[.val (.int sh), .val (.int tb), .val (.int ma), .val (.int mb), .val (.long cv), .second, .val (.long ov), .second, .val (.int (4 : Int32)), .val (.ref b262), .val (.ref b264), .val (.int ((ma &&& (2147483647 : Int32)) % (5 : Int32))), .unset, .unset, .unset, .unset, .unset, .unset] [(.int (1 : Int32)), (.int (4 : Int32)), (.int (mb &&& (2147483647 : Int32)))])) _
      refine XS.iadd X301.here hx rfl (hb hby at_126) rfl ?_
      show Steps p.tables e below (T301.setTop (mkF m 127 #[.val (.int sh), .val (.int tb), .val (.int ma), .val (.int mb), .val (.long cv), .second, .val (.long ov), .second, .val (.int (4 : Int32)), .val (.ref b262), .val (.ref b264), .val (.int ((ma &&& (2147483647 : Int32)) % (5 : Int32))), .unset, .unset, .unset, .unset, .unset, .unset] [(.int (5 : Int32)), (.int (mb &&& (2147483647 : Int32)))])) _
      refine iremM X301 hx rfl (hb hby at_127) rfl (by decide) ?_
      show Steps p.tables e below (T301.setTop (mkF m 128 #[.val (.int sh), .val (.int tb), .val (.int ma), .val (.int mb), .val (.long cv), .second, .val (.long ov), .second, .val (.int (4 : Int32)), .val (.ref b262), .val (.ref b264), .val (.int ((ma &&& (2147483647 : Int32)) % (5 : Int32))), .unset, .unset, .unset, .unset, .unset, .unset] [(.int ((mb &&& (2147483647 : Int32)) % (5 : Int32)))])) _
      refine XS.istore X301.here hx rfl (hb hby at_128) rfl (l' := #[.val (.int sh), .val (.int tb), .val (.int ma), .val (.int mb), .val (.long cv), .second, .val (.long ov), .second, .val (.int (4 : Int32)), .val (.ref b262), .val (.ref b264), .val (.int ((ma &&& (2147483647 : Int32)) % (5 : Int32))), .val (.int ((mb &&& (2147483647 : Int32)) % (5 : Int32))), .unset, .unset, .unset, .unset, .unset]) rfl ?_
      show Steps p.tables e below (T301.setTop (mkF m 130 #[.val (.int sh), .val (.int tb), .val (.int ma), .val (.int mb), .val (.long cv), .second, .val (.long ov), .second, .val (.int (4 : Int32)), .val (.ref b262), .val (.ref b264), .val (.int ((ma &&& (2147483647 : Int32)) % (5 : Int32))), .val (.int ((mb &&& (2147483647 : Int32)) % (5 : Int32))), .unset, .unset, .unset, .unset, .unset] [])) _
      refine st304 _ ?_
      show Steps p.tables e below (T304.setTop (mkF m 133 #[.val (.int sh), .val (.int tb), .val (.int ma), .val (.int mb), .val (.long cv), .second, .val (.long ov), .second, .val (.int (4 : Int32)), .val (.ref b262), .val (.ref b264), .val (.int ((ma &&& (2147483647 : Int32)) % (5 : Int32))), .val (.int ((mb &&& (2147483647 : Int32)) % (5 : Int32))), .unset, .unset, .unset, .unset, .unset] [(.ref b304)])) _
      refine XS.dup X304.here hx rfl (hb hby at_133) rfl rfl ?_
      show Steps p.tables e below (T304.setTop (mkF m 134 #[.val (.int sh), .val (.int tb), .val (.int ma), .val (.int mb), .val (.long cv), .second, .val (.long ov), .second, .val (.int (4 : Int32)), .val (.ref b262), .val (.ref b264), .val (.int ((ma &&& (2147483647 : Int32)) % (5 : Int32))), .val (.int ((mb &&& (2147483647 : Int32)) % (5 : Int32))), .unset, .unset, .unset, .unset, .unset] [(.ref b304), (.ref b304)])) _
      refine XS.aload X304.here hx rfl (hb hby at_134) rfl rfl ?_
      show Steps p.tables e below (T304.setTop (mkF m 136 #[.val (.int sh), .val (.int tb), .val (.int ma), .val (.int mb), .val (.long cv), .second, .val (.long ov), .second, .val (.int (4 : Int32)), .val (.ref b262), .val (.ref b264), .val (.int ((ma &&& (2147483647 : Int32)) % (5 : Int32))), .val (.int ((mb &&& (2147483647 : Int32)) % (5 : Int32))), .unset, .unset, .unset, .unset, .unset] [(.ref b262), (.ref b304), (.ref b304)])) _
      refine XS.aload X304.here hx rfl (hb hby at_136) rfl rfl ?_
      show Steps p.tables e below (T304.setTop (mkF m 138 #[.val (.int sh), .val (.int tb), .val (.int ma), .val (.int mb), .val (.long cv), .second, .val (.long ov), .second, .val (.int (4 : Int32)), .val (.ref b262), .val (.ref b264), .val (.int ((ma &&& (2147483647 : Int32)) % (5 : Int32))), .val (.int ((mb &&& (2147483647 : Int32)) % (5 : Int32))), .unset, .unset, .unset, .unset, .unset] [(.ref b264), (.ref b262), (.ref b304), (.ref b304)])) _
      refine st314.trans ?_
      show Steps p.tables e below (T314.setTop (mkF m 141 #[.val (.int sh), .val (.int tb), .val (.int ma), .val (.int mb), .val (.long cv), .second, .val (.long ov), .second, .val (.int (4 : Int32)), .val (.ref b262), .val (.ref b264), .val (.int ((ma &&& (2147483647 : Int32)) % (5 : Int32))), .val (.int ((mb &&& (2147483647 : Int32)) % (5 : Int32))), .unset, .unset, .unset, .unset, .unset] [(.ref b304)])) _
      refine XS.astore X314.here hx rfl (hb hby at_141) rfl rfl (l' := #[.val (.int sh), .val (.int tb), .val (.int ma), .val (.int mb), .val (.long cv), .second, .val (.long ov), .second, .val (.int (4 : Int32)), .val (.ref b262), .val (.ref b264), .val (.int ((ma &&& (2147483647 : Int32)) % (5 : Int32))), .val (.int ((mb &&& (2147483647 : Int32)) % (5 : Int32))), .val (.ref b304), .unset, .unset, .unset, .unset]) rfl ?_
      show Steps p.tables e below (T314.setTop (mkF m 143 #[.val (.int sh), .val (.int tb), .val (.int ma), .val (.int mb), .val (.long cv), .second, .val (.long ov), .second, .val (.int (4 : Int32)), .val (.ref b262), .val (.ref b264), .val (.int ((ma &&& (2147483647 : Int32)) % (5 : Int32))), .val (.int ((mb &&& (2147483647 : Int32)) % (5 : Int32))), .val (.ref b304), .unset, .unset, .unset, .unset] [])) _
      refine XS.aload X314.here hx rfl (hb hby at_143) rfl rfl ?_
      show Steps p.tables e below (T314.setTop (mkF m 145 #[.val (.int sh), .val (.int tb), .val (.int ma), .val (.int mb), .val (.long cv), .second, .val (.long ov), .second, .val (.int (4 : Int32)), .val (.ref b262), .val (.ref b264), .val (.int ((ma &&& (2147483647 : Int32)) % (5 : Int32))), .val (.int ((mb &&& (2147483647 : Int32)) % (5 : Int32))), .val (.ref b304), .unset, .unset, .unset, .unset] [(.ref b304)])) _
      refine XS.iload X314.here hx rfl (hb hby at_145) rfl ?_
      show Steps p.tables e below (T314.setTop (mkF m 147 #[.val (.int sh), .val (.int tb), .val (.int ma), .val (.int mb), .val (.long cv), .second, .val (.long ov), .second, .val (.int (4 : Int32)), .val (.ref b262), .val (.ref b264), .val (.int ((ma &&& (2147483647 : Int32)) % (5 : Int32))), .val (.int ((mb &&& (2147483647 : Int32)) % (5 : Int32))), .val (.ref b304), .unset, .unset, .unset, .unset] [(.int ((ma &&& (2147483647 : Int32)) % (5 : Int32))), (.ref b304)])) _
      refine XS.lload X314.here hx rfl (hb hby at_147) rfl ?_
      show Steps p.tables e below (T314.setTop (mkF m 149 #[.val (.int sh), .val (.int tb), .val (.int ma), .val (.int mb), .val (.long cv), .second, .val (.long ov), .second, .val (.int (4 : Int32)), .val (.ref b262), .val (.ref b264), .val (.int ((ma &&& (2147483647 : Int32)) % (5 : Int32))), .val (.int ((mb &&& (2147483647 : Int32)) % (5 : Int32))), .val (.ref b304), .unset, .unset, .unset, .unset] [(.long cv), (.int ((ma &&& (2147483647 : Int32)) % (5 : Int32))), (.ref b304)])) _
      refine XS.lload X314.here hx rfl (hb hby at_149) rfl ?_
      show Steps p.tables e below (T314.setTop (mkF m 151 #[.val (.int sh), .val (.int tb), .val (.int ma), .val (.int mb), .val (.long cv), .second, .val (.long ov), .second, .val (.int (4 : Int32)), .val (.ref b262), .val (.ref b264), .val (.int ((ma &&& (2147483647 : Int32)) % (5 : Int32))), .val (.int ((mb &&& (2147483647 : Int32)) % (5 : Int32))), .val (.ref b304), .unset, .unset, .unset, .unset] [(.long ov), (.long cv), (.int ((ma &&& (2147483647 : Int32)) % (5 : Int32))), (.ref b304)])) _
      refine st323.trans ?_
      exact k
    obtain ⟨T340, Lo340, X340, e340, N340, pre340⟩ : ∃ (T' : State) (lo : List Loc), Stand p l e room_1 s m #[(.int sh), (.int tb), (.int ma), (.int mb), (.long cv), (.long ov)] below meth c T' lo 3 13 ∧ T'.heap = T323.heap ∧ Fr n0 lo ∧ ∀ t, Steps p.tables e below (T'.setTop (mkF m 174 #[.val (.int sh), .val (.int tb), .val (.int ma), .val (.int mb), .val (.long cv), .second, .val (.long ov), .second, .val (.int (4 : Int32)), .val (.ref b262), .val (.ref b264), .val (.int ((ma &&& (2147483647 : Int32)) % (5 : Int32))), .val (.int ((mb &&& (2147483647 : Int32)) % (5 : Int32))), .val (.ref b304), .unset, .unset, .unset, .unset] [(.int (j0_154_s0_3 tb ma))])) t → Steps p.tables e below (s₁.setTop (entryFrame m #[(.int sh), (.int tb), (.int ma), (.int mb), (.long cv), (.long ov)] maxLocals)) t := by
      have pre333 : ∀ t, Steps p.tables e below (T323.setTop (mkF m 158 #[.val (.int sh), .val (.int tb), .val (.int ma), .val (.int mb), .val (.long cv), .second, .val (.long ov), .second, .val (.int (4 : Int32)), .val (.ref b262), .val (.ref b264), .val (.int ((ma &&& (2147483647 : Int32)) % (5 : Int32))), .val (.int ((mb &&& (2147483647 : Int32)) % (5 : Int32))), .val (.ref b304), .unset, .unset, .unset, .unset] [(.int (4 : Int32)), (.int ((ma &&& (2147483647 : Int32)) % (5 : Int32)))])) t → Steps p.tables e below (s₁.setTop (entryFrame m #[(.int sh), (.int tb), (.int ma), (.int mb), (.long cv), (.long ov)] maxLocals)) t := by
        intro t k
        refine pre332 _ ?_
        show Steps p.tables e below (T323.setTop (mkF m 154 #[.val (.int sh), .val (.int tb), .val (.int ma), .val (.int mb), .val (.long cv), .second, .val (.long ov), .second, .val (.int (4 : Int32)), .val (.ref b262), .val (.ref b264), .val (.int ((ma &&& (2147483647 : Int32)) % (5 : Int32))), .val (.int ((mb &&& (2147483647 : Int32)) % (5 : Int32))), .val (.ref b304), .unset, .unset, .unset, .unset] [])) _
        refine XS.iload X323.here hx rfl (hb hby at_154) rfl ?_
        show Steps p.tables e below (T323.setTop (mkF m 156 #[.val (.int sh), .val (.int tb), .val (.int ma), .val (.int mb), .val (.long cv), .second, .val (.long ov), .second, .val (.int (4 : Int32)), .val (.ref b262), .val (.ref b264), .val (.int ((ma &&& (2147483647 : Int32)) % (5 : Int32))), .val (.int ((mb &&& (2147483647 : Int32)) % (5 : Int32))), .val (.ref b304), .unset, .unset, .unset, .unset] [(.int ((ma &&& (2147483647 : Int32)) % (5 : Int32)))])) _
        refine XS.iload X323.here hx rfl (hb hby at_156) rfl ?_
        exact k
      by_cases hk334 : ((ma &&& (2147483647 : Int32)) % (5 : Int32)) = (4 : Int32)
      · obtain ⟨_, _, ⟨T335, L335, k335, n335⟩, -, X335, ⟨Lc335, hQ335, l335, y335, z335⟩, st335⟩ := Jvm.LawKit.callS X323 hx (y := (⟨"skipstitch/search/PrefixTableScanResumePinLaw", "entry", "(II)I"⟩ : MethodName)) hown (mvT hZ (hw _ (List.mem_of_getElem? (i := 2) rfl))) (mvT hZ (hw _ (List.mem_of_getElem? (i := 3) rfl))) (mvT hZ (hw _ (List.mem_of_getElem? (i := 4) rfl))) (mvT hZ (hw _ (List.mem_of_getElem? (i := 5) rfl))) (by decide) (backOf (W := 0) (rm1 l Z a0 hw [] tb (3 : Int32) T323.heap n0 Z323 (by decide)) hZ (hw _ (List.mem_of_getElem? (i := 5) rfl)) (hw _ (List.mem_of_getElem? (i := 4) rfl)) (by decide) (by decide)) (g := (mkF m 166 #[.val (.int sh), .val (.int tb), .val (.int ma), .val (.int mb), .val (.long cv), .second, .val (.long ov), .second, .val (.int (4 : Int32)), .val (.ref b262), .val (.ref b264), .val (.int ((ma &&& (2147483647 : Int32)) % (5 : Int32))), .val (.int ((mb &&& (2147483647 : Int32)) % (5 : Int32))), .val (.ref b304), .unset, .unset, .unset, .unset] [(.int (3 : Int32)), (.int tb)])) rfl (by rw [hml]; rfl) (argsL := [(.int tb), (.int (3 : Int32))]) (rest := []) (lenOf pd_0 rfl) rfl (by show 2 * 0 + _ ≤ _; exact Nat.le_of_eq rfl) (hb hby at_166) (fun _ _ => ⟨rfl, rfl, (by decide : 3 + 0 ≤ _), (by decide : 13 + 0 ≤ _)⟩)
        dsimp only [Pt.U, Pt.locs, Pt.cells, Pt.slots] at X335 l335 y335 z335 st335 hQ335
        subst l335 y335 z335
        obtain ⟨rfl, N335q, e335⟩ := hQ335
        have N335 := Fr.app N323 N335q
        have pre336 : ∀ t, Steps p.tables e below (T335.setTop (mkF m 174 #[.val (.int sh), .val (.int tb), .val (.int ma), .val (.int mb), .val (.long cv), .second, .val (.long ov), .second, .val (.int (4 : Int32)), .val (.ref b262), .val (.ref b264), .val (.int ((ma &&& (2147483647 : Int32)) % (5 : Int32))), .val (.int ((mb &&& (2147483647 : Int32)) % (5 : Int32))), .val (.ref b304), .unset, .unset, .unset, .unset] [(.int ((((tb.toUInt32 >>> (((8 : Int32) * (3 : Int32)) &&& 31).toUInt32).toInt32) &&& (255 : Int32)) % ((3 : Int32) + (1 : Int32))))])) t → Steps p.tables e below (s₁.setTop (entryFrame m #[(.int sh), (.int tb), (.int ma), (.int mb), (.long cv), (.long ov)] maxLocals)) t := by
          intro t k
          refine pre333 _ ?_
          show Steps p.tables e below (T323.setTop (mkF m 158 #[.val (.int sh), .val (.int tb), .val (.int ma), .val (.int mb), .val (.long cv), .second, .val (.long ov), .second, .val (.int (4 : Int32)), .val (.ref b262), .val (.ref b264), .val (.int ((ma &&& (2147483647 : Int32)) % (5 : Int32))), .val (.int ((mb &&& (2147483647 : Int32)) % (5 : Int32))), .val (.ref b304), .unset, .unset, .unset, .unset] [(.int (4 : Int32)), (.int ((ma &&& (2147483647 : Int32)) % (5 : Int32)))])) _
          refine XS.icmpNo X323.here hx rfl (hb hby at_158) rfl (teq hk334).2 ?_
          show Steps p.tables e below (T323.setTop (mkF m 161 #[.val (.int sh), .val (.int tb), .val (.int ma), .val (.int mb), .val (.long cv), .second, .val (.long ov), .second, .val (.int (4 : Int32)), .val (.ref b262), .val (.ref b264), .val (.int ((ma &&& (2147483647 : Int32)) % (5 : Int32))), .val (.int ((mb &&& (2147483647 : Int32)) % (5 : Int32))), .val (.ref b304), .unset, .unset, .unset, .unset] [])) _
          refine XS.iloadN X323.here hx rfl (hb hby at_161) rfl ?_
          show Steps p.tables e below (T323.setTop (mkF m 162 #[.val (.int sh), .val (.int tb), .val (.int ma), .val (.int mb), .val (.long cv), .second, .val (.long ov), .second, .val (.int (4 : Int32)), .val (.ref b262), .val (.ref b264), .val (.int ((ma &&& (2147483647 : Int32)) % (5 : Int32))), .val (.int ((mb &&& (2147483647 : Int32)) % (5 : Int32))), .val (.ref b304), .unset, .unset, .unset, .unset] [(.int tb)])) _
          refine XS.iload X323.here hx rfl (hb hby at_162) rfl ?_
          show Steps p.tables e below (T323.setTop (mkF m 164 #[.val (.int sh), .val (.int tb), .val (.int ma), .val (.int mb), .val (.long cv), .second, .val (.long ov), .second, .val (.int (4 : Int32)), .val (.ref b262), .val (.ref b264), .val (.int ((ma &&& (2147483647 : Int32)) % (5 : Int32))), .val (.int ((mb &&& (2147483647 : Int32)) % (5 : Int32))), .val (.ref b304), .unset, .unset, .unset, .unset] [(.int (4 : Int32)), (.int tb)])) _
          refine XS.iconst X323.here hx rfl (hb hby at_164) ?_
          show Steps p.tables e below (T323.setTop (mkF m 165 #[.val (.int sh), .val (.int tb), .val (.int ma), .val (.int mb), .val (.long cv), .second, .val (.long ov), .second, .val (.int (4 : Int32)), .val (.ref b262), .val (.ref b264), .val (.int ((ma &&& (2147483647 : Int32)) % (5 : Int32))), .val (.int ((mb &&& (2147483647 : Int32)) % (5 : Int32))), .val (.ref b304), .unset, .unset, .unset, .unset] [(.int (1 : Int32)), (.int (4 : Int32)), (.int tb)])) _
          refine XS.isub X323.here hx rfl (hb hby at_165) rfl ?_
          show Steps p.tables e below (T323.setTop (mkF m 166 #[.val (.int sh), .val (.int tb), .val (.int ma), .val (.int mb), .val (.long cv), .second, .val (.long ov), .second, .val (.int (4 : Int32)), .val (.ref b262), .val (.ref b264), .val (.int ((ma &&& (2147483647 : Int32)) % (5 : Int32))), .val (.int ((mb &&& (2147483647 : Int32)) % (5 : Int32))), .val (.ref b304), .unset, .unset, .unset, .unset] [(.int (3 : Int32)), (.int tb)])) _
          refine st335 _ ?_
          show Steps p.tables e below (T335.setTop (mkF m 169 #[.val (.int sh), .val (.int tb), .val (.int ma), .val (.int mb), .val (.long cv), .second, .val (.long ov), .second, .val (.int (4 : Int32)), .val (.ref b262), .val (.ref b264), .val (.int ((ma &&& (2147483647 : Int32)) % (5 : Int32))), .val (.int ((mb &&& (2147483647 : Int32)) % (5 : Int32))), .val (.ref b304), .unset, .unset, .unset, .unset] [(.int ((((tb.toUInt32 >>> (((8 : Int32) * (3 : Int32)) &&& 31).toUInt32).toInt32) &&& (255 : Int32)) % ((3 : Int32) + (1 : Int32))))])) _
          refine XS.goto X335.here hx rfl (pc0 := 169) (pc' := 174) rfl (hb hby at_169) (by decide) (by decide) ?_
          exact k
        have ev338 : (j0_154_s0_3 tb ma) = ((((tb.toUInt32 >>> (((8 : Int32) * (3 : Int32)) &&& 31).toUInt32).toInt32) &&& (255 : Int32)) % ((3 : Int32) + (1 : Int32))) := by unfold j0_154_s0_3; rw [if_pos hk334]
        exact ⟨_, _, X335, e335, N335, fun t k => pre336 _ (by rw [ev338] at k; exact k)⟩
      · have pre337 : ∀ t, Steps p.tables e below (T323.setTop (mkF m 174 #[.val (.int sh), .val (.int tb), .val (.int ma), .val (.int mb), .val (.long cv), .second, .val (.long ov), .second, .val (.int (4 : Int32)), .val (.ref b262), .val (.ref b264), .val (.int ((ma &&& (2147483647 : Int32)) % (5 : Int32))), .val (.int ((mb &&& (2147483647 : Int32)) % (5 : Int32))), .val (.ref b304), .unset, .unset, .unset, .unset] [(.int ((ma &&& (2147483647 : Int32)) % (5 : Int32)))])) t → Steps p.tables e below (s₁.setTop (entryFrame m #[(.int sh), (.int tb), (.int ma), (.int mb), (.long cv), (.long ov)] maxLocals)) t := by
          intro t k
          refine pre333 _ ?_
          show Steps p.tables e below (T323.setTop (mkF m 158 #[.val (.int sh), .val (.int tb), .val (.int ma), .val (.int mb), .val (.long cv), .second, .val (.long ov), .second, .val (.int (4 : Int32)), .val (.ref b262), .val (.ref b264), .val (.int ((ma &&& (2147483647 : Int32)) % (5 : Int32))), .val (.int ((mb &&& (2147483647 : Int32)) % (5 : Int32))), .val (.ref b304), .unset, .unset, .unset, .unset] [(.int (4 : Int32)), (.int ((ma &&& (2147483647 : Int32)) % (5 : Int32)))])) _
          refine XS.icmpYes X323.here hx rfl (pc0 := 158) (pc' := 172) rfl (hb hby at_158) rfl (feq hk334).2 (by decide) (by decide) ?_
          show Steps p.tables e below (T323.setTop (mkF m 172 #[.val (.int sh), .val (.int tb), .val (.int ma), .val (.int mb), .val (.long cv), .second, .val (.long ov), .second, .val (.int (4 : Int32)), .val (.ref b262), .val (.ref b264), .val (.int ((ma &&& (2147483647 : Int32)) % (5 : Int32))), .val (.int ((mb &&& (2147483647 : Int32)) % (5 : Int32))), .val (.ref b304), .unset, .unset, .unset, .unset] [])) _
          refine XS.iload X323.here hx rfl (hb hby at_172) rfl ?_
          exact k
        have ev339 : (j0_154_s0_3 tb ma) = ((ma &&& (2147483647 : Int32)) % (5 : Int32)) := by unfold j0_154_s0_3; rw [if_neg hk334]
        exact ⟨_, _, X323, rfl, N323, fun t k => pre337 _ (by rw [ev339] at k; exact k)⟩
    obtain ⟨cq341, kq341, q341a, q341b, q341c⟩ := isOf hZ e340 f331
    obtain ⟨_, _, ⟨T341, L341, k341, n341⟩, -, X341, ⟨Lc341, hQ341, l341, y341, z341⟩, st341⟩ := X340.virtualBack hx (y := (⟨"skipstitch/search/PrefixTableScan", "matched", "()I"⟩ : MethodName)) (z := (⟨"skipstitch/search/PrefixTableScan", "matched", "()I"⟩ : MethodName)) hown (mvT hZ (hw _ (List.mem_of_getElem? (i := 31) rfl))) (mvT hZ (hw _ (List.mem_of_getElem? (i := 32) rfl))) (notFace_of_selects (args := #[]) (mvT hZ (hw _ (List.mem_of_getElem? (i := 34) rfl)))) (mvT hZ (hw _ (List.mem_of_getElem? (i := 34) rfl))) (mvT hZ (hw _ (List.mem_of_getElem? (i := 33) rfl))) (by decide) (backOf (W := 0) (rm5 l Z a0 hw [] b304 (r4k4_matched ((ma &&& (2147483647 : Int32)) % (5 : Int32)) (up (up (up (up zI 0 ((((tb.toUInt32 >>> (((8 : Int32) * (0 : Int32)) &&& 31).toUInt32).toInt32) &&& (255 : Int32)) % ((0 : Int32) + (1 : Int32)))) 1 ((((tb.toUInt32 >>> (((8 : Int32) * (1 : Int32)) &&& 31).toUInt32).toInt32) &&& (255 : Int32)) % ((1 : Int32) + (1 : Int32)))) 2 ((((tb.toUInt32 >>> (((8 : Int32) * (2 : Int32)) &&& 31).toUInt32).toInt32) &&& (255 : Int32)) % ((2 : Int32) + (1 : Int32)))) 3 ((((tb.toUInt32 >>> (((8 : Int32) * (3 : Int32)) &&& 31).toUInt32).toInt32) &&& (255 : Int32)) % ((3 : Int32) + (1 : Int32))))) T323.heap n0 Z323 f326) hZ (hw _ (List.mem_of_getElem? (i := 35) rfl)) (hw _ (List.mem_of_getElem? (i := 9) rfl)) (by decide) (by decide)) q341a q341c (g := (mkF m 178 #[.val (.int sh), .val (.int tb), .val (.int ma), .val (.int mb), .val (.long cv), .second, .val (.long ov), .second, .val (.int (4 : Int32)), .val (.ref b262), .val (.ref b264), .val (.int ((ma &&& (2147483647 : Int32)) % (5 : Int32))), .val (.int ((mb &&& (2147483647 : Int32)) % (5 : Int32))), .val (.ref b304), .val (.int (j0_154_s0_3 tb ma)), .unset, .unset, .unset] [(.ref b304)])) rfl (by rw [hml]; rfl) (Steps.refl _) (argsL := []) (rest := []) (lenOf pd_3 rfl) rfl (by show 2 * 0 + _ ≤ _; exact Nat.le_of_eq rfl) (hb hby at_178) (fun _ _ => ⟨rfl, e340, (by decide : 3 + 0 ≤ _), (by decide : 13 + 0 ≤ _)⟩)
    dsimp only [Pt.U, Pt.locs, Pt.cells, Pt.slots] at X341 l341 y341 z341 st341 hQ341
    subst l341 y341 z341
    obtain ⟨rfl, N341q, e341⟩ := hQ341
    have N341 := Fr.app N340 N341q
    obtain ⟨cq342, kq342, q342a, q342b, q342c⟩ := isOf hZ e341 f331
    obtain ⟨_, _, ⟨T342, L342, k342, n342⟩, -, X342, ⟨Lc342, hQ342, l342, y342, z342⟩, st342⟩ := X341.virtualBack hx (y := (⟨"skipstitch/search/PrefixTableScan", "comparisons", "()J"⟩ : MethodName)) (z := (⟨"skipstitch/search/PrefixTableScan", "comparisons", "()J"⟩ : MethodName)) hown (mvT hZ (hw _ (List.mem_of_getElem? (i := 36) rfl))) (mvT hZ (hw _ (List.mem_of_getElem? (i := 37) rfl))) (notFace_of_selects (args := #[]) (mvT hZ (hw _ (List.mem_of_getElem? (i := 39) rfl)))) (mvT hZ (hw _ (List.mem_of_getElem? (i := 39) rfl))) (mvT hZ (hw _ (List.mem_of_getElem? (i := 38) rfl))) (by decide) (backOf (W := 0) (rm6 l Z a0 hw [] b304 cv T323.heap n0 Z323 f327) hZ (hw _ (List.mem_of_getElem? (i := 40) rfl)) (hw _ (List.mem_of_getElem? (i := 9) rfl)) (by decide) (by decide)) q342a q342c (g := (mkF m 188 #[.val (.int sh), .val (.int tb), .val (.int ma), .val (.int mb), .val (.long cv), .second, .val (.long ov), .second, .val (.int (4 : Int32)), .val (.ref b262), .val (.ref b264), .val (.int ((ma &&& (2147483647 : Int32)) % (5 : Int32))), .val (.int ((mb &&& (2147483647 : Int32)) % (5 : Int32))), .val (.ref b304), .val (.int (j0_154_s0_3 tb ma)), .unset, .unset, .unset] [(.ref b304)])) rfl (by rw [hml]; rfl) (Steps.refl _) (argsL := []) (rest := []) (lenOf pd_4 rfl) rfl (by show 2 * 0 + _ ≤ _; exact Nat.le_of_eq rfl) (hb hby at_188) (fun _ _ => ⟨rfl, e341, (by decide : 3 + 0 ≤ _), (by decide : 13 + 0 ≤ _)⟩)
    dsimp only [Pt.U, Pt.locs, Pt.cells, Pt.slots] at X342 l342 y342 z342 st342 hQ342
    subst l342 y342 z342
    obtain ⟨rfl, N342q, e342⟩ := hQ342
    have N342 := Fr.app N341 N342q
    obtain ⟨cq343, kq343, q343a, q343b, q343c⟩ := isOf hZ e342 f331
    obtain ⟨_, _, ⟨T343, L343, k343, n343⟩, -, X343, ⟨Lc343, hQ343, l343, y343, z343⟩, st343⟩ := X342.virtualBack hx (y := (⟨"skipstitch/search/PrefixTableScan", "occurrences", "()J"⟩ : MethodName)) (z := (⟨"skipstitch/search/PrefixTableScan", "occurrences", "()J"⟩ : MethodName)) hown (mvT hZ (hw _ (List.mem_of_getElem? (i := 41) rfl))) (mvT hZ (hw _ (List.mem_of_getElem? (i := 42) rfl))) (notFace_of_selects (args := #[]) (mvT hZ (hw _ (List.mem_of_getElem? (i := 44) rfl)))) (mvT hZ (hw _ (List.mem_of_getElem? (i := 44) rfl))) (mvT hZ (hw _ (List.mem_of_getElem? (i := 43) rfl))) (by decide) (backOf (W := 0) (rm7 l Z a0 hw [] b304 ov T323.heap n0 Z323 f328) hZ (hw _ (List.mem_of_getElem? (i := 45) rfl)) (hw _ (List.mem_of_getElem? (i := 9) rfl)) (by decide) (by decide)) q343a q343c (g := (mkF m 199 #[.val (.int sh), .val (.int tb), .val (.int ma), .val (.int mb), .val (.long cv), .second, .val (.long ov), .second, .val (.int (4 : Int32)), .val (.ref b262), .val (.ref b264), .val (.int ((ma &&& (2147483647 : Int32)) % (5 : Int32))), .val (.int ((mb &&& (2147483647 : Int32)) % (5 : Int32))), .val (.ref b304), .val (.int (j0_154_s0_3 tb ma)), .unset, .unset, .unset] [(.ref b304)])) rfl (by rw [hml]; rfl) (Steps.refl _) (argsL := []) (rest := []) (lenOf pd_4 rfl) rfl (by show 2 * 0 + _ ≤ _; exact Nat.le_of_eq rfl) (hb hby at_199) (fun _ _ => ⟨rfl, e342, (by decide : 3 + 0 ≤ _), (by decide : 13 + 0 ≤ _)⟩)
    dsimp only [Pt.U, Pt.locs, Pt.cells, Pt.slots] at X343 l343 y343 z343 st343 hQ343
    subst l343 y343 z343
    obtain ⟨rfl, N343q, e343⟩ := hQ343
    have N343 := Fr.app N342 N343q
    obtain ⟨cq344, kq344, q344a, q344b, q344c⟩ := isOf hZ e343 f331
    obtain ⟨_, _, ⟨T344, L344, k344, n344⟩, -, X344, ⟨Lc344, hQ344, l344, y344, z344⟩, st344⟩ := X343.virtualBack hx (y := (⟨"skipstitch/search/PrefixTableScan", "resume", "(IJJ)V"⟩ : MethodName)) (z := (⟨"skipstitch/search/PrefixTableScan", "resume", "(IJJ)V"⟩ : MethodName)) hown (mvT hZ (hw _ (List.mem_of_getElem? (i := 20) rfl))) (mvT hZ (hw _ (List.mem_of_getElem? (i := 21) rfl))) (notFace_of_selects (args := #[]) (mvT hZ (hw _ (List.mem_of_getElem? (i := 23) rfl)))) (mvT hZ (hw _ (List.mem_of_getElem? (i := 23) rfl))) (mvT hZ (hw _ (List.mem_of_getElem? (i := 22) rfl))) (by decide) (backOf (W := 0) (rm4k4 l Z a0 hw [] b304 ((mb &&& (2147483647 : Int32)) % (5 : Int32)) ov cv b262 b264 (up (up (up (up zI 0 ((sh >>> ((2 : Int32) &&& 31)).toInt8.toInt32)) 1 ((sh >>> ((10 : Int32) &&& 31)).toInt8.toInt32)) 2 ((sh >>> ((18 : Int32) &&& 31)).toInt8.toInt32)) 3 ((sh >>> ((26 : Int32) &&& 31)).toInt8.toInt32)) (up (up (up (up zI 0 ((((tb.toUInt32 >>> (((8 : Int32) * (0 : Int32)) &&& 31).toUInt32).toInt32) &&& (255 : Int32)) % ((0 : Int32) + (1 : Int32)))) 1 ((((tb.toUInt32 >>> (((8 : Int32) * (1 : Int32)) &&& 31).toUInt32).toInt32) &&& (255 : Int32)) % ((1 : Int32) + (1 : Int32)))) 2 ((((tb.toUInt32 >>> (((8 : Int32) * (2 : Int32)) &&& 31).toUInt32).toInt32) &&& (255 : Int32)) % ((2 : Int32) + (1 : Int32)))) 3 ((((tb.toUInt32 >>> (((8 : Int32) * (3 : Int32)) &&& 31).toUInt32).toInt32) &&& (255 : Int32)) % ((3 : Int32) + (1 : Int32)))) (r4k4_matched ((ma &&& (2147483647 : Int32)) % (5 : Int32)) (up (up (up (up zI 0 ((((tb.toUInt32 >>> (((8 : Int32) * (0 : Int32)) &&& 31).toUInt32).toInt32) &&& (255 : Int32)) % ((0 : Int32) + (1 : Int32)))) 1 ((((tb.toUInt32 >>> (((8 : Int32) * (1 : Int32)) &&& 31).toUInt32).toInt32) &&& (255 : Int32)) % ((1 : Int32) + (1 : Int32)))) 2 ((((tb.toUInt32 >>> (((8 : Int32) * (2 : Int32)) &&& 31).toUInt32).toInt32) &&& (255 : Int32)) % ((2 : Int32) + (1 : Int32)))) 3 ((((tb.toUInt32 >>> (((8 : Int32) * (3 : Int32)) &&& 31).toUInt32).toInt32) &&& (255 : Int32)) % ((3 : Int32) + (1 : Int32))))) cv ov T323.heap n0 Z323 f331 f324 f325 f329 f330 (Ne.symm ne305) (Ne.symm ne306) f326 f327 f328 gg304) hZ (hw _ (List.mem_of_getElem? (i := 24) rfl)) (hw _ (List.mem_of_getElem? (i := 9) rfl)) (by decide) (by decide)) q344a q344c (g := (mkF m 223 #[.val (.int sh), .val (.int tb), .val (.int ma), .val (.int mb), .val (.long cv), .second, .val (.long ov), .second, .val (.int (4 : Int32)), .val (.ref b262), .val (.ref b264), .val (.int ((ma &&& (2147483647 : Int32)) % (5 : Int32))), .val (.int ((mb &&& (2147483647 : Int32)) % (5 : Int32))), .val (.ref b304), .val (.int (j0_154_s0_3 tb ma)), .val (.int (1 : Int32)), .unset, .unset] [(.long cv), (.long ov), (.int ((mb &&& (2147483647 : Int32)) % (5 : Int32))), (.ref b304)])) rfl (by rw [hml]; rfl) (Steps.refl _) (argsL := [(.int ((mb &&& (2147483647 : Int32)) % (5 : Int32))), (.long ov), (.long cv)]) (rest := []) (lenOf pd_2 rfl) rfl (by show 2 * 0 + _ ≤ _; exact Nat.le_of_eq rfl) (hb hby at_223) (fun _ _ => ⟨rfl, e343, (by decide : 3 + 0 ≤ _), (by decide : 13 + 0 ≤ _)⟩)
    dsimp only [Pt.U, Pt.locs, Pt.cells, Pt.slots] at X344 l344 y344 z344 st344 hQ344
    subst l344 y344 z344
    obtain ⟨rfl, N344q, K344c, f345, f346, f347, f348, f349⟩ := hQ344
    have N344 := Fr.app N343 N344q
    have f350 : AI Z T344.heap b262 .byte 4 (up (up (up (up zI 0 ((sh >>> ((2 : Int32) &&& 31)).toInt8.toInt32)) 1 ((sh >>> ((10 : Int32) &&& 31)).toInt8.toInt32)) 2 ((sh >>> ((18 : Int32) &&& 31)).toInt8.toInt32)) 3 ((sh >>> ((26 : Int32) &&& 31)).toInt8.toInt32)) := f329.keep K344c (ninS ne305 nin0)
    have f351 : AI Z T344.heap b264 .int 4 (up (up (up (up zI 0 ((((tb.toUInt32 >>> (((8 : Int32) * (0 : Int32)) &&& 31).toUInt32).toInt32) &&& (255 : Int32)) % ((0 : Int32) + (1 : Int32)))) 1 ((((tb.toUInt32 >>> (((8 : Int32) * (1 : Int32)) &&& 31).toUInt32).toInt32) &&& (255 : Int32)) % ((1 : Int32) + (1 : Int32)))) 2 ((((tb.toUInt32 >>> (((8 : Int32) * (2 : Int32)) &&& 31).toUInt32).toInt32) &&& (255 : Int32)) % ((2 : Int32) + (1 : Int32)))) 3 ((((tb.toUInt32 >>> (((8 : Int32) * (3 : Int32)) &&& 31).toUInt32).toInt32) &&& (255 : Int32)) % ((3 : Int32) + (1 : Int32)))) := f330.keep K344c (ninS ne306 nin0)
    have f352 : Exa Z T344.heap b304 "skipstitch/search/PrefixTableScan" := f331.keep K344c
    have Z344 : n0 ≤ T344.heap.size := Nat.le_trans Z323 K344c.1
    have pre353 : ∀ t, Steps p.tables e below (T344.setTop (mkF m 226 #[.val (.int sh), .val (.int tb), .val (.int ma), .val (.int mb), .val (.long cv), .second, .val (.long ov), .second, .val (.int (4 : Int32)), .val (.ref b262), .val (.ref b264), .val (.int ((ma &&& (2147483647 : Int32)) % (5 : Int32))), .val (.int ((mb &&& (2147483647 : Int32)) % (5 : Int32))), .val (.ref b304), .val (.int (j0_154_s0_3 tb ma)), .val (.int (1 : Int32)), .unset, .unset] [])) t → Steps p.tables e below (s₁.setTop (entryFrame m #[(.int sh), (.int tb), (.int ma), (.int mb), (.long cv), (.long ov)] maxLocals)) t := by
      intro t k
      refine pre340 _ ?_
      show Steps p.tables e below (T340.setTop (mkF m 174 #[.val (.int sh), .val (.int tb), .val (.int ma), .val (.int mb), .val (.long cv), .second, .val (.long ov), .second, .val (.int (4 : Int32)), .val (.ref b262), .val (.ref b264), .val (.int ((ma &&& (2147483647 : Int32)) % (5 : Int32))), .val (.int ((mb &&& (2147483647 : Int32)) % (5 : Int32))), .val (.ref b304), .unset, .unset, .unset, .unset] [(.int (j0_154_s0_3 tb ma))])) _
      refine XS.istore X340.here hx rfl (hb hby at_174) rfl (l' := #[.val (.int sh), .val (.int tb), .val (.int ma), .val (.int mb), .val (.long cv), .second, .val (.long ov), .second, .val (.int (4 : Int32)), .val (.ref b262), .val (.ref b264), .val (.int ((ma &&& (2147483647 : Int32)) % (5 : Int32))), .val (.int ((mb &&& (2147483647 : Int32)) % (5 : Int32))), .val (.ref b304), .val (.int (j0_154_s0_3 tb ma)), .unset, .unset, .unset]) rfl ?_
      show Steps p.tables e below (T340.setTop (mkF m 176 #[.val (.int sh), .val (.int tb), .val (.int ma), .val (.int mb), .val (.long cv), .second, .val (.long ov), .second, .val (.int (4 : Int32)), .val (.ref b262), .val (.ref b264), .val (.int ((ma &&& (2147483647 : Int32)) % (5 : Int32))), .val (.int ((mb &&& (2147483647 : Int32)) % (5 : Int32))), .val (.ref b304), .val (.int (j0_154_s0_3 tb ma)), .unset, .unset, .unset] [])) _
      refine XS.aload X340.here hx rfl (hb hby at_176) rfl rfl ?_
      show Steps p.tables e below (T340.setTop (mkF m 178 #[.val (.int sh), .val (.int tb), .val (.int ma), .val (.int mb), .val (.long cv), .second, .val (.long ov), .second, .val (.int (4 : Int32)), .val (.ref b262), .val (.ref b264), .val (.int ((ma &&& (2147483647 : Int32)) % (5 : Int32))), .val (.int ((mb &&& (2147483647 : Int32)) % (5 : Int32))), .val (.ref b304), .val (.int (j0_154_s0_3 tb ma)), .unset, .unset, .unset] [(.ref b304)])) _
      refine st341.trans ?_
      show Steps p.tables e below (T341.setTop (mkF m 181 #[.val (.int sh), .val (.int tb), .val (.int ma), .val (.int mb), .val (.long cv), .second, .val (.long ov), .second, .val (.int (4 : Int32)), .val (.ref b262), .val (.ref b264), .val (.int ((ma &&& (2147483647 : Int32)) % (5 : Int32))), .val (.int ((mb &&& (2147483647 : Int32)) % (5 : Int32))), .val (.ref b304), .val (.int (j0_154_s0_3 tb ma)), .unset, .unset, .unset] [(.int (r4k4_matched ((ma &&& (2147483647 : Int32)) % (5 : Int32)) (up (up (up (up zI 0 ((((tb.toUInt32 >>> (((8 : Int32) * (0 : Int32)) &&& 31).toUInt32).toInt32) &&& (255 : Int32)) % ((0 : Int32) + (1 : Int32)))) 1 ((((tb.toUInt32 >>> (((8 : Int32) * (1 : Int32)) &&& 31).toUInt32).toInt32) &&& (255 : Int32)) % ((1 : Int32) + (1 : Int32)))) 2 ((((tb.toUInt32 >>> (((8 : Int32) * (2 : Int32)) &&& 31).toUInt32).toInt32) &&& (255 : Int32)) % ((2 : Int32) + (1 : Int32)))) 3 ((((tb.toUInt32 >>> (((8 : Int32) * (3 : Int32)) &&& 31).toUInt32).toInt32) &&& (255 : Int32)) % ((3 : Int32) + (1 : Int32))))))])) _
      refine XS.iload X341.here hx rfl (hb hby at_181) rfl ?_
      show Steps p.tables e below (T341.setTop (mkF m 183 #[.val (.int sh), .val (.int tb), .val (.int ma), .val (.int mb), .val (.long cv), .second, .val (.long ov), .second, .val (.int (4 : Int32)), .val (.ref b262), .val (.ref b264), .val (.int ((ma &&& (2147483647 : Int32)) % (5 : Int32))), .val (.int ((mb &&& (2147483647 : Int32)) % (5 : Int32))), .val (.ref b304), .val (.int (j0_154_s0_3 tb ma)), .unset, .unset, .unset] [(.int (j0_154_s0_3 tb ma)), (.int (r4k4_matched ((ma &&& (2147483647 : Int32)) % (5 : Int32)) (up (up (up (up zI 0 ((((tb.toUInt32 >>> (((8 : Int32) * (0 : Int32)) &&& 31).toUInt32).toInt32) &&& (255 : Int32)) % ((0 : Int32) + (1 : Int32)))) 1 ((((tb.toUInt32 >>> (((8 : Int32) * (1 : Int32)) &&& 31).toUInt32).toInt32) &&& (255 : Int32)) % ((1 : Int32) + (1 : Int32)))) 2 ((((tb.toUInt32 >>> (((8 : Int32) * (2 : Int32)) &&& 31).toUInt32).toInt32) &&& (255 : Int32)) % ((2 : Int32) + (1 : Int32)))) 3 ((((tb.toUInt32 >>> (((8 : Int32) * (3 : Int32)) &&& 31).toUInt32).toInt32) &&& (255 : Int32)) % ((3 : Int32) + (1 : Int32))))))])) _
      refine XS.icmpNo X341.here hx rfl (hb hby at_183) rfl (teq (rfl : ((r4k4_matched ((ma &&& (2147483647 : Int32)) % (5 : Int32)) (up (up (up (up zI 0 ((((tb.toUInt32 >>> (((8 : Int32) * (0 : Int32)) &&& 31).toUInt32).toInt32) &&& (255 : Int32)) % ((0 : Int32) + (1 : Int32)))) 1 ((((tb.toUInt32 >>> (((8 : Int32) * (1 : Int32)) &&& 31).toUInt32).toInt32) &&& (255 : Int32)) % ((1 : Int32) + (1 : Int32)))) 2 ((((tb.toUInt32 >>> (((8 : Int32) * (2 : Int32)) &&& 31).toUInt32).toInt32) &&& (255 : Int32)) % ((2 : Int32) + (1 : Int32)))) 3 ((((tb.toUInt32 >>> (((8 : Int32) * (3 : Int32)) &&& 31).toUInt32).toInt32) &&& (255 : Int32)) % ((3 : Int32) + (1 : Int32))))) = (j0_154_s0_3 tb ma)))).2 ?_
      show Steps p.tables e below (T341.setTop (mkF m 186 #[.val (.int sh), .val (.int tb), .val (.int ma), .val (.int mb), .val (.long cv), .second, .val (.long ov), .second, .val (.int (4 : Int32)), .val (.ref b262), .val (.ref b264), .val (.int ((ma &&& (2147483647 : Int32)) % (5 : Int32))), .val (.int ((mb &&& (2147483647 : Int32)) % (5 : Int32))), .val (.ref b304), .val (.int (j0_154_s0_3 tb ma)), .unset, .unset, .unset] [])) _
      refine XS.aload X341.here hx rfl (hb hby at_186) rfl rfl ?_
      show Steps p.tables e below (T341.setTop (mkF m 188 #[.val (.int sh), .val (.int tb), .val (.int ma), .val (.int mb), .val (.long cv), .second, .val (.long ov), .second, .val (.int (4 : Int32)), .val (.ref b262), .val (.ref b264), .val (.int ((ma &&& (2147483647 : Int32)) % (5 : Int32))), .val (.int ((mb &&& (2147483647 : Int32)) % (5 : Int32))), .val (.ref b304), .val (.int (j0_154_s0_3 tb ma)), .unset, .unset, .unset] [(.ref b304)])) _
      refine st342.trans ?_
      show Steps p.tables e below (T342.setTop (mkF m 191 #[.val (.int sh), .val (.int tb), .val (.int ma), .val (.int mb), .val (.long cv), .second, .val (.long ov), .second, .val (.int (4 : Int32)), .val (.ref b262), .val (.ref b264), .val (.int ((ma &&& (2147483647 : Int32)) % (5 : Int32))), .val (.int ((mb &&& (2147483647 : Int32)) % (5 : Int32))), .val (.ref b304), .val (.int (j0_154_s0_3 tb ma)), .unset, .unset, .unset] [(.long cv)])) _
      refine XS.lload X342.here hx rfl (hb hby at_191) rfl ?_
      show Steps p.tables e below (T342.setTop (mkF m 193 #[.val (.int sh), .val (.int tb), .val (.int ma), .val (.int mb), .val (.long cv), .second, .val (.long ov), .second, .val (.int (4 : Int32)), .val (.ref b262), .val (.ref b264), .val (.int ((ma &&& (2147483647 : Int32)) % (5 : Int32))), .val (.int ((mb &&& (2147483647 : Int32)) % (5 : Int32))), .val (.ref b304), .val (.int (j0_154_s0_3 tb ma)), .unset, .unset, .unset] [(.long cv), (.long cv)])) _
      refine XS.lcmp X342.here hx rfl (hb hby at_193) rfl ?_
      show Steps p.tables e below (T342.setTop (mkF m 194 #[.val (.int sh), .val (.int tb), .val (.int ma), .val (.int mb), .val (.long cv), .second, .val (.long ov), .second, .val (.int (4 : Int32)), .val (.ref b262), .val (.ref b264), .val (.int ((ma &&& (2147483647 : Int32)) % (5 : Int32))), .val (.int ((mb &&& (2147483647 : Int32)) % (5 : Int32))), .val (.ref b304), .val (.int (j0_154_s0_3 tb ma)), .unset, .unset, .unset] [(.int (lcmpW cv cv))])) _
      refine XS.ifNo X342.here hx rfl (hb hby at_194) rfl (own_teqL (rfl : cv = cv)).2 ?_
      show Steps p.tables e below (T342.setTop (mkF m 197 #[.val (.int sh), .val (.int tb), .val (.int ma), .val (.int mb), .val (.long cv), .second, .val (.long ov), .second, .val (.int (4 : Int32)), .val (.ref b262), .val (.ref b264), .val (.int ((ma &&& (2147483647 : Int32)) % (5 : Int32))), .val (.int ((mb &&& (2147483647 : Int32)) % (5 : Int32))), .val (.ref b304), .val (.int (j0_154_s0_3 tb ma)), .unset, .unset, .unset] [])) _
      refine XS.aload X342.here hx rfl (hb hby at_197) rfl rfl ?_
      show Steps p.tables e below (T342.setTop (mkF m 199 #[.val (.int sh), .val (.int tb), .val (.int ma), .val (.int mb), .val (.long cv), .second, .val (.long ov), .second, .val (.int (4 : Int32)), .val (.ref b262), .val (.ref b264), .val (.int ((ma &&& (2147483647 : Int32)) % (5 : Int32))), .val (.int ((mb &&& (2147483647 : Int32)) % (5 : Int32))), .val (.ref b304), .val (.int (j0_154_s0_3 tb ma)), .unset, .unset, .unset] [(.ref b304)])) _
      refine st343.trans ?_
      show Steps p.tables e below (T343.setTop (mkF m 202 #[.val (.int sh), .val (.int tb), .val (.int ma), .val (.int mb), .val (.long cv), .second, .val (.long ov), .second, .val (.int (4 : Int32)), .val (.ref b262), .val (.ref b264), .val (.int ((ma &&& (2147483647 : Int32)) % (5 : Int32))), .val (.int ((mb &&& (2147483647 : Int32)) % (5 : Int32))), .val (.ref b304), .val (.int (j0_154_s0_3 tb ma)), .unset, .unset, .unset] [(.long ov)])) _
      refine XS.lload X343.here hx rfl (hb hby at_202) rfl ?_
      show Steps p.tables e below (T343.setTop (mkF m 204 #[.val (.int sh), .val (.int tb), .val (.int ma), .val (.int mb), .val (.long cv), .second, .val (.long ov), .second, .val (.int (4 : Int32)), .val (.ref b262), .val (.ref b264), .val (.int ((ma &&& (2147483647 : Int32)) % (5 : Int32))), .val (.int ((mb &&& (2147483647 : Int32)) % (5 : Int32))), .val (.ref b304), .val (.int (j0_154_s0_3 tb ma)), .unset, .unset, .unset] [(.long ov), (.long ov)])) _
      refine XS.lcmp X343.here hx rfl (hb hby at_204) rfl ?_
      show Steps p.tables e below (T343.setTop (mkF m 205 #[.val (.int sh), .val (.int tb), .val (.int ma), .val (.int mb), .val (.long cv), .second, .val (.long ov), .second, .val (.int (4 : Int32)), .val (.ref b262), .val (.ref b264), .val (.int ((ma &&& (2147483647 : Int32)) % (5 : Int32))), .val (.int ((mb &&& (2147483647 : Int32)) % (5 : Int32))), .val (.ref b304), .val (.int (j0_154_s0_3 tb ma)), .unset, .unset, .unset] [(.int (lcmpW ov ov))])) _
      refine XS.ifNo X343.here hx rfl (hb hby at_205) rfl (own_teqL (rfl : ov = ov)).2 ?_
      show Steps p.tables e below (T343.setTop (mkF m 208 #[.val (.int sh), .val (.int tb), .val (.int ma), .val (.int mb), .val (.long cv), .second, .val (.long ov), .second, .val (.int (4 : Int32)), .val (.ref b262), .val (.ref b264), .val (.int ((ma &&& (2147483647 : Int32)) % (5 : Int32))), .val (.int ((mb &&& (2147483647 : Int32)) % (5 : Int32))), .val (.ref b304), .val (.int (j0_154_s0_3 tb ma)), .unset, .unset, .unset] [])) _
      refine XS.iconst X343.here hx rfl (hb hby at_208) ?_
      show Steps p.tables e below (T343.setTop (mkF m 209 #[.val (.int sh), .val (.int tb), .val (.int ma), .val (.int mb), .val (.long cv), .second, .val (.long ov), .second, .val (.int (4 : Int32)), .val (.ref b262), .val (.ref b264), .val (.int ((ma &&& (2147483647 : Int32)) % (5 : Int32))), .val (.int ((mb &&& (2147483647 : Int32)) % (5 : Int32))), .val (.ref b304), .val (.int (j0_154_s0_3 tb ma)), .unset, .unset, .unset] [(.int (1 : Int32))])) _
      refine XS.goto X343.here hx rfl (pc0 := 209) (pc' := 213) rfl (hb hby at_209) (by decide) (by decide) ?_
      show Steps p.tables e below (T343.setTop (mkF m 213 #[.val (.int sh), .val (.int tb), .val (.int ma), .val (.int mb), .val (.long cv), .second, .val (.long ov), .second, .val (.int (4 : Int32)), .val (.ref b262), .val (.ref b264), .val (.int ((ma &&& (2147483647 : Int32)) % (5 : Int32))), .val (.int ((mb &&& (2147483647 : Int32)) % (5 : Int32))), .val (.ref b304), .val (.int (j0_154_s0_3 tb ma)), .unset, .unset, .unset] [(.int (1 : Int32))])) _
      refine XS.istore X343.here hx rfl (hb hby at_213) rfl (l' := #[.val (.int sh), .val (.int tb), .val (.int ma), .val (.int mb), .val (.long cv), .second, .val (.long ov), .second, .val (.int (4 : Int32)), .val (.ref b262), .val (.ref b264), .val (.int ((ma &&& (2147483647 : Int32)) % (5 : Int32))), .val (.int ((mb &&& (2147483647 : Int32)) % (5 : Int32))), .val (.ref b304), .val (.int (j0_154_s0_3 tb ma)), .val (.int (1 : Int32)), .unset, .unset]) rfl ?_
      show Steps p.tables e below (T343.setTop (mkF m 215 #[.val (.int sh), .val (.int tb), .val (.int ma), .val (.int mb), .val (.long cv), .second, .val (.long ov), .second, .val (.int (4 : Int32)), .val (.ref b262), .val (.ref b264), .val (.int ((ma &&& (2147483647 : Int32)) % (5 : Int32))), .val (.int ((mb &&& (2147483647 : Int32)) % (5 : Int32))), .val (.ref b304), .val (.int (j0_154_s0_3 tb ma)), .val (.int (1 : Int32)), .unset, .unset] [])) _
      refine XS.aload X343.here hx rfl (hb hby at_215) rfl rfl ?_
      show Steps p.tables e below (T343.setTop (mkF m 217 #[.val (.int sh), .val (.int tb), .val (.int ma), .val (.int mb), .val (.long cv), .second, .val (.long ov), .second, .val (.int (4 : Int32)), .val (.ref b262), .val (.ref b264), .val (.int ((ma &&& (2147483647 : Int32)) % (5 : Int32))), .val (.int ((mb &&& (2147483647 : Int32)) % (5 : Int32))), .val (.ref b304), .val (.int (j0_154_s0_3 tb ma)), .val (.int (1 : Int32)), .unset, .unset] [(.ref b304)])) _
      refine XS.iload X343.here hx rfl (hb hby at_217) rfl ?_
      show Steps p.tables e below (T343.setTop (mkF m 219 #[.val (.int sh), .val (.int tb), .val (.int ma), .val (.int mb), .val (.long cv), .second, .val (.long ov), .second, .val (.int (4 : Int32)), .val (.ref b262), .val (.ref b264), .val (.int ((ma &&& (2147483647 : Int32)) % (5 : Int32))), .val (.int ((mb &&& (2147483647 : Int32)) % (5 : Int32))), .val (.ref b304), .val (.int (j0_154_s0_3 tb ma)), .val (.int (1 : Int32)), .unset, .unset] [(.int ((mb &&& (2147483647 : Int32)) % (5 : Int32))), (.ref b304)])) _
      refine XS.lload X343.here hx rfl (hb hby at_219) rfl ?_
      show Steps p.tables e below (T343.setTop (mkF m 221 #[.val (.int sh), .val (.int tb), .val (.int ma), .val (.int mb), .val (.long cv), .second, .val (.long ov), .second, .val (.int (4 : Int32)), .val (.ref b262), .val (.ref b264), .val (.int ((ma &&& (2147483647 : Int32)) % (5 : Int32))), .val (.int ((mb &&& (2147483647 : Int32)) % (5 : Int32))), .val (.ref b304), .val (.int (j0_154_s0_3 tb ma)), .val (.int (1 : Int32)), .unset, .unset] [(.long ov), (.int ((mb &&& (2147483647 : Int32)) % (5 : Int32))), (.ref b304)])) _
      refine XS.lload X343.here hx rfl (hb hby at_221) rfl ?_
      show Steps p.tables e below (T343.setTop (mkF m 223 #[.val (.int sh), .val (.int tb), .val (.int ma), .val (.int mb), .val (.long cv), .second, .val (.long ov), .second, .val (.int (4 : Int32)), .val (.ref b262), .val (.ref b264), .val (.int ((ma &&& (2147483647 : Int32)) % (5 : Int32))), .val (.int ((mb &&& (2147483647 : Int32)) % (5 : Int32))), .val (.ref b304), .val (.int (j0_154_s0_3 tb ma)), .val (.int (1 : Int32)), .unset, .unset] [(.long cv), (.long ov), (.int ((mb &&& (2147483647 : Int32)) % (5 : Int32))), (.ref b304)])) _
      refine st344.trans ?_
      exact k
    obtain ⟨T361, Lo361, X361, e361, N361, pre361⟩ : ∃ (T' : State) (lo : List Loc), Stand p l e room_1 s m #[(.int sh), (.int tb), (.int ma), (.int mb), (.long cv), (.long ov)] below meth c T' lo 3 13 ∧ T'.heap = T344.heap ∧ Fr n0 lo ∧ ∀ t, Steps p.tables e below (T'.setTop (mkF m 246 #[.val (.int sh), .val (.int tb), .val (.int ma), .val (.int mb), .val (.long cv), .second, .val (.long ov), .second, .val (.int (4 : Int32)), .val (.ref b262), .val (.ref b264), .val (.int ((ma &&& (2147483647 : Int32)) % (5 : Int32))), .val (.int ((mb &&& (2147483647 : Int32)) % (5 : Int32))), .val (.ref b304), .val (.int (j0_154_s0_3 tb ma)), .val (.int (1 : Int32)), .unset, .unset] [(.int (j0_226_s0_3 tb mb))])) t → Steps p.tables e below (s₁.setTop (entryFrame m #[(.int sh), (.int tb), (.int ma), (.int mb), (.long cv), (.long ov)] maxLocals)) t := by
      have pre354 : ∀ t, Steps p.tables e below (T344.setTop (mkF m 230 #[.val (.int sh), .val (.int tb), .val (.int ma), .val (.int mb), .val (.long cv), .second, .val (.long ov), .second, .val (.int (4 : Int32)), .val (.ref b262), .val (.ref b264), .val (.int ((ma &&& (2147483647 : Int32)) % (5 : Int32))), .val (.int ((mb &&& (2147483647 : Int32)) % (5 : Int32))), .val (.ref b304), .val (.int (j0_154_s0_3 tb ma)), .val (.int (1 : Int32)), .unset, .unset] [(.int (4 : Int32)), (.int ((mb &&& (2147483647 : Int32)) % (5 : Int32)))])) t → Steps p.tables e below (s₁.setTop (entryFrame m #[(.int sh), (.int tb), (.int ma), (.int mb), (.long cv), (.long ov)] maxLocals)) t := by
        intro t k
        refine pre353 _ ?_
        show Steps p.tables e below (T344.setTop (mkF m 226 #[.val (.int sh), .val (.int tb), .val (.int ma), .val (.int mb), .val (.long cv), .second, .val (.long ov), .second, .val (.int (4 : Int32)), .val (.ref b262), .val (.ref b264), .val (.int ((ma &&& (2147483647 : Int32)) % (5 : Int32))), .val (.int ((mb &&& (2147483647 : Int32)) % (5 : Int32))), .val (.ref b304), .val (.int (j0_154_s0_3 tb ma)), .val (.int (1 : Int32)), .unset, .unset] [])) _
        refine XS.iload X344.here hx rfl (hb hby at_226) rfl ?_
        show Steps p.tables e below (T344.setTop (mkF m 228 #[.val (.int sh), .val (.int tb), .val (.int ma), .val (.int mb), .val (.long cv), .second, .val (.long ov), .second, .val (.int (4 : Int32)), .val (.ref b262), .val (.ref b264), .val (.int ((ma &&& (2147483647 : Int32)) % (5 : Int32))), .val (.int ((mb &&& (2147483647 : Int32)) % (5 : Int32))), .val (.ref b304), .val (.int (j0_154_s0_3 tb ma)), .val (.int (1 : Int32)), .unset, .unset] [(.int ((mb &&& (2147483647 : Int32)) % (5 : Int32)))])) _
        refine XS.iload X344.here hx rfl (hb hby at_228) rfl ?_
        exact k
      by_cases hk355 : ((mb &&& (2147483647 : Int32)) % (5 : Int32)) = (4 : Int32)
      · obtain ⟨_, _, ⟨T356, L356, k356, n356⟩, -, X356, ⟨Lc356, hQ356, l356, y356, z356⟩, st356⟩ := Jvm.LawKit.callS X344 hx (y := (⟨"skipstitch/search/PrefixTableScanResumePinLaw", "entry", "(II)I"⟩ : MethodName)) hown (mvT hZ (hw _ (List.mem_of_getElem? (i := 2) rfl))) (mvT hZ (hw _ (List.mem_of_getElem? (i := 3) rfl))) (mvT hZ (hw _ (List.mem_of_getElem? (i := 4) rfl))) (mvT hZ (hw _ (List.mem_of_getElem? (i := 5) rfl))) (by decide) (backOf (W := 0) (rm1 l Z a0 hw [] tb (3 : Int32) T344.heap n0 Z344 (by decide)) hZ (hw _ (List.mem_of_getElem? (i := 5) rfl)) (hw _ (List.mem_of_getElem? (i := 4) rfl)) (by decide) (by decide)) (g := (mkF m 238 #[.val (.int sh), .val (.int tb), .val (.int ma), .val (.int mb), .val (.long cv), .second, .val (.long ov), .second, .val (.int (4 : Int32)), .val (.ref b262), .val (.ref b264), .val (.int ((ma &&& (2147483647 : Int32)) % (5 : Int32))), .val (.int ((mb &&& (2147483647 : Int32)) % (5 : Int32))), .val (.ref b304), .val (.int (j0_154_s0_3 tb ma)), .val (.int (1 : Int32)), .unset, .unset] [(.int (3 : Int32)), (.int tb)])) rfl (by rw [hml]; rfl) (argsL := [(.int tb), (.int (3 : Int32))]) (rest := []) (lenOf pd_0 rfl) rfl (by show 2 * 0 + _ ≤ _; exact Nat.le_of_eq rfl) (hb hby at_238) (fun _ _ => ⟨rfl, rfl, (by decide : 3 + 0 ≤ _), (by decide : 13 + 0 ≤ _)⟩)
        dsimp only [Pt.U, Pt.locs, Pt.cells, Pt.slots] at X356 l356 y356 z356 st356 hQ356
        subst l356 y356 z356
        obtain ⟨rfl, N356q, e356⟩ := hQ356
        have N356 := Fr.app N344 N356q
        have pre357 : ∀ t, Steps p.tables e below (T356.setTop (mkF m 246 #[.val (.int sh), .val (.int tb), .val (.int ma), .val (.int mb), .val (.long cv), .second, .val (.long ov), .second, .val (.int (4 : Int32)), .val (.ref b262), .val (.ref b264), .val (.int ((ma &&& (2147483647 : Int32)) % (5 : Int32))), .val (.int ((mb &&& (2147483647 : Int32)) % (5 : Int32))), .val (.ref b304), .val (.int (j0_154_s0_3 tb ma)), .val (.int (1 : Int32)), .unset, .unset] [(.int ((((tb.toUInt32 >>> (((8 : Int32) * (3 : Int32)) &&& 31).toUInt32).toInt32) &&& (255 : Int32)) % ((3 : Int32) + (1 : Int32))))])) t → Steps p.tables e below (s₁.setTop (entryFrame m #[(.int sh), (.int tb), (.int ma), (.int mb), (.long cv), (.long ov)] maxLocals)) t := by
          intro t k
          refine pre354 _ ?_
          show Steps p.tables e below (T344.setTop (mkF m 230 #[.val (.int sh), .val (.int tb), .val (.int ma), .val (.int mb), .val (.long cv), .second, .val (.long ov), .second, .val (.int (4 : Int32)), .val (.ref b262), .val (.ref b264), .val (.int ((ma &&& (2147483647 : Int32)) % (5 : Int32))), .val (.int ((mb &&& (2147483647 : Int32)) % (5 : Int32))), .val (.ref b304), .val (.int (j0_154_s0_3 tb ma)), .val (.int (1 : Int32)), .unset, .unset] [(.int (4 : Int32)), (.int ((mb &&& (2147483647 : Int32)) % (5 : Int32)))])) _
          refine XS.icmpNo X344.here hx rfl (hb hby at_230) rfl (teq hk355).2 ?_
          show Steps p.tables e below (T344.setTop (mkF m 233 #[.val (.int sh), .val (.int tb), .val (.int ma), .val (.int mb), .val (.long cv), .second, .val (.long ov), .second, .val (.int (4 : Int32)), .val (.ref b262), .val (.ref b264), .val (.int ((ma &&& (2147483647 : Int32)) % (5 : Int32))), .val (.int ((mb &&& (2147483647 : Int32)) % (5 : Int32))), .val (.ref b304), .val (.int (j0_154_s0_3 tb ma)), .val (.int (1 : Int32)), .unset, .unset] [])) _
          refine XS.iloadN X344.here hx rfl (hb hby at_233) rfl ?_
          show Steps p.tables e below (T344.setTop (mkF m 234 #[.val (.int sh), .val (.int tb), .val (.int ma), .val (.int mb), .val (.long cv), .second, .val (.long ov), .second, .val (.int (4 : Int32)), .val (.ref b262), .val (.ref b264), .val (.int ((ma &&& (2147483647 : Int32)) % (5 : Int32))), .val (.int ((mb &&& (2147483647 : Int32)) % (5 : Int32))), .val (.ref b304), .val (.int (j0_154_s0_3 tb ma)), .val (.int (1 : Int32)), .unset, .unset] [(.int tb)])) _
          refine XS.iload X344.here hx rfl (hb hby at_234) rfl ?_
          show Steps p.tables e below (T344.setTop (mkF m 236 #[.val (.int sh), .val (.int tb), .val (.int ma), .val (.int mb), .val (.long cv), .second, .val (.long ov), .second, .val (.int (4 : Int32)), .val (.ref b262), .val (.ref b264), .val (.int ((ma &&& (2147483647 : Int32)) % (5 : Int32))), .val (.int ((mb &&& (2147483647 : Int32)) % (5 : Int32))), .val (.ref b304), .val (.int (j0_154_s0_3 tb ma)), .val (.int (1 : Int32)), .unset, .unset] [(.int (4 : Int32)), (.int tb)])) _
          refine XS.iconst X344.here hx rfl (hb hby at_236) ?_
          show Steps p.tables e below (T344.setTop (mkF m 237 #[.val (.int sh), .val (.int tb), .val (.int ma), .val (.int mb), .val (.long cv), .second, .val (.long ov), .second, .val (.int (4 : Int32)), .val (.ref b262), .val (.ref b264), .val (.int ((ma &&& (2147483647 : Int32)) % (5 : Int32))), .val (.int ((mb &&& (2147483647 : Int32)) % (5 : Int32))), .val (.ref b304), .val (.int (j0_154_s0_3 tb ma)), .val (.int (1 : Int32)), .unset, .unset] [(.int (1 : Int32)), (.int (4 : Int32)), (.int tb)])) _
          refine XS.isub X344.here hx rfl (hb hby at_237) rfl ?_
          show Steps p.tables e below (T344.setTop (mkF m 238 #[.val (.int sh), .val (.int tb), .val (.int ma), .val (.int mb), .val (.long cv), .second, .val (.long ov), .second, .val (.int (4 : Int32)), .val (.ref b262), .val (.ref b264), .val (.int ((ma &&& (2147483647 : Int32)) % (5 : Int32))), .val (.int ((mb &&& (2147483647 : Int32)) % (5 : Int32))), .val (.ref b304), .val (.int (j0_154_s0_3 tb ma)), .val (.int (1 : Int32)), .unset, .unset] [(.int (3 : Int32)), (.int tb)])) _
          refine st356 _ ?_
          show Steps p.tables e below (T356.setTop (mkF m 241 #[.val (.int sh), .val (.int tb), .val (.int ma), .val (.int mb), .val (.long cv), .second, .val (.long ov), .second, .val (.int (4 : Int32)), .val (.ref b262), .val (.ref b264), .val (.int ((ma &&& (2147483647 : Int32)) % (5 : Int32))), .val (.int ((mb &&& (2147483647 : Int32)) % (5 : Int32))), .val (.ref b304), .val (.int (j0_154_s0_3 tb ma)), .val (.int (1 : Int32)), .unset, .unset] [(.int ((((tb.toUInt32 >>> (((8 : Int32) * (3 : Int32)) &&& 31).toUInt32).toInt32) &&& (255 : Int32)) % ((3 : Int32) + (1 : Int32))))])) _
          refine XS.goto X356.here hx rfl (pc0 := 241) (pc' := 246) rfl (hb hby at_241) (by decide) (by decide) ?_
          exact k
        have ev359 : (j0_226_s0_3 tb mb) = ((((tb.toUInt32 >>> (((8 : Int32) * (3 : Int32)) &&& 31).toUInt32).toInt32) &&& (255 : Int32)) % ((3 : Int32) + (1 : Int32))) := by unfold j0_226_s0_3; rw [if_pos hk355]
        exact ⟨_, _, X356, e356, N356, fun t k => pre357 _ (by rw [ev359] at k; exact k)⟩
      · have pre358 : ∀ t, Steps p.tables e below (T344.setTop (mkF m 246 #[.val (.int sh), .val (.int tb), .val (.int ma), .val (.int mb), .val (.long cv), .second, .val (.long ov), .second, .val (.int (4 : Int32)), .val (.ref b262), .val (.ref b264), .val (.int ((ma &&& (2147483647 : Int32)) % (5 : Int32))), .val (.int ((mb &&& (2147483647 : Int32)) % (5 : Int32))), .val (.ref b304), .val (.int (j0_154_s0_3 tb ma)), .val (.int (1 : Int32)), .unset, .unset] [(.int ((mb &&& (2147483647 : Int32)) % (5 : Int32)))])) t → Steps p.tables e below (s₁.setTop (entryFrame m #[(.int sh), (.int tb), (.int ma), (.int mb), (.long cv), (.long ov)] maxLocals)) t := by
          intro t k
          refine pre354 _ ?_
          show Steps p.tables e below (T344.setTop (mkF m 230 #[.val (.int sh), .val (.int tb), .val (.int ma), .val (.int mb), .val (.long cv), .second, .val (.long ov), .second, .val (.int (4 : Int32)), .val (.ref b262), .val (.ref b264), .val (.int ((ma &&& (2147483647 : Int32)) % (5 : Int32))), .val (.int ((mb &&& (2147483647 : Int32)) % (5 : Int32))), .val (.ref b304), .val (.int (j0_154_s0_3 tb ma)), .val (.int (1 : Int32)), .unset, .unset] [(.int (4 : Int32)), (.int ((mb &&& (2147483647 : Int32)) % (5 : Int32)))])) _
          refine XS.icmpYes X344.here hx rfl (pc0 := 230) (pc' := 244) rfl (hb hby at_230) rfl (feq hk355).2 (by decide) (by decide) ?_
          show Steps p.tables e below (T344.setTop (mkF m 244 #[.val (.int sh), .val (.int tb), .val (.int ma), .val (.int mb), .val (.long cv), .second, .val (.long ov), .second, .val (.int (4 : Int32)), .val (.ref b262), .val (.ref b264), .val (.int ((ma &&& (2147483647 : Int32)) % (5 : Int32))), .val (.int ((mb &&& (2147483647 : Int32)) % (5 : Int32))), .val (.ref b304), .val (.int (j0_154_s0_3 tb ma)), .val (.int (1 : Int32)), .unset, .unset] [])) _
          refine XS.iload X344.here hx rfl (hb hby at_244) rfl ?_
          exact k
        have ev360 : (j0_226_s0_3 tb mb) = ((mb &&& (2147483647 : Int32)) % (5 : Int32)) := by unfold j0_226_s0_3; rw [if_neg hk355]
        exact ⟨_, _, X344, rfl, N344, fun t k => pre358 _ (by rw [ev360] at k; exact k)⟩
    obtain ⟨cq362, kq362, q362a, q362b, q362c⟩ := isOf hZ e361 f352
    obtain ⟨_, _, ⟨T362, L362, k362, n362⟩, -, X362, ⟨Lc362, hQ362, l362, y362, z362⟩, st362⟩ := X361.virtualBack hx (y := (⟨"skipstitch/search/PrefixTableScan", "matched", "()I"⟩ : MethodName)) (z := (⟨"skipstitch/search/PrefixTableScan", "matched", "()I"⟩ : MethodName)) hown (mvT hZ (hw _ (List.mem_of_getElem? (i := 31) rfl))) (mvT hZ (hw _ (List.mem_of_getElem? (i := 32) rfl))) (notFace_of_selects (args := #[]) (mvT hZ (hw _ (List.mem_of_getElem? (i := 34) rfl)))) (mvT hZ (hw _ (List.mem_of_getElem? (i := 34) rfl))) (mvT hZ (hw _ (List.mem_of_getElem? (i := 33) rfl))) (by decide) (backOf (W := 0) (rm5 l Z a0 hw [] b304 (r4k4_matched ((mb &&& (2147483647 : Int32)) % (5 : Int32)) (up (up (up (up zI 0 ((((tb.toUInt32 >>> (((8 : Int32) * (0 : Int32)) &&& 31).toUInt32).toInt32) &&& (255 : Int32)) % ((0 : Int32) + (1 : Int32)))) 1 ((((tb.toUInt32 >>> (((8 : Int32) * (1 : Int32)) &&& 31).toUInt32).toInt32) &&& (255 : Int32)) % ((1 : Int32) + (1 : Int32)))) 2 ((((tb.toUInt32 >>> (((8 : Int32) * (2 : Int32)) &&& 31).toUInt32).toInt32) &&& (255 : Int32)) % ((2 : Int32) + (1 : Int32)))) 3 ((((tb.toUInt32 >>> (((8 : Int32) * (3 : Int32)) &&& 31).toUInt32).toInt32) &&& (255 : Int32)) % ((3 : Int32) + (1 : Int32))))) T344.heap n0 Z344 f347) hZ (hw _ (List.mem_of_getElem? (i := 35) rfl)) (hw _ (List.mem_of_getElem? (i := 9) rfl)) (by decide) (by decide)) q362a q362c (g := (mkF m 250 #[.val (.int sh), .val (.int tb), .val (.int ma), .val (.int mb), .val (.long cv), .second, .val (.long ov), .second, .val (.int (4 : Int32)), .val (.ref b262), .val (.ref b264), .val (.int ((ma &&& (2147483647 : Int32)) % (5 : Int32))), .val (.int ((mb &&& (2147483647 : Int32)) % (5 : Int32))), .val (.ref b304), .val (.int (j0_154_s0_3 tb ma)), .val (.int (1 : Int32)), .val (.int (j0_226_s0_3 tb mb)), .unset] [(.ref b304)])) rfl (by rw [hml]; rfl) (Steps.refl _) (argsL := []) (rest := []) (lenOf pd_3 rfl) rfl (by show 2 * 0 + _ ≤ _; exact Nat.le_of_eq rfl) (hb hby at_250) (fun _ _ => ⟨rfl, e361, (by decide : 3 + 0 ≤ _), (by decide : 13 + 0 ≤ _)⟩)
    dsimp only [Pt.U, Pt.locs, Pt.cells, Pt.slots] at X362 l362 y362 z362 st362 hQ362
    subst l362 y362 z362
    obtain ⟨rfl, N362q, e362⟩ := hQ362
    have N362 := Fr.app N361 N362q
    obtain ⟨cq363, kq363, q363a, q363b, q363c⟩ := isOf hZ e362 f352
    obtain ⟨_, _, ⟨T363, L363, k363, n363⟩, -, X363, ⟨Lc363, hQ363, l363, y363, z363⟩, st363⟩ := X362.virtualBack hx (y := (⟨"skipstitch/search/PrefixTableScan", "comparisons", "()J"⟩ : MethodName)) (z := (⟨"skipstitch/search/PrefixTableScan", "comparisons", "()J"⟩ : MethodName)) hown (mvT hZ (hw _ (List.mem_of_getElem? (i := 36) rfl))) (mvT hZ (hw _ (List.mem_of_getElem? (i := 37) rfl))) (notFace_of_selects (args := #[]) (mvT hZ (hw _ (List.mem_of_getElem? (i := 39) rfl)))) (mvT hZ (hw _ (List.mem_of_getElem? (i := 39) rfl))) (mvT hZ (hw _ (List.mem_of_getElem? (i := 38) rfl))) (by decide) (backOf (W := 0) (rm6 l Z a0 hw [] b304 ov T344.heap n0 Z344 f348) hZ (hw _ (List.mem_of_getElem? (i := 40) rfl)) (hw _ (List.mem_of_getElem? (i := 9) rfl)) (by decide) (by decide)) q363a q363c (g := (mkF m 260 #[.val (.int sh), .val (.int tb), .val (.int ma), .val (.int mb), .val (.long cv), .second, .val (.long ov), .second, .val (.int (4 : Int32)), .val (.ref b262), .val (.ref b264), .val (.int ((ma &&& (2147483647 : Int32)) % (5 : Int32))), .val (.int ((mb &&& (2147483647 : Int32)) % (5 : Int32))), .val (.ref b304), .val (.int (j0_154_s0_3 tb ma)), .val (.int (1 : Int32)), .val (.int (j0_226_s0_3 tb mb)), .unset] [(.ref b304)])) rfl (by rw [hml]; rfl) (Steps.refl _) (argsL := []) (rest := []) (lenOf pd_4 rfl) rfl (by show 2 * 0 + _ ≤ _; exact Nat.le_of_eq rfl) (hb hby at_260) (fun _ _ => ⟨rfl, e362, (by decide : 3 + 0 ≤ _), (by decide : 13 + 0 ≤ _)⟩)
    dsimp only [Pt.U, Pt.locs, Pt.cells, Pt.slots] at X363 l363 y363 z363 st363 hQ363
    subst l363 y363 z363
    obtain ⟨rfl, N363q, e363⟩ := hQ363
    have N363 := Fr.app N362 N363q
    obtain ⟨cq364, kq364, q364a, q364b, q364c⟩ := isOf hZ e363 f352
    obtain ⟨_, _, ⟨T364, L364, k364, n364⟩, -, X364, ⟨Lc364, hQ364, l364, y364, z364⟩, st364⟩ := X363.virtualBack hx (y := (⟨"skipstitch/search/PrefixTableScan", "occurrences", "()J"⟩ : MethodName)) (z := (⟨"skipstitch/search/PrefixTableScan", "occurrences", "()J"⟩ : MethodName)) hown (mvT hZ (hw _ (List.mem_of_getElem? (i := 41) rfl))) (mvT hZ (hw _ (List.mem_of_getElem? (i := 42) rfl))) (notFace_of_selects (args := #[]) (mvT hZ (hw _ (List.mem_of_getElem? (i := 44) rfl)))) (mvT hZ (hw _ (List.mem_of_getElem? (i := 44) rfl))) (mvT hZ (hw _ (List.mem_of_getElem? (i := 43) rfl))) (by decide) (backOf (W := 0) (rm7 l Z a0 hw [] b304 cv T344.heap n0 Z344 f349) hZ (hw _ (List.mem_of_getElem? (i := 45) rfl)) (hw _ (List.mem_of_getElem? (i := 9) rfl)) (by decide) (by decide)) q364a q364c (g := (mkF m 271 #[.val (.int sh), .val (.int tb), .val (.int ma), .val (.int mb), .val (.long cv), .second, .val (.long ov), .second, .val (.int (4 : Int32)), .val (.ref b262), .val (.ref b264), .val (.int ((ma &&& (2147483647 : Int32)) % (5 : Int32))), .val (.int ((mb &&& (2147483647 : Int32)) % (5 : Int32))), .val (.ref b304), .val (.int (j0_154_s0_3 tb ma)), .val (.int (1 : Int32)), .val (.int (j0_226_s0_3 tb mb)), .unset] [(.ref b304)])) rfl (by rw [hml]; rfl) (Steps.refl _) (argsL := []) (rest := []) (lenOf pd_4 rfl) rfl (by show 2 * 0 + _ ≤ _; exact Nat.le_of_eq rfl) (hb hby at_271) (fun _ _ => ⟨rfl, e363, (by decide : 3 + 0 ≤ _), (by decide : 13 + 0 ≤ _)⟩)
    dsimp only [Pt.U, Pt.locs, Pt.cells, Pt.slots] at X364 l364 y364 z364 st364 hQ364
    subst l364 y364 z364
    obtain ⟨rfl, N364q, e364⟩ := hQ364
    have N364 := Fr.app N363 N364q
    obtain ⟨fs, hr, hrun, hended, hW, hsame⟩ := X364.leave (v := some (.int (1 : Int32))) (fun h => by rw [Bd.returns] at h; cases h)
    refine ⟨_, _, pre361 _ ?_, hrun, hended, _, _, rfl, ?_, ⟨_, rfl⟩, hW, hsame.mono (by decide) (by decide)⟩
    · show Steps p.tables e below (T361.setTop (mkF m 246 #[.val (.int sh), .val (.int tb), .val (.int ma), .val (.int mb), .val (.long cv), .second, .val (.long ov), .second, .val (.int (4 : Int32)), .val (.ref b262), .val (.ref b264), .val (.int ((ma &&& (2147483647 : Int32)) % (5 : Int32))), .val (.int ((mb &&& (2147483647 : Int32)) % (5 : Int32))), .val (.ref b304), .val (.int (j0_154_s0_3 tb ma)), .val (.int (1 : Int32)), .unset, .unset] [(.int (j0_226_s0_3 tb mb))])) _
      refine XS.istore X361.here hx rfl (hb hby at_246) rfl (l' := #[.val (.int sh), .val (.int tb), .val (.int ma), .val (.int mb), .val (.long cv), .second, .val (.long ov), .second, .val (.int (4 : Int32)), .val (.ref b262), .val (.ref b264), .val (.int ((ma &&& (2147483647 : Int32)) % (5 : Int32))), .val (.int ((mb &&& (2147483647 : Int32)) % (5 : Int32))), .val (.ref b304), .val (.int (j0_154_s0_3 tb ma)), .val (.int (1 : Int32)), .val (.int (j0_226_s0_3 tb mb)), .unset]) rfl ?_
      show Steps p.tables e below (T361.setTop (mkF m 248 #[.val (.int sh), .val (.int tb), .val (.int ma), .val (.int mb), .val (.long cv), .second, .val (.long ov), .second, .val (.int (4 : Int32)), .val (.ref b262), .val (.ref b264), .val (.int ((ma &&& (2147483647 : Int32)) % (5 : Int32))), .val (.int ((mb &&& (2147483647 : Int32)) % (5 : Int32))), .val (.ref b304), .val (.int (j0_154_s0_3 tb ma)), .val (.int (1 : Int32)), .val (.int (j0_226_s0_3 tb mb)), .unset] [])) _
      refine XS.aload X361.here hx rfl (hb hby at_248) rfl rfl ?_
      show Steps p.tables e below (T361.setTop (mkF m 250 #[.val (.int sh), .val (.int tb), .val (.int ma), .val (.int mb), .val (.long cv), .second, .val (.long ov), .second, .val (.int (4 : Int32)), .val (.ref b262), .val (.ref b264), .val (.int ((ma &&& (2147483647 : Int32)) % (5 : Int32))), .val (.int ((mb &&& (2147483647 : Int32)) % (5 : Int32))), .val (.ref b304), .val (.int (j0_154_s0_3 tb ma)), .val (.int (1 : Int32)), .val (.int (j0_226_s0_3 tb mb)), .unset] [(.ref b304)])) _
      refine st362.trans ?_
      show Steps p.tables e below (T362.setTop (mkF m 253 #[.val (.int sh), .val (.int tb), .val (.int ma), .val (.int mb), .val (.long cv), .second, .val (.long ov), .second, .val (.int (4 : Int32)), .val (.ref b262), .val (.ref b264), .val (.int ((ma &&& (2147483647 : Int32)) % (5 : Int32))), .val (.int ((mb &&& (2147483647 : Int32)) % (5 : Int32))), .val (.ref b304), .val (.int (j0_154_s0_3 tb ma)), .val (.int (1 : Int32)), .val (.int (j0_226_s0_3 tb mb)), .unset] [(.int (r4k4_matched ((mb &&& (2147483647 : Int32)) % (5 : Int32)) (up (up (up (up zI 0 ((((tb.toUInt32 >>> (((8 : Int32) * (0 : Int32)) &&& 31).toUInt32).toInt32) &&& (255 : Int32)) % ((0 : Int32) + (1 : Int32)))) 1 ((((tb.toUInt32 >>> (((8 : Int32) * (1 : Int32)) &&& 31).toUInt32).toInt32) &&& (255 : Int32)) % ((1 : Int32) + (1 : Int32)))) 2 ((((tb.toUInt32 >>> (((8 : Int32) * (2 : Int32)) &&& 31).toUInt32).toInt32) &&& (255 : Int32)) % ((2 : Int32) + (1 : Int32)))) 3 ((((tb.toUInt32 >>> (((8 : Int32) * (3 : Int32)) &&& 31).toUInt32).toInt32) &&& (255 : Int32)) % ((3 : Int32) + (1 : Int32))))))])) _
      refine XS.iload X362.here hx rfl (hb hby at_253) rfl ?_
      show Steps p.tables e below (T362.setTop (mkF m 255 #[.val (.int sh), .val (.int tb), .val (.int ma), .val (.int mb), .val (.long cv), .second, .val (.long ov), .second, .val (.int (4 : Int32)), .val (.ref b262), .val (.ref b264), .val (.int ((ma &&& (2147483647 : Int32)) % (5 : Int32))), .val (.int ((mb &&& (2147483647 : Int32)) % (5 : Int32))), .val (.ref b304), .val (.int (j0_154_s0_3 tb ma)), .val (.int (1 : Int32)), .val (.int (j0_226_s0_3 tb mb)), .unset] [(.int (j0_226_s0_3 tb mb)), (.int (r4k4_matched ((mb &&& (2147483647 : Int32)) % (5 : Int32)) (up (up (up (up zI 0 ((((tb.toUInt32 >>> (((8 : Int32) * (0 : Int32)) &&& 31).toUInt32).toInt32) &&& (255 : Int32)) % ((0 : Int32) + (1 : Int32)))) 1 ((((tb.toUInt32 >>> (((8 : Int32) * (1 : Int32)) &&& 31).toUInt32).toInt32) &&& (255 : Int32)) % ((1 : Int32) + (1 : Int32)))) 2 ((((tb.toUInt32 >>> (((8 : Int32) * (2 : Int32)) &&& 31).toUInt32).toInt32) &&& (255 : Int32)) % ((2 : Int32) + (1 : Int32)))) 3 ((((tb.toUInt32 >>> (((8 : Int32) * (3 : Int32)) &&& 31).toUInt32).toInt32) &&& (255 : Int32)) % ((3 : Int32) + (1 : Int32))))))])) _
      refine XS.icmpNo X362.here hx rfl (hb hby at_255) rfl (teq (rfl : ((r4k4_matched ((mb &&& (2147483647 : Int32)) % (5 : Int32)) (up (up (up (up zI 0 ((((tb.toUInt32 >>> (((8 : Int32) * (0 : Int32)) &&& 31).toUInt32).toInt32) &&& (255 : Int32)) % ((0 : Int32) + (1 : Int32)))) 1 ((((tb.toUInt32 >>> (((8 : Int32) * (1 : Int32)) &&& 31).toUInt32).toInt32) &&& (255 : Int32)) % ((1 : Int32) + (1 : Int32)))) 2 ((((tb.toUInt32 >>> (((8 : Int32) * (2 : Int32)) &&& 31).toUInt32).toInt32) &&& (255 : Int32)) % ((2 : Int32) + (1 : Int32)))) 3 ((((tb.toUInt32 >>> (((8 : Int32) * (3 : Int32)) &&& 31).toUInt32).toInt32) &&& (255 : Int32)) % ((3 : Int32) + (1 : Int32))))) = (j0_226_s0_3 tb mb)))).2 ?_
      show Steps p.tables e below (T362.setTop (mkF m 258 #[.val (.int sh), .val (.int tb), .val (.int ma), .val (.int mb), .val (.long cv), .second, .val (.long ov), .second, .val (.int (4 : Int32)), .val (.ref b262), .val (.ref b264), .val (.int ((ma &&& (2147483647 : Int32)) % (5 : Int32))), .val (.int ((mb &&& (2147483647 : Int32)) % (5 : Int32))), .val (.ref b304), .val (.int (j0_154_s0_3 tb ma)), .val (.int (1 : Int32)), .val (.int (j0_226_s0_3 tb mb)), .unset] [])) _
      refine XS.aload X362.here hx rfl (hb hby at_258) rfl rfl ?_
      show Steps p.tables e below (T362.setTop (mkF m 260 #[.val (.int sh), .val (.int tb), .val (.int ma), .val (.int mb), .val (.long cv), .second, .val (.long ov), .second, .val (.int (4 : Int32)), .val (.ref b262), .val (.ref b264), .val (.int ((ma &&& (2147483647 : Int32)) % (5 : Int32))), .val (.int ((mb &&& (2147483647 : Int32)) % (5 : Int32))), .val (.ref b304), .val (.int (j0_154_s0_3 tb ma)), .val (.int (1 : Int32)), .val (.int (j0_226_s0_3 tb mb)), .unset] [(.ref b304)])) _
      refine st363.trans ?_
      show Steps p.tables e below (T363.setTop (mkF m 263 #[.val (.int sh), .val (.int tb), .val (.int ma), .val (.int mb), .val (.long cv), .second, .val (.long ov), .second, .val (.int (4 : Int32)), .val (.ref b262), .val (.ref b264), .val (.int ((ma &&& (2147483647 : Int32)) % (5 : Int32))), .val (.int ((mb &&& (2147483647 : Int32)) % (5 : Int32))), .val (.ref b304), .val (.int (j0_154_s0_3 tb ma)), .val (.int (1 : Int32)), .val (.int (j0_226_s0_3 tb mb)), .unset] [(.long ov)])) _
      refine XS.lload X363.here hx rfl (hb hby at_263) rfl ?_
      show Steps p.tables e below (T363.setTop (mkF m 265 #[.val (.int sh), .val (.int tb), .val (.int ma), .val (.int mb), .val (.long cv), .second, .val (.long ov), .second, .val (.int (4 : Int32)), .val (.ref b262), .val (.ref b264), .val (.int ((ma &&& (2147483647 : Int32)) % (5 : Int32))), .val (.int ((mb &&& (2147483647 : Int32)) % (5 : Int32))), .val (.ref b304), .val (.int (j0_154_s0_3 tb ma)), .val (.int (1 : Int32)), .val (.int (j0_226_s0_3 tb mb)), .unset] [(.long ov), (.long ov)])) _
      refine XS.lcmp X363.here hx rfl (hb hby at_265) rfl ?_
      show Steps p.tables e below (T363.setTop (mkF m 266 #[.val (.int sh), .val (.int tb), .val (.int ma), .val (.int mb), .val (.long cv), .second, .val (.long ov), .second, .val (.int (4 : Int32)), .val (.ref b262), .val (.ref b264), .val (.int ((ma &&& (2147483647 : Int32)) % (5 : Int32))), .val (.int ((mb &&& (2147483647 : Int32)) % (5 : Int32))), .val (.ref b304), .val (.int (j0_154_s0_3 tb ma)), .val (.int (1 : Int32)), .val (.int (j0_226_s0_3 tb mb)), .unset] [(.int (lcmpW ov ov))])) _
      refine XS.ifNo X363.here hx rfl (hb hby at_266) rfl (own_teqL (rfl : ov = ov)).2 ?_
      show Steps p.tables e below (T363.setTop (mkF m 269 #[.val (.int sh), .val (.int tb), .val (.int ma), .val (.int mb), .val (.long cv), .second, .val (.long ov), .second, .val (.int (4 : Int32)), .val (.ref b262), .val (.ref b264), .val (.int ((ma &&& (2147483647 : Int32)) % (5 : Int32))), .val (.int ((mb &&& (2147483647 : Int32)) % (5 : Int32))), .val (.ref b304), .val (.int (j0_154_s0_3 tb ma)), .val (.int (1 : Int32)), .val (.int (j0_226_s0_3 tb mb)), .unset] [])) _
      refine XS.aload X363.here hx rfl (hb hby at_269) rfl rfl ?_
      show Steps p.tables e below (T363.setTop (mkF m 271 #[.val (.int sh), .val (.int tb), .val (.int ma), .val (.int mb), .val (.long cv), .second, .val (.long ov), .second, .val (.int (4 : Int32)), .val (.ref b262), .val (.ref b264), .val (.int ((ma &&& (2147483647 : Int32)) % (5 : Int32))), .val (.int ((mb &&& (2147483647 : Int32)) % (5 : Int32))), .val (.ref b304), .val (.int (j0_154_s0_3 tb ma)), .val (.int (1 : Int32)), .val (.int (j0_226_s0_3 tb mb)), .unset] [(.ref b304)])) _
      refine st364.trans ?_
      show Steps p.tables e below (T364.setTop (mkF m 274 #[.val (.int sh), .val (.int tb), .val (.int ma), .val (.int mb), .val (.long cv), .second, .val (.long ov), .second, .val (.int (4 : Int32)), .val (.ref b262), .val (.ref b264), .val (.int ((ma &&& (2147483647 : Int32)) % (5 : Int32))), .val (.int ((mb &&& (2147483647 : Int32)) % (5 : Int32))), .val (.ref b304), .val (.int (j0_154_s0_3 tb ma)), .val (.int (1 : Int32)), .val (.int (j0_226_s0_3 tb mb)), .unset] [(.long cv)])) _
      refine XS.lload X364.here hx rfl (hb hby at_274) rfl ?_
      show Steps p.tables e below (T364.setTop (mkF m 276 #[.val (.int sh), .val (.int tb), .val (.int ma), .val (.int mb), .val (.long cv), .second, .val (.long ov), .second, .val (.int (4 : Int32)), .val (.ref b262), .val (.ref b264), .val (.int ((ma &&& (2147483647 : Int32)) % (5 : Int32))), .val (.int ((mb &&& (2147483647 : Int32)) % (5 : Int32))), .val (.ref b304), .val (.int (j0_154_s0_3 tb ma)), .val (.int (1 : Int32)), .val (.int (j0_226_s0_3 tb mb)), .unset] [(.long cv), (.long cv)])) _
      refine XS.lcmp X364.here hx rfl (hb hby at_276) rfl ?_
      show Steps p.tables e below (T364.setTop (mkF m 277 #[.val (.int sh), .val (.int tb), .val (.int ma), .val (.int mb), .val (.long cv), .second, .val (.long ov), .second, .val (.int (4 : Int32)), .val (.ref b262), .val (.ref b264), .val (.int ((ma &&& (2147483647 : Int32)) % (5 : Int32))), .val (.int ((mb &&& (2147483647 : Int32)) % (5 : Int32))), .val (.ref b304), .val (.int (j0_154_s0_3 tb ma)), .val (.int (1 : Int32)), .val (.int (j0_226_s0_3 tb mb)), .unset] [(.int (lcmpW cv cv))])) _
      refine XS.ifNo X364.here hx rfl (hb hby at_277) rfl (own_teqL (rfl : cv = cv)).2 ?_
      show Steps p.tables e below (T364.setTop (mkF m 280 #[.val (.int sh), .val (.int tb), .val (.int ma), .val (.int mb), .val (.long cv), .second, .val (.long ov), .second, .val (.int (4 : Int32)), .val (.ref b262), .val (.ref b264), .val (.int ((ma &&& (2147483647 : Int32)) % (5 : Int32))), .val (.int ((mb &&& (2147483647 : Int32)) % (5 : Int32))), .val (.ref b304), .val (.int (j0_154_s0_3 tb ma)), .val (.int (1 : Int32)), .val (.int (j0_226_s0_3 tb mb)), .unset] [])) _
      refine XS.iconst X364.here hx rfl (hb hby at_280) ?_
      show Steps p.tables e below (T364.setTop (mkF m 281 #[.val (.int sh), .val (.int tb), .val (.int ma), .val (.int mb), .val (.long cv), .second, .val (.long ov), .second, .val (.int (4 : Int32)), .val (.ref b262), .val (.ref b264), .val (.int ((ma &&& (2147483647 : Int32)) % (5 : Int32))), .val (.int ((mb &&& (2147483647 : Int32)) % (5 : Int32))), .val (.ref b304), .val (.int (j0_154_s0_3 tb ma)), .val (.int (1 : Int32)), .val (.int (j0_226_s0_3 tb mb)), .unset] [(.int (1 : Int32))])) _
      refine XS.goto X364.here hx rfl (pc0 := 281) (pc' := 285) rfl (hb hby at_281) (by decide) (by decide) ?_
      show Steps p.tables e below (T364.setTop (mkF m 285 #[.val (.int sh), .val (.int tb), .val (.int ma), .val (.int mb), .val (.long cv), .second, .val (.long ov), .second, .val (.int (4 : Int32)), .val (.ref b262), .val (.ref b264), .val (.int ((ma &&& (2147483647 : Int32)) % (5 : Int32))), .val (.int ((mb &&& (2147483647 : Int32)) % (5 : Int32))), .val (.ref b304), .val (.int (j0_154_s0_3 tb ma)), .val (.int (1 : Int32)), .val (.int (j0_226_s0_3 tb mb)), .unset] [(.int (1 : Int32))])) _
      refine XS.istore X364.here hx rfl (hb hby at_285) rfl (l' := #[.val (.int sh), .val (.int tb), .val (.int ma), .val (.int mb), .val (.long cv), .second, .val (.long ov), .second, .val (.int (4 : Int32)), .val (.ref b262), .val (.ref b264), .val (.int ((ma &&& (2147483647 : Int32)) % (5 : Int32))), .val (.int ((mb &&& (2147483647 : Int32)) % (5 : Int32))), .val (.ref b304), .val (.int (j0_154_s0_3 tb ma)), .val (.int (1 : Int32)), .val (.int (j0_226_s0_3 tb mb)), .val (.int (1 : Int32))]) rfl ?_
      show Steps p.tables e below (T364.setTop (mkF m 287 #[.val (.int sh), .val (.int tb), .val (.int ma), .val (.int mb), .val (.long cv), .second, .val (.long ov), .second, .val (.int (4 : Int32)), .val (.ref b262), .val (.ref b264), .val (.int ((ma &&& (2147483647 : Int32)) % (5 : Int32))), .val (.int ((mb &&& (2147483647 : Int32)) % (5 : Int32))), .val (.ref b304), .val (.int (j0_154_s0_3 tb ma)), .val (.int (1 : Int32)), .val (.int (j0_226_s0_3 tb mb)), .val (.int (1 : Int32))] [])) _
      refine XS.iload X364.here hx rfl (hb hby at_287) rfl ?_
      show Steps p.tables e below (T364.setTop (mkF m 289 #[.val (.int sh), .val (.int tb), .val (.int ma), .val (.int mb), .val (.long cv), .second, .val (.long ov), .second, .val (.int (4 : Int32)), .val (.ref b262), .val (.ref b264), .val (.int ((ma &&& (2147483647 : Int32)) % (5 : Int32))), .val (.int ((mb &&& (2147483647 : Int32)) % (5 : Int32))), .val (.ref b304), .val (.int (j0_154_s0_3 tb ma)), .val (.int (1 : Int32)), .val (.int (j0_226_s0_3 tb mb)), .val (.int (1 : Int32))] [(.int (1 : Int32))])) _
      refine XS.ifNo X364.here hx rfl (hb hby at_289) rfl ((if0 _ _).trans (feq (by decide : ¬ ((1 : Int32) = (0 : Int32)))).1) ?_
      show Steps p.tables e below (T364.setTop (mkF m 292 #[.val (.int sh), .val (.int tb), .val (.int ma), .val (.int mb), .val (.long cv), .second, .val (.long ov), .second, .val (.int (4 : Int32)), .val (.ref b262), .val (.ref b264), .val (.int ((ma &&& (2147483647 : Int32)) % (5 : Int32))), .val (.int ((mb &&& (2147483647 : Int32)) % (5 : Int32))), .val (.ref b304), .val (.int (j0_154_s0_3 tb ma)), .val (.int (1 : Int32)), .val (.int (j0_226_s0_3 tb mb)), .val (.int (1 : Int32))] [])) _
      refine XS.iload X364.here hx rfl (hb hby at_292) rfl ?_
      show Steps p.tables e below (T364.setTop (mkF m 294 #[.val (.int sh), .val (.int tb), .val (.int ma), .val (.int mb), .val (.long cv), .second, .val (.long ov), .second, .val (.int (4 : Int32)), .val (.ref b262), .val (.ref b264), .val (.int ((ma &&& (2147483647 : Int32)) % (5 : Int32))), .val (.int ((mb &&& (2147483647 : Int32)) % (5 : Int32))), .val (.ref b304), .val (.int (j0_154_s0_3 tb ma)), .val (.int (1 : Int32)), .val (.int (j0_226_s0_3 tb mb)), .val (.int (1 : Int32))] [(.int (1 : Int32))])) _
      refine XS.ifNo X364.here hx rfl (hb hby at_294) rfl ((if0 _ _).trans (feq (by decide : ¬ ((1 : Int32) = (0 : Int32)))).1) ?_
      show Steps p.tables e below (T364.setTop (mkF m 297 #[.val (.int sh), .val (.int tb), .val (.int ma), .val (.int mb), .val (.long cv), .second, .val (.long ov), .second, .val (.int (4 : Int32)), .val (.ref b262), .val (.ref b264), .val (.int ((ma &&& (2147483647 : Int32)) % (5 : Int32))), .val (.int ((mb &&& (2147483647 : Int32)) % (5 : Int32))), .val (.ref b304), .val (.int (j0_154_s0_3 tb ma)), .val (.int (1 : Int32)), .val (.int (j0_226_s0_3 tb mb)), .val (.int (1 : Int32))] [])) _
      refine XS.iconst X364.here hx rfl (hb hby at_297) ?_
      show Steps p.tables e below (T364.setTop (mkF m 298 #[.val (.int sh), .val (.int tb), .val (.int ma), .val (.int mb), .val (.long cv), .second, .val (.long ov), .second, .val (.int (4 : Int32)), .val (.ref b262), .val (.ref b264), .val (.int ((ma &&& (2147483647 : Int32)) % (5 : Int32))), .val (.int ((mb &&& (2147483647 : Int32)) % (5 : Int32))), .val (.ref b304), .val (.int (j0_154_s0_3 tb ma)), .val (.int (1 : Int32)), .val (.int (j0_226_s0_3 tb mb)), .val (.int (1 : Int32))] [(.int (1 : Int32))])) _
      refine XS.goto X364.here hx rfl (pc0 := 298) (pc' := 302) rfl (hb hby at_298) (by decide) (by decide) ?_
      show Steps p.tables e below (T364.setTop (mkF m 302 #[.val (.int sh), .val (.int tb), .val (.int ma), .val (.int mb), .val (.long cv), .second, .val (.long ov), .second, .val (.int (4 : Int32)), .val (.ref b262), .val (.ref b264), .val (.int ((ma &&& (2147483647 : Int32)) % (5 : Int32))), .val (.int ((mb &&& (2147483647 : Int32)) % (5 : Int32))), .val (.ref b304), .val (.int (j0_154_s0_3 tb ma)), .val (.int (1 : Int32)), .val (.int (j0_226_s0_3 tb mb)), .val (.int (1 : Int32))] [(.int (1 : Int32))])) _
      exact retN X364 hx (t := .boolean) Bd.returns (by simp) (hb hby at_302) hr
    · show Q0 Z sh tb ma mb cv ov h0 n0 _ T364.heap _
      rw [e364]
      exact ⟨rfl, N364⟩
set_option maxRecDepth 65536 in
set_option maxHeartbeats 40000000 in
theorem comes_1 {Post : Tables → Env → Array Value → State → Outcome → State → Prop} (hpost : ∀ tb e args s v u, (limb_1_1.after args s (.returned v) u = true ∧ limb_1_2.after args s (.returned v) u = true ∧ True) → FrameEnd s (.returned v) u (Jvm.fieldLocs frame_1_writes args s ++ Jvm.arrayLocs frame_1_arrays args s ++ Jvm.staticLocs frame_1_statics s) 16 128 → Post tb e args s (.returned v) u) :
    ArmFor flags0 classFile x code maxLocals ret World_1 tables_1 room_1 Calls_1 rest_1 Pre_1 Post := by
  intro l hfl _ _ p e ha hc hk s m args below hf hA hF happ hP
  obtain ⟨hcalls, hrest, hpre⟩ := hP
  obtain ⟨-, -, -, hnamed, -, -, -, hat⟩ := (Spec.applies_iff hf).mp happ
  obtain ⟨hg, hn⟩ := and_e (Cond.before_iff.mp (show (Jvm.Cond.and given_1 narrow_1).before args s = true from hpre))
  obtain ⟨gv1, gv2⟩ := and_e hg
  obtain ⟨gv3, gv4⟩ := and_e gv2
  obtain ⟨gv5, gv6⟩ := and_e gv4
  obtain ⟨gv7, gv8⟩ := and_e gv6
  obtain ⟨gv9, gv10⟩ := and_e gv8
  obtain ⟨gv11, gv12⟩ := and_e gv10
  obtain ⟨w0, w1, w2, w3, w4, w5, rfl⟩ : ∃ w0 w1 w2 w3 w4 w5 : Value, args = #[w0, w1, w2, w3, w4, w5] := by
    have hs : args.size = 6 := by simpa [Cond.value, given_1] using gv1
    obtain ⟨L⟩ := args
    match L, hs with
    | [w0, w1, w2, w3, w4, w5], _ => exact ⟨w0, w1, w2, w3, w4, w5, rfl⟩
  have hw := fun d (hd : d ∈ tables_1) => atoms_spec (ws := Jvm.Cond.code x code maxLocals ret :: tables_1) hat d (List.mem_cons_of_mem _ hd)
  have hfit : Fit s := fun {y c} hc i hi => by
    obtain ⟨ha, rfl⟩ := Array.getElem?_eq_some_iff.mp hc
    have q := List.all_eq_true.mp ((Array.all_eq_true_iff_forall_mem.mp hF) _ (Array.getElem_mem ha)) i (List.mem_range.mpr hi)
    simpa [Array.getElem?_eq_getElem hi] using q
  obtain ⟨i0, ei0⟩ := is_v gv3
  obtain rfl : w0 = (.int i0) := Option.some.inj ei0
  obtain ⟨i1, ei1⟩ := is_v gv5
  obtain rfl : w1 = (.int i1) := Option.some.inj ei1
  obtain ⟨i2, ei2⟩ := is_v gv7
  obtain rfl : w2 = (.int i2) := Option.some.inj ei2
  obtain ⟨i3, ei3⟩ := is_v gv9
  obtain rfl : w3 = (.int i3) := Option.some.inj ei3
  obtain ⟨i4, ei4⟩ := isL_v gv11
  obtain rfl : w4 = (.long i4) := Option.some.inj ei4
  obtain ⟨i5, ei5⟩ := isL_v gv12
  obtain rfl : w5 = (.long i5) := Option.some.inj ei5
  obtain ⟨n, o, h1, h2, h3, _, L, rfl, ⟨rfl, N⟩, hq⟩ := rm0 l s _ hw tables_1 i0 i1 i2 i3 i4 i5 s.heap s.heap.size (Nat.le_refl _) p e ha hc hk s m _ below hf ((Spec.applies_iff_loose hf).mp happ).1 ⟨rfl, State.Warmed39.refl s, rfl⟩ trivial
  refine ⟨n, _, h1, h2, h3, hpost _ _ _ _ _ _ ⟨Cond.after_iff.mpr rfl, Cond.after_iff.mpr (eq_i res_at (Term.int_eval (1)) rfl), trivial⟩ ⟨hq.1, hq.2.1, (hq.2.2.sift fun y hy => Or.inr (N y hy)).mono (by decide) (by decide)⟩⟩
theorem main_1_1 : Claimed_1_1 := comes_1 fun _ _ _ _ _ _ h hF => ⟨h.1, hF⟩
theorem main_1_2 : Claimed_1_2 := comes_1 fun _ _ _ _ _ _ h hF => ⟨h.2.1, hF⟩
end Jvm.Pilot.@@N@@
namespace Jvm.Pilot.@@N@@
open Jvm Jvm.ClassFile Sem Op Lib Jvm.Free Jvm.Stand Jvm.Pilot.@@N@@.Jvm.D
/-! MADE BY PROGRAM (witnessworld.py) out of the Statement's table words and the real class files: 10 classes; the members and pool entries that the words name. The judged class is class 1, her method 2. -/
namespace start1
open Jvm.ClassFile
def u (s : String) : CpInfo := .utf8 (stringToUtf16 s)
/-- a pool by its gaps: so many unusable entries, then the entry; so many at the end -/
def gap : Nat → List CpInfo → List CpInfo
  | 0, r => r
  | n + 1, r => .unusable :: gap n r
def poolList (es : List (Nat × CpInfo)) (last : Nat) : List CpInfo := es.foldr (fun e r => gap e.1 (e.2 :: r)) (gap last [])
def pool (es : List (Nat × CpInfo)) (last : Nat) : Array CpInfo := ⟨poolList es last⟩
def fileOf (pool : Array CpInfo) (this : Nat) (attrs : Array Attribute := #[]) (ms : Array MethodInfo := #[]) (fl : Nat := 33) (sup : Nat := 0) (ifs : Array Nat := #[]) (fds : Array FieldInfo := #[]) : ClassFile where
  minorVersion := 0
  majorVersion := 65
  constantPool := pool
  accessFlags := fl
  thisClass := this
  superClass := sup
  interfaces := ifs
  fields := fds
  methods := ms
  attributes := attrs
def plain (name : String) (sup : Option ClassId) : Class where
  name := name
  kind := .ordinary
  loader := none
  accessFlags := 33
  super := sup
  interfaces := #[]
  cf := none
  fields := #[]
  methods := #[]
  instanceTypes := #[]
  staticTypes := #[]
  resolved := #[]
  callSites := []
  init := .initialized
  statics := none
  mirror := none

def pool0 : Array CpInfo := pool [(5, u "<init>"), (0, u "()V"), (1, .class_ 10), (1, u "java/lang/Object")] 113

def k0c0 : Code := { maxStack := 0, maxLocals := 1, code := object_method_1_code, exceptionTable := #[], attributes := #[] }
def k0m0 : Method := { name := "<init>", desc := "()V", sig := { parameters := [], returnType := none }, accessFlags := 1, code := some k0c0 }
/-- java/lang/Object -/
def k0 : Class := { plain "java/lang/Object" none with
  accessFlags := 33
  interfaces := #[]
  cf := some (fileOf pool0 8 #[] #[{ accessFlags := 1, nameIndex := 5, descriptorIndex := 6, attributes := #[] }] 33 0 #[] #[])
  fields := #[]
  methods := #[k0m0]
  instanceTypes := #[]
  staticTypes := #[]
  resolved := Array.replicate 124 none
  statics := none }

def pool1 : Array CpInfo := pool [(2, .class_ 4), (1, u "java/lang/Object"), (0, u "<init>"), (0, u "()V"), (0, .methodref 8 9), (0, .class_ 10), (0, .nameAndType 11 12), (0, u "skipstitch/search/PrefixTableScanResumePinLaw"), (0, u "entry"), (0, u "(II)I"), (0, .integer 2147483647), (0, .class_ 15), (0, u "skipstitch/search/PrefixTableScan"), (0, .methodref 14 17), (0, .nameAndType 5 18), (0, u "([B[I)V"), (0, .methodref 14 20), (0, .nameAndType 21 22), (0, u "resume"), (0, u "(IJJ)V"), (0, .methodref 14 24), (0, .nameAndType 25 26), (0, u "matched"), (0, u "()I"), (0, .methodref 14 28), (0, .nameAndType 29 30), (0, u "comparisons"), (0, u "()J"), (0, .methodref 14 32), (0, .nameAndType 33 30), (0, u "occurrences"), (2, u "law"), (0, u "(IIIIJJ)Z")] 7

def k1m0 : Method := { name := "<init>", desc := "()V", sig := { parameters := [], returnType := none }, accessFlags := 1, code := none }
def k1c1 : Code := { maxStack := 3, maxLocals := 2, code := method_2_code, exceptionTable := #[], attributes := #[] }
def k1m1 : Method := { name := "entry", desc := "(II)I", sig := { parameters := [.int, .int], returnType := some .int }, accessFlags := 10, code := some k1c1 }
def k1c2 : Code := { maxStack := 6, maxLocals := 18, code := code, exceptionTable := #[], attributes := #[] }
def k1m2 : Method := { name := "law", desc := "(IIIIJJ)Z", sig := { parameters := [.int, .int, .int, .int, .long, .long], returnType := some .boolean }, accessFlags := 9, code := some k1c2 }
/-- skipstitch/search/PrefixTableScanResumePinLaw -/
def k1 : Class := { plain "skipstitch/search/PrefixTableScanResumePinLaw" (some 0) with
  accessFlags := 49
  interfaces := #[]
  cf := some (fileOf pool1 8 #[] #[{ accessFlags := 1, nameIndex := 5, descriptorIndex := 6, attributes := #[] }, { accessFlags := 10, nameIndex := 11, descriptorIndex := 12, attributes := #[] }, { accessFlags := 9, nameIndex := 36, descriptorIndex := 37, attributes := #[] }] 49 2 #[] #[])
  fields := #[]
  methods := #[k1m0, k1m1, k1m2]
  instanceTypes := #[]
  staticTypes := #[]
  resolved := Array.replicate 45 none
  statics := none }

def pool2 : Array CpInfo := pool [(1, .class_ 2), (0, u "skipstitch/search/Scan"), (0, .class_ 4), (0, u "java/lang/Object")] 9

/-- skipstitch/search/Scan -/
def k2 : Class := { plain "skipstitch/search/Scan" (some 0) with
  accessFlags := 1536
  interfaces := #[]
  cf := some (fileOf pool2 1 #[] #[] 1536 3 #[] #[])
  fields := #[]
  methods := #[]
  instanceTypes := #[]
  staticTypes := #[]
  resolved := Array.replicate 14 none
  statics := none }

def pool3 : Array CpInfo := pool [(1, .methodref 2 3), (0, .class_ 4), (0, .nameAndType 5 6), (0, u "java/lang/Object"), (0, u "<init>"), (0, u "()V"), (0, .fieldref 8 9), (0, .class_ 10), (0, .nameAndType 11 12), (0, u "skipstitch/search/PrefixTableScan"), (0, u "pattern"), (0, u "[B"), (0, .fieldref 8 14), (0, .nameAndType 15 16), (0, u "table"), (0, u "[I"), (0, .fieldref 8 18), (0, .nameAndType 19 20), (0, u "matched"), (0, u "I"), (0, .fieldref 8 22), (0, .nameAndType 23 24), (0, u "comparisons"), (0, u "J"), (0, .fieldref 8 26), (0, .nameAndType 27 24), (0, u "occurrences"), (6, .class_ 35), (0, u "skipstitch/search/Scan"), (0, u "([B[I)V"), (6, u "()I"), (0, u "resume"), (0, u "(IJJ)V"), (1, u "()J")] 2

def k3c0 : Code := { maxStack := 2, maxLocals := 3, code := prog_30_method_1_code, exceptionTable := #[], attributes := #[] }
def k3m0 : Method := { name := "<init>", desc := "([B[I)V", sig := { parameters := [(.array .byte), (.array .int)], returnType := none }, accessFlags := 0, code := some k3c0 }
def k3c1 : Code := { maxStack := 1, maxLocals := 1, code := prog_30_method_3_code, exceptionTable := #[], attributes := #[] }
def k3m1 : Method := { name := "matched", desc := "()I", sig := { parameters := [], returnType := some .int }, accessFlags := 0, code := some k3c1 }
def k3c2 : Code := { maxStack := 4, maxLocals := 6, code := prog_30_method_4_code, exceptionTable := #[], attributes := #[] }
def k3m2 : Method := { name := "resume", desc := "(IJJ)V", sig := { parameters := [.int, .long, .long], returnType := none }, accessFlags := 0, code := some k3c2 }
def k3c3 : Code := { maxStack := 2, maxLocals := 1, code := prog_30_method_6_code, exceptionTable := #[], attributes := #[] }
def k3m3 : Method := { name := "comparisons", desc := "()J", sig := { parameters := [], returnType := some .long }, accessFlags := 1, code := some k3c3 }
def k3c4 : Code := { maxStack := 2, maxLocals := 1, code := prog_30_method_7_code, exceptionTable := #[], attributes := #[] }
def k3m4 : Method := { name := "occurrences", desc := "()J", sig := { parameters := [], returnType := some .long }, accessFlags := 1, code := some k3c4 }
/-- skipstitch/search/PrefixTableScan -/
def k3 : Class := { plain "skipstitch/search/PrefixTableScan" (some 0) with
  accessFlags := 48
  interfaces := #[2]
  cf := some (fileOf pool3 8 #[] #[{ accessFlags := 0, nameIndex := 5, descriptorIndex := 36, attributes := #[] }, { accessFlags := 0, nameIndex := 19, descriptorIndex := 43, attributes := #[] }, { accessFlags := 0, nameIndex := 44, descriptorIndex := 45, attributes := #[] }, { accessFlags := 1, nameIndex := 23, descriptorIndex := 47, attributes := #[] }, { accessFlags := 1, nameIndex := 27, descriptorIndex := 47, attributes := #[] }] 48 2 #[34] #[{ accessFlags := 18, nameIndex := 11, descriptorIndex := 12, attributes := #[] }, { accessFlags := 18, nameIndex := 15, descriptorIndex := 16, attributes := #[] }, { accessFlags := 2, nameIndex := 19, descriptorIndex := 20, attributes := #[] }, { accessFlags := 2, nameIndex := 23, descriptorIndex := 24, attributes := #[] }, { accessFlags := 2, nameIndex := 27, descriptorIndex := 24, attributes := #[] }])
  fields := #[{ name := "pattern", type := (.array .byte), accessFlags := 18, slot := 0, constantValue := 0 }, { name := "table", type := (.array .int), accessFlags := 18, slot := 1, constantValue := 0 }, { name := "matched", type := .int, accessFlags := 2, slot := 2, constantValue := 0 }, { name := "comparisons", type := .long, accessFlags := 2, slot := 3, constantValue := 0 }, { name := "occurrences", type := .long, accessFlags := 2, slot := 4, constantValue := 0 }]
  methods := #[k3m0, k3m1, k3m2, k3m3, k3m4]
  instanceTypes := #[(.array .byte), (.array .int), .int, .long, .long]
  staticTypes := #[]
  resolved := Array.replicate 50 none
  statics := none }

def pool4 : Array CpInfo := pool [(1, u "java/lang/Cloneable"), (0, .class_ 1), (0, u "java/lang/Object"), (0, .class_ 3)] 3

/-- java/lang/Cloneable -/
def k4 : Class := { plain "java/lang/Cloneable" (some 0) with
  accessFlags := 1537
  interfaces := #[]
  cf := some (fileOf pool4 2 #[] #[] 1537 4 #[] #[])
  fields := #[]
  methods := #[]
  instanceTypes := #[]
  staticTypes := #[]
  resolved := Array.replicate 8 none
  statics := none }

def pool5 : Array CpInfo := pool [(1, u "java/io/Serializable"), (0, .class_ 1), (0, u "java/lang/Object"), (0, .class_ 3)] 3

/-- java/io/Serializable -/
def k5 : Class := { plain "java/io/Serializable" (some 0) with
  accessFlags := 1537
  interfaces := #[]
  cf := some (fileOf pool5 2 #[] #[] 1537 4 #[] #[])
  fields := #[]
  methods := #[]
  instanceTypes := #[]
  staticTypes := #[]
  resolved := Array.replicate 8 none
  statics := none }

/-- the primitive byte -/
def k6 : Class := { plain "byte" none with kind := .primitive 'B', accessFlags := 0x411 }
/-- [B -/
def k7 : Class := { plain "[B" (some 0) with kind := .array 6 .byte, interfaces := #[4, 5], accessFlags := 1041 }

/-- the primitive int -/
def k8 : Class := { plain "int" none with kind := .primitive 'I', accessFlags := 0x411 }
/-- [I -/
def k9 : Class := { plain "[I" (some 0) with kind := .array 8 .int, interfaces := #[4, 5], accessFlags := 1041 }

def heap : Heap := #[]
def classes : Array Class := #[k0, k1, k2, k3, k4, k5, k6, k7, k8, k9]
def interned : List (Array UInt16 × Addr) := []
def slotsUsed : Nat := 0
def theMethod : MethodId := ⟨1, 2⟩
def args0 : Array Value := #[.int 1027, .int 66051, .int 3, .int 2, .long 10, .long 20]
def aboutOver (below : List Frame) : State where
  vm := { classes := classes, interned := interned.toArray }
  heap := heap
  slotsUsed := slotsUsed
  threads := #[{ frames := .invoking theMethod args0 :: below }]
def below0 : List Frame := [.native { method := ⟨0, 0⟩, args := #[] }]
def about1 : State := aboutOver below0
def p0 : Program := .bare "" "" ""
def e0 : Env := launch0.env 0 0 0
theorem w_frames : about1.frames = Frame.invoking theMethod args0 :: below0 := rfl
set_option maxRecDepth 65536 in
theorem w_args : argsFit about1.vm theMethod args0 = true := by decide +kernel
set_option maxRecDepth 65536 in
theorem w_heap : heapFits about1 = true := by decide +kernel
set_option maxRecDepth 65536 in
theorem w_runnable : about1.curStatus? = some .runnable := by decide +kernel
set_option maxRecDepth 65536 in
theorem w_alone : about1.alone = true := by decide +kernel
set_option maxRecDepth 65536 in
theorem w_named : about1.methodNamed? x = some theMethod := by decide +kernel
set_option maxRecDepth 65536 in
theorem w_hears : about1.hears theMethod below0 = true := by decide +kernel
set_option maxRecDepth 65536 in
theorem w_ripe : about1.ripe theMethod args0 below0 = true := by decide +kernel
theorem w_running : about1.status = .running := rfl
set_option maxRecDepth 65536 in
theorem w_room : about1.hasRoom e0.platform room_1 = true :=
  launch0.hasRoom_least _ room_1 (by decide +kernel) (by decide +kernel) (by decide +kernel) (by decide +kernel) (by decide +kernel) (by decide +kernel)
theorem allAtoms_all (ts : List Jvm.Cond) (a : Array Jvm.Value) (st : Jvm.State) : (allAtoms ts).before a st = ts.all (fun c => c.before a st) := by
  induction ts with
  | nil => rfl
  | cons c t ih =>
    show (Jvm.Cond.and c (allAtoms t)).before a st = _
    rw [Jvm.Cond.before_and, ih, List.all_cons]
def words1 : List Jvm.Cond := Jvm.Cond.code x code maxLocals ret :: tables_1
/-- a 'code' word, met by the world's own term for the bytes: nothing is compared byte by byte -/
theorem code_word {y : MethodName} {bytes : ByteArray} {mx : Nat} {rt : Option FieldType} {a : Array Value} {s : State} {m : MethodId} {meth : Method} {c : Code} (h1 : s.methodNamed? y = some m) (h2 : s.vm.method? m = some meth) (h3 : meth.code = some c) (h4 : c.code = bytes)
    (h5 : (c.maxLocals == mx && c.exceptionTable.isEmpty && decide (c.maxStack ≤ mostOperands) && decide (meth.sig.returnType = rt) && !meth.locks && decide (parseMethodDescriptor y.desc = some meth.sig)) = true) : (Jvm.Cond.code y bytes mx rt).before a s = true := by
  simp only [Bool.and_eq_true, beq_iff_eq, Bool.not_eq_true', decide_eq_true_eq] at h5
  obtain ⟨⟨⟨⟨⟨g1, g2⟩, g3⟩, g4⟩, g5⟩, g6⟩ := h5
  simp [Cond.before, Cond.holds, Cond.value, h1, h2, h3, h4, g1, g2, g3, g4, g5, g6]
def isCode : Jvm.Cond → Bool
  | .code _ _ _ _ => true
  | _ => false
theorem all_split {L : List Jvm.Cond} {P : Jvm.Cond → Bool} (h1 : L.all (fun c => isCode c || P c) = true) (h2 : ∀ c ∈ L.filter isCode, P c = true) : L.all P = true := by
  refine List.all_eq_true.mpr fun c hc => ?_
  have h := List.all_eq_true.mp h1 c hc
  rcases Bool.eq_false_or_eq_true (isCode c) with hi | hi
  · exact h2 c (List.mem_filter.mpr ⟨hc, hi⟩)
  · simpa [hi] using h
set_option maxRecDepth 65536 in
theorem w_c0 : (Jvm.Cond.code x code maxLocals ret).before args0 about1 = true := code_word (m := ⟨1, 2⟩) (meth := k1m2) (c := k1c2) (by decide +kernel) rfl rfl rfl (by decide +kernel)
set_option maxRecDepth 65536 in
theorem w_c1 : (Jvm.Cond.code ({ cls := "skipstitch/search/PrefixTableScanResumePinLaw", name := "entry", desc := "(II)I" } : Jvm.MethodName) method_2_code (2 : Nat) (Option.some Jvm.ClassFile.FieldType.int)).before args0 about1 = true := code_word (m := ⟨1, 1⟩) (meth := k1m1) (c := k1c1) (by decide +kernel) rfl rfl rfl (by decide +kernel)
set_option maxRecDepth 65536 in
theorem w_c2 : (Jvm.Cond.code ({ cls := "skipstitch/search/PrefixTableScan", name := "<init>", desc := "([B[I)V" } : Jvm.MethodName) prog_30_method_1_code (3 : Nat) (Option.none : Option Jvm.ClassFile.FieldType)).before args0 about1 = true := code_word (m := ⟨3, 0⟩) (meth := k3m0) (c := k3c0) (by decide +kernel) rfl rfl rfl (by decide +kernel)
set_option maxRecDepth 65536 in
theorem w_c3 : (Jvm.Cond.code ({ cls := "java/lang/Object", name := "<init>", desc := "()V" } : Jvm.MethodName) object_method_1_code (1 : Nat) (Option.none : Option Jvm.ClassFile.FieldType)).before args0 about1 = true := code_word (m := ⟨0, 0⟩) (meth := k0m0) (c := k0c0) (by decide +kernel) rfl rfl rfl (by decide +kernel)
set_option maxRecDepth 65536 in
theorem w_c4 : (Jvm.Cond.code ({ cls := "skipstitch/search/PrefixTableScan", name := "resume", desc := "(IJJ)V" } : Jvm.MethodName) prog_30_method_4_code (6 : Nat) (Option.none : Option Jvm.ClassFile.FieldType)).before args0 about1 = true := code_word (m := ⟨3, 2⟩) (meth := k3m2) (c := k3c2) (by decide +kernel) rfl rfl rfl (by decide +kernel)
set_option maxRecDepth 65536 in
theorem w_c5 : (Jvm.Cond.code ({ cls := "skipstitch/search/PrefixTableScan", name := "matched", desc := "()I" } : Jvm.MethodName) prog_30_method_3_code (1 : Nat) (Option.some Jvm.ClassFile.FieldType.int)).before args0 about1 = true := code_word (m := ⟨3, 1⟩) (meth := k3m1) (c := k3c1) (by decide +kernel) rfl rfl rfl (by decide +kernel)
set_option maxRecDepth 65536 in
theorem w_c6 : (Jvm.Cond.code ({ cls := "skipstitch/search/PrefixTableScan", name := "comparisons", desc := "()J" } : Jvm.MethodName) prog_30_method_6_code (1 : Nat) (Option.some Jvm.ClassFile.FieldType.long)).before args0 about1 = true := code_word (m := ⟨3, 3⟩) (meth := k3m3) (c := k3c3) (by decide +kernel) rfl rfl rfl (by decide +kernel)
set_option maxRecDepth 65536 in
theorem w_c7 : (Jvm.Cond.code ({ cls := "skipstitch/search/PrefixTableScan", name := "occurrences", desc := "()J" } : Jvm.MethodName) prog_30_method_7_code (1 : Nat) (Option.some Jvm.ClassFile.FieldType.long)).before args0 about1 = true := code_word (m := ⟨3, 4⟩) (meth := k3m4) (c := k3c4) (by decide +kernel) rfl rfl rfl (by decide +kernel)
def codes1 : List Jvm.Cond := [Jvm.Cond.code x code maxLocals ret, Jvm.Cond.code ({ cls := "skipstitch/search/PrefixTableScanResumePinLaw", name := "entry", desc := "(II)I" } : Jvm.MethodName) method_2_code (2 : Nat) (Option.some Jvm.ClassFile.FieldType.int), Jvm.Cond.code ({ cls := "skipstitch/search/PrefixTableScan", name := "<init>", desc := "([B[I)V" } : Jvm.MethodName) prog_30_method_1_code (3 : Nat) (Option.none : Option Jvm.ClassFile.FieldType), Jvm.Cond.code ({ cls := "java/lang/Object", name := "<init>", desc := "()V" } : Jvm.MethodName) object_method_1_code (1 : Nat) (Option.none : Option Jvm.ClassFile.FieldType), Jvm.Cond.code ({ cls := "skipstitch/search/PrefixTableScan", name := "resume", desc := "(IJJ)V" } : Jvm.MethodName) prog_30_method_4_code (6 : Nat) (Option.none : Option Jvm.ClassFile.FieldType), Jvm.Cond.code ({ cls := "skipstitch/search/PrefixTableScan", name := "matched", desc := "()I" } : Jvm.MethodName) prog_30_method_3_code (1 : Nat) (Option.some Jvm.ClassFile.FieldType.int), Jvm.Cond.code ({ cls := "skipstitch/search/PrefixTableScan", name := "comparisons", desc := "()J" } : Jvm.MethodName) prog_30_method_6_code (1 : Nat) (Option.some Jvm.ClassFile.FieldType.long), Jvm.Cond.code ({ cls := "skipstitch/search/PrefixTableScan", name := "occurrences", desc := "()J" } : Jvm.MethodName) prog_30_method_7_code (1 : Nat) (Option.some Jvm.ClassFile.FieldType.long)]
set_option maxRecDepth 65536 in
theorem codes_eq : words1.filter isCode = codes1 := rfl
theorem w_codes : ∀ c ∈ words1.filter isCode, c.before args0 about1 = true := by
  rw [codes_eq]
  intro c hc
  simp only [codes1, List.mem_cons, List.not_mem_nil, or_false] at hc
  rcases hc with rfl | rfl | rfl | rfl | rfl | rfl | rfl | rfl
  · exact w_c0
  · exact w_c1
  · exact w_c2
  · exact w_c3
  · exact w_c4
  · exact w_c5
  · exact w_c6
  · exact w_c7
set_option maxRecDepth 65536 in
theorem w_t1 : (words1.take 24).all (fun c => isCode c || c.before args0 about1) = true := by decide +kernel
set_option maxRecDepth 65536 in
theorem w_t2 : (words1.drop 24).all (fun c => isCode c || c.before args0 about1) = true := by decide +kernel
theorem w_tables : (allAtoms (Jvm.Cond.code x code maxLocals ret :: tables_1)).before args0 about1 = true := by
  rw [allAtoms_all]
  show words1.all (fun c => c.before args0 about1) = true
  refine all_split ?_ w_codes
  rw [← List.take_append_drop 24 words1, List.all_append, w_t1, w_t2]
  rfl
set_option maxRecDepth 65536 in
theorem w_case : (Jvm.Cond.and given_1 narrow_1).before args0 about1 = true := by decide +kernel
theorem w_applies : (headSpec (Jvm.Cond.code x code maxLocals ret :: tables_1) room_1).applies x e0.platform about1 = true :=
  (Spec.applies_iff w_frames).mpr ⟨w_running, w_runnable, w_alone, w_named, w_hears, w_ripe, w_room, w_tables⟩
theorem atStart : AtStart classFile x code maxLocals ret World_1 tables_1 room_1 Calls_1 rest_1 Pre_1 launch0 p0 e0 about1 theMethod args0 below0 :=
  ⟨lists_1, trivial, launch0.admits_env _ _ _, launch0.least_env, fairChoices_fair.cas, fairChoices_fair.clock, w_frames, w_args, w_heap, w_applies, trivial, trivial, w_case⟩
end start1
theorem witness_1 : WitnessClaimed_1 := ⟨start1.p0, start1.e0, start1.about1, start1.theMethod, start1.args0, start1.below0, start1.atStart⟩
end Jvm.Pilot.@@N@@
