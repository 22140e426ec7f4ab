import JvmDerived
import JvmDerived.Pilot.@@N@@Statement
import JvmDerived.Pilot.@@N@@Code
set_option linter.unusedVariables false
set_option linter.unusedSimpArgs false
namespace Jvm.RoadKit
open Sem ClassFile Op Lib Jvm.Stand Jvm.Free Jvm.LawKit
section New
variable {p : Program} {l : Launch} {e : Env} {R : Room} {s : State} {m : MethodId} {args : Array Value} {below : List Frame} {meth : Method} {c : Code} {T : State} {locs : List Loc} {cells slots : Nat}
theorem retI (X : Stand p l e R s m args below meth c T locs cells slots) (hx : p.tables.exec = Jvm.exec) {pc : Nat} {Ls : Array Slot} {z : Int32} {rest : List Value} (hret : meth.sig.returnType = some .int) (hd : decode c.code pc = .ok (.ireturn, 1)) {fs : List Frame}
    (hl : ∀ (f : JFrame) (acts : List Action), f.method = m → f.locked = none → f.entered = [] → (doReturn e (T.setTop f) acts (some (.int z))).1 = T.setFrames fs) : Steps p.tables e below (T.setTop (mkF m pc Ls (.int z :: rest))) (T.setFrames fs) := by
  have hm' : T.vm.method? m = some meth := X.method'
  have hn : narrow .int (.int z) = .int z := rfl
  show Steps p.tables e below (T.setTop { method := m, pc := pc, locals := Ls, stack := _ :: rest, locked := none }) _
  jvm_step X.here [X.here.top, hx, hd, hm', hret, hn]
  first | (intro acts; rw [hl _ acts rfl rfl rfl]) | rw [hl _ _ rfl rfl rfl]
  exact Steps.refl _
theorem own_lremM {g : JFrame} {target : State} (X : Stand p l e R s m args below meth c T locs cells slots) (hx : p.tables.exec = Jvm.exec) (hg : g.method = m) {x y : Int64} {rest : List Value} (hd : decode c.code g.pc = .ok (.lrem, 1)) (hs : g.stack = .long y :: .long x :: rest) (hy : y ≠ 0)
    (hr : Steps p.tables e below (T.setTop { g with pc := g.pc + 1, stack := .long (x % y) :: rest }) target) : Steps p.tables e below (T.setTop g) target := by
  have q : x - (x / y) * y = x % y := lrem_mod x y
  exact XS.lrem X.here hx hg hd hs hy (by rw [q]; exact hr)
end New
/-! own: a long's comparison, an array by a function -/
theorem own_tltL {x y : Int64} (h : x < y) : ifCond.holds .lt (lcmpW x y) = true ∧ ifCond.holds .ge (lcmpW x y) = false ∧ ifCond.holds .gt (lcmpW y x) = true ∧ ifCond.holds .le (lcmpW y x) = false := by
  have h1 := (lc_lt x y).mpr h
  have h2 := (lc_gt y x).mpr h
  rw [← lcW] at h1 h2
  simp only [if0]
  exact ⟨(tlt h1).1, (tlt h1).2.1, (tlt h2).2.2.1, (tlt h2).2.2.2⟩
theorem own_fltL {x y : Int64} (h : ¬ x < y) : ifCond.holds .lt (lcmpW x y) = false ∧ ifCond.holds .ge (lcmpW x y) = true ∧ ifCond.holds .gt (lcmpW y x) = false ∧ ifCond.holds .le (lcmpW y x) = true := by
  have h1 := mt (lc_lt x y).mp h
  have h2 := mt (lc_gt y x).mp h
  rw [← lcW] at h1 h2
  simp only [if0]
  exact ⟨(flt h1).1, (flt h1).2.1, (flt h2).2.2.1, (flt h2).2.2.2⟩
theorem own_teqL {x y : Int64} (h : x = y) : ifCond.holds .eq (lcmpW x y) = true ∧ ifCond.holds .ne (lcmpW x y) = false := by
  have h1 := (lc_eq x y).mpr h
  rw [← lcW] at h1
  simp only [if0]
  exact teq h1
theorem own_feqL {x y : Int64} (h : ¬ x = y) : ifCond.holds .eq (lcmpW x y) = false ∧ ifCond.holds .ne (lcmpW x y) = true := by
  have h1 := mt (lc_eq x y).mp h
  rw [← lcW] at h1
  simp only [if0]
  exact feq h1
theorem own_iadd {x y : Int32} {X Y : Int} (hx : x.toInt = X) (hy : y.toInt = Y) (h1 : -2147483648 ≤ X + Y) (h2 : X + Y < 2147483648) : (x + y).toInt = X + Y := by
  have := c_iadd x y; have := rng32 (x + y); omega
theorem own_isub {x y : Int32} {X Y : Int} (hx : x.toInt = X) (hy : y.toInt = Y) (h1 : -2147483648 ≤ X - Y) (h2 : X - Y < 2147483648) : (x - y).toInt = X - Y := by
  have := c_isub x y; have := rng32 (x - y); omega
theorem own_imul {x y : Int32} {X Y : Int} (hx : x.toInt = X) (hy : y.toInt = Y) (h1 : -2147483648 ≤ X * Y) (h2 : X * Y < 2147483648) : (x * y).toInt = X * Y := by
  have := c_imul x y; have := rng32 (x * y); subst hx hy; omega
theorem own_ladd {x y : Int64} {X Y : Int} (hx : x.toInt = X) (hy : y.toInt = Y) (h1 : -9223372036854775808 ≤ X + Y) (h2 : X + Y < 9223372036854775808) : (x + y).toInt = X + Y := by
  have := c_ladd x y; have := rng64 (x + y); omega
theorem own_lsub {x y : Int64} {X Y : Int} (hx : x.toInt = X) (hy : y.toInt = Y) (h1 : -9223372036854775808 ≤ X - Y) (h2 : X - Y < 9223372036854775808) : (x - y).toInt = X - Y := by
  have := c_lsub x y; have := rng64 (x - y); omega
theorem own_lmul {x y : Int64} {X Y : Int} (hx : x.toInt = X) (hy : y.toInt = Y) (h1 : -9223372036854775808 ≤ X * Y) (h2 : X * Y < 9223372036854775808) : (x * y).toInt = X * Y := by
  have := c_lmul x y; have := rng64 (x * y); subst hx hy; omega
theorem own_maskL (x m : Int64) (k : Nat) (M : Int) (hM : m.toInt = M) (hk : k ≤ 63) (hm : m.toBitVec.toNat = 2 ^ k - 1) : 0 ≤ (x &&& m).toInt ∧ (x &&& m).toInt ≤ M := by
  have h := c_maskL x m k hk hm
  have h2 := c_maskL m m k hk hm
  have e : m &&& m = m := by simp
  rw [e] at h2
  have p : (0 : Int) < ((2 ^ k : Nat) : Int) := by have := Nat.two_pow_pos k; omega
  have a1 := Int.emod_nonneg x.toInt (show ((2 ^ k : Nat) : Int) ≠ 0 by omega)
  have a2 := Int.emod_lt_of_pos x.toInt p
  have hmi : m.toInt = ((2 ^ k - 1 : Nat) : Int) := by
    have h3 : m.toInt = (m.toBitVec.toNat : Int) := by
      show m.toBitVec.toInt = _
      rw [BitVec.toInt_eq_toNat_cond, hm]
      have : 2 ^ k ≤ 2 ^ 63 := Nat.pow_le_pow_right (by decide) hk
      split <;> omega
    rw [h3, hm]
  omega
theorem own_nb (x : Int32) : nar .byte (x.toInt8.toInt32) = x.toInt8.toInt32 := by
  show (x.toInt8.toInt32).toInt8.toInt32 = _
  simp
theorem own_sel {args : Array Value} {s : State} {y z : MethodName} (hi : (Cond.instanceMethod y).before args s = true) (hp : (Cond.privateMethod y).before args s = true) (h2 : (Cond.selects y.cls z z).before args s = true) (hc : z.cls = y.cls)
    (hy : y.cls ≠ "java/lang/invoke/MethodHandle" ∧ y.cls ≠ "java/lang/invoke/VarHandle") : (Cond.selects y.cls y y).before args s = true := by
  obtain ⟨mk, meth, hn, hm, -, -⟩ := Cond.instanceMethod_spec hi
  obtain ⟨c, r, m2, -, -, f3, -, k, f4, f5⟩ := Cond.selects_spec h2
  have e1 := findClass_of_methodNamed hn
  have e2 := findClass_of_methodNamed f3
  rw [hc, e1] at e2
  have e3 : m2.cls = mk.cls := (Option.some.inj e2).symm
  have e4 := State.methodFound?_of_named hn hy
  have e5 := selectMethod_private (p := {}) (c := mk.cls) hm (Cond.privateMethod_at hp mk meth hn hm)
  rw [e3] at f4
  simp [Cond.before, Cond.holds, Cond.value, e1, e4, hn, e5, f4, f5]
def AF (Z : State) (h : Heap) (a : Addr) (ty : FieldType) (n : Nat) (g : Nat → Value) : Prop := ∃ c : Cell, Arr Z h a c ty ∧ c.slots.size = n ∧ ∀ j, j < n → c.slots[j]? = some (g j)
abbrev AI (Z : State) (h : Heap) (a : Addr) (ty : FieldType) (n : Nat) (f : Nat → Int32) : Prop := AF Z h a ty n (fun j => .int (f j))
abbrev AJ (Z : State) (h : Heap) (a : Addr) (ty : FieldType) (n : Nat) (f : Nat → Int64) : Prop := AF Z h a ty n (fun j => .long (f j))
abbrev AD (Z : State) (h : Heap) (a : Addr) (ty : FieldType) (n : Nat) (f : Nat → UInt64) : Prop := AF Z h a ty n (fun j => .double (f j))
theorem own_exaP {Z : State} {h : Heap} {a : Addr} {C : String} (E : Exa Z h a C) : ∃ c : Cell, h[a]? = some c ∧ c.vm.isStatics = false := by
  obtain ⟨c, k, h1, -, -, h4, -⟩ := E; exact ⟨c, h1, h4⟩
theorem own_arrP {Z : State} {h : Heap} {a : Addr} {ty : FieldType} {n : Nat} {g : Nat → Value} (F : AF Z h a ty n g) : ∃ c : Cell, h[a]? = some c ∧ c.vm.isStatics = false := by
  obtain ⟨c, A, -⟩ := F; exact ⟨c, A.1, A.plain⟩
theorem own_sta {Z : State} {h h' : Heap} {ws : List Addr} {C n d : String} {v : Value} (F : Sta Z h C n d v) (K : Keep h h' ws) (q : ∀ x ∈ ws, ∃ c : Cell, h[x]? = some c ∧ c.vm.isStatics = false) : Sta Z h' C n d v := by
  obtain ⟨cf, i, k, f, st, cell, h1, h2, h3, h4, h5, h6, h7⟩ := F
  refine ⟨cf, i, k, f, st, cell, h1, h2, h3, h4, K.2.1 st cell h5 (fun hm => ?_), h6, h7⟩
  obtain ⟨c, g1, g2⟩ := q st hm
  cases g1.symm.trans h5
  rw [h6] at g2; cases g2
def up {α : Type} (f : Nat → α) (i : Nat) (v : α) : Nat → α := fun j => if j = i then v else f j
def zI : Nat → Int32 := fun _ => 0
def zJ : Nat → Int64 := fun _ => 0
section Arrs
variable {Z : State} {h h' : Heap} {a b : Addr} {ty : FieldType} {n : Nat} {g g' : Nat → Value}
theorem AF.lt (F : AF Z h a ty n g) : a < h.size := by obtain ⟨c, A, -⟩ := F; exact A.lt
theorem AF.ext (F : AF Z h a ty n g) (E : Ext h h') : AF Z h' a ty n g := by obtain ⟨c, A, r⟩ := F; exact ⟨c, A.ext E, r⟩
theorem AF.other {sl : Nat} {v : Value} (F : AF Z h b ty n g) (W : Wr h h' a sl v) (q : b ≠ a) : AF Z h' b ty n g := by obtain ⟨c, A, r⟩ := F; exact ⟨c, A.other W q, r⟩
theorem AF.keep {ws : List Addr} (F : AF Z h a ty n g) (K : Keep h h' ws) (q : a ∉ ws) : AF Z h' a ty n g := by obtain ⟨c, A, r⟩ := F; exact ⟨c, ⟨K.2.1 a c A.1 q, A.2⟩, r⟩
theorem AF.re (F : AF Z h a ty n g) (q : ∀ j, j < n → g j = g' j) : AF Z h a ty n g' := by obtain ⟨c, A, S, H⟩ := F; exact ⟨c, A, S, fun j hj => by rw [H j hj, q j hj]⟩
theorem AF.at (F : AF Z h a ty n g) {j : Int32} (i : Nat) (hj : j.toInt = i) (hi : i < n) : ∃ c : Cell, Arr Z h a c ty ∧ ¬ (j < 0 ∨ c.slots.size ≤ j.toNatClampNeg) ∧ c.slots[j.toNatClampNeg]? = some (g i) := by
  obtain ⟨c, A, S, H⟩ := F
  have e : j.toNatClampNeg = i := by simp only [Int32.toNatClampNeg, hj]; omega
  refine ⟨c, A, ?_, by rw [e]; exact H i hi⟩
  rw [e, S, Int32.lt_iff_toInt_lt, hj]
  have : (0 : Int32).toInt = 0 := rfl
  omega
theorem AF.len (F : AF Z h a ty n g) : ∃ c : Cell, Arr Z h a c ty ∧ c.slots.size = n := by obtain ⟨c, A, S, -⟩ := F; exact ⟨c, A, S⟩
theorem AF.set {k : Nat} {v : Value} (F : AF Z h a ty n g) (W : Wr h h' a k v) : AF Z h' a ty n (fun j => if j = k then v else g j) := by
  obtain ⟨c, A, S, H⟩ := F
  refine ⟨_, A.same W, by rw [sz_set]; exact S, fun j hj => ?_⟩
  by_cases q : j = k
  · subst q; simp [Cell.setSlot, S, hj]
  · show _ = some (if j = k then v else g j)
    rw [if_neg q]; have := H j hj; simp only [Cell.setSlot] at this ⊢; rw [Array.getElem?_setIfInBounds_ne (Ne.symm q)]; exact this
theorem own_tn {j : Int32} {i : Nat} (hj : j.toInt = i) : j.toNatClampNeg = i := by simp only [Int32.toNatClampNeg, hj]; omega
theorem AF.setI {f : Nat → Int32} {j : Int32} {v : Int32} (F : AI Z h a ty n f) (W : Wr h h' a j.toNatClampNeg (.int v)) (i : Nat) (hj : j.toInt = i) : AI Z h' a ty n (up f i v) := by
  rw [own_tn hj] at W
  exact (AF.set F W).re fun k _ => by by_cases q : k = i <;> simp [up, q]
theorem AF.setJ {f : Nat → Int64} {j : Int32} {v : Int64} (F : AJ Z h a ty n f) (W : Wr h h' a j.toNatClampNeg (.long v)) (i : Nat) (hj : j.toInt = i) : AJ Z h' a ty n (up f i v) := by
  rw [own_tn hj] at W
  exact (AF.set F W).re fun k _ => by by_cases q : k = i <;> simp [up, q]
theorem AF.setD {f : Nat → UInt64} {j : Int32} {v : UInt64} (F : AD Z h a ty n f) (W : Wr h h' a j.toNatClampNeg (.double v)) (i : Nat) (hj : j.toInt = i) : AD Z h' a ty n (up f i v) := by
  rw [own_tn hj] at W
  exact (AF.set F W).re fun k _ => by by_cases q : k = i <;> simp [up, q]
theorem AF.new {k : ClassId} {z : Int32} (A : Arr Z h a (newA k ty z) ty) (hz : z.toInt = n) : AF Z h a ty n (fun _ => defaultValue ty) :=
  ⟨_, A, by rw [sz_new]; exact own_tn hz, fun j hj => by simp [newA, own_tn hz, hj]⟩
end Arrs
end Jvm.RoadKit
namespace Jvm.Pilot.@@N@@
open Jvm Jvm.ClassFile Sem Op Lib Jvm.Free Jvm.Stand Jvm.LawKit Jvm.RoadKit Bundle Jvm.Pilot.@@N@@.Jvm.D
theorem own_wS {Z : State} {a0 : Array Value} (hw : ∀ d ∈ tables_1, d.before a0 Z = true) : ∀ a ∈ Bundle.stringAtoms, a.before a0 Z = true := by
  intro a ha
  simp only [Bundle.stringAtoms, List.mem_cons, List.not_mem_nil, or_false] at ha
  rcases ha with rfl | rfl | rfl | rfl | rfl | rfl | rfl
  · exact hw _ (List.mem_of_getElem? (i := 16) rfl)
  · exact hw _ (List.mem_of_getElem? (i := 17) rfl)
  · exact hw _ (List.mem_of_getElem? (i := 18) rfl)
  · exact hw _ (List.mem_of_getElem? (i := 19) rfl)
  · exact hw _ (List.mem_of_getElem? (i := 20) rfl)
  · exact hw _ (List.mem_of_getElem? (i := 21) rfl)
  · exact hw _ (List.mem_of_getElem? (i := 22) rfl)
def own_p2 (n : Nat) : Nat := 2 ^ n
theorem own_p2pos (n : Nat) : 0 < own_p2 n := Nat.two_pow_pos n
theorem own_p2mul {a j k : Nat} (h : a + j = k + 35) : 2 ^ a * 2 ^ j = own_p2 k * 2 ^ 35 := by
  unfold own_p2
  rw [← Nat.pow_add, ← Nat.pow_add, h]
theorem own_p2le {j k : Nat} (h : j ≤ k) : 2 ^ j ≤ own_p2 k := Nat.pow_le_pow_right (by decide) h
def own_W : Nat := own_p2 1065
theorem own_Wp : 0 < own_W := own_p2pos 1065
theorem own_qmin : FP.Core.b64.qmin = -1074 := by decide
theorem own_qmax : FP.Core.b64.qmax = 971 := by decide
abbrev own_V (U L : Nat) : FP.Core.Datum := FP.Core.roundRatio FP.Core.b64 false U L 0
abbrev own_N (c : Nat) (q : Int) : Nat := c * 2 ^ (q + 1100).toNat
theorem own_scale {m L U P Q W : Nat} (h1 : 2 * (U * P) ≤ (2 * m + 1) * L) (h2 : 2 * m * L ≤ 2 * (U * P) + L) {R : Nat} (hP : P * Q = W * R) (hQ : Q ≤ W) :
    2 * (m * Q) * L ≤ 2 * (U * (W * R)) + L * W ∧ 2 * (U * (W * R)) ≤ 2 * (m * Q) * L + L * W := by
  have e1 := Nat.mul_le_mul_right Q h1
  have e2 := Nat.mul_le_mul_right Q h2
  have e3 : L * Q ≤ L * W := Nat.mul_le_mul_left L hQ
  have a1 : 2 * (U * P) * Q = 2 * (U * (W * R)) := by rw [← hP]; simp only [Nat.mul_assoc]
  have a2 : (2 * m + 1) * L * Q = 2 * (m * Q) * L + L * Q := by rw [Nat.add_mul, Nat.add_mul, Nat.one_mul]; congr 1; simp only [Nat.mul_assoc, Nat.mul_comm L Q]
  have a3 : 2 * m * L * Q = 2 * (m * Q) * L := by simp only [Nat.mul_assoc, Nat.mul_comm L Q]
  have a4 : (2 * (U * P) + L) * Q = 2 * (U * (W * R)) + L * Q := by rw [Nat.add_mul, a1]
  rw [a1, a2] at e1
  rw [a3, a4] at e2
  omega
theorem own_err (U L : Nat) (hL : 0 < L) (hU : U < 2 ^ 17) : ∃ (c : Nat) (q : Int), own_V U L = .fin false c q ∧ -1074 ≤ q ∧
    2 * own_N c q * L ≤ 2 * (U * (own_W * 2 ^ 35)) + L * own_W ∧ 2 * (U * (own_W * 2 ^ 35)) ≤ 2 * own_N c q * L + L * own_W := by
  by_cases h0 : U = 0
  · subst h0
    refine ⟨0, FP.Core.b64.qmin, by unfold own_V FP.Core.roundRatio; rw [if_pos rfl], by rw [own_qmin]; exact Int.le_refl _, ?_, ?_⟩
    · simp [own_N]
    · simp
  have hlead : FP.Core.leading U L ≤ 16 := by
    have h1 := (Nat.log2_lt h0).mpr hU
    unfold FP.Core.leading
    dsimp only
    split <;> omega
  have hq1 := FP.Core.quantum_ge FP.Core.b64 U L 0
  have hq2 : FP.Core.quantum FP.Core.b64 U L 0 ≤ -36 := by
    unfold FP.Core.quantum
    rw [own_qmin, show ((FP.Core.b64.p : Nat) : Int) = 53 from rfl]
    omega
  rw [own_qmin] at hq1
  have hm := FP.Core.nearest_units_le (f := FP.Core.b64) (A := U) (B := L) (by omega) hL 0
  have hsp := FP.Core.nearest_spec (FP.Core.unitsNum U 0 (FP.Core.quantum FP.Core.b64 U L 0)) (FP.Core.unitsDen L 0 (FP.Core.quantum FP.Core.b64 U L 0)) (FP.Core.unitsDen_pos hL _ _)
  have hV : own_V U L = FP.Core.settle FP.Core.b64 false (FP.Core.nearest (FP.Core.unitsNum U 0 (FP.Core.quantum FP.Core.b64 U L 0)) (FP.Core.unitsDen L 0 (FP.Core.quantum FP.Core.b64 U L 0))) (FP.Core.quantum FP.Core.b64 U L 0) := by
    unfold own_V FP.Core.roundRatio
    rw [if_neg h0]
    rfl
  rw [hV]
  generalize FP.Core.nearest (FP.Core.unitsNum U 0 (FP.Core.quantum FP.Core.b64 U L 0)) (FP.Core.unitsDen L 0 (FP.Core.quantum FP.Core.b64 U L 0)) = m at hm hsp
  generalize FP.Core.quantum FP.Core.b64 U L 0 = q at hq1 hq2 hsp
  unfold FP.Core.unitsNum FP.Core.unitsDen at hsp
  rw [show (q - 0).toNat = 0 by omega, Nat.pow_zero, Nat.mul_one] at hsp
  have hP : 2 ^ (0 - q).toNat * 2 ^ (q + 1100).toNat = own_W * 2 ^ 35 := by
    unfold own_W
    exact own_p2mul (k := 1065) (by omega)
  have hQ : 2 ^ (q + 1100).toNat ≤ own_W := by
    unfold own_W
    exact own_p2le (k := 1065) (by omega)
  have hfin := own_scale hsp.1 hsp.2.1 hP hQ
  rw [show (2 : Nat) ^ FP.Core.b64.p = 2 ^ 53 from rfl] at hm
  unfold FP.Core.settle
  by_cases hc : m < 2 ^ FP.Core.b64.p
  · rw [if_pos hc]
    unfold FP.Core.bound
    rw [own_qmax, if_pos (by omega)]
    exact ⟨m, q, rfl, hq1, hfin.1, hfin.2⟩
  · rw [if_neg hc]
    unfold FP.Core.bound
    rw [own_qmax, if_pos (by omega)]
    refine ⟨FP.Core.b64.tails, q + 1, rfl, by omega, ?_⟩
    have hmm : m = 2 ^ 53 := Nat.le_antisymm hm (Nat.le_of_not_lt hc)
    have hN : own_N FP.Core.b64.tails (q + 1) = m * 2 ^ (q + 1100).toNat := by
      show 2 ^ 52 * 2 ^ (q + 1 + 1100).toNat = _
      have e2 : (2 : Nat) ^ 52 * 2 ^ 1 = 2 ^ 53 := by decide
      rw [hmm, show (q + 1 + 1100).toNat = 1 + (q + 1100).toNat by omega, Nat.pow_add 2 1 (q + 1100).toNat, ← Nat.mul_assoc, e2]
    rw [hN]
    exact hfin
theorem own_ord (c d : Nat) (q r : Int) (hq : -1074 ≤ q) (hr : -1074 ≤ r) : FP.Core.order (.fin false c q) (.fin false d r) = some (compare ((own_N c q : Nat) : Int) ((own_N d r : Nat) : Int)) := by
  simp only [FP.Core.order]
  have hk : (0 : Int) < ((2 ^ (min q r + 1100).toNat : Nat) : Int) := by have := Nat.two_pow_pos (min q r + 1100).toNat; omega
  have e : ∀ (c : Nat) (q' : Int), min q r ≤ q' → ((own_N c q' : Nat) : Int) = FP.Core.signed false (FP.Core.inUnits c q' (min q r)) * ((2 ^ (min q r + 1100).toNat : Nat) : Int) := by
    intro c q' h
    have e1 : own_N c q' = FP.Core.inUnits c q' (min q r) * 2 ^ (min q r + 1100).toNat := by
      unfold own_N FP.Core.inUnits
      rw [Nat.mul_assoc, ← Nat.pow_add]
      congr 2
      omega
    rw [e1, Int.natCast_mul]
    rfl
  rw [e c q (by omega), e d r (by omega), FP.Core.compare_mul_pos _ _ _ hk]
theorem own_cmpI {a b : Nat} (h : a < b) : compare ((a : Nat) : Int) (b : Int) = .lt ∧ compare ((b : Nat) : Int) (a : Int) = .gt := by
  constructor
  · simp only [compare, compareOfLessAndEq]
    rw [if_pos (by omega)]
  · simp only [compare, compareOfLessAndEq]
    rw [if_neg (by omega), if_neg (by omega)]
theorem own_arith {x y u u' lw w : Nat} (hp : 0 < w) (h1 : x ≤ y) (h2 : u + w * 2 ^ 35 ≤ u') (h3 : lw ≤ 65536 * w) (a1 : 2 * y ≤ 2 * u + lw) (b2 : 2 * u' ≤ 2 * x + lw) : False := by omega
theorem own_lt (U U' L : Nat) (h : U < U') (hL : 0 < L) (hL2 : L < 65536) (hU : U' < 2 ^ 17) : FP.Core.order (own_V U L) (own_V U' L) = some .lt ∧ FP.Core.order (own_V U' L) (own_V U L) = some .gt := by
  obtain ⟨c, q, e1, hq, a1, a2⟩ := own_err U L hL (by omega)
  obtain ⟨d, r, e2, hr, b1, b2⟩ := own_err U' L hL hU
  have hlt : own_N c q < own_N d r := by
    apply Nat.lt_of_not_le
    intro hle
    have h1 : own_N d r * L ≤ own_N c q * L := Nat.mul_le_mul_right L hle
    have h2 : (U + 1) * (own_W * 2 ^ 35) ≤ U' * (own_W * 2 ^ 35) := Nat.mul_le_mul_right _ h
    have h3 : L * own_W ≤ 65536 * own_W := Nat.mul_le_mul_right _ (Nat.le_of_lt hL2)
    rw [Nat.add_mul, Nat.one_mul] at h2
    rw [Nat.mul_assoc 2 (own_N c q) L] at a1
    rw [Nat.mul_assoc 2 (own_N d r) L] at b2
    exact own_arith own_Wp h1 h2 h3 a1 b2
  rw [e1, e2, own_ord _ _ _ _ hq hr, own_ord _ _ _ _ hr hq]
  exact ⟨congrArg some (own_cmpI hlt).1, congrArg some (own_cmpI hlt).2⟩
theorem own_eqV (U L : Nat) (hL : 0 < L) (hU : U < 2 ^ 17) : FP.Core.order (own_V U L) (own_V U L) = some .eq := by
  obtain ⟨c, q, e1, hq, -, -⟩ := own_err U L hL hU
  rw [e1, own_ord _ _ _ _ hq hq]
  congr 1
  simp only [compare, compareOfLessAndEq]
  rw [if_neg (by omega)]
  simp
theorem own_whole (n : Nat) : FP.Core.round FP.Core.b64 (FP.Core.ofInt (n : Int)) = own_V n 1 := by
  unfold FP.Core.ofInt
  rw [show decide ((n : Int) < 0) = false by simp, Int.natAbs_natCast]
  rfl
theorem own_i2d {X : Int32} {n : Nat} (h : X.toInt = n) : FP.Core.val64 (FP.i2d X) = own_V n 1 := by
  rw [show FP.i2d X = FP.Core.i2d X from rfl, FP.Core.val64_i2d, h, own_whole]
theorem own_l2d {X : Int64} {n : Nat} (h : X.toInt = n) : FP.Core.val64 (FP.l2d X) = own_V n 1 := by
  rw [show FP.l2d X = FP.Core.l2d X from rfl, FP.Core.val64_l2d, h, own_whole]
theorem own_V1 (n : Nat) (hn : n ≤ 2 ^ 53) : ∃ (c : Nat) (q : Int), own_V n 1 = .fin false c q ∧ n * 2 ^ (0 - q).toNat = c * 1 * 2 ^ (q - 0).toNat := by
  obtain ⟨c, q, hf, he⟩ := FP.Core.natFit FP.Core.good_b64 FP.Core.wide_b64 false (n := n) hn
  exact ⟨c, q, FP.Core.roundRatio_exact FP.Core.good_b64 (by decide) hf he, he⟩
theorem own_cancel {c L D1 U d D2 Mq Pr Pq Mr : Nat} (h : Pq * Mr * D2 = Mq * Pr * D1) (h1 : U * Mq = c * Pq) (h2 : L * Mr = d * Pr) (hp : 0 < Mq * Pr) : c * L * D1 = U * d * D2 := by
  apply Nat.eq_of_mul_eq_mul_right hp
  calc c * L * D1 * (Mq * Pr) = c * L * (Mq * Pr * D1) := by simp only [Nat.mul_assoc, Nat.mul_comm, Nat.mul_left_comm]
    _ = c * L * (Pq * Mr * D2) := by rw [h]
    _ = (c * Pq) * (L * Mr) * D2 := by simp only [Nat.mul_assoc, Nat.mul_comm, Nat.mul_left_comm]
    _ = (U * Mq) * (d * Pr) * D2 := by rw [h1, h2]
    _ = U * d * D2 * (Mq * Pr) := by simp only [Nat.mul_assoc, Nat.mul_comm, Nat.mul_left_comm]
theorem own_div {a b : UInt64} {n m : Nat} (ha : FP.Core.val64 a = own_V n 1) (hb : FP.Core.val64 b = own_V m 1) (hn : n ≤ 2 ^ 53) (hm : m ≤ 2 ^ 53) (h0 : 0 < m) : FP.Core.val64 (FP.ddiv a b) = own_V n m := by
  obtain ⟨c, q, e1, f1⟩ := own_V1 n hn
  obtain ⟨d, r, e2, f2⟩ := own_V1 m hm
  have hd : d ≠ 0 := by
    rintro rfl
    have h := Nat.mul_pos h0 (Nat.two_pow_pos (0 - r).toNat)
    rw [f2] at h
    simp at h
  rw [show FP.ddiv a b = FP.Core.ddiv a b from rfl, FP.Core.val64_ddiv, ha, hb, e1, e2]
  show (if d = 0 then _ else FP.Core.roundRatio FP.Core.b64 (false != false) c d (q - r)) = _
  rw [if_neg hd]
  refine FP.Core.roundRatio_congr (Nat.pos_of_ne_zero hd) h0 ?_
  rw [Nat.mul_one] at f1 f2
  refine own_cancel (Pq := 2 ^ (q - 0).toNat) (Mq := 2 ^ (0 - q).toNat) (Pr := 2 ^ (r - 0).toNat) (Mr := 2 ^ (0 - r).toNat) ?_ f1 f2 (Nat.mul_pos (Nat.two_pow_pos _) (Nat.two_pow_pos _))
  rw [← Nat.pow_add, ← Nat.pow_add, ← Nat.pow_add, ← Nat.pow_add]
  congr 1
  omega
theorem own_mulV (n m k : Nat) (hm : 0 < m) (hk : 0 < k) : own_V (n * k) (m * k) = own_V n m := by
  refine FP.Core.roundRatio_congr (Nat.mul_pos hm hk) hm ?_
  simp only [Nat.mul_assoc, Nat.mul_comm, Nat.mul_left_comm]
theorem own_intV (n m : Nat) (hm : 0 < m) : own_V (n * m) m = own_V n 1 := by
  have := own_mulV n 1 m (by decide) hm
  rwa [Nat.one_mul] at this
theorem own_cv {a b : UInt64} {x y : FP.Core.Datum} {r : Ordering} (ha : FP.Core.val64 a = x) (hb : FP.Core.val64 b = y) (h : FP.Core.order x y = some r) (o : CmpOp) : cmpValue (FP.dcmp a b) o = cmpValue (some r) o := by
  have : FP.dcmp a b = FP.Core.order (FP.Core.val64 a) (FP.Core.val64 b) := rfl
  rw [this, ha, hb, h]
theorem own_fi (x : Int32) : ¬ ((cmpValue (FP.dcmp (FP.i2d x) (9218868437227405312 : UInt64)) .l) = (0 : Int32)) := by
  rw [dcmp_pinf (Jvm.Free.Fl.i2d_fin x)]; decide
theorem own_fl (x : Int64) : ¬ ((cmpValue (FP.dcmp (FP.l2d x) (9218868437227405312 : UInt64)) .l) = (0 : Int32)) := by
  rw [dcmp_pinf (Jvm.Free.Fl.l2d_fin x)]; decide
theorem own_lc {a : Int64} (hb : B53 a) : cmpValue (FP.dcmp (FP.l2d a) FP.dconst0) .l = lcmpW a 0 := by
  rw [show FP.dconst0 = FP.l2d 0 from l2d_zero.symm]
  exact dcmpV_w hb ⟨by decide, by decide⟩ .l
theorem own_b53 (x : Int32) : B53 x.toInt64 := by
  have h1 := x.toInt_lt
  have h2 := x.le_toInt
  constructor <;> rw [Int32.toInt_toInt64] <;> omega
theorem own_gl {a : Int64} (h : 0 ≤ a.toInt) (h2 : a.toInt < 9007199254740992) : ¬ ((cmpValue (FP.dcmp (FP.l2d a) FP.dconst0) .l) < (0 : Int32)) := by
  rw [own_lc ⟨by omega, h2⟩]
  unfold lcmpW
  split
  · decide
  · split
    · decide
    · rename_i h3 h4
      exfalso
      rw [gt_iff_lt, Int64.lt_iff_toInt_lt, show (0 : Int64).toInt = 0 from rfl] at h3
      rw [← Int64.toInt_inj, show (0 : Int64).toInt = 0 from rfl] at h4
      omega
theorem own_gi {x : Int32} (h : 0 ≤ x.toInt) : ¬ ((cmpValue (FP.dcmp (FP.i2d x) FP.dconst0) .l) < (0 : Int32)) := by
  rw [i2d_w]
  have := x.toInt_lt
  exact own_gl (by rw [Int32.toInt_toInt64]; exact h) (by rw [Int32.toInt_toInt64]; omega)
theorem own_z {x : Int32} (h : x = (0 : Int32)) : (cmpValue (FP.dcmp (FP.i2d x) FP.dconst0) .l) = (0 : Int32) := by
  rw [h]; decide +kernel
theorem own_n {x : Int32} (h : ¬ x = (0 : Int32)) : ¬ ((cmpValue (FP.dcmp (FP.i2d x) FP.dconst0) .l) = (0 : Int32)) := by
  rw [i2d_w, own_lc (own_b53 x)]
  have q : ¬ x.toInt64 = 0 := by
    rw [← Int64.toInt_inj, Int32.toInt_toInt64, show (0 : Int64).toInt = (0 : Int32).toInt from rfl, Int32.toInt_inj]
    exact h
  simp only [lcmpW, if_neg q]
  split <;> decide
theorem own_c64 : (cmpValue (FP.dcmp FP.dconst0 FP.dconst0) .l) = (0 : Int32) := by decide +kernel
theorem own_nni {x y : Int32} (h : ¬ y = (0 : Int32)) : Jvm.Free.Fl.NoNaN64 (FP.ddiv (FP.i2d x) (FP.i2d y)) := Jvm.Free.Fl.ddiv_out (Jvm.Free.Fl.i2d_fin x).noNaN (Jvm.Free.Fl.i2d_fin y) (Jvm.Free.Fl.i2d_nz h)
theorem own_nnl {x : Int64} {y : Int32} (h : ¬ y = (0 : Int32)) : Jvm.Free.Fl.NoNaN64 (FP.ddiv (FP.l2d x) (FP.i2d y)) := Jvm.Free.Fl.ddiv_out (Jvm.Free.Fl.l2d_fin x).noNaN (Jvm.Free.Fl.i2d_fin y) (Jvm.Free.Fl.i2d_nz h)
theorem own_dV {X Y : Int32} {n m : Nat} (hX : X.toInt = n) (hY : Y.toInt = m) (h0 : 0 < m) : FP.Core.val64 (FP.ddiv (FP.i2d X) (FP.i2d Y)) = own_V n m := by
  have h1 := X.toInt_lt
  have h2 := Y.toInt_lt
  exact own_div (own_i2d hX) (own_i2d hY) (by omega) (by omega) h0
theorem own_f86 {X Y I : Int32} {n m : Nat} (hX : X.toInt = n) (hY : Y.toInt = m) (hI : I.toInt = ((n / m : Nat) : Int)) (h0 : 0 < m) (hm : m < 65536) (hn : n < 65536) : ¬ ((cmpValue (FP.dcmp (FP.ddiv (FP.i2d X) (FP.i2d Y)) (FP.i2d I)) .l) < (0 : Int32)) := by
  have e := own_dV hX hY h0
  have i : FP.Core.val64 (FP.i2d I) = own_V (n / m * m) m := by rw [own_intV _ _ h0]; exact own_i2d hI
  have hle := Nat.div_mul_le_self n m
  by_cases q : n / m * m = n
  · rw [q] at i
    rw [own_cv e i (own_eqV n m h0 (by omega))]
    decide
  · rw [own_cv e i (own_lt (n / m * m) n m (Nat.lt_of_le_of_ne hle q) h0 hm (by omega)).2]
    decide
theorem own_f97 {X Y I : Int32} {n m : Nat} (hX : X.toInt = n) (hY : Y.toInt = m) (hI : I.toInt = ((n / m + 1 : Nat) : Int)) (h0 : 0 < m) (hm : m < 65536) (hn : n < 65536) : (cmpValue (FP.dcmp (FP.ddiv (FP.i2d X) (FP.i2d Y)) (FP.i2d I)) .g) < (0 : Int32) := by
  have e := own_dV hX hY h0
  have i : FP.Core.val64 (FP.i2d I) = own_V ((n / m + 1) * m) m := by rw [own_intV _ _ h0]; exact own_i2d hI
  have hle := Nat.div_mul_le_self n m
  have h1 := Nat.div_add_mod n m
  have h2 := Nat.mod_lt n h0
  have e3 : (n / m + 1) * m = n / m * m + m := by rw [Nat.add_mul, Nat.one_mul]
  rw [Nat.mul_comm] at h1
  rw [own_cv e i (own_lt n ((n / m + 1) * m) m (by omega) h0 hm (by omega)).1]
  decide
theorem own_f182 {X : Int64} {Y Q : Int32} {q m : Nat} (hX : X.toInt = ((q * m : Nat) : Int)) (hY : Y.toInt = m) (hQ : Q.toInt = q) (h0 : 0 < m) (hm : m < 65536) (hq : q < 65536) : (cmpValue (FP.dcmp (FP.ddiv (FP.l2d X) (FP.i2d Y)) (FP.i2d Q)) .l) = (0 : Int32) := by
  have h1 : q * m ≤ 65536 * 65536 := Nat.mul_le_mul (Nat.le_of_lt hq) (Nat.le_of_lt hm)
  have e := own_div (own_l2d hX) (own_i2d hY) (by omega) (by omega) h0
  rw [own_intV _ _ h0] at e
  rw [own_cv e (own_i2d hQ) (own_eqV q 1 (by decide) (by omega))]
  rfl
theorem own_f197 {A B X Y : Int32} {n m k : Nat} (hA : A.toInt = ((n * k : Nat) : Int)) (hB : B.toInt = ((m * k : Nat) : Int)) (hX : X.toInt = n) (hY : Y.toInt = m) (h0 : 0 < m) (hk : 0 < k) (hn : n < 65536) : (cmpValue (FP.dcmp (FP.ddiv (FP.i2d A) (FP.i2d B)) (FP.ddiv (FP.i2d X) (FP.i2d Y))) .l) = (0 : Int32) := by
  have e := own_dV hA hB (Nat.mul_pos h0 hk)
  rw [own_mulV _ _ _ h0 hk] at e
  rw [own_cv e (own_dV hX hY h0) (own_eqV n m h0 (by omega))]
  rfl
theorem own_f224 {A X Y : Int32} {n n' m : Nat} (hA : A.toInt = n') (hX : X.toInt = n) (hY : Y.toInt = m) (h0 : 0 < m) (hm : m < 65536) (hn : n' < 131072) (h : n < n') : (0 : Int32) < (cmpValue (FP.dcmp (FP.ddiv (FP.i2d A) (FP.i2d Y)) (FP.ddiv (FP.i2d X) (FP.i2d Y))) .l) := by
  rw [own_cv (own_dV hA hY h0) (own_dV hX hY h0) (own_lt n n' m h h0 hm (by omega)).2]
  decide
theorem own_f224e {A X Y : Int32} (h : A = X) (hn : Jvm.Free.Fl.NoNaN64 (FP.ddiv (FP.i2d X) (FP.i2d Y))) : ¬ ((0 : Int32) < (cmpValue (FP.dcmp (FP.ddiv (FP.i2d A) (FP.i2d Y)) (FP.ddiv (FP.i2d X) (FP.i2d Y))) .l)) := by
  rw [h, dcmpV_self hn]
  decide
theorem ef_2 (m : MethodId) (ra : Addr) : entryFrame m #[(.ref ra)] 1 = mkF m 0 #[.val (.ref ra)] [] := by first | (simp [entryFrame, mkF, argsToLocals, Value.category]; done) | rfl
theorem d2_0 : decode jdk_30_method_1_code 0 = .ok (.aload_n 0, 1) := by decide +kernel
theorem d2_1 : decode jdk_30_method_1_code 1 = .ok (.invokespecial 1, 3) := by decide +kernel
theorem d2_4 : decode jdk_30_method_1_code 4 = .ok (.return_, 1) := by decide +kernel
theorem pn_java_lang_Record : plainName "java/lang/Record" = true := by first | (simp [plainName, overriddenIn]; done) | decide +kernel
def Q2 (Z : State) (ra : Addr) (h0 : Heap) (n0 : Nat) (v : Option Value) (h : Heap) (L : List Loc) : Prop := v = none ∧ Fr n0 L ∧ h = h0
set_option maxRecDepth 65536 in
set_option maxHeartbeats 40000000 in
theorem rm2 (l : Launch) (Z : State) (a0 : Array Value) (hw : ∀ d ∈ tables_1, d.before a0 Z = true) (ws : List Jvm.Cond) (ra : Addr) (h0 : Heap) (n0 : Nat) (Z0 : n0 ≤ h0.size) :
    MetFree l (⟨"java/lang/Record", "<init>", "()V"⟩ : MethodName) (head1 (Jvm.Cond.code (⟨"java/lang/Record", "<init>", "()V"⟩ : MethodName) jdk_30_method_1_code 1 none :: ws) ({ frames := 1, cells := 0, slots := 0, locals := 12 } : Room)) (fun a U => a = #[(.ref ra)] ∧ Z.Warmed39 U.vm ∧ U.heap = h0) (fun _ _ _ _ _ => True) (fun _ U o U' => ∃ v L, o = .returned v ∧ Q2 Z ra h0 n0 v U'.heap L ∧ FrameEnd U o U' L ({ frames := 1, cells := 0, slots := 0, locals := 12 } : Room).cells ({ frames := 1, cells := 0, slots := 0, locals := 12 } : Room).slots) := by
  refine MetFree.of_bodySF (plainFor_of_name pn_java_lang_Record) hisR ?_
  intro p e s m args below meth c s₁ Bd hml0 hP hK
  obtain ⟨rfl, hZ, hh⟩ := hP
  have hx := Bd.exec
  have hby := Bd.bytes
  have hml : c.maxLocals = 1 := hml0
  have hown : s.vm.findClass "java/lang/Record" = some m.cls := findClass_of_methodNamed Bd.named
  have hnm := (name_of_methodNamed Bd.named Bd.method).1
  have X0 : Stand p l e ({ frames := 1, cells := 0, slots := 0, locals := 12 } : Room) s m #[(.ref ra)] below meth c s₁ [] 0 0 := Stand.of_body Bd
  have e0 : s₁.heap = h0 := by rw [← hh, Bd.state]; rfl
  have N0 := Fr.nil n0
  have K0 : Keep h0 h0 [] := Keep.refl h0 _
  have pre0 : ∀ t, Steps p.tables e below (s₁.setTop (mkF m 0 #[.val (.ref ra)] [])) t → Steps p.tables e below (s₁.setTop (entryFrame m #[(.ref ra)] 1)) t := fun t k => castTop (ef_2 m ra) k
  obtain ⟨T1, X1, e1, st1⟩ := initO X0 hx hZ hown (hw _ (List.mem_of_getElem? (i := 12) rfl)) (hw _ (List.mem_of_getElem? (i := 13) rfl)) (hw _ (List.mem_of_getElem? (i := 14) rfl)) e0 (g := (mkF m 1 #[.val (.ref ra)] [(.ref ra)])) rfl (by rw [hml]; rfl) rfl (hb hby d2_1) (by decide) (W := 0) (by show 2 * 0 + _ ≤ _; exact Nat.le_of_eq rfl) (by decide)
  obtain ⟨fs, hr, hrun, hended, hW, hsame⟩ := X1.leave (v := none) (fun _ => rfl) (hlocks := Bd.notSynchronized)
  refine ⟨_, _, pre0 _ ?_, hrun, hended, _, _, rfl, ?_, ⟨_, rfl⟩, hW, hsame.mono (by decide) (by decide)⟩
  · show Steps p.tables e below (s₁.setTop (mkF m 0 #[.val (.ref ra)] [])) _
    refine XS.aloadN X0.here hx rfl (hb hby d2_0) rfl rfl ?_
    show Steps p.tables e below (s₁.setTop (mkF m 1 #[.val (.ref ra)] [(.ref ra)])) _
    refine st1 _ ?_
    show Steps p.tables e below (T1.setTop (mkF m 4 #[.val (.ref ra)] [])) _
    exact X1.returnOut hx Bd.returns (hb hby d2_4) hr
  · show Q2 Z ra h0 n0 _ T1.heap _
    rw [e1]
    exact ⟨rfl, N0, rfl⟩
theorem ef_4 (m : MethodId) (rs : Addr) (dv : UInt64) : entryFrame m #[(.ref rs), (.double dv)] 3 = mkF m 0 #[.val (.ref rs), .val (.double dv), .second] [] := by first | (simp [entryFrame, mkF, argsToLocals, Value.category]; done) | rfl
theorem d4_0 : decode prog_17_method_2_code 0 = .ok (.dload_n 1, 1) := by decide +kernel
theorem d4_1 : decode prog_17_method_2_code 1 = .ok (.ldc2_w 9, 3) := by decide +kernel
theorem d4_4 : decode prog_17_method_2_code 4 = .ok (.dcmp .l, 1) := by decide +kernel
theorem d4_5 : decode prog_17_method_2_code 5 = .ok (.ifCond .ne 16, 3) := by decide +kernel
theorem d4_21 : decode prog_17_method_2_code 21 = .ok (.dload_n 1, 1) := by decide +kernel
theorem d4_22 : decode prog_17_method_2_code 22 = .ok (.dconst 0, 1) := by decide +kernel
theorem d4_23 : decode prog_17_method_2_code 23 = .ok (.dcmp .l, 1) := by decide +kernel
theorem d4_24 : decode prog_17_method_2_code 24 = .ok (.ifCond .ge 16, 3) := by decide +kernel
theorem d4_40 : decode prog_17_method_2_code 40 = .ok (.return_, 1) := by decide +kernel
theorem pn_com_example_bundles_to_brokers_bundlestobrokers_model_Quantities : plainName "com/example/bundles_to_brokers/bundlestobrokers/model/Quantities" = true := by first | (simp [plainName, overriddenIn]; done) | decide +kernel
def Q4 (Z : State) (rs : Addr) (dv : UInt64) (h0 : Heap) (n0 : Nat) (v : Option Value) (h : Heap) (L : List Loc) : Prop := v = none ∧ Fr n0 L ∧ h = h0
set_option maxRecDepth 65536 in
set_option maxHeartbeats 40000000 in
theorem rm4 (l : Launch) (Z : State) (a0 : Array Value) (hw : ∀ d ∈ tables_1, d.before a0 Z = true) (ws : List Jvm.Cond) (rs : Addr) (dv : UInt64) (h0 : Heap) (n0 : Nat) (Z0 : n0 ≤ h0.size) (hc5 : ¬ ((cmpValue (FP.dcmp dv (9218868437227405312 : UInt64)) .l) = (0 : Int32))) (hc24 : ¬ ((cmpValue (FP.dcmp dv FP.dconst0) .l) < (0 : Int32))) :
    MetFree l (⟨"com/example/bundles_to_brokers/bundlestobrokers/model/Quantities", "checkNonNegative", "(Ljava/lang/String;D)V"⟩ : MethodName) (head1 (Jvm.Cond.code (⟨"com/example/bundles_to_brokers/bundlestobrokers/model/Quantities", "checkNonNegative", "(Ljava/lang/String;D)V"⟩ : MethodName) prog_17_method_2_code 3 none :: ws) ({ frames := 0, cells := 0, slots := 0, locals := 0 } : Room)) (fun a U => a = #[(.ref rs), (.double dv)] ∧ Z.Warmed39 U.vm ∧ U.heap = h0) (fun _ _ _ _ _ => True) (fun _ U o U' => ∃ v L, o = .returned v ∧ Q4 Z rs dv h0 n0 v U'.heap L ∧ FrameEnd U o U' L ({ frames := 0, cells := 0, slots := 0, locals := 0 } : Room).cells ({ frames := 0, cells := 0, slots := 0, locals := 0 } : Room).slots) := by
  refine MetFree.of_bodySF (plainFor_of_name pn_com_example_bundles_to_brokers_bundlestobrokers_model_Quantities) hisR ?_
  intro p e s m args below meth c s₁ Bd hml0 hP hK
  obtain ⟨rfl, hZ, hh⟩ := hP
  have hx := Bd.exec
  have hby := Bd.bytes
  have hml : c.maxLocals = 3 := hml0
  have hown : s.vm.findClass "com/example/bundles_to_brokers/bundlestobrokers/model/Quantities" = some m.cls := findClass_of_methodNamed Bd.named
  have hnm := (name_of_methodNamed Bd.named Bd.method).1
  have X0 : Stand p l e ({ frames := 0, cells := 0, slots := 0, locals := 0 } : Room) s m #[(.ref rs), (.double dv)] below meth c s₁ [] 0 0 := Stand.of_body Bd
  have e0 : s₁.heap = h0 := by rw [← hh, Bd.state]; rfl
  have N0 := Fr.nil n0
  have K0 : Keep h0 h0 [] := Keep.refl h0 _
  have pre0 : ∀ t, Steps p.tables e below (s₁.setTop (mkF m 0 #[.val (.ref rs), .val (.double dv), .second] [])) t → Steps p.tables e below (s₁.setTop (entryFrame m #[(.ref rs), (.double dv)] 3)) t := fun t k => castTop (ef_4 m rs dv) k
  obtain ⟨fs, hr, hrun, hended, hW, hsame⟩ := X0.leave (v := none) (fun _ => rfl) (hlocks := Bd.notSynchronized)
  refine ⟨_, _, pre0 _ ?_, hrun, hended, _, _, rfl, ?_, ⟨_, rfl⟩, hW, hsame.mono (by decide) (by decide)⟩
  · show Steps p.tables e below (s₁.setTop (mkF m 0 #[.val (.ref rs), .val (.double dv), .second] [])) _
    refine XS.dloadN X0.here hx rfl (hb hby d4_0) rfl ?_
    show Steps p.tables e below (s₁.setTop (mkF m 1 #[.val (.ref rs), .val (.double dv), .second] [(.double dv)])) _
    refine X0.ldc2DoubleC hx hown (mvT hZ (hw _ (List.mem_of_getElem? (i := 27) rfl))) (g := (mkF m 1 #[.val (.ref rs), .val (.double dv), .second] [(.double dv)])) rfl (hb hby d4_1) _ ?_
    show Steps p.tables e below (s₁.setTop (mkF m 4 #[.val (.ref rs), .val (.double dv), .second] [(.double (9218868437227405312 : UInt64)), (.double dv)])) _
    refine XS.dcmpS X0.here hx rfl (hb hby d4_4) rfl rfl ?_
    show Steps p.tables e below (s₁.setTop (mkF m 5 #[.val (.ref rs), .val (.double dv), .second] [(.int (cmpValue (FP.dcmp dv (9218868437227405312 : UInt64)) .l))])) _
    refine XS.ifYes X0.here hx rfl (pc0 := 5) (pc' := 21) rfl (hb hby d4_5) rfl ((if0 _ _).trans (feq hc5).2) (by decide) (by decide) ?_
    show Steps p.tables e below (s₁.setTop (mkF m 21 #[.val (.ref rs), .val (.double dv), .second] [])) _
    refine XS.dloadN X0.here hx rfl (hb hby d4_21) rfl ?_
    show Steps p.tables e below (s₁.setTop (mkF m 22 #[.val (.ref rs), .val (.double dv), .second] [(.double dv)])) _
    refine XS.dconst0 X0.here hx rfl (hb hby d4_22) (v := FP.dconst0) rfl ?_
    show Steps p.tables e below (s₁.setTop (mkF m 23 #[.val (.ref rs), .val (.double dv), .second] [(.double FP.dconst0), (.double dv)])) _
    refine XS.dcmpS X0.here hx rfl (hb hby d4_23) rfl rfl ?_
    show Steps p.tables e below (s₁.setTop (mkF m 24 #[.val (.ref rs), .val (.double dv), .second] [(.int (cmpValue (FP.dcmp dv FP.dconst0) .l))])) _
    refine XS.ifYes X0.here hx rfl (pc0 := 24) (pc' := 40) rfl (hb hby d4_24) rfl ((if0 _ _).trans (flt hc24).2.1) (by decide) (by decide) ?_
    show Steps p.tables e below (s₁.setTop (mkF m 40 #[.val (.ref rs), .val (.double dv), .second] [])) _
    exact X0.returnOut hx Bd.returns (hb hby d4_40) hr
  · show Q4 Z rs dv h0 n0 _ s₁.heap _
    rw [e0]
    exact ⟨rfl, N0, rfl⟩
theorem d1_0 : decode prog_19_method_1_code 0 = .ok (.aload_n 0, 1) := by decide +kernel
theorem pd_0 : parseMethodDescriptor "()V" = some ⟨[], none⟩ := by decide +kernel
theorem d1_1 : decode prog_19_method_1_code 1 = .ok (.invokespecial 1, 3) := by decide +kernel
theorem d1_4 : decode prog_19_method_1_code 4 = .ok (.ldc 7, 2) := by decide +kernel
theorem d1_6 : decode prog_19_method_1_code 6 = .ok (.dload_n 1, 1) := by decide +kernel
theorem pd_1 : parseMethodDescriptor "(Ljava/lang/String;D)V" = some ⟨[(.object "java/lang/String"), .double], none⟩ := by decide +kernel
theorem d1_7 : decode prog_19_method_1_code 7 = .ok (.invokestatic 9, 3) := by decide +kernel
theorem d1_10 : decode prog_19_method_1_code 10 = .ok (.ldc 15, 2) := by decide +kernel
theorem d1_12 : decode prog_19_method_1_code 12 = .ok (.dload_n 3, 1) := by decide +kernel
theorem d1_13 : decode prog_19_method_1_code 13 = .ok (.invokestatic 9, 3) := by decide +kernel
theorem d1_16 : decode prog_19_method_1_code 16 = .ok (.aload_n 0, 1) := by decide +kernel
theorem d1_17 : decode prog_19_method_1_code 17 = .ok (.dload_n 1, 1) := by decide +kernel
theorem d1_18 : decode prog_19_method_1_code 18 = .ok (.putfield 17, 3) := by decide +kernel
theorem d1_21 : decode prog_19_method_1_code 21 = .ok (.aload_n 0, 1) := by decide +kernel
theorem d1_22 : decode prog_19_method_1_code 22 = .ok (.dload_n 3, 1) := by decide +kernel
theorem d1_23 : decode prog_19_method_1_code 23 = .ok (.putfield 22, 3) := by decide +kernel
theorem d1_26 : decode prog_19_method_1_code 26 = .ok (.return_, 1) := by decide +kernel
theorem ef_1 (m : MethodId) (ra : Addr) (us : UInt64) (lm : UInt64) : entryFrame m #[(.ref ra), (.double us), (.double lm)] 5 = mkF m 0 #[.val (.ref ra), .val (.double us), .second, .val (.double lm), .second] [] := by first | (simp [entryFrame, mkF, argsToLocals, Value.category]; done) | rfl
theorem pn_com_example_bundles_to_brokers_bundlestobrokers_model_ResourceUsage : plainName "com/example/bundles_to_brokers/bundlestobrokers/model/ResourceUsage" = true := by first | (simp [plainName, overriddenIn]; done) | decide +kernel
def Q1 (Z : State) (ra : Addr) (us : UInt64) (lm : UInt64) (u_usage_ra : UInt64) (u_limit_ra : UInt64) (h0 : Heap) (n0 : Nat) (v : Option Value) (h : Heap) (L : List Loc) : Prop := v = none ∧ Fr n0 L ∧ Keep h0 h [ra] ∧ Fld Z h ra "com/example/bundles_to_brokers/bundlestobrokers/model/ResourceUsage" "usage" "D" (.double us) ∧ Fld Z h ra "com/example/bundles_to_brokers/bundlestobrokers/model/ResourceUsage" "limit" "D" (.double lm)
set_option maxRecDepth 65536 in
set_option maxHeartbeats 40000000 in
theorem rm1 (l : Launch) (Z : State) (a0 : Array Value) (hw : ∀ d ∈ tables_1, d.before a0 Z = true) (ws : List Jvm.Cond) (ra : Addr) (us : UInt64) (lm : UInt64) (u_usage_ra : UInt64) (u_limit_ra : UInt64) (h0 : Heap) (n0 : Nat) (Z0 : n0 ≤ h0.size) (hu1 : ¬ ((cmpValue (FP.dcmp us (9218868437227405312 : UInt64)) .l) = (0 : Int32))) (hu2 : ¬ ((cmpValue (FP.dcmp us FP.dconst0) .l) < (0 : Int32))) (hl1 : ¬ ((cmpValue (FP.dcmp lm (9218868437227405312 : UInt64)) .l) = (0 : Int32))) (hl2 : ¬ ((cmpValue (FP.dcmp lm FP.dconst0) .l) < (0 : Int32))) (E_ra : Exa Z h0 ra "com/example/bundles_to_brokers/bundlestobrokers/model/ResourceUsage") (F_usage_ra : Fld Z h0 ra "com/example/bundles_to_brokers/bundlestobrokers/model/ResourceUsage" "usage" "D" (.double u_usage_ra)) (F_limit_ra : Fld Z h0 ra "com/example/bundles_to_brokers/bundlestobrokers/model/ResourceUsage" "limit" "D" (.double u_limit_ra)) (g_ra : n0 ≤ ra) :
    MetFree l (⟨"com/example/bundles_to_brokers/bundlestobrokers/model/ResourceUsage", "<init>", "(DD)V"⟩ : MethodName) (head1 (Jvm.Cond.code (⟨"com/example/bundles_to_brokers/bundlestobrokers/model/ResourceUsage", "<init>", "(DD)V"⟩ : MethodName) prog_19_method_1_code 5 none :: ws) ({ frames := 2, cells := 4, slots := 48, locals := 24 } : Room)) (fun a U => a = #[(.ref ra), (.double us), (.double lm)] ∧ Z.Warmed39 U.vm ∧ U.heap = h0) (fun _ _ _ _ _ => True) (fun _ U o U' => ∃ v L, o = .returned v ∧ Q1 Z ra us lm u_usage_ra u_limit_ra h0 n0 v U'.heap L ∧ ReturnedEndW U o U' L ({ frames := 2, cells := 4, slots := 48, locals := 24 } : Room).cells ({ frames := 2, cells := 4, slots := 48, locals := 24 } : Room).slots) := by
  refine MetFree.of_bodySF (plainFor_of_name pn_com_example_bundles_to_brokers_bundlestobrokers_model_ResourceUsage) hisR ?_
  intro p e s m args below meth c s₁ Bd hml0 hP hK
  obtain ⟨rfl, hZ, hh⟩ := hP
  have hx := Bd.exec
  have hby := Bd.bytes
  have hml : c.maxLocals = 5 := hml0
  have hown : s.vm.findClass "com/example/bundles_to_brokers/bundlestobrokers/model/ResourceUsage" = some m.cls := findClass_of_methodNamed Bd.named
  have hnm := (name_of_methodNamed Bd.named Bd.method).1
  have X0 : Stand p l e ({ frames := 2, cells := 4, slots := 48, locals := 24 } : Room) s m #[(.ref ra), (.double us), (.double lm)] below meth c s₁ [] 0 0 := Stand.of_body Bd
  have e0 : s₁.heap = h0 := by rw [← hh, Bd.state]; rfl
  have N0 := Fr.nil n0
  have K0 : Keep h0 h0 [ra] := Keep.refl h0 _
  have pre0 : ∀ t, Steps p.tables e below (s₁.setTop (mkF m 0 #[.val (.ref ra), .val (.double us), .second, .val (.double lm), .second] [])) t → Steps p.tables e below (s₁.setTop (entryFrame m #[(.ref ra), (.double us), (.double lm)] 5)) t := fun t k => castTop (ef_1 m ra us lm) k
  obtain ⟨_, _, ⟨T1, L1, k1, n1⟩, -, X1, ⟨Lc1, hQ1, l1, y1, z1⟩, st1⟩ := X0.specialBack hx (y := (⟨"java/lang/Record", "<init>", "()V"⟩ : MethodName)) rfl hown (mvT hZ (hw _ (List.mem_of_getElem? (i := 7) rfl))) (mvT hZ (hw _ (List.mem_of_getElem? (i := 8) rfl))) (mvT hZ (hw _ (List.mem_of_getElem? (i := 11) rfl))) (by decide) (backOf (W := 0) (rm2 l Z a0 hw [] ra h0 n0 Z0 ) hZ (hw _ (List.mem_of_getElem? (i := 11) rfl)) (hw _ (List.mem_of_getElem? (i := 10) rfl)) (by decide) (by decide)) (g := (mkF m 1 #[.val (.ref ra), .val (.double us), .second, .val (.double lm), .second] [(.ref ra)])) rfl (by rw [hml]; rfl) (Steps.refl _) (a := ra) (argsL := []) (rest := []) (lenOf pd_0 rfl) rfl (by show 2 * 0 + _ ≤ _; exact Nat.le_of_eq rfl) (hb hby d1_1) (fun _ _ => ⟨rfl, e0, (by decide : 0 + 0 ≤ _), (by decide : 0 + 0 ≤ _)⟩)
  dsimp only [Pt.U, Pt.locs, Pt.cells, Pt.slots] at X1 l1 y1 z1 st1 hQ1
  subst y1 z1
  obtain ⟨rfl, N1q, e1⟩ := hQ1
  have N1 : Fr n0 L1 := by rw [l1]; exact Fr.app N0 N1q
  have pre2 : ∀ t, Steps p.tables e below (T1.setTop (mkF m 4 #[.val (.ref ra), .val (.double us), .second, .val (.double lm), .second] [])) t → Steps p.tables e below (s₁.setTop (entryFrame m #[(.ref ra), (.double us), (.double lm)] 5)) t := by
    intro t k
    refine pre0 _ ?_
    show Steps p.tables e below (s₁.setTop (mkF m 0 #[.val (.ref ra), .val (.double us), .second, .val (.double lm), .second] [])) _
    refine XS.aloadN X0.here hx rfl (hb hby d1_0) rfl rfl ?_
    show Steps p.tables e below (s₁.setTop (mkF m 1 #[.val (.ref ra), .val (.double us), .second, .val (.double lm), .second] [(.ref ra)])) _
    refine st1.trans ?_
    exact k
  obtain ⟨sa3, T3, h3, ks3, X3, e3, E3, hS3, kS3, hZ3, hown3, st3⟩ := ldcS (s := s) (vm0 := s.vm) X1 hx hZ hown (hw _ (List.mem_of_getElem? (i := 15) rfl)) (own_wS hw) e1 ((State.WarmedH.refl s).since 0) (Nat.zero_le _) (g := (mkF m 4 #[.val (.ref ra), .val (.double us), .second, .val (.double lm), .second] [])) rfl (hb hby d1_4) (n := 20) (by decide) (by decide) (by decide) (by decide)
  have f4 : Exa Z h3 ra "com/example/bundles_to_brokers/bundlestobrokers/model/ResourceUsage" := E_ra.ext E3
  have f5 : Fld Z h3 ra "com/example/bundles_to_brokers/bundlestobrokers/model/ResourceUsage" "usage" "D" (.double u_usage_ra) := F_usage_ra.ext E3
  have f6 : Fld Z h3 ra "com/example/bundles_to_brokers/bundlestobrokers/model/ResourceUsage" "limit" "D" (.double u_limit_ra) := F_limit_ra.ext E3
  have Z3 : n0 ≤ h3.size := Nat.le_trans Z0 E3.1
  have K3 : Keep h0 h3 [ra] := K0.ext E3
  obtain ⟨_, _, ⟨T7, L7, k7, n7⟩, -, X7, ⟨Lc7, hQ7, l7, y7, z7⟩, st7⟩ := Jvm.LawKit.callS X3 hx (y := (⟨"com/example/bundles_to_brokers/bundlestobrokers/model/Quantities", "checkNonNegative", "(Ljava/lang/String;D)V"⟩ : MethodName)) hown3 (mvT hZ3 (hw _ (List.mem_of_getElem? (i := 23) rfl))) (mvT hZ3 (hw _ (List.mem_of_getElem? (i := 24) rfl))) (mvT hZ3 (hw _ (List.mem_of_getElem? (i := 25) rfl))) (mvT hZ3 (hw _ (List.mem_of_getElem? (i := 26) rfl))) (by decide) (backOf (W := 0) (rm4 l Z a0 hw [] sa3 us h3 n0 Z3 (hu1) (hu2)) hZ3 (hw _ (List.mem_of_getElem? (i := 26) rfl)) (hw _ (List.mem_of_getElem? (i := 25) rfl)) (by decide) (by decide)) (g := (mkF m 7 #[.val (.ref ra), .val (.double us), .second, .val (.double lm), .second] [(.double us), (.ref sa3)])) rfl (by rw [hml]; rfl) (argsL := [(.ref sa3), (.double us)]) (rest := []) (lenOf pd_1 rfl) rfl (by show 2 * 0 + _ ≤ _; exact Nat.le_of_eq rfl) (hb hby d1_7) (fun _ _ => ⟨rfl, e3, (by decide : 2 + 0 ≤ _), (by decide : 24 + 0 ≤ _)⟩)
  dsimp only [Pt.U, Pt.locs, Pt.cells, Pt.slots] at X7 l7 y7 z7 st7 hQ7
  subst y7 z7
  obtain ⟨rfl, N7q, e7⟩ := hQ7
  have N7 : Fr n0 L7 := by rw [l7]; exact Fr.app N1 N7q
  have pre8 : ∀ t, Steps p.tables e below (T7.setTop (mkF m 10 #[.val (.ref ra), .val (.double us), .second, .val (.double lm), .second] [])) t → Steps p.tables e below (s₁.setTop (entryFrame m #[(.ref ra), (.double us), (.double lm)] 5)) t := by
    intro t k
    refine pre2 _ ?_
    show Steps p.tables e below (T1.setTop (mkF m 4 #[.val (.ref ra), .val (.double us), .second, .val (.double lm), .second] [])) _
    refine st3 _ ?_
    show Steps p.tables e below (T3.setTop (mkF m 6 #[.val (.ref ra), .val (.double us), .second, .val (.double lm), .second] [(.ref sa3)])) _
    refine XS.dloadN X3.here hx rfl (hb hby d1_6) rfl ?_
    show Steps p.tables e below (T3.setTop (mkF m 7 #[.val (.ref ra), .val (.double us), .second, .val (.double lm), .second] [(.double us), (.ref sa3)])) _
    refine st7 _ ?_
    exact k
  obtain ⟨sa9, T9, h9, ks9, X9, e9, E9, hS9, kS9, hZ9, hown9, st9⟩ := ldcS (s := s) (vm0 := T3.vm) X7 hx hZ3 hown3 (hw _ (List.mem_of_getElem? (i := 28) rfl)) (own_wS hw) e7 hS3 kS3 (g := (mkF m 10 #[.val (.ref ra), .val (.double us), .second, .val (.double lm), .second] [])) rfl (hb hby d1_10) (n := 20) (by decide) (by decide) (by decide) (by decide)
  have f10 : Exa Z h9 ra "com/example/bundles_to_brokers/bundlestobrokers/model/ResourceUsage" := f4.ext E9
  have f11 : Fld Z h9 ra "com/example/bundles_to_brokers/bundlestobrokers/model/ResourceUsage" "usage" "D" (.double u_usage_ra) := f5.ext E9
  have f12 : Fld Z h9 ra "com/example/bundles_to_brokers/bundlestobrokers/model/ResourceUsage" "limit" "D" (.double u_limit_ra) := f6.ext E9
  have Z9 : n0 ≤ h9.size := Nat.le_trans Z3 E9.1
  have K9 : Keep h0 h9 [ra] := K3.ext E9
  obtain ⟨_, _, ⟨T13, L13, k13, n13⟩, -, X13, ⟨Lc13, hQ13, l13, y13, z13⟩, st13⟩ := Jvm.LawKit.callS X9 hx (y := (⟨"com/example/bundles_to_brokers/bundlestobrokers/model/Quantities", "checkNonNegative", "(Ljava/lang/String;D)V"⟩ : MethodName)) hown9 (mvT hZ9 (hw _ (List.mem_of_getElem? (i := 23) rfl))) (mvT hZ9 (hw _ (List.mem_of_getElem? (i := 24) rfl))) (mvT hZ9 (hw _ (List.mem_of_getElem? (i := 25) rfl))) (mvT hZ9 (hw _ (List.mem_of_getElem? (i := 26) rfl))) (by decide) (backOf (W := 0) (rm4 l Z a0 hw [] sa9 lm h9 n0 Z9 (hl1) (hl2)) hZ9 (hw _ (List.mem_of_getElem? (i := 26) rfl)) (hw _ (List.mem_of_getElem? (i := 25) rfl)) (by decide) (by decide)) (g := (mkF m 13 #[.val (.ref ra), .val (.double us), .second, .val (.double lm), .second] [(.double lm), (.ref sa9)])) rfl (by rw [hml]; rfl) (argsL := [(.ref sa9), (.double lm)]) (rest := []) (lenOf pd_1 rfl) rfl (by show 2 * 0 + _ ≤ _; exact Nat.le_of_eq rfl) (hb hby d1_13) (fun _ _ => ⟨rfl, e9, (by decide : 4 + 0 ≤ _), (by decide : 48 + 0 ≤ _)⟩)
  dsimp only [Pt.U, Pt.locs, Pt.cells, Pt.slots] at X13 l13 y13 z13 st13 hQ13
  subst y13 z13
  obtain ⟨rfl, N13q, e13⟩ := hQ13
  have N13 : Fr n0 L13 := by rw [l13]; exact Fr.app N7 N13q
  obtain ⟨T14, h14, X14, e14, W14, st14⟩ := putF X13 hx hZ9 hown9 (host := "") (Or.inl (hw _ (List.mem_of_getElem? (i := 29) rfl))) Via.refl e13 f11 f10 (Or.inr ⟨(hw _ (List.mem_of_getElem? (i := 30) rfl)), rfl, hnm⟩) (hw _ (List.mem_of_getElem? (i := 2) rfl)) (ty := .double) (by decide) rfl rfl (g := (mkF m 18 #[.val (.ref ra), .val (.double us), .second, .val (.double lm), .second] [(.double us), (.ref ra)])) rfl rfl (hb hby d1_18)
  have N14 := Fr.snoc X14 N13 g_ra
  have Z14 : n0 ≤ h14.size := Nat.le_trans Z9 (Keep.of_wr W14).1
  have kS14 : _ ≤ h14.size := Nat.le_trans kS9 (Keep.of_wr W14).1
  have K14 : Keep h0 h14 [ra] := K9.wr W14 (Or.inl (List.mem_of_getElem? (i := 0) rfl))
  have f15 : Fld Z h14 ra "com/example/bundles_to_brokers/bundlestobrokers/model/ResourceUsage" "usage" "D" (.double us) := f11.same W14
  have f16 : Exa Z h14 ra "com/example/bundles_to_brokers/bundlestobrokers/model/ResourceUsage" := f10.wr W14
  have f17 : Fld Z h14 ra "com/example/bundles_to_brokers/bundlestobrokers/model/ResourceUsage" "limit" "D" (.double u_limit_ra) := f12.other W14 (Or.inr (slot_ne (Or.inr (hw _ (List.mem_of_getElem? (i := 32) rfl))) (Or.inr (hw _ (List.mem_of_getElem? (i := 30) rfl))) (by decide) (t := .double) (t' := .double) (by decide) (by decide)))
  obtain ⟨T18, h18, X18, e18, W18, st18⟩ := putF X14 hx hZ9 hown9 (host := "") (Or.inl (hw _ (List.mem_of_getElem? (i := 31) rfl))) Via.refl e14 f17 f16 (Or.inr ⟨(hw _ (List.mem_of_getElem? (i := 32) rfl)), rfl, hnm⟩) (hw _ (List.mem_of_getElem? (i := 2) rfl)) (ty := .double) (by decide) rfl rfl (g := (mkF m 23 #[.val (.ref ra), .val (.double us), .second, .val (.double lm), .second] [(.double lm), (.ref ra)])) rfl rfl (hb hby d1_23)
  have N18 := Fr.snoc X18 N14 g_ra
  have Z18 : n0 ≤ h18.size := Nat.le_trans Z14 (Keep.of_wr W18).1
  have kS18 : _ ≤ h18.size := Nat.le_trans kS14 (Keep.of_wr W18).1
  have K18 : Keep h0 h18 [ra] := K14.wr W18 (Or.inl (List.mem_of_getElem? (i := 0) rfl))
  have f19 : Fld Z h18 ra "com/example/bundles_to_brokers/bundlestobrokers/model/ResourceUsage" "limit" "D" (.double lm) := f17.same W18
  have f20 : Exa Z h18 ra "com/example/bundles_to_brokers/bundlestobrokers/model/ResourceUsage" := f16.wr W18
  have f21 : Fld Z h18 ra "com/example/bundles_to_brokers/bundlestobrokers/model/ResourceUsage" "usage" "D" (.double us) := f15.other W18 (Or.inr (slot_ne (Or.inr (hw _ (List.mem_of_getElem? (i := 30) rfl))) (Or.inr (hw _ (List.mem_of_getElem? (i := 32) rfl))) (by decide) (t := .double) (t' := .double) (by decide) (by decide)))
  obtain ⟨fs, hr, hrun, hended, hW⟩ := Stand.leaveW (s := s) (vm₁ := T9.vm) X18 hS9 (by rw [e18]; exact kS18) (v := none) (fun _ => rfl) (hlocks := Bd.notSynchronized)
  refine ⟨_, _, pre8 _ ?_, hrun, hended, _, _, rfl, ?_, ⟨_, rfl⟩, hW.2.1, hW.2.2.1, hW.2.2.2.mono (by decide) (by decide)⟩
  · show Steps p.tables e below (T7.setTop (mkF m 10 #[.val (.ref ra), .val (.double us), .second, .val (.double lm), .second] [])) _
    refine st9 _ ?_
    show Steps p.tables e below (T9.setTop (mkF m 12 #[.val (.ref ra), .val (.double us), .second, .val (.double lm), .second] [(.ref sa9)])) _
    refine XS.dloadN X9.here hx rfl (hb hby d1_12) rfl ?_
    show Steps p.tables e below (T9.setTop (mkF m 13 #[.val (.ref ra), .val (.double us), .second, .val (.double lm), .second] [(.double lm), (.ref sa9)])) _
    refine st13 _ ?_
    show Steps p.tables e below (T13.setTop (mkF m 16 #[.val (.ref ra), .val (.double us), .second, .val (.double lm), .second] [])) _
    refine XS.aloadN X13.here hx rfl (hb hby d1_16) rfl rfl ?_
    show Steps p.tables e below (T13.setTop (mkF m 17 #[.val (.ref ra), .val (.double us), .second, .val (.double lm), .second] [(.ref ra)])) _
    refine XS.dloadN X13.here hx rfl (hb hby d1_17) rfl ?_
    show Steps p.tables e below (T13.setTop (mkF m 18 #[.val (.ref ra), .val (.double us), .second, .val (.double lm), .second] [(.double us), (.ref ra)])) _
    refine st14 _ ?_
    show Steps p.tables e below (T14.setTop (mkF m 21 #[.val (.ref ra), .val (.double us), .second, .val (.double lm), .second] [])) _
    refine XS.aloadN X14.here hx rfl (hb hby d1_21) rfl rfl ?_
    show Steps p.tables e below (T14.setTop (mkF m 22 #[.val (.ref ra), .val (.double us), .second, .val (.double lm), .second] [(.ref ra)])) _
    refine XS.dloadN X14.here hx rfl (hb hby d1_22) rfl ?_
    show Steps p.tables e below (T14.setTop (mkF m 23 #[.val (.ref ra), .val (.double us), .second, .val (.double lm), .second] [(.double lm), (.ref ra)])) _
    refine st18 _ ?_
    show Steps p.tables e below (T18.setTop (mkF m 26 #[.val (.ref ra), .val (.double us), .second, .val (.double lm), .second] [])) _
    exact X18.returnOut hx Bd.returns (hb hby d1_26) hr
  · show Q1 Z ra us lm u_usage_ra u_limit_ra h0 n0 _ T18.heap _
    rw [e18]
    exact ⟨rfl, N18, K18, f21, f19⟩
theorem ef_5z (m : MethodId) (ra : Addr) : entryFrame m #[(.ref ra)] 1 = mkF m 0 #[.val (.ref ra)] [] := by first | (simp [entryFrame, mkF, argsToLocals, Value.category]; done) | rfl
theorem d5_0 : decode prog_19_method_2_code 0 = .ok (.aload_n 0, 1) := by decide +kernel
theorem d5_1 : decode prog_19_method_2_code 1 = .ok (.getfield 22, 3) := by decide +kernel
theorem d5_4 : decode prog_19_method_2_code 4 = .ok (.dconst 0, 1) := by decide +kernel
theorem d5_5 : decode prog_19_method_2_code 5 = .ok (.dcmp .l, 1) := by decide +kernel
theorem d5_6 : decode prog_19_method_2_code 6 = .ok (.ifCond .ne 7, 3) := by decide +kernel
theorem d5_9 : decode prog_19_method_2_code 9 = .ok (.dconst 0, 1) := by decide +kernel
theorem d5_10 : decode prog_19_method_2_code 10 = .ok (.goto 12, 3) := by decide +kernel
theorem d5_22 : decode prog_19_method_2_code 22 = .ok (.dreturn, 1) := by decide +kernel
def Q5z (Z : State) (ra : Addr) (us : UInt64) (lm : UInt64) (h0 : Heap) (n0 : Nat) (v : Option Value) (h : Heap) (L : List Loc) : Prop := v = some (.double FP.dconst0) ∧ Fr n0 L ∧ h = h0
set_option maxRecDepth 65536 in
set_option maxHeartbeats 40000000 in
theorem rm5z (l : Launch) (Z : State) (a0 : Array Value) (hw : ∀ d ∈ tables_1, d.before a0 Z = true) (ws : List Jvm.Cond) (ra : Addr) (us : UInt64) (lm : UInt64) (h0 : Heap) (n0 : Nat) (Z0 : n0 ≤ h0.size) (F_usage_ra : Fld Z h0 ra "com/example/bundles_to_brokers/bundlestobrokers/model/ResourceUsage" "usage" "D" (.double us)) (F_limit_ra : Fld Z h0 ra "com/example/bundles_to_brokers/bundlestobrokers/model/ResourceUsage" "limit" "D" (.double lm)) (hc6 : ((cmpValue (FP.dcmp lm FP.dconst0) .l) = (0 : Int32))) :
    MetFree l (⟨"com/example/bundles_to_brokers/bundlestobrokers/model/ResourceUsage", "fraction", "()D"⟩ : MethodName) (head1 (Jvm.Cond.code (⟨"com/example/bundles_to_brokers/bundlestobrokers/model/ResourceUsage", "fraction", "()D"⟩ : MethodName) prog_19_method_2_code 1 (some .double) :: ws) ({ frames := 0, cells := 0, slots := 0, locals := 0 } : Room)) (fun a U => a = #[(.ref ra)] ∧ Z.Warmed39 U.vm ∧ U.heap = h0) (fun _ _ _ _ _ => True) (fun _ U o U' => ∃ v L, o = .returned v ∧ Q5z Z ra us lm h0 n0 v U'.heap L ∧ FrameEnd U o U' L ({ frames := 0, cells := 0, slots := 0, locals := 0 } : Room).cells ({ frames := 0, cells := 0, slots := 0, locals := 0 } : Room).slots) := by
  refine MetFree.of_bodySF (plainFor_of_name pn_com_example_bundles_to_brokers_bundlestobrokers_model_ResourceUsage) hisR ?_
  intro p e s m args below meth c s₁ Bd hml0 hP hK
  obtain ⟨rfl, hZ, hh⟩ := hP
  have hx := Bd.exec
  have hby := Bd.bytes
  have hml : c.maxLocals = 1 := hml0
  have hown : s.vm.findClass "com/example/bundles_to_brokers/bundlestobrokers/model/ResourceUsage" = some m.cls := findClass_of_methodNamed Bd.named
  have hnm := (name_of_methodNamed Bd.named Bd.method).1
  have X0 : Stand p l e ({ frames := 0, cells := 0, slots := 0, locals := 0 } : Room) s m #[(.ref ra)] below meth c s₁ [] 0 0 := Stand.of_body Bd
  have e0 : s₁.heap = h0 := by rw [← hh, Bd.state]; rfl
  have N0 := Fr.nil n0
  have K0 : Keep h0 h0 [] := Keep.refl h0 _
  have pre0 : ∀ t, Steps p.tables e below (s₁.setTop (mkF m 0 #[.val (.ref ra)] [])) t → Steps p.tables e below (s₁.setTop (entryFrame m #[(.ref ra)] 1)) t := fun t k => castTop (ef_5z m ra) k
  obtain ⟨T1, X1, e1, st1⟩ := getF X0 hx hZ hown (host := "") (Or.inl (hw _ (List.mem_of_getElem? (i := 31) rfl))) Via.refl e0 F_limit_ra (g := (mkF m 1 #[.val (.ref ra)] [(.ref ra)])) rfl rfl (hb hby d5_1)
  obtain ⟨fs, hr, hrun, hended, hW, hsame⟩ := X1.leave (v := some (.double FP.dconst0)) (fun h => by rw [Bd.returns] at h; cases h) (hlocks := Bd.notSynchronized)
  refine ⟨_, _, pre0 _ ?_, hrun, hended, _, _, rfl, ?_, ⟨_, rfl⟩, hW, hsame.mono (by decide) (by decide)⟩
  · show Steps p.tables e below (s₁.setTop (mkF m 0 #[.val (.ref ra)] [])) _
    refine XS.aloadN X0.here hx rfl (hb hby d5_0) rfl rfl ?_
    show Steps p.tables e below (s₁.setTop (mkF m 1 #[.val (.ref ra)] [(.ref ra)])) _
    refine st1 _ ?_
    show Steps p.tables e below (T1.setTop (mkF m 4 #[.val (.ref ra)] [(.double lm)])) _
    refine XS.dconst0 X1.here hx rfl (hb hby d5_4) (v := FP.dconst0) rfl ?_
    show Steps p.tables e below (T1.setTop (mkF m 5 #[.val (.ref ra)] [(.double FP.dconst0), (.double lm)])) _
    refine XS.dcmpS X1.here hx rfl (hb hby d5_5) rfl rfl ?_
    show Steps p.tables e below (T1.setTop (mkF m 6 #[.val (.ref ra)] [(.int (cmpValue (FP.dcmp lm FP.dconst0) .l))])) _
    refine XS.ifNo X1.here hx rfl (hb hby d5_6) rfl ((if0 _ _).trans (teq hc6).2) ?_
    show Steps p.tables e below (T1.setTop (mkF m 9 #[.val (.ref ra)] [])) _
    refine XS.dconst0 X1.here hx rfl (hb hby d5_9) (v := FP.dconst0) rfl ?_
    show Steps p.tables e below (T1.setTop (mkF m 10 #[.val (.ref ra)] [(.double FP.dconst0)])) _
    refine XS.goto X1.here hx rfl (pc0 := 10) (pc' := 22) rfl (hb hby d5_10) (by decide) (by decide) ?_
    show Steps p.tables e below (T1.setTop (mkF m 22 #[.val (.ref ra)] [(.double FP.dconst0)])) _
    exact retOut X1 hx Bd.returns rfl (Or.inr (Or.inr (Or.inl ⟨rfl, rfl, _, rfl⟩))) (hb hby d5_22) hr
  · show Q5z Z ra us lm h0 n0 _ T1.heap _
    rw [e1]
    exact ⟨rfl, N0, rfl⟩
theorem ef_5d (m : MethodId) (ra : Addr) : entryFrame m #[(.ref ra)] 1 = mkF m 0 #[.val (.ref ra)] [] := by first | (simp [entryFrame, mkF, argsToLocals, Value.category]; done) | rfl
theorem d5_13 : decode prog_19_method_2_code 13 = .ok (.aload_n 0, 1) := by decide +kernel
theorem d5_14 : decode prog_19_method_2_code 14 = .ok (.getfield 17, 3) := by decide +kernel
theorem d5_17 : decode prog_19_method_2_code 17 = .ok (.aload_n 0, 1) := by decide +kernel
theorem d5_18 : decode prog_19_method_2_code 18 = .ok (.getfield 22, 3) := by decide +kernel
theorem d5_21 : decode prog_19_method_2_code 21 = .ok (.ddiv, 1) := by decide +kernel
def Q5d (Z : State) (ra : Addr) (us : UInt64) (lm : UInt64) (h0 : Heap) (n0 : Nat) (v : Option Value) (h : Heap) (L : List Loc) : Prop := v = some (.double (FP.ddiv us lm)) ∧ Fr n0 L ∧ h = h0
set_option maxRecDepth 65536 in
set_option maxHeartbeats 40000000 in
theorem rm5d (l : Launch) (Z : State) (a0 : Array Value) (hw : ∀ d ∈ tables_1, d.before a0 Z = true) (ws : List Jvm.Cond) (ra : Addr) (us : UInt64) (lm : UInt64) (h0 : Heap) (n0 : Nat) (Z0 : n0 ≤ h0.size) (F_usage_ra : Fld Z h0 ra "com/example/bundles_to_brokers/bundlestobrokers/model/ResourceUsage" "usage" "D" (.double us)) (F_limit_ra : Fld Z h0 ra "com/example/bundles_to_brokers/bundlestobrokers/model/ResourceUsage" "limit" "D" (.double lm)) (hnn : Jvm.Free.Fl.NoNaN64 (FP.ddiv us lm)) (hc6 : ¬ ((cmpValue (FP.dcmp lm FP.dconst0) .l) = (0 : Int32))) :
    MetFree l (⟨"com/example/bundles_to_brokers/bundlestobrokers/model/ResourceUsage", "fraction", "()D"⟩ : MethodName) (head1 (Jvm.Cond.code (⟨"com/example/bundles_to_brokers/bundlestobrokers/model/ResourceUsage", "fraction", "()D"⟩ : MethodName) prog_19_method_2_code 1 (some .double) :: ws) ({ frames := 0, cells := 0, slots := 0, locals := 0 } : Room)) (fun a U => a = #[(.ref ra)] ∧ Z.Warmed39 U.vm ∧ U.heap = h0) (fun _ _ _ _ _ => True) (fun _ U o U' => ∃ v L, o = .returned v ∧ Q5d Z ra us lm h0 n0 v U'.heap L ∧ FrameEnd U o U' L ({ frames := 0, cells := 0, slots := 0, locals := 0 } : Room).cells ({ frames := 0, cells := 0, slots := 0, locals := 0 } : Room).slots) := by
  refine MetFree.of_bodySF (plainFor_of_name pn_com_example_bundles_to_brokers_bundlestobrokers_model_ResourceUsage) hisR ?_
  intro p e s m args below meth c s₁ Bd hml0 hP hK
  obtain ⟨rfl, hZ, hh⟩ := hP
  have hx := Bd.exec
  have hby := Bd.bytes
  have hml : c.maxLocals = 1 := hml0
  have hown : s.vm.findClass "com/example/bundles_to_brokers/bundlestobrokers/model/ResourceUsage" = some m.cls := findClass_of_methodNamed Bd.named
  have hnm := (name_of_methodNamed Bd.named Bd.method).1
  have X0 : Stand p l e ({ frames := 0, cells := 0, slots := 0, locals := 0 } : Room) s m #[(.ref ra)] below meth c s₁ [] 0 0 := Stand.of_body Bd
  have e0 : s₁.heap = h0 := by rw [← hh, Bd.state]; rfl
  have N0 := Fr.nil n0
  have K0 : Keep h0 h0 [] := Keep.refl h0 _
  have pre0 : ∀ t, Steps p.tables e below (s₁.setTop (mkF m 0 #[.val (.ref ra)] [])) t → Steps p.tables e below (s₁.setTop (entryFrame m #[(.ref ra)] 1)) t := fun t k => castTop (ef_5d m ra) k
  obtain ⟨T1, X1, e1, st1⟩ := getF X0 hx hZ hown (host := "") (Or.inl (hw _ (List.mem_of_getElem? (i := 31) rfl))) Via.refl e0 F_limit_ra (g := (mkF m 1 #[.val (.ref ra)] [(.ref ra)])) rfl rfl (hb hby d5_1)
  obtain ⟨T2, X2, e2, st2⟩ := getF X1 hx hZ hown (host := "") (Or.inl (hw _ (List.mem_of_getElem? (i := 29) rfl))) Via.refl e1 F_usage_ra (g := (mkF m 14 #[.val (.ref ra)] [(.ref ra)])) rfl rfl (hb hby d5_14)
  obtain ⟨T3, X3, e3, st3⟩ := getF X2 hx hZ hown (host := "") (Or.inl (hw _ (List.mem_of_getElem? (i := 31) rfl))) Via.refl e2 F_limit_ra (g := (mkF m 18 #[.val (.ref ra)] [(.ref ra), (.double us)])) rfl rfl (hb hby d5_18)
  obtain ⟨fs, hr, hrun, hended, hW, hsame⟩ := X3.leave (v := some (.double (FP.ddiv us lm))) (fun h => by rw [Bd.returns] at h; cases h) (hlocks := Bd.notSynchronized)
  refine ⟨_, _, pre0 _ ?_, hrun, hended, _, _, rfl, ?_, ⟨_, rfl⟩, hW, hsame.mono (by decide) (by decide)⟩
  · show Steps p.tables e below (s₁.setTop (mkF m 0 #[.val (.ref ra)] [])) _
    refine XS.aloadN X0.here hx rfl (hb hby d5_0) rfl rfl ?_
    show Steps p.tables e below (s₁.setTop (mkF m 1 #[.val (.ref ra)] [(.ref ra)])) _
    refine st1 _ ?_
    show Steps p.tables e below (T1.setTop (mkF m 4 #[.val (.ref ra)] [(.double lm)])) _
    refine XS.dconst0 X1.here hx rfl (hb hby d5_4) (v := FP.dconst0) rfl ?_
    show Steps p.tables e below (T1.setTop (mkF m 5 #[.val (.ref ra)] [(.double FP.dconst0), (.double lm)])) _
    refine XS.dcmpS X1.here hx rfl (hb hby d5_5) rfl rfl ?_
    show Steps p.tables e below (T1.setTop (mkF m 6 #[.val (.ref ra)] [(.int (cmpValue (FP.dcmp lm FP.dconst0) .l))])) _
    refine XS.ifYes X1.here hx rfl (pc0 := 6) (pc' := 13) rfl (hb hby d5_6) rfl ((if0 _ _).trans (feq hc6).2) (by decide) (by decide) ?_
    show Steps p.tables e below (T1.setTop (mkF m 13 #[.val (.ref ra)] [])) _
    refine XS.aloadN X1.here hx rfl (hb hby d5_13) rfl rfl ?_
    show Steps p.tables e below (T1.setTop (mkF m 14 #[.val (.ref ra)] [(.ref ra)])) _
    refine st2 _ ?_
    show Steps p.tables e below (T2.setTop (mkF m 17 #[.val (.ref ra)] [(.double us)])) _
    refine XS.aloadN X2.here hx rfl (hb hby d5_17) rfl rfl ?_
    show Steps p.tables e below (T2.setTop (mkF m 18 #[.val (.ref ra)] [(.ref ra), (.double us)])) _
    refine st3 _ ?_
    show Steps p.tables e below (T3.setTop (mkF m 21 #[.val (.ref ra)] [(.double lm), (.double us)])) _
    refine XS.ddivS X3.here hx rfl (hb hby d5_21) rfl (hnn) rfl ?_
    show Steps p.tables e below (T3.setTop (mkF m 22 #[.val (.ref ra)] [(.double (FP.ddiv us lm))])) _
    exact retOut X3 hx Bd.returns rfl (Or.inr (Or.inr (Or.inl ⟨rfl, rfl, _, rfl⟩))) (hb hby d5_22) hr
  · show Q5d Z ra us lm h0 n0 _ T3.heap _
    rw [e3]
    exact ⟨rfl, N0, rfl⟩
theorem own_m16 (x : Int32) : 0 ≤ (x &&& (65535 : Int32)).toInt ∧ (x &&& (65535 : Int32)).toInt ≤ 65535 := by
  have : 0 ≤ (x &&& (65535 : Int32)).toInt ∧ (x &&& (65535 : Int32)).toInt ≤ 65535 := c_and x (65535 : Int32) (by decide)
  generalize (x &&& (65535 : Int32)) = u1_ at *
  try simp only [Int32.reduceToInt, Int64.reduceToInt] at *
  omega
theorem own_m8 (cc : Int32) : 1 ≤ ((cc &&& (255 : Int32)) + (1 : Int32)).toInt ∧ ((cc &&& (255 : Int32)) + (1 : Int32)).toInt ≤ 256 := by
  have : 0 ≤ (cc &&& (255 : Int32)).toInt ∧ (cc &&& (255 : Int32)).toInt ≤ 255 := c_and cc (255 : Int32) (by decide)
  generalize (cc &&& (255 : Int32)) = u1_ at *
  first | have : (u1_ + (1 : Int32)).toInt = u1_.toInt + 1 := own_iadd rfl rfl (by omega) (by omega) | (have := c_iadd u1_ (1 : Int32); simp only [Int32.reduceToInt, Int64.reduceToInt] at this; have := rng32 (u1_ + (1 : Int32)))
  generalize (u1_ + (1 : Int32)) = u2_ at *
  try simp only [Int32.reduceToInt, Int64.reduceToInt] at *
  omega
theorem own_ml (x cc : Int32) : ((x &&& (65535 : Int32)) * ((cc &&& (255 : Int32)) + (1 : Int32))).toInt = (x &&& (65535 : Int32)).toInt * ((cc &&& (255 : Int32)) + (1 : Int32)).toInt ∧ 0 ≤ (x &&& (65535 : Int32)).toInt * ((cc &&& (255 : Int32)) + (1 : Int32)).toInt := by
  have h1 := own_m16 x
  have h2 := own_m8 cc
  have h3 : (x &&& (65535 : Int32)).toInt * ((cc &&& (255 : Int32)) + (1 : Int32)).toInt ≤ 65535 * 256 := Int.mul_le_mul h1.2 h2.2 (by omega) (by omega)
  have h4 : 0 ≤ (x &&& (65535 : Int32)).toInt * ((cc &&& (255 : Int32)) + (1 : Int32)).toInt := Int.mul_nonneg h1.1 (by omega)
  exact ⟨own_imul rfl rfl (by omega) (by omega), h4⟩
theorem own_ql (dd bb : Int32) : (((dd &&& (65535 : Int32)).toInt64) * ((bb &&& (65535 : Int32)).toInt64)).toInt = (dd &&& (65535 : Int32)).toInt * (bb &&& (65535 : Int32)).toInt ∧ 0 ≤ (dd &&& (65535 : Int32)).toInt * (bb &&& (65535 : Int32)).toInt ∧ (dd &&& (65535 : Int32)).toInt * (bb &&& (65535 : Int32)).toInt ≤ 65535 * 65535 := by
  have h1 := own_m16 dd
  have h2 := own_m16 bb
  have h3 : (dd &&& (65535 : Int32)).toInt * (bb &&& (65535 : Int32)).toInt ≤ 65535 * 65535 := Int.mul_le_mul h1.2 h2.2 h2.1 (by omega)
  have h4 : 0 ≤ (dd &&& (65535 : Int32)).toInt * (bb &&& (65535 : Int32)).toInt := Int.mul_nonneg h1.1 h2.1
  exact ⟨own_lmul (Int32.toInt_toInt64 _) (Int32.toInt_toInt64 _) (by omega) (by omega), h4, h3⟩
theorem own_u2 (aa ee : Int32) : ((aa &&& (65535 : Int32)) + (ee &&& (65535 : Int32))).toInt = (aa &&& (65535 : Int32)).toInt + (ee &&& (65535 : Int32)).toInt := by
  have h1 := own_m16 aa
  have h2 := own_m16 ee
  exact own_iadd rfl rfl (by omega) (by omega)
theorem own_tn2 {x : Int32} (h : 0 ≤ x.toInt) : x.toInt = ((x.toInt.toNat : Nat) : Int) := (Int.toNat_of_nonneg h).symm
theorem own_lp {x : Int32} (h : ¬ (x &&& (65535 : Int32)) = (0 : Int32)) : 0 < (x &&& (65535 : Int32)).toInt := by
  have h1 := own_m16 x
  rw [← Int32.toInt_inj, show (0 : Int32).toInt = 0 from rfl] at h
  omega
theorem own_lsn {bb : Int32} (cc : Int32) (h : ¬ (bb &&& (65535 : Int32)) = (0 : Int32)) : ¬ ((bb &&& (65535 : Int32)) * ((cc &&& (255 : Int32)) + (1 : Int32))) = (0 : Int32) := by
  have h1 := own_lp h
  have h2 := own_m8 cc
  rw [← Int32.toInt_inj, (own_ml bb cc).1, show (0 : Int32).toInt = 0 from rfl]
  have h3 : 0 < (bb &&& (65535 : Int32)).toInt * ((cc &&& (255 : Int32)) + (1 : Int32)).toInt := Int.mul_pos h1 (by omega)
  omega
theorem own_iq {x y : Int32} {n m : Nat} (hx : x.toInt = n) (hy : y.toInt = m) : (x / y).toInt = ((n / m : Nat) : Int) := by
  have h1 : y ≠ -1 := by
    rintro rfl
    rw [show (-1 : Int32).toInt = -1 from rfl] at hy
    omega
  rw [(c_idiv x y (m : Int) hy h1).1 (by omega), hx]
  rfl
theorem own_iq1 {x y : Int32} {n m : Nat} (hx : x.toInt = n) (hy : y.toInt = m) (hn : n < 65536) : ((x / y) + (1 : Int32)).toInt = ((n / m + 1 : Nat) : Int) := by
  have h4 := own_iq hx hy
  have h5 := Nat.div_le_self n m
  generalize n / m = d at h4 h5
  exact own_iadd h4 (show (1 : Int32).toInt = 1 from rfl) (by omega) (by omega)
theorem own_c86 (aa bb cc dd ee : Int32) (h : ¬ (bb &&& (65535 : Int32)) = (0 : Int32)) : ¬ ((cmpValue (FP.dcmp (FP.ddiv (FP.i2d (aa &&& (65535 : Int32))) (FP.i2d (bb &&& (65535 : Int32)))) (FP.i2d ((aa &&& (65535 : Int32)) / (bb &&& (65535 : Int32))))) .l) < (0 : Int32)) := by
  have h1 := own_m16 aa
  have h2 := own_m16 bb
  have h3 := own_lp h
  exact own_f86 (own_tn2 h1.1) (own_tn2 h2.1) (own_iq (own_tn2 h1.1) (own_tn2 h2.1)) (by omega) (by omega) (by omega)
theorem own_c97 (aa bb cc dd ee : Int32) (h : ¬ (bb &&& (65535 : Int32)) = (0 : Int32)) : (cmpValue (FP.dcmp (FP.ddiv (FP.i2d (aa &&& (65535 : Int32))) (FP.i2d (bb &&& (65535 : Int32)))) (FP.i2d (((aa &&& (65535 : Int32)) / (bb &&& (65535 : Int32))) + (1 : Int32)))) .g) < (0 : Int32) := by
  have h1 := own_m16 aa
  have h2 := own_m16 bb
  have h3 := own_lp h
  have h6 := own_iq1 (own_tn2 h1.1) (own_tn2 h2.1) (by omega)
  exact own_f97 (own_tn2 h1.1) (own_tn2 h2.1) h6 (by omega) (by omega) (by omega)
theorem own_c182 (aa bb cc dd ee : Int32) (h : ¬ (bb &&& (65535 : Int32)) = (0 : Int32)) : (cmpValue (FP.dcmp (FP.ddiv (FP.l2d (((dd &&& (65535 : Int32)).toInt64) * ((bb &&& (65535 : Int32)).toInt64))) (FP.i2d (bb &&& (65535 : Int32)))) (FP.i2d (dd &&& (65535 : Int32)))) .l) = (0 : Int32) := by
  have h1 := own_m16 dd
  have h2 := own_m16 bb
  have h3 := own_lp h
  refine own_f182 (q := (dd &&& (65535 : Int32)).toInt.toNat) (m := (bb &&& (65535 : Int32)).toInt.toNat) ?_ (own_tn2 h2.1) (own_tn2 h1.1) (by omega) (by omega) (by omega)
  rw [(own_ql dd bb).1, Int.natCast_mul, ← own_tn2 h1.1, ← own_tn2 h2.1]
theorem own_c197 (aa bb cc dd ee : Int32) (h : ¬ (bb &&& (65535 : Int32)) = (0 : Int32)) : (cmpValue (FP.dcmp (FP.ddiv (FP.i2d ((aa &&& (65535 : Int32)) * ((cc &&& (255 : Int32)) + (1 : Int32)))) (FP.i2d ((bb &&& (65535 : Int32)) * ((cc &&& (255 : Int32)) + (1 : Int32))))) (FP.ddiv (FP.i2d (aa &&& (65535 : Int32))) (FP.i2d (bb &&& (65535 : Int32))))) .l) = (0 : Int32) := by
  have h1 := own_m16 aa
  have h2 := own_m16 bb
  have h3 := own_lp h
  have h4 := own_m8 cc
  refine own_f197 (n := (aa &&& (65535 : Int32)).toInt.toNat) (m := (bb &&& (65535 : Int32)).toInt.toNat) (k := ((cc &&& (255 : Int32)) + (1 : Int32)).toInt.toNat) ?_ ?_ (own_tn2 h1.1) (own_tn2 h2.1) (by omega) (by omega) (by omega)
  · rw [(own_ml aa cc).1, Int.natCast_mul, ← own_tn2 h1.1, ← own_tn2 (x := ((cc &&& (255 : Int32)) + (1 : Int32))) (by omega)]
  · rw [(own_ml bb cc).1, Int.natCast_mul, ← own_tn2 h2.1, ← own_tn2 (x := ((cc &&& (255 : Int32)) + (1 : Int32))) (by omega)]
theorem own_c224f (aa bb cc dd ee : Int32) (h : ¬ (bb &&& (65535 : Int32)) = (0 : Int32)) (hu : (aa &&& (65535 : Int32)) < ((aa &&& (65535 : Int32)) + (ee &&& (65535 : Int32)))) : (0 : Int32) < (cmpValue (FP.dcmp (FP.ddiv (FP.i2d ((aa &&& (65535 : Int32)) + (ee &&& (65535 : Int32)))) (FP.i2d (bb &&& (65535 : Int32)))) (FP.ddiv (FP.i2d (aa &&& (65535 : Int32))) (FP.i2d (bb &&& (65535 : Int32))))) .l) := by
  have h1 := own_m16 aa
  have h2 := own_m16 bb
  have h3 := own_lp h
  have h4 := own_m16 ee
  have h5 := own_u2 aa ee
  rw [Int32.lt_iff_toInt_lt] at hu
  exact own_f224 (own_tn2 (by omega)) (own_tn2 h1.1) (own_tn2 h2.1) (by omega) (by omega) (by omega) (by omega)
theorem own_c224t (aa bb cc dd ee : Int32) (h : ¬ (bb &&& (65535 : Int32)) = (0 : Int32)) (hu : ¬ (aa &&& (65535 : Int32)) < ((aa &&& (65535 : Int32)) + (ee &&& (65535 : Int32)))) : ¬ ((0 : Int32) < (cmpValue (FP.dcmp (FP.ddiv (FP.i2d ((aa &&& (65535 : Int32)) + (ee &&& (65535 : Int32)))) (FP.i2d (bb &&& (65535 : Int32)))) (FP.ddiv (FP.i2d (aa &&& (65535 : Int32))) (FP.i2d (bb &&& (65535 : Int32))))) .l)) := by
  have h4 := own_m16 ee
  have h5 := own_u2 aa ee
  rw [Int32.lt_iff_toInt_lt] at hu
  exact own_f224e (Int32.toInt_inj.mp (by omega)) (own_nni h)
theorem ef_0 (m : MethodId) (aa : Int32) (bb : Int32) (cc : Int32) (dd : Int32) (ee : Int32) : entryFrame m #[(.int aa), (.int bb), (.int cc), (.int dd), (.int ee)] maxLocals = mkF m 0 #[.val (.int aa), .val (.int bb), .val (.int cc), .val (.int dd), .val (.int ee), .unset, .unset, .unset, .unset, .unset, .unset, .unset, .unset, .unset, .unset, .unset, .unset, .unset, .unset, .unset, .unset, .unset, .unset, .unset, .unset] [] := by first | (simp [entryFrame, mkF, argsToLocals, Value.category, maxLocals]; done) | rfl
theorem pd_2 : parseMethodDescriptor "(DD)V" = some ⟨[.double, .double], none⟩ := by decide +kernel
theorem pd_3 : parseMethodDescriptor "()D" = some ⟨[], some .double⟩ := by decide +kernel
theorem pn_com_example_bundles_to_brokers_bundlestobrokers_model_ResourceUsageFractionPinLaw : plainName "com/example/bundles_to_brokers/bundlestobrokers/model/ResourceUsageFractionPinLaw" = true := by first | (simp [plainName, overriddenIn]; done) | decide +kernel
def Q0 (Z : State) (aa : Int32) (bb : Int32) (cc : Int32) (dd : Int32) (ee : Int32) (h0 : Heap) (n0 : Nat) (v : Option Value) (h : Heap) (L : List Loc) : Prop := v = some (.int (1 : Int32)) ∧ Fr n0 L
set_option maxRecDepth 65536 in
set_option maxHeartbeats 40000000 in
theorem rm0 (l : Launch) (Z : State) (a0 : Array Value) (hw : ∀ d ∈ tables_1, d.before a0 Z = true) (ws : List Jvm.Cond) (aa : Int32) (bb : Int32) (cc : Int32) (dd : Int32) (ee : Int32) (h0 : Heap) (n0 : Nat) (Z0 : n0 ≤ h0.size) :
    MetFree l x (head1 (Jvm.Cond.code x code maxLocals ret :: ws) room_1) (fun a U => a = #[(.int aa), (.int bb), (.int cc), (.int dd), (.int ee)] ∧ Z.Warmed39 U.vm ∧ U.heap = h0) (fun _ _ _ _ _ => True) (fun _ U o U' => ∃ v L, o = .returned v ∧ Q0 Z aa bb cc dd ee h0 n0 v U'.heap L ∧ ReturnedEndW U o U' L room_1.cells room_1.slots) := by
  refine MetFree.of_bodySF (plainFor_of_name pn_com_example_bundles_to_brokers_bundlestobrokers_model_ResourceUsageFractionPinLaw) hisR ?_
  intro p e s m args below meth c s₁ Bd hml0 hP hK
  obtain ⟨rfl, hZ, hh⟩ := hP
  have hx := Bd.exec
  have hby := Bd.bytes
  have hml : c.maxLocals = 25 := hml0
  have hown : s.vm.findClass "com/example/bundles_to_brokers/bundlestobrokers/model/ResourceUsageFractionPinLaw" = some m.cls := findClass_of_methodNamed Bd.named
  have hnm := (name_of_methodNamed Bd.named Bd.method).1
  have X0 : Stand p l e room_1 s m #[(.int aa), (.int bb), (.int cc), (.int dd), (.int ee)] below meth c s₁ [] 0 0 := Stand.of_body Bd
  have e0 : s₁.heap = h0 := by rw [← hh, Bd.state]; rfl
  have N0 := Fr.nil n0
  have K0 : Keep h0 h0 [] := Keep.refl h0 _
  have pre0 : ∀ t, Steps p.tables e below (s₁.setTop (mkF m 0 #[.val (.int aa), .val (.int bb), .val (.int cc), .val (.int dd), .val (.int ee), .unset, .unset, .unset, .unset, .unset, .unset, .unset, .unset, .unset, .unset, .unset, .unset, .unset, .unset, .unset, .unset, .unset, .unset, .unset, .unset] [])) t → Steps p.tables e below (s₁.setTop (entryFrame m #[(.int aa), (.int bb), (.int cc), (.int dd), (.int ee)] maxLocals)) t := fun t k => castTop (ef_0 m aa bb cc dd ee) k
  obtain ⟨T1, h1, X1, e1, E1, A1, D1, -, st1⟩ := newO X0 hx hZ hown (hw _ (List.mem_of_getElem? (i := 1) rfl)) (hw _ (List.mem_of_getElem? (i := 2) rfl)) (hw _ (List.mem_of_getElem? (i := 3) rfl)) e0 (g := (mkF m 37 #[.val (.int aa), .val (.int bb), .val (.int cc), .val (.int dd), .val (.int ee), .val (.int (aa &&& (65535 : Int32))), .val (.int (bb &&& (65535 : Int32))), .val (.int ((cc &&& (255 : Int32)) + (1 : Int32))), .val (.int (dd &&& (65535 : Int32))), .val (.int ((aa &&& (65535 : Int32)) + (ee &&& (65535 : Int32)))), .unset, .unset, .unset, .unset, .unset, .unset, .unset, .unset, .unset, .unset, .unset, .unset, .unset, .unset, .unset] [])) rfl (hb hby at_37) (by decide) (by decide)
  obtain ⟨b1, g1⟩ : ∃ z, z = h0.size := ⟨_, rfl⟩
  rw [← g1] at A1 D1 st1
  have gg1 : n0 ≤ b1 := Nat.le_trans Z0 (Nat.le_of_eq g1.symm)
  have Z1 : n0 ≤ h1.size := Nat.le_trans Z0 E1.1
  have f2 : Fld Z h1 b1 "com/example/bundles_to_brokers/bundlestobrokers/model/ResourceUsage" "usage" "D" (.double (0 : UInt64)) := D1 (Or.inr (hw _ (List.mem_of_getElem? (i := 30) rfl))) (ty := .double) (by decide)
  have f3 : Fld Z h1 b1 "com/example/bundles_to_brokers/bundlestobrokers/model/ResourceUsage" "limit" "D" (.double (0 : UInt64)) := D1 (Or.inr (hw _ (List.mem_of_getElem? (i := 32) rfl))) (ty := .double) (by decide)
  have pre4 : ∀ t, Steps p.tables e below (T1.setTop (mkF m 47 #[.val (.int aa), .val (.int bb), .val (.int cc), .val (.int dd), .val (.int ee), .val (.int (aa &&& (65535 : Int32))), .val (.int (bb &&& (65535 : Int32))), .val (.int ((cc &&& (255 : Int32)) + (1 : Int32))), .val (.int (dd &&& (65535 : Int32))), .val (.int ((aa &&& (65535 : Int32)) + (ee &&& (65535 : Int32)))), .unset, .unset, .unset, .unset, .unset, .unset, .unset, .unset, .unset, .unset, .unset, .unset, .unset, .unset, .unset] [(.double (FP.i2d (bb &&& (65535 : Int32)))), (.double (FP.i2d (aa &&& (65535 : Int32)))), (.ref b1), (.ref b1)])) t → Steps p.tables e below (s₁.setTop (entryFrame m #[(.int aa), (.int bb), (.int cc), (.int dd), (.int ee)] maxLocals)) t := by
    intro t k
    refine pre0 _ ?_
    show Steps p.tables e below (s₁.setTop (mkF m 0 #[.val (.int aa), .val (.int bb), .val (.int cc), .val (.int dd), .val (.int ee), .unset, .unset, .unset, .unset, .unset, .unset, .unset, .unset, .unset, .unset, .unset, .unset, .unset, .unset, .unset, .unset, .unset, .unset, .unset, .unset] [])) _
    refine XS.iloadN X0.here hx rfl (hb hby at_0) rfl ?_
    show Steps p.tables e below (s₁.setTop (mkF m 1 #[.val (.int aa), .val (.int bb), .val (.int cc), .val (.int dd), .val (.int ee), .unset, .unset, .unset, .unset, .unset, .unset, .unset, .unset, .unset, .unset, .unset, .unset, .unset, .unset, .unset, .unset, .unset, .unset, .unset, .unset] [(.int aa)])) _
    refine X0.ldcInt hx hown (mvT hZ (hw _ (List.mem_of_getElem? (i := 0) rfl))) (g := (mkF m 1 #[.val (.int aa), .val (.int bb), .val (.int cc), .val (.int dd), .val (.int ee), .unset, .unset, .unset, .unset, .unset, .unset, .unset, .unset, .unset, .unset, .unset, .unset, .unset, .unset, .unset, .unset, .unset, .unset, .unset, .unset] [(.int aa)])) rfl (hb hby at_1) _ ?_
    show Steps p.tables e below (s₁.setTop (mkF m 3 #[.val (.int aa), .val (.int bb), .val (.int cc), .val (.int dd), .val (.int ee), .unset, .unset, .unset, .unset, .unset, .unset, .unset, .unset, .unset, .unset, .unset, .unset, .unset, .unset, .unset, .unset, .unset, .unset, .unset, .unset] [(.int (65535 : Int32)), (.int aa)])) _
    refine XS.iand X0.here hx rfl (hb hby at_3) rfl ?_
    show Steps p.tables e below (s₁.setTop (mkF m 4 #[.val (.int aa), .val (.int bb), .val (.int cc), .val (.int dd), .val (.int ee), .unset, .unset, .unset, .unset, .unset, .unset, .unset, .unset, .unset, .unset, .unset, .unset, .unset, .unset, .unset, .unset, .unset, .unset, .unset, .unset] [(.int (aa &&& (65535 : Int32)))])) _
    refine XS.istore X0.here hx rfl (hb hby at_4) rfl (l' := #[.val (.int aa), .val (.int bb), .val (.int cc), .val (.int dd), .val (.int ee), .val (.int (aa &&& (65535 : Int32))), .unset, .unset, .unset, .unset, .unset, .unset, .unset, .unset, .unset, .unset, .unset, .unset, .unset, .unset, .unset, .unset, .unset, .unset, .unset]) rfl ?_
    show Steps p.tables e below (s₁.setTop (mkF m 6 #[.val (.int aa), .val (.int bb), .val (.int cc), .val (.int dd), .val (.int ee), .val (.int (aa &&& (65535 : Int32))), .unset, .unset, .unset, .unset, .unset, .unset, .unset, .unset, .unset, .unset, .unset, .unset, .unset, .unset, .unset, .unset, .unset, .unset, .unset] [])) _
    refine XS.iloadN X0.here hx rfl (hb hby at_6) rfl ?_
    show Steps p.tables e below (s₁.setTop (mkF m 7 #[.val (.int aa), .val (.int bb), .val (.int cc), .val (.int dd), .val (.int ee), .val (.int (aa &&& (65535 : Int32))), .unset, .unset, .unset, .unset, .unset, .unset, .unset, .unset, .unset, .unset, .unset, .unset, .unset, .unset, .unset, .unset, .unset, .unset, .unset] [(.int bb)])) _
    refine X0.ldcInt hx hown (mvT hZ (hw _ (List.mem_of_getElem? (i := 0) rfl))) (g := (mkF m 7 #[.val (.int aa), .val (.int bb), .val (.int cc), .val (.int dd), .val (.int ee), .val (.int (aa &&& (65535 : Int32))), .unset, .unset, .unset, .unset, .unset, .unset, .unset, .unset, .unset, .unset, .unset, .unset, .unset, .unset, .unset, .unset, .unset, .unset, .unset] [(.int bb)])) rfl (hb hby at_7) _ ?_
    show Steps p.tables e below (s₁.setTop (mkF m 9 #[.val (.int aa), .val (.int bb), .val (.int cc), .val (.int dd), .val (.int ee), .val (.int (aa &&& (65535 : Int32))), .unset, .unset, .unset, .unset, .unset, .unset, .unset, .unset, .unset, .unset, .unset, .unset, .unset, .unset, .unset, .unset, .unset, .unset, .unset] [(.int (65535 : Int32)), (.int bb)])) _
    refine XS.iand X0.here hx rfl (hb hby at_9) rfl ?_
    show Steps p.tables e below (s₁.setTop (mkF m 10 #[.val (.int aa), .val (.int bb), .val (.int cc), .val (.int dd), .val (.int ee), .val (.int (aa &&& (65535 : Int32))), .unset, .unset, .unset, .unset, .unset, .unset, .unset, .unset, .unset, .unset, .unset, .unset, .unset, .unset, .unset, .unset, .unset, .unset, .unset] [(.int (bb &&& (65535 : Int32)))])) _
    refine XS.istore X0.here hx rfl (hb hby at_10) rfl (l' := #[.val (.int aa), .val (.int bb), .val (.int cc), .val (.int dd), .val (.int ee), .val (.int (aa &&& (65535 : Int32))), .val (.int (bb &&& (65535 : Int32))), .unset, .unset, .unset, .unset, .unset, .unset, .unset, .unset, .unset, .unset, .unset, .unset, .unset, .unset, .unset, .unset, .unset, .unset]) rfl ?_
    show Steps p.tables e below (s₁.setTop (mkF m 12 #[.val (.int aa), .val (.int bb), .val (.int cc), .val (.int dd), .val (.int ee), .val (.int (aa &&& (65535 : Int32))), .val (.int (bb &&& (65535 : Int32))), .unset, .unset, .unset, .unset, .unset, .unset, .unset, .unset, .unset, .unset, .unset, .unset, .unset, .unset, .unset, .unset, .unset, .unset] [])) _
    refine XS.iloadN X0.here hx rfl (hb hby at_12) rfl ?_
    show Steps p.tables e below (s₁.setTop (mkF m 13 #[.val (.int aa), .val (.int bb), .val (.int cc), .val (.int dd), .val (.int ee), .val (.int (aa &&& (65535 : Int32))), .val (.int (bb &&& (65535 : Int32))), .unset, .unset, .unset, .unset, .unset, .unset, .unset, .unset, .unset, .unset, .unset, .unset, .unset, .unset, .unset, .unset, .unset, .unset] [(.int cc)])) _
    refine XS.sipush X0.here hx rfl (hb hby at_13) ?_
    show Steps p.tables e below (s₁.setTop (mkF m 16 #[.val (.int aa), .val (.int bb), .val (.int cc), .val (.int dd), .val (.int ee), .val (.int (aa &&& (65535 : Int32))), .val (.int (bb &&& (65535 : Int32))), .unset, .unset, .unset, .unset, .unset, .unset, .unset, .unset, .unset, .unset, .unset, .unset, .unset, .unset, .unset, .unset, .unset, .unset] [(.int (255 : Int32)), (.int cc)])) _
    refine XS.iand X0.here hx rfl (hb hby at_16) rfl ?_
    show Steps p.tables e below (s₁.setTop (mkF m 17 #[.val (.int aa), .val (.int bb), .val (.int cc), .val (.int dd), .val (.int ee), .val (.int (aa &&& (65535 : Int32))), .val (.int (bb &&& (65535 : Int32))), .unset, .unset, .unset, .unset, .unset, .unset, .unset, .unset, .unset, .unset, .unset, .unset, .unset, .unset, .unset, .unset, .unset, .unset] [(.int (cc &&& (255 : Int32)))])) _
    refine XS.iconst X0.here hx rfl (hb hby at_17) ?_
    show Steps p.tables e below (s₁.setTop (mkF m 18 #[.val (.int aa), .val (.int bb), .val (.int cc), .val (.int dd), .val (.int ee), .val (.int (aa &&& (65535 : Int32))), .val (.int (bb &&& (65535 : Int32))), .unset, .unset, .unset, .unset, .unset, .unset, .unset, .unset, .unset, .unset, .unset, .unset, .unset, .unset, .unset, .unset, .unset, .unset] [(.int (1 : Int32)), (.int (cc &&& (255 : Int32)))])) _
    refine XS.iadd X0.here hx rfl (hb hby at_18) rfl ?_
    show Steps p.tables e below (s₁.setTop (mkF m 19 #[.val (.int aa), .val (.int bb), .val (.int cc), .val (.int dd), .val (.int ee), .val (.int (aa &&& (65535 : Int32))), .val (.int (bb &&& (65535 : Int32))), .unset, .unset, .unset, .unset, .unset, .unset, .unset, .unset, .unset, .unset, .unset, .unset, .unset, .unset, .unset, .unset, .unset, .unset] [(.int ((cc &&& (255 : Int32)) + (1 : Int32)))])) _
    refine XS.istore X0.here hx rfl (hb hby at_19) rfl (l' := #[.val (.int aa), .val (.int bb), .val (.int cc), .val (.int dd), .val (.int ee), .val (.int (aa &&& (65535 : Int32))), .val (.int (bb &&& (65535 : Int32))), .val (.int ((cc &&& (255 : Int32)) + (1 : Int32))), .unset, .unset, .unset, .unset, .unset, .unset, .unset, .unset, .unset, .unset, .unset, .unset, .unset, .unset, .unset, .unset, .unset]) rfl ?_
    show Steps p.tables e below (s₁.setTop (mkF m 21 #[.val (.int aa), .val (.int bb), .val (.int cc), .val (.int dd), .val (.int ee), .val (.int (aa &&& (65535 : Int32))), .val (.int (bb &&& (65535 : Int32))), .val (.int ((cc &&& (255 : Int32)) + (1 : Int32))), .unset, .unset, .unset, .unset, .unset, .unset, .unset, .unset, .unset, .unset, .unset, .unset, .unset, .unset, .unset, .unset, .unset] [])) _
    refine XS.iloadN X0.here hx rfl (hb hby at_21) rfl ?_
    show Steps p.tables e below (s₁.setTop (mkF m 22 #[.val (.int aa), .val (.int bb), .val (.int cc), .val (.int dd), .val (.int ee), .val (.int (aa &&& (65535 : Int32))), .val (.int (bb &&& (65535 : Int32))), .val (.int ((cc &&& (255 : Int32)) + (1 : Int32))), .unset, .unset, .unset, .unset, .unset, .unset, .unset, .unset, .unset, .unset, .unset, .unset, .unset, .unset, .unset, .unset, .unset] [(.int dd)])) _
    refine X0.ldcInt hx hown (mvT hZ (hw _ (List.mem_of_getElem? (i := 0) rfl))) (g := (mkF m 22 #[.val (.int aa), .val (.int bb), .val (.int cc), .val (.int dd), .val (.int ee), .val (.int (aa &&& (65535 : Int32))), .val (.int (bb &&& (65535 : Int32))), .val (.int ((cc &&& (255 : Int32)) + (1 : Int32))), .unset, .unset, .unset, .unset, .unset, .unset, .unset, .unset, .unset, .unset, .unset, .unset, .unset, .unset, .unset, .unset, .unset] [(.int dd)])) rfl (hb hby at_22) _ ?_
    show Steps p.tables e below (s₁.setTop (mkF m 24 #[.val (.int aa), .val (.int bb), .val (.int cc), .val (.int dd), .val (.int ee), .val (.int (aa &&& (65535 : Int32))), .val (.int (bb &&& (65535 : Int32))), .val (.int ((cc &&& (255 : Int32)) + (1 : Int32))), .unset, .unset, .unset, .unset, .unset, .unset, .unset, .unset, .unset, .unset, .unset, .unset, .unset, .unset, .unset, .unset, .unset] [(.int (65535 : Int32)), (.int dd)])) _
    refine XS.iand X0.here hx rfl (hb hby at_24) rfl ?_
    show Steps p.tables e below (s₁.setTop (mkF m 25 #[.val (.int aa), .val (.int bb), .val (.int cc), .val (.int dd), .val (.int ee), .val (.int (aa &&& (65535 : Int32))), .val (.int (bb &&& (65535 : Int32))), .val (.int ((cc &&& (255 : Int32)) + (1 : Int32))), .unset, .unset, .unset, .unset, .unset, .unset, .unset, .unset, .unset, .unset, .unset, .unset, .unset, .unset, .unset, .unset, .unset] [(.int (dd &&& (65535 : Int32)))])) _
    refine XS.istore X0.here hx rfl (hb hby at_25) rfl (l' := #[.val (.int aa), .val (.int bb), .val (.int cc), .val (.int dd), .val (.int ee), .val (.int (aa &&& (65535 : Int32))), .val (.int (bb &&& (65535 : Int32))), .val (.int ((cc &&& (255 : Int32)) + (1 : Int32))), .val (.int (dd &&& (65535 : Int32))), .unset, .unset, .unset, .unset, .unset, .unset, .unset, .unset, .unset, .unset, .unset, .unset, .unset, .unset, .unset, .unset]) rfl ?_
    show Steps p.tables e below (s₁.setTop (mkF m 27 #[.val (.int aa), .val (.int bb), .val (.int cc), .val (.int dd), .val (.int ee), .val (.int (aa &&& (65535 : Int32))), .val (.int (bb &&& (65535 : Int32))), .val (.int ((cc &&& (255 : Int32)) + (1 : Int32))), .val (.int (dd &&& (65535 : Int32))), .unset, .unset, .unset, .unset, .unset, .unset, .unset, .unset, .unset, .unset, .unset, .unset, .unset, .unset, .unset, .unset] [])) _
    refine XS.iload X0.here hx rfl (hb hby at_27) rfl ?_
    show Steps p.tables e below (s₁.setTop (mkF m 29 #[.val (.int aa), .val (.int bb), .val (.int cc), .val (.int dd), .val (.int ee), .val (.int (aa &&& (65535 : Int32))), .val (.int (bb &&& (65535 : Int32))), .val (.int ((cc &&& (255 : Int32)) + (1 : Int32))), .val (.int (dd &&& (65535 : Int32))), .unset, .unset, .unset, .unset, .unset, .unset, .unset, .unset, .unset, .unset, .unset, .unset, .unset, .unset, .unset, .unset] [(.int (aa &&& (65535 : Int32)))])) _
    refine XS.iload X0.here hx rfl (hb hby at_29) rfl ?_
    show Steps p.tables e below (s₁.setTop (mkF m 31 #[.val (.int aa), .val (.int bb), .val (.int cc), .val (.int dd), .val (.int ee), .val (.int (aa &&& (65535 : Int32))), .val (.int (bb &&& (65535 : Int32))), .val (.int ((cc &&& (255 : Int32)) + (1 : Int32))), .val (.int (dd &&& (65535 : Int32))), .unset, .unset, .unset, .unset, .unset, .unset, .unset, .unset, .unset, .unset, .unset, .unset, .unset, .unset, .unset, .unset] [(.int ee), (.int (aa &&& (65535 : Int32)))])) _
    refine X0.ldcInt hx hown (mvT hZ (hw _ (List.mem_of_getElem? (i := 0) rfl))) (g := (mkF m 31 #[.val (.int aa), .val (.int bb), .val (.int cc), .val (.int dd), .val (.int ee), .val (.int (aa &&& (65535 : Int32))), .val (.int (bb &&& (65535 : Int32))), .val (.int ((cc &&& (255 : Int32)) + (1 : Int32))), .val (.int (dd &&& (65535 : Int32))), .unset, .unset, .unset, .unset, .unset, .unset, .unset, .unset, .unset, .unset, .unset, .unset, .unset, .unset, .unset, .unset] [(.int ee), (.int (aa &&& (65535 : Int32)))])) rfl (hb hby at_31) _ ?_
    show Steps p.tables e below (s₁.setTop (mkF m 33 #[.val (.int aa), .val (.int bb), .val (.int cc), .val (.int dd), .val (.int ee), .val (.int (aa &&& (65535 : Int32))), .val (.int (bb &&& (65535 : Int32))), .val (.int ((cc &&& (255 : Int32)) + (1 : Int32))), .val (.int (dd &&& (65535 : Int32))), .unset, .unset, .unset, .unset, .unset, .unset, .unset, .unset, .unset, .unset, .unset, .unset, .unset, .unset, .unset, .unset] [(.int (65535 : Int32)), (.int ee), (.int (aa &&& (65535 : Int32)))])) _
    refine XS.iand X0.here hx rfl (hb hby at_33) rfl ?_
    show Steps p.tables e below (s₁.setTop (mkF m 34 #[.val (.int aa), .val (.int bb), .val (.int cc), .val (.int dd), .val (.int ee), .val (.int (aa &&& (65535 : Int32))), .val (.int (bb &&& (65535 : Int32))), .val (.int ((cc &&& (255 : Int32)) + (1 : Int32))), .val (.int (dd &&& (65535 : Int32))), .unset, .unset, .unset, .unset, .unset, .unset, .unset, .unset, .unset, .unset, .unset, .unset, .unset, .unset, .unset, .unset] [(.int (ee &&& (65535 : Int32))), (.int (aa &&& (65535 : Int32)))])) _
    refine XS.iadd X0.here hx rfl (hb hby at_34) rfl ?_
    show Steps p.tables e below (s₁.setTop (mkF m 35 #[.val (.int aa), .val (.int bb), .val (.int cc), .val (.int dd), .val (.int ee), .val (.int (aa &&& (65535 : Int32))), .val (.int (bb &&& (65535 : Int32))), .val (.int ((cc &&& (255 : Int32)) + (1 : Int32))), .val (.int (dd &&& (65535 : Int32))), .unset, .unset, .unset, .unset, .unset, .unset, .unset, .unset, .unset, .unset, .unset, .unset, .unset, .unset, .unset, .unset] [(.int ((aa &&& (65535 : Int32)) + (ee &&& (65535 : Int32))))])) _
    refine XS.istore X0.here hx rfl (hb hby at_35) rfl (l' := #[.val (.int aa), .val (.int bb), .val (.int cc), .val (.int dd), .val (.int ee), .val (.int (aa &&& (65535 : Int32))), .val (.int (bb &&& (65535 : Int32))), .val (.int ((cc &&& (255 : Int32)) + (1 : Int32))), .val (.int (dd &&& (65535 : Int32))), .val (.int ((aa &&& (65535 : Int32)) + (ee &&& (65535 : Int32)))), .unset, .unset, .unset, .unset, .unset, .unset, .unset, .unset, .unset, .unset, .unset, .unset, .unset, .unset, .unset]) rfl ?_
    show Steps p.tables e below (s₁.setTop (mkF m 37 #[.val (.int aa), .val (.int bb), .val (.int cc), .val (.int dd), .val (.int ee), .val (.int (aa &&& (65535 : Int32))), .val (.int (bb &&& (65535 : Int32))), .val (.int ((cc &&& (255 : Int32)) + (1 : Int32))), .val (.int (dd &&& (65535 : Int32))), .val (.int ((aa &&& (65535 : Int32)) + (ee &&& (65535 : Int32)))), .unset, .unset, .unset, .unset, .unset, .unset, .unset, .unset, .unset, .unset, .unset, .unset, .unset, .unset, .unset] [])) _
    refine st1 _ ?_
    show Steps p.tables e below (T1.setTop (mkF m 40 #[.val (.int aa), .val (.int bb), .val (.int cc), .val (.int dd), .val (.int ee), .val (.int (aa &&& (65535 : Int32))), .val (.int (bb &&& (65535 : Int32))), .val (.int ((cc &&& (255 : Int32)) + (1 : Int32))), .val (.int (dd &&& (65535 : Int32))), .val (.int ((aa &&& (65535 : Int32)) + (ee &&& (65535 : Int32)))), .unset, .unset, .unset, .unset, .unset, .unset, .unset, .unset, .unset, .unset, .unset, .unset, .unset, .unset, .unset] [(.ref b1)])) _
    refine XS.dup X1.here hx rfl (hb hby at_40) rfl rfl ?_
    show Steps p.tables e below (T1.setTop (mkF m 41 #[.val (.int aa), .val (.int bb), .val (.int cc), .val (.int dd), .val (.int ee), .val (.int (aa &&& (65535 : Int32))), .val (.int (bb &&& (65535 : Int32))), .val (.int ((cc &&& (255 : Int32)) + (1 : Int32))), .val (.int (dd &&& (65535 : Int32))), .val (.int ((aa &&& (65535 : Int32)) + (ee &&& (65535 : Int32)))), .unset, .unset, .unset, .unset, .unset, .unset, .unset, .unset, .unset, .unset, .unset, .unset, .unset, .unset, .unset] [(.ref b1), (.ref b1)])) _
    refine XS.iload X1.here hx rfl (hb hby at_41) rfl ?_
    show Steps p.tables e below (T1.setTop (mkF m 43 #[.val (.int aa), .val (.int bb), .val (.int cc), .val (.int dd), .val (.int ee), .val (.int (aa &&& (65535 : Int32))), .val (.int (bb &&& (65535 : Int32))), .val (.int ((cc &&& (255 : Int32)) + (1 : Int32))), .val (.int (dd &&& (65535 : Int32))), .val (.int ((aa &&& (65535 : Int32)) + (ee &&& (65535 : Int32)))), .unset, .unset, .unset, .unset, .unset, .unset, .unset, .unset, .unset, .unset, .unset, .unset, .unset, .unset, .unset] [(.int (aa &&& (65535 : Int32))), (.ref b1), (.ref b1)])) _
    refine XS.i2dS X1.here hx rfl (hb hby at_43) rfl rfl ?_
    show Steps p.tables e below (T1.setTop (mkF m 44 #[.val (.int aa), .val (.int bb), .val (.int cc), .val (.int dd), .val (.int ee), .val (.int (aa &&& (65535 : Int32))), .val (.int (bb &&& (65535 : Int32))), .val (.int ((cc &&& (255 : Int32)) + (1 : Int32))), .val (.int (dd &&& (65535 : Int32))), .val (.int ((aa &&& (65535 : Int32)) + (ee &&& (65535 : Int32)))), .unset, .unset, .unset, .unset, .unset, .unset, .unset, .unset, .unset, .unset, .unset, .unset, .unset, .unset, .unset] [(.double (FP.i2d (aa &&& (65535 : Int32)))), (.ref b1), (.ref b1)])) _
    refine XS.iload X1.here hx rfl (hb hby at_44) rfl ?_
    show Steps p.tables e below (T1.setTop (mkF m 46 #[.val (.int aa), .val (.int bb), .val (.int cc), .val (.int dd), .val (.int ee), .val (.int (aa &&& (65535 : Int32))), .val (.int (bb &&& (65535 : Int32))), .val (.int ((cc &&& (255 : Int32)) + (1 : Int32))), .val (.int (dd &&& (65535 : Int32))), .val (.int ((aa &&& (65535 : Int32)) + (ee &&& (65535 : Int32)))), .unset, .unset, .unset, .unset, .unset, .unset, .unset, .unset, .unset, .unset, .unset, .unset, .unset, .unset, .unset] [(.int (bb &&& (65535 : Int32))), (.double (FP.i2d (aa &&& (65535 : Int32)))), (.ref b1), (.ref b1)])) _
    refine XS.i2dS X1.here hx rfl (hb hby at_46) rfl rfl ?_
    exact k
  obtain ⟨_, _, ⟨T5, L5, k5, n5⟩, -, X5, hSr5, gr5, ⟨Lc5, hQ5, l5, y5, z5⟩, st5⟩ := X1.specialBackS hx (y := (⟨"com/example/bundles_to_brokers/bundlestobrokers/model/ResourceUsage", "<init>", "(DD)V"⟩ : MethodName)) rfl hown (mvT hZ (hw _ (List.mem_of_getElem? (i := 4) rfl))) (mvT hZ (hw _ (List.mem_of_getElem? (i := 5) rfl))) (mvT hZ (hw _ (List.mem_of_getElem? (i := 6) rfl))) (by decide) (backOfS (W := 1) (rm1 l Z a0 hw [] b1 (FP.i2d (aa &&& (65535 : Int32))) (FP.i2d (bb &&& (65535 : Int32))) (0 : UInt64) (0 : UInt64) h1 n0 Z1 (own_fi _) (own_gi (own_m16 aa).1) (own_fi _) (own_gi (own_m16 bb).1) A1 f2 f3 gg1) hZ (hw _ (List.mem_of_getElem? (i := 6) rfl)) (hw _ (List.mem_of_getElem? (i := 3) rfl)) (by decide) (by decide)) (g := (mkF m 47 #[.val (.int aa), .val (.int bb), .val (.int cc), .val (.int dd), .val (.int ee), .val (.int (aa &&& (65535 : Int32))), .val (.int (bb &&& (65535 : Int32))), .val (.int ((cc &&& (255 : Int32)) + (1 : Int32))), .val (.int (dd &&& (65535 : Int32))), .val (.int ((aa &&& (65535 : Int32)) + (ee &&& (65535 : Int32)))), .unset, .unset, .unset, .unset, .unset, .unset, .unset, .unset, .unset, .unset, .unset, .unset, .unset, .unset, .unset] [(.double (FP.i2d (bb &&& (65535 : Int32)))), (.double (FP.i2d (aa &&& (65535 : Int32)))), (.ref b1), (.ref b1)])) rfl (by rw [hml]; rfl) (Steps.refl _) (a := b1) (argsL := [(.double (FP.i2d (aa &&& (65535 : Int32)))), (.double (FP.i2d (bb &&& (65535 : Int32))))]) (rest := [(.ref b1)]) (lenOf pd_2 rfl) rfl (by show 2 * 0 + _ ≤ _; exact Nat.le_of_eq rfl) (hb hby at_47) (fun _ _ => ⟨rfl, e1, (by decide : 1 + 4 ≤ _), (by decide : 2 + 48 ≤ _)⟩)
  dsimp only [Pt.U, Pt.locs, Pt.cells, Pt.slots] at hSr5 gr5 X5 l5 y5 z5 st5 hQ5
  subst y5 z5
  have hS5 : s.Since T5.vm T5.heap.size := hSr5
  have hZ5 : Z.Warmed39 (s.setVm T5.vm).vm := State.Warmed39.trans (t := s) hZ hSr5.1
  have hown5 : (s.setVm T5.vm).vm.findClass "com/example/bundles_to_brokers/bundlestobrokers/model/ResourceUsageFractionPinLaw" = some m.cls := by rw [show (s.setVm T5.vm).vm = T5.vm from rfl, hSr5.1.alike.findClass]; exact hown
  replace X5 : Stand p l e _ (s.setVm T5.vm) m _ below meth c T5 L5 _ _ := X5
  have kS5 : T5.heap.size ≤ T5.heap.size := Nat.le_refl _
  obtain ⟨rfl, N5q, K5c, f6, f7⟩ := hQ5
  have N5 : Fr n0 L5 := by rw [l5]; exact Fr.app N0 N5q
  have f8 : Exa Z T5.heap b1 "com/example/bundles_to_brokers/bundlestobrokers/model/ResourceUsage" := A1.keep K5c
  have Z5 : n0 ≤ T5.heap.size := Nat.le_trans Z1 K5c.1
  have pre9 : ∀ t, Steps p.tables e below (T5.setTop (mkF m 50 #[.val (.int aa), .val (.int bb), .val (.int cc), .val (.int dd), .val (.int ee), .val (.int (aa &&& (65535 : Int32))), .val (.int (bb &&& (65535 : Int32))), .val (.int ((cc &&& (255 : Int32)) + (1 : Int32))), .val (.int (dd &&& (65535 : Int32))), .val (.int ((aa &&& (65535 : Int32)) + (ee &&& (65535 : Int32)))), .unset, .unset, .unset, .unset, .unset, .unset, .unset, .unset, .unset, .unset, .unset, .unset, .unset, .unset, .unset] [(.ref b1)])) t → Steps p.tables e below (s₁.setTop (entryFrame m #[(.int aa), (.int bb), (.int cc), (.int dd), (.int ee)] maxLocals)) t := by
    intro t k
    refine pre4 _ ?_
    show Steps p.tables e below (T1.setTop (mkF m 47 #[.val (.int aa), .val (.int bb), .val (.int cc), .val (.int dd), .val (.int ee), .val (.int (aa &&& (65535 : Int32))), .val (.int (bb &&& (65535 : Int32))), .val (.int ((cc &&& (255 : Int32)) + (1 : Int32))), .val (.int (dd &&& (65535 : Int32))), .val (.int ((aa &&& (65535 : Int32)) + (ee &&& (65535 : Int32)))), .unset, .unset, .unset, .unset, .unset, .unset, .unset, .unset, .unset, .unset, .unset, .unset, .unset, .unset, .unset] [(.double (FP.i2d (bb &&& (65535 : Int32)))), (.double (FP.i2d (aa &&& (65535 : Int32)))), (.ref b1), (.ref b1)])) _
    refine st5.trans ?_
    exact k
  by_cases hk10 : (bb &&& (65535 : Int32)) = (0 : Int32)
  · obtain ⟨cq11, kq11, q11a, q11b, q11c⟩ := isOf hZ5 rfl f8
    obtain ⟨_, _, ⟨T11, L11, k11, n11⟩, -, X11, ⟨Lc11, hQ11, l11, y11, z11⟩, st11⟩ := X5.virtualBack hx (y := (⟨"com/example/bundles_to_brokers/bundlestobrokers/model/ResourceUsage", "fraction", "()D"⟩ : MethodName)) (z := (⟨"com/example/bundles_to_brokers/bundlestobrokers/model/ResourceUsage", "fraction", "()D"⟩ : MethodName)) hown5 (mvT hZ5 (hw _ (List.mem_of_getElem? (i := 33) rfl))) (mvT hZ5 (hw _ (List.mem_of_getElem? (i := 34) rfl))) (notFace_of_selects (args := #[]) (mvT hZ5 (hw _ (List.mem_of_getElem? (i := 36) rfl)))) (mvT hZ5 (hw _ (List.mem_of_getElem? (i := 36) rfl))) (mvT hZ5 (hw _ (List.mem_of_getElem? (i := 35) rfl))) (by decide) (backOf (W := 0) (rm5z l Z a0 hw [] b1 (FP.i2d (aa &&& (65535 : Int32))) (FP.i2d (bb &&& (65535 : Int32))) T5.heap n0 Z5 f6 f7 (own_z hk10)) hZ5 (hw _ (List.mem_of_getElem? (i := 37) rfl)) (hw _ (List.mem_of_getElem? (i := 3) rfl)) (by decide) (by decide)) q11a q11c (g := (mkF m 50 #[.val (.int aa), .val (.int bb), .val (.int cc), .val (.int dd), .val (.int ee), .val (.int (aa &&& (65535 : Int32))), .val (.int (bb &&& (65535 : Int32))), .val (.int ((cc &&& (255 : Int32)) + (1 : Int32))), .val (.int (dd &&& (65535 : Int32))), .val (.int ((aa &&& (65535 : Int32)) + (ee &&& (65535 : Int32)))), .unset, .unset, .unset, .unset, .unset, .unset, .unset, .unset, .unset, .unset, .unset, .unset, .unset, .unset, .unset] [(.ref b1)])) rfl (by rw [hml]; rfl) (Steps.refl _) (argsL := []) (rest := []) (lenOf pd_3 rfl) rfl (by show 2 * 0 + _ ≤ _; exact Nat.le_of_eq rfl) (hb hby at_50) (fun _ _ => ⟨rfl, rfl, (by decide : 5 + 0 ≤ _), (by decide : 50 + 0 ≤ _)⟩)
    dsimp only [Pt.U, Pt.locs, Pt.cells, Pt.slots] at X11 l11 y11 z11 st11 hQ11
    subst y11 z11
    obtain ⟨rfl, N11q, e11⟩ := hQ11
    have N11 : Fr n0 L11 := by rw [l11]; exact Fr.app N5 N11q
    obtain ⟨fs, hr, hrun, hended, hW⟩ := Stand.leaveW (s := s) (vm₁ := T5.vm) X11 hS5 (by rw [e11]; exact kS5) (v := some (.int (1 : Int32))) (fun h => by rw [Bd.returns] at h; cases h) (hlocks := Bd.notSynchronized)
    refine ⟨_, _, pre9 _ ?_, hrun, hended, _, _, rfl, ?_, ⟨_, rfl⟩, hW.2.1, hW.2.2.1, hW.2.2.2.mono (by decide) (by decide)⟩
    · show Steps p.tables e below (T5.setTop (mkF m 50 #[.val (.int aa), .val (.int bb), .val (.int cc), .val (.int dd), .val (.int ee), .val (.int (aa &&& (65535 : Int32))), .val (.int (bb &&& (65535 : Int32))), .val (.int ((cc &&& (255 : Int32)) + (1 : Int32))), .val (.int (dd &&& (65535 : Int32))), .val (.int ((aa &&& (65535 : Int32)) + (ee &&& (65535 : Int32)))), .unset, .unset, .unset, .unset, .unset, .unset, .unset, .unset, .unset, .unset, .unset, .unset, .unset, .unset, .unset] [(.ref b1)])) _
      refine st11.trans ?_
      show Steps p.tables e below (T11.setTop (mkF m 53 #[.val (.int aa), .val (.int bb), .val (.int cc), .val (.int dd), .val (.int ee), .val (.int (aa &&& (65535 : Int32))), .val (.int (bb &&& (65535 : Int32))), .val (.int ((cc &&& (255 : Int32)) + (1 : Int32))), .val (.int (dd &&& (65535 : Int32))), .val (.int ((aa &&& (65535 : Int32)) + (ee &&& (65535 : Int32)))), .unset, .unset, .unset, .unset, .unset, .unset, .unset, .unset, .unset, .unset, .unset, .unset, .unset, .unset, .unset] [(.double FP.dconst0)])) _
      refine XS.dstore X11.here hx rfl (hb hby at_53) rfl (l' := #[.val (.int aa), .val (.int bb), .val (.int cc), .val (.int dd), .val (.int ee), .val (.int (aa &&& (65535 : Int32))), .val (.int (bb &&& (65535 : Int32))), .val (.int ((cc &&& (255 : Int32)) + (1 : Int32))), .val (.int (dd &&& (65535 : Int32))), .val (.int ((aa &&& (65535 : Int32)) + (ee &&& (65535 : Int32)))), .val (.double FP.dconst0), .second, .unset, .unset, .unset, .unset, .unset, .unset, .unset, .unset, .unset, .unset, .unset, .unset, .unset]) rfl ?_
      show Steps p.tables e below (T11.setTop (mkF m 55 #[.val (.int aa), .val (.int bb), .val (.int cc), .val (.int dd), .val (.int ee), .val (.int (aa &&& (65535 : Int32))), .val (.int (bb &&& (65535 : Int32))), .val (.int ((cc &&& (255 : Int32)) + (1 : Int32))), .val (.int (dd &&& (65535 : Int32))), .val (.int ((aa &&& (65535 : Int32)) + (ee &&& (65535 : Int32)))), .val (.double FP.dconst0), .second, .unset, .unset, .unset, .unset, .unset, .unset, .unset, .unset, .unset, .unset, .unset, .unset, .unset] [])) _
      refine XS.iload X11.here hx rfl (hb hby at_55) rfl ?_
      show Steps p.tables e below (T11.setTop (mkF m 57 #[.val (.int aa), .val (.int bb), .val (.int cc), .val (.int dd), .val (.int ee), .val (.int (aa &&& (65535 : Int32))), .val (.int (bb &&& (65535 : Int32))), .val (.int ((cc &&& (255 : Int32)) + (1 : Int32))), .val (.int (dd &&& (65535 : Int32))), .val (.int ((aa &&& (65535 : Int32)) + (ee &&& (65535 : Int32)))), .val (.double FP.dconst0), .second, .unset, .unset, .unset, .unset, .unset, .unset, .unset, .unset, .unset, .unset, .unset, .unset, .unset] [(.int (bb &&& (65535 : Int32)))])) _
      refine XS.ifNo X11.here hx rfl (hb hby at_57) rfl ((if0 _ _).trans (teq hk10).2) ?_
      show Steps p.tables e below (T11.setTop (mkF m 60 #[.val (.int aa), .val (.int bb), .val (.int cc), .val (.int dd), .val (.int ee), .val (.int (aa &&& (65535 : Int32))), .val (.int (bb &&& (65535 : Int32))), .val (.int ((cc &&& (255 : Int32)) + (1 : Int32))), .val (.int (dd &&& (65535 : Int32))), .val (.int ((aa &&& (65535 : Int32)) + (ee &&& (65535 : Int32)))), .val (.double FP.dconst0), .second, .unset, .unset, .unset, .unset, .unset, .unset, .unset, .unset, .unset, .unset, .unset, .unset, .unset] [])) _
      refine XS.dload X11.here hx rfl (hb hby at_60) rfl ?_
      show Steps p.tables e below (T11.setTop (mkF m 62 #[.val (.int aa), .val (.int bb), .val (.int cc), .val (.int dd), .val (.int ee), .val (.int (aa &&& (65535 : Int32))), .val (.int (bb &&& (65535 : Int32))), .val (.int ((cc &&& (255 : Int32)) + (1 : Int32))), .val (.int (dd &&& (65535 : Int32))), .val (.int ((aa &&& (65535 : Int32)) + (ee &&& (65535 : Int32)))), .val (.double FP.dconst0), .second, .unset, .unset, .unset, .unset, .unset, .unset, .unset, .unset, .unset, .unset, .unset, .unset, .unset] [(.double FP.dconst0)])) _
      refine XS.dconst0 X11.here hx rfl (hb hby at_62) (v := FP.dconst0) rfl ?_
      show Steps p.tables e below (T11.setTop (mkF m 63 #[.val (.int aa), .val (.int bb), .val (.int cc), .val (.int dd), .val (.int ee), .val (.int (aa &&& (65535 : Int32))), .val (.int (bb &&& (65535 : Int32))), .val (.int ((cc &&& (255 : Int32)) + (1 : Int32))), .val (.int (dd &&& (65535 : Int32))), .val (.int ((aa &&& (65535 : Int32)) + (ee &&& (65535 : Int32)))), .val (.double FP.dconst0), .second, .unset, .unset, .unset, .unset, .unset, .unset, .unset, .unset, .unset, .unset, .unset, .unset, .unset] [(.double FP.dconst0), (.double FP.dconst0)])) _
      refine XS.dcmpS X11.here hx rfl (hb hby at_63) rfl rfl ?_
      show Steps p.tables e below (T11.setTop (mkF m 64 #[.val (.int aa), .val (.int bb), .val (.int cc), .val (.int dd), .val (.int ee), .val (.int (aa &&& (65535 : Int32))), .val (.int (bb &&& (65535 : Int32))), .val (.int ((cc &&& (255 : Int32)) + (1 : Int32))), .val (.int (dd &&& (65535 : Int32))), .val (.int ((aa &&& (65535 : Int32)) + (ee &&& (65535 : Int32)))), .val (.double FP.dconst0), .second, .unset, .unset, .unset, .unset, .unset, .unset, .unset, .unset, .unset, .unset, .unset, .unset, .unset] [(.int (cmpValue (FP.dcmp FP.dconst0 FP.dconst0) .l))])) _
      refine XS.ifNo X11.here hx rfl (hb hby at_64) rfl ((if0 _ _).trans (teq (own_c64 : ((cmpValue (FP.dcmp FP.dconst0 FP.dconst0) .l) = (0 : Int32)))).2) ?_
      show Steps p.tables e below (T11.setTop (mkF m 67 #[.val (.int aa), .val (.int bb), .val (.int cc), .val (.int dd), .val (.int ee), .val (.int (aa &&& (65535 : Int32))), .val (.int (bb &&& (65535 : Int32))), .val (.int ((cc &&& (255 : Int32)) + (1 : Int32))), .val (.int (dd &&& (65535 : Int32))), .val (.int ((aa &&& (65535 : Int32)) + (ee &&& (65535 : Int32)))), .val (.double FP.dconst0), .second, .unset, .unset, .unset, .unset, .unset, .unset, .unset, .unset, .unset, .unset, .unset, .unset, .unset] [])) _
      refine XS.iconst X11.here hx rfl (hb hby at_67) ?_
      show Steps p.tables e below (T11.setTop (mkF m 68 #[.val (.int aa), .val (.int bb), .val (.int cc), .val (.int dd), .val (.int ee), .val (.int (aa &&& (65535 : Int32))), .val (.int (bb &&& (65535 : Int32))), .val (.int ((cc &&& (255 : Int32)) + (1 : Int32))), .val (.int (dd &&& (65535 : Int32))), .val (.int ((aa &&& (65535 : Int32)) + (ee &&& (65535 : Int32)))), .val (.double FP.dconst0), .second, .unset, .unset, .unset, .unset, .unset, .unset, .unset, .unset, .unset, .unset, .unset, .unset, .unset] [(.int (1 : Int32))])) _
      refine XS.goto X11.here hx rfl (pc0 := 68) (pc' := 72) rfl (hb hby at_68) (by decide) (by decide) ?_
      show Steps p.tables e below (T11.setTop (mkF m 72 #[.val (.int aa), .val (.int bb), .val (.int cc), .val (.int dd), .val (.int ee), .val (.int (aa &&& (65535 : Int32))), .val (.int (bb &&& (65535 : Int32))), .val (.int ((cc &&& (255 : Int32)) + (1 : Int32))), .val (.int (dd &&& (65535 : Int32))), .val (.int ((aa &&& (65535 : Int32)) + (ee &&& (65535 : Int32)))), .val (.double FP.dconst0), .second, .unset, .unset, .unset, .unset, .unset, .unset, .unset, .unset, .unset, .unset, .unset, .unset, .unset] [(.int (1 : Int32))])) _
      exact retN X11 hx (t := .boolean) Bd.returns (by simp) (hb hby at_72) hr
    · show Q0 Z aa bb cc dd ee h0 n0 _ T11.heap _
      rw [e11]
      exact ⟨rfl, N11⟩
  · obtain ⟨cq12, kq12, q12a, q12b, q12c⟩ := isOf hZ5 rfl f8
    obtain ⟨_, _, ⟨T12, L12, k12, n12⟩, -, X12, ⟨Lc12, hQ12, l12, y12, z12⟩, st12⟩ := X5.virtualBack hx (y := (⟨"com/example/bundles_to_brokers/bundlestobrokers/model/ResourceUsage", "fraction", "()D"⟩ : MethodName)) (z := (⟨"com/example/bundles_to_brokers/bundlestobrokers/model/ResourceUsage", "fraction", "()D"⟩ : MethodName)) hown5 (mvT hZ5 (hw _ (List.mem_of_getElem? (i := 33) rfl))) (mvT hZ5 (hw _ (List.mem_of_getElem? (i := 34) rfl))) (notFace_of_selects (args := #[]) (mvT hZ5 (hw _ (List.mem_of_getElem? (i := 36) rfl)))) (mvT hZ5 (hw _ (List.mem_of_getElem? (i := 36) rfl))) (mvT hZ5 (hw _ (List.mem_of_getElem? (i := 35) rfl))) (by decide) (backOf (W := 0) (rm5d l Z a0 hw [] b1 (FP.i2d (aa &&& (65535 : Int32))) (FP.i2d (bb &&& (65535 : Int32))) T5.heap n0 Z5 f6 f7 (own_nni hk10) (own_n hk10)) hZ5 (hw _ (List.mem_of_getElem? (i := 37) rfl)) (hw _ (List.mem_of_getElem? (i := 3) rfl)) (by decide) (by decide)) q12a q12c (g := (mkF m 50 #[.val (.int aa), .val (.int bb), .val (.int cc), .val (.int dd), .val (.int ee), .val (.int (aa &&& (65535 : Int32))), .val (.int (bb &&& (65535 : Int32))), .val (.int ((cc &&& (255 : Int32)) + (1 : Int32))), .val (.int (dd &&& (65535 : Int32))), .val (.int ((aa &&& (65535 : Int32)) + (ee &&& (65535 : Int32)))), .unset, .unset, .unset, .unset, .unset, .unset, .unset, .unset, .unset, .unset, .unset, .unset, .unset, .unset, .unset] [(.ref b1)])) rfl (by rw [hml]; rfl) (Steps.refl _) (argsL := []) (rest := []) (lenOf pd_3 rfl) rfl (by show 2 * 0 + _ ≤ _; exact Nat.le_of_eq rfl) (hb hby at_50) (fun _ _ => ⟨rfl, rfl, (by decide : 5 + 0 ≤ _), (by decide : 50 + 0 ≤ _)⟩)
    dsimp only [Pt.U, Pt.locs, Pt.cells, Pt.slots] at X12 l12 y12 z12 st12 hQ12
    subst y12 z12
    obtain ⟨rfl, N12q, e12⟩ := hQ12
    have N12 : Fr n0 L12 := by rw [l12]; exact Fr.app N5 N12q
    obtain ⟨T13, h13, X13, e13, E13, A13, D13, -, st13⟩ := newO X12 hx hZ5 hown5 (hw _ (List.mem_of_getElem? (i := 1) rfl)) (hw _ (List.mem_of_getElem? (i := 2) rfl)) (hw _ (List.mem_of_getElem? (i := 3) rfl)) e12 (g := (mkF m 107 #[.val (.int aa), .val (.int bb), .val (.int cc), .val (.int dd), .val (.int ee), .val (.int (aa &&& (65535 : Int32))), .val (.int (bb &&& (65535 : Int32))), .val (.int ((cc &&& (255 : Int32)) + (1 : Int32))), .val (.int (dd &&& (65535 : Int32))), .val (.int ((aa &&& (65535 : Int32)) + (ee &&& (65535 : Int32)))), .val (.double (FP.ddiv (FP.i2d (aa &&& (65535 : Int32))) (FP.i2d (bb &&& (65535 : Int32))))), .second, .val (.int ((aa &&& (65535 : Int32)) / (bb &&& (65535 : Int32)))), .val (.int (1 : Int32)), .unset, .unset, .unset, .unset, .unset, .unset, .unset, .unset, .unset, .unset, .unset] [])) rfl (hb hby at_107) (by decide) (by decide)
    obtain ⟨b13, g13⟩ : ∃ z, z = T5.heap.size := ⟨_, rfl⟩
    rw [← g13] at A13 D13 st13
    have ne14 : b1 ≠ b13 := Nat.ne_of_lt (Nat.lt_of_lt_of_le f8.lt (Nat.le_of_eq g13.symm))
    have gg13 : n0 ≤ b13 := Nat.le_trans Z5 (Nat.le_of_eq g13.symm)
    have f15 : Exa Z h13 b1 "com/example/bundles_to_brokers/bundlestobrokers/model/ResourceUsage" := f8.ext E13
    have f16 : Fld Z h13 b1 "com/example/bundles_to_brokers/bundlestobrokers/model/ResourceUsage" "usage" "D" (.double (FP.i2d (aa &&& (65535 : Int32)))) := f6.ext E13
    have f17 : Fld Z h13 b1 "com/example/bundles_to_brokers/bundlestobrokers/model/ResourceUsage" "limit" "D" (.double (FP.i2d (bb &&& (65535 : Int32)))) := f7.ext E13
    have Z13 : n0 ≤ h13.size := Nat.le_trans Z5 E13.1
    have kS13 : _ ≤ h13.size := Nat.le_trans kS5 E13.1
    have f18 : Fld Z h13 b13 "com/example/bundles_to_brokers/bundlestobrokers/model/ResourceUsage" "usage" "D" (.double (0 : UInt64)) := D13 (Or.inr (hw _ (List.mem_of_getElem? (i := 30) rfl))) (ty := .double) (by decide)
    have f19 : Fld Z h13 b13 "com/example/bundles_to_brokers/bundlestobrokers/model/ResourceUsage" "limit" "D" (.double (0 : UInt64)) := D13 (Or.inr (hw _ (List.mem_of_getElem? (i := 32) rfl))) (ty := .double) (by decide)
    have pre20 : ∀ t, Steps p.tables e below (T13.setTop (mkF m 123 #[.val (.int aa), .val (.int bb), .val (.int cc), .val (.int dd), .val (.int ee), .val (.int (aa &&& (65535 : Int32))), .val (.int (bb &&& (65535 : Int32))), .val (.int ((cc &&& (255 : Int32)) + (1 : Int32))), .val (.int (dd &&& (65535 : Int32))), .val (.int ((aa &&& (65535 : Int32)) + (ee &&& (65535 : Int32)))), .val (.double (FP.ddiv (FP.i2d (aa &&& (65535 : Int32))) (FP.i2d (bb &&& (65535 : Int32))))), .second, .val (.int ((aa &&& (65535 : Int32)) / (bb &&& (65535 : Int32)))), .val (.int (1 : Int32)), .unset, .unset, .unset, .unset, .unset, .unset, .unset, .unset, .unset, .unset, .unset] [(.double (FP.i2d ((bb &&& (65535 : Int32)) * ((cc &&& (255 : Int32)) + (1 : Int32))))), (.double (FP.i2d ((aa &&& (65535 : Int32)) * ((cc &&& (255 : Int32)) + (1 : Int32))))), (.ref b13), (.ref b13)])) t → Steps p.tables e below (s₁.setTop (entryFrame m #[(.int aa), (.int bb), (.int cc), (.int dd), (.int ee)] maxLocals)) t := by
      intro t k
      refine pre9 _ ?_
      show Steps p.tables e below (T5.setTop (mkF m 50 #[.val (.int aa), .val (.int bb), .val (.int cc), .val (.int dd), .val (.int ee), .val (.int (aa &&& (65535 : Int32))), .val (.int (bb &&& (65535 : Int32))), .val (.int ((cc &&& (255 : Int32)) + (1 : Int32))), .val (.int (dd &&& (65535 : Int32))), .val (.int ((aa &&& (65535 : Int32)) + (ee &&& (65535 : Int32)))), .unset, .unset, .unset, .unset, .unset, .unset, .unset, .unset, .unset, .unset, .unset, .unset, .unset, .unset, .unset] [(.ref b1)])) _
      refine st12.trans ?_
      show Steps p.tables e below (T12.setTop (mkF m 53 #[.val (.int aa), .val (.int bb), .val (.int cc), .val (.int dd), .val (.int ee), .val (.int (aa &&& (65535 : Int32))), .val (.int (bb &&& (65535 : Int32))), .val (.int ((cc &&& (255 : Int32)) + (1 : Int32))), .val (.int (dd &&& (65535 : Int32))), .val (.int ((aa &&& (65535 : Int32)) + (ee &&& (65535 : Int32)))), .unset, .unset, .unset, .unset, .unset, .unset, .unset, .unset, .unset, .unset, .unset, .unset, .unset, .unset, .unset] [(.double (FP.ddiv (FP.i2d (aa &&& (65535 : Int32))) (FP.i2d (bb &&& (65535 : Int32)))))])) _
      refine XS.dstore X12.here hx rfl (hb hby at_53) rfl (l' := #[.val (.int aa), .val (.int bb), .val (.int cc), .val (.int dd), .val (.int ee), .val (.int (aa &&& (65535 : Int32))), .val (.int (bb &&& (65535 : Int32))), .val (.int ((cc &&& (255 : Int32)) + (1 : Int32))), .val (.int (dd &&& (65535 : Int32))), .val (.int ((aa &&& (65535 : Int32)) + (ee &&& (65535 : Int32)))), .val (.double (FP.ddiv (FP.i2d (aa &&& (65535 : Int32))) (FP.i2d (bb &&& (65535 : Int32))))), .second, .unset, .unset, .unset, .unset, .unset, .unset, .unset, .unset, .unset, .unset, .unset, .unset, .unset]) rfl ?_
      show Steps p.tables e below (T12.setTop (mkF m 55 #[.val (.int aa), .val (.int bb), .val (.int cc), .val (.int dd), .val (.int ee), .val (.int (aa &&& (65535 : Int32))), .val (.int (bb &&& (65535 : Int32))), .val (.int ((cc &&& (255 : Int32)) + (1 : Int32))), .val (.int (dd &&& (65535 : Int32))), .val (.int ((aa &&& (65535 : Int32)) + (ee &&& (65535 : Int32)))), .val (.double (FP.ddiv (FP.i2d (aa &&& (65535 : Int32))) (FP.i2d (bb &&& (65535 : Int32))))), .second, .unset, .unset, .unset, .unset, .unset, .unset, .unset, .unset, .unset, .unset, .unset, .unset, .unset] [])) _
      refine XS.iload X12.here hx rfl (hb hby at_55) rfl ?_
      show Steps p.tables e below (T12.setTop (mkF m 57 #[.val (.int aa), .val (.int bb), .val (.int cc), .val (.int dd), .val (.int ee), .val (.int (aa &&& (65535 : Int32))), .val (.int (bb &&& (65535 : Int32))), .val (.int ((cc &&& (255 : Int32)) + (1 : Int32))), .val (.int (dd &&& (65535 : Int32))), .val (.int ((aa &&& (65535 : Int32)) + (ee &&& (65535 : Int32)))), .val (.double (FP.ddiv (FP.i2d (aa &&& (65535 : Int32))) (FP.i2d (bb &&& (65535 : Int32))))), .second, .unset, .unset, .unset, .unset, .unset, .unset, .unset, .unset, .unset, .unset, .unset, .unset, .unset] [(.int (bb &&& (65535 : Int32)))])) _
      refine XS.ifYes X12.here hx rfl (pc0 := 57) (pc' := 73) rfl (hb hby at_57) rfl ((if0 _ _).trans (feq hk10).2) (by decide) (by decide) ?_
      show Steps p.tables e below (T12.setTop (mkF m 73 #[.val (.int aa), .val (.int bb), .val (.int cc), .val (.int dd), .val (.int ee), .val (.int (aa &&& (65535 : Int32))), .val (.int (bb &&& (65535 : Int32))), .val (.int ((cc &&& (255 : Int32)) + (1 : Int32))), .val (.int (dd &&& (65535 : Int32))), .val (.int ((aa &&& (65535 : Int32)) + (ee &&& (65535 : Int32)))), .val (.double (FP.ddiv (FP.i2d (aa &&& (65535 : Int32))) (FP.i2d (bb &&& (65535 : Int32))))), .second, .unset, .unset, .unset, .unset, .unset, .unset, .unset, .unset, .unset, .unset, .unset, .unset, .unset] [])) _
      refine XS.iload X12.here hx rfl (hb hby at_73) rfl ?_
      show Steps p.tables e below (T12.setTop (mkF m 75 #[.val (.int aa), .val (.int bb), .val (.int cc), .val (.int dd), .val (.int ee), .val (.int (aa &&& (65535 : Int32))), .val (.int (bb &&& (65535 : Int32))), .val (.int ((cc &&& (255 : Int32)) + (1 : Int32))), .val (.int (dd &&& (65535 : Int32))), .val (.int ((aa &&& (65535 : Int32)) + (ee &&& (65535 : Int32)))), .val (.double (FP.ddiv (FP.i2d (aa &&& (65535 : Int32))) (FP.i2d (bb &&& (65535 : Int32))))), .second, .unset, .unset, .unset, .unset, .unset, .unset, .unset, .unset, .unset, .unset, .unset, .unset, .unset] [(.int (aa &&& (65535 : Int32)))])) _
      refine XS.iload X12.here hx rfl (hb hby at_75) rfl ?_
      show Steps p.tables e below (T12.setTop (mkF m 77 #[.val (.int aa), .val (.int bb), .val (.int cc), .val (.int dd), .val (.int ee), .val (.int (aa &&& (65535 : Int32))), .val (.int (bb &&& (65535 : Int32))), .val (.int ((cc &&& (255 : Int32)) + (1 : Int32))), .val (.int (dd &&& (65535 : Int32))), .val (.int ((aa &&& (65535 : Int32)) + (ee &&& (65535 : Int32)))), .val (.double (FP.ddiv (FP.i2d (aa &&& (65535 : Int32))) (FP.i2d (bb &&& (65535 : Int32))))), .second, .unset, .unset, .unset, .unset, .unset, .unset, .unset, .unset, .unset, .unset, .unset, .unset, .unset] [(.int (bb &&& (65535 : Int32))), (.int (aa &&& (65535 : Int32)))])) _
      refine XS.idiv X12.here hx rfl (hb hby at_77) rfl (hk10) ?_
      show Steps p.tables e below (T12.setTop (mkF m 78 #[.val (.int aa), .val (.int bb), .val (.int cc), .val (.int dd), .val (.int ee), .val (.int (aa &&& (65535 : Int32))), .val (.int (bb &&& (65535 : Int32))), .val (.int ((cc &&& (255 : Int32)) + (1 : Int32))), .val (.int (dd &&& (65535 : Int32))), .val (.int ((aa &&& (65535 : Int32)) + (ee &&& (65535 : Int32)))), .val (.double (FP.ddiv (FP.i2d (aa &&& (65535 : Int32))) (FP.i2d (bb &&& (65535 : Int32))))), .second, .unset, .unset, .unset, .unset, .unset, .unset, .unset, .unset, .unset, .unset, .unset, .unset, .unset] [(.int ((aa &&& (65535 : Int32)) / (bb &&& (65535 : Int32))))])) _
      refine XS.istore X12.here hx rfl (hb hby at_78) rfl (l' := #[.val (.int aa), .val (.int bb), .val (.int cc), .val (.int dd), .val (.int ee), .val (.int (aa &&& (65535 : Int32))), .val (.int (bb &&& (65535 : Int32))), .val (.int ((cc &&& (255 : Int32)) + (1 : Int32))), .val (.int (dd &&& (65535 : Int32))), .val (.int ((aa &&& (65535 : Int32)) + (ee &&& (65535 : Int32)))), .val (.double (FP.ddiv (FP.i2d (aa &&& (65535 : Int32))) (FP.i2d (bb &&& (65535 : Int32))))), .second, .val (.int ((aa &&& (65535 : Int32)) / (bb &&& (65535 : Int32)))), .unset, .unset, .unset, .unset, .unset, .unset, .unset, .unset, .unset, .unset, .unset, .unset]) rfl ?_
      show Steps p.tables e below (T12.setTop (mkF m 80 #[.val (.int aa), .val (.int bb), .val (.int cc), .val (.int dd), .val (.int ee), .val (.int (aa &&& (65535 : Int32))), .val (.int (bb &&& (65535 : Int32))), .val (.int ((cc &&& (255 : Int32)) + (1 : Int32))), .val (.int (dd &&& (65535 : Int32))), .val (.int ((aa &&& (65535 : Int32)) + (ee &&& (65535 : Int32)))), .val (.double (FP.ddiv (FP.i2d (aa &&& (65535 : Int32))) (FP.i2d (bb &&& (65535 : Int32))))), .second, .val (.int ((aa &&& (65535 : Int32)) / (bb &&& (65535 : Int32)))), .unset, .unset, .unset, .unset, .unset, .unset, .unset, .unset, .unset, .unset, .unset, .unset] [])) _
      refine XS.dload X12.here hx rfl (hb hby at_80) rfl ?_
      show Steps p.tables e below (T12.setTop (mkF m 82 #[.val (.int aa), .val (.int bb), .val (.int cc), .val (.int dd), .val (.int ee), .val (.int (aa &&& (65535 : Int32))), .val (.int (bb &&& (65535 : Int32))), .val (.int ((cc &&& (255 : Int32)) + (1 : Int32))), .val (.int (dd &&& (65535 : Int32))), .val (.int ((aa &&& (65535 : Int32)) + (ee &&& (65535 : Int32)))), .val (.double (FP.ddiv (FP.i2d (aa &&& (65535 : Int32))) (FP.i2d (bb &&& (65535 : Int32))))), .second, .val (.int ((aa &&& (65535 : Int32)) / (bb &&& (65535 : Int32)))), .unset, .unset, .unset, .unset, .unset, .unset, .unset, .unset, .unset, .unset, .unset, .unset] [(.double (FP.ddiv (FP.i2d (aa &&& (65535 : Int32))) (FP.i2d (bb &&& (65535 : Int32)))))])) _
      refine XS.iload X12.here hx rfl (hb hby at_82) rfl ?_
      show Steps p.tables e below (T12.setTop (mkF m 84 #[.val (.int aa), .val (.int bb), .val (.int cc), .val (.int dd), .val (.int ee), .val (.int (aa &&& (65535 : Int32))), .val (.int (bb &&& (65535 : Int32))), .val (.int ((cc &&& (255 : Int32)) + (1 : Int32))), .val (.int (dd &&& (65535 : Int32))), .val (.int ((aa &&& (65535 : Int32)) + (ee &&& (65535 : Int32)))), .val (.double (FP.ddiv (FP.i2d (aa &&& (65535 : Int32))) (FP.i2d (bb &&& (65535 : Int32))))), .second, .val (.int ((aa &&& (65535 : Int32)) / (bb &&& (65535 : Int32)))), .unset, .unset, .unset, .unset, .unset, .unset, .unset, .unset, .unset, .unset, .unset, .unset] [(.int ((aa &&& (65535 : Int32)) / (bb &&& (65535 : Int32)))), (.double (FP.ddiv (FP.i2d (aa &&& (65535 : Int32))) (FP.i2d (bb &&& (65535 : Int32)))))])) _
      refine XS.i2dS X12.here hx rfl (hb hby at_84) rfl rfl ?_
      show Steps p.tables e below (T12.setTop (mkF m 85 #[.val (.int aa), .val (.int bb), .val (.int cc), .val (.int dd), .val (.int ee), .val (.int (aa &&& (65535 : Int32))), .val (.int (bb &&& (65535 : Int32))), .val (.int ((cc &&& (255 : Int32)) + (1 : Int32))), .val (.int (dd &&& (65535 : Int32))), .val (.int ((aa &&& (65535 : Int32)) + (ee &&& (65535 : Int32)))), .val (.double (FP.ddiv (FP.i2d (aa &&& (65535 : Int32))) (FP.i2d (bb &&& (65535 : Int32))))), .second, .val (.int ((aa &&& (65535 : Int32)) / (bb &&& (65535 : Int32)))), .unset, .unset, .unset, .unset, .unset, .unset, .unset, .unset, .unset, .unset, .unset, .unset] [(.double (FP.i2d ((aa &&& (65535 : Int32)) / (bb &&& (65535 : Int32))))), (.double (FP.ddiv (FP.i2d (aa &&& (65535 : Int32))) (FP.i2d (bb &&& (65535 : Int32)))))])) _
      refine XS.dcmpS X12.here hx rfl (hb hby at_85) rfl rfl ?_
      show Steps p.tables e below (T12.setTop (mkF m 86 #[.val (.int aa), .val (.int bb), .val (.int cc), .val (.int dd), .val (.int ee), .val (.int (aa &&& (65535 : Int32))), .val (.int (bb &&& (65535 : Int32))), .val (.int ((cc &&& (255 : Int32)) + (1 : Int32))), .val (.int (dd &&& (65535 : Int32))), .val (.int ((aa &&& (65535 : Int32)) + (ee &&& (65535 : Int32)))), .val (.double (FP.ddiv (FP.i2d (aa &&& (65535 : Int32))) (FP.i2d (bb &&& (65535 : Int32))))), .second, .val (.int ((aa &&& (65535 : Int32)) / (bb &&& (65535 : Int32)))), .unset, .unset, .unset, .unset, .unset, .unset, .unset, .unset, .unset, .unset, .unset, .unset] [(.int (cmpValue (FP.dcmp (FP.ddiv (FP.i2d (aa &&& (65535 : Int32))) (FP.i2d (bb &&& (65535 : Int32)))) (FP.i2d ((aa &&& (65535 : Int32)) / (bb &&& (65535 : Int32))))) .l))])) _
      refine XS.ifNo X12.here hx rfl (hb hby at_86) rfl ((if0 _ _).trans (flt (own_c86 aa bb cc dd ee hk10 : ¬ ((cmpValue (FP.dcmp (FP.ddiv (FP.i2d (aa &&& (65535 : Int32))) (FP.i2d (bb &&& (65535 : Int32)))) (FP.i2d ((aa &&& (65535 : Int32)) / (bb &&& (65535 : Int32))))) .l) < (0 : Int32)))).1) ?_
      show Steps p.tables e below (T12.setTop (mkF m 89 #[.val (.int aa), .val (.int bb), .val (.int cc), .val (.int dd), .val (.int ee), .val (.int (aa &&& (65535 : Int32))), .val (.int (bb &&& (65535 : Int32))), .val (.int ((cc &&& (255 : Int32)) + (1 : Int32))), .val (.int (dd &&& (65535 : Int32))), .val (.int ((aa &&& (65535 : Int32)) + (ee &&& (65535 : Int32)))), .val (.double (FP.ddiv (FP.i2d (aa &&& (65535 : Int32))) (FP.i2d (bb &&& (65535 : Int32))))), .second, .val (.int ((aa &&& (65535 : Int32)) / (bb &&& (65535 : Int32)))), .unset, .unset, .unset, .unset, .unset, .unset, .unset, .unset, .unset, .unset, .unset, .unset] [])) _
      refine XS.dload X12.here hx rfl (hb hby at_89) rfl ?_
      show Steps p.tables e below (T12.setTop (mkF m 91 #[.val (.int aa), .val (.int bb), .val (.int cc), .val (.int dd), .val (.int ee), .val (.int (aa &&& (65535 : Int32))), .val (.int (bb &&& (65535 : Int32))), .val (.int ((cc &&& (255 : Int32)) + (1 : Int32))), .val (.int (dd &&& (65535 : Int32))), .val (.int ((aa &&& (65535 : Int32)) + (ee &&& (65535 : Int32)))), .val (.double (FP.ddiv (FP.i2d (aa &&& (65535 : Int32))) (FP.i2d (bb &&& (65535 : Int32))))), .second, .val (.int ((aa &&& (65535 : Int32)) / (bb &&& (65535 : Int32)))), .unset, .unset, .unset, .unset, .unset, .unset, .unset, .unset, .unset, .unset, .unset, .unset] [(.double (FP.ddiv (FP.i2d (aa &&& (65535 : Int32))) (FP.i2d (bb &&& (65535 : Int32)))))])) _
      refine XS.iload X12.here hx rfl (hb hby at_91) rfl ?_
      show Steps p.tables e below (T12.setTop (mkF m 93 #[.val (.int aa), .val (.int bb), .val (.int cc), .val (.int dd), .val (.int ee), .val (.int (aa &&& (65535 : Int32))), .val (.int (bb &&& (65535 : Int32))), .val (.int ((cc &&& (255 : Int32)) + (1 : Int32))), .val (.int (dd &&& (65535 : Int32))), .val (.int ((aa &&& (65535 : Int32)) + (ee &&& (65535 : Int32)))), .val (.double (FP.ddiv (FP.i2d (aa &&& (65535 : Int32))) (FP.i2d (bb &&& (65535 : Int32))))), .second, .val (.int ((aa &&& (65535 : Int32)) / (bb &&& (65535 : Int32)))), .unset, .unset, .unset, .unset, .unset, .unset, .unset, .unset, .unset, .unset, .unset, .unset] [(.int ((aa &&& (65535 : Int32)) / (bb &&& (65535 : Int32)))), (.double (FP.ddiv (FP.i2d (aa &&& (65535 : Int32))) (FP.i2d (bb &&& (65535 : Int32)))))])) _
      refine XS.iconst X12.here hx rfl (hb hby at_93) ?_
      show Steps p.tables e below (T12.setTop (mkF m 94 #[.val (.int aa), .val (.int bb), .val (.int cc), .val (.int dd), .val (.int ee), .val (.int (aa &&& (65535 : Int32))), .val (.int (bb &&& (65535 : Int32))), .val (.int ((cc &&& (255 : Int32)) + (1 : Int32))), .val (.int (dd &&& (65535 : Int32))), .val (.int ((aa &&& (65535 : Int32)) + (ee &&& (65535 : Int32)))), .val (.double (FP.ddiv (FP.i2d (aa &&& (65535 : Int32))) (FP.i2d (bb &&& (65535 : Int32))))), .second, .val (.int ((aa &&& (65535 : Int32)) / (bb &&& (65535 : Int32)))), .unset, .unset, .unset, .unset, .unset, .unset, .unset, .unset, .unset, .unset, .unset, .unset] [(.int (1 : Int32)), (.int ((aa &&& (65535 : Int32)) / (bb &&& (65535 : Int32)))), (.double (FP.ddiv (FP.i2d (aa &&& (65535 : Int32))) (FP.i2d (bb &&& (65535 : Int32)))))])) _
      refine XS.iadd X12.here hx rfl (hb hby at_94) rfl ?_
      show Steps p.tables e below (T12.setTop (mkF m 95 #[.val (.int aa), .val (.int bb), .val (.int cc), .val (.int dd), .val (.int ee), .val (.int (aa &&& (65535 : Int32))), .val (.int (bb &&& (65535 : Int32))), .val (.int ((cc &&& (255 : Int32)) + (1 : Int32))), .val (.int (dd &&& (65535 : Int32))), .val (.int ((aa &&& (65535 : Int32)) + (ee &&& (65535 : Int32)))), .val (.double (FP.ddiv (FP.i2d (aa &&& (65535 : Int32))) (FP.i2d (bb &&& (65535 : Int32))))), .second, .val (.int ((aa &&& (65535 : Int32)) / (bb &&& (65535 : Int32)))), .unset, .unset, .unset, .unset, .unset, .unset, .unset, .unset, .unset, .unset, .unset, .unset] [(.int (((aa &&& (65535 : Int32)) / (bb &&& (65535 : Int32))) + (1 : Int32))), (.double (FP.ddiv (FP.i2d (aa &&& (65535 : Int32))) (FP.i2d (bb &&& (65535 : Int32)))))])) _
      refine XS.i2dS X12.here hx rfl (hb hby at_95) rfl rfl ?_
      show Steps p.tables e below (T12.setTop (mkF m 96 #[.val (.int aa), .val (.int bb), .val (.int cc), .val (.int dd), .val (.int ee), .val (.int (aa &&& (65535 : Int32))), .val (.int (bb &&& (65535 : Int32))), .val (.int ((cc &&& (255 : Int32)) + (1 : Int32))), .val (.int (dd &&& (65535 : Int32))), .val (.int ((aa &&& (65535 : Int32)) + (ee &&& (65535 : Int32)))), .val (.double (FP.ddiv (FP.i2d (aa &&& (65535 : Int32))) (FP.i2d (bb &&& (65535 : Int32))))), .second, .val (.int ((aa &&& (65535 : Int32)) / (bb &&& (65535 : Int32)))), .unset, .unset, .unset, .unset, .unset, .unset, .unset, .unset, .unset, .unset, .unset, .unset] [(.double (FP.i2d (((aa &&& (65535 : Int32)) / (bb &&& (65535 : Int32))) + (1 : Int32)))), (.double (FP.ddiv (FP.i2d (aa &&& (65535 : Int32))) (FP.i2d (bb &&& (65535 : Int32)))))])) _
      refine XS.dcmpS X12.here hx rfl (hb hby at_96) rfl rfl ?_
      show Steps p.tables e below (T12.setTop (mkF m 97 #[.val (.int aa), .val (.int bb), .val (.int cc), .val (.int dd), .val (.int ee), .val (.int (aa &&& (65535 : Int32))), .val (.int (bb &&& (65535 : Int32))), .val (.int ((cc &&& (255 : Int32)) + (1 : Int32))), .val (.int (dd &&& (65535 : Int32))), .val (.int ((aa &&& (65535 : Int32)) + (ee &&& (65535 : Int32)))), .val (.double (FP.ddiv (FP.i2d (aa &&& (65535 : Int32))) (FP.i2d (bb &&& (65535 : Int32))))), .second, .val (.int ((aa &&& (65535 : Int32)) / (bb &&& (65535 : Int32)))), .unset, .unset, .unset, .unset, .unset, .unset, .unset, .unset, .unset, .unset, .unset, .unset] [(.int (cmpValue (FP.dcmp (FP.ddiv (FP.i2d (aa &&& (65535 : Int32))) (FP.i2d (bb &&& (65535 : Int32)))) (FP.i2d (((aa &&& (65535 : Int32)) / (bb &&& (65535 : Int32))) + (1 : Int32)))) .g))])) _
      refine XS.ifNo X12.here hx rfl (hb hby at_97) rfl ((if0 _ _).trans (tlt (own_c97 aa bb cc dd ee hk10 : ((cmpValue (FP.dcmp (FP.ddiv (FP.i2d (aa &&& (65535 : Int32))) (FP.i2d (bb &&& (65535 : Int32)))) (FP.i2d (((aa &&& (65535 : Int32)) / (bb &&& (65535 : Int32))) + (1 : Int32)))) .g) < (0 : Int32)))).2.1) ?_
      show Steps p.tables e below (T12.setTop (mkF m 100 #[.val (.int aa), .val (.int bb), .val (.int cc), .val (.int dd), .val (.int ee), .val (.int (aa &&& (65535 : Int32))), .val (.int (bb &&& (65535 : Int32))), .val (.int ((cc &&& (255 : Int32)) + (1 : Int32))), .val (.int (dd &&& (65535 : Int32))), .val (.int ((aa &&& (65535 : Int32)) + (ee &&& (65535 : Int32)))), .val (.double (FP.ddiv (FP.i2d (aa &&& (65535 : Int32))) (FP.i2d (bb &&& (65535 : Int32))))), .second, .val (.int ((aa &&& (65535 : Int32)) / (bb &&& (65535 : Int32)))), .unset, .unset, .unset, .unset, .unset, .unset, .unset, .unset, .unset, .unset, .unset, .unset] [])) _
      refine XS.iconst X12.here hx rfl (hb hby at_100) ?_
      show Steps p.tables e below (T12.setTop (mkF m 101 #[.val (.int aa), .val (.int bb), .val (.int cc), .val (.int dd), .val (.int ee), .val (.int (aa &&& (65535 : Int32))), .val (.int (bb &&& (65535 : Int32))), .val (.int ((cc &&& (255 : Int32)) + (1 : Int32))), .val (.int (dd &&& (65535 : Int32))), .val (.int ((aa &&& (65535 : Int32)) + (ee &&& (65535 : Int32)))), .val (.double (FP.ddiv (FP.i2d (aa &&& (65535 : Int32))) (FP.i2d (bb &&& (65535 : Int32))))), .second, .val (.int ((aa &&& (65535 : Int32)) / (bb &&& (65535 : Int32)))), .unset, .unset, .unset, .unset, .unset, .unset, .unset, .unset, .unset, .unset, .unset, .unset] [(.int (1 : Int32))])) _
      refine XS.goto X12.here hx rfl (pc0 := 101) (pc' := 105) rfl (hb hby at_101) (by decide) (by decide) ?_
      show Steps p.tables e below (T12.setTop (mkF m 105 #[.val (.int aa), .val (.int bb), .val (.int cc), .val (.int dd), .val (.int ee), .val (.int (aa &&& (65535 : Int32))), .val (.int (bb &&& (65535 : Int32))), .val (.int ((cc &&& (255 : Int32)) + (1 : Int32))), .val (.int (dd &&& (65535 : Int32))), .val (.int ((aa &&& (65535 : Int32)) + (ee &&& (65535 : Int32)))), .val (.double (FP.ddiv (FP.i2d (aa &&& (65535 : Int32))) (FP.i2d (bb &&& (65535 : Int32))))), .second, .val (.int ((aa &&& (65535 : Int32)) / (bb &&& (65535 : Int32)))), .unset, .unset, .unset, .unset, .unset, .unset, .unset, .unset, .unset, .unset, .unset, .unset] [(.int (1 : Int32))])) _
      refine XS.istore X12.here hx rfl (hb hby at_105) rfl (l' := #[.val (.int aa), .val (.int bb), .val (.int cc), .val (.int dd), .val (.int ee), .val (.int (aa &&& (65535 : Int32))), .val (.int (bb &&& (65535 : Int32))), .val (.int ((cc &&& (255 : Int32)) + (1 : Int32))), .val (.int (dd &&& (65535 : Int32))), .val (.int ((aa &&& (65535 : Int32)) + (ee &&& (65535 : Int32)))), .val (.double (FP.ddiv (FP.i2d (aa &&& (65535 : Int32))) (FP.i2d (bb &&& (65535 : Int32))))), .second, .val (.int ((aa &&& (65535 : Int32)) / (bb &&& (65535 : Int32)))), .val (.int (1 : Int32)), .unset, .unset, .unset, .unset, .unset, .unset, .unset, .unset, .unset, .unset, .unset]) rfl ?_
      show Steps p.tables e below (T12.setTop (mkF m 107 #[.val (.int aa), .val (.int bb), .val (.int cc), .val (.int dd), .val (.int ee), .val (.int (aa &&& (65535 : Int32))), .val (.int (bb &&& (65535 : Int32))), .val (.int ((cc &&& (255 : Int32)) + (1 : Int32))), .val (.int (dd &&& (65535 : Int32))), .val (.int ((aa &&& (65535 : Int32)) + (ee &&& (65535 : Int32)))), .val (.double (FP.ddiv (FP.i2d (aa &&& (65535 : Int32))) (FP.i2d (bb &&& (65535 : Int32))))), .second, .val (.int ((aa &&& (65535 : Int32)) / (bb &&& (65535 : Int32)))), .val (.int (1 : Int32)), .unset, .unset, .unset, .unset, .unset, .unset, .unset, .unset, .unset, .unset, .unset] [])) _
      refine st13 _ ?_
      show Steps p.tables e below (T13.setTop (mkF m 110 #[.val (.int aa), .val (.int bb), .val (.int cc), .val (.int dd), .val (.int ee), .val (.int (aa &&& (65535 : Int32))), .val (.int (bb &&& (65535 : Int32))), .val (.int ((cc &&& (255 : Int32)) + (1 : Int32))), .val (.int (dd &&& (65535 : Int32))), .val (.int ((aa &&& (65535 : Int32)) + (ee &&& (65535 : Int32)))), .val (.double (FP.ddiv (FP.i2d (aa &&& (65535 : Int32))) (FP.i2d (bb &&& (65535 : Int32))))), .second, .val (.int ((aa &&& (65535 : Int32)) / (bb &&& (65535 : Int32)))), .val (.int (1 : Int32)), .unset, .unset, .unset, .unset, .unset, .unset, .unset, .unset, .unset, .unset, .unset] [(.ref b13)])) _
      refine XS.dup X13.here hx rfl (hb hby at_110) rfl rfl ?_
      show Steps p.tables e below (T13.setTop (mkF m 111 #[.val (.int aa), .val (.int bb), .val (.int cc), .val (.int dd), .val (.int ee), .val (.int (aa &&& (65535 : Int32))), .val (.int (bb &&& (65535 : Int32))), .val (.int ((cc &&& (255 : Int32)) + (1 : Int32))), .val (.int (dd &&& (65535 : Int32))), .val (.int ((aa &&& (65535 : Int32)) + (ee &&& (65535 : Int32)))), .val (.double (FP.ddiv (FP.i2d (aa &&& (65535 : Int32))) (FP.i2d (bb &&& (65535 : Int32))))), .second, .val (.int ((aa &&& (65535 : Int32)) / (bb &&& (65535 : Int32)))), .val (.int (1 : Int32)), .unset, .unset, .unset, .unset, .unset, .unset, .unset, .unset, .unset, .unset, .unset] [(.ref b13), (.ref b13)])) _
      refine XS.iload X13.here hx rfl (hb hby at_111) rfl ?_
      show Steps p.tables e below (T13.setTop (mkF m 113 #[.val (.int aa), .val (.int bb), .val (.int cc), .val (.int dd), .val (.int ee), .val (.int (aa &&& (65535 : Int32))), .val (.int (bb &&& (65535 : Int32))), .val (.int ((cc &&& (255 : Int32)) + (1 : Int32))), .val (.int (dd &&& (65535 : Int32))), .val (.int ((aa &&& (65535 : Int32)) + (ee &&& (65535 : Int32)))), .val (.double (FP.ddiv (FP.i2d (aa &&& (65535 : Int32))) (FP.i2d (bb &&& (65535 : Int32))))), .second, .val (.int ((aa &&& (65535 : Int32)) / (bb &&& (65535 : Int32)))), .val (.int (1 : Int32)), .unset, .unset, .unset, .unset, .unset, .unset, .unset, .unset, .unset, .unset, .unset] [(.int (aa &&& (65535 : Int32))), (.ref b13), (.ref b13)])) _
      refine XS.iload X13.here hx rfl (hb hby at_113) rfl ?_
      show Steps p.tables e below (T13.setTop (mkF m 115 #[.val (.int aa), .val (.int bb), .val (.int cc), .val (.int dd), .val (.int ee), .val (.int (aa &&& (65535 : Int32))), .val (.int (bb &&& (65535 : Int32))), .val (.int ((cc &&& (255 : Int32)) + (1 : Int32))), .val (.int (dd &&& (65535 : Int32))), .val (.int ((aa &&& (65535 : Int32)) + (ee &&& (65535 : Int32)))), .val (.double (FP.ddiv (FP.i2d (aa &&& (65535 : Int32))) (FP.i2d (bb &&& (65535 : Int32))))), .second, .val (.int ((aa &&& (65535 : Int32)) / (bb &&& (65535 : Int32)))), .val (.int (1 : Int32)), .unset, .unset, .unset, .unset, .unset, .unset, .unset, .unset, .unset, .unset, .unset] [(.int ((cc &&& (255 : Int32)) + (1 : Int32))), (.int (aa &&& (65535 : Int32))), (.ref b13), (.ref b13)])) _
      refine XS.imul X13.here hx rfl (hb hby at_115) rfl ?_
      show Steps p.tables e below (T13.setTop (mkF m 116 #[.val (.int aa), .val (.int bb), .val (.int cc), .val (.int dd), .val (.int ee), .val (.int (aa &&& (65535 : Int32))), .val (.int (bb &&& (65535 : Int32))), .val (.int ((cc &&& (255 : Int32)) + (1 : Int32))), .val (.int (dd &&& (65535 : Int32))), .val (.int ((aa &&& (65535 : Int32)) + (ee &&& (65535 : Int32)))), .val (.double (FP.ddiv (FP.i2d (aa &&& (65535 : Int32))) (FP.i2d (bb &&& (65535 : Int32))))), .second, .val (.int ((aa &&& (65535 : Int32)) / (bb &&& (65535 : Int32)))), .val (.int (1 : Int32)), .unset, .unset, .unset, .unset, .unset, .unset, .unset, .unset, .unset, .unset, .unset] [(.int ((aa &&& (65535 : Int32)) * ((cc &&& (255 : Int32)) + (1 : Int32)))), (.ref b13), (.ref b13)])) _
      refine XS.i2dS X13.here hx rfl (hb hby at_116) rfl rfl ?_
      show Steps p.tables e below (T13.setTop (mkF m 117 #[.val (.int aa), .val (.int bb), .val (.int cc), .val (.int dd), .val (.int ee), .val (.int (aa &&& (65535 : Int32))), .val (.int (bb &&& (65535 : Int32))), .val (.int ((cc &&& (255 : Int32)) + (1 : Int32))), .val (.int (dd &&& (65535 : Int32))), .val (.int ((aa &&& (65535 : Int32)) + (ee &&& (65535 : Int32)))), .val (.double (FP.ddiv (FP.i2d (aa &&& (65535 : Int32))) (FP.i2d (bb &&& (65535 : Int32))))), .second, .val (.int ((aa &&& (65535 : Int32)) / (bb &&& (65535 : Int32)))), .val (.int (1 : Int32)), .unset, .unset, .unset, .unset, .unset, .unset, .unset, .unset, .unset, .unset, .unset] [(.double (FP.i2d ((aa &&& (65535 : Int32)) * ((cc &&& (255 : Int32)) + (1 : Int32))))), (.ref b13), (.ref b13)])) _
      refine XS.iload X13.here hx rfl (hb hby at_117) rfl ?_
      show Steps p.tables e below (T13.setTop (mkF m 119 #[.val (.int aa), .val (.int bb), .val (.int cc), .val (.int dd), .val (.int ee), .val (.int (aa &&& (65535 : Int32))), .val (.int (bb &&& (65535 : Int32))), .val (.int ((cc &&& (255 : Int32)) + (1 : Int32))), .val (.int (dd &&& (65535 : Int32))), .val (.int ((aa &&& (65535 : Int32)) + (ee &&& (65535 : Int32)))), .val (.double (FP.ddiv (FP.i2d (aa &&& (65535 : Int32))) (FP.i2d (bb &&& (65535 : Int32))))), .second, .val (.int ((aa &&& (65535 : Int32)) / (bb &&& (65535 : Int32)))), .val (.int (1 : Int32)), .unset, .unset, .unset, .unset, .unset, .unset, .unset, .unset, .unset, .unset, .unset] [(.int (bb &&& (65535 : Int32))), (.double (FP.i2d ((aa &&& (65535 : Int32)) * ((cc &&& (255 : Int32)) + (1 : Int32))))), (.ref b13), (.ref b13)])) _
      refine XS.iload X13.here hx rfl (hb hby at_119) rfl ?_
      show Steps p.tables e below (T13.setTop (mkF m 121 #[.val (.int aa), .val (.int bb), .val (.int cc), .val (.int dd), .val (.int ee), .val (.int (aa &&& (65535 : Int32))), .val (.int (bb &&& (65535 : Int32))), .val (.int ((cc &&& (255 : Int32)) + (1 : Int32))), .val (.int (dd &&& (65535 : Int32))), .val (.int ((aa &&& (65535 : Int32)) + (ee &&& (65535 : Int32)))), .val (.double (FP.ddiv (FP.i2d (aa &&& (65535 : Int32))) (FP.i2d (bb &&& (65535 : Int32))))), .second, .val (.int ((aa &&& (65535 : Int32)) / (bb &&& (65535 : Int32)))), .val (.int (1 : Int32)), .unset, .unset, .unset, .unset, .unset, .unset, .unset, .unset, .unset, .unset, .unset] [(.int ((cc &&& (255 : Int32)) + (1 : Int32))), (.int (bb &&& (65535 : Int32))), (.double (FP.i2d ((aa &&& (65535 : Int32)) * ((cc &&& (255 : Int32)) + (1 : Int32))))), (.ref b13), (.ref b13)])) _
      refine XS.imul X13.here hx rfl (hb hby at_121) rfl ?_
      show Steps p.tables e below (T13.setTop (mkF m 122 #[.val (.int aa), .val (.int bb), .val (.int cc), .val (.int dd), .val (.int ee), .val (.int (aa &&& (65535 : Int32))), .val (.int (bb &&& (65535 : Int32))), .val (.int ((cc &&& (255 : Int32)) + (1 : Int32))), .val (.int (dd &&& (65535 : Int32))), .val (.int ((aa &&& (65535 : Int32)) + (ee &&& (65535 : Int32)))), .val (.double (FP.ddiv (FP.i2d (aa &&& (65535 : Int32))) (FP.i2d (bb &&& (65535 : Int32))))), .second, .val (.int ((aa &&& (65535 : Int32)) / (bb &&& (65535 : Int32)))), .val (.int (1 : Int32)), .unset, .unset, .unset, .unset, .unset, .unset, .unset, .unset, .unset, .unset, .unset] [(.int ((bb &&& (65535 : Int32)) * ((cc &&& (255 : Int32)) + (1 : Int32)))), (.double (FP.i2d ((aa &&& (65535 : Int32)) * ((cc &&& (255 : Int32)) + (1 : Int32))))), (.ref b13), (.ref b13)])) _
      refine XS.i2dS X13.here hx rfl (hb hby at_122) rfl rfl ?_
      exact k
    obtain ⟨_, _, ⟨T21, L21, k21, n21⟩, -, X21, hSr21, gr21, ⟨Lc21, hQ21, l21, y21, z21⟩, st21⟩ := X13.specialBackS hx (y := (⟨"com/example/bundles_to_brokers/bundlestobrokers/model/ResourceUsage", "<init>", "(DD)V"⟩ : MethodName)) rfl hown5 (mvT hZ5 (hw _ (List.mem_of_getElem? (i := 4) rfl))) (mvT hZ5 (hw _ (List.mem_of_getElem? (i := 5) rfl))) (mvT hZ5 (hw _ (List.mem_of_getElem? (i := 6) rfl))) (by decide) (backOfS (W := 1) (rm1 l Z a0 hw [] b13 (FP.i2d ((aa &&& (65535 : Int32)) * ((cc &&& (255 : Int32)) + (1 : Int32)))) (FP.i2d ((bb &&& (65535 : Int32)) * ((cc &&& (255 : Int32)) + (1 : Int32)))) (0 : UInt64) (0 : UInt64) h13 n0 Z13 (own_fi _) (own_gi (by rw [(own_ml aa cc).1]; exact (own_ml aa cc).2)) (own_fi _) (own_gi (by rw [(own_ml bb cc).1]; exact (own_ml bb cc).2)) A13 f18 f19 gg13) hZ5 (hw _ (List.mem_of_getElem? (i := 6) rfl)) (hw _ (List.mem_of_getElem? (i := 3) rfl)) (by decide) (by decide)) (g := (mkF m 123 #[.val (.int aa), .val (.int bb), .val (.int cc), .val (.int dd), .val (.int ee), .val (.int (aa &&& (65535 : Int32))), .val (.int (bb &&& (65535 : Int32))), .val (.int ((cc &&& (255 : Int32)) + (1 : Int32))), .val (.int (dd &&& (65535 : Int32))), .val (.int ((aa &&& (65535 : Int32)) + (ee &&& (65535 : Int32)))), .val (.double (FP.ddiv (FP.i2d (aa &&& (65535 : Int32))) (FP.i2d (bb &&& (65535 : Int32))))), .second, .val (.int ((aa &&& (65535 : Int32)) / (bb &&& (65535 : Int32)))), .val (.int (1 : Int32)), .unset, .unset, .unset, .unset, .unset, .unset, .unset, .unset, .unset, .unset, .unset] [(.double (FP.i2d ((bb &&& (65535 : Int32)) * ((cc &&& (255 : Int32)) + (1 : Int32))))), (.double (FP.i2d ((aa &&& (65535 : Int32)) * ((cc &&& (255 : Int32)) + (1 : Int32))))), (.ref b13), (.ref b13)])) rfl (by rw [hml]; rfl) (Steps.refl _) (a := b13) (argsL := [(.double (FP.i2d ((aa &&& (65535 : Int32)) * ((cc &&& (255 : Int32)) + (1 : Int32))))), (.double (FP.i2d ((bb &&& (65535 : Int32)) * ((cc &&& (255 : Int32)) + (1 : Int32)))))]) (rest := [(.ref b13)]) (lenOf pd_2 rfl) rfl (by show 2 * 0 + _ ≤ _; exact Nat.le_of_eq rfl) (hb hby at_123) (fun _ _ => ⟨rfl, e13, (by decide : 6 + 4 ≤ _), (by decide : 52 + 48 ≤ _)⟩)
    dsimp only [Pt.U, Pt.locs, Pt.cells, Pt.slots] at hSr21 gr21 X21 l21 y21 z21 st21 hQ21
    subst y21 z21
    have hS21 : s.Since T21.vm T21.heap.size := State.Since.trans (vm₁ := T5.vm) hS5 hSr21 (Nat.le_trans kS13 (Nat.le_trans (Nat.le_of_eq (congrArg Array.size (Eq.symm e13))) gr21))
    have hZ21 : Z.Warmed39 (s.setVm T21.vm).vm := State.Warmed39.trans (t := (s.setVm T5.vm)) hZ5 hSr21.1
    have hown21 : (s.setVm T21.vm).vm.findClass "com/example/bundles_to_brokers/bundlestobrokers/model/ResourceUsageFractionPinLaw" = some m.cls := by rw [show (s.setVm T21.vm).vm = T21.vm from rfl, hSr21.1.alike.findClass]; exact hown5
    replace X21 : Stand p l e _ (s.setVm T21.vm) m _ below meth c T21 L21 _ _ := X21
    have kS21 : T21.heap.size ≤ T21.heap.size := Nat.le_refl _
    obtain ⟨rfl, N21q, K21c, f22, f23⟩ := hQ21
    have N21 : Fr n0 L21 := by rw [l21]; exact Fr.app N12 N21q
    have f24 : Exa Z T21.heap b1 "com/example/bundles_to_brokers/bundlestobrokers/model/ResourceUsage" := f15.keep K21c
    have f25 : Fld Z T21.heap b1 "com/example/bundles_to_brokers/bundlestobrokers/model/ResourceUsage" "usage" "D" (.double (FP.i2d (aa &&& (65535 : Int32)))) := f16.keep K21c (ninS ne14 nin0)
    have f26 : Fld Z T21.heap b1 "com/example/bundles_to_brokers/bundlestobrokers/model/ResourceUsage" "limit" "D" (.double (FP.i2d (bb &&& (65535 : Int32)))) := f17.keep K21c (ninS ne14 nin0)
    have f27 : Exa Z T21.heap b13 "com/example/bundles_to_brokers/bundlestobrokers/model/ResourceUsage" := A13.keep K21c
    have Z21 : n0 ≤ T21.heap.size := Nat.le_trans Z13 K21c.1
    obtain ⟨cq28, kq28, q28a, q28b, q28c⟩ := isOf hZ21 rfl f27
    obtain ⟨_, _, ⟨T28, L28, k28, n28⟩, -, X28, ⟨Lc28, hQ28, l28, y28, z28⟩, st28⟩ := X21.virtualBack hx (y := (⟨"com/example/bundles_to_brokers/bundlestobrokers/model/ResourceUsage", "fraction", "()D"⟩ : MethodName)) (z := (⟨"com/example/bundles_to_brokers/bundlestobrokers/model/ResourceUsage", "fraction", "()D"⟩ : MethodName)) hown21 (mvT hZ21 (hw _ (List.mem_of_getElem? (i := 33) rfl))) (mvT hZ21 (hw _ (List.mem_of_getElem? (i := 34) rfl))) (notFace_of_selects (args := #[]) (mvT hZ21 (hw _ (List.mem_of_getElem? (i := 36) rfl)))) (mvT hZ21 (hw _ (List.mem_of_getElem? (i := 36) rfl))) (mvT hZ21 (hw _ (List.mem_of_getElem? (i := 35) rfl))) (by decide) (backOf (W := 0) (rm5d l Z a0 hw [] b13 (FP.i2d ((aa &&& (65535 : Int32)) * ((cc &&& (255 : Int32)) + (1 : Int32)))) (FP.i2d ((bb &&& (65535 : Int32)) * ((cc &&& (255 : Int32)) + (1 : Int32)))) T21.heap n0 Z21 f22 f23 (own_nni (own_lsn cc hk10)) (own_n (own_lsn cc hk10))) hZ21 (hw _ (List.mem_of_getElem? (i := 37) rfl)) (hw _ (List.mem_of_getElem? (i := 3) rfl)) (by decide) (by decide)) q28a q28c (g := (mkF m 126 #[.val (.int aa), .val (.int bb), .val (.int cc), .val (.int dd), .val (.int ee), .val (.int (aa &&& (65535 : Int32))), .val (.int (bb &&& (65535 : Int32))), .val (.int ((cc &&& (255 : Int32)) + (1 : Int32))), .val (.int (dd &&& (65535 : Int32))), .val (.int ((aa &&& (65535 : Int32)) + (ee &&& (65535 : Int32)))), .val (.double (FP.ddiv (FP.i2d (aa &&& (65535 : Int32))) (FP.i2d (bb &&& (65535 : Int32))))), .second, .val (.int ((aa &&& (65535 : Int32)) / (bb &&& (65535 : Int32)))), .val (.int (1 : Int32)), .unset, .unset, .unset, .unset, .unset, .unset, .unset, .unset, .unset, .unset, .unset] [(.ref b13)])) rfl (by rw [hml]; rfl) (Steps.refl _) (argsL := []) (rest := []) (lenOf pd_3 rfl) rfl (by show 2 * 0 + _ ≤ _; exact Nat.le_of_eq rfl) (hb hby at_126) (fun _ _ => ⟨rfl, rfl, (by decide : 10 + 0 ≤ _), (by decide : 100 + 0 ≤ _)⟩)
    dsimp only [Pt.U, Pt.locs, Pt.cells, Pt.slots] at X28 l28 y28 z28 st28 hQ28
    subst y28 z28
    obtain ⟨rfl, N28q, e28⟩ := hQ28
    have N28 : Fr n0 L28 := by rw [l28]; exact Fr.app N21 N28q
    obtain ⟨T29, h29, X29, e29, E29, A29, D29, -, st29⟩ := newO X28 hx hZ21 hown21 (hw _ (List.mem_of_getElem? (i := 1) rfl)) (hw _ (List.mem_of_getElem? (i := 2) rfl)) (hw _ (List.mem_of_getElem? (i := 3) rfl)) e28 (g := (mkF m 140 #[.val (.int aa), .val (.int bb), .val (.int cc), .val (.int dd), .val (.int ee), .val (.int (aa &&& (65535 : Int32))), .val (.int (bb &&& (65535 : Int32))), .val (.int ((cc &&& (255 : Int32)) + (1 : Int32))), .val (.int (dd &&& (65535 : Int32))), .val (.int ((aa &&& (65535 : Int32)) + (ee &&& (65535 : Int32)))), .val (.double (FP.ddiv (FP.i2d (aa &&& (65535 : Int32))) (FP.i2d (bb &&& (65535 : Int32))))), .second, .val (.int ((aa &&& (65535 : Int32)) / (bb &&& (65535 : Int32)))), .val (.int (1 : Int32)), .val (.double (FP.ddiv (FP.i2d ((aa &&& (65535 : Int32)) * ((cc &&& (255 : Int32)) + (1 : Int32)))) (FP.i2d ((bb &&& (65535 : Int32)) * ((cc &&& (255 : Int32)) + (1 : Int32)))))), .second, .val (.long (((dd &&& (65535 : Int32)).toInt64) * ((bb &&& (65535 : Int32)).toInt64))), .second, .unset, .unset, .unset, .unset, .unset, .unset, .unset] [])) rfl (hb hby at_140) (by decide) (by decide)
    obtain ⟨b29, g29⟩ : ∃ z, z = T21.heap.size := ⟨_, rfl⟩
    rw [← g29] at A29 D29 st29
    have ne30 : b1 ≠ b29 := Nat.ne_of_lt (Nat.lt_of_lt_of_le f24.lt (Nat.le_of_eq g29.symm))
    have ne31 : b13 ≠ b29 := Nat.ne_of_lt (Nat.lt_of_lt_of_le f27.lt (Nat.le_of_eq g29.symm))
    have gg29 : n0 ≤ b29 := Nat.le_trans Z21 (Nat.le_of_eq g29.symm)
    have f32 : Exa Z h29 b1 "com/example/bundles_to_brokers/bundlestobrokers/model/ResourceUsage" := f24.ext E29
    have f33 : Fld Z h29 b1 "com/example/bundles_to_brokers/bundlestobrokers/model/ResourceUsage" "usage" "D" (.double (FP.i2d (aa &&& (65535 : Int32)))) := f25.ext E29
    have f34 : Fld Z h29 b1 "com/example/bundles_to_brokers/bundlestobrokers/model/ResourceUsage" "limit" "D" (.double (FP.i2d (bb &&& (65535 : Int32)))) := f26.ext E29
    have f35 : Exa Z h29 b13 "com/example/bundles_to_brokers/bundlestobrokers/model/ResourceUsage" := f27.ext E29
    have f36 : Fld Z h29 b13 "com/example/bundles_to_brokers/bundlestobrokers/model/ResourceUsage" "usage" "D" (.double (FP.i2d ((aa &&& (65535 : Int32)) * ((cc &&& (255 : Int32)) + (1 : Int32))))) := f22.ext E29
    have f37 : Fld Z h29 b13 "com/example/bundles_to_brokers/bundlestobrokers/model/ResourceUsage" "limit" "D" (.double (FP.i2d ((bb &&& (65535 : Int32)) * ((cc &&& (255 : Int32)) + (1 : Int32))))) := f23.ext E29
    have Z29 : n0 ≤ h29.size := Nat.le_trans Z21 E29.1
    have kS29 : _ ≤ h29.size := Nat.le_trans kS21 E29.1
    have f38 : Fld Z h29 b29 "com/example/bundles_to_brokers/bundlestobrokers/model/ResourceUsage" "usage" "D" (.double (0 : UInt64)) := D29 (Or.inr (hw _ (List.mem_of_getElem? (i := 30) rfl))) (ty := .double) (by decide)
    have f39 : Fld Z h29 b29 "com/example/bundles_to_brokers/bundlestobrokers/model/ResourceUsage" "limit" "D" (.double (0 : UInt64)) := D29 (Or.inr (hw _ (List.mem_of_getElem? (i := 32) rfl))) (ty := .double) (by decide)
    have pre40 : ∀ t, Steps p.tables e below (T29.setTop (mkF m 150 #[.val (.int aa), .val (.int bb), .val (.int cc), .val (.int dd), .val (.int ee), .val (.int (aa &&& (65535 : Int32))), .val (.int (bb &&& (65535 : Int32))), .val (.int ((cc &&& (255 : Int32)) + (1 : Int32))), .val (.int (dd &&& (65535 : Int32))), .val (.int ((aa &&& (65535 : Int32)) + (ee &&& (65535 : Int32)))), .val (.double (FP.ddiv (FP.i2d (aa &&& (65535 : Int32))) (FP.i2d (bb &&& (65535 : Int32))))), .second, .val (.int ((aa &&& (65535 : Int32)) / (bb &&& (65535 : Int32)))), .val (.int (1 : Int32)), .val (.double (FP.ddiv (FP.i2d ((aa &&& (65535 : Int32)) * ((cc &&& (255 : Int32)) + (1 : Int32)))) (FP.i2d ((bb &&& (65535 : Int32)) * ((cc &&& (255 : Int32)) + (1 : Int32)))))), .second, .val (.long (((dd &&& (65535 : Int32)).toInt64) * ((bb &&& (65535 : Int32)).toInt64))), .second, .unset, .unset, .unset, .unset, .unset, .unset, .unset] [(.double (FP.i2d (bb &&& (65535 : Int32)))), (.double (FP.l2d (((dd &&& (65535 : Int32)).toInt64) * ((bb &&& (65535 : Int32)).toInt64)))), (.ref b29), (.ref b29)])) t → Steps p.tables e below (s₁.setTop (entryFrame m #[(.int aa), (.int bb), (.int cc), (.int dd), (.int ee)] maxLocals)) t := by
      intro t k
      refine pre20 _ ?_
      show Steps p.tables e below (T13.setTop (mkF m 123 #[.val (.int aa), .val (.int bb), .val (.int cc), .val (.int dd), .val (.int ee), .val (.int (aa &&& (65535 : Int32))), .val (.int (bb &&& (65535 : Int32))), .val (.int ((cc &&& (255 : Int32)) + (1 : Int32))), .val (.int (dd &&& (65535 : Int32))), .val (.int ((aa &&& (65535 : Int32)) + (ee &&& (65535 : Int32)))), .val (.double (FP.ddiv (FP.i2d (aa &&& (65535 : Int32))) (FP.i2d (bb &&& (65535 : Int32))))), .second, .val (.int ((aa &&& (65535 : Int32)) / (bb &&& (65535 : Int32)))), .val (.int (1 : Int32)), .unset, .unset, .unset, .unset, .unset, .unset, .unset, .unset, .unset, .unset, .unset] [(.double (FP.i2d ((bb &&& (65535 : Int32)) * ((cc &&& (255 : Int32)) + (1 : Int32))))), (.double (FP.i2d ((aa &&& (65535 : Int32)) * ((cc &&& (255 : Int32)) + (1 : Int32))))), (.ref b13), (.ref b13)])) _
      refine st21.trans ?_
      show Steps p.tables e below (T21.setTop (mkF m 126 #[.val (.int aa), .val (.int bb), .val (.int cc), .val (.int dd), .val (.int ee), .val (.int (aa &&& (65535 : Int32))), .val (.int (bb &&& (65535 : Int32))), .val (.int ((cc &&& (255 : Int32)) + (1 : Int32))), .val (.int (dd &&& (65535 : Int32))), .val (.int ((aa &&& (65535 : Int32)) + (ee &&& (65535 : Int32)))), .val (.double (FP.ddiv (FP.i2d (aa &&& (65535 : Int32))) (FP.i2d (bb &&& (65535 : Int32))))), .second, .val (.int ((aa &&& (65535 : Int32)) / (bb &&& (65535 : Int32)))), .val (.int (1 : Int32)), .unset, .unset, .unset, .unset, .unset, .unset, .unset, .unset, .unset, .unset, .unset] [(.ref b13)])) _
      refine st28.trans ?_
      show Steps p.tables e below (T28.setTop (mkF m 129 #[.val (.int aa), .val (.int bb), .val (.int cc), .val (.int dd), .val (.int ee), .val (.int (aa &&& (65535 : Int32))), .val (.int (bb &&& (65535 : Int32))), .val (.int ((cc &&& (255 : Int32)) + (1 : Int32))), .val (.int (dd &&& (65535 : Int32))), .val (.int ((aa &&& (65535 : Int32)) + (ee &&& (65535 : Int32)))), .val (.double (FP.ddiv (FP.i2d (aa &&& (65535 : Int32))) (FP.i2d (bb &&& (65535 : Int32))))), .second, .val (.int ((aa &&& (65535 : Int32)) / (bb &&& (65535 : Int32)))), .val (.int (1 : Int32)), .unset, .unset, .unset, .unset, .unset, .unset, .unset, .unset, .unset, .unset, .unset] [(.double (FP.ddiv (FP.i2d ((aa &&& (65535 : Int32)) * ((cc &&& (255 : Int32)) + (1 : Int32)))) (FP.i2d ((bb &&& (65535 : Int32)) * ((cc &&& (255 : Int32)) + (1 : Int32))))))])) _
      refine XS.dstore X28.here hx rfl (hb hby at_129) rfl (l' := #[.val (.int aa), .val (.int bb), .val (.int cc), .val (.int dd), .val (.int ee), .val (.int (aa &&& (65535 : Int32))), .val (.int (bb &&& (65535 : Int32))), .val (.int ((cc &&& (255 : Int32)) + (1 : Int32))), .val (.int (dd &&& (65535 : Int32))), .val (.int ((aa &&& (65535 : Int32)) + (ee &&& (65535 : Int32)))), .val (.double (FP.ddiv (FP.i2d (aa &&& (65535 : Int32))) (FP.i2d (bb &&& (65535 : Int32))))), .second, .val (.int ((aa &&& (65535 : Int32)) / (bb &&& (65535 : Int32)))), .val (.int (1 : Int32)), .val (.double (FP.ddiv (FP.i2d ((aa &&& (65535 : Int32)) * ((cc &&& (255 : Int32)) + (1 : Int32)))) (FP.i2d ((bb &&& (65535 : Int32)) * ((cc &&& (255 : Int32)) + (1 : Int32)))))), .second, .unset, .unset, .unset, .unset, .unset, .unset, .unset, .unset, .unset]) rfl ?_
      show Steps p.tables e below (T28.setTop (mkF m 131 #[.val (.int aa), .val (.int bb), .val (.int cc), .val (.int dd), .val (.int ee), .val (.int (aa &&& (65535 : Int32))), .val (.int (bb &&& (65535 : Int32))), .val (.int ((cc &&& (255 : Int32)) + (1 : Int32))), .val (.int (dd &&& (65535 : Int32))), .val (.int ((aa &&& (65535 : Int32)) + (ee &&& (65535 : Int32)))), .val (.double (FP.ddiv (FP.i2d (aa &&& (65535 : Int32))) (FP.i2d (bb &&& (65535 : Int32))))), .second, .val (.int ((aa &&& (65535 : Int32)) / (bb &&& (65535 : Int32)))), .val (.int (1 : Int32)), .val (.double (FP.ddiv (FP.i2d ((aa &&& (65535 : Int32)) * ((cc &&& (255 : Int32)) + (1 : Int32)))) (FP.i2d ((bb &&& (65535 : Int32)) * ((cc &&& (255 : Int32)) + (1 : Int32)))))), .second, .unset, .unset, .unset, .unset, .unset, .unset, .unset, .unset, .unset] [])) _
      refine XS.iload X28.here hx rfl (hb hby at_131) rfl ?_
      show Steps p.tables e below (T28.setTop (mkF m 133 #[.val (.int aa), .val (.int bb), .val (.int cc), .val (.int dd), .val (.int ee), .val (.int (aa &&& (65535 : Int32))), .val (.int (bb &&& (65535 : Int32))), .val (.int ((cc &&& (255 : Int32)) + (1 : Int32))), .val (.int (dd &&& (65535 : Int32))), .val (.int ((aa &&& (65535 : Int32)) + (ee &&& (65535 : Int32)))), .val (.double (FP.ddiv (FP.i2d (aa &&& (65535 : Int32))) (FP.i2d (bb &&& (65535 : Int32))))), .second, .val (.int ((aa &&& (65535 : Int32)) / (bb &&& (65535 : Int32)))), .val (.int (1 : Int32)), .val (.double (FP.ddiv (FP.i2d ((aa &&& (65535 : Int32)) * ((cc &&& (255 : Int32)) + (1 : Int32)))) (FP.i2d ((bb &&& (65535 : Int32)) * ((cc &&& (255 : Int32)) + (1 : Int32)))))), .second, .unset, .unset, .unset, .unset, .unset, .unset, .unset, .unset, .unset] [(.int (dd &&& (65535 : Int32)))])) _
      refine XS.i2l X28.here hx rfl (hb hby at_133) rfl ?_
      show Steps p.tables e below (T28.setTop (mkF m 134 #[.val (.int aa), .val (.int bb), .val (.int cc), .val (.int dd), .val (.int ee), .val (.int (aa &&& (65535 : Int32))), .val (.int (bb &&& (65535 : Int32))), .val (.int ((cc &&& (255 : Int32)) + (1 : Int32))), .val (.int (dd &&& (65535 : Int32))), .val (.int ((aa &&& (65535 : Int32)) + (ee &&& (65535 : Int32)))), .val (.double (FP.ddiv (FP.i2d (aa &&& (65535 : Int32))) (FP.i2d (bb &&& (65535 : Int32))))), .second, .val (.int ((aa &&& (65535 : Int32)) / (bb &&& (65535 : Int32)))), .val (.int (1 : Int32)), .val (.double (FP.ddiv (FP.i2d ((aa &&& (65535 : Int32)) * ((cc &&& (255 : Int32)) + (1 : Int32)))) (FP.i2d ((bb &&& (65535 : Int32)) * ((cc &&& (255 : Int32)) + (1 : Int32)))))), .second, .unset, .unset, .unset, .unset, .unset, .unset, .unset, .unset, .unset] [(.long ((dd &&& (65535 : Int32)).toInt64))])) _
      refine XS.iload X28.here hx rfl (hb hby at_134) rfl ?_
      show Steps p.tables e below (T28.setTop (mkF m 136 #[.val (.int aa), .val (.int bb), .val (.int cc), .val (.int dd), .val (.int ee), .val (.int (aa &&& (65535 : Int32))), .val (.int (bb &&& (65535 : Int32))), .val (.int ((cc &&& (255 : Int32)) + (1 : Int32))), .val (.int (dd &&& (65535 : Int32))), .val (.int ((aa &&& (65535 : Int32)) + (ee &&& (65535 : Int32)))), .val (.double (FP.ddiv (FP.i2d (aa &&& (65535 : Int32))) (FP.i2d (bb &&& (65535 : Int32))))), .second, .val (.int ((aa &&& (65535 : Int32)) / (bb &&& (65535 : Int32)))), .val (.int (1 : Int32)), .val (.double (FP.ddiv (FP.i2d ((aa &&& (65535 : Int32)) * ((cc &&& (255 : Int32)) + (1 : Int32)))) (FP.i2d ((bb &&& (65535 : Int32)) * ((cc &&& (255 : Int32)) + (1 : Int32)))))), .second, .unset, .unset, .unset, .unset, .unset, .unset, .unset, .unset, .unset] [(.int (bb &&& (65535 : Int32))), (.long ((dd &&& (65535 : Int32)).toInt64))])) _
      refine XS.i2l X28.here hx rfl (hb hby at_136) rfl ?_
      show Steps p.tables e below (T28.setTop (mkF m 137 #[.val (.int aa), .val (.int bb), .val (.int cc), .val (.int dd), .val (.int ee), .val (.int (aa &&& (65535 : Int32))), .val (.int (bb &&& (65535 : Int32))), .val (.int ((cc &&& (255 : Int32)) + (1 : Int32))), .val (.int (dd &&& (65535 : Int32))), .val (.int ((aa &&& (65535 : Int32)) + (ee &&& (65535 : Int32)))), .val (.double (FP.ddiv (FP.i2d (aa &&& (65535 : Int32))) (FP.i2d (bb &&& (65535 : Int32))))), .second, .val (.int ((aa &&& (65535 : Int32)) / (bb &&& (65535 : Int32)))), .val (.int (1 : Int32)), .val (.double (FP.ddiv (FP.i2d ((aa &&& (65535 : Int32)) * ((cc &&& (255 : Int32)) + (1 : Int32)))) (FP.i2d ((bb &&& (65535 : Int32)) * ((cc &&& (255 : Int32)) + (1 : Int32)))))), .second, .unset, .unset, .unset, .unset, .unset, .unset, .unset, .unset, .unset] [(.long ((bb &&& (65535 : Int32)).toInt64)), (.long ((dd &&& (65535 : Int32)).toInt64))])) _
      refine XS.lmul X28.here hx rfl (hb hby at_137) rfl ?_
      show Steps p.tables e below (T28.setTop (mkF m 138 #[.val (.int aa), .val (.int bb), .val (.int cc), .val (.int dd), .val (.int ee), .val (.int (aa &&& (65535 : Int32))), .val (.int (bb &&& (65535 : Int32))), .val (.int ((cc &&& (255 : Int32)) + (1 : Int32))), .val (.int (dd &&& (65535 : Int32))), .val (.int ((aa &&& (65535 : Int32)) + (ee &&& (65535 : Int32)))), .val (.double (FP.ddiv (FP.i2d (aa &&& (65535 : Int32))) (FP.i2d (bb &&& (65535 : Int32))))), .second, .val (.int ((aa &&& (65535 : Int32)) / (bb &&& (65535 : Int32)))), .val (.int (1 : Int32)), .val (.double (FP.ddiv (FP.i2d ((aa &&& (65535 : Int32)) * ((cc &&& (255 : Int32)) + (1 : Int32)))) (FP.i2d ((bb &&& (65535 : Int32)) * ((cc &&& (255 : Int32)) + (1 : Int32)))))), .second, .unset, .unset, .unset, .unset, .unset, .unset, .unset, .unset, .unset] [(.long (((dd &&& (65535 : Int32)).toInt64) * ((bb &&& (65535 : Int32)).toInt64)))])) _
      refine XS.lstore X28.here hx rfl (hb hby at_138) rfl (l' := #[.val (.int aa), .val (.int bb), .val (.int cc), .val (.int dd), .val (.int ee), .val (.int (aa &&& (65535 : Int32))), .val (.int (bb &&& (65535 : Int32))), .val (.int ((cc &&& (255 : Int32)) + (1 : Int32))), .val (.int (dd &&& (65535 : Int32))), .val (.int ((aa &&& (65535 : Int32)) + (ee &&& (65535 : Int32)))), .val (.double (FP.ddiv (FP.i2d (aa &&& (65535 : Int32))) (FP.i2d (bb &&& (65535 : Int32))))), .second, .val (.int ((aa &&& (65535 : Int32)) / (bb &&& (65535 : Int32)))), .val (.int (1 : Int32)), .val (.double (FP.ddiv (FP.i2d ((aa &&& (65535 : Int32)) * ((cc &&& (255 : Int32)) + (1 : Int32)))) (FP.i2d ((bb &&& (65535 : Int32)) * ((cc &&& (255 : Int32)) + (1 : Int32)))))), .second, .val (.long (((dd &&& (65535 : Int32)).toInt64) * ((bb &&& (65535 : Int32)).toInt64))), .second, .unset, .unset, .unset, .unset, .unset, .unset, .unset]) rfl ?_
      show Steps p.tables e below (T28.setTop (mkF m 140 #[.val (.int aa), .val (.int bb), .val (.int cc), .val (.int dd), .val (.int ee), .val (.int (aa &&& (65535 : Int32))), .val (.int (bb &&& (65535 : Int32))), .val (.int ((cc &&& (255 : Int32)) + (1 : Int32))), .val (.int (dd &&& (65535 : Int32))), .val (.int ((aa &&& (65535 : Int32)) + (ee &&& (65535 : Int32)))), .val (.double (FP.ddiv (FP.i2d (aa &&& (65535 : Int32))) (FP.i2d (bb &&& (65535 : Int32))))), .second, .val (.int ((aa &&& (65535 : Int32)) / (bb &&& (65535 : Int32)))), .val (.int (1 : Int32)), .val (.double (FP.ddiv (FP.i2d ((aa &&& (65535 : Int32)) * ((cc &&& (255 : Int32)) + (1 : Int32)))) (FP.i2d ((bb &&& (65535 : Int32)) * ((cc &&& (255 : Int32)) + (1 : Int32)))))), .second, .val (.long (((dd &&& (65535 : Int32)).toInt64) * ((bb &&& (65535 : Int32)).toInt64))), .second, .unset, .unset, .unset, .unset, .unset, .unset, .unset] [])) _
      refine st29 _ ?_
      show Steps p.tables e below (T29.setTop (mkF m 143 #[.val (.int aa), .val (.int bb), .val (.int cc), .val (.int dd), .val (.int ee), .val (.int (aa &&& (65535 : Int32))), .val (.int (bb &&& (65535 : Int32))), .val (.int ((cc &&& (255 : Int32)) + (1 : Int32))), .val (.int (dd &&& (65535 : Int32))), .val (.int ((aa &&& (65535 : Int32)) + (ee &&& (65535 : Int32)))), .val (.double (FP.ddiv (FP.i2d (aa &&& (65535 : Int32))) (FP.i2d (bb &&& (65535 : Int32))))), .second, .val (.int ((aa &&& (65535 : Int32)) / (bb &&& (65535 : Int32)))), .val (.int (1 : Int32)), .val (.double (FP.ddiv (FP.i2d ((aa &&& (65535 : Int32)) * ((cc &&& (255 : Int32)) + (1 : Int32)))) (FP.i2d ((bb &&& (65535 : Int32)) * ((cc &&& (255 : Int32)) + (1 : Int32)))))), .second, .val (.long (((dd &&& (65535 : Int32)).toInt64) * ((bb &&& (65535 : Int32)).toInt64))), .second, .unset, .unset, .unset, .unset, .unset, .unset, .unset] [(.ref b29)])) _
      refine XS.dup X29.here hx rfl (hb hby at_143) rfl rfl ?_
      show Steps p.tables e below (T29.setTop (mkF m 144 #[.val (.int aa), .val (.int bb), .val (.int cc), .val (.int dd), .val (.int ee), .val (.int (aa &&& (65535 : Int32))), .val (.int (bb &&& (65535 : Int32))), .val (.int ((cc &&& (255 : Int32)) + (1 : Int32))), .val (.int (dd &&& (65535 : Int32))), .val (.int ((aa &&& (65535 : Int32)) + (ee &&& (65535 : Int32)))), .val (.double (FP.ddiv (FP.i2d (aa &&& (65535 : Int32))) (FP.i2d (bb &&& (65535 : Int32))))), .second, .val (.int ((aa &&& (65535 : Int32)) / (bb &&& (65535 : Int32)))), .val (.int (1 : Int32)), .val (.double (FP.ddiv (FP.i2d ((aa &&& (65535 : Int32)) * ((cc &&& (255 : Int32)) + (1 : Int32)))) (FP.i2d ((bb &&& (65535 : Int32)) * ((cc &&& (255 : Int32)) + (1 : Int32)))))), .second, .val (.long (((dd &&& (65535 : Int32)).toInt64) * ((bb &&& (65535 : Int32)).toInt64))), .second, .unset, .unset, .unset, .unset, .unset, .unset, .unset] [(.ref b29), (.ref b29)])) _
      refine XS.lload X29.here hx rfl (hb hby at_144) rfl ?_
      show Steps p.tables e below (T29.setTop (mkF m 146 #[.val (.int aa), .val (.int bb), .val (.int cc), .val (.int dd), .val (.int ee), .val (.int (aa &&& (65535 : Int32))), .val (.int (bb &&& (65535 : Int32))), .val (.int ((cc &&& (255 : Int32)) + (1 : Int32))), .val (.int (dd &&& (65535 : Int32))), .val (.int ((aa &&& (65535 : Int32)) + (ee &&& (65535 : Int32)))), .val (.double (FP.ddiv (FP.i2d (aa &&& (65535 : Int32))) (FP.i2d (bb &&& (65535 : Int32))))), .second, .val (.int ((aa &&& (65535 : Int32)) / (bb &&& (65535 : Int32)))), .val (.int (1 : Int32)), .val (.double (FP.ddiv (FP.i2d ((aa &&& (65535 : Int32)) * ((cc &&& (255 : Int32)) + (1 : Int32)))) (FP.i2d ((bb &&& (65535 : Int32)) * ((cc &&& (255 : Int32)) + (1 : Int32)))))), .second, .val (.long (((dd &&& (65535 : Int32)).toInt64) * ((bb &&& (65535 : Int32)).toInt64))), .second, .unset, .unset, .unset, .unset, .unset, .unset, .unset] [(.long (((dd &&& (65535 : Int32)).toInt64) * ((bb &&& (65535 : Int32)).toInt64))), (.ref b29), (.ref b29)])) _
      refine XS.l2dS X29.here hx rfl (hb hby at_146) rfl rfl ?_
      show Steps p.tables e below (T29.setTop (mkF m 147 #[.val (.int aa), .val (.int bb), .val (.int cc), .val (.int dd), .val (.int ee), .val (.int (aa &&& (65535 : Int32))), .val (.int (bb &&& (65535 : Int32))), .val (.int ((cc &&& (255 : Int32)) + (1 : Int32))), .val (.int (dd &&& (65535 : Int32))), .val (.int ((aa &&& (65535 : Int32)) + (ee &&& (65535 : Int32)))), .val (.double (FP.ddiv (FP.i2d (aa &&& (65535 : Int32))) (FP.i2d (bb &&& (65535 : Int32))))), .second, .val (.int ((aa &&& (65535 : Int32)) / (bb &&& (65535 : Int32)))), .val (.int (1 : Int32)), .val (.double (FP.ddiv (FP.i2d ((aa &&& (65535 : Int32)) * ((cc &&& (255 : Int32)) + (1 : Int32)))) (FP.i2d ((bb &&& (65535 : Int32)) * ((cc &&& (255 : Int32)) + (1 : Int32)))))), .second, .val (.long (((dd &&& (65535 : Int32)).toInt64) * ((bb &&& (65535 : Int32)).toInt64))), .second, .unset, .unset, .unset, .unset, .unset, .unset, .unset] [(.double (FP.l2d (((dd &&& (65535 : Int32)).toInt64) * ((bb &&& (65535 : Int32)).toInt64)))), (.ref b29), (.ref b29)])) _
      refine XS.iload X29.here hx rfl (hb hby at_147) rfl ?_
      show Steps p.tables e below (T29.setTop (mkF m 149 #[.val (.int aa), .val (.int bb), .val (.int cc), .val (.int dd), .val (.int ee), .val (.int (aa &&& (65535 : Int32))), .val (.int (bb &&& (65535 : Int32))), .val (.int ((cc &&& (255 : Int32)) + (1 : Int32))), .val (.int (dd &&& (65535 : Int32))), .val (.int ((aa &&& (65535 : Int32)) + (ee &&& (65535 : Int32)))), .val (.double (FP.ddiv (FP.i2d (aa &&& (65535 : Int32))) (FP.i2d (bb &&& (65535 : Int32))))), .second, .val (.int ((aa &&& (65535 : Int32)) / (bb &&& (65535 : Int32)))), .val (.int (1 : Int32)), .val (.double (FP.ddiv (FP.i2d ((aa &&& (65535 : Int32)) * ((cc &&& (255 : Int32)) + (1 : Int32)))) (FP.i2d ((bb &&& (65535 : Int32)) * ((cc &&& (255 : Int32)) + (1 : Int32)))))), .second, .val (.long (((dd &&& (65535 : Int32)).toInt64) * ((bb &&& (65535 : Int32)).toInt64))), .second, .unset, .unset, .unset, .unset, .unset, .unset, .unset] [(.int (bb &&& (65535 : Int32))), (.double (FP.l2d (((dd &&& (65535 : Int32)).toInt64) * ((bb &&& (65535 : Int32)).toInt64)))), (.ref b29), (.ref b29)])) _
      refine XS.i2dS X29.here hx rfl (hb hby at_149) rfl rfl ?_
      exact k
    obtain ⟨_, _, ⟨T41, L41, k41, n41⟩, -, X41, hSr41, gr41, ⟨Lc41, hQ41, l41, y41, z41⟩, st41⟩ := X29.specialBackS hx (y := (⟨"com/example/bundles_to_brokers/bundlestobrokers/model/ResourceUsage", "<init>", "(DD)V"⟩ : MethodName)) rfl hown21 (mvT hZ21 (hw _ (List.mem_of_getElem? (i := 4) rfl))) (mvT hZ21 (hw _ (List.mem_of_getElem? (i := 5) rfl))) (mvT hZ21 (hw _ (List.mem_of_getElem? (i := 6) rfl))) (by decide) (backOfS (W := 1) (rm1 l Z a0 hw [] b29 (FP.l2d (((dd &&& (65535 : Int32)).toInt64) * ((bb &&& (65535 : Int32)).toInt64))) (FP.i2d (bb &&& (65535 : Int32))) (0 : UInt64) (0 : UInt64) h29 n0 Z29 (own_fl _) (own_gl (by rw [(own_ql dd bb).1]; exact (own_ql dd bb).2.1) (by rw [(own_ql dd bb).1]; have := (own_ql dd bb).2.2; omega)) (own_fi _) (own_gi (own_m16 bb).1) A29 f38 f39 gg29) hZ21 (hw _ (List.mem_of_getElem? (i := 6) rfl)) (hw _ (List.mem_of_getElem? (i := 3) rfl)) (by decide) (by decide)) (g := (mkF m 150 #[.val (.int aa), .val (.int bb), .val (.int cc), .val (.int dd), .val (.int ee), .val (.int (aa &&& (65535 : Int32))), .val (.int (bb &&& (65535 : Int32))), .val (.int ((cc &&& (255 : Int32)) + (1 : Int32))), .val (.int (dd &&& (65535 : Int32))), .val (.int ((aa &&& (65535 : Int32)) + (ee &&& (65535 : Int32)))), .val (.double (FP.ddiv (FP.i2d (aa &&& (65535 : Int32))) (FP.i2d (bb &&& (65535 : Int32))))), .second, .val (.int ((aa &&& (65535 : Int32)) / (bb &&& (65535 : Int32)))), .val (.int (1 : Int32)), .val (.double (FP.ddiv (FP.i2d ((aa &&& (65535 : Int32)) * ((cc &&& (255 : Int32)) + (1 : Int32)))) (FP.i2d ((bb &&& (65535 : Int32)) * ((cc &&& (255 : Int32)) + (1 : Int32)))))), .second, .val (.long (((dd &&& (65535 : Int32)).toInt64) * ((bb &&& (65535 : Int32)).toInt64))), .second, .unset, .unset, .unset, .unset, .unset, .unset, .unset] [(.double (FP.i2d (bb &&& (65535 : Int32)))), (.double (FP.l2d (((dd &&& (65535 : Int32)).toInt64) * ((bb &&& (65535 : Int32)).toInt64)))), (.ref b29), (.ref b29)])) rfl (by rw [hml]; rfl) (Steps.refl _) (a := b29) (argsL := [(.double (FP.l2d (((dd &&& (65535 : Int32)).toInt64) * ((bb &&& (65535 : Int32)).toInt64)))), (.double (FP.i2d (bb &&& (65535 : Int32))))]) (rest := [(.ref b29)]) (lenOf pd_2 rfl) rfl (by show 2 * 0 + _ ≤ _; exact Nat.le_of_eq rfl) (hb hby at_150) (fun _ _ => ⟨rfl, e29, (by decide : 11 + 4 ≤ _), (by decide : 102 + 48 ≤ _)⟩)
    dsimp only [Pt.U, Pt.locs, Pt.cells, Pt.slots] at hSr41 gr41 X41 l41 y41 z41 st41 hQ41
    subst y41 z41
    have hS41 : s.Since T41.vm T41.heap.size := State.Since.trans (vm₁ := T21.vm) hS21 hSr41 (Nat.le_trans kS29 (Nat.le_trans (Nat.le_of_eq (congrArg Array.size (Eq.symm e29))) gr41))
    have hZ41 : Z.Warmed39 (s.setVm T41.vm).vm := State.Warmed39.trans (t := (s.setVm T21.vm)) hZ21 hSr41.1
    have hown41 : (s.setVm T41.vm).vm.findClass "com/example/bundles_to_brokers/bundlestobrokers/model/ResourceUsageFractionPinLaw" = some m.cls := by rw [show (s.setVm T41.vm).vm = T41.vm from rfl, hSr41.1.alike.findClass]; exact hown21
    replace X41 : Stand p l e _ (s.setVm T41.vm) m _ below meth c T41 L41 _ _ := X41
    have kS41 : T41.heap.size ≤ T41.heap.size := Nat.le_refl _
    obtain ⟨rfl, N41q, K41c, f42, f43⟩ := hQ41
    have N41 : Fr n0 L41 := by rw [l41]; exact Fr.app N28 N41q
    have f44 : Exa Z T41.heap b1 "com/example/bundles_to_brokers/bundlestobrokers/model/ResourceUsage" := f32.keep K41c
    have f45 : Fld Z T41.heap b1 "com/example/bundles_to_brokers/bundlestobrokers/model/ResourceUsage" "usage" "D" (.double (FP.i2d (aa &&& (65535 : Int32)))) := f33.keep K41c (ninS ne30 nin0)
    have f46 : Fld Z T41.heap b1 "com/example/bundles_to_brokers/bundlestobrokers/model/ResourceUsage" "limit" "D" (.double (FP.i2d (bb &&& (65535 : Int32)))) := f34.keep K41c (ninS ne30 nin0)
    have f47 : Exa Z T41.heap b13 "com/example/bundles_to_brokers/bundlestobrokers/model/ResourceUsage" := f35.keep K41c
    have f48 : Fld Z T41.heap b13 "com/example/bundles_to_brokers/bundlestobrokers/model/ResourceUsage" "usage" "D" (.double (FP.i2d ((aa &&& (65535 : Int32)) * ((cc &&& (255 : Int32)) + (1 : Int32))))) := f36.keep K41c (ninS ne31 nin0)
    have f49 : Fld Z T41.heap b13 "com/example/bundles_to_brokers/bundlestobrokers/model/ResourceUsage" "limit" "D" (.double (FP.i2d ((bb &&& (65535 : Int32)) * ((cc &&& (255 : Int32)) + (1 : Int32))))) := f37.keep K41c (ninS ne31 nin0)
    have f50 : Exa Z T41.heap b29 "com/example/bundles_to_brokers/bundlestobrokers/model/ResourceUsage" := A29.keep K41c
    have Z41 : n0 ≤ T41.heap.size := Nat.le_trans Z29 K41c.1
    obtain ⟨cq51, kq51, q51a, q51b, q51c⟩ := isOf hZ41 rfl f50
    obtain ⟨_, _, ⟨T51, L51, k51, n51⟩, -, X51, ⟨Lc51, hQ51, l51, y51, z51⟩, st51⟩ := X41.virtualBack hx (y := (⟨"com/example/bundles_to_brokers/bundlestobrokers/model/ResourceUsage", "fraction", "()D"⟩ : MethodName)) (z := (⟨"com/example/bundles_to_brokers/bundlestobrokers/model/ResourceUsage", "fraction", "()D"⟩ : MethodName)) hown41 (mvT hZ41 (hw _ (List.mem_of_getElem? (i := 33) rfl))) (mvT hZ41 (hw _ (List.mem_of_getElem? (i := 34) rfl))) (notFace_of_selects (args := #[]) (mvT hZ41 (hw _ (List.mem_of_getElem? (i := 36) rfl)))) (mvT hZ41 (hw _ (List.mem_of_getElem? (i := 36) rfl))) (mvT hZ41 (hw _ (List.mem_of_getElem? (i := 35) rfl))) (by decide) (backOf (W := 0) (rm5d l Z a0 hw [] b29 (FP.l2d (((dd &&& (65535 : Int32)).toInt64) * ((bb &&& (65535 : Int32)).toInt64))) (FP.i2d (bb &&& (65535 : Int32))) T41.heap n0 Z41 f42 f43 (own_nnl hk10) (own_n hk10)) hZ41 (hw _ (List.mem_of_getElem? (i := 37) rfl)) (hw _ (List.mem_of_getElem? (i := 3) rfl)) (by decide) (by decide)) q51a q51c (g := (mkF m 153 #[.val (.int aa), .val (.int bb), .val (.int cc), .val (.int dd), .val (.int ee), .val (.int (aa &&& (65535 : Int32))), .val (.int (bb &&& (65535 : Int32))), .val (.int ((cc &&& (255 : Int32)) + (1 : Int32))), .val (.int (dd &&& (65535 : Int32))), .val (.int ((aa &&& (65535 : Int32)) + (ee &&& (65535 : Int32)))), .val (.double (FP.ddiv (FP.i2d (aa &&& (65535 : Int32))) (FP.i2d (bb &&& (65535 : Int32))))), .second, .val (.int ((aa &&& (65535 : Int32)) / (bb &&& (65535 : Int32)))), .val (.int (1 : Int32)), .val (.double (FP.ddiv (FP.i2d ((aa &&& (65535 : Int32)) * ((cc &&& (255 : Int32)) + (1 : Int32)))) (FP.i2d ((bb &&& (65535 : Int32)) * ((cc &&& (255 : Int32)) + (1 : Int32)))))), .second, .val (.long (((dd &&& (65535 : Int32)).toInt64) * ((bb &&& (65535 : Int32)).toInt64))), .second, .unset, .unset, .unset, .unset, .unset, .unset, .unset] [(.ref b29)])) rfl (by rw [hml]; rfl) (Steps.refl _) (argsL := []) (rest := []) (lenOf pd_3 rfl) rfl (by show 2 * 0 + _ ≤ _; exact Nat.le_of_eq rfl) (hb hby at_153) (fun _ _ => ⟨rfl, rfl, (by decide : 15 + 0 ≤ _), (by decide : 150 + 0 ≤ _)⟩)
    dsimp only [Pt.U, Pt.locs, Pt.cells, Pt.slots] at X51 l51 y51 z51 st51 hQ51
    subst y51 z51
    obtain ⟨rfl, N51q, e51⟩ := hQ51
    have N51 : Fr n0 L51 := by rw [l51]; exact Fr.app N41 N51q
    obtain ⟨T52, h52, X52, e52, E52, A52, D52, -, st52⟩ := newO X51 hx hZ41 hown41 (hw _ (List.mem_of_getElem? (i := 1) rfl)) (hw _ (List.mem_of_getElem? (i := 2) rfl)) (hw _ (List.mem_of_getElem? (i := 3) rfl)) e51 (g := (mkF m 158 #[.val (.int aa), .val (.int bb), .val (.int cc), .val (.int dd), .val (.int ee), .val (.int (aa &&& (65535 : Int32))), .val (.int (bb &&& (65535 : Int32))), .val (.int ((cc &&& (255 : Int32)) + (1 : Int32))), .val (.int (dd &&& (65535 : Int32))), .val (.int ((aa &&& (65535 : Int32)) + (ee &&& (65535 : Int32)))), .val (.double (FP.ddiv (FP.i2d (aa &&& (65535 : Int32))) (FP.i2d (bb &&& (65535 : Int32))))), .second, .val (.int ((aa &&& (65535 : Int32)) / (bb &&& (65535 : Int32)))), .val (.int (1 : Int32)), .val (.double (FP.ddiv (FP.i2d ((aa &&& (65535 : Int32)) * ((cc &&& (255 : Int32)) + (1 : Int32)))) (FP.i2d ((bb &&& (65535 : Int32)) * ((cc &&& (255 : Int32)) + (1 : Int32)))))), .second, .val (.long (((dd &&& (65535 : Int32)).toInt64) * ((bb &&& (65535 : Int32)).toInt64))), .second, .val (.double (FP.ddiv (FP.l2d (((dd &&& (65535 : Int32)).toInt64) * ((bb &&& (65535 : Int32)).toInt64))) (FP.i2d (bb &&& (65535 : Int32))))), .second, .unset, .unset, .unset, .unset, .unset] [])) rfl (hb hby at_158) (by decide) (by decide)
    obtain ⟨b52, g52⟩ : ∃ z, z = T41.heap.size := ⟨_, rfl⟩
    rw [← g52] at A52 D52 st52
    have ne53 : b1 ≠ b52 := Nat.ne_of_lt (Nat.lt_of_lt_of_le f44.lt (Nat.le_of_eq g52.symm))
    have ne54 : b13 ≠ b52 := Nat.ne_of_lt (Nat.lt_of_lt_of_le f47.lt (Nat.le_of_eq g52.symm))
    have ne55 : b29 ≠ b52 := Nat.ne_of_lt (Nat.lt_of_lt_of_le f50.lt (Nat.le_of_eq g52.symm))
    have gg52 : n0 ≤ b52 := Nat.le_trans Z41 (Nat.le_of_eq g52.symm)
    have f56 : Exa Z h52 b1 "com/example/bundles_to_brokers/bundlestobrokers/model/ResourceUsage" := f44.ext E52
    have f57 : Fld Z h52 b1 "com/example/bundles_to_brokers/bundlestobrokers/model/ResourceUsage" "usage" "D" (.double (FP.i2d (aa &&& (65535 : Int32)))) := f45.ext E52
    have f58 : Fld Z h52 b1 "com/example/bundles_to_brokers/bundlestobrokers/model/ResourceUsage" "limit" "D" (.double (FP.i2d (bb &&& (65535 : Int32)))) := f46.ext E52
    have f59 : Exa Z h52 b13 "com/example/bundles_to_brokers/bundlestobrokers/model/ResourceUsage" := f47.ext E52
    have f60 : Fld Z h52 b13 "com/example/bundles_to_brokers/bundlestobrokers/model/ResourceUsage" "usage" "D" (.double (FP.i2d ((aa &&& (65535 : Int32)) * ((cc &&& (255 : Int32)) + (1 : Int32))))) := f48.ext E52
    have f61 : Fld Z h52 b13 "com/example/bundles_to_brokers/bundlestobrokers/model/ResourceUsage" "limit" "D" (.double (FP.i2d ((bb &&& (65535 : Int32)) * ((cc &&& (255 : Int32)) + (1 : Int32))))) := f49.ext E52
    have f62 : Exa Z h52 b29 "com/example/bundles_to_brokers/bundlestobrokers/model/ResourceUsage" := f50.ext E52
    have f63 : Fld Z h52 b29 "com/example/bundles_to_brokers/bundlestobrokers/model/ResourceUsage" "usage" "D" (.double (FP.l2d (((dd &&& (65535 : Int32)).toInt64) * ((bb &&& (65535 : Int32)).toInt64)))) := f42.ext E52
    have f64 : Fld Z h52 b29 "com/example/bundles_to_brokers/bundlestobrokers/model/ResourceUsage" "limit" "D" (.double (FP.i2d (bb &&& (65535 : Int32)))) := f43.ext E52
    have Z52 : n0 ≤ h52.size := Nat.le_trans Z41 E52.1
    have kS52 : _ ≤ h52.size := Nat.le_trans kS41 E52.1
    have f65 : Fld Z h52 b52 "com/example/bundles_to_brokers/bundlestobrokers/model/ResourceUsage" "usage" "D" (.double (0 : UInt64)) := D52 (Or.inr (hw _ (List.mem_of_getElem? (i := 30) rfl))) (ty := .double) (by decide)
    have f66 : Fld Z h52 b52 "com/example/bundles_to_brokers/bundlestobrokers/model/ResourceUsage" "limit" "D" (.double (0 : UInt64)) := D52 (Or.inr (hw _ (List.mem_of_getElem? (i := 32) rfl))) (ty := .double) (by decide)
    have pre67 : ∀ t, Steps p.tables e below (T52.setTop (mkF m 168 #[.val (.int aa), .val (.int bb), .val (.int cc), .val (.int dd), .val (.int ee), .val (.int (aa &&& (65535 : Int32))), .val (.int (bb &&& (65535 : Int32))), .val (.int ((cc &&& (255 : Int32)) + (1 : Int32))), .val (.int (dd &&& (65535 : Int32))), .val (.int ((aa &&& (65535 : Int32)) + (ee &&& (65535 : Int32)))), .val (.double (FP.ddiv (FP.i2d (aa &&& (65535 : Int32))) (FP.i2d (bb &&& (65535 : Int32))))), .second, .val (.int ((aa &&& (65535 : Int32)) / (bb &&& (65535 : Int32)))), .val (.int (1 : Int32)), .val (.double (FP.ddiv (FP.i2d ((aa &&& (65535 : Int32)) * ((cc &&& (255 : Int32)) + (1 : Int32)))) (FP.i2d ((bb &&& (65535 : Int32)) * ((cc &&& (255 : Int32)) + (1 : Int32)))))), .second, .val (.long (((dd &&& (65535 : Int32)).toInt64) * ((bb &&& (65535 : Int32)).toInt64))), .second, .val (.double (FP.ddiv (FP.l2d (((dd &&& (65535 : Int32)).toInt64) * ((bb &&& (65535 : Int32)).toInt64))) (FP.i2d (bb &&& (65535 : Int32))))), .second, .unset, .unset, .unset, .unset, .unset] [(.double (FP.i2d (bb &&& (65535 : Int32)))), (.double (FP.i2d ((aa &&& (65535 : Int32)) + (ee &&& (65535 : Int32))))), (.ref b52), (.ref b52)])) t → Steps p.tables e below (s₁.setTop (entryFrame m #[(.int aa), (.int bb), (.int cc), (.int dd), (.int ee)] maxLocals)) t := by
      intro t k
      refine pre40 _ ?_
      show Steps p.tables e below (T29.setTop (mkF m 150 #[.val (.int aa), .val (.int bb), .val (.int cc), .val (.int dd), .val (.int ee), .val (.int (aa &&& (65535 : Int32))), .val (.int (bb &&& (65535 : Int32))), .val (.int ((cc &&& (255 : Int32)) + (1 : Int32))), .val (.int (dd &&& (65535 : Int32))), .val (.int ((aa &&& (65535 : Int32)) + (ee &&& (65535 : Int32)))), .val (.double (FP.ddiv (FP.i2d (aa &&& (65535 : Int32))) (FP.i2d (bb &&& (65535 : Int32))))), .second, .val (.int ((aa &&& (65535 : Int32)) / (bb &&& (65535 : Int32)))), .val (.int (1 : Int32)), .val (.double (FP.ddiv (FP.i2d ((aa &&& (65535 : Int32)) * ((cc &&& (255 : Int32)) + (1 : Int32)))) (FP.i2d ((bb &&& (65535 : Int32)) * ((cc &&& (255 : Int32)) + (1 : Int32)))))), .second, .val (.long (((dd &&& (65535 : Int32)).toInt64) * ((bb &&& (65535 : Int32)).toInt64))), .second, .unset, .unset, .unset, .unset, .unset, .unset, .unset] [(.double (FP.i2d (bb &&& (65535 : Int32)))), (.double (FP.l2d (((dd &&& (65535 : Int32)).toInt64) * ((bb &&& (65535 : Int32)).toInt64)))), (.ref b29), (.ref b29)])) _
      refine st41.trans ?_
      show Steps p.tables e below (T41.setTop (mkF m 153 #[.val (.int aa), .val (.int bb), .val (.int cc), .val (.int dd), .val (.int ee), .val (.int (aa &&& (65535 : Int32))), .val (.int (bb &&& (65535 : Int32))), .val (.int ((cc &&& (255 : Int32)) + (1 : Int32))), .val (.int (dd &&& (65535 : Int32))), .val (.int ((aa &&& (65535 : Int32)) + (ee &&& (65535 : Int32)))), .val (.double (FP.ddiv (FP.i2d (aa &&& (65535 : Int32))) (FP.i2d (bb &&& (65535 : Int32))))), .second, .val (.int ((aa &&& (65535 : Int32)) / (bb &&& (65535 : Int32)))), .val (.int (1 : Int32)), .val (.double (FP.ddiv (FP.i2d ((aa &&& (65535 : Int32)) * ((cc &&& (255 : Int32)) + (1 : Int32)))) (FP.i2d ((bb &&& (65535 : Int32)) * ((cc &&& (255 : Int32)) + (1 : Int32)))))), .second, .val (.long (((dd &&& (65535 : Int32)).toInt64) * ((bb &&& (65535 : Int32)).toInt64))), .second, .unset, .unset, .unset, .unset, .unset, .unset, .unset] [(.ref b29)])) _
      refine st51.trans ?_
      show Steps p.tables e below (T51.setTop (mkF m 156 #[.val (.int aa), .val (.int bb), .val (.int cc), .val (.int dd), .val (.int ee), .val (.int (aa &&& (65535 : Int32))), .val (.int (bb &&& (65535 : Int32))), .val (.int ((cc &&& (255 : Int32)) + (1 : Int32))), .val (.int (dd &&& (65535 : Int32))), .val (.int ((aa &&& (65535 : Int32)) + (ee &&& (65535 : Int32)))), .val (.double (FP.ddiv (FP.i2d (aa &&& (65535 : Int32))) (FP.i2d (bb &&& (65535 : Int32))))), .second, .val (.int ((aa &&& (65535 : Int32)) / (bb &&& (65535 : Int32)))), .val (.int (1 : Int32)), .val (.double (FP.ddiv (FP.i2d ((aa &&& (65535 : Int32)) * ((cc &&& (255 : Int32)) + (1 : Int32)))) (FP.i2d ((bb &&& (65535 : Int32)) * ((cc &&& (255 : Int32)) + (1 : Int32)))))), .second, .val (.long (((dd &&& (65535 : Int32)).toInt64) * ((bb &&& (65535 : Int32)).toInt64))), .second, .unset, .unset, .unset, .unset, .unset, .unset, .unset] [(.double (FP.ddiv (FP.l2d (((dd &&& (65535 : Int32)).toInt64) * ((bb &&& (65535 : Int32)).toInt64))) (FP.i2d (bb &&& (65535 : Int32)))))])) _
      refine XS.dstore X51.here hx rfl (hb hby at_156) rfl (l' := #[.val (.int aa), .val (.int bb), .val (.int cc), .val (.int dd), .val (.int ee), .val (.int (aa &&& (65535 : Int32))), .val (.int (bb &&& (65535 : Int32))), .val (.int ((cc &&& (255 : Int32)) + (1 : Int32))), .val (.int (dd &&& (65535 : Int32))), .val (.int ((aa &&& (65535 : Int32)) + (ee &&& (65535 : Int32)))), .val (.double (FP.ddiv (FP.i2d (aa &&& (65535 : Int32))) (FP.i2d (bb &&& (65535 : Int32))))), .second, .val (.int ((aa &&& (65535 : Int32)) / (bb &&& (65535 : Int32)))), .val (.int (1 : Int32)), .val (.double (FP.ddiv (FP.i2d ((aa &&& (65535 : Int32)) * ((cc &&& (255 : Int32)) + (1 : Int32)))) (FP.i2d ((bb &&& (65535 : Int32)) * ((cc &&& (255 : Int32)) + (1 : Int32)))))), .second, .val (.long (((dd &&& (65535 : Int32)).toInt64) * ((bb &&& (65535 : Int32)).toInt64))), .second, .val (.double (FP.ddiv (FP.l2d (((dd &&& (65535 : Int32)).toInt64) * ((bb &&& (65535 : Int32)).toInt64))) (FP.i2d (bb &&& (65535 : Int32))))), .second, .unset, .unset, .unset, .unset, .unset]) rfl ?_
      show Steps p.tables e below (T51.setTop (mkF m 158 #[.val (.int aa), .val (.int bb), .val (.int cc), .val (.int dd), .val (.int ee), .val (.int (aa &&& (65535 : Int32))), .val (.int (bb &&& (65535 : Int32))), .val (.int ((cc &&& (255 : Int32)) + (1 : Int32))), .val (.int (dd &&& (65535 : Int32))), .val (.int ((aa &&& (65535 : Int32)) + (ee &&& (65535 : Int32)))), .val (.double (FP.ddiv (FP.i2d (aa &&& (65535 : Int32))) (FP.i2d (bb &&& (65535 : Int32))))), .second, .val (.int ((aa &&& (65535 : Int32)) / (bb &&& (65535 : Int32)))), .val (.int (1 : Int32)), .val (.double (FP.ddiv (FP.i2d ((aa &&& (65535 : Int32)) * ((cc &&& (255 : Int32)) + (1 : Int32)))) (FP.i2d ((bb &&& (65535 : Int32)) * ((cc &&& (255 : Int32)) + (1 : Int32)))))), .second, .val (.long (((dd &&& (65535 : Int32)).toInt64) * ((bb &&& (65535 : Int32)).toInt64))), .second, .val (.double (FP.ddiv (FP.l2d (((dd &&& (65535 : Int32)).toInt64) * ((bb &&& (65535 : Int32)).toInt64))) (FP.i2d (bb &&& (65535 : Int32))))), .second, .unset, .unset, .unset, .unset, .unset] [])) _
      refine st52 _ ?_
      show Steps p.tables e below (T52.setTop (mkF m 161 #[.val (.int aa), .val (.int bb), .val (.int cc), .val (.int dd), .val (.int ee), .val (.int (aa &&& (65535 : Int32))), .val (.int (bb &&& (65535 : Int32))), .val (.int ((cc &&& (255 : Int32)) + (1 : Int32))), .val (.int (dd &&& (65535 : Int32))), .val (.int ((aa &&& (65535 : Int32)) + (ee &&& (65535 : Int32)))), .val (.double (FP.ddiv (FP.i2d (aa &&& (65535 : Int32))) (FP.i2d (bb &&& (65535 : Int32))))), .second, .val (.int ((aa &&& (65535 : Int32)) / (bb &&& (65535 : Int32)))), .val (.int (1 : Int32)), .val (.double (FP.ddiv (FP.i2d ((aa &&& (65535 : Int32)) * ((cc &&& (255 : Int32)) + (1 : Int32)))) (FP.i2d ((bb &&& (65535 : Int32)) * ((cc &&& (255 : Int32)) + (1 : Int32)))))), .second, .val (.long (((dd &&& (65535 : Int32)).toInt64) * ((bb &&& (65535 : Int32)).toInt64))), .second, .val (.double (FP.ddiv (FP.l2d (((dd &&& (65535 : Int32)).toInt64) * ((bb &&& (65535 : Int32)).toInt64))) (FP.i2d (bb &&& (65535 : Int32))))), .second, .unset, .unset, .unset, .unset, .unset] [(.ref b52)])) _
      refine XS.dup X52.here hx rfl (hb hby at_161) rfl rfl ?_
      show Steps p.tables e below (T52.setTop (mkF m 162 #[.val (.int aa), .val (.int bb), .val (.int cc), .val (.int dd), .val (.int ee), .val (.int (aa &&& (65535 : Int32))), .val (.int (bb &&& (65535 : Int32))), .val (.int ((cc &&& (255 : Int32)) + (1 : Int32))), .val (.int (dd &&& (65535 : Int32))), .val (.int ((aa &&& (65535 : Int32)) + (ee &&& (65535 : Int32)))), .val (.double (FP.ddiv (FP.i2d (aa &&& (65535 : Int32))) (FP.i2d (bb &&& (65535 : Int32))))), .second, .val (.int ((aa &&& (65535 : Int32)) / (bb &&& (65535 : Int32)))), .val (.int (1 : Int32)), .val (.double (FP.ddiv (FP.i2d ((aa &&& (65535 : Int32)) * ((cc &&& (255 : Int32)) + (1 : Int32)))) (FP.i2d ((bb &&& (65535 : Int32)) * ((cc &&& (255 : Int32)) + (1 : Int32)))))), .second, .val (.long (((dd &&& (65535 : Int32)).toInt64) * ((bb &&& (65535 : Int32)).toInt64))), .second, .val (.double (FP.ddiv (FP.l2d (((dd &&& (65535 : Int32)).toInt64) * ((bb &&& (65535 : Int32)).toInt64))) (FP.i2d (bb &&& (65535 : Int32))))), .second, .unset, .unset, .unset, .unset, .unset] [(.ref b52), (.ref b52)])) _
      refine XS.iload X52.here hx rfl (hb hby at_162) rfl ?_
      show Steps p.tables e below (T52.setTop (mkF m 164 #[.val (.int aa), .val (.int bb), .val (.int cc), .val (.int dd), .val (.int ee), .val (.int (aa &&& (65535 : Int32))), .val (.int (bb &&& (65535 : Int32))), .val (.int ((cc &&& (255 : Int32)) + (1 : Int32))), .val (.int (dd &&& (65535 : Int32))), .val (.int ((aa &&& (65535 : Int32)) + (ee &&& (65535 : Int32)))), .val (.double (FP.ddiv (FP.i2d (aa &&& (65535 : Int32))) (FP.i2d (bb &&& (65535 : Int32))))), .second, .val (.int ((aa &&& (65535 : Int32)) / (bb &&& (65535 : Int32)))), .val (.int (1 : Int32)), .val (.double (FP.ddiv (FP.i2d ((aa &&& (65535 : Int32)) * ((cc &&& (255 : Int32)) + (1 : Int32)))) (FP.i2d ((bb &&& (65535 : Int32)) * ((cc &&& (255 : Int32)) + (1 : Int32)))))), .second, .val (.long (((dd &&& (65535 : Int32)).toInt64) * ((bb &&& (65535 : Int32)).toInt64))), .second, .val (.double (FP.ddiv (FP.l2d (((dd &&& (65535 : Int32)).toInt64) * ((bb &&& (65535 : Int32)).toInt64))) (FP.i2d (bb &&& (65535 : Int32))))), .second, .unset, .unset, .unset, .unset, .unset] [(.int ((aa &&& (65535 : Int32)) + (ee &&& (65535 : Int32)))), (.ref b52), (.ref b52)])) _
      refine XS.i2dS X52.here hx rfl (hb hby at_164) rfl rfl ?_
      show Steps p.tables e below (T52.setTop (mkF m 165 #[.val (.int aa), .val (.int bb), .val (.int cc), .val (.int dd), .val (.int ee), .val (.int (aa &&& (65535 : Int32))), .val (.int (bb &&& (65535 : Int32))), .val (.int ((cc &&& (255 : Int32)) + (1 : Int32))), .val (.int (dd &&& (65535 : Int32))), .val (.int ((aa &&& (65535 : Int32)) + (ee &&& (65535 : Int32)))), .val (.double (FP.ddiv (FP.i2d (aa &&& (65535 : Int32))) (FP.i2d (bb &&& (65535 : Int32))))), .second, .val (.int ((aa &&& (65535 : Int32)) / (bb &&& (65535 : Int32)))), .val (.int (1 : Int32)), .val (.double (FP.ddiv (FP.i2d ((aa &&& (65535 : Int32)) * ((cc &&& (255 : Int32)) + (1 : Int32)))) (FP.i2d ((bb &&& (65535 : Int32)) * ((cc &&& (255 : Int32)) + (1 : Int32)))))), .second, .val (.long (((dd &&& (65535 : Int32)).toInt64) * ((bb &&& (65535 : Int32)).toInt64))), .second, .val (.double (FP.ddiv (FP.l2d (((dd &&& (65535 : Int32)).toInt64) * ((bb &&& (65535 : Int32)).toInt64))) (FP.i2d (bb &&& (65535 : Int32))))), .second, .unset, .unset, .unset, .unset, .unset] [(.double (FP.i2d ((aa &&& (65535 : Int32)) + (ee &&& (65535 : Int32))))), (.ref b52), (.ref b52)])) _
      refine XS.iload X52.here hx rfl (hb hby at_165) rfl ?_
      show Steps p.tables e below (T52.setTop (mkF m 167 #[.val (.int aa), .val (.int bb), .val (.int cc), .val (.int dd), .val (.int ee), .val (.int (aa &&& (65535 : Int32))), .val (.int (bb &&& (65535 : Int32))), .val (.int ((cc &&& (255 : Int32)) + (1 : Int32))), .val (.int (dd &&& (65535 : Int32))), .val (.int ((aa &&& (65535 : Int32)) + (ee &&& (65535 : Int32)))), .val (.double (FP.ddiv (FP.i2d (aa &&& (65535 : Int32))) (FP.i2d (bb &&& (65535 : Int32))))), .second, .val (.int ((aa &&& (65535 : Int32)) / (bb &&& (65535 : Int32)))), .val (.int (1 : Int32)), .val (.double (FP.ddiv (FP.i2d ((aa &&& (65535 : Int32)) * ((cc &&& (255 : Int32)) + (1 : Int32)))) (FP.i2d ((bb &&& (65535 : Int32)) * ((cc &&& (255 : Int32)) + (1 : Int32)))))), .second, .val (.long (((dd &&& (65535 : Int32)).toInt64) * ((bb &&& (65535 : Int32)).toInt64))), .second, .val (.double (FP.ddiv (FP.l2d (((dd &&& (65535 : Int32)).toInt64) * ((bb &&& (65535 : Int32)).toInt64))) (FP.i2d (bb &&& (65535 : Int32))))), .second, .unset, .unset, .unset, .unset, .unset] [(.int (bb &&& (65535 : Int32))), (.double (FP.i2d ((aa &&& (65535 : Int32)) + (ee &&& (65535 : Int32))))), (.ref b52), (.ref b52)])) _
      refine XS.i2dS X52.here hx rfl (hb hby at_167) rfl rfl ?_
      exact k
    obtain ⟨_, _, ⟨T68, L68, k68, n68⟩, -, X68, hSr68, gr68, ⟨Lc68, hQ68, l68, y68, z68⟩, st68⟩ := X52.specialBackS hx (y := (⟨"com/example/bundles_to_brokers/bundlestobrokers/model/ResourceUsage", "<init>", "(DD)V"⟩ : MethodName)) rfl hown41 (mvT hZ41 (hw _ (List.mem_of_getElem? (i := 4) rfl))) (mvT hZ41 (hw _ (List.mem_of_getElem? (i := 5) rfl))) (mvT hZ41 (hw _ (List.mem_of_getElem? (i := 6) rfl))) (by decide) (backOfS (W := 1) (rm1 l Z a0 hw [] b52 (FP.i2d ((aa &&& (65535 : Int32)) + (ee &&& (65535 : Int32)))) (FP.i2d (bb &&& (65535 : Int32))) (0 : UInt64) (0 : UInt64) h52 n0 Z52 (own_fi _) (own_gi (by rw [own_u2]; have := own_m16 aa; have := own_m16 ee; omega)) (own_fi _) (own_gi (own_m16 bb).1) A52 f65 f66 gg52) hZ41 (hw _ (List.mem_of_getElem? (i := 6) rfl)) (hw _ (List.mem_of_getElem? (i := 3) rfl)) (by decide) (by decide)) (g := (mkF m 168 #[.val (.int aa), .val (.int bb), .val (.int cc), .val (.int dd), .val (.int ee), .val (.int (aa &&& (65535 : Int32))), .val (.int (bb &&& (65535 : Int32))), .val (.int ((cc &&& (255 : Int32)) + (1 : Int32))), .val (.int (dd &&& (65535 : Int32))), .val (.int ((aa &&& (65535 : Int32)) + (ee &&& (65535 : Int32)))), .val (.double (FP.ddiv (FP.i2d (aa &&& (65535 : Int32))) (FP.i2d (bb &&& (65535 : Int32))))), .second, .val (.int ((aa &&& (65535 : Int32)) / (bb &&& (65535 : Int32)))), .val (.int (1 : Int32)), .val (.double (FP.ddiv (FP.i2d ((aa &&& (65535 : Int32)) * ((cc &&& (255 : Int32)) + (1 : Int32)))) (FP.i2d ((bb &&& (65535 : Int32)) * ((cc &&& (255 : Int32)) + (1 : Int32)))))), .second, .val (.long (((dd &&& (65535 : Int32)).toInt64) * ((bb &&& (65535 : Int32)).toInt64))), .second, .val (.double (FP.ddiv (FP.l2d (((dd &&& (65535 : Int32)).toInt64) * ((bb &&& (65535 : Int32)).toInt64))) (FP.i2d (bb &&& (65535 : Int32))))), .second, .unset, .unset, .unset, .unset, .unset] [(.double (FP.i2d (bb &&& (65535 : Int32)))), (.double (FP.i2d ((aa &&& (65535 : Int32)) + (ee &&& (65535 : Int32))))), (.ref b52), (.ref b52)])) rfl (by rw [hml]; rfl) (Steps.refl _) (a := b52) (argsL := [(.double (FP.i2d ((aa &&& (65535 : Int32)) + (ee &&& (65535 : Int32))))), (.double (FP.i2d (bb &&& (65535 : Int32))))]) (rest := [(.ref b52)]) (lenOf pd_2 rfl) rfl (by show 2 * 0 + _ ≤ _; exact Nat.le_of_eq rfl) (hb hby at_168) (fun _ _ => ⟨rfl, e52, (by decide : 16 + 4 ≤ _), (by decide : 152 + 48 ≤ _)⟩)
    dsimp only [Pt.U, Pt.locs, Pt.cells, Pt.slots] at hSr68 gr68 X68 l68 y68 z68 st68 hQ68
    subst y68 z68
    have hS68 : s.Since T68.vm T68.heap.size := State.Since.trans (vm₁ := T41.vm) hS41 hSr68 (Nat.le_trans kS52 (Nat.le_trans (Nat.le_of_eq (congrArg Array.size (Eq.symm e52))) gr68))
    have hZ68 : Z.Warmed39 (s.setVm T68.vm).vm := State.Warmed39.trans (t := (s.setVm T41.vm)) hZ41 hSr68.1
    have hown68 : (s.setVm T68.vm).vm.findClass "com/example/bundles_to_brokers/bundlestobrokers/model/ResourceUsageFractionPinLaw" = some m.cls := by rw [show (s.setVm T68.vm).vm = T68.vm from rfl, hSr68.1.alike.findClass]; exact hown41
    replace X68 : Stand p l e _ (s.setVm T68.vm) m _ below meth c T68 L68 _ _ := X68
    have kS68 : T68.heap.size ≤ T68.heap.size := Nat.le_refl _
    obtain ⟨rfl, N68q, K68c, f69, f70⟩ := hQ68
    have N68 : Fr n0 L68 := by rw [l68]; exact Fr.app N51 N68q
    have f71 : Exa Z T68.heap b1 "com/example/bundles_to_brokers/bundlestobrokers/model/ResourceUsage" := f56.keep K68c
    have f72 : Fld Z T68.heap b1 "com/example/bundles_to_brokers/bundlestobrokers/model/ResourceUsage" "usage" "D" (.double (FP.i2d (aa &&& (65535 : Int32)))) := f57.keep K68c (ninS ne53 nin0)
    have f73 : Fld Z T68.heap b1 "com/example/bundles_to_brokers/bundlestobrokers/model/ResourceUsage" "limit" "D" (.double (FP.i2d (bb &&& (65535 : Int32)))) := f58.keep K68c (ninS ne53 nin0)
    have f74 : Exa Z T68.heap b13 "com/example/bundles_to_brokers/bundlestobrokers/model/ResourceUsage" := f59.keep K68c
    have f75 : Fld Z T68.heap b13 "com/example/bundles_to_brokers/bundlestobrokers/model/ResourceUsage" "usage" "D" (.double (FP.i2d ((aa &&& (65535 : Int32)) * ((cc &&& (255 : Int32)) + (1 : Int32))))) := f60.keep K68c (ninS ne54 nin0)
    have f76 : Fld Z T68.heap b13 "com/example/bundles_to_brokers/bundlestobrokers/model/ResourceUsage" "limit" "D" (.double (FP.i2d ((bb &&& (65535 : Int32)) * ((cc &&& (255 : Int32)) + (1 : Int32))))) := f61.keep K68c (ninS ne54 nin0)
    have f77 : Exa Z T68.heap b29 "com/example/bundles_to_brokers/bundlestobrokers/model/ResourceUsage" := f62.keep K68c
    have f78 : Fld Z T68.heap b29 "com/example/bundles_to_brokers/bundlestobrokers/model/ResourceUsage" "usage" "D" (.double (FP.l2d (((dd &&& (65535 : Int32)).toInt64) * ((bb &&& (65535 : Int32)).toInt64)))) := f63.keep K68c (ninS ne55 nin0)
    have f79 : Fld Z T68.heap b29 "com/example/bundles_to_brokers/bundlestobrokers/model/ResourceUsage" "limit" "D" (.double (FP.i2d (bb &&& (65535 : Int32)))) := f64.keep K68c (ninS ne55 nin0)
    have f80 : Exa Z T68.heap b52 "com/example/bundles_to_brokers/bundlestobrokers/model/ResourceUsage" := A52.keep K68c
    have Z68 : n0 ≤ T68.heap.size := Nat.le_trans Z52 K68c.1
    obtain ⟨cq81, kq81, q81a, q81b, q81c⟩ := isOf hZ68 rfl f80
    obtain ⟨_, _, ⟨T81, L81, k81, n81⟩, -, X81, ⟨Lc81, hQ81, l81, y81, z81⟩, st81⟩ := X68.virtualBack hx (y := (⟨"com/example/bundles_to_brokers/bundlestobrokers/model/ResourceUsage", "fraction", "()D"⟩ : MethodName)) (z := (⟨"com/example/bundles_to_brokers/bundlestobrokers/model/ResourceUsage", "fraction", "()D"⟩ : MethodName)) hown68 (mvT hZ68 (hw _ (List.mem_of_getElem? (i := 33) rfl))) (mvT hZ68 (hw _ (List.mem_of_getElem? (i := 34) rfl))) (notFace_of_selects (args := #[]) (mvT hZ68 (hw _ (List.mem_of_getElem? (i := 36) rfl)))) (mvT hZ68 (hw _ (List.mem_of_getElem? (i := 36) rfl))) (mvT hZ68 (hw _ (List.mem_of_getElem? (i := 35) rfl))) (by decide) (backOf (W := 0) (rm5d l Z a0 hw [] b52 (FP.i2d ((aa &&& (65535 : Int32)) + (ee &&& (65535 : Int32)))) (FP.i2d (bb &&& (65535 : Int32))) T68.heap n0 Z68 f69 f70 (own_nni hk10) (own_n hk10)) hZ68 (hw _ (List.mem_of_getElem? (i := 37) rfl)) (hw _ (List.mem_of_getElem? (i := 3) rfl)) (by decide) (by decide)) q81a q81c (g := (mkF m 171 #[.val (.int aa), .val (.int bb), .val (.int cc), .val (.int dd), .val (.int ee), .val (.int (aa &&& (65535 : Int32))), .val (.int (bb &&& (65535 : Int32))), .val (.int ((cc &&& (255 : Int32)) + (1 : Int32))), .val (.int (dd &&& (65535 : Int32))), .val (.int ((aa &&& (65535 : Int32)) + (ee &&& (65535 : Int32)))), .val (.double (FP.ddiv (FP.i2d (aa &&& (65535 : Int32))) (FP.i2d (bb &&& (65535 : Int32))))), .second, .val (.int ((aa &&& (65535 : Int32)) / (bb &&& (65535 : Int32)))), .val (.int (1 : Int32)), .val (.double (FP.ddiv (FP.i2d ((aa &&& (65535 : Int32)) * ((cc &&& (255 : Int32)) + (1 : Int32)))) (FP.i2d ((bb &&& (65535 : Int32)) * ((cc &&& (255 : Int32)) + (1 : Int32)))))), .second, .val (.long (((dd &&& (65535 : Int32)).toInt64) * ((bb &&& (65535 : Int32)).toInt64))), .second, .val (.double (FP.ddiv (FP.l2d (((dd &&& (65535 : Int32)).toInt64) * ((bb &&& (65535 : Int32)).toInt64))) (FP.i2d (bb &&& (65535 : Int32))))), .second, .unset, .unset, .unset, .unset, .unset] [(.ref b52)])) rfl (by rw [hml]; rfl) (Steps.refl _) (argsL := []) (rest := []) (lenOf pd_3 rfl) rfl (by show 2 * 0 + _ ≤ _; exact Nat.le_of_eq rfl) (hb hby at_171) (fun _ _ => ⟨rfl, rfl, (by decide : 20 + 0 ≤ _), (by decide : 200 + 0 ≤ _)⟩)
    dsimp only [Pt.U, Pt.locs, Pt.cells, Pt.slots] at X81 l81 y81 z81 st81 hQ81
    subst y81 z81
    obtain ⟨rfl, N81q, e81⟩ := hQ81
    have N81 : Fr n0 L81 := by rw [l81]; exact Fr.app N68 N81q
    have pre82 : ∀ t, Steps p.tables e below (T81.setTop (mkF m 211 #[.val (.int aa), .val (.int bb), .val (.int cc), .val (.int dd), .val (.int ee), .val (.int (aa &&& (65535 : Int32))), .val (.int (bb &&& (65535 : Int32))), .val (.int ((cc &&& (255 : Int32)) + (1 : Int32))), .val (.int (dd &&& (65535 : Int32))), .val (.int ((aa &&& (65535 : Int32)) + (ee &&& (65535 : Int32)))), .val (.double (FP.ddiv (FP.i2d (aa &&& (65535 : Int32))) (FP.i2d (bb &&& (65535 : Int32))))), .second, .val (.int ((aa &&& (65535 : Int32)) / (bb &&& (65535 : Int32)))), .val (.int (1 : Int32)), .val (.double (FP.ddiv (FP.i2d ((aa &&& (65535 : Int32)) * ((cc &&& (255 : Int32)) + (1 : Int32)))) (FP.i2d ((bb &&& (65535 : Int32)) * ((cc &&& (255 : Int32)) + (1 : Int32)))))), .second, .val (.long (((dd &&& (65535 : Int32)).toInt64) * ((bb &&& (65535 : Int32)).toInt64))), .second, .val (.double (FP.ddiv (FP.l2d (((dd &&& (65535 : Int32)).toInt64) * ((bb &&& (65535 : Int32)).toInt64))) (FP.i2d (bb &&& (65535 : Int32))))), .second, .val (.double (FP.ddiv (FP.i2d ((aa &&& (65535 : Int32)) + (ee &&& (65535 : Int32)))) (FP.i2d (bb &&& (65535 : Int32))))), .second, .val (.int (1 : Int32)), .val (.int (1 : Int32)), .unset] [(.int (aa &&& (65535 : Int32))), (.int ((aa &&& (65535 : Int32)) + (ee &&& (65535 : Int32))))])) t → Steps p.tables e below (s₁.setTop (entryFrame m #[(.int aa), (.int bb), (.int cc), (.int dd), (.int ee)] maxLocals)) t := by
      intro t k
      refine pre67 _ ?_
      show Steps p.tables e below (T52.setTop (mkF m 168 #[.val (.int aa), .val (.int bb), .val (.int cc), .val (.int dd), .val (.int ee), .val (.int (aa &&& (65535 : Int32))), .val (.int (bb &&& (65535 : Int32))), .val (.int ((cc &&& (255 : Int32)) + (1 : Int32))), .val (.int (dd &&& (65535 : Int32))), .val (.int ((aa &&& (65535 : Int32)) + (ee &&& (65535 : Int32)))), .val (.double (FP.ddiv (FP.i2d (aa &&& (65535 : Int32))) (FP.i2d (bb &&& (65535 : Int32))))), .second, .val (.int ((aa &&& (65535 : Int32)) / (bb &&& (65535 : Int32)))), .val (.int (1 : Int32)), .val (.double (FP.ddiv (FP.i2d ((aa &&& (65535 : Int32)) * ((cc &&& (255 : Int32)) + (1 : Int32)))) (FP.i2d ((bb &&& (65535 : Int32)) * ((cc &&& (255 : Int32)) + (1 : Int32)))))), .second, .val (.long (((dd &&& (65535 : Int32)).toInt64) * ((bb &&& (65535 : Int32)).toInt64))), .second, .val (.double (FP.ddiv (FP.l2d (((dd &&& (65535 : Int32)).toInt64) * ((bb &&& (65535 : Int32)).toInt64))) (FP.i2d (bb &&& (65535 : Int32))))), .second, .unset, .unset, .unset, .unset, .unset] [(.double (FP.i2d (bb &&& (65535 : Int32)))), (.double (FP.i2d ((aa &&& (65535 : Int32)) + (ee &&& (65535 : Int32))))), (.ref b52), (.ref b52)])) _
      refine st68.trans ?_
      show Steps p.tables e below (T68.setTop (mkF m 171 #[.val (.int aa), .val (.int bb), .val (.int cc), .val (.int dd), .val (.int ee), .val (.int (aa &&& (65535 : Int32))), .val (.int (bb &&& (65535 : Int32))), .val (.int ((cc &&& (255 : Int32)) + (1 : Int32))), .val (.int (dd &&& (65535 : Int32))), .val (.int ((aa &&& (65535 : Int32)) + (ee &&& (65535 : Int32)))), .val (.double (FP.ddiv (FP.i2d (aa &&& (65535 : Int32))) (FP.i2d (bb &&& (65535 : Int32))))), .second, .val (.int ((aa &&& (65535 : Int32)) / (bb &&& (65535 : Int32)))), .val (.int (1 : Int32)), .val (.double (FP.ddiv (FP.i2d ((aa &&& (65535 : Int32)) * ((cc &&& (255 : Int32)) + (1 : Int32)))) (FP.i2d ((bb &&& (65535 : Int32)) * ((cc &&& (255 : Int32)) + (1 : Int32)))))), .second, .val (.long (((dd &&& (65535 : Int32)).toInt64) * ((bb &&& (65535 : Int32)).toInt64))), .second, .val (.double (FP.ddiv (FP.l2d (((dd &&& (65535 : Int32)).toInt64) * ((bb &&& (65535 : Int32)).toInt64))) (FP.i2d (bb &&& (65535 : Int32))))), .second, .unset, .unset, .unset, .unset, .unset] [(.ref b52)])) _
      refine st81.trans ?_
      show Steps p.tables e below (T81.setTop (mkF m 174 #[.val (.int aa), .val (.int bb), .val (.int cc), .val (.int dd), .val (.int ee), .val (.int (aa &&& (65535 : Int32))), .val (.int (bb &&& (65535 : Int32))), .val (.int ((cc &&& (255 : Int32)) + (1 : Int32))), .val (.int (dd &&& (65535 : Int32))), .val (.int ((aa &&& (65535 : Int32)) + (ee &&& (65535 : Int32)))), .val (.double (FP.ddiv (FP.i2d (aa &&& (65535 : Int32))) (FP.i2d (bb &&& (65535 : Int32))))), .second, .val (.int ((aa &&& (65535 : Int32)) / (bb &&& (65535 : Int32)))), .val (.int (1 : Int32)), .val (.double (FP.ddiv (FP.i2d ((aa &&& (65535 : Int32)) * ((cc &&& (255 : Int32)) + (1 : Int32)))) (FP.i2d ((bb &&& (65535 : Int32)) * ((cc &&& (255 : Int32)) + (1 : Int32)))))), .second, .val (.long (((dd &&& (65535 : Int32)).toInt64) * ((bb &&& (65535 : Int32)).toInt64))), .second, .val (.double (FP.ddiv (FP.l2d (((dd &&& (65535 : Int32)).toInt64) * ((bb &&& (65535 : Int32)).toInt64))) (FP.i2d (bb &&& (65535 : Int32))))), .second, .unset, .unset, .unset, .unset, .unset] [(.double (FP.ddiv (FP.i2d ((aa &&& (65535 : Int32)) + (ee &&& (65535 : Int32)))) (FP.i2d (bb &&& (65535 : Int32)))))])) _
      refine XS.dstore X81.here hx rfl (hb hby at_174) rfl (l' := #[.val (.int aa), .val (.int bb), .val (.int cc), .val (.int dd), .val (.int ee), .val (.int (aa &&& (65535 : Int32))), .val (.int (bb &&& (65535 : Int32))), .val (.int ((cc &&& (255 : Int32)) + (1 : Int32))), .val (.int (dd &&& (65535 : Int32))), .val (.int ((aa &&& (65535 : Int32)) + (ee &&& (65535 : Int32)))), .val (.double (FP.ddiv (FP.i2d (aa &&& (65535 : Int32))) (FP.i2d (bb &&& (65535 : Int32))))), .second, .val (.int ((aa &&& (65535 : Int32)) / (bb &&& (65535 : Int32)))), .val (.int (1 : Int32)), .val (.double (FP.ddiv (FP.i2d ((aa &&& (65535 : Int32)) * ((cc &&& (255 : Int32)) + (1 : Int32)))) (FP.i2d ((bb &&& (65535 : Int32)) * ((cc &&& (255 : Int32)) + (1 : Int32)))))), .second, .val (.long (((dd &&& (65535 : Int32)).toInt64) * ((bb &&& (65535 : Int32)).toInt64))), .second, .val (.double (FP.ddiv (FP.l2d (((dd &&& (65535 : Int32)).toInt64) * ((bb &&& (65535 : Int32)).toInt64))) (FP.i2d (bb &&& (65535 : Int32))))), .second, .val (.double (FP.ddiv (FP.i2d ((aa &&& (65535 : Int32)) + (ee &&& (65535 : Int32)))) (FP.i2d (bb &&& (65535 : Int32))))), .second, .unset, .unset, .unset]) rfl ?_
      show Steps p.tables e below (T81.setTop (mkF m 176 #[.val (.int aa), .val (.int bb), .val (.int cc), .val (.int dd), .val (.int ee), .val (.int (aa &&& (65535 : Int32))), .val (.int (bb &&& (65535 : Int32))), .val (.int ((cc &&& (255 : Int32)) + (1 : Int32))), .val (.int (dd &&& (65535 : Int32))), .val (.int ((aa &&& (65535 : Int32)) + (ee &&& (65535 : Int32)))), .val (.double (FP.ddiv (FP.i2d (aa &&& (65535 : Int32))) (FP.i2d (bb &&& (65535 : Int32))))), .second, .val (.int ((aa &&& (65535 : Int32)) / (bb &&& (65535 : Int32)))), .val (.int (1 : Int32)), .val (.double (FP.ddiv (FP.i2d ((aa &&& (65535 : Int32)) * ((cc &&& (255 : Int32)) + (1 : Int32)))) (FP.i2d ((bb &&& (65535 : Int32)) * ((cc &&& (255 : Int32)) + (1 : Int32)))))), .second, .val (.long (((dd &&& (65535 : Int32)).toInt64) * ((bb &&& (65535 : Int32)).toInt64))), .second, .val (.double (FP.ddiv (FP.l2d (((dd &&& (65535 : Int32)).toInt64) * ((bb &&& (65535 : Int32)).toInt64))) (FP.i2d (bb &&& (65535 : Int32))))), .second, .val (.double (FP.ddiv (FP.i2d ((aa &&& (65535 : Int32)) + (ee &&& (65535 : Int32)))) (FP.i2d (bb &&& (65535 : Int32))))), .second, .unset, .unset, .unset] [])) _
      refine XS.dload X81.here hx rfl (hb hby at_176) rfl ?_
      show Steps p.tables e below (T81.setTop (mkF m 178 #[.val (.int aa), .val (.int bb), .val (.int cc), .val (.int dd), .val (.int ee), .val (.int (aa &&& (65535 : Int32))), .val (.int (bb &&& (65535 : Int32))), .val (.int ((cc &&& (255 : Int32)) + (1 : Int32))), .val (.int (dd &&& (65535 : Int32))), .val (.int ((aa &&& (65535 : Int32)) + (ee &&& (65535 : Int32)))), .val (.double (FP.ddiv (FP.i2d (aa &&& (65535 : Int32))) (FP.i2d (bb &&& (65535 : Int32))))), .second, .val (.int ((aa &&& (65535 : Int32)) / (bb &&& (65535 : Int32)))), .val (.int (1 : Int32)), .val (.double (FP.ddiv (FP.i2d ((aa &&& (65535 : Int32)) * ((cc &&& (255 : Int32)) + (1 : Int32)))) (FP.i2d ((bb &&& (65535 : Int32)) * ((cc &&& (255 : Int32)) + (1 : Int32)))))), .second, .val (.long (((dd &&& (65535 : Int32)).toInt64) * ((bb &&& (65535 : Int32)).toInt64))), .second, .val (.double (FP.ddiv (FP.l2d (((dd &&& (65535 : Int32)).toInt64) * ((bb &&& (65535 : Int32)).toInt64))) (FP.i2d (bb &&& (65535 : Int32))))), .second, .val (.double (FP.ddiv (FP.i2d ((aa &&& (65535 : Int32)) + (ee &&& (65535 : Int32)))) (FP.i2d (bb &&& (65535 : Int32))))), .second, .unset, .unset, .unset] [(.double (FP.ddiv (FP.l2d (((dd &&& (65535 : Int32)).toInt64) * ((bb &&& (65535 : Int32)).toInt64))) (FP.i2d (bb &&& (65535 : Int32)))))])) _
      refine XS.iload X81.here hx rfl (hb hby at_178) rfl ?_
      show Steps p.tables e below (T81.setTop (mkF m 180 #[.val (.int aa), .val (.int bb), .val (.int cc), .val (.int dd), .val (.int ee), .val (.int (aa &&& (65535 : Int32))), .val (.int (bb &&& (65535 : Int32))), .val (.int ((cc &&& (255 : Int32)) + (1 : Int32))), .val (.int (dd &&& (65535 : Int32))), .val (.int ((aa &&& (65535 : Int32)) + (ee &&& (65535 : Int32)))), .val (.double (FP.ddiv (FP.i2d (aa &&& (65535 : Int32))) (FP.i2d (bb &&& (65535 : Int32))))), .second, .val (.int ((aa &&& (65535 : Int32)) / (bb &&& (65535 : Int32)))), .val (.int (1 : Int32)), .val (.double (FP.ddiv (FP.i2d ((aa &&& (65535 : Int32)) * ((cc &&& (255 : Int32)) + (1 : Int32)))) (FP.i2d ((bb &&& (65535 : Int32)) * ((cc &&& (255 : Int32)) + (1 : Int32)))))), .second, .val (.long (((dd &&& (65535 : Int32)).toInt64) * ((bb &&& (65535 : Int32)).toInt64))), .second, .val (.double (FP.ddiv (FP.l2d (((dd &&& (65535 : Int32)).toInt64) * ((bb &&& (65535 : Int32)).toInt64))) (FP.i2d (bb &&& (65535 : Int32))))), .second, .val (.double (FP.ddiv (FP.i2d ((aa &&& (65535 : Int32)) + (ee &&& (65535 : Int32)))) (FP.i2d (bb &&& (65535 : Int32))))), .second, .unset, .unset, .unset] [(.int (dd &&& (65535 : Int32))), (.double (FP.ddiv (FP.l2d (((dd &&& (65535 : Int32)).toInt64) * ((bb &&& (65535 : Int32)).toInt64))) (FP.i2d (bb &&& (65535 : Int32)))))])) _
      refine XS.i2dS X81.here hx rfl (hb hby at_180) rfl rfl ?_
      show Steps p.tables e below (T81.setTop (mkF m 181 #[.val (.int aa), .val (.int bb), .val (.int cc), .val (.int dd), .val (.int ee), .val (.int (aa &&& (65535 : Int32))), .val (.int (bb &&& (65535 : Int32))), .val (.int ((cc &&& (255 : Int32)) + (1 : Int32))), .val (.int (dd &&& (65535 : Int32))), .val (.int ((aa &&& (65535 : Int32)) + (ee &&& (65535 : Int32)))), .val (.double (FP.ddiv (FP.i2d (aa &&& (65535 : Int32))) (FP.i2d (bb &&& (65535 : Int32))))), .second, .val (.int ((aa &&& (65535 : Int32)) / (bb &&& (65535 : Int32)))), .val (.int (1 : Int32)), .val (.double (FP.ddiv (FP.i2d ((aa &&& (65535 : Int32)) * ((cc &&& (255 : Int32)) + (1 : Int32)))) (FP.i2d ((bb &&& (65535 : Int32)) * ((cc &&& (255 : Int32)) + (1 : Int32)))))), .second, .val (.long (((dd &&& (65535 : Int32)).toInt64) * ((bb &&& (65535 : Int32)).toInt64))), .second, .val (.double (FP.ddiv (FP.l2d (((dd &&& (65535 : Int32)).toInt64) * ((bb &&& (65535 : Int32)).toInt64))) (FP.i2d (bb &&& (65535 : Int32))))), .second, .val (.double (FP.ddiv (FP.i2d ((aa &&& (65535 : Int32)) + (ee &&& (65535 : Int32)))) (FP.i2d (bb &&& (65535 : Int32))))), .second, .unset, .unset, .unset] [(.double (FP.i2d (dd &&& (65535 : Int32)))), (.double (FP.ddiv (FP.l2d (((dd &&& (65535 : Int32)).toInt64) * ((bb &&& (65535 : Int32)).toInt64))) (FP.i2d (bb &&& (65535 : Int32)))))])) _
      refine XS.dcmpS X81.here hx rfl (hb hby at_181) rfl rfl ?_
      show Steps p.tables e below (T81.setTop (mkF m 182 #[.val (.int aa), .val (.int bb), .val (.int cc), .val (.int dd), .val (.int ee), .val (.int (aa &&& (65535 : Int32))), .val (.int (bb &&& (65535 : Int32))), .val (.int ((cc &&& (255 : Int32)) + (1 : Int32))), .val (.int (dd &&& (65535 : Int32))), .val (.int ((aa &&& (65535 : Int32)) + (ee &&& (65535 : Int32)))), .val (.double (FP.ddiv (FP.i2d (aa &&& (65535 : Int32))) (FP.i2d (bb &&& (65535 : Int32))))), .second, .val (.int ((aa &&& (65535 : Int32)) / (bb &&& (65535 : Int32)))), .val (.int (1 : Int32)), .val (.double (FP.ddiv (FP.i2d ((aa &&& (65535 : Int32)) * ((cc &&& (255 : Int32)) + (1 : Int32)))) (FP.i2d ((bb &&& (65535 : Int32)) * ((cc &&& (255 : Int32)) + (1 : Int32)))))), .second, .val (.long (((dd &&& (65535 : Int32)).toInt64) * ((bb &&& (65535 : Int32)).toInt64))), .second, .val (.double (FP.ddiv (FP.l2d (((dd &&& (65535 : Int32)).toInt64) * ((bb &&& (65535 : Int32)).toInt64))) (FP.i2d (bb &&& (65535 : Int32))))), .second, .val (.double (FP.ddiv (FP.i2d ((aa &&& (65535 : Int32)) + (ee &&& (65535 : Int32)))) (FP.i2d (bb &&& (65535 : Int32))))), .second, .unset, .unset, .unset] [(.int (cmpValue (FP.dcmp (FP.ddiv (FP.l2d (((dd &&& (65535 : Int32)).toInt64) * ((bb &&& (65535 : Int32)).toInt64))) (FP.i2d (bb &&& (65535 : Int32)))) (FP.i2d (dd &&& (65535 : Int32)))) .l))])) _
      refine XS.ifNo X81.here hx rfl (hb hby at_182) rfl ((if0 _ _).trans (teq (own_c182 aa bb cc dd ee hk10 : ((cmpValue (FP.dcmp (FP.ddiv (FP.l2d (((dd &&& (65535 : Int32)).toInt64) * ((bb &&& (65535 : Int32)).toInt64))) (FP.i2d (bb &&& (65535 : Int32)))) (FP.i2d (dd &&& (65535 : Int32)))) .l) = (0 : Int32)))).2) ?_
      show Steps p.tables e below (T81.setTop (mkF m 185 #[.val (.int aa), .val (.int bb), .val (.int cc), .val (.int dd), .val (.int ee), .val (.int (aa &&& (65535 : Int32))), .val (.int (bb &&& (65535 : Int32))), .val (.int ((cc &&& (255 : Int32)) + (1 : Int32))), .val (.int (dd &&& (65535 : Int32))), .val (.int ((aa &&& (65535 : Int32)) + (ee &&& (65535 : Int32)))), .val (.double (FP.ddiv (FP.i2d (aa &&& (65535 : Int32))) (FP.i2d (bb &&& (65535 : Int32))))), .second, .val (.int ((aa &&& (65535 : Int32)) / (bb &&& (65535 : Int32)))), .val (.int (1 : Int32)), .val (.double (FP.ddiv (FP.i2d ((aa &&& (65535 : Int32)) * ((cc &&& (255 : Int32)) + (1 : Int32)))) (FP.i2d ((bb &&& (65535 : Int32)) * ((cc &&& (255 : Int32)) + (1 : Int32)))))), .second, .val (.long (((dd &&& (65535 : Int32)).toInt64) * ((bb &&& (65535 : Int32)).toInt64))), .second, .val (.double (FP.ddiv (FP.l2d (((dd &&& (65535 : Int32)).toInt64) * ((bb &&& (65535 : Int32)).toInt64))) (FP.i2d (bb &&& (65535 : Int32))))), .second, .val (.double (FP.ddiv (FP.i2d ((aa &&& (65535 : Int32)) + (ee &&& (65535 : Int32)))) (FP.i2d (bb &&& (65535 : Int32))))), .second, .unset, .unset, .unset] [])) _
      refine XS.iconst X81.here hx rfl (hb hby at_185) ?_
      show Steps p.tables e below (T81.setTop (mkF m 186 #[.val (.int aa), .val (.int bb), .val (.int cc), .val (.int dd), .val (.int ee), .val (.int (aa &&& (65535 : Int32))), .val (.int (bb &&& (65535 : Int32))), .val (.int ((cc &&& (255 : Int32)) + (1 : Int32))), .val (.int (dd &&& (65535 : Int32))), .val (.int ((aa &&& (65535 : Int32)) + (ee &&& (65535 : Int32)))), .val (.double (FP.ddiv (FP.i2d (aa &&& (65535 : Int32))) (FP.i2d (bb &&& (65535 : Int32))))), .second, .val (.int ((aa &&& (65535 : Int32)) / (bb &&& (65535 : Int32)))), .val (.int (1 : Int32)), .val (.double (FP.ddiv (FP.i2d ((aa &&& (65535 : Int32)) * ((cc &&& (255 : Int32)) + (1 : Int32)))) (FP.i2d ((bb &&& (65535 : Int32)) * ((cc &&& (255 : Int32)) + (1 : Int32)))))), .second, .val (.long (((dd &&& (65535 : Int32)).toInt64) * ((bb &&& (65535 : Int32)).toInt64))), .second, .val (.double (FP.ddiv (FP.l2d (((dd &&& (65535 : Int32)).toInt64) * ((bb &&& (65535 : Int32)).toInt64))) (FP.i2d (bb &&& (65535 : Int32))))), .second, .val (.double (FP.ddiv (FP.i2d ((aa &&& (65535 : Int32)) + (ee &&& (65535 : Int32)))) (FP.i2d (bb &&& (65535 : Int32))))), .second, .unset, .unset, .unset] [(.int (1 : Int32))])) _
      refine XS.goto X81.here hx rfl (pc0 := 186) (pc' := 190) rfl (hb hby at_186) (by decide) (by decide) ?_
      show Steps p.tables e below (T81.setTop (mkF m 190 #[.val (.int aa), .val (.int bb), .val (.int cc), .val (.int dd), .val (.int ee), .val (.int (aa &&& (65535 : Int32))), .val (.int (bb &&& (65535 : Int32))), .val (.int ((cc &&& (255 : Int32)) + (1 : Int32))), .val (.int (dd &&& (65535 : Int32))), .val (.int ((aa &&& (65535 : Int32)) + (ee &&& (65535 : Int32)))), .val (.double (FP.ddiv (FP.i2d (aa &&& (65535 : Int32))) (FP.i2d (bb &&& (65535 : Int32))))), .second, .val (.int ((aa &&& (65535 : Int32)) / (bb &&& (65535 : Int32)))), .val (.int (1 : Int32)), .val (.double (FP.ddiv (FP.i2d ((aa &&& (65535 : Int32)) * ((cc &&& (255 : Int32)) + (1 : Int32)))) (FP.i2d ((bb &&& (65535 : Int32)) * ((cc &&& (255 : Int32)) + (1 : Int32)))))), .second, .val (.long (((dd &&& (65535 : Int32)).toInt64) * ((bb &&& (65535 : Int32)).toInt64))), .second, .val (.double (FP.ddiv (FP.l2d (((dd &&& (65535 : Int32)).toInt64) * ((bb &&& (65535 : Int32)).toInt64))) (FP.i2d (bb &&& (65535 : Int32))))), .second, .val (.double (FP.ddiv (FP.i2d ((aa &&& (65535 : Int32)) + (ee &&& (65535 : Int32)))) (FP.i2d (bb &&& (65535 : Int32))))), .second, .unset, .unset, .unset] [(.int (1 : Int32))])) _
      refine XS.istore X81.here hx rfl (hb hby at_190) rfl (l' := #[.val (.int aa), .val (.int bb), .val (.int cc), .val (.int dd), .val (.int ee), .val (.int (aa &&& (65535 : Int32))), .val (.int (bb &&& (65535 : Int32))), .val (.int ((cc &&& (255 : Int32)) + (1 : Int32))), .val (.int (dd &&& (65535 : Int32))), .val (.int ((aa &&& (65535 : Int32)) + (ee &&& (65535 : Int32)))), .val (.double (FP.ddiv (FP.i2d (aa &&& (65535 : Int32))) (FP.i2d (bb &&& (65535 : Int32))))), .second, .val (.int ((aa &&& (65535 : Int32)) / (bb &&& (65535 : Int32)))), .val (.int (1 : Int32)), .val (.double (FP.ddiv (FP.i2d ((aa &&& (65535 : Int32)) * ((cc &&& (255 : Int32)) + (1 : Int32)))) (FP.i2d ((bb &&& (65535 : Int32)) * ((cc &&& (255 : Int32)) + (1 : Int32)))))), .second, .val (.long (((dd &&& (65535 : Int32)).toInt64) * ((bb &&& (65535 : Int32)).toInt64))), .second, .val (.double (FP.ddiv (FP.l2d (((dd &&& (65535 : Int32)).toInt64) * ((bb &&& (65535 : Int32)).toInt64))) (FP.i2d (bb &&& (65535 : Int32))))), .second, .val (.double (FP.ddiv (FP.i2d ((aa &&& (65535 : Int32)) + (ee &&& (65535 : Int32)))) (FP.i2d (bb &&& (65535 : Int32))))), .second, .val (.int (1 : Int32)), .unset, .unset]) rfl ?_
      show Steps p.tables e below (T81.setTop (mkF m 192 #[.val (.int aa), .val (.int bb), .val (.int cc), .val (.int dd), .val (.int ee), .val (.int (aa &&& (65535 : Int32))), .val (.int (bb &&& (65535 : Int32))), .val (.int ((cc &&& (255 : Int32)) + (1 : Int32))), .val (.int (dd &&& (65535 : Int32))), .val (.int ((aa &&& (65535 : Int32)) + (ee &&& (65535 : Int32)))), .val (.double (FP.ddiv (FP.i2d (aa &&& (65535 : Int32))) (FP.i2d (bb &&& (65535 : Int32))))), .second, .val (.int ((aa &&& (65535 : Int32)) / (bb &&& (65535 : Int32)))), .val (.int (1 : Int32)), .val (.double (FP.ddiv (FP.i2d ((aa &&& (65535 : Int32)) * ((cc &&& (255 : Int32)) + (1 : Int32)))) (FP.i2d ((bb &&& (65535 : Int32)) * ((cc &&& (255 : Int32)) + (1 : Int32)))))), .second, .val (.long (((dd &&& (65535 : Int32)).toInt64) * ((bb &&& (65535 : Int32)).toInt64))), .second, .val (.double (FP.ddiv (FP.l2d (((dd &&& (65535 : Int32)).toInt64) * ((bb &&& (65535 : Int32)).toInt64))) (FP.i2d (bb &&& (65535 : Int32))))), .second, .val (.double (FP.ddiv (FP.i2d ((aa &&& (65535 : Int32)) + (ee &&& (65535 : Int32)))) (FP.i2d (bb &&& (65535 : Int32))))), .second, .val (.int (1 : Int32)), .unset, .unset] [])) _
      refine XS.dload X81.here hx rfl (hb hby at_192) rfl ?_
      show Steps p.tables e below (T81.setTop (mkF m 194 #[.val (.int aa), .val (.int bb), .val (.int cc), .val (.int dd), .val (.int ee), .val (.int (aa &&& (65535 : Int32))), .val (.int (bb &&& (65535 : Int32))), .val (.int ((cc &&& (255 : Int32)) + (1 : Int32))), .val (.int (dd &&& (65535 : Int32))), .val (.int ((aa &&& (65535 : Int32)) + (ee &&& (65535 : Int32)))), .val (.double (FP.ddiv (FP.i2d (aa &&& (65535 : Int32))) (FP.i2d (bb &&& (65535 : Int32))))), .second, .val (.int ((aa &&& (65535 : Int32)) / (bb &&& (65535 : Int32)))), .val (.int (1 : Int32)), .val (.double (FP.ddiv (FP.i2d ((aa &&& (65535 : Int32)) * ((cc &&& (255 : Int32)) + (1 : Int32)))) (FP.i2d ((bb &&& (65535 : Int32)) * ((cc &&& (255 : Int32)) + (1 : Int32)))))), .second, .val (.long (((dd &&& (65535 : Int32)).toInt64) * ((bb &&& (65535 : Int32)).toInt64))), .second, .val (.double (FP.ddiv (FP.l2d (((dd &&& (65535 : Int32)).toInt64) * ((bb &&& (65535 : Int32)).toInt64))) (FP.i2d (bb &&& (65535 : Int32))))), .second, .val (.double (FP.ddiv (FP.i2d ((aa &&& (65535 : Int32)) + (ee &&& (65535 : Int32)))) (FP.i2d (bb &&& (65535 : Int32))))), .second, .val (.int (1 : Int32)), .unset, .unset] [(.double (FP.ddiv (FP.i2d ((aa &&& (65535 : Int32)) * ((cc &&& (255 : Int32)) + (1 : Int32)))) (FP.i2d ((bb &&& (65535 : Int32)) * ((cc &&& (255 : Int32)) + (1 : Int32))))))])) _
      refine XS.dload X81.here hx rfl (hb hby at_194) rfl ?_
      show Steps p.tables e below (T81.setTop (mkF m 196 #[.val (.int aa), .val (.int bb), .val (.int cc), .val (.int dd), .val (.int ee), .val (.int (aa &&& (65535 : Int32))), .val (.int (bb &&& (65535 : Int32))), .val (.int ((cc &&& (255 : Int32)) + (1 : Int32))), .val (.int (dd &&& (65535 : Int32))), .val (.int ((aa &&& (65535 : Int32)) + (ee &&& (65535 : Int32)))), .val (.double (FP.ddiv (FP.i2d (aa &&& (65535 : Int32))) (FP.i2d (bb &&& (65535 : Int32))))), .second, .val (.int ((aa &&& (65535 : Int32)) / (bb &&& (65535 : Int32)))), .val (.int (1 : Int32)), .val (.double (FP.ddiv (FP.i2d ((aa &&& (65535 : Int32)) * ((cc &&& (255 : Int32)) + (1 : Int32)))) (FP.i2d ((bb &&& (65535 : Int32)) * ((cc &&& (255 : Int32)) + (1 : Int32)))))), .second, .val (.long (((dd &&& (65535 : Int32)).toInt64) * ((bb &&& (65535 : Int32)).toInt64))), .second, .val (.double (FP.ddiv (FP.l2d (((dd &&& (65535 : Int32)).toInt64) * ((bb &&& (65535 : Int32)).toInt64))) (FP.i2d (bb &&& (65535 : Int32))))), .second, .val (.double (FP.ddiv (FP.i2d ((aa &&& (65535 : Int32)) + (ee &&& (65535 : Int32)))) (FP.i2d (bb &&& (65535 : Int32))))), .second, .val (.int (1 : Int32)), .unset, .unset] [(.double (FP.ddiv (FP.i2d (aa &&& (65535 : Int32))) (FP.i2d (bb &&& (65535 : Int32))))), (.double (FP.ddiv (FP.i2d ((aa &&& (65535 : Int32)) * ((cc &&& (255 : Int32)) + (1 : Int32)))) (FP.i2d ((bb &&& (65535 : Int32)) * ((cc &&& (255 : Int32)) + (1 : Int32))))))])) _
      refine XS.dcmpS X81.here hx rfl (hb hby at_196) rfl rfl ?_
      show Steps p.tables e below (T81.setTop (mkF m 197 #[.val (.int aa), .val (.int bb), .val (.int cc), .val (.int dd), .val (.int ee), .val (.int (aa &&& (65535 : Int32))), .val (.int (bb &&& (65535 : Int32))), .val (.int ((cc &&& (255 : Int32)) + (1 : Int32))), .val (.int (dd &&& (65535 : Int32))), .val (.int ((aa &&& (65535 : Int32)) + (ee &&& (65535 : Int32)))), .val (.double (FP.ddiv (FP.i2d (aa &&& (65535 : Int32))) (FP.i2d (bb &&& (65535 : Int32))))), .second, .val (.int ((aa &&& (65535 : Int32)) / (bb &&& (65535 : Int32)))), .val (.int (1 : Int32)), .val (.double (FP.ddiv (FP.i2d ((aa &&& (65535 : Int32)) * ((cc &&& (255 : Int32)) + (1 : Int32)))) (FP.i2d ((bb &&& (65535 : Int32)) * ((cc &&& (255 : Int32)) + (1 : Int32)))))), .second, .val (.long (((dd &&& (65535 : Int32)).toInt64) * ((bb &&& (65535 : Int32)).toInt64))), .second, .val (.double (FP.ddiv (FP.l2d (((dd &&& (65535 : Int32)).toInt64) * ((bb &&& (65535 : Int32)).toInt64))) (FP.i2d (bb &&& (65535 : Int32))))), .second, .val (.double (FP.ddiv (FP.i2d ((aa &&& (65535 : Int32)) + (ee &&& (65535 : Int32)))) (FP.i2d (bb &&& (65535 : Int32))))), .second, .val (.int (1 : Int32)), .unset, .unset] [(.int (cmpValue (FP.dcmp (FP.ddiv (FP.i2d ((aa &&& (65535 : Int32)) * ((cc &&& (255 : Int32)) + (1 : Int32)))) (FP.i2d ((bb &&& (65535 : Int32)) * ((cc &&& (255 : Int32)) + (1 : Int32))))) (FP.ddiv (FP.i2d (aa &&& (65535 : Int32))) (FP.i2d (bb &&& (65535 : Int32))))) .l))])) _
      refine XS.ifNo X81.here hx rfl (hb hby at_197) rfl ((if0 _ _).trans (teq (own_c197 aa bb cc dd ee hk10 : ((cmpValue (FP.dcmp (FP.ddiv (FP.i2d ((aa &&& (65535 : Int32)) * ((cc &&& (255 : Int32)) + (1 : Int32)))) (FP.i2d ((bb &&& (65535 : Int32)) * ((cc &&& (255 : Int32)) + (1 : Int32))))) (FP.ddiv (FP.i2d (aa &&& (65535 : Int32))) (FP.i2d (bb &&& (65535 : Int32))))) .l) = (0 : Int32)))).2) ?_
      show Steps p.tables e below (T81.setTop (mkF m 200 #[.val (.int aa), .val (.int bb), .val (.int cc), .val (.int dd), .val (.int ee), .val (.int (aa &&& (65535 : Int32))), .val (.int (bb &&& (65535 : Int32))), .val (.int ((cc &&& (255 : Int32)) + (1 : Int32))), .val (.int (dd &&& (65535 : Int32))), .val (.int ((aa &&& (65535 : Int32)) + (ee &&& (65535 : Int32)))), .val (.double (FP.ddiv (FP.i2d (aa &&& (65535 : Int32))) (FP.i2d (bb &&& (65535 : Int32))))), .second, .val (.int ((aa &&& (65535 : Int32)) / (bb &&& (65535 : Int32)))), .val (.int (1 : Int32)), .val (.double (FP.ddiv (FP.i2d ((aa &&& (65535 : Int32)) * ((cc &&& (255 : Int32)) + (1 : Int32)))) (FP.i2d ((bb &&& (65535 : Int32)) * ((cc &&& (255 : Int32)) + (1 : Int32)))))), .second, .val (.long (((dd &&& (65535 : Int32)).toInt64) * ((bb &&& (65535 : Int32)).toInt64))), .second, .val (.double (FP.ddiv (FP.l2d (((dd &&& (65535 : Int32)).toInt64) * ((bb &&& (65535 : Int32)).toInt64))) (FP.i2d (bb &&& (65535 : Int32))))), .second, .val (.double (FP.ddiv (FP.i2d ((aa &&& (65535 : Int32)) + (ee &&& (65535 : Int32)))) (FP.i2d (bb &&& (65535 : Int32))))), .second, .val (.int (1 : Int32)), .unset, .unset] [])) _
      refine XS.iconst X81.here hx rfl (hb hby at_200) ?_
      show Steps p.tables e below (T81.setTop (mkF m 201 #[.val (.int aa), .val (.int bb), .val (.int cc), .val (.int dd), .val (.int ee), .val (.int (aa &&& (65535 : Int32))), .val (.int (bb &&& (65535 : Int32))), .val (.int ((cc &&& (255 : Int32)) + (1 : Int32))), .val (.int (dd &&& (65535 : Int32))), .val (.int ((aa &&& (65535 : Int32)) + (ee &&& (65535 : Int32)))), .val (.double (FP.ddiv (FP.i2d (aa &&& (65535 : Int32))) (FP.i2d (bb &&& (65535 : Int32))))), .second, .val (.int ((aa &&& (65535 : Int32)) / (bb &&& (65535 : Int32)))), .val (.int (1 : Int32)), .val (.double (FP.ddiv (FP.i2d ((aa &&& (65535 : Int32)) * ((cc &&& (255 : Int32)) + (1 : Int32)))) (FP.i2d ((bb &&& (65535 : Int32)) * ((cc &&& (255 : Int32)) + (1 : Int32)))))), .second, .val (.long (((dd &&& (65535 : Int32)).toInt64) * ((bb &&& (65535 : Int32)).toInt64))), .second, .val (.double (FP.ddiv (FP.l2d (((dd &&& (65535 : Int32)).toInt64) * ((bb &&& (65535 : Int32)).toInt64))) (FP.i2d (bb &&& (65535 : Int32))))), .second, .val (.double (FP.ddiv (FP.i2d ((aa &&& (65535 : Int32)) + (ee &&& (65535 : Int32)))) (FP.i2d (bb &&& (65535 : Int32))))), .second, .val (.int (1 : Int32)), .unset, .unset] [(.int (1 : Int32))])) _
      refine XS.goto X81.here hx rfl (pc0 := 201) (pc' := 205) rfl (hb hby at_201) (by decide) (by decide) ?_
      show Steps p.tables e below (T81.setTop (mkF m 205 #[.val (.int aa), .val (.int bb), .val (.int cc), .val (.int dd), .val (.int ee), .val (.int (aa &&& (65535 : Int32))), .val (.int (bb &&& (65535 : Int32))), .val (.int ((cc &&& (255 : Int32)) + (1 : Int32))), .val (.int (dd &&& (65535 : Int32))), .val (.int ((aa &&& (65535 : Int32)) + (ee &&& (65535 : Int32)))), .val (.double (FP.ddiv (FP.i2d (aa &&& (65535 : Int32))) (FP.i2d (bb &&& (65535 : Int32))))), .second, .val (.int ((aa &&& (65535 : Int32)) / (bb &&& (65535 : Int32)))), .val (.int (1 : Int32)), .val (.double (FP.ddiv (FP.i2d ((aa &&& (65535 : Int32)) * ((cc &&& (255 : Int32)) + (1 : Int32)))) (FP.i2d ((bb &&& (65535 : Int32)) * ((cc &&& (255 : Int32)) + (1 : Int32)))))), .second, .val (.long (((dd &&& (65535 : Int32)).toInt64) * ((bb &&& (65535 : Int32)).toInt64))), .second, .val (.double (FP.ddiv (FP.l2d (((dd &&& (65535 : Int32)).toInt64) * ((bb &&& (65535 : Int32)).toInt64))) (FP.i2d (bb &&& (65535 : Int32))))), .second, .val (.double (FP.ddiv (FP.i2d ((aa &&& (65535 : Int32)) + (ee &&& (65535 : Int32)))) (FP.i2d (bb &&& (65535 : Int32))))), .second, .val (.int (1 : Int32)), .unset, .unset] [(.int (1 : Int32))])) _
      refine XS.istore X81.here hx rfl (hb hby at_205) rfl (l' := #[.val (.int aa), .val (.int bb), .val (.int cc), .val (.int dd), .val (.int ee), .val (.int (aa &&& (65535 : Int32))), .val (.int (bb &&& (65535 : Int32))), .val (.int ((cc &&& (255 : Int32)) + (1 : Int32))), .val (.int (dd &&& (65535 : Int32))), .val (.int ((aa &&& (65535 : Int32)) + (ee &&& (65535 : Int32)))), .val (.double (FP.ddiv (FP.i2d (aa &&& (65535 : Int32))) (FP.i2d (bb &&& (65535 : Int32))))), .second, .val (.int ((aa &&& (65535 : Int32)) / (bb &&& (65535 : Int32)))), .val (.int (1 : Int32)), .val (.double (FP.ddiv (FP.i2d ((aa &&& (65535 : Int32)) * ((cc &&& (255 : Int32)) + (1 : Int32)))) (FP.i2d ((bb &&& (65535 : Int32)) * ((cc &&& (255 : Int32)) + (1 : Int32)))))), .second, .val (.long (((dd &&& (65535 : Int32)).toInt64) * ((bb &&& (65535 : Int32)).toInt64))), .second, .val (.double (FP.ddiv (FP.l2d (((dd &&& (65535 : Int32)).toInt64) * ((bb &&& (65535 : Int32)).toInt64))) (FP.i2d (bb &&& (65535 : Int32))))), .second, .val (.double (FP.ddiv (FP.i2d ((aa &&& (65535 : Int32)) + (ee &&& (65535 : Int32)))) (FP.i2d (bb &&& (65535 : Int32))))), .second, .val (.int (1 : Int32)), .val (.int (1 : Int32)), .unset]) rfl ?_
      show Steps p.tables e below (T81.setTop (mkF m 207 #[.val (.int aa), .val (.int bb), .val (.int cc), .val (.int dd), .val (.int ee), .val (.int (aa &&& (65535 : Int32))), .val (.int (bb &&& (65535 : Int32))), .val (.int ((cc &&& (255 : Int32)) + (1 : Int32))), .val (.int (dd &&& (65535 : Int32))), .val (.int ((aa &&& (65535 : Int32)) + (ee &&& (65535 : Int32)))), .val (.double (FP.ddiv (FP.i2d (aa &&& (65535 : Int32))) (FP.i2d (bb &&& (65535 : Int32))))), .second, .val (.int ((aa &&& (65535 : Int32)) / (bb &&& (65535 : Int32)))), .val (.int (1 : Int32)), .val (.double (FP.ddiv (FP.i2d ((aa &&& (65535 : Int32)) * ((cc &&& (255 : Int32)) + (1 : Int32)))) (FP.i2d ((bb &&& (65535 : Int32)) * ((cc &&& (255 : Int32)) + (1 : Int32)))))), .second, .val (.long (((dd &&& (65535 : Int32)).toInt64) * ((bb &&& (65535 : Int32)).toInt64))), .second, .val (.double (FP.ddiv (FP.l2d (((dd &&& (65535 : Int32)).toInt64) * ((bb &&& (65535 : Int32)).toInt64))) (FP.i2d (bb &&& (65535 : Int32))))), .second, .val (.double (FP.ddiv (FP.i2d ((aa &&& (65535 : Int32)) + (ee &&& (65535 : Int32)))) (FP.i2d (bb &&& (65535 : Int32))))), .second, .val (.int (1 : Int32)), .val (.int (1 : Int32)), .unset] [])) _
      refine XS.iload X81.here hx rfl (hb hby at_207) rfl ?_
      show Steps p.tables e below (T81.setTop (mkF m 209 #[.val (.int aa), .val (.int bb), .val (.int cc), .val (.int dd), .val (.int ee), .val (.int (aa &&& (65535 : Int32))), .val (.int (bb &&& (65535 : Int32))), .val (.int ((cc &&& (255 : Int32)) + (1 : Int32))), .val (.int (dd &&& (65535 : Int32))), .val (.int ((aa &&& (65535 : Int32)) + (ee &&& (65535 : Int32)))), .val (.double (FP.ddiv (FP.i2d (aa &&& (65535 : Int32))) (FP.i2d (bb &&& (65535 : Int32))))), .second, .val (.int ((aa &&& (65535 : Int32)) / (bb &&& (65535 : Int32)))), .val (.int (1 : Int32)), .val (.double (FP.ddiv (FP.i2d ((aa &&& (65535 : Int32)) * ((cc &&& (255 : Int32)) + (1 : Int32)))) (FP.i2d ((bb &&& (65535 : Int32)) * ((cc &&& (255 : Int32)) + (1 : Int32)))))), .second, .val (.long (((dd &&& (65535 : Int32)).toInt64) * ((bb &&& (65535 : Int32)).toInt64))), .second, .val (.double (FP.ddiv (FP.l2d (((dd &&& (65535 : Int32)).toInt64) * ((bb &&& (65535 : Int32)).toInt64))) (FP.i2d (bb &&& (65535 : Int32))))), .second, .val (.double (FP.ddiv (FP.i2d ((aa &&& (65535 : Int32)) + (ee &&& (65535 : Int32)))) (FP.i2d (bb &&& (65535 : Int32))))), .second, .val (.int (1 : Int32)), .val (.int (1 : Int32)), .unset] [(.int ((aa &&& (65535 : Int32)) + (ee &&& (65535 : Int32))))])) _
      refine XS.iload X81.here hx rfl (hb hby at_209) rfl ?_
      exact k
    by_cases hk83 : (aa &&& (65535 : Int32)) < ((aa &&& (65535 : Int32)) + (ee &&& (65535 : Int32)))
    · obtain ⟨fs, hr, hrun, hended, hW⟩ := Stand.leaveW (s := s) (vm₁ := T68.vm) X81 hS68 (by rw [e81]; exact kS68) (v := some (.int (1 : Int32))) (fun h => by rw [Bd.returns] at h; cases h) (hlocks := Bd.notSynchronized)
      refine ⟨_, _, pre82 _ ?_, hrun, hended, _, _, rfl, ?_, ⟨_, rfl⟩, hW.2.1, hW.2.2.1, hW.2.2.2.mono (by decide) (by decide)⟩
      · show Steps p.tables e below (T81.setTop (mkF m 211 #[.val (.int aa), .val (.int bb), .val (.int cc), .val (.int dd), .val (.int ee), .val (.int (aa &&& (65535 : Int32))), .val (.int (bb &&& (65535 : Int32))), .val (.int ((cc &&& (255 : Int32)) + (1 : Int32))), .val (.int (dd &&& (65535 : Int32))), .val (.int ((aa &&& (65535 : Int32)) + (ee &&& (65535 : Int32)))), .val (.double (FP.ddiv (FP.i2d (aa &&& (65535 : Int32))) (FP.i2d (bb &&& (65535 : Int32))))), .second, .val (.int ((aa &&& (65535 : Int32)) / (bb &&& (65535 : Int32)))), .val (.int (1 : Int32)), .val (.double (FP.ddiv (FP.i2d ((aa &&& (65535 : Int32)) * ((cc &&& (255 : Int32)) + (1 : Int32)))) (FP.i2d ((bb &&& (65535 : Int32)) * ((cc &&& (255 : Int32)) + (1 : Int32)))))), .second, .val (.long (((dd &&& (65535 : Int32)).toInt64) * ((bb &&& (65535 : Int32)).toInt64))), .second, .val (.double (FP.ddiv (FP.l2d (((dd &&& (65535 : Int32)).toInt64) * ((bb &&& (65535 : Int32)).toInt64))) (FP.i2d (bb &&& (65535 : Int32))))), .second, .val (.double (FP.ddiv (FP.i2d ((aa &&& (65535 : Int32)) + (ee &&& (65535 : Int32)))) (FP.i2d (bb &&& (65535 : Int32))))), .second, .val (.int (1 : Int32)), .val (.int (1 : Int32)), .unset] [(.int (aa &&& (65535 : Int32))), (.int ((aa &&& (65535 : Int32)) + (ee &&& (65535 : Int32))))])) _
        refine XS.icmpNo X81.here hx rfl (hb hby at_211) rfl (tlt hk83).2.2.2 ?_
        show Steps p.tables e below (T81.setTop (mkF m 214 #[.val (.int aa), .val (.int bb), .val (.int cc), .val (.int dd), .val (.int ee), .val (.int (aa &&& (65535 : Int32))), .val (.int (bb &&& (65535 : Int32))), .val (.int ((cc &&& (255 : Int32)) + (1 : Int32))), .val (.int (dd &&& (65535 : Int32))), .val (.int ((aa &&& (65535 : Int32)) + (ee &&& (65535 : Int32)))), .val (.double (FP.ddiv (FP.i2d (aa &&& (65535 : Int32))) (FP.i2d (bb &&& (65535 : Int32))))), .second, .val (.int ((aa &&& (65535 : Int32)) / (bb &&& (65535 : Int32)))), .val (.int (1 : Int32)), .val (.double (FP.ddiv (FP.i2d ((aa &&& (65535 : Int32)) * ((cc &&& (255 : Int32)) + (1 : Int32)))) (FP.i2d ((bb &&& (65535 : Int32)) * ((cc &&& (255 : Int32)) + (1 : Int32)))))), .second, .val (.long (((dd &&& (65535 : Int32)).toInt64) * ((bb &&& (65535 : Int32)).toInt64))), .second, .val (.double (FP.ddiv (FP.l2d (((dd &&& (65535 : Int32)).toInt64) * ((bb &&& (65535 : Int32)).toInt64))) (FP.i2d (bb &&& (65535 : Int32))))), .second, .val (.double (FP.ddiv (FP.i2d ((aa &&& (65535 : Int32)) + (ee &&& (65535 : Int32)))) (FP.i2d (bb &&& (65535 : Int32))))), .second, .val (.int (1 : Int32)), .val (.int (1 : Int32)), .unset] [])) _
        refine XS.iconst X81.here hx rfl (hb hby at_214) ?_
        show Steps p.tables e below (T81.setTop (mkF m 215 #[.val (.int aa), .val (.int bb), .val (.int cc), .val (.int dd), .val (.int ee), .val (.int (aa &&& (65535 : Int32))), .val (.int (bb &&& (65535 : Int32))), .val (.int ((cc &&& (255 : Int32)) + (1 : Int32))), .val (.int (dd &&& (65535 : Int32))), .val (.int ((aa &&& (65535 : Int32)) + (ee &&& (65535 : Int32)))), .val (.double (FP.ddiv (FP.i2d (aa &&& (65535 : Int32))) (FP.i2d (bb &&& (65535 : Int32))))), .second, .val (.int ((aa &&& (65535 : Int32)) / (bb &&& (65535 : Int32)))), .val (.int (1 : Int32)), .val (.double (FP.ddiv (FP.i2d ((aa &&& (65535 : Int32)) * ((cc &&& (255 : Int32)) + (1 : Int32)))) (FP.i2d ((bb &&& (65535 : Int32)) * ((cc &&& (255 : Int32)) + (1 : Int32)))))), .second, .val (.long (((dd &&& (65535 : Int32)).toInt64) * ((bb &&& (65535 : Int32)).toInt64))), .second, .val (.double (FP.ddiv (FP.l2d (((dd &&& (65535 : Int32)).toInt64) * ((bb &&& (65535 : Int32)).toInt64))) (FP.i2d (bb &&& (65535 : Int32))))), .second, .val (.double (FP.ddiv (FP.i2d ((aa &&& (65535 : Int32)) + (ee &&& (65535 : Int32)))) (FP.i2d (bb &&& (65535 : Int32))))), .second, .val (.int (1 : Int32)), .val (.int (1 : Int32)), .unset] [(.int (1 : Int32))])) _
        refine XS.goto X81.here hx rfl (pc0 := 215) (pc' := 219) rfl (hb hby at_215) (by decide) (by decide) ?_
        show Steps p.tables e below (T81.setTop (mkF m 219 #[.val (.int aa), .val (.int bb), .val (.int cc), .val (.int dd), .val (.int ee), .val (.int (aa &&& (65535 : Int32))), .val (.int (bb &&& (65535 : Int32))), .val (.int ((cc &&& (255 : Int32)) + (1 : Int32))), .val (.int (dd &&& (65535 : Int32))), .val (.int ((aa &&& (65535 : Int32)) + (ee &&& (65535 : Int32)))), .val (.double (FP.ddiv (FP.i2d (aa &&& (65535 : Int32))) (FP.i2d (bb &&& (65535 : Int32))))), .second, .val (.int ((aa &&& (65535 : Int32)) / (bb &&& (65535 : Int32)))), .val (.int (1 : Int32)), .val (.double (FP.ddiv (FP.i2d ((aa &&& (65535 : Int32)) * ((cc &&& (255 : Int32)) + (1 : Int32)))) (FP.i2d ((bb &&& (65535 : Int32)) * ((cc &&& (255 : Int32)) + (1 : Int32)))))), .second, .val (.long (((dd &&& (65535 : Int32)).toInt64) * ((bb &&& (65535 : Int32)).toInt64))), .second, .val (.double (FP.ddiv (FP.l2d (((dd &&& (65535 : Int32)).toInt64) * ((bb &&& (65535 : Int32)).toInt64))) (FP.i2d (bb &&& (65535 : Int32))))), .second, .val (.double (FP.ddiv (FP.i2d ((aa &&& (65535 : Int32)) + (ee &&& (65535 : Int32)))) (FP.i2d (bb &&& (65535 : Int32))))), .second, .val (.int (1 : Int32)), .val (.int (1 : Int32)), .unset] [(.int (1 : Int32))])) _
        refine XS.dload X81.here hx rfl (hb hby at_219) rfl ?_
        show Steps p.tables e below (T81.setTop (mkF m 221 #[.val (.int aa), .val (.int bb), .val (.int cc), .val (.int dd), .val (.int ee), .val (.int (aa &&& (65535 : Int32))), .val (.int (bb &&& (65535 : Int32))), .val (.int ((cc &&& (255 : Int32)) + (1 : Int32))), .val (.int (dd &&& (65535 : Int32))), .val (.int ((aa &&& (65535 : Int32)) + (ee &&& (65535 : Int32)))), .val (.double (FP.ddiv (FP.i2d (aa &&& (65535 : Int32))) (FP.i2d (bb &&& (65535 : Int32))))), .second, .val (.int ((aa &&& (65535 : Int32)) / (bb &&& (65535 : Int32)))), .val (.int (1 : Int32)), .val (.double (FP.ddiv (FP.i2d ((aa &&& (65535 : Int32)) * ((cc &&& (255 : Int32)) + (1 : Int32)))) (FP.i2d ((bb &&& (65535 : Int32)) * ((cc &&& (255 : Int32)) + (1 : Int32)))))), .second, .val (.long (((dd &&& (65535 : Int32)).toInt64) * ((bb &&& (65535 : Int32)).toInt64))), .second, .val (.double (FP.ddiv (FP.l2d (((dd &&& (65535 : Int32)).toInt64) * ((bb &&& (65535 : Int32)).toInt64))) (FP.i2d (bb &&& (65535 : Int32))))), .second, .val (.double (FP.ddiv (FP.i2d ((aa &&& (65535 : Int32)) + (ee &&& (65535 : Int32)))) (FP.i2d (bb &&& (65535 : Int32))))), .second, .val (.int (1 : Int32)), .val (.int (1 : Int32)), .unset] [(.double (FP.ddiv (FP.i2d ((aa &&& (65535 : Int32)) + (ee &&& (65535 : Int32)))) (FP.i2d (bb &&& (65535 : Int32))))), (.int (1 : Int32))])) _
        refine XS.dload X81.here hx rfl (hb hby at_221) rfl ?_
        show Steps p.tables e below (T81.setTop (mkF m 223 #[.val (.int aa), .val (.int bb), .val (.int cc), .val (.int dd), .val (.int ee), .val (.int (aa &&& (65535 : Int32))), .val (.int (bb &&& (65535 : Int32))), .val (.int ((cc &&& (255 : Int32)) + (1 : Int32))), .val (.int (dd &&& (65535 : Int32))), .val (.int ((aa &&& (65535 : Int32)) + (ee &&& (65535 : Int32)))), .val (.double (FP.ddiv (FP.i2d (aa &&& (65535 : Int32))) (FP.i2d (bb &&& (65535 : Int32))))), .second, .val (.int ((aa &&& (65535 : Int32)) / (bb &&& (65535 : Int32)))), .val (.int (1 : Int32)), .val (.double (FP.ddiv (FP.i2d ((aa &&& (65535 : Int32)) * ((cc &&& (255 : Int32)) + (1 : Int32)))) (FP.i2d ((bb &&& (65535 : Int32)) * ((cc &&& (255 : Int32)) + (1 : Int32)))))), .second, .val (.long (((dd &&& (65535 : Int32)).toInt64) * ((bb &&& (65535 : Int32)).toInt64))), .second, .val (.double (FP.ddiv (FP.l2d (((dd &&& (65535 : Int32)).toInt64) * ((bb &&& (65535 : Int32)).toInt64))) (FP.i2d (bb &&& (65535 : Int32))))), .second, .val (.double (FP.ddiv (FP.i2d ((aa &&& (65535 : Int32)) + (ee &&& (65535 : Int32)))) (FP.i2d (bb &&& (65535 : Int32))))), .second, .val (.int (1 : Int32)), .val (.int (1 : Int32)), .unset] [(.double (FP.ddiv (FP.i2d (aa &&& (65535 : Int32))) (FP.i2d (bb &&& (65535 : Int32))))), (.double (FP.ddiv (FP.i2d ((aa &&& (65535 : Int32)) + (ee &&& (65535 : Int32)))) (FP.i2d (bb &&& (65535 : Int32))))), (.int (1 : Int32))])) _
        refine XS.dcmpS X81.here hx rfl (hb hby at_223) rfl rfl ?_
        show Steps p.tables e below (T81.setTop (mkF m 224 #[.val (.int aa), .val (.int bb), .val (.int cc), .val (.int dd), .val (.int ee), .val (.int (aa &&& (65535 : Int32))), .val (.int (bb &&& (65535 : Int32))), .val (.int ((cc &&& (255 : Int32)) + (1 : Int32))), .val (.int (dd &&& (65535 : Int32))), .val (.int ((aa &&& (65535 : Int32)) + (ee &&& (65535 : Int32)))), .val (.double (FP.ddiv (FP.i2d (aa &&& (65535 : Int32))) (FP.i2d (bb &&& (65535 : Int32))))), .second, .val (.int ((aa &&& (65535 : Int32)) / (bb &&& (65535 : Int32)))), .val (.int (1 : Int32)), .val (.double (FP.ddiv (FP.i2d ((aa &&& (65535 : Int32)) * ((cc &&& (255 : Int32)) + (1 : Int32)))) (FP.i2d ((bb &&& (65535 : Int32)) * ((cc &&& (255 : Int32)) + (1 : Int32)))))), .second, .val (.long (((dd &&& (65535 : Int32)).toInt64) * ((bb &&& (65535 : Int32)).toInt64))), .second, .val (.double (FP.ddiv (FP.l2d (((dd &&& (65535 : Int32)).toInt64) * ((bb &&& (65535 : Int32)).toInt64))) (FP.i2d (bb &&& (65535 : Int32))))), .second, .val (.double (FP.ddiv (FP.i2d ((aa &&& (65535 : Int32)) + (ee &&& (65535 : Int32)))) (FP.i2d (bb &&& (65535 : Int32))))), .second, .val (.int (1 : Int32)), .val (.int (1 : Int32)), .unset] [(.int (cmpValue (FP.dcmp (FP.ddiv (FP.i2d ((aa &&& (65535 : Int32)) + (ee &&& (65535 : Int32)))) (FP.i2d (bb &&& (65535 : Int32)))) (FP.ddiv (FP.i2d (aa &&& (65535 : Int32))) (FP.i2d (bb &&& (65535 : Int32))))) .l)), (.int (1 : Int32))])) _
        refine XS.ifNo X81.here hx rfl (hb hby at_224) rfl ((if0 _ _).trans (tlt (own_c224f aa bb cc dd ee hk10 hk83 : ((0 : Int32) < (cmpValue (FP.dcmp (FP.ddiv (FP.i2d ((aa &&& (65535 : Int32)) + (ee &&& (65535 : Int32)))) (FP.i2d (bb &&& (65535 : Int32)))) (FP.ddiv (FP.i2d (aa &&& (65535 : Int32))) (FP.i2d (bb &&& (65535 : Int32))))) .l)))).2.2.2) ?_
        show Steps p.tables e below (T81.setTop (mkF m 227 #[.val (.int aa), .val (.int bb), .val (.int cc), .val (.int dd), .val (.int ee), .val (.int (aa &&& (65535 : Int32))), .val (.int (bb &&& (65535 : Int32))), .val (.int ((cc &&& (255 : Int32)) + (1 : Int32))), .val (.int (dd &&& (65535 : Int32))), .val (.int ((aa &&& (65535 : Int32)) + (ee &&& (65535 : Int32)))), .val (.double (FP.ddiv (FP.i2d (aa &&& (65535 : Int32))) (FP.i2d (bb &&& (65535 : Int32))))), .second, .val (.int ((aa &&& (65535 : Int32)) / (bb &&& (65535 : Int32)))), .val (.int (1 : Int32)), .val (.double (FP.ddiv (FP.i2d ((aa &&& (65535 : Int32)) * ((cc &&& (255 : Int32)) + (1 : Int32)))) (FP.i2d ((bb &&& (65535 : Int32)) * ((cc &&& (255 : Int32)) + (1 : Int32)))))), .second, .val (.long (((dd &&& (65535 : Int32)).toInt64) * ((bb &&& (65535 : Int32)).toInt64))), .second, .val (.double (FP.ddiv (FP.l2d (((dd &&& (65535 : Int32)).toInt64) * ((bb &&& (65535 : Int32)).toInt64))) (FP.i2d (bb &&& (65535 : Int32))))), .second, .val (.double (FP.ddiv (FP.i2d ((aa &&& (65535 : Int32)) + (ee &&& (65535 : Int32)))) (FP.i2d (bb &&& (65535 : Int32))))), .second, .val (.int (1 : Int32)), .val (.int (1 : Int32)), .unset] [(.int (1 : Int32))])) _
        refine XS.iconst X81.here hx rfl (hb hby at_227) ?_
        show Steps p.tables e below (T81.setTop (mkF m 228 #[.val (.int aa), .val (.int bb), .val (.int cc), .val (.int dd), .val (.int ee), .val (.int (aa &&& (65535 : Int32))), .val (.int (bb &&& (65535 : Int32))), .val (.int ((cc &&& (255 : Int32)) + (1 : Int32))), .val (.int (dd &&& (65535 : Int32))), .val (.int ((aa &&& (65535 : Int32)) + (ee &&& (65535 : Int32)))), .val (.double (FP.ddiv (FP.i2d (aa &&& (65535 : Int32))) (FP.i2d (bb &&& (65535 : Int32))))), .second, .val (.int ((aa &&& (65535 : Int32)) / (bb &&& (65535 : Int32)))), .val (.int (1 : Int32)), .val (.double (FP.ddiv (FP.i2d ((aa &&& (65535 : Int32)) * ((cc &&& (255 : Int32)) + (1 : Int32)))) (FP.i2d ((bb &&& (65535 : Int32)) * ((cc &&& (255 : Int32)) + (1 : Int32)))))), .second, .val (.long (((dd &&& (65535 : Int32)).toInt64) * ((bb &&& (65535 : Int32)).toInt64))), .second, .val (.double (FP.ddiv (FP.l2d (((dd &&& (65535 : Int32)).toInt64) * ((bb &&& (65535 : Int32)).toInt64))) (FP.i2d (bb &&& (65535 : Int32))))), .second, .val (.double (FP.ddiv (FP.i2d ((aa &&& (65535 : Int32)) + (ee &&& (65535 : Int32)))) (FP.i2d (bb &&& (65535 : Int32))))), .second, .val (.int (1 : Int32)), .val (.int (1 : Int32)), .unset] [(.int (1 : Int32)), (.int (1 : Int32))])) _
        refine XS.goto X81.here hx rfl (pc0 := 228) (pc' := 232) rfl (hb hby at_228) (by decide) (by decide) ?_
        show Steps p.tables e below (T81.setTop (mkF m 232 #[.val (.int aa), .val (.int bb), .val (.int cc), .val (.int dd), .val (.int ee), .val (.int (aa &&& (65535 : Int32))), .val (.int (bb &&& (65535 : Int32))), .val (.int ((cc &&& (255 : Int32)) + (1 : Int32))), .val (.int (dd &&& (65535 : Int32))), .val (.int ((aa &&& (65535 : Int32)) + (ee &&& (65535 : Int32)))), .val (.double (FP.ddiv (FP.i2d (aa &&& (65535 : Int32))) (FP.i2d (bb &&& (65535 : Int32))))), .second, .val (.int ((aa &&& (65535 : Int32)) / (bb &&& (65535 : Int32)))), .val (.int (1 : Int32)), .val (.double (FP.ddiv (FP.i2d ((aa &&& (65535 : Int32)) * ((cc &&& (255 : Int32)) + (1 : Int32)))) (FP.i2d ((bb &&& (65535 : Int32)) * ((cc &&& (255 : Int32)) + (1 : Int32)))))), .second, .val (.long (((dd &&& (65535 : Int32)).toInt64) * ((bb &&& (65535 : Int32)).toInt64))), .second, .val (.double (FP.ddiv (FP.l2d (((dd &&& (65535 : Int32)).toInt64) * ((bb &&& (65535 : Int32)).toInt64))) (FP.i2d (bb &&& (65535 : Int32))))), .second, .val (.double (FP.ddiv (FP.i2d ((aa &&& (65535 : Int32)) + (ee &&& (65535 : Int32)))) (FP.i2d (bb &&& (65535 : Int32))))), .second, .val (.int (1 : Int32)), .val (.int (1 : Int32)), .unset] [(.int (1 : Int32)), (.int (1 : Int32))])) _
        refine XS.icmpNo X81.here hx rfl (hb hby at_232) rfl (teq (by decide : ((1 : Int32) = (1 : Int32)))).2 ?_
        show Steps p.tables e below (T81.setTop (mkF m 235 #[.val (.int aa), .val (.int bb), .val (.int cc), .val (.int dd), .val (.int ee), .val (.int (aa &&& (65535 : Int32))), .val (.int (bb &&& (65535 : Int32))), .val (.int ((cc &&& (255 : Int32)) + (1 : Int32))), .val (.int (dd &&& (65535 : Int32))), .val (.int ((aa &&& (65535 : Int32)) + (ee &&& (65535 : Int32)))), .val (.double (FP.ddiv (FP.i2d (aa &&& (65535 : Int32))) (FP.i2d (bb &&& (65535 : Int32))))), .second, .val (.int ((aa &&& (65535 : Int32)) / (bb &&& (65535 : Int32)))), .val (.int (1 : Int32)), .val (.double (FP.ddiv (FP.i2d ((aa &&& (65535 : Int32)) * ((cc &&& (255 : Int32)) + (1 : Int32)))) (FP.i2d ((bb &&& (65535 : Int32)) * ((cc &&& (255 : Int32)) + (1 : Int32)))))), .second, .val (.long (((dd &&& (65535 : Int32)).toInt64) * ((bb &&& (65535 : Int32)).toInt64))), .second, .val (.double (FP.ddiv (FP.l2d (((dd &&& (65535 : Int32)).toInt64) * ((bb &&& (65535 : Int32)).toInt64))) (FP.i2d (bb &&& (65535 : Int32))))), .second, .val (.double (FP.ddiv (FP.i2d ((aa &&& (65535 : Int32)) + (ee &&& (65535 : Int32)))) (FP.i2d (bb &&& (65535 : Int32))))), .second, .val (.int (1 : Int32)), .val (.int (1 : Int32)), .unset] [])) _
        refine XS.iconst X81.here hx rfl (hb hby at_235) ?_
        show Steps p.tables e below (T81.setTop (mkF m 236 #[.val (.int aa), .val (.int bb), .val (.int cc), .val (.int dd), .val (.int ee), .val (.int (aa &&& (65535 : Int32))), .val (.int (bb &&& (65535 : Int32))), .val (.int ((cc &&& (255 : Int32)) + (1 : Int32))), .val (.int (dd &&& (65535 : Int32))), .val (.int ((aa &&& (65535 : Int32)) + (ee &&& (65535 : Int32)))), .val (.double (FP.ddiv (FP.i2d (aa &&& (65535 : Int32))) (FP.i2d (bb &&& (65535 : Int32))))), .second, .val (.int ((aa &&& (65535 : Int32)) / (bb &&& (65535 : Int32)))), .val (.int (1 : Int32)), .val (.double (FP.ddiv (FP.i2d ((aa &&& (65535 : Int32)) * ((cc &&& (255 : Int32)) + (1 : Int32)))) (FP.i2d ((bb &&& (65535 : Int32)) * ((cc &&& (255 : Int32)) + (1 : Int32)))))), .second, .val (.long (((dd &&& (65535 : Int32)).toInt64) * ((bb &&& (65535 : Int32)).toInt64))), .second, .val (.double (FP.ddiv (FP.l2d (((dd &&& (65535 : Int32)).toInt64) * ((bb &&& (65535 : Int32)).toInt64))) (FP.i2d (bb &&& (65535 : Int32))))), .second, .val (.double (FP.ddiv (FP.i2d ((aa &&& (65535 : Int32)) + (ee &&& (65535 : Int32)))) (FP.i2d (bb &&& (65535 : Int32))))), .second, .val (.int (1 : Int32)), .val (.int (1 : Int32)), .unset] [(.int (1 : Int32))])) _
        refine XS.goto X81.here hx rfl (pc0 := 236) (pc' := 240) rfl (hb hby at_236) (by decide) (by decide) ?_
        show Steps p.tables e below (T81.setTop (mkF m 240 #[.val (.int aa), .val (.int bb), .val (.int cc), .val (.int dd), .val (.int ee), .val (.int (aa &&& (65535 : Int32))), .val (.int (bb &&& (65535 : Int32))), .val (.int ((cc &&& (255 : Int32)) + (1 : Int32))), .val (.int (dd &&& (65535 : Int32))), .val (.int ((aa &&& (65535 : Int32)) + (ee &&& (65535 : Int32)))), .val (.double (FP.ddiv (FP.i2d (aa &&& (65535 : Int32))) (FP.i2d (bb &&& (65535 : Int32))))), .second, .val (.int ((aa &&& (65535 : Int32)) / (bb &&& (65535 : Int32)))), .val (.int (1 : Int32)), .val (.double (FP.ddiv (FP.i2d ((aa &&& (65535 : Int32)) * ((cc &&& (255 : Int32)) + (1 : Int32)))) (FP.i2d ((bb &&& (65535 : Int32)) * ((cc &&& (255 : Int32)) + (1 : Int32)))))), .second, .val (.long (((dd &&& (65535 : Int32)).toInt64) * ((bb &&& (65535 : Int32)).toInt64))), .second, .val (.double (FP.ddiv (FP.l2d (((dd &&& (65535 : Int32)).toInt64) * ((bb &&& (65535 : Int32)).toInt64))) (FP.i2d (bb &&& (65535 : Int32))))), .second, .val (.double (FP.ddiv (FP.i2d ((aa &&& (65535 : Int32)) + (ee &&& (65535 : Int32)))) (FP.i2d (bb &&& (65535 : Int32))))), .second, .val (.int (1 : Int32)), .val (.int (1 : Int32)), .unset] [(.int (1 : Int32))])) _
        refine XS.istore X81.here hx rfl (hb hby at_240) rfl (l' := #[.val (.int aa), .val (.int bb), .val (.int cc), .val (.int dd), .val (.int ee), .val (.int (aa &&& (65535 : Int32))), .val (.int (bb &&& (65535 : Int32))), .val (.int ((cc &&& (255 : Int32)) + (1 : Int32))), .val (.int (dd &&& (65535 : Int32))), .val (.int ((aa &&& (65535 : Int32)) + (ee &&& (65535 : Int32)))), .val (.double (FP.ddiv (FP.i2d (aa &&& (65535 : Int32))) (FP.i2d (bb &&& (65535 : Int32))))), .second, .val (.int ((aa &&& (65535 : Int32)) / (bb &&& (65535 : Int32)))), .val (.int (1 : Int32)), .val (.double (FP.ddiv (FP.i2d ((aa &&& (65535 : Int32)) * ((cc &&& (255 : Int32)) + (1 : Int32)))) (FP.i2d ((bb &&& (65535 : Int32)) * ((cc &&& (255 : Int32)) + (1 : Int32)))))), .second, .val (.long (((dd &&& (65535 : Int32)).toInt64) * ((bb &&& (65535 : Int32)).toInt64))), .second, .val (.double (FP.ddiv (FP.l2d (((dd &&& (65535 : Int32)).toInt64) * ((bb &&& (65535 : Int32)).toInt64))) (FP.i2d (bb &&& (65535 : Int32))))), .second, .val (.double (FP.ddiv (FP.i2d ((aa &&& (65535 : Int32)) + (ee &&& (65535 : Int32)))) (FP.i2d (bb &&& (65535 : Int32))))), .second, .val (.int (1 : Int32)), .val (.int (1 : Int32)), .val (.int (1 : Int32))]) rfl ?_
        show Steps p.tables e below (T81.setTop (mkF m 242 #[.val (.int aa), .val (.int bb), .val (.int cc), .val (.int dd), .val (.int ee), .val (.int (aa &&& (65535 : Int32))), .val (.int (bb &&& (65535 : Int32))), .val (.int ((cc &&& (255 : Int32)) + (1 : Int32))), .val (.int (dd &&& (65535 : Int32))), .val (.int ((aa &&& (65535 : Int32)) + (ee &&& (65535 : Int32)))), .val (.double (FP.ddiv (FP.i2d (aa &&& (65535 : Int32))) (FP.i2d (bb &&& (65535 : Int32))))), .second, .val (.int ((aa &&& (65535 : Int32)) / (bb &&& (65535 : Int32)))), .val (.int (1 : Int32)), .val (.double (FP.ddiv (FP.i2d ((aa &&& (65535 : Int32)) * ((cc &&& (255 : Int32)) + (1 : Int32)))) (FP.i2d ((bb &&& (65535 : Int32)) * ((cc &&& (255 : Int32)) + (1 : Int32)))))), .second, .val (.long (((dd &&& (65535 : Int32)).toInt64) * ((bb &&& (65535 : Int32)).toInt64))), .second, .val (.double (FP.ddiv (FP.l2d (((dd &&& (65535 : Int32)).toInt64) * ((bb &&& (65535 : Int32)).toInt64))) (FP.i2d (bb &&& (65535 : Int32))))), .second, .val (.double (FP.ddiv (FP.i2d ((aa &&& (65535 : Int32)) + (ee &&& (65535 : Int32)))) (FP.i2d (bb &&& (65535 : Int32))))), .second, .val (.int (1 : Int32)), .val (.int (1 : Int32)), .val (.int (1 : Int32))] [])) _
        refine XS.iload X81.here hx rfl (hb hby at_242) rfl ?_
        show Steps p.tables e below (T81.setTop (mkF m 244 #[.val (.int aa), .val (.int bb), .val (.int cc), .val (.int dd), .val (.int ee), .val (.int (aa &&& (65535 : Int32))), .val (.int (bb &&& (65535 : Int32))), .val (.int ((cc &&& (255 : Int32)) + (1 : Int32))), .val (.int (dd &&& (65535 : Int32))), .val (.int ((aa &&& (65535 : Int32)) + (ee &&& (65535 : Int32)))), .val (.double (FP.ddiv (FP.i2d (aa &&& (65535 : Int32))) (FP.i2d (bb &&& (65535 : Int32))))), .second, .val (.int ((aa &&& (65535 : Int32)) / (bb &&& (65535 : Int32)))), .val (.int (1 : Int32)), .val (.double (FP.ddiv (FP.i2d ((aa &&& (65535 : Int32)) * ((cc &&& (255 : Int32)) + (1 : Int32)))) (FP.i2d ((bb &&& (65535 : Int32)) * ((cc &&& (255 : Int32)) + (1 : Int32)))))), .second, .val (.long (((dd &&& (65535 : Int32)).toInt64) * ((bb &&& (65535 : Int32)).toInt64))), .second, .val (.double (FP.ddiv (FP.l2d (((dd &&& (65535 : Int32)).toInt64) * ((bb &&& (65535 : Int32)).toInt64))) (FP.i2d (bb &&& (65535 : Int32))))), .second, .val (.double (FP.ddiv (FP.i2d ((aa &&& (65535 : Int32)) + (ee &&& (65535 : Int32)))) (FP.i2d (bb &&& (65535 : Int32))))), .second, .val (.int (1 : Int32)), .val (.int (1 : Int32)), .val (.int (1 : Int32))] [(.int (1 : Int32))])) _
        refine XS.ifNo X81.here hx rfl (hb hby at_244) rfl ((if0 _ _).trans (feq (by decide : ¬ ((1 : Int32) = (0 : Int32)))).1) ?_
        show Steps p.tables e below (T81.setTop (mkF m 247 #[.val (.int aa), .val (.int bb), .val (.int cc), .val (.int dd), .val (.int ee), .val (.int (aa &&& (65535 : Int32))), .val (.int (bb &&& (65535 : Int32))), .val (.int ((cc &&& (255 : Int32)) + (1 : Int32))), .val (.int (dd &&& (65535 : Int32))), .val (.int ((aa &&& (65535 : Int32)) + (ee &&& (65535 : Int32)))), .val (.double (FP.ddiv (FP.i2d (aa &&& (65535 : Int32))) (FP.i2d (bb &&& (65535 : Int32))))), .second, .val (.int ((aa &&& (65535 : Int32)) / (bb &&& (65535 : Int32)))), .val (.int (1 : Int32)), .val (.double (FP.ddiv (FP.i2d ((aa &&& (65535 : Int32)) * ((cc &&& (255 : Int32)) + (1 : Int32)))) (FP.i2d ((bb &&& (65535 : Int32)) * ((cc &&& (255 : Int32)) + (1 : Int32)))))), .second, .val (.long (((dd &&& (65535 : Int32)).toInt64) * ((bb &&& (65535 : Int32)).toInt64))), .second, .val (.double (FP.ddiv (FP.l2d (((dd &&& (65535 : Int32)).toInt64) * ((bb &&& (65535 : Int32)).toInt64))) (FP.i2d (bb &&& (65535 : Int32))))), .second, .val (.double (FP.ddiv (FP.i2d ((aa &&& (65535 : Int32)) + (ee &&& (65535 : Int32)))) (FP.i2d (bb &&& (65535 : Int32))))), .second, .val (.int (1 : Int32)), .val (.int (1 : Int32)), .val (.int (1 : Int32))] [])) _
        refine XS.iload X81.here hx rfl (hb hby at_247) rfl ?_
        show Steps p.tables e below (T81.setTop (mkF m 249 #[.val (.int aa), .val (.int bb), .val (.int cc), .val (.int dd), .val (.int ee), .val (.int (aa &&& (65535 : Int32))), .val (.int (bb &&& (65535 : Int32))), .val (.int ((cc &&& (255 : Int32)) + (1 : Int32))), .val (.int (dd &&& (65535 : Int32))), .val (.int ((aa &&& (65535 : Int32)) + (ee &&& (65535 : Int32)))), .val (.double (FP.ddiv (FP.i2d (aa &&& (65535 : Int32))) (FP.i2d (bb &&& (65535 : Int32))))), .second, .val (.int ((aa &&& (65535 : Int32)) / (bb &&& (65535 : Int32)))), .val (.int (1 : Int32)), .val (.double (FP.ddiv (FP.i2d ((aa &&& (65535 : Int32)) * ((cc &&& (255 : Int32)) + (1 : Int32)))) (FP.i2d ((bb &&& (65535 : Int32)) * ((cc &&& (255 : Int32)) + (1 : Int32)))))), .second, .val (.long (((dd &&& (65535 : Int32)).toInt64) * ((bb &&& (65535 : Int32)).toInt64))), .second, .val (.double (FP.ddiv (FP.l2d (((dd &&& (65535 : Int32)).toInt64) * ((bb &&& (65535 : Int32)).toInt64))) (FP.i2d (bb &&& (65535 : Int32))))), .second, .val (.double (FP.ddiv (FP.i2d ((aa &&& (65535 : Int32)) + (ee &&& (65535 : Int32)))) (FP.i2d (bb &&& (65535 : Int32))))), .second, .val (.int (1 : Int32)), .val (.int (1 : Int32)), .val (.int (1 : Int32))] [(.int (1 : Int32))])) _
        refine XS.ifNo X81.here hx rfl (hb hby at_249) rfl ((if0 _ _).trans (feq (by decide : ¬ ((1 : Int32) = (0 : Int32)))).1) ?_
        show Steps p.tables e below (T81.setTop (mkF m 252 #[.val (.int aa), .val (.int bb), .val (.int cc), .val (.int dd), .val (.int ee), .val (.int (aa &&& (65535 : Int32))), .val (.int (bb &&& (65535 : Int32))), .val (.int ((cc &&& (255 : Int32)) + (1 : Int32))), .val (.int (dd &&& (65535 : Int32))), .val (.int ((aa &&& (65535 : Int32)) + (ee &&& (65535 : Int32)))), .val (.double (FP.ddiv (FP.i2d (aa &&& (65535 : Int32))) (FP.i2d (bb &&& (65535 : Int32))))), .second, .val (.int ((aa &&& (65535 : Int32)) / (bb &&& (65535 : Int32)))), .val (.int (1 : Int32)), .val (.double (FP.ddiv (FP.i2d ((aa &&& (65535 : Int32)) * ((cc &&& (255 : Int32)) + (1 : Int32)))) (FP.i2d ((bb &&& (65535 : Int32)) * ((cc &&& (255 : Int32)) + (1 : Int32)))))), .second, .val (.long (((dd &&& (65535 : Int32)).toInt64) * ((bb &&& (65535 : Int32)).toInt64))), .second, .val (.double (FP.ddiv (FP.l2d (((dd &&& (65535 : Int32)).toInt64) * ((bb &&& (65535 : Int32)).toInt64))) (FP.i2d (bb &&& (65535 : Int32))))), .second, .val (.double (FP.ddiv (FP.i2d ((aa &&& (65535 : Int32)) + (ee &&& (65535 : Int32)))) (FP.i2d (bb &&& (65535 : Int32))))), .second, .val (.int (1 : Int32)), .val (.int (1 : Int32)), .val (.int (1 : Int32))] [])) _
        refine XS.iload X81.here hx rfl (hb hby at_252) rfl ?_
        show Steps p.tables e below (T81.setTop (mkF m 254 #[.val (.int aa), .val (.int bb), .val (.int cc), .val (.int dd), .val (.int ee), .val (.int (aa &&& (65535 : Int32))), .val (.int (bb &&& (65535 : Int32))), .val (.int ((cc &&& (255 : Int32)) + (1 : Int32))), .val (.int (dd &&& (65535 : Int32))), .val (.int ((aa &&& (65535 : Int32)) + (ee &&& (65535 : Int32)))), .val (.double (FP.ddiv (FP.i2d (aa &&& (65535 : Int32))) (FP.i2d (bb &&& (65535 : Int32))))), .second, .val (.int ((aa &&& (65535 : Int32)) / (bb &&& (65535 : Int32)))), .val (.int (1 : Int32)), .val (.double (FP.ddiv (FP.i2d ((aa &&& (65535 : Int32)) * ((cc &&& (255 : Int32)) + (1 : Int32)))) (FP.i2d ((bb &&& (65535 : Int32)) * ((cc &&& (255 : Int32)) + (1 : Int32)))))), .second, .val (.long (((dd &&& (65535 : Int32)).toInt64) * ((bb &&& (65535 : Int32)).toInt64))), .second, .val (.double (FP.ddiv (FP.l2d (((dd &&& (65535 : Int32)).toInt64) * ((bb &&& (65535 : Int32)).toInt64))) (FP.i2d (bb &&& (65535 : Int32))))), .second, .val (.double (FP.ddiv (FP.i2d ((aa &&& (65535 : Int32)) + (ee &&& (65535 : Int32)))) (FP.i2d (bb &&& (65535 : Int32))))), .second, .val (.int (1 : Int32)), .val (.int (1 : Int32)), .val (.int (1 : Int32))] [(.int (1 : Int32))])) _
        refine XS.ifNo X81.here hx rfl (hb hby at_254) rfl ((if0 _ _).trans (feq (by decide : ¬ ((1 : Int32) = (0 : Int32)))).1) ?_
        show Steps p.tables e below (T81.setTop (mkF m 257 #[.val (.int aa), .val (.int bb), .val (.int cc), .val (.int dd), .val (.int ee), .val (.int (aa &&& (65535 : Int32))), .val (.int (bb &&& (65535 : Int32))), .val (.int ((cc &&& (255 : Int32)) + (1 : Int32))), .val (.int (dd &&& (65535 : Int32))), .val (.int ((aa &&& (65535 : Int32)) + (ee &&& (65535 : Int32)))), .val (.double (FP.ddiv (FP.i2d (aa &&& (65535 : Int32))) (FP.i2d (bb &&& (65535 : Int32))))), .second, .val (.int ((aa &&& (65535 : Int32)) / (bb &&& (65535 : Int32)))), .val (.int (1 : Int32)), .val (.double (FP.ddiv (FP.i2d ((aa &&& (65535 : Int32)) * ((cc &&& (255 : Int32)) + (1 : Int32)))) (FP.i2d ((bb &&& (65535 : Int32)) * ((cc &&& (255 : Int32)) + (1 : Int32)))))), .second, .val (.long (((dd &&& (65535 : Int32)).toInt64) * ((bb &&& (65535 : Int32)).toInt64))), .second, .val (.double (FP.ddiv (FP.l2d (((dd &&& (65535 : Int32)).toInt64) * ((bb &&& (65535 : Int32)).toInt64))) (FP.i2d (bb &&& (65535 : Int32))))), .second, .val (.double (FP.ddiv (FP.i2d ((aa &&& (65535 : Int32)) + (ee &&& (65535 : Int32)))) (FP.i2d (bb &&& (65535 : Int32))))), .second, .val (.int (1 : Int32)), .val (.int (1 : Int32)), .val (.int (1 : Int32))] [])) _
        refine XS.iload X81.here hx rfl (hb hby at_257) rfl ?_
        show Steps p.tables e below (T81.setTop (mkF m 259 #[.val (.int aa), .val (.int bb), .val (.int cc), .val (.int dd), .val (.int ee), .val (.int (aa &&& (65535 : Int32))), .val (.int (bb &&& (65535 : Int32))), .val (.int ((cc &&& (255 : Int32)) + (1 : Int32))), .val (.int (dd &&& (65535 : Int32))), .val (.int ((aa &&& (65535 : Int32)) + (ee &&& (65535 : Int32)))), .val (.double (FP.ddiv (FP.i2d (aa &&& (65535 : Int32))) (FP.i2d (bb &&& (65535 : Int32))))), .second, .val (.int ((aa &&& (65535 : Int32)) / (bb &&& (65535 : Int32)))), .val (.int (1 : Int32)), .val (.double (FP.ddiv (FP.i2d ((aa &&& (65535 : Int32)) * ((cc &&& (255 : Int32)) + (1 : Int32)))) (FP.i2d ((bb &&& (65535 : Int32)) * ((cc &&& (255 : Int32)) + (1 : Int32)))))), .second, .val (.long (((dd &&& (65535 : Int32)).toInt64) * ((bb &&& (65535 : Int32)).toInt64))), .second, .val (.double (FP.ddiv (FP.l2d (((dd &&& (65535 : Int32)).toInt64) * ((bb &&& (65535 : Int32)).toInt64))) (FP.i2d (bb &&& (65535 : Int32))))), .second, .val (.double (FP.ddiv (FP.i2d ((aa &&& (65535 : Int32)) + (ee &&& (65535 : Int32)))) (FP.i2d (bb &&& (65535 : Int32))))), .second, .val (.int (1 : Int32)), .val (.int (1 : Int32)), .val (.int (1 : Int32))] [(.int (1 : Int32))])) _
        refine XS.ifNo X81.here hx rfl (hb hby at_259) rfl ((if0 _ _).trans (feq (by decide : ¬ ((1 : Int32) = (0 : Int32)))).1) ?_
        show Steps p.tables e below (T81.setTop (mkF m 262 #[.val (.int aa), .val (.int bb), .val (.int cc), .val (.int dd), .val (.int ee), .val (.int (aa &&& (65535 : Int32))), .val (.int (bb &&& (65535 : Int32))), .val (.int ((cc &&& (255 : Int32)) + (1 : Int32))), .val (.int (dd &&& (65535 : Int32))), .val (.int ((aa &&& (65535 : Int32)) + (ee &&& (65535 : Int32)))), .val (.double (FP.ddiv (FP.i2d (aa &&& (65535 : Int32))) (FP.i2d (bb &&& (65535 : Int32))))), .second, .val (.int ((aa &&& (65535 : Int32)) / (bb &&& (65535 : Int32)))), .val (.int (1 : Int32)), .val (.double (FP.ddiv (FP.i2d ((aa &&& (65535 : Int32)) * ((cc &&& (255 : Int32)) + (1 : Int32)))) (FP.i2d ((bb &&& (65535 : Int32)) * ((cc &&& (255 : Int32)) + (1 : Int32)))))), .second, .val (.long (((dd &&& (65535 : Int32)).toInt64) * ((bb &&& (65535 : Int32)).toInt64))), .second, .val (.double (FP.ddiv (FP.l2d (((dd &&& (65535 : Int32)).toInt64) * ((bb &&& (65535 : Int32)).toInt64))) (FP.i2d (bb &&& (65535 : Int32))))), .second, .val (.double (FP.ddiv (FP.i2d ((aa &&& (65535 : Int32)) + (ee &&& (65535 : Int32)))) (FP.i2d (bb &&& (65535 : Int32))))), .second, .val (.int (1 : Int32)), .val (.int (1 : Int32)), .val (.int (1 : Int32))] [])) _
        refine XS.iconst X81.here hx rfl (hb hby at_262) ?_
        show Steps p.tables e below (T81.setTop (mkF m 263 #[.val (.int aa), .val (.int bb), .val (.int cc), .val (.int dd), .val (.int ee), .val (.int (aa &&& (65535 : Int32))), .val (.int (bb &&& (65535 : Int32))), .val (.int ((cc &&& (255 : Int32)) + (1 : Int32))), .val (.int (dd &&& (65535 : Int32))), .val (.int ((aa &&& (65535 : Int32)) + (ee &&& (65535 : Int32)))), .val (.double (FP.ddiv (FP.i2d (aa &&& (65535 : Int32))) (FP.i2d (bb &&& (65535 : Int32))))), .second, .val (.int ((aa &&& (65535 : Int32)) / (bb &&& (65535 : Int32)))), .val (.int (1 : Int32)), .val (.double (FP.ddiv (FP.i2d ((aa &&& (65535 : Int32)) * ((cc &&& (255 : Int32)) + (1 : Int32)))) (FP.i2d ((bb &&& (65535 : Int32)) * ((cc &&& (255 : Int32)) + (1 : Int32)))))), .second, .val (.long (((dd &&& (65535 : Int32)).toInt64) * ((bb &&& (65535 : Int32)).toInt64))), .second, .val (.double (FP.ddiv (FP.l2d (((dd &&& (65535 : Int32)).toInt64) * ((bb &&& (65535 : Int32)).toInt64))) (FP.i2d (bb &&& (65535 : Int32))))), .second, .val (.double (FP.ddiv (FP.i2d ((aa &&& (65535 : Int32)) + (ee &&& (65535 : Int32)))) (FP.i2d (bb &&& (65535 : Int32))))), .second, .val (.int (1 : Int32)), .val (.int (1 : Int32)), .val (.int (1 : Int32))] [(.int (1 : Int32))])) _
        refine XS.goto X81.here hx rfl (pc0 := 263) (pc' := 267) rfl (hb hby at_263) (by decide) (by decide) ?_
        show Steps p.tables e below (T81.setTop (mkF m 267 #[.val (.int aa), .val (.int bb), .val (.int cc), .val (.int dd), .val (.int ee), .val (.int (aa &&& (65535 : Int32))), .val (.int (bb &&& (65535 : Int32))), .val (.int ((cc &&& (255 : Int32)) + (1 : Int32))), .val (.int (dd &&& (65535 : Int32))), .val (.int ((aa &&& (65535 : Int32)) + (ee &&& (65535 : Int32)))), .val (.double (FP.ddiv (FP.i2d (aa &&& (65535 : Int32))) (FP.i2d (bb &&& (65535 : Int32))))), .second, .val (.int ((aa &&& (65535 : Int32)) / (bb &&& (65535 : Int32)))), .val (.int (1 : Int32)), .val (.double (FP.ddiv (FP.i2d ((aa &&& (65535 : Int32)) * ((cc &&& (255 : Int32)) + (1 : Int32)))) (FP.i2d ((bb &&& (65535 : Int32)) * ((cc &&& (255 : Int32)) + (1 : Int32)))))), .second, .val (.long (((dd &&& (65535 : Int32)).toInt64) * ((bb &&& (65535 : Int32)).toInt64))), .second, .val (.double (FP.ddiv (FP.l2d (((dd &&& (65535 : Int32)).toInt64) * ((bb &&& (65535 : Int32)).toInt64))) (FP.i2d (bb &&& (65535 : Int32))))), .second, .val (.double (FP.ddiv (FP.i2d ((aa &&& (65535 : Int32)) + (ee &&& (65535 : Int32)))) (FP.i2d (bb &&& (65535 : Int32))))), .second, .val (.int (1 : Int32)), .val (.int (1 : Int32)), .val (.int (1 : Int32))] [(.int (1 : Int32))])) _
        exact retN X81 hx (t := .boolean) Bd.returns (by simp) (hb hby at_267) hr
      · show Q0 Z aa bb cc dd ee h0 n0 _ T81.heap _
        rw [e81]
        exact ⟨rfl, N81⟩
    · obtain ⟨fs, hr, hrun, hended, hW⟩ := Stand.leaveW (s := s) (vm₁ := T68.vm) X81 hS68 (by rw [e81]; exact kS68) (v := some (.int (1 : Int32))) (fun h => by rw [Bd.returns] at h; cases h) (hlocks := Bd.notSynchronized)
      refine ⟨_, _, pre82 _ ?_, hrun, hended, _, _, rfl, ?_, ⟨_, rfl⟩, hW.2.1, hW.2.2.1, hW.2.2.2.mono (by decide) (by decide)⟩
      · show Steps p.tables e below (T81.setTop (mkF m 211 #[.val (.int aa), .val (.int bb), .val (.int cc), .val (.int dd), .val (.int ee), .val (.int (aa &&& (65535 : Int32))), .val (.int (bb &&& (65535 : Int32))), .val (.int ((cc &&& (255 : Int32)) + (1 : Int32))), .val (.int (dd &&& (65535 : Int32))), .val (.int ((aa &&& (65535 : Int32)) + (ee &&& (65535 : Int32)))), .val (.double (FP.ddiv (FP.i2d (aa &&& (65535 : Int32))) (FP.i2d (bb &&& (65535 : Int32))))), .second, .val (.int ((aa &&& (65535 : Int32)) / (bb &&& (65535 : Int32)))), .val (.int (1 : Int32)), .val (.double (FP.ddiv (FP.i2d ((aa &&& (65535 : Int32)) * ((cc &&& (255 : Int32)) + (1 : Int32)))) (FP.i2d ((bb &&& (65535 : Int32)) * ((cc &&& (255 : Int32)) + (1 : Int32)))))), .second, .val (.long (((dd &&& (65535 : Int32)).toInt64) * ((bb &&& (65535 : Int32)).toInt64))), .second, .val (.double (FP.ddiv (FP.l2d (((dd &&& (65535 : Int32)).toInt64) * ((bb &&& (65535 : Int32)).toInt64))) (FP.i2d (bb &&& (65535 : Int32))))), .second, .val (.double (FP.ddiv (FP.i2d ((aa &&& (65535 : Int32)) + (ee &&& (65535 : Int32)))) (FP.i2d (bb &&& (65535 : Int32))))), .second, .val (.int (1 : Int32)), .val (.int (1 : Int32)), .unset] [(.int (aa &&& (65535 : Int32))), (.int ((aa &&& (65535 : Int32)) + (ee &&& (65535 : Int32))))])) _
        refine XS.icmpYes X81.here hx rfl (pc0 := 211) (pc' := 218) rfl (hb hby at_211) rfl (flt hk83).2.2.2 (by decide) (by decide) ?_
        show Steps p.tables e below (T81.setTop (mkF m 218 #[.val (.int aa), .val (.int bb), .val (.int cc), .val (.int dd), .val (.int ee), .val (.int (aa &&& (65535 : Int32))), .val (.int (bb &&& (65535 : Int32))), .val (.int ((cc &&& (255 : Int32)) + (1 : Int32))), .val (.int (dd &&& (65535 : Int32))), .val (.int ((aa &&& (65535 : Int32)) + (ee &&& (65535 : Int32)))), .val (.double (FP.ddiv (FP.i2d (aa &&& (65535 : Int32))) (FP.i2d (bb &&& (65535 : Int32))))), .second, .val (.int ((aa &&& (65535 : Int32)) / (bb &&& (65535 : Int32)))), .val (.int (1 : Int32)), .val (.double (FP.ddiv (FP.i2d ((aa &&& (65535 : Int32)) * ((cc &&& (255 : Int32)) + (1 : Int32)))) (FP.i2d ((bb &&& (65535 : Int32)) * ((cc &&& (255 : Int32)) + (1 : Int32)))))), .second, .val (.long (((dd &&& (65535 : Int32)).toInt64) * ((bb &&& (65535 : Int32)).toInt64))), .second, .val (.double (FP.ddiv (FP.l2d (((dd &&& (65535 : Int32)).toInt64) * ((bb &&& (65535 : Int32)).toInt64))) (FP.i2d (bb &&& (65535 : Int32))))), .second, .val (.double (FP.ddiv (FP.i2d ((aa &&& (65535 : Int32)) + (ee &&& (65535 : Int32)))) (FP.i2d (bb &&& (65535 : Int32))))), .second, .val (.int (1 : Int32)), .val (.int (1 : Int32)), .unset] [])) _
        refine XS.iconst X81.here hx rfl (hb hby at_218) ?_
        show Steps p.tables e below (T81.setTop (mkF m 219 #[.val (.int aa), .val (.int bb), .val (.int cc), .val (.int dd), .val (.int ee), .val (.int (aa &&& (65535 : Int32))), .val (.int (bb &&& (65535 : Int32))), .val (.int ((cc &&& (255 : Int32)) + (1 : Int32))), .val (.int (dd &&& (65535 : Int32))), .val (.int ((aa &&& (65535 : Int32)) + (ee &&& (65535 : Int32)))), .val (.double (FP.ddiv (FP.i2d (aa &&& (65535 : Int32))) (FP.i2d (bb &&& (65535 : Int32))))), .second, .val (.int ((aa &&& (65535 : Int32)) / (bb &&& (65535 : Int32)))), .val (.int (1 : Int32)), .val (.double (FP.ddiv (FP.i2d ((aa &&& (65535 : Int32)) * ((cc &&& (255 : Int32)) + (1 : Int32)))) (FP.i2d ((bb &&& (65535 : Int32)) * ((cc &&& (255 : Int32)) + (1 : Int32)))))), .second, .val (.long (((dd &&& (65535 : Int32)).toInt64) * ((bb &&& (65535 : Int32)).toInt64))), .second, .val (.double (FP.ddiv (FP.l2d (((dd &&& (65535 : Int32)).toInt64) * ((bb &&& (65535 : Int32)).toInt64))) (FP.i2d (bb &&& (65535 : Int32))))), .second, .val (.double (FP.ddiv (FP.i2d ((aa &&& (65535 : Int32)) + (ee &&& (65535 : Int32)))) (FP.i2d (bb &&& (65535 : Int32))))), .second, .val (.int (1 : Int32)), .val (.int (1 : Int32)), .unset] [(.int (0 : Int32))])) _
        refine XS.dload X81.here hx rfl (hb hby at_219) rfl ?_
        show Steps p.tables e below (T81.setTop (mkF m 221 #[.val (.int aa), .val (.int bb), .val (.int cc), .val (.int dd), .val (.int ee), .val (.int (aa &&& (65535 : Int32))), .val (.int (bb &&& (65535 : Int32))), .val (.int ((cc &&& (255 : Int32)) + (1 : Int32))), .val (.int (dd &&& (65535 : Int32))), .val (.int ((aa &&& (65535 : Int32)) + (ee &&& (65535 : Int32)))), .val (.double (FP.ddiv (FP.i2d (aa &&& (65535 : Int32))) (FP.i2d (bb &&& (65535 : Int32))))), .second, .val (.int ((aa &&& (65535 : Int32)) / (bb &&& (65535 : Int32)))), .val (.int (1 : Int32)), .val (.double (FP.ddiv (FP.i2d ((aa &&& (65535 : Int32)) * ((cc &&& (255 : Int32)) + (1 : Int32)))) (FP.i2d ((bb &&& (65535 : Int32)) * ((cc &&& (255 : Int32)) + (1 : Int32)))))), .second, .val (.long (((dd &&& (65535 : Int32)).toInt64) * ((bb &&& (65535 : Int32)).toInt64))), .second, .val (.double (FP.ddiv (FP.l2d (((dd &&& (65535 : Int32)).toInt64) * ((bb &&& (65535 : Int32)).toInt64))) (FP.i2d (bb &&& (65535 : Int32))))), .second, .val (.double (FP.ddiv (FP.i2d ((aa &&& (65535 : Int32)) + (ee &&& (65535 : Int32)))) (FP.i2d (bb &&& (65535 : Int32))))), .second, .val (.int (1 : Int32)), .val (.int (1 : Int32)), .unset] [(.double (FP.ddiv (FP.i2d ((aa &&& (65535 : Int32)) + (ee &&& (65535 : Int32)))) (FP.i2d (bb &&& (65535 : Int32))))), (.int (0 : Int32))])) _
        refine XS.dload X81.here hx rfl (hb hby at_221) rfl ?_
        show Steps p.tables e below (T81.setTop (mkF m 223 #[.val (.int aa), .val (.int bb), .val (.int cc), .val (.int dd), .val (.int ee), .val (.int (aa &&& (65535 : Int32))), .val (.int (bb &&& (65535 : Int32))), .val (.int ((cc &&& (255 : Int32)) + (1 : Int32))), .val (.int (dd &&& (65535 : Int32))), .val (.int ((aa &&& (65535 : Int32)) + (ee &&& (65535 : Int32)))), .val (.double (FP.ddiv (FP.i2d (aa &&& (65535 : Int32))) (FP.i2d (bb &&& (65535 : Int32))))), .second, .val (.int ((aa &&& (65535 : Int32)) / (bb &&& (65535 : Int32)))), .val (.int (1 : Int32)), .val (.double (FP.ddiv (FP.i2d ((aa &&& (65535 : Int32)) * ((cc &&& (255 : Int32)) + (1 : Int32)))) (FP.i2d ((bb &&& (65535 : Int32)) * ((cc &&& (255 : Int32)) + (1 : Int32)))))), .second, .val (.long (((dd &&& (65535 : Int32)).toInt64) * ((bb &&& (65535 : Int32)).toInt64))), .second, .val (.double (FP.ddiv (FP.l2d (((dd &&& (65535 : Int32)).toInt64) * ((bb &&& (65535 : Int32)).toInt64))) (FP.i2d (bb &&& (65535 : Int32))))), .second, .val (.double (FP.ddiv (FP.i2d ((aa &&& (65535 : Int32)) + (ee &&& (65535 : Int32)))) (FP.i2d (bb &&& (65535 : Int32))))), .second, .val (.int (1 : Int32)), .val (.int (1 : Int32)), .unset] [(.double (FP.ddiv (FP.i2d (aa &&& (65535 : Int32))) (FP.i2d (bb &&& (65535 : Int32))))), (.double (FP.ddiv (FP.i2d ((aa &&& (65535 : Int32)) + (ee &&& (65535 : Int32)))) (FP.i2d (bb &&& (65535 : Int32))))), (.int (0 : Int32))])) _
        refine XS.dcmpS X81.here hx rfl (hb hby at_223) rfl rfl ?_
        show Steps p.tables e below (T81.setTop (mkF m 224 #[.val (.int aa), .val (.int bb), .val (.int cc), .val (.int dd), .val (.int ee), .val (.int (aa &&& (65535 : Int32))), .val (.int (bb &&& (65535 : Int32))), .val (.int ((cc &&& (255 : Int32)) + (1 : Int32))), .val (.int (dd &&& (65535 : Int32))), .val (.int ((aa &&& (65535 : Int32)) + (ee &&& (65535 : Int32)))), .val (.double (FP.ddiv (FP.i2d (aa &&& (65535 : Int32))) (FP.i2d (bb &&& (65535 : Int32))))), .second, .val (.int ((aa &&& (65535 : Int32)) / (bb &&& (65535 : Int32)))), .val (.int (1 : Int32)), .val (.double (FP.ddiv (FP.i2d ((aa &&& (65535 : Int32)) * ((cc &&& (255 : Int32)) + (1 : Int32)))) (FP.i2d ((bb &&& (65535 : Int32)) * ((cc &&& (255 : Int32)) + (1 : Int32)))))), .second, .val (.long (((dd &&& (65535 : Int32)).toInt64) * ((bb &&& (65535 : Int32)).toInt64))), .second, .val (.double (FP.ddiv (FP.l2d (((dd &&& (65535 : Int32)).toInt64) * ((bb &&& (65535 : Int32)).toInt64))) (FP.i2d (bb &&& (65535 : Int32))))), .second, .val (.double (FP.ddiv (FP.i2d ((aa &&& (65535 : Int32)) + (ee &&& (65535 : Int32)))) (FP.i2d (bb &&& (65535 : Int32))))), .second, .val (.int (1 : Int32)), .val (.int (1 : Int32)), .unset] [(.int (cmpValue (FP.dcmp (FP.ddiv (FP.i2d ((aa &&& (65535 : Int32)) + (ee &&& (65535 : Int32)))) (FP.i2d (bb &&& (65535 : Int32)))) (FP.ddiv (FP.i2d (aa &&& (65535 : Int32))) (FP.i2d (bb &&& (65535 : Int32))))) .l)), (.int (0 : Int32))])) _
        refine XS.ifYes X81.here hx rfl (pc0 := 224) (pc' := 231) rfl (hb hby at_224) rfl ((if0 _ _).trans (flt (own_c224t aa bb cc dd ee hk10 hk83 : ¬ ((0 : Int32) < (cmpValue (FP.dcmp (FP.ddiv (FP.i2d ((aa &&& (65535 : Int32)) + (ee &&& (65535 : Int32)))) (FP.i2d (bb &&& (65535 : Int32)))) (FP.ddiv (FP.i2d (aa &&& (65535 : Int32))) (FP.i2d (bb &&& (65535 : Int32))))) .l)))).2.2.2) (by decide) (by decide) ?_
        show Steps p.tables e below (T81.setTop (mkF m 231 #[.val (.int aa), .val (.int bb), .val (.int cc), .val (.int dd), .val (.int ee), .val (.int (aa &&& (65535 : Int32))), .val (.int (bb &&& (65535 : Int32))), .val (.int ((cc &&& (255 : Int32)) + (1 : Int32))), .val (.int (dd &&& (65535 : Int32))), .val (.int ((aa &&& (65535 : Int32)) + (ee &&& (65535 : Int32)))), .val (.double (FP.ddiv (FP.i2d (aa &&& (65535 : Int32))) (FP.i2d (bb &&& (65535 : Int32))))), .second, .val (.int ((aa &&& (65535 : Int32)) / (bb &&& (65535 : Int32)))), .val (.int (1 : Int32)), .val (.double (FP.ddiv (FP.i2d ((aa &&& (65535 : Int32)) * ((cc &&& (255 : Int32)) + (1 : Int32)))) (FP.i2d ((bb &&& (65535 : Int32)) * ((cc &&& (255 : Int32)) + (1 : Int32)))))), .second, .val (.long (((dd &&& (65535 : Int32)).toInt64) * ((bb &&& (65535 : Int32)).toInt64))), .second, .val (.double (FP.ddiv (FP.l2d (((dd &&& (65535 : Int32)).toInt64) * ((bb &&& (65535 : Int32)).toInt64))) (FP.i2d (bb &&& (65535 : Int32))))), .second, .val (.double (FP.ddiv (FP.i2d ((aa &&& (65535 : Int32)) + (ee &&& (65535 : Int32)))) (FP.i2d (bb &&& (65535 : Int32))))), .second, .val (.int (1 : Int32)), .val (.int (1 : Int32)), .unset] [(.int (0 : Int32))])) _
        refine XS.iconst X81.here hx rfl (hb hby at_231) ?_
        show Steps p.tables e below (T81.setTop (mkF m 232 #[.val (.int aa), .val (.int bb), .val (.int cc), .val (.int dd), .val (.int ee), .val (.int (aa &&& (65535 : Int32))), .val (.int (bb &&& (65535 : Int32))), .val (.int ((cc &&& (255 : Int32)) + (1 : Int32))), .val (.int (dd &&& (65535 : Int32))), .val (.int ((aa &&& (65535 : Int32)) + (ee &&& (65535 : Int32)))), .val (.double (FP.ddiv (FP.i2d (aa &&& (65535 : Int32))) (FP.i2d (bb &&& (65535 : Int32))))), .second, .val (.int ((aa &&& (65535 : Int32)) / (bb &&& (65535 : Int32)))), .val (.int (1 : Int32)), .val (.double (FP.ddiv (FP.i2d ((aa &&& (65535 : Int32)) * ((cc &&& (255 : Int32)) + (1 : Int32)))) (FP.i2d ((bb &&& (65535 : Int32)) * ((cc &&& (255 : Int32)) + (1 : Int32)))))), .second, .val (.long (((dd &&& (65535 : Int32)).toInt64) * ((bb &&& (65535 : Int32)).toInt64))), .second, .val (.double (FP.ddiv (FP.l2d (((dd &&& (65535 : Int32)).toInt64) * ((bb &&& (65535 : Int32)).toInt64))) (FP.i2d (bb &&& (65535 : Int32))))), .second, .val (.double (FP.ddiv (FP.i2d ((aa &&& (65535 : Int32)) + (ee &&& (65535 : Int32)))) (FP.i2d (bb &&& (65535 : Int32))))), .second, .val (.int (1 : Int32)), .val (.int (1 : Int32)), .unset] [(.int (0 : Int32)), (.int (0 : Int32))])) _
        refine XS.icmpNo X81.here hx rfl (hb hby at_232) rfl (teq (by decide : ((0 : Int32) = (0 : Int32)))).2 ?_
        show Steps p.tables e below (T81.setTop (mkF m 235 #[.val (.int aa), .val (.int bb), .val (.int cc), .val (.int dd), .val (.int ee), .val (.int (aa &&& (65535 : Int32))), .val (.int (bb &&& (65535 : Int32))), .val (.int ((cc &&& (255 : Int32)) + (1 : Int32))), .val (.int (dd &&& (65535 : Int32))), .val (.int ((aa &&& (65535 : Int32)) + (ee &&& (65535 : Int32)))), .val (.double (FP.ddiv (FP.i2d (aa &&& (65535 : Int32))) (FP.i2d (bb &&& (65535 : Int32))))), .second, .val (.int ((aa &&& (65535 : Int32)) / (bb &&& (65535 : Int32)))), .val (.int (1 : Int32)), .val (.double (FP.ddiv (FP.i2d ((aa &&& (65535 : Int32)) * ((cc &&& (255 : Int32)) + (1 : Int32)))) (FP.i2d ((bb &&& (65535 : Int32)) * ((cc &&& (255 : Int32)) + (1 : Int32)))))), .second, .val (.long (((dd &&& (65535 : Int32)).toInt64) * ((bb &&& (65535 : Int32)).toInt64))), .second, .val (.double (FP.ddiv (FP.l2d (((dd &&& (65535 : Int32)).toInt64) * ((bb &&& (65535 : Int32)).toInt64))) (FP.i2d (bb &&& (65535 : Int32))))), .second, .val (.double (FP.ddiv (FP.i2d ((aa &&& (65535 : Int32)) + (ee &&& (65535 : Int32)))) (FP.i2d (bb &&& (65535 : Int32))))), .second, .val (.int (1 : Int32)), .val (.int (1 : Int32)), .unset] [])) _
        refine XS.iconst X81.here hx rfl (hb hby at_235) ?_
        show Steps p.tables e below (T81.setTop (mkF m 236 #[.val (.int aa), .val (.int bb), .val (.int cc), .val (.int dd), .val (.int ee), .val (.int (aa &&& (65535 : Int32))), .val (.int (bb &&& (65535 : Int32))), .val (.int ((cc &&& (255 : Int32)) + (1 : Int32))), .val (.int (dd &&& (65535 : Int32))), .val (.int ((aa &&& (65535 : Int32)) + (ee &&& (65535 : Int32)))), .val (.double (FP.ddiv (FP.i2d (aa &&& (65535 : Int32))) (FP.i2d (bb &&& (65535 : Int32))))), .second, .val (.int ((aa &&& (65535 : Int32)) / (bb &&& (65535 : Int32)))), .val (.int (1 : Int32)), .val (.double (FP.ddiv (FP.i2d ((aa &&& (65535 : Int32)) * ((cc &&& (255 : Int32)) + (1 : Int32)))) (FP.i2d ((bb &&& (65535 : Int32)) * ((cc &&& (255 : Int32)) + (1 : Int32)))))), .second, .val (.long (((dd &&& (65535 : Int32)).toInt64) * ((bb &&& (65535 : Int32)).toInt64))), .second, .val (.double (FP.ddiv (FP.l2d (((dd &&& (65535 : Int32)).toInt64) * ((bb &&& (65535 : Int32)).toInt64))) (FP.i2d (bb &&& (65535 : Int32))))), .second, .val (.double (FP.ddiv (FP.i2d ((aa &&& (65535 : Int32)) + (ee &&& (65535 : Int32)))) (FP.i2d (bb &&& (65535 : Int32))))), .second, .val (.int (1 : Int32)), .val (.int (1 : Int32)), .unset] [(.int (1 : Int32))])) _
        refine XS.goto X81.here hx rfl (pc0 := 236) (pc' := 240) rfl (hb hby at_236) (by decide) (by decide) ?_
        show Steps p.tables e below (T81.setTop (mkF m 240 #[.val (.int aa), .val (.int bb), .val (.int cc), .val (.int dd), .val (.int ee), .val (.int (aa &&& (65535 : Int32))), .val (.int (bb &&& (65535 : Int32))), .val (.int ((cc &&& (255 : Int32)) + (1 : Int32))), .val (.int (dd &&& (65535 : Int32))), .val (.int ((aa &&& (65535 : Int32)) + (ee &&& (65535 : Int32)))), .val (.double (FP.ddiv (FP.i2d (aa &&& (65535 : Int32))) (FP.i2d (bb &&& (65535 : Int32))))), .second, .val (.int ((aa &&& (65535 : Int32)) / (bb &&& (65535 : Int32)))), .val (.int (1 : Int32)), .val (.double (FP.ddiv (FP.i2d ((aa &&& (65535 : Int32)) * ((cc &&& (255 : Int32)) + (1 : Int32)))) (FP.i2d ((bb &&& (65535 : Int32)) * ((cc &&& (255 : Int32)) + (1 : Int32)))))), .second, .val (.long (((dd &&& (65535 : Int32)).toInt64) * ((bb &&& (65535 : Int32)).toInt64))), .second, .val (.double (FP.ddiv (FP.l2d (((dd &&& (65535 : Int32)).toInt64) * ((bb &&& (65535 : Int32)).toInt64))) (FP.i2d (bb &&& (65535 : Int32))))), .second, .val (.double (FP.ddiv (FP.i2d ((aa &&& (65535 : Int32)) + (ee &&& (65535 : Int32)))) (FP.i2d (bb &&& (65535 : Int32))))), .second, .val (.int (1 : Int32)), .val (.int (1 : Int32)), .unset] [(.int (1 : Int32))])) _
        refine XS.istore X81.here hx rfl (hb hby at_240) rfl (l' := #[.val (.int aa), .val (.int bb), .val (.int cc), .val (.int dd), .val (.int ee), .val (.int (aa &&& (65535 : Int32))), .val (.int (bb &&& (65535 : Int32))), .val (.int ((cc &&& (255 : Int32)) + (1 : Int32))), .val (.int (dd &&& (65535 : Int32))), .val (.int ((aa &&& (65535 : Int32)) + (ee &&& (65535 : Int32)))), .val (.double (FP.ddiv (FP.i2d (aa &&& (65535 : Int32))) (FP.i2d (bb &&& (65535 : Int32))))), .second, .val (.int ((aa &&& (65535 : Int32)) / (bb &&& (65535 : Int32)))), .val (.int (1 : Int32)), .val (.double (FP.ddiv (FP.i2d ((aa &&& (65535 : Int32)) * ((cc &&& (255 : Int32)) + (1 : Int32)))) (FP.i2d ((bb &&& (65535 : Int32)) * ((cc &&& (255 : Int32)) + (1 : Int32)))))), .second, .val (.long (((dd &&& (65535 : Int32)).toInt64) * ((bb &&& (65535 : Int32)).toInt64))), .second, .val (.double (FP.ddiv (FP.l2d (((dd &&& (65535 : Int32)).toInt64) * ((bb &&& (65535 : Int32)).toInt64))) (FP.i2d (bb &&& (65535 : Int32))))), .second, .val (.double (FP.ddiv (FP.i2d ((aa &&& (65535 : Int32)) + (ee &&& (65535 : Int32)))) (FP.i2d (bb &&& (65535 : Int32))))), .second, .val (.int (1 : Int32)), .val (.int (1 : Int32)), .val (.int (1 : Int32))]) rfl ?_
        show Steps p.tables e below (T81.setTop (mkF m 242 #[.val (.int aa), .val (.int bb), .val (.int cc), .val (.int dd), .val (.int ee), .val (.int (aa &&& (65535 : Int32))), .val (.int (bb &&& (65535 : Int32))), .val (.int ((cc &&& (255 : Int32)) + (1 : Int32))), .val (.int (dd &&& (65535 : Int32))), .val (.int ((aa &&& (65535 : Int32)) + (ee &&& (65535 : Int32)))), .val (.double (FP.ddiv (FP.i2d (aa &&& (65535 : Int32))) (FP.i2d (bb &&& (65535 : Int32))))), .second, .val (.int ((aa &&& (65535 : Int32)) / (bb &&& (65535 : Int32)))), .val (.int (1 : Int32)), .val (.double (FP.ddiv (FP.i2d ((aa &&& (65535 : Int32)) * ((cc &&& (255 : Int32)) + (1 : Int32)))) (FP.i2d ((bb &&& (65535 : Int32)) * ((cc &&& (255 : Int32)) + (1 : Int32)))))), .second, .val (.long (((dd &&& (65535 : Int32)).toInt64) * ((bb &&& (65535 : Int32)).toInt64))), .second, .val (.double (FP.ddiv (FP.l2d (((dd &&& (65535 : Int32)).toInt64) * ((bb &&& (65535 : Int32)).toInt64))) (FP.i2d (bb &&& (65535 : Int32))))), .second, .val (.double (FP.ddiv (FP.i2d ((aa &&& (65535 : Int32)) + (ee &&& (65535 : Int32)))) (FP.i2d (bb &&& (65535 : Int32))))), .second, .val (.int (1 : Int32)), .val (.int (1 : Int32)), .val (.int (1 : Int32))] [])) _
        refine XS.iload X81.here hx rfl (hb hby at_242) rfl ?_
        show Steps p.tables e below (T81.setTop (mkF m 244 #[.val (.int aa), .val (.int bb), .val (.int cc), .val (.int dd), .val (.int ee), .val (.int (aa &&& (65535 : Int32))), .val (.int (bb &&& (65535 : Int32))), .val (.int ((cc &&& (255 : Int32)) + (1 : Int32))), .val (.int (dd &&& (65535 : Int32))), .val (.int ((aa &&& (65535 : Int32)) + (ee &&& (65535 : Int32)))), .val (.double (FP.ddiv (FP.i2d (aa &&& (65535 : Int32))) (FP.i2d (bb &&& (65535 : Int32))))), .second, .val (.int ((aa &&& (65535 : Int32)) / (bb &&& (65535 : Int32)))), .val (.int (1 : Int32)), .val (.double (FP.ddiv (FP.i2d ((aa &&& (65535 : Int32)) * ((cc &&& (255 : Int32)) + (1 : Int32)))) (FP.i2d ((bb &&& (65535 : Int32)) * ((cc &&& (255 : Int32)) + (1 : Int32)))))), .second, .val (.long (((dd &&& (65535 : Int32)).toInt64) * ((bb &&& (65535 : Int32)).toInt64))), .second, .val (.double (FP.ddiv (FP.l2d (((dd &&& (65535 : Int32)).toInt64) * ((bb &&& (65535 : Int32)).toInt64))) (FP.i2d (bb &&& (65535 : Int32))))), .second, .val (.double (FP.ddiv (FP.i2d ((aa &&& (65535 : Int32)) + (ee &&& (65535 : Int32)))) (FP.i2d (bb &&& (65535 : Int32))))), .second, .val (.int (1 : Int32)), .val (.int (1 : Int32)), .val (.int (1 : Int32))] [(.int (1 : Int32))])) _
        refine XS.ifNo X81.here hx rfl (hb hby at_244) rfl ((if0 _ _).trans (feq (by decide : ¬ ((1 : Int32) = (0 : Int32)))).1) ?_
        show Steps p.tables e below (T81.setTop (mkF m 247 #[.val (.int aa), .val (.int bb), .val (.int cc), .val (.int dd), .val (.int ee), .val (.int (aa &&& (65535 : Int32))), .val (.int (bb &&& (65535 : Int32))), .val (.int ((cc &&& (255 : Int32)) + (1 : Int32))), .val (.int (dd &&& (65535 : Int32))), .val (.int ((aa &&& (65535 : Int32)) + (ee &&& (65535 : Int32)))), .val (.double (FP.ddiv (FP.i2d (aa &&& (65535 : Int32))) (FP.i2d (bb &&& (65535 : Int32))))), .second, .val (.int ((aa &&& (65535 : Int32)) / (bb &&& (65535 : Int32)))), .val (.int (1 : Int32)), .val (.double (FP.ddiv (FP.i2d ((aa &&& (65535 : Int32)) * ((cc &&& (255 : Int32)) + (1 : Int32)))) (FP.i2d ((bb &&& (65535 : Int32)) * ((cc &&& (255 : Int32)) + (1 : Int32)))))), .second, .val (.long (((dd &&& (65535 : Int32)).toInt64) * ((bb &&& (65535 : Int32)).toInt64))), .second, .val (.double (FP.ddiv (FP.l2d (((dd &&& (65535 : Int32)).toInt64) * ((bb &&& (65535 : Int32)).toInt64))) (FP.i2d (bb &&& (65535 : Int32))))), .second, .val (.double (FP.ddiv (FP.i2d ((aa &&& (65535 : Int32)) + (ee &&& (65535 : Int32)))) (FP.i2d (bb &&& (65535 : Int32))))), .second, .val (.int (1 : Int32)), .val (.int (1 : Int32)), .val (.int (1 : Int32))] [])) _
        refine XS.iload X81.here hx rfl (hb hby at_247) rfl ?_
        show Steps p.tables e below (T81.setTop (mkF m 249 #[.val (.int aa), .val (.int bb), .val (.int cc), .val (.int dd), .val (.int ee), .val (.int (aa &&& (65535 : Int32))), .val (.int (bb &&& (65535 : Int32))), .val (.int ((cc &&& (255 : Int32)) + (1 : Int32))), .val (.int (dd &&& (65535 : Int32))), .val (.int ((aa &&& (65535 : Int32)) + (ee &&& (65535 : Int32)))), .val (.double (FP.ddiv (FP.i2d (aa &&& (65535 : Int32))) (FP.i2d (bb &&& (65535 : Int32))))), .second, .val (.int ((aa &&& (65535 : Int32)) / (bb &&& (65535 : Int32)))), .val (.int (1 : Int32)), .val (.double (FP.ddiv (FP.i2d ((aa &&& (65535 : Int32)) * ((cc &&& (255 : Int32)) + (1 : Int32)))) (FP.i2d ((bb &&& (65535 : Int32)) * ((cc &&& (255 : Int32)) + (1 : Int32)))))), .second, .val (.long (((dd &&& (65535 : Int32)).toInt64) * ((bb &&& (65535 : Int32)).toInt64))), .second, .val (.double (FP.ddiv (FP.l2d (((dd &&& (65535 : Int32)).toInt64) * ((bb &&& (65535 : Int32)).toInt64))) (FP.i2d (bb &&& (65535 : Int32))))), .second, .val (.double (FP.ddiv (FP.i2d ((aa &&& (65535 : Int32)) + (ee &&& (65535 : Int32)))) (FP.i2d (bb &&& (65535 : Int32))))), .second, .val (.int (1 : Int32)), .val (.int (1 : Int32)), .val (.int (1 : Int32))] [(.int (1 : Int32))])) _
        refine XS.ifNo X81.here hx rfl (hb hby at_249) rfl ((if0 _ _).trans (feq (by decide : ¬ ((1 : Int32) = (0 : Int32)))).1) ?_
        show Steps p.tables e below (T81.setTop (mkF m 252 #[.val (.int aa), .val (.int bb), .val (.int cc), .val (.int dd), .val (.int ee), .val (.int (aa &&& (65535 : Int32))), .val (.int (bb &&& (65535 : Int32))), .val (.int ((cc &&& (255 : Int32)) + (1 : Int32))), .val (.int (dd &&& (65535 : Int32))), .val (.int ((aa &&& (65535 : Int32)) + (ee &&& (65535 : Int32)))), .val (.double (FP.ddiv (FP.i2d (aa &&& (65535 : Int32))) (FP.i2d (bb &&& (65535 : Int32))))), .second, .val (.int ((aa &&& (65535 : Int32)) / (bb &&& (65535 : Int32)))), .val (.int (1 : Int32)), .val (.double (FP.ddiv (FP.i2d ((aa &&& (65535 : Int32)) * ((cc &&& (255 : Int32)) + (1 : Int32)))) (FP.i2d ((bb &&& (65535 : Int32)) * ((cc &&& (255 : Int32)) + (1 : Int32)))))), .second, .val (.long (((dd &&& (65535 : Int32)).toInt64) * ((bb &&& (65535 : Int32)).toInt64))), .second, .val (.double (FP.ddiv (FP.l2d (((dd &&& (65535 : Int32)).toInt64) * ((bb &&& (65535 : Int32)).toInt64))) (FP.i2d (bb &&& (65535 : Int32))))), .second, .val (.double (FP.ddiv (FP.i2d ((aa &&& (65535 : Int32)) + (ee &&& (65535 : Int32)))) (FP.i2d (bb &&& (65535 : Int32))))), .second, .val (.int (1 : Int32)), .val (.int (1 : Int32)), .val (.int (1 : Int32))] [])) _
        refine XS.iload X81.here hx rfl (hb hby at_252) rfl ?_
        show Steps p.tables e below (T81.setTop (mkF m 254 #[.val (.int aa), .val (.int bb), .val (.int cc), .val (.int dd), .val (.int ee), .val (.int (aa &&& (65535 : Int32))), .val (.int (bb &&& (65535 : Int32))), .val (.int ((cc &&& (255 : Int32)) + (1 : Int32))), .val (.int (dd &&& (65535 : Int32))), .val (.int ((aa &&& (65535 : Int32)) + (ee &&& (65535 : Int32)))), .val (.double (FP.ddiv (FP.i2d (aa &&& (65535 : Int32))) (FP.i2d (bb &&& (65535 : Int32))))), .second, .val (.int ((aa &&& (65535 : Int32)) / (bb &&& (65535 : Int32)))), .val (.int (1 : Int32)), .val (.double (FP.ddiv (FP.i2d ((aa &&& (65535 : Int32)) * ((cc &&& (255 : Int32)) + (1 : Int32)))) (FP.i2d ((bb &&& (65535 : Int32)) * ((cc &&& (255 : Int32)) + (1 : Int32)))))), .second, .val (.long (((dd &&& (65535 : Int32)).toInt64) * ((bb &&& (65535 : Int32)).toInt64))), .second, .val (.double (FP.ddiv (FP.l2d (((dd &&& (65535 : Int32)).toInt64) * ((bb &&& (65535 : Int32)).toInt64))) (FP.i2d (bb &&& (65535 : Int32))))), .second, .val (.double (FP.ddiv (FP.i2d ((aa &&& (65535 : Int32)) + (ee &&& (65535 : Int32)))) (FP.i2d (bb &&& (65535 : Int32))))), .second, .val (.int (1 : Int32)), .val (.int (1 : Int32)), .val (.int (1 : Int32))] [(.int (1 : Int32))])) _
        refine XS.ifNo X81.here hx rfl (hb hby at_254) rfl ((if0 _ _).trans (feq (by decide : ¬ ((1 : Int32) = (0 : Int32)))).1) ?_
        show Steps p.tables e below (T81.setTop (mkF m 257 #[.val (.int aa), .val (.int bb), .val (.int cc), .val (.int dd), .val (.int ee), .val (.int (aa &&& (65535 : Int32))), .val (.int (bb &&& (65535 : Int32))), .val (.int ((cc &&& (255 : Int32)) + (1 : Int32))), .val (.int (dd &&& (65535 : Int32))), .val (.int ((aa &&& (65535 : Int32)) + (ee &&& (65535 : Int32)))), .val (.double (FP.ddiv (FP.i2d (aa &&& (65535 : Int32))) (FP.i2d (bb &&& (65535 : Int32))))), .second, .val (.int ((aa &&& (65535 : Int32)) / (bb &&& (65535 : Int32)))), .val (.int (1 : Int32)), .val (.double (FP.ddiv (FP.i2d ((aa &&& (65535 : Int32)) * ((cc &&& (255 : Int32)) + (1 : Int32)))) (FP.i2d ((bb &&& (65535 : Int32)) * ((cc &&& (255 : Int32)) + (1 : Int32)))))), .second, .val (.long (((dd &&& (65535 : Int32)).toInt64) * ((bb &&& (65535 : Int32)).toInt64))), .second, .val (.double (FP.ddiv (FP.l2d (((dd &&& (65535 : Int32)).toInt64) * ((bb &&& (65535 : Int32)).toInt64))) (FP.i2d (bb &&& (65535 : Int32))))), .second, .val (.double (FP.ddiv (FP.i2d ((aa &&& (65535 : Int32)) + (ee &&& (65535 : Int32)))) (FP.i2d (bb &&& (65535 : Int32))))), .second, .val (.int (1 : Int32)), .val (.int (1 : Int32)), .val (.int (1 : Int32))] [])) _
        refine XS.iload X81.here hx rfl (hb hby at_257) rfl ?_
        show Steps p.tables e below (T81.setTop (mkF m 259 #[.val (.int aa), .val (.int bb), .val (.int cc), .val (.int dd), .val (.int ee), .val (.int (aa &&& (65535 : Int32))), .val (.int (bb &&& (65535 : Int32))), .val (.int ((cc &&& (255 : Int32)) + (1 : Int32))), .val (.int (dd &&& (65535 : Int32))), .val (.int ((aa &&& (65535 : Int32)) + (ee &&& (65535 : Int32)))), .val (.double (FP.ddiv (FP.i2d (aa &&& (65535 : Int32))) (FP.i2d (bb &&& (65535 : Int32))))), .second, .val (.int ((aa &&& (65535 : Int32)) / (bb &&& (65535 : Int32)))), .val (.int (1 : Int32)), .val (.double (FP.ddiv (FP.i2d ((aa &&& (65535 : Int32)) * ((cc &&& (255 : Int32)) + (1 : Int32)))) (FP.i2d ((bb &&& (65535 : Int32)) * ((cc &&& (255 : Int32)) + (1 : Int32)))))), .second, .val (.long (((dd &&& (65535 : Int32)).toInt64) * ((bb &&& (65535 : Int32)).toInt64))), .second, .val (.double (FP.ddiv (FP.l2d (((dd &&& (65535 : Int32)).toInt64) * ((bb &&& (65535 : Int32)).toInt64))) (FP.i2d (bb &&& (65535 : Int32))))), .second, .val (.double (FP.ddiv (FP.i2d ((aa &&& (65535 : Int32)) + (ee &&& (65535 : Int32)))) (FP.i2d (bb &&& (65535 : Int32))))), .second, .val (.int (1 : Int32)), .val (.int (1 : Int32)), .val (.int (1 : Int32))] [(.int (1 : Int32))])) _
        refine XS.ifNo X81.here hx rfl (hb hby at_259) rfl ((if0 _ _).trans (feq (by decide : ¬ ((1 : Int32) = (0 : Int32)))).1) ?_
        show Steps p.tables e below (T81.setTop (mkF m 262 #[.val (.int aa), .val (.int bb), .val (.int cc), .val (.int dd), .val (.int ee), .val (.int (aa &&& (65535 : Int32))), .val (.int (bb &&& (65535 : Int32))), .val (.int ((cc &&& (255 : Int32)) + (1 : Int32))), .val (.int (dd &&& (65535 : Int32))), .val (.int ((aa &&& (65535 : Int32)) + (ee &&& (65535 : Int32)))), .val (.double (FP.ddiv (FP.i2d (aa &&& (65535 : Int32))) (FP.i2d (bb &&& (65535 : Int32))))), .second, .val (.int ((aa &&& (65535 : Int32)) / (bb &&& (65535 : Int32)))), .val (.int (1 : Int32)), .val (.double (FP.ddiv (FP.i2d ((aa &&& (65535 : Int32)) * ((cc &&& (255 : Int32)) + (1 : Int32)))) (FP.i2d ((bb &&& (65535 : Int32)) * ((cc &&& (255 : Int32)) + (1 : Int32)))))), .second, .val (.long (((dd &&& (65535 : Int32)).toInt64) * ((bb &&& (65535 : Int32)).toInt64))), .second, .val (.double (FP.ddiv (FP.l2d (((dd &&& (65535 : Int32)).toInt64) * ((bb &&& (65535 : Int32)).toInt64))) (FP.i2d (bb &&& (65535 : Int32))))), .second, .val (.double (FP.ddiv (FP.i2d ((aa &&& (65535 : Int32)) + (ee &&& (65535 : Int32)))) (FP.i2d (bb &&& (65535 : Int32))))), .second, .val (.int (1 : Int32)), .val (.int (1 : Int32)), .val (.int (1 : Int32))] [])) _
        refine XS.iconst X81.here hx rfl (hb hby at_262) ?_
        show Steps p.tables e below (T81.setTop (mkF m 263 #[.val (.int aa), .val (.int bb), .val (.int cc), .val (.int dd), .val (.int ee), .val (.int (aa &&& (65535 : Int32))), .val (.int (bb &&& (65535 : Int32))), .val (.int ((cc &&& (255 : Int32)) + (1 : Int32))), .val (.int (dd &&& (65535 : Int32))), .val (.int ((aa &&& (65535 : Int32)) + (ee &&& (65535 : Int32)))), .val (.double (FP.ddiv (FP.i2d (aa &&& (65535 : Int32))) (FP.i2d (bb &&& (65535 : Int32))))), .second, .val (.int ((aa &&& (65535 : Int32)) / (bb &&& (65535 : Int32)))), .val (.int (1 : Int32)), .val (.double (FP.ddiv (FP.i2d ((aa &&& (65535 : Int32)) * ((cc &&& (255 : Int32)) + (1 : Int32)))) (FP.i2d ((bb &&& (65535 : Int32)) * ((cc &&& (255 : Int32)) + (1 : Int32)))))), .second, .val (.long (((dd &&& (65535 : Int32)).toInt64) * ((bb &&& (65535 : Int32)).toInt64))), .second, .val (.double (FP.ddiv (FP.l2d (((dd &&& (65535 : Int32)).toInt64) * ((bb &&& (65535 : Int32)).toInt64))) (FP.i2d (bb &&& (65535 : Int32))))), .second, .val (.double (FP.ddiv (FP.i2d ((aa &&& (65535 : Int32)) + (ee &&& (65535 : Int32)))) (FP.i2d (bb &&& (65535 : Int32))))), .second, .val (.int (1 : Int32)), .val (.int (1 : Int32)), .val (.int (1 : Int32))] [(.int (1 : Int32))])) _
        refine XS.goto X81.here hx rfl (pc0 := 263) (pc' := 267) rfl (hb hby at_263) (by decide) (by decide) ?_
        show Steps p.tables e below (T81.setTop (mkF m 267 #[.val (.int aa), .val (.int bb), .val (.int cc), .val (.int dd), .val (.int ee), .val (.int (aa &&& (65535 : Int32))), .val (.int (bb &&& (65535 : Int32))), .val (.int ((cc &&& (255 : Int32)) + (1 : Int32))), .val (.int (dd &&& (65535 : Int32))), .val (.int ((aa &&& (65535 : Int32)) + (ee &&& (65535 : Int32)))), .val (.double (FP.ddiv (FP.i2d (aa &&& (65535 : Int32))) (FP.i2d (bb &&& (65535 : Int32))))), .second, .val (.int ((aa &&& (65535 : Int32)) / (bb &&& (65535 : Int32)))), .val (.int (1 : Int32)), .val (.double (FP.ddiv (FP.i2d ((aa &&& (65535 : Int32)) * ((cc &&& (255 : Int32)) + (1 : Int32)))) (FP.i2d ((bb &&& (65535 : Int32)) * ((cc &&& (255 : Int32)) + (1 : Int32)))))), .second, .val (.long (((dd &&& (65535 : Int32)).toInt64) * ((bb &&& (65535 : Int32)).toInt64))), .second, .val (.double (FP.ddiv (FP.l2d (((dd &&& (65535 : Int32)).toInt64) * ((bb &&& (65535 : Int32)).toInt64))) (FP.i2d (bb &&& (65535 : Int32))))), .second, .val (.double (FP.ddiv (FP.i2d ((aa &&& (65535 : Int32)) + (ee &&& (65535 : Int32)))) (FP.i2d (bb &&& (65535 : Int32))))), .second, .val (.int (1 : Int32)), .val (.int (1 : Int32)), .val (.int (1 : Int32))] [(.int (1 : Int32))])) _
        exact retN X81 hx (t := .boolean) Bd.returns (by simp) (hb hby at_267) hr
      · show Q0 Z aa bb cc dd ee h0 n0 _ T81.heap _
        rw [e81]
        exact ⟨rfl, N81⟩
set_option maxRecDepth 65536 in
set_option maxHeartbeats 40000000 in
theorem comes_1 {Post : Tables → Env → Array Value → State → Outcome → State → Prop} (hpost : ∀ tb e args s v u, (limb_1_1.after args s (.returned v) u = true ∧ limb_1_2.after args s (.returned v) u = true ∧ True) → ReturnedEndW s (.returned v) u (Jvm.fieldLocs frame_1_writes args s ++ Jvm.arrayLocs frame_1_arrays args s ++ Jvm.staticLocs frame_1_statics s) 24 2176 → Post tb e args s (.returned v) u) :
    ArmFor flags0 classFile x code maxLocals ret World_1 tables_1 room_1 Calls_1 rest_1 Pre_1 Post := by
  intro l hfl _ _ p e ha hc hk s m args below hf hA hF happ hP
  obtain ⟨hcalls, hrest, hpre⟩ := hP
  obtain ⟨-, -, -, hnamed, -, -, -, hat⟩ := (Spec.applies_iff hf).mp happ
  obtain ⟨hg, hn⟩ := and_e (Cond.before_iff.mp (show (Jvm.Cond.and given_1 narrow_1).before args s = true from hpre))
  obtain ⟨gv1, gv2⟩ := and_e hg
  obtain ⟨gv3, gv4⟩ := and_e gv2
  obtain ⟨gv5, gv6⟩ := and_e gv4
  obtain ⟨gv7, gv8⟩ := and_e gv6
  obtain ⟨gv9, gv10⟩ := and_e gv8
  obtain ⟨w0, w1, w2, w3, w4, rfl⟩ : ∃ w0 w1 w2 w3 w4 : Value, args = #[w0, w1, w2, w3, w4] := by
    have hs : args.size = 5 := by simpa [Cond.value, given_1] using gv1
    obtain ⟨L⟩ := args
    match L, hs with
    | [w0, w1, w2, w3, w4], _ => exact ⟨w0, w1, w2, w3, w4, rfl⟩
  have hw := fun d (hd : d ∈ tables_1) => atoms_spec (ws := Jvm.Cond.code x code maxLocals ret :: tables_1) hat d (List.mem_cons_of_mem _ hd)
  have hfit : Fit s := fun {y c} hc i hi => by
    obtain ⟨ha, rfl⟩ := Array.getElem?_eq_some_iff.mp hc
    have q := List.all_eq_true.mp ((Array.all_eq_true_iff_forall_mem.mp hF) _ (Array.getElem_mem ha)) i (List.mem_range.mpr hi)
    simpa [Array.getElem?_eq_getElem hi] using q
  obtain ⟨i0, ei0⟩ := is_v gv3
  obtain rfl : w0 = (.int i0) := Option.some.inj ei0
  obtain ⟨i1, ei1⟩ := is_v gv5
  obtain rfl : w1 = (.int i1) := Option.some.inj ei1
  obtain ⟨i2, ei2⟩ := is_v gv7
  obtain rfl : w2 = (.int i2) := Option.some.inj ei2
  obtain ⟨i3, ei3⟩ := is_v gv9
  obtain rfl : w3 = (.int i3) := Option.some.inj ei3
  obtain ⟨i4, ei4⟩ := is_v gv10
  obtain rfl : w4 = (.int i4) := Option.some.inj ei4
  obtain ⟨n, o, h1, h2, h3, _, L, rfl, ⟨rfl, N⟩, hq⟩ := rm0 l s _ hw tables_1 i0 i1 i2 i3 i4 s.heap s.heap.size (Nat.le_refl _) p e ha hc hk s m _ below hf ((Spec.applies_iff_loose hf).mp happ).1 ⟨rfl, State.Warmed39.refl s, rfl⟩ trivial
  refine ⟨n, _, h1, h2, h3, hpost _ _ _ _ _ _ ⟨Cond.after_iff.mpr rfl, Cond.after_iff.mpr (eq_i res_at (Term.int_eval (1)) rfl), trivial⟩ ⟨hq.1, hq.2.1, hq.2.2.1, (hq.2.2.2.sift fun y hy => Or.inr (N y hy)).mono (by decide) (by decide)⟩⟩
theorem main_1_1 : Claimed_1_1 := comes_1 fun _ _ _ _ _ _ h hF => ⟨h.1, hF⟩
theorem main_1_2 : Claimed_1_2 := comes_1 fun _ _ _ _ _ _ h hF => ⟨h.2.1, hF⟩
end Jvm.Pilot.@@N@@
namespace Jvm.Pilot.@@N@@
open Jvm Jvm.ClassFile Sem Op Lib Jvm.Free Jvm.Stand Jvm.Pilot.@@N@@.Jvm.D
/-! MADE BY PROGRAM (witnessworld.py) out of the Statement's table words and the real class files: 16 classes; the members and pool entries that the words name. The judged class is class 1, her method 1. -/
namespace start1
open Jvm.ClassFile
def u (s : String) : CpInfo := .utf8 (stringToUtf16 s)
/-- a pool by its gaps: so many unusable entries, then the entry; so many at the end -/
def gap : Nat → List CpInfo → List CpInfo
  | 0, r => r
  | n + 1, r => .unusable :: gap n r
def poolList (es : List (Nat × CpInfo)) (last : Nat) : List CpInfo := es.foldr (fun e r => gap e.1 (e.2 :: r)) (gap last [])
def pool (es : List (Nat × CpInfo)) (last : Nat) : Array CpInfo := ⟨poolList es last⟩
def fileOf (pool : Array CpInfo) (this : Nat) (attrs : Array Attribute := #[]) (ms : Array MethodInfo := #[]) (fl : Nat := 33) (sup : Nat := 0) (ifs : Array Nat := #[]) (fds : Array FieldInfo := #[]) : ClassFile where
  minorVersion := 0
  majorVersion := 65
  constantPool := pool
  accessFlags := fl
  thisClass := this
  superClass := sup
  interfaces := ifs
  fields := fds
  methods := ms
  attributes := attrs
def plain (name : String) (sup : Option ClassId) : Class where
  name := name
  kind := .ordinary
  loader := none
  accessFlags := 33
  super := sup
  interfaces := #[]
  cf := none
  fields := #[]
  methods := #[]
  instanceTypes := #[]
  staticTypes := #[]
  resolved := #[]
  callSites := []
  init := .initialized
  statics := none
  mirror := none

def pool0 : Array CpInfo := pool [(5, u "<init>"), (0, u "()V"), (1, .class_ 10), (1, u "java/lang/Object")] 113

def k0c0 : Code := { maxStack := 0, maxLocals := 1, code := object_method_1_code, exceptionTable := #[], attributes := #[] }
def k0m0 : Method := { name := "<init>", desc := "()V", sig := { parameters := [], returnType := none }, accessFlags := 1, code := some k0c0 }
/-- java/lang/Object -/
def k0 : Class := { plain "java/lang/Object" none with
  accessFlags := 33
  interfaces := #[]
  cf := some (fileOf pool0 8 #[] #[{ accessFlags := 1, nameIndex := 5, descriptorIndex := 6, attributes := #[] }] 33 0 #[] #[])
  fields := #[]
  methods := #[k0m0]
  instanceTypes := #[]
  staticTypes := #[]
  resolved := Array.replicate 124 none
  statics := none }

def pool1 : Array CpInfo := pool [(2, .class_ 4), (1, u "java/lang/Object"), (0, u "<init>"), (0, u "()V"), (0, .integer 65535), (0, .class_ 9), (0, u "com/example/bundles_to_brokers/bundlestobrokers/model/ResourceUsage"), (0, .methodref 8 11), (0, .nameAndType 5 12), (0, u "(DD)V"), (0, .methodref 8 14), (0, .nameAndType 15 16), (0, u "fraction"), (0, u "()D"), (0, .class_ 18), (0, u "com/example/bundles_to_brokers/bundlestobrokers/model/ResourceUsageFractionPinLaw"), (2, u "law"), (0, u "(IIIII)Z")] 3

def k1m0 : Method := { name := "<init>", desc := "()V", sig := { parameters := [], returnType := none }, accessFlags := 2, code := none }
def k1c1 : Code := { maxStack := 6, maxLocals := 25, code := code, exceptionTable := #[], attributes := #[] }
def k1m1 : Method := { name := "law", desc := "(IIIII)Z", sig := { parameters := [.int, .int, .int, .int, .int], returnType := some .boolean }, accessFlags := 9, code := some k1c1 }
/-- com/example/bundles_to_brokers/bundlestobrokers/model/ResourceUsageFractionPinLaw -/
def k1 : Class := { plain "com/example/bundles_to_brokers/bundlestobrokers/model/ResourceUsageFractionPinLaw" (some 0) with
  accessFlags := 49
  interfaces := #[]
  cf := some (fileOf pool1 17 #[] #[{ accessFlags := 2, nameIndex := 5, descriptorIndex := 6, attributes := #[] }, { accessFlags := 9, nameIndex := 21, descriptorIndex := 22, attributes := #[] }] 49 2 #[] #[])
  fields := #[]
  methods := #[k1m0, k1m1]
  instanceTypes := #[]
  staticTypes := #[]
  resolved := Array.replicate 26 none
  statics := none }

def pool2 : Array CpInfo := pool [(1, .methodref 2 3), (0, .class_ 4), (0, .nameAndType 5 6), (0, u "java/lang/Object"), (0, u "<init>"), (0, u "()V"), (0, .class_ 8), (0, u "java/lang/Record")] 13

def k2c0 : Code := { maxStack := 1, maxLocals := 1, code := jdk_30_method_1_code, exceptionTable := #[], attributes := #[] }
def k2m0 : Method := { name := "<init>", desc := "()V", sig := { parameters := [], returnType := none }, accessFlags := 4, code := some k2c0 }
/-- java/lang/Record -/
def k2 : Class := { plain "java/lang/Record" (some 0) with
  accessFlags := 1057
  interfaces := #[]
  cf := some (fileOf pool2 7 #[] #[{ accessFlags := 4, nameIndex := 5, descriptorIndex := 6, attributes := #[] }] 1057 2 #[] #[])
  fields := #[]
  methods := #[k2m0]
  instanceTypes := #[]
  staticTypes := #[]
  resolved := Array.replicate 22 none
  statics := none }

def pool3 : Array CpInfo := pool [(1, .methodref 2 3), (0, .class_ 4), (0, .nameAndType 5 6), (0, u "java/lang/Record"), (0, u "<init>"), (0, u "()V"), (0, .string 8), (0, u "usage"), (0, .methodref 10 11), (0, .class_ 12), (0, .nameAndType 13 14), (0, u "com/example/bundles_to_brokers/bundlestobrokers/model/Quantities"), (0, u "checkNonNegative"), (0, u "(Ljava/lang/String;D)V"), (0, .string 16), (0, u "limit"), (0, .fieldref 18 19), (0, .class_ 20), (0, .nameAndType 8 21), (0, u "com/example/bundles_to_brokers/bundlestobrokers/model/ResourceUsage"), (0, u "D"), (0, .fieldref 18 23), (0, .nameAndType 16 21), (12, u "(DD)V"), (3, u "fraction"), (0, u "()D")] 25

def k3c0 : Code := { maxStack := 3, maxLocals := 5, code := prog_19_method_1_code, exceptionTable := #[], attributes := #[] }
def k3m0 : Method := { name := "<init>", desc := "(DD)V", sig := { parameters := [.double, .double], returnType := none }, accessFlags := 1, code := some k3c0 }
def k3c1 : Code := { maxStack := 4, maxLocals := 1, code := prog_19_method_2_code, exceptionTable := #[], attributes := #[] }
def k3m1 : Method := { name := "fraction", desc := "()D", sig := { parameters := [], returnType := some .double }, accessFlags := 1, code := some k3c1 }
/-- com/example/bundles_to_brokers/bundlestobrokers/model/ResourceUsage -/
def k3 : Class := { plain "com/example/bundles_to_brokers/bundlestobrokers/model/ResourceUsage" (some 2) with
  accessFlags := 49
  interfaces := #[]
  cf := some (fileOf pool3 18 #[] #[{ accessFlags := 1, nameIndex := 5, descriptorIndex := 36, attributes := #[] }, { accessFlags := 1, nameIndex := 40, descriptorIndex := 41, attributes := #[] }] 49 2 #[] #[{ accessFlags := 18, nameIndex := 8, descriptorIndex := 21, attributes := #[] }, { accessFlags := 18, nameIndex := 16, descriptorIndex := 21, attributes := #[] }])
  fields := #[{ name := "usage", type := .double, accessFlags := 18, slot := 0, constantValue := 0 }, { name := "limit", type := .double, accessFlags := 18, slot := 1, constantValue := 0 }]
  methods := #[k3m0, k3m1]
  instanceTypes := #[.double, .double]
  staticTypes := #[]
  resolved := Array.replicate 67 none
  statics := none }

def pool4 : Array CpInfo := pool [(1, .class_ 2), (0, u "java/io/Serializable"), (0, .class_ 4), (0, u "java/lang/Object")] 2

/-- java/io/Serializable -/
def k4 : Class := { plain "java/io/Serializable" (some 0) with
  accessFlags := 1537
  interfaces := #[]
  cf := some (fileOf pool4 1 #[] #[] 1537 3 #[] #[])
  fields := #[]
  methods := #[]
  instanceTypes := #[]
  staticTypes := #[]
  resolved := Array.replicate 7 none
  statics := none }

def pool5 : Array CpInfo := pool [(1, .class_ 2), (0, u "java/lang/Comparable"), (0, .class_ 4), (0, u "java/lang/Object")] 7

/-- java/lang/Comparable -/
def k5 : Class := { plain "java/lang/Comparable" (some 0) with
  accessFlags := 1537
  interfaces := #[]
  cf := some (fileOf pool5 1 #[] #[] 1537 3 #[] #[])
  fields := #[]
  methods := #[]
  instanceTypes := #[]
  staticTypes := #[]
  resolved := Array.replicate 12 none
  statics := none }

def pool6 : Array CpInfo := pool [(2, .class_ 4), (1, u "java/lang/CharSequence"), (42, .class_ 48), (0, u "java/lang/CharSequence$1CodePointIterator"), (10, .class_ 60), (0, u "java/lang/CharSequence$1CharIterator"), (5, .class_ 67), (0, u "java/lang/Object")] 63

/-- java/lang/CharSequence -/
def k6 : Class := { plain "java/lang/CharSequence" (some 0) with
  accessFlags := 1537
  interfaces := #[]
  cf := some (fileOf pool6 2 #[.nestMembers #[47, 59]] #[] 1537 66 #[] #[])
  fields := #[]
  methods := #[]
  instanceTypes := #[]
  staticTypes := #[]
  resolved := Array.replicate 131 none
  statics := none }

def pool7 : Array CpInfo := pool [(1, .class_ 2), (0, u "java/lang/constant/Constable"), (0, .class_ 4), (0, u "java/lang/Object")] 6

/-- java/lang/constant/Constable -/
def k7 : Class := { plain "java/lang/constant/Constable" (some 0) with
  accessFlags := 1537
  interfaces := #[]
  cf := some (fileOf pool7 1 #[] #[] 1537 3 #[] #[])
  fields := #[]
  methods := #[]
  instanceTypes := #[]
  staticTypes := #[]
  resolved := Array.replicate 11 none
  statics := none }

def pool8 : Array CpInfo := pool [(1, .class_ 2), (0, u "java/lang/constant/ConstantDesc"), (0, .class_ 4), (0, u "java/lang/Object")] 32

/-- java/lang/constant/ConstantDesc -/
def k8 : Class := { plain "java/lang/constant/ConstantDesc" (some 0) with
  accessFlags := 1537
  interfaces := #[]
  cf := some (fileOf pool8 1 #[] #[] 1537 3 #[] #[])
  fields := #[]
  methods := #[]
  instanceTypes := #[]
  staticTypes := #[]
  resolved := Array.replicate 37 none
  statics := none }

def pool9 : Array CpInfo := pool [(2, .class_ 4), (1, u "java/lang/Object"), (0, u "<init>"), (0, u "()V"), (3, .class_ 12), (1, u "java/lang/String"), (0, u "value"), (0, u "[B"), (2, u "coder"), (0, u "B"), (2, u "hash"), (0, u "I"), (2, u "hashIsZero"), (0, u "Z"), (13, u "COMPACT_STRINGS"), (534, .class_ 576), (0, u "java/lang/CharSequence"), (22, u "CASE_INSENSITIVE_ORDER"), (0, u "Ljava/util/Comparator;"), (500, u "serialPersistentFields"), (0, u "[Ljava/io/ObjectStreamField;"), (0, .class_ 1104), (0, u "java/lang/String$CaseInsensitiveComparator"), (1, .class_ 1107), (0, u "java/io/Serializable"), (0, .class_ 1109), (0, u "java/lang/Comparable"), (0, .class_ 1111), (0, u "java/lang/constant/Constable"), (0, .class_ 1113), (0, u "java/lang/constant/ConstantDesc"), (2, u "serialVersionUID"), (0, u "J"), (3, u "REPL"), (0, u "C"), (2, u "LATIN1"), (1, u "UTF16")] 323

def k9m0 : Method := { name := "<init>", desc := "()V", sig := { parameters := [], returnType := none }, accessFlags := 1, code := none }
/-- java/lang/String -/
def k9 : Class := { plain "java/lang/String" (some 0) with
  accessFlags := 49
  interfaces := #[4, 5, 6, 7, 8]
  cf := some (fileOf pool9 10 #[.nestMembers #[1103]] #[{ accessFlags := 1, nameIndex := 5, descriptorIndex := 6, attributes := #[] }] 49 2 #[1106, 1108, 575, 1110, 1112] #[{ accessFlags := 18, nameIndex := 13, descriptorIndex := 14, attributes := #[] }, { accessFlags := 18, nameIndex := 17, descriptorIndex := 18, attributes := #[] }, { accessFlags := 2, nameIndex := 21, descriptorIndex := 22, attributes := #[] }, { accessFlags := 2, nameIndex := 25, descriptorIndex := 26, attributes := #[] }, { accessFlags := 26, nameIndex := 1116, descriptorIndex := 1117, attributes := #[] }, { accessFlags := 24, nameIndex := 40, descriptorIndex := 26, attributes := #[] }, { accessFlags := 26, nameIndex := 1101, descriptorIndex := 1102, attributes := #[] }, { accessFlags := 26, nameIndex := 1121, descriptorIndex := 1122, attributes := #[] }, { accessFlags := 25, nameIndex := 599, descriptorIndex := 600, attributes := #[] }, { accessFlags := 24, nameIndex := 1125, descriptorIndex := 18, attributes := #[] }, { accessFlags := 24, nameIndex := 1127, descriptorIndex := 18, attributes := #[] }])
  fields := #[{ name := "value", type := (.array .byte), accessFlags := 18, slot := 0, constantValue := 0 }, { name := "coder", type := .byte, accessFlags := 18, slot := 1, constantValue := 0 }, { name := "hash", type := .int, accessFlags := 2, slot := 2, constantValue := 0 }, { name := "hashIsZero", type := .boolean, accessFlags := 2, slot := 3, constantValue := 0 }, { name := "serialVersionUID", type := .long, accessFlags := 26, slot := 0, constantValue := 0 }, { name := "COMPACT_STRINGS", type := .boolean, accessFlags := 24, slot := 1, constantValue := 0 }, { name := "serialPersistentFields", type := (.array (.object "java/io/ObjectStreamField")), accessFlags := 26, slot := 2, constantValue := 0 }, { name := "REPL", type := .char, accessFlags := 26, slot := 3, constantValue := 0 }, { name := "CASE_INSENSITIVE_ORDER", type := (.object "java/util/Comparator"), accessFlags := 25, slot := 4, constantValue := 0 }, { name := "LATIN1", type := .byte, accessFlags := 24, slot := 5, constantValue := 0 }, { name := "UTF16", type := .byte, accessFlags := 24, slot := 6, constantValue := 0 }]
  methods := #[k9m0]
  instanceTypes := #[(.array .byte), .byte, .int, .boolean]
  staticTypes := #[.long, .boolean, (.array (.object "java/io/ObjectStreamField")), .char, (.object "java/util/Comparator"), .byte, .byte]
  resolved := Array.replicate 1451 none
  statics := none }

def pool10 : Array CpInfo := pool [(2, .class_ 4), (1, u "java/lang/Object"), (0, u "<init>"), (0, u "()V"), (2, .double 9218868437227405312), (4, .class_ 16), (1, u "com/example/bundles_to_brokers/bundlestobrokers/model/Quantities"), (58, u "checkNonNegative"), (0, u "(Ljava/lang/String;D)V")] 33

def k10m0 : Method := { name := "<init>", desc := "()V", sig := { parameters := [], returnType := none }, accessFlags := 2, code := none }
def k10c1 : Code := { maxStack := 5, maxLocals := 3, code := prog_17_method_2_code, exceptionTable := #[], attributes := #[] }
def k10m1 : Method := { name := "checkNonNegative", desc := "(Ljava/lang/String;D)V", sig := { parameters := [(.object "java/lang/String"), .double], returnType := none }, accessFlags := 9, code := some k10c1 }
/-- com/example/bundles_to_brokers/bundlestobrokers/model/Quantities -/
def k10 : Class := { plain "com/example/bundles_to_brokers/bundlestobrokers/model/Quantities" (some 0) with
  accessFlags := 33
  interfaces := #[]
  cf := some (fileOf pool10 14 #[] #[{ accessFlags := 2, nameIndex := 5, descriptorIndex := 6, attributes := #[] }, { accessFlags := 9, nameIndex := 75, descriptorIndex := 76, attributes := #[] }] 33 2 #[] #[])
  fields := #[]
  methods := #[k10m0, k10m1]
  instanceTypes := #[]
  staticTypes := #[]
  resolved := Array.replicate 110 none
  statics := none }

def pool11 : Array CpInfo := pool [(1, u "java/lang/Cloneable"), (0, .class_ 1), (0, u "java/lang/Object"), (0, .class_ 3)] 3

/-- java/lang/Cloneable -/
def k11 : Class := { plain "java/lang/Cloneable" (some 0) with
  accessFlags := 1537
  interfaces := #[]
  cf := some (fileOf pool11 2 #[] #[] 1537 4 #[] #[])
  fields := #[]
  methods := #[]
  instanceTypes := #[]
  staticTypes := #[]
  resolved := Array.replicate 8 none
  statics := none }

/-- the primitive byte -/
def k12 : Class := { plain "byte" none with kind := .primitive 'B', accessFlags := 0x411 }
/-- [B -/
def k13 : Class := { plain "[B" (some 0) with kind := .array 12 .byte, interfaces := #[11, 4], accessFlags := 1041 }

/-- the primitive int -/
def k14 : Class := { plain "int" none with kind := .primitive 'I', accessFlags := 0x411 }
/-- [I -/
def k15 : Class := { plain "[I" (some 0) with kind := .array 14 .int, interfaces := #[11, 4], accessFlags := 1041 }

def heap : Heap := #[]
def classes : Array Class := #[k0, k1, k2, k3, k4, k5, k6, k7, k8, k9, k10, k11, k12, k13, k14, k15]
def interned : List (Array UInt16 × Addr) := []
def slotsUsed : Nat := 0
def theMethod : MethodId := ⟨1, 1⟩
def args0 : Array Value := #[.int 7, .int 3, .int 4, .int 5, .int 6]
def aboutOver (below : List Frame) : State where
  vm := { classes := classes, interned := interned.toArray }
  heap := heap
  slotsUsed := slotsUsed
  threads := #[{ frames := .invoking theMethod args0 :: below }]
def below0 : List Frame := [.native { method := ⟨0, 0⟩, args := #[] }]
def about1 : State := aboutOver below0
def p0 : Program := .bare "" "" ""
def e0 : Env := launch0.env 0 0 0
theorem w_frames : about1.frames = Frame.invoking theMethod args0 :: below0 := rfl
set_option maxRecDepth 65536 in
theorem w_args : argsFit about1.vm theMethod args0 = true := by decide +kernel
set_option maxRecDepth 65536 in
theorem w_heap : heapFits about1 = true := by decide +kernel
set_option maxRecDepth 65536 in
theorem w_runnable : about1.curStatus? = some .runnable := by decide +kernel
set_option maxRecDepth 65536 in
theorem w_alone : about1.alone = true := by decide +kernel
set_option maxRecDepth 65536 in
theorem w_named : about1.methodNamed? x = some theMethod := by decide +kernel
set_option maxRecDepth 65536 in
theorem w_hears : about1.hears theMethod below0 = true := by decide +kernel
set_option maxRecDepth 65536 in
theorem w_ripe : about1.ripe theMethod args0 below0 = true := by decide +kernel
theorem w_running : about1.status = .running := rfl
set_option maxRecDepth 65536 in
theorem w_room : about1.hasRoom e0.platform room_1 = true :=
  launch0.hasRoom_least _ room_1 (by decide +kernel) (by decide +kernel) (by decide +kernel) (by decide +kernel) (by decide +kernel) (by decide +kernel)
theorem allAtoms_all (ts : List Jvm.Cond) (a : Array Jvm.Value) (st : Jvm.State) : (allAtoms ts).before a st = ts.all (fun c => c.before a st) := by
  induction ts with
  | nil => rfl
  | cons c t ih =>
    show (Jvm.Cond.and c (allAtoms t)).before a st = _
    rw [Jvm.Cond.before_and, ih, List.all_cons]
def words1 : List Jvm.Cond := Jvm.Cond.code x code maxLocals ret :: tables_1
/-- a 'code' word, met by the world's own term for the bytes: nothing is compared byte by byte -/
theorem code_word {y : MethodName} {bytes : ByteArray} {mx : Nat} {rt : Option FieldType} {a : Array Value} {s : State} {m : MethodId} {meth : Method} {c : Code} (h1 : s.methodNamed? y = some m) (h2 : s.vm.method? m = some meth) (h3 : meth.code = some c) (h4 : c.code = bytes)
    (h5 : (c.maxLocals == mx && c.exceptionTable.isEmpty && decide (c.maxStack ≤ mostOperands) && decide (meth.sig.returnType = rt) && !meth.locks && decide (parseMethodDescriptor y.desc = some meth.sig)) = true) : (Jvm.Cond.code y bytes mx rt).before a s = true := by
  simp only [Bool.and_eq_true, beq_iff_eq, Bool.not_eq_true', decide_eq_true_eq] at h5
  obtain ⟨⟨⟨⟨⟨g1, g2⟩, g3⟩, g4⟩, g5⟩, g6⟩ := h5
  simp [Cond.before, Cond.holds, Cond.value, h1, h2, h3, h4, g1, g2, g3, g4, g5, g6]
def isCode : Jvm.Cond → Bool
  | .code _ _ _ _ => true
  | _ => false
theorem all_split {L : List Jvm.Cond} {P : Jvm.Cond → Bool} (h1 : L.all (fun c => isCode c || P c) = true) (h2 : ∀ c ∈ L.filter isCode, P c = true) : L.all P = true := by
  refine List.all_eq_true.mpr fun c hc => ?_
  have h := List.all_eq_true.mp h1 c hc
  rcases Bool.eq_false_or_eq_true (isCode c) with hi | hi
  · exact h2 c (List.mem_filter.mpr ⟨hc, hi⟩)
  · simpa [hi] using h
set_option maxRecDepth 65536 in
theorem w_c0 : (Jvm.Cond.code x code maxLocals ret).before args0 about1 = true := code_word (m := ⟨1, 1⟩) (meth := k1m1) (c := k1c1) (by decide +kernel) rfl rfl rfl (by decide +kernel)
set_option maxRecDepth 65536 in
theorem w_c1 : (Jvm.Cond.code ({ cls := "com/example/bundles_to_brokers/bundlestobrokers/model/ResourceUsage", name := "<init>", desc := "(DD)V" } : Jvm.MethodName) prog_19_method_1_code (5 : Nat) (Option.none : Option Jvm.ClassFile.FieldType)).before args0 about1 = true := code_word (m := ⟨3, 0⟩) (meth := k3m0) (c := k3c0) (by decide +kernel) rfl rfl rfl (by decide +kernel)
set_option maxRecDepth 65536 in
theorem w_c2 : (Jvm.Cond.code ({ cls := "java/lang/Record", name := "<init>", desc := "()V" } : Jvm.MethodName) jdk_30_method_1_code (1 : Nat) (Option.none : Option Jvm.ClassFile.FieldType)).before args0 about1 = true := code_word (m := ⟨2, 0⟩) (meth := k2m0) (c := k2c0) (by decide +kernel) rfl rfl rfl (by decide +kernel)
set_option maxRecDepth 65536 in
theorem w_c3 : (Jvm.Cond.code ({ cls := "java/lang/Object", name := "<init>", desc := "()V" } : Jvm.MethodName) object_method_1_code (1 : Nat) (Option.none : Option Jvm.ClassFile.FieldType)).before args0 about1 = true := code_word (m := ⟨0, 0⟩) (meth := k0m0) (c := k0c0) (by decide +kernel) rfl rfl rfl (by decide +kernel)
set_option maxRecDepth 65536 in
theorem w_c4 : (Jvm.Cond.code ({ cls := "com/example/bundles_to_brokers/bundlestobrokers/model/Quantities", name := "checkNonNegative", desc := "(Ljava/lang/String;D)V" } : Jvm.MethodName) prog_17_method_2_code (3 : Nat) (Option.none : Option Jvm.ClassFile.FieldType)).before args0 about1 = true := code_word (m := ⟨10, 1⟩) (meth := k10m1) (c := k10c1) (by decide +kernel) rfl rfl rfl (by decide +kernel)
set_option maxRecDepth 65536 in
theorem w_c5 : (Jvm.Cond.code ({ cls := "com/example/bundles_to_brokers/bundlestobrokers/model/ResourceUsage", name := "fraction", desc := "()D" } : Jvm.MethodName) prog_19_method_2_code (1 : Nat) (Option.some Jvm.ClassFile.FieldType.double)).before args0 about1 = true := code_word (m := ⟨3, 1⟩) (meth := k3m1) (c := k3c1) (by decide +kernel) rfl rfl rfl (by decide +kernel)
def codes1 : List Jvm.Cond := [Jvm.Cond.code x code maxLocals ret, Jvm.Cond.code ({ cls := "com/example/bundles_to_brokers/bundlestobrokers/model/ResourceUsage", name := "<init>", desc := "(DD)V" } : Jvm.MethodName) prog_19_method_1_code (5 : Nat) (Option.none : Option Jvm.ClassFile.FieldType), Jvm.Cond.code ({ cls := "java/lang/Record", name := "<init>", desc := "()V" } : Jvm.MethodName) jdk_30_method_1_code (1 : Nat) (Option.none : Option Jvm.ClassFile.FieldType), Jvm.Cond.code ({ cls := "java/lang/Object", name := "<init>", desc := "()V" } : Jvm.MethodName) object_method_1_code (1 : Nat) (Option.none : Option Jvm.ClassFile.FieldType), Jvm.Cond.code ({ cls := "com/example/bundles_to_brokers/bundlestobrokers/model/Quantities", name := "checkNonNegative", desc := "(Ljava/lang/String;D)V" } : Jvm.MethodName) prog_17_method_2_code (3 : Nat) (Option.none : Option Jvm.ClassFile.FieldType), Jvm.Cond.code ({ cls := "com/example/bundles_to_brokers/bundlestobrokers/model/ResourceUsage", name := "fraction", desc := "()D" } : Jvm.MethodName) prog_19_method_2_code (1 : Nat) (Option.some Jvm.ClassFile.FieldType.double)]
set_option maxRecDepth 65536 in
theorem codes_eq : words1.filter isCode = codes1 := rfl
theorem w_codes : ∀ c ∈ words1.filter isCode, c.before args0 about1 = true := by
  rw [codes_eq]
  intro c hc
  simp only [codes1, List.mem_cons, List.not_mem_nil, or_false] at hc
  rcases hc with rfl | rfl | rfl | rfl | rfl | rfl
  · exact w_c0
  · exact w_c1
  · exact w_c2
  · exact w_c3
  · exact w_c4
  · exact w_c5
set_option maxRecDepth 65536 in
theorem w_t1 : (words1.take 24).all (fun c => isCode c || c.before args0 about1) = true := by decide +kernel
set_option maxRecDepth 65536 in
theorem w_t2 : (words1.drop 24).all (fun c => isCode c || c.before args0 about1) = true := by decide +kernel
theorem w_tables : (allAtoms (Jvm.Cond.code x code maxLocals ret :: tables_1)).before args0 about1 = true := by
  rw [allAtoms_all]
  show words1.all (fun c => c.before args0 about1) = true
  refine all_split ?_ w_codes
  rw [← List.take_append_drop 24 words1, List.all_append, w_t1, w_t2]
  rfl
set_option maxRecDepth 65536 in
theorem w_case : (Jvm.Cond.and given_1 narrow_1).before args0 about1 = true := by decide +kernel
theorem w_applies : (headSpec (Jvm.Cond.code x code maxLocals ret :: tables_1) room_1).applies x e0.platform about1 = true :=
  (Spec.applies_iff w_frames).mpr ⟨w_running, w_runnable, w_alone, w_named, w_hears, w_ripe, w_room, w_tables⟩
theorem atStart : AtStart classFile x code maxLocals ret World_1 tables_1 room_1 Calls_1 rest_1 Pre_1 launch0 p0 e0 about1 theMethod args0 below0 :=
  ⟨lists_1, trivial, launch0.admits_env _ _ _, launch0.least_env, fairChoices_fair.cas, fairChoices_fair.clock, w_frames, w_args, w_heap, w_applies, trivial, trivial, w_case⟩
end start1
theorem witness_1 : WitnessClaimed_1 := ⟨start1.p0, start1.e0, start1.about1, start1.theMethod, start1.args0, start1.below0, start1.atStart⟩
end Jvm.Pilot.@@N@@
