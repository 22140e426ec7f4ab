import JvmDerived
import JvmDerived.Pilot.@@N@@Statement
import JvmDerived.Pilot.@@N@@Code
set_option linter.unusedVariables false
set_option linter.unusedSimpArgs false
namespace Jvm.RoadKit
open Sem ClassFile Op Lib Jvm.Stand Jvm.Free Jvm.LawKit
section New
variable {p : Program} {l : Launch} {e : Env} {R : Room} {s : State} {m : MethodId} {args : Array Value} {below : List Frame} {meth : Method} {c : Code} {T : State} {locs : List Loc} {cells slots : Nat}
theorem retI (X : Stand p l e R s m args below meth c T locs cells slots) (hx : p.tables.exec = Jvm.exec) {pc : Nat} {Ls : Array Slot} {z : Int32} {rest : List Value} (hret : meth.sig.returnType = some .int) (hd : decode c.code pc = .ok (.ireturn, 1)) {fs : List Frame}
    (hl : ∀ (f : JFrame) (acts : List Action), f.method = m → f.locked = none → f.entered = [] → (doReturn e (T.setTop f) acts (some (.int z))).1 = T.setFrames fs) : Steps p.tables e below (T.setTop (mkF m pc Ls (.int z :: rest))) (T.setFrames fs) := by
  have hm' : T.vm.method? m = some meth := X.method'
  have hn : narrow .int (.int z) = .int z := rfl
  show Steps p.tables e below (T.setTop { method := m, pc := pc, locals := Ls, stack := _ :: rest, locked := none }) _
  jvm_step X.here [X.here.top, hx, hd, hm', hret, hn]
  first | (intro acts; rw [hl _ acts rfl rfl rfl]) | rw [hl _ _ rfl rfl rfl]
  exact Steps.refl _
theorem own_lremM {g : JFrame} {target : State} (X : Stand p l e R s m args below meth c T locs cells slots) (hx : p.tables.exec = Jvm.exec) (hg : g.method = m) {x y : Int64} {rest : List Value} (hd : decode c.code g.pc = .ok (.lrem, 1)) (hs : g.stack = .long y :: .long x :: rest) (hy : y ≠ 0)
    (hr : Steps p.tables e below (T.setTop { g with pc := g.pc + 1, stack := .long (x % y) :: rest }) target) : Steps p.tables e below (T.setTop g) target := by
  have q : x - (x / y) * y = x % y := lrem_mod x y
  exact XS.lrem X.here hx hg hd hs hy (by rw [q]; exact hr)
end New
/-! own: a long's comparison, an array by a function -/
theorem own_tltL {x y : Int64} (h : x < y) : ifCond.holds .lt (lcmpW x y) = true ∧ ifCond.holds .ge (lcmpW x y) = false ∧ ifCond.holds .gt (lcmpW y x) = true ∧ ifCond.holds .le (lcmpW y x) = false := by
  have h1 := (lc_lt x y).mpr h
  have h2 := (lc_gt y x).mpr h
  rw [← lcW] at h1 h2
  simp only [if0]
  exact ⟨(tlt h1).1, (tlt h1).2.1, (tlt h2).2.2.1, (tlt h2).2.2.2⟩
theorem own_fltL {x y : Int64} (h : ¬ x < y) : ifCond.holds .lt (lcmpW x y) = false ∧ ifCond.holds .ge (lcmpW x y) = true ∧ ifCond.holds .gt (lcmpW y x) = false ∧ ifCond.holds .le (lcmpW y x) = true := by
  have h1 := mt (lc_lt x y).mp h
  have h2 := mt (lc_gt y x).mp h
  rw [← lcW] at h1 h2
  simp only [if0]
  exact ⟨(flt h1).1, (flt h1).2.1, (flt h2).2.2.1, (flt h2).2.2.2⟩
theorem own_teqL {x y : Int64} (h : x = y) : ifCond.holds .eq (lcmpW x y) = true ∧ ifCond.holds .ne (lcmpW x y) = false := by
  have h1 := (lc_eq x y).mpr h
  rw [← lcW] at h1
  simp only [if0]
  exact teq h1
theorem own_feqL {x y : Int64} (h : ¬ x = y) : ifCond.holds .eq (lcmpW x y) = false ∧ ifCond.holds .ne (lcmpW x y) = true := by
  have h1 := mt (lc_eq x y).mp h
  rw [← lcW] at h1
  simp only [if0]
  exact feq h1
theorem own_iadd {x y : Int32} {X Y : Int} (hx : x.toInt = X) (hy : y.toInt = Y) (h1 : -2147483648 ≤ X + Y) (h2 : X + Y < 2147483648) : (x + y).toInt = X + Y := by
  have := c_iadd x y; have := rng32 (x + y); omega
theorem own_isub {x y : Int32} {X Y : Int} (hx : x.toInt = X) (hy : y.toInt = Y) (h1 : -2147483648 ≤ X - Y) (h2 : X - Y < 2147483648) : (x - y).toInt = X - Y := by
  have := c_isub x y; have := rng32 (x - y); omega
theorem own_imul {x y : Int32} {X Y : Int} (hx : x.toInt = X) (hy : y.toInt = Y) (h1 : -2147483648 ≤ X * Y) (h2 : X * Y < 2147483648) : (x * y).toInt = X * Y := by
  have := c_imul x y; have := rng32 (x * y); subst hx hy; omega
theorem own_ladd {x y : Int64} {X Y : Int} (hx : x.toInt = X) (hy : y.toInt = Y) (h1 : -9223372036854775808 ≤ X + Y) (h2 : X + Y < 9223372036854775808) : (x + y).toInt = X + Y := by
  have := c_ladd x y; have := rng64 (x + y); omega
theorem own_lsub {x y : Int64} {X Y : Int} (hx : x.toInt = X) (hy : y.toInt = Y) (h1 : -9223372036854775808 ≤ X - Y) (h2 : X - Y < 9223372036854775808) : (x - y).toInt = X - Y := by
  have := c_lsub x y; have := rng64 (x - y); omega
theorem own_lmul {x y : Int64} {X Y : Int} (hx : x.toInt = X) (hy : y.toInt = Y) (h1 : -9223372036854775808 ≤ X * Y) (h2 : X * Y < 9223372036854775808) : (x * y).toInt = X * Y := by
  have := c_lmul x y; have := rng64 (x * y); subst hx hy; omega
theorem own_maskL (x m : Int64) (k : Nat) (M : Int) (hM : m.toInt = M) (hk : k ≤ 63) (hm : m.toBitVec.toNat = 2 ^ k - 1) : 0 ≤ (x &&& m).toInt ∧ (x &&& m).toInt ≤ M := by
  have h := c_maskL x m k hk hm
  have h2 := c_maskL m m k hk hm
  have e : m &&& m = m := by simp
  rw [e] at h2
  have p : (0 : Int) < ((2 ^ k : Nat) : Int) := by have := Nat.two_pow_pos k; omega
  have a1 := Int.emod_nonneg x.toInt (show ((2 ^ k : Nat) : Int) ≠ 0 by omega)
  have a2 := Int.emod_lt_of_pos x.toInt p
  have hmi : m.toInt = ((2 ^ k - 1 : Nat) : Int) := by
    have h3 : m.toInt = (m.toBitVec.toNat : Int) := by
      show m.toBitVec.toInt = _
      rw [BitVec.toInt_eq_toNat_cond, hm]
      have : 2 ^ k ≤ 2 ^ 63 := Nat.pow_le_pow_right (by decide) hk
      split <;> omega
    rw [h3, hm]
  omega
theorem own_nb (x : Int32) : nar .byte (x.toInt8.toInt32) = x.toInt8.toInt32 := by
  show (x.toInt8.toInt32).toInt8.toInt32 = _
  simp
theorem own_sel {args : Array Value} {s : State} {y z : MethodName} (hi : (Cond.instanceMethod y).before args s = true) (hp : (Cond.privateMethod y).before args s = true) (h2 : (Cond.selects y.cls z z).before args s = true) (hc : z.cls = y.cls)
    (hy : y.cls ≠ "java/lang/invoke/MethodHandle" ∧ y.cls ≠ "java/lang/invoke/VarHandle") : (Cond.selects y.cls y y).before args s = true := by
  obtain ⟨mk, meth, hn, hm, -, -⟩ := Cond.instanceMethod_spec hi
  obtain ⟨c, r, m2, -, -, f3, -, k, f4, f5⟩ := Cond.selects_spec h2
  have e1 := findClass_of_methodNamed hn
  have e2 := findClass_of_methodNamed f3
  rw [hc, e1] at e2
  have e3 : m2.cls = mk.cls := (Option.some.inj e2).symm
  have e4 := State.methodFound?_of_named hn hy
  have e5 := selectMethod_private (p := {}) (c := mk.cls) hm (Cond.privateMethod_at hp mk meth hn hm)
  rw [e3] at f4
  simp [Cond.before, Cond.holds, Cond.value, e1, e4, hn, e5, f4, f5]
def AF (Z : State) (h : Heap) (a : Addr) (ty : FieldType) (n : Nat) (g : Nat → Value) : Prop := ∃ c : Cell, Arr Z h a c ty ∧ c.slots.size = n ∧ ∀ j, j < n → c.slots[j]? = some (g j)
abbrev AI (Z : State) (h : Heap) (a : Addr) (ty : FieldType) (n : Nat) (f : Nat → Int32) : Prop := AF Z h a ty n (fun j => .int (f j))
abbrev AJ (Z : State) (h : Heap) (a : Addr) (ty : FieldType) (n : Nat) (f : Nat → Int64) : Prop := AF Z h a ty n (fun j => .long (f j))
abbrev AD (Z : State) (h : Heap) (a : Addr) (ty : FieldType) (n : Nat) (f : Nat → UInt64) : Prop := AF Z h a ty n (fun j => .double (f j))
theorem own_exaP {Z : State} {h : Heap} {a : Addr} {C : String} (E : Exa Z h a C) : ∃ c : Cell, h[a]? = some c ∧ c.vm.isStatics = false := by
  obtain ⟨c, k, h1, -, -, h4, -⟩ := E; exact ⟨c, h1, h4⟩
theorem own_arrP {Z : State} {h : Heap} {a : Addr} {ty : FieldType} {n : Nat} {g : Nat → Value} (F : AF Z h a ty n g) : ∃ c : Cell, h[a]? = some c ∧ c.vm.isStatics = false := by
  obtain ⟨c, A, -⟩ := F; exact ⟨c, A.1, A.plain⟩
theorem own_sta {Z : State} {h h' : Heap} {ws : List Addr} {C n d : String} {v : Value} (F : Sta Z h C n d v) (K : Keep h h' ws) (q : ∀ x ∈ ws, ∃ c : Cell, h[x]? = some c ∧ c.vm.isStatics = false) : Sta Z h' C n d v := by
  obtain ⟨cf, i, k, f, st, cell, h1, h2, h3, h4, h5, h6, h7⟩ := F
  refine ⟨cf, i, k, f, st, cell, h1, h2, h3, h4, K.2.1 st cell h5 (fun hm => ?_), h6, h7⟩
  obtain ⟨c, g1, g2⟩ := q st hm
  cases g1.symm.trans h5
  rw [h6] at g2; cases g2
def up {α : Type} (f : Nat → α) (i : Nat) (v : α) : Nat → α := fun j => if j = i then v else f j
def zI : Nat → Int32 := fun _ => 0
def zJ : Nat → Int64 := fun _ => 0
section Arrs
variable {Z : State} {h h' : Heap} {a b : Addr} {ty : FieldType} {n : Nat} {g g' : Nat → Value}
theorem AF.lt (F : AF Z h a ty n g) : a < h.size := by obtain ⟨c, A, -⟩ := F; exact A.lt
theorem AF.ext (F : AF Z h a ty n g) (E : Ext h h') : AF Z h' a ty n g := by obtain ⟨c, A, r⟩ := F; exact ⟨c, A.ext E, r⟩
theorem AF.other {sl : Nat} {v : Value} (F : AF Z h b ty n g) (W : Wr h h' a sl v) (q : b ≠ a) : AF Z h' b ty n g := by obtain ⟨c, A, r⟩ := F; exact ⟨c, A.other W q, r⟩
theorem AF.keep {ws : List Addr} (F : AF Z h a ty n g) (K : Keep h h' ws) (q : a ∉ ws) : AF Z h' a ty n g := by obtain ⟨c, A, r⟩ := F; exact ⟨c, ⟨K.2.1 a c A.1 q, A.2⟩, r⟩
theorem AF.re (F : AF Z h a ty n g) (q : ∀ j, j < n → g j = g' j) : AF Z h a ty n g' := by obtain ⟨c, A, S, H⟩ := F; exact ⟨c, A, S, fun j hj => by rw [H j hj, q j hj]⟩
theorem AF.at (F : AF Z h a ty n g) {j : Int32} (i : Nat) (hj : j.toInt = i) (hi : i < n) : ∃ c : Cell, Arr Z h a c ty ∧ ¬ (j < 0 ∨ c.slots.size ≤ j.toNatClampNeg) ∧ c.slots[j.toNatClampNeg]? = some (g i) := by
  obtain ⟨c, A, S, H⟩ := F
  have e : j.toNatClampNeg = i := by simp only [Int32.toNatClampNeg, hj]; omega
  refine ⟨c, A, ?_, by rw [e]; exact H i hi⟩
  rw [e, S, Int32.lt_iff_toInt_lt, hj]
  have : (0 : Int32).toInt = 0 := rfl
  omega
theorem AF.len (F : AF Z h a ty n g) : ∃ c : Cell, Arr Z h a c ty ∧ c.slots.size = n := by obtain ⟨c, A, S, -⟩ := F; exact ⟨c, A, S⟩
theorem AF.set {k : Nat} {v : Value} (F : AF Z h a ty n g) (W : Wr h h' a k v) : AF Z h' a ty n (fun j => if j = k then v else g j) := by
  obtain ⟨c, A, S, H⟩ := F
  refine ⟨_, A.same W, by rw [sz_set]; exact S, fun j hj => ?_⟩
  by_cases q : j = k
  · subst q; simp [Cell.setSlot, S, hj]
  · show _ = some (if j = k then v else g j)
    rw [if_neg q]; have := H j hj; simp only [Cell.setSlot] at this ⊢; rw [Array.getElem?_setIfInBounds_ne (Ne.symm q)]; exact this
theorem own_tn {j : Int32} {i : Nat} (hj : j.toInt = i) : j.toNatClampNeg = i := by simp only [Int32.toNatClampNeg, hj]; omega
theorem AF.setI {f : Nat → Int32} {j : Int32} {v : Int32} (F : AI Z h a ty n f) (W : Wr h h' a j.toNatClampNeg (.int v)) (i : Nat) (hj : j.toInt = i) : AI Z h' a ty n (up f i v) := by
  rw [own_tn hj] at W
  exact (AF.set F W).re fun k _ => by by_cases q : k = i <;> simp [up, q]
theorem AF.setJ {f : Nat → Int64} {j : Int32} {v : Int64} (F : AJ Z h a ty n f) (W : Wr h h' a j.toNatClampNeg (.long v)) (i : Nat) (hj : j.toInt = i) : AJ Z h' a ty n (up f i v) := by
  rw [own_tn hj] at W
  exact (AF.set F W).re fun k _ => by by_cases q : k = i <;> simp [up, q]
theorem AF.setD {f : Nat → UInt64} {j : Int32} {v : UInt64} (F : AD Z h a ty n f) (W : Wr h h' a j.toNatClampNeg (.double v)) (i : Nat) (hj : j.toInt = i) : AD Z h' a ty n (up f i v) := by
  rw [own_tn hj] at W
  exact (AF.set F W).re fun k _ => by by_cases q : k = i <;> simp [up, q]
theorem AF.new {k : ClassId} {z : Int32} (A : Arr Z h a (newA k ty z) ty) (hz : z.toInt = n) : AF Z h a ty n (fun _ => defaultValue ty) :=
  ⟨_, A, by rw [sz_new]; exact own_tn hz, fun j hj => by simp [newA, own_tn hz, hj]⟩
end Arrs
end Jvm.RoadKit
namespace Jvm.Pilot.@@N@@
open Jvm Jvm.ClassFile Sem Op Lib Jvm.Free Jvm.Stand Jvm.LawKit Jvm.RoadKit Bundle Jvm.Pilot.@@N@@.Jvm.D
abbrev vI (x : Int32) : Slot := .val (.int x)
abbrev vR (x : Addr) : Slot := .val (.ref x)
abbrev vJ (x : Int64) : Slot := .val (.long x)
theorem ow {Z : State} {a0 : Array Value} (hw : ∀ d ∈ tables_1, d.before a0 Z = true) (i : Nat) {d : Jvm.Cond} (h : tables_1[i]? = some d) : d.before a0 Z = true := hw _ (List.mem_of_getElem? h)
abbrev vU : Slot := .unset
theorem om {Z s : State} {a0 args : Array Value} (hZ : Z.Warmed39 s.vm) (hw : ∀ d ∈ tables_1, d.before a0 Z = true) (i : Nat) {d : Jvm.Cond} (h : tables_1[i]? = some d) (hd : (d.onTables && d.keepsFace) = true := by first | rfl | simp [Cond.onTables, Cond.keepsFace, Cond.keeps, Cond.steady]) : d.before args s = true := mvT hZ (ow hw i h) hd
theorem oN {a b n : Nat} (h : a < n) (g : b = n) : a ≠ b := Nat.ne_of_lt (Nat.lt_of_lt_of_le h (Nat.le_of_eq g.symm))
theorem oM {a b n : Nat} (h : a < n) (g : n ≤ b) : a ≠ b := Nat.ne_of_lt (Nat.lt_of_lt_of_le h g)
theorem oL {a b n : Nat} (h : a ≤ n) (g : b = n) : a ≤ b := Nat.le_trans h (Nat.le_of_eq g.symm)
theorem oF {n0 : Nat} {L L1 L2 : List Loc} (e : L = L1 ++ L2) (h1 : Fr n0 L1) (h2 : Fr n0 L2) : Fr n0 L := by rw [e]; exact Fr.app h1 h2
abbrev mN0 : MethodName := (⟨"java/lang/Long", "bitCount", "(J)I"⟩ : MethodName)
abbrev mN1 : MethodName := (⟨"skipstitch/search/Automaton", "columnCount", "([B)I"⟩ : MethodName)
abbrev mN2 : MethodName := (⟨"skipstitch/search/Automaton", "width", "(II)I"⟩ : MethodName)
abbrev mN3 : MethodName := (⟨"skipstitch/search/Automaton", "columns", "([B)[I"⟩ : MethodName)
abbrev mN4 : MethodName := (⟨"skipstitch/search/Automaton", "width", "([B)I"⟩ : MethodName)
abbrev mN5 : MethodName := (⟨"skipstitch/search/Automaton", "entries", "([B)J"⟩ : MethodName)
abbrev mN6 : MethodName := (⟨"skipstitch/search/LazyAutomaton", "width", "()I"⟩ : MethodName)
abbrev mN7 : MethodName := (⟨"skipstitch/search/LazyAutomaton", "entries", "()J"⟩ : MethodName)
abbrev mN8 : MethodName := (⟨"skipstitch/search/LazyAutomaton", "<init>", "([B[I)V"⟩ : MethodName)
abbrev mN9 : MethodName := (⟨"skipstitch/search/LazyAutomaton", "workedOut", "()Z"⟩ : MethodName)
abbrev mN10 : MethodName := (⟨"java/lang/Record", "<init>", "()V"⟩ : MethodName)
abbrev mN11 : MethodName := (⟨"skipstitch/search/Automaton$Steps", "<init>", "(II[I[I)V"⟩ : MethodName)
abbrev mN12 : MethodName := (⟨"skipstitch/search/Automaton$Steps", "width", "()I"⟩ : MethodName)
abbrev mN13 : MethodName := (⟨"skipstitch/search/Automaton$Steps", "columns", "()I"⟩ : MethodName)
abbrev mN14 : MethodName := (⟨"skipstitch/search/Automaton$Steps", "next", "()[I"⟩ : MethodName)
abbrev mN15 : MethodName := (⟨"skipstitch/search/Automaton$Steps", "comparisons", "()[I"⟩ : MethodName)
abbrev mN16 : MethodName := (⟨"skipstitch/search/Automaton", "twice", "(Lskipstitch/search/Automaton$Steps;I)Lskipstitch/search/Automaton$Steps;"⟩ : MethodName)
abbrev mN17 : MethodName := (⟨"skipstitch/search/Automaton", "<init>", "([IILskipstitch/search/Automaton$Steps;Lskipstitch/search/Automaton$Steps;)V"⟩ : MethodName)
abbrev mN18 : MethodName := (⟨"skipstitch/search/Automaton", "of", "([B[I)Lskipstitch/search/Automaton;"⟩ : MethodName)
abbrev mN19 : MethodName := (⟨"skipstitch/search/LazyAutomaton", "get", "()Lskipstitch/search/Automaton;"⟩ : MethodName)
theorem oz {a b : Nat} (h : a = b) : a ≤ b := Nat.le_of_eq h
theorem oR {meth : Method} {t : FieldType} {v : Option Value} (e : meth.sig.returnType = some t) (h : meth.sig.returnType = none) : v = none := by rw [e] at h; cases h
abbrev oP (p : Program) (e : Env) (below : List Frame) (A B : State) : Prop := ∀ t, Steps p.tables e below A t → Steps p.tables e below B t
abbrev cS0 : String := "skipstitch/search/Automaton"
abbrev cS1 : String := "skipstitch/search/LazyAutomaton"
abbrev cS2 : String := "Lskipstitch/search/Automaton;"
abbrev cS3 : String := "skipstitch/search/Automaton$Steps"
abbrev cS4 : String := "Lskipstitch/search/Automaton$Steps;"
theorem ef_8 (m : MethodId) (xx : Int64) : entryFrame m #[(.long xx)] 2 = mkF m 0 #[vJ xx, .second] [] := by first | (simp [entryFrame, mkF, argsToLocals, Value.category]; done) | rfl
abbrev D_0 (k : Nat) := decode jdk_35_method_50_code k
theorem d8_0 : D_0 0 = .ok (.lload_n 0, 1) := by decide +kernel
theorem d8_1 : D_0 1 = .ok (.lload_n 0, 1) := by decide +kernel
theorem d8_2 : D_0 2 = .ok (.iconst 1, 1) := by decide +kernel
theorem d8_3 : D_0 3 = .ok (.lushr, 1) := by decide +kernel
theorem d8_4 : D_0 4 = .ok (.ldc2_w 314, 3) := by decide +kernel
theorem d8_7 : D_0 7 = .ok (.land, 1) := by decide +kernel
theorem d8_8 : D_0 8 = .ok (.lsub, 1) := by decide +kernel
theorem d8_9 : D_0 9 = .ok (.lstore_n 0, 1) := by decide +kernel
theorem d8_10 : D_0 10 = .ok (.lload_n 0, 1) := by decide +kernel
theorem d8_11 : D_0 11 = .ok (.ldc2_w 316, 3) := by decide +kernel
theorem d8_14 : D_0 14 = .ok (.land, 1) := by decide +kernel
theorem d8_15 : D_0 15 = .ok (.lload_n 0, 1) := by decide +kernel
theorem d8_16 : D_0 16 = .ok (.iconst 2, 1) := by decide +kernel
theorem d8_17 : D_0 17 = .ok (.lushr, 1) := by decide +kernel
theorem d8_18 : D_0 18 = .ok (.ldc2_w 316, 3) := by decide +kernel
theorem d8_21 : D_0 21 = .ok (.land, 1) := by decide +kernel
theorem d8_22 : D_0 22 = .ok (.ladd, 1) := by decide +kernel
theorem d8_23 : D_0 23 = .ok (.lstore_n 0, 1) := by decide +kernel
theorem d8_24 : D_0 24 = .ok (.lload_n 0, 1) := by decide +kernel
theorem d8_25 : D_0 25 = .ok (.lload_n 0, 1) := by decide +kernel
theorem d8_26 : D_0 26 = .ok (.iconst 4, 1) := by decide +kernel
theorem d8_27 : D_0 27 = .ok (.lushr, 1) := by decide +kernel
theorem d8_28 : D_0 28 = .ok (.ladd, 1) := by decide +kernel
theorem d8_29 : D_0 29 = .ok (.ldc2_w 318, 3) := by decide +kernel
theorem d8_32 : D_0 32 = .ok (.land, 1) := by decide +kernel
theorem d8_33 : D_0 33 = .ok (.lstore_n 0, 1) := by decide +kernel
theorem d8_34 : D_0 34 = .ok (.lload_n 0, 1) := by decide +kernel
theorem d8_35 : D_0 35 = .ok (.lload_n 0, 1) := by decide +kernel
theorem d8_36 : D_0 36 = .ok (.bipush 8, 2) := by decide +kernel
theorem d8_38 : D_0 38 = .ok (.lushr, 1) := by decide +kernel
theorem d8_39 : D_0 39 = .ok (.ladd, 1) := by decide +kernel
theorem d8_40 : D_0 40 = .ok (.lstore_n 0, 1) := by decide +kernel
theorem d8_41 : D_0 41 = .ok (.lload_n 0, 1) := by decide +kernel
theorem d8_42 : D_0 42 = .ok (.lload_n 0, 1) := by decide +kernel
theorem d8_43 : D_0 43 = .ok (.bipush 16, 2) := by decide +kernel
theorem d8_45 : D_0 45 = .ok (.lushr, 1) := by decide +kernel
theorem d8_46 : D_0 46 = .ok (.ladd, 1) := by decide +kernel
theorem d8_47 : D_0 47 = .ok (.lstore_n 0, 1) := by decide +kernel
theorem d8_48 : D_0 48 = .ok (.lload_n 0, 1) := by decide +kernel
theorem d8_49 : D_0 49 = .ok (.lload_n 0, 1) := by decide +kernel
theorem d8_50 : D_0 50 = .ok (.bipush 32, 2) := by decide +kernel
theorem d8_52 : D_0 52 = .ok (.lushr, 1) := by decide +kernel
theorem d8_53 : D_0 53 = .ok (.ladd, 1) := by decide +kernel
theorem d8_54 : D_0 54 = .ok (.lstore_n 0, 1) := by decide +kernel
theorem d8_55 : D_0 55 = .ok (.lload_n 0, 1) := by decide +kernel
theorem d8_56 : D_0 56 = .ok (.l2i, 1) := by decide +kernel
theorem d8_57 : D_0 57 = .ok (.bipush 127, 2) := by decide +kernel
theorem d8_59 : D_0 59 = .ok (.iand, 1) := by decide +kernel
theorem d8_60 : D_0 60 = .ok (.ireturn, 1) := by decide +kernel
def own_b1 (xx : Int64) : Int64 := (xx - (((xx.toUInt64 >>> ((1 : Int32) &&& 0x3f).toInt64.toUInt64).toInt64) &&& (6148914691236517205 : Int64)))
def own_b2 (xx : Int64) : Int64 := (((own_b1 xx) &&& (3689348814741910323 : Int64)) + ((((own_b1 xx).toUInt64 >>> ((2 : Int32) &&& 0x3f).toInt64.toUInt64).toInt64) &&& (3689348814741910323 : Int64)))
def own_b3 (xx : Int64) : Int64 := (((own_b2 xx) + (((own_b2 xx).toUInt64 >>> ((4 : Int32) &&& 0x3f).toInt64.toUInt64).toInt64)) &&& (1085102592571150095 : Int64))
def own_b4 (xx : Int64) : Int64 := ((own_b3 xx) + (((own_b3 xx).toUInt64 >>> ((8 : Int32) &&& 0x3f).toInt64.toUInt64).toInt64))
def own_b5 (xx : Int64) : Int64 := ((own_b4 xx) + (((own_b4 xx).toUInt64 >>> ((16 : Int32) &&& 0x3f).toInt64.toUInt64).toInt64))
def own_b6 (xx : Int64) : Int64 := ((own_b5 xx) + (((own_b5 xx).toUInt64 >>> ((32 : Int32) &&& 0x3f).toInt64.toUInt64).toInt64))
def r8_v (xx : Int64) : Int32 := (((own_b6 xx).toInt32) &&& (127 : Int32))
theorem pn_java_lang_Long : plainName "java/lang/Long" = true := by first | (simp [plainName, overriddenIn]; done) | decide +kernel
def Q8 (Z : State) (xx : Int64) (h0 : Heap) (n0 : Nat) (v : Option Value) (h : Heap) (L : List Loc) : Prop := v = some (.int (r8_v xx)) ∧ Fr n0 L ∧ h = h0
set_option maxRecDepth 65536 in
set_option maxHeartbeats 40000000 in
theorem rm8 (l : Launch) (Z : State) (a0 : Array Value) (hw : ∀ d ∈ tables_1, d.before a0 Z = true) (ws : List Jvm.Cond) (xx : Int64) (h0 : Heap) (n0 : Nat) (Z0 : n0 ≤ h0.size) :
  MetFree l mN0 (head1 (Jvm.Cond.code mN0 jdk_35_method_50_code 2 (some .int) :: ws) ({ frames := 0, cells := 0, slots := 0, locals := 0 } : Room)) (fun a U => a = #[(.long xx)] ∧ Z.Warmed39 U.vm ∧ U.heap = h0) (fun _ _ _ _ _ => True) (fun _ U o U' => ∃ v L, o = .returned v ∧ Q8 Z xx h0 n0 v U'.heap L ∧ FrameEnd U o U' L ({ frames := 0, cells := 0, slots := 0, locals := 0 } : Room).cells ({ frames := 0, cells := 0, slots := 0, locals := 0 } : Room).slots) := by
 refine MetFree.of_bodySF (plainFor_of_name pn_java_lang_Long) hisR ?_
 intro p e s m args below meth c s₁ Bd hml0 hP hK
 obtain ⟨rfl, hZ, hh⟩ := hP
 have hx := Bd.exec
 have hby := Bd.bytes
 have q {i : Nat} {r : _} (h : decode _ i = r) := hb hby h
 have hml : c.maxLocals = 2 := hml0
 have hown : s.vm.findClass "java/lang/Long" = some m.cls := findClass_of_methodNamed Bd.named
 have hnm := (name_of_methodNamed Bd.named Bd.method).1
 have X0 : Stand p l e ({ frames := 0, cells := 0, slots := 0, locals := 0 } : Room) s m #[(.long xx)] below meth c s₁ [] 0 0 := Stand.of_body Bd
 have e0 : s₁.heap = h0 := by rw [← hh, Bd.state]; rfl
 have N0 := Fr.nil n0
 have pre0 : oP p e below (s₁.setTop (mkF m 0 #[vJ xx, .second] [])) (s₁.setTop (entryFrame m #[(.long xx)] 2)) := fun t k => castTop (ef_8 m xx) k
 obtain ⟨fs, hr, hrun, hended, hW, hsame⟩ := X0.leave (v := some (.int (((own_b6 xx).toInt32) &&& (127 : Int32)))) (oR Bd.returns) (hlocks := Bd.notSynchronized)
 refine ⟨_, _, pre0 _ ?_, hrun, hended, _, _, rfl, ?_, ⟨_, rfl⟩, hW, hsame.mono (by decide) (by decide)⟩
 ·show Steps p.tables e below (s₁.setTop (mkF m 0 #[vJ xx, .second] [])) _
  refine XS.lloadN X0.here hx rfl (q d8_0) rfl ?_
  refine XS.lloadN X0.here hx rfl (q d8_1) rfl ?_
  refine XS.iconst X0.here hx rfl (q d8_2) ?_
  refine XS.lushr X0.here hx rfl (q d8_3) rfl ?_
  refine X0.ldc2Long hx hown (om hZ hw 45 rfl) (g := (mkF m 4 #[vJ xx, .second] [(.long ((xx.toUInt64 >>> ((1 : Int32) &&& 0x3f).toInt64.toUInt64).toInt64)), (.long xx)])) rfl (q d8_4) _ ?_
  refine XS.land X0.here hx rfl (q d8_7) rfl ?_
  refine XS.lsub X0.here hx rfl (q d8_8) rfl ?_
  refine XS.lstoreN X0.here hx rfl (q d8_9) rfl (l' := #[vJ (xx - (((xx.toUInt64 >>> ((1 : Int32) &&& 0x3f).toInt64.toUInt64).toInt64) &&& (6148914691236517205 : Int64))), .second]) rfl ?_
  refine XS.lloadN X0.here hx rfl (q d8_10) rfl ?_
  refine X0.ldc2Long hx hown (om hZ hw 46 rfl) (g := (mkF m 11 #[vJ (own_b1 xx), .second] [(.long (own_b1 xx))])) rfl (q d8_11) _ ?_
  refine XS.land X0.here hx rfl (q d8_14) rfl ?_
  refine XS.lloadN X0.here hx rfl (q d8_15) rfl ?_
  refine XS.iconst X0.here hx rfl (q d8_16) ?_
  refine XS.lushr X0.here hx rfl (q d8_17) rfl ?_
  refine X0.ldc2Long hx hown (om hZ hw 46 rfl) (g := (mkF m 18 #[vJ (own_b1 xx), .second] [(.long (((own_b1 xx).toUInt64 >>> ((2 : Int32) &&& 0x3f).toInt64.toUInt64).toInt64)), (.long ((own_b1 xx) &&& (3689348814741910323 : Int64)))])) rfl (q d8_18) _ ?_
  refine XS.land X0.here hx rfl (q d8_21) rfl ?_
  refine XS.ladd X0.here hx rfl (q d8_22) rfl ?_
  refine XS.lstoreN X0.here hx rfl (q d8_23) rfl (l' := #[vJ (((own_b1 xx) &&& (3689348814741910323 : Int64)) + ((((own_b1 xx).toUInt64 >>> ((2 : Int32) &&& 0x3f).toInt64.toUInt64).toInt64) &&& (3689348814741910323 : Int64))), .second]) rfl ?_
  refine XS.lloadN X0.here hx rfl (q d8_24) rfl ?_
  refine XS.lloadN X0.here hx rfl (q d8_25) rfl ?_
  refine XS.iconst X0.here hx rfl (q d8_26) ?_
  refine XS.lushr X0.here hx rfl (q d8_27) rfl ?_
  refine XS.ladd X0.here hx rfl (q d8_28) rfl ?_
  refine X0.ldc2Long hx hown (om hZ hw 47 rfl) (g := (mkF m 29 #[vJ (own_b2 xx), .second] [(.long ((own_b2 xx) + (((own_b2 xx).toUInt64 >>> ((4 : Int32) &&& 0x3f).toInt64.toUInt64).toInt64)))])) rfl (q d8_29) _ ?_
  refine XS.land X0.here hx rfl (q d8_32) rfl ?_
  refine XS.lstoreN X0.here hx rfl (q d8_33) rfl (l' := #[vJ (((own_b2 xx) + (((own_b2 xx).toUInt64 >>> ((4 : Int32) &&& 0x3f).toInt64.toUInt64).toInt64)) &&& (1085102592571150095 : Int64)), .second]) rfl ?_
  refine XS.lloadN X0.here hx rfl (q d8_34) rfl ?_
  refine XS.lloadN X0.here hx rfl (q d8_35) rfl ?_
  refine XS.bipush X0.here hx rfl (q d8_36) ?_
  refine XS.lushr X0.here hx rfl (q d8_38) rfl ?_
  refine XS.ladd X0.here hx rfl (q d8_39) rfl ?_
  refine XS.lstoreN X0.here hx rfl (q d8_40) rfl (l' := #[vJ ((own_b3 xx) + (((own_b3 xx).toUInt64 >>> ((8 : Int32) &&& 0x3f).toInt64.toUInt64).toInt64)), .second]) rfl ?_
  refine XS.lloadN X0.here hx rfl (q d8_41) rfl ?_
  refine XS.lloadN X0.here hx rfl (q d8_42) rfl ?_
  refine XS.bipush X0.here hx rfl (q d8_43) ?_
  refine XS.lushr X0.here hx rfl (q d8_45) rfl ?_
  refine XS.ladd X0.here hx rfl (q d8_46) rfl ?_
  refine XS.lstoreN X0.here hx rfl (q d8_47) rfl (l' := #[vJ ((own_b4 xx) + (((own_b4 xx).toUInt64 >>> ((16 : Int32) &&& 0x3f).toInt64.toUInt64).toInt64)), .second]) rfl ?_
  refine XS.lloadN X0.here hx rfl (q d8_48) rfl ?_
  refine XS.lloadN X0.here hx rfl (q d8_49) rfl ?_
  refine XS.bipush X0.here hx rfl (q d8_50) ?_
  refine XS.lushr X0.here hx rfl (q d8_52) rfl ?_
  refine XS.ladd X0.here hx rfl (q d8_53) rfl ?_
  refine XS.lstoreN X0.here hx rfl (q d8_54) rfl (l' := #[vJ ((own_b5 xx) + (((own_b5 xx).toUInt64 >>> ((32 : Int32) &&& 0x3f).toInt64.toUInt64).toInt64)), .second]) rfl ?_
  refine XS.lloadN X0.here hx rfl (q d8_55) rfl ?_
  refine XS.l2i X0.here hx rfl (q d8_56) rfl ?_
  refine XS.bipush X0.here hx rfl (q d8_57) ?_
  refine XS.iand X0.here hx rfl (q d8_59) rfl ?_
  exact retI X0 hx Bd.returns (q d8_60) hr
 ·show Q8 Z xx h0 n0 _ s₁.heap _
  rw [e0]
  have ev1 : (r8_v xx) = (((own_b6 xx).toInt32) &&& (127 : Int32)) := rfl
  exact ⟨(congrArg (fun z => some (Value.int z)) ev1.symm), N0, rfl⟩
def own_ix (bv : Int32) : Nat := ((((bv &&& (255 : Int32)).toUInt32 >>> ((6 : Int32) &&& 31).toUInt32).toInt32)).toInt.toNat
def own_iy (bv : Int32) : Nat := ((bv &&& (255 : Int32))).toInt.toNat
def own_hs (g : Nat → Int64) (bv : Int32) : Nat → Int64 := up g (own_ix bv) ((g (own_ix bv)) ||| ((1 : Int64) <<< ((bv &&& (63 : Int32)) &&& 0x3f).toInt64))
theorem own_ix1 (bv : Int32) : ((((bv &&& (255 : Int32)).toUInt32 >>> ((6 : Int32) &&& 31).toUInt32).toInt32)).toInt = (own_ix bv : Int) := by
 have : own_ix bv = ((((bv &&& (255 : Int32)).toUInt32 >>> ((6 : Int32) &&& 31).toUInt32).toInt32)).toInt.toNat := rfl
 have : 0 ≤ (bv &&& (255 : Int32)).toInt ∧ (bv &&& (255 : Int32)).toInt ≤ 255 := c_and bv (255 : Int32) (by decide)
 generalize (bv &&& (255 : Int32)) = u1_ at *
 have : ((u1_.toUInt32 >>> ((6 : Int32) &&& 31).toUInt32).toInt32).toInt = (u1_.toInt % 4294967296) / 64 := c_iushr u1_ (6 : Int32) 6 (by decide) (by decide)
 have := rng32 ((u1_.toUInt32 >>> ((6 : Int32) &&& 31).toUInt32).toInt32)
 generalize ((u1_.toUInt32 >>> ((6 : Int32) &&& 31).toUInt32).toInt32) = u2_ at *
 try simp only [Int32.reduceToInt, Int64.reduceToInt] at *
 omega
theorem own_iy1 (bv : Int32) : ((bv &&& (255 : Int32))).toInt = (own_iy bv : Int) := by
 have : own_iy bv = ((bv &&& (255 : Int32))).toInt.toNat := rfl
 have := c_and bv (255 : Int32) (by decide)
 generalize (bv &&& (255 : Int32)) = ua at *
 omega
theorem own_iy2 (bv : Int32) : own_iy bv < 256 := by
 have := own_iy1 bv
 have := c_and bv (255 : Int32) (by decide)
 simp only [Int32.reduceToInt] at this
 generalize (bv &&& (255 : Int32)) = ua at *
 omega
theorem own_ix2 (bv : Int32) : own_ix bv < 4 := by
 have := own_ix1 bv
 have : 0 ≤ (bv &&& (255 : Int32)).toInt ∧ (bv &&& (255 : Int32)).toInt ≤ 255 := c_and bv (255 : Int32) (by decide)
 generalize (bv &&& (255 : Int32)) = u1_ at *
 have : ((u1_.toUInt32 >>> ((6 : Int32) &&& 31).toUInt32).toInt32).toInt = (u1_.toInt % 4294967296) / 64 := c_iushr u1_ (6 : Int32) 6 (by decide) (by decide)
 have := rng32 ((u1_.toUInt32 >>> ((6 : Int32) &&& 31).toUInt32).toInt32)
 generalize ((u1_.toUInt32 >>> ((6 : Int32) &&& 31).toUInt32).toInt32) = u2_ at *
 try simp only [Int32.reduceToInt, Int64.reduceToInt] at *
 omega
theorem ef_7k1 (m : MethodId) (rp : Addr) : entryFrame m #[(.ref rp)] 6 = mkF m 0 #[vR rp, .unset, .unset, .unset, .unset, .unset] [] := by first | (simp [entryFrame, mkF, argsToLocals, Value.category]; done) | rfl
abbrev D_1 (k : Nat) := decode prog_23_method_7_code k
theorem d7_0 : D_1 0 = .ok (.iconst 4, 1) := by decide +kernel
theorem d7_1 : D_1 1 = .ok (.newarray .long, 2) := by decide +kernel
theorem d7_3 : D_1 3 = .ok (.astore_n 1, 1) := by decide +kernel
theorem d7_4 : D_1 4 = .ok (.aload_n 0, 1) := by decide +kernel
theorem d7_5 : D_1 5 = .ok (.astore_n 2, 1) := by decide +kernel
theorem d7_6 : D_1 6 = .ok (.aload_n 2, 1) := by decide +kernel
theorem d7_7 : D_1 7 = .ok (.arraylength, 1) := by decide +kernel
theorem d7_8 : D_1 8 = .ok (.istore_n 3, 1) := by decide +kernel
theorem d7_9 : D_1 9 = .ok (.iconst 0, 1) := by decide +kernel
theorem d7_10 : D_1 10 = .ok (.istore 4, 2) := by decide +kernel
theorem d7_12 : D_1 12 = .ok (.iload 4, 2) := by decide +kernel
theorem d7_14 : D_1 14 = .ok (.iload_n 3, 1) := by decide +kernel
theorem d7_15 : D_1 15 = .ok (.if_icmp .ge 36, 3) := by decide +kernel
theorem d7_18 : D_1 18 = .ok (.aload_n 2, 1) := by decide +kernel
theorem d7_19 : D_1 19 = .ok (.iload 4, 2) := by decide +kernel
theorem d7_21 : D_1 21 = .ok (.baload, 1) := by decide +kernel
theorem d7_22 : D_1 22 = .ok (.istore 5, 2) := by decide +kernel
theorem d7_24 : D_1 24 = .ok (.aload_n 1, 1) := by decide +kernel
theorem d7_25 : D_1 25 = .ok (.iload 5, 2) := by decide +kernel
theorem d7_27 : D_1 27 = .ok (.sipush 255, 3) := by decide +kernel
theorem d7_30 : D_1 30 = .ok (.iand, 1) := by decide +kernel
theorem d7_31 : D_1 31 = .ok (.bipush 6, 2) := by decide +kernel
theorem d7_33 : D_1 33 = .ok (.iushr, 1) := by decide +kernel
theorem d7_34 : D_1 34 = .ok (.dup2, 1) := by decide +kernel
theorem d7_35 : D_1 35 = .ok (.laload, 1) := by decide +kernel
theorem d7_36 : D_1 36 = .ok (.lconst 1, 1) := by decide +kernel
theorem d7_37 : D_1 37 = .ok (.iload 5, 2) := by decide +kernel
theorem d7_39 : D_1 39 = .ok (.bipush 63, 2) := by decide +kernel
theorem d7_41 : D_1 41 = .ok (.iand, 1) := by decide +kernel
theorem d7_42 : D_1 42 = .ok (.lshl, 1) := by decide +kernel
theorem d7_43 : D_1 43 = .ok (.lor, 1) := by decide +kernel
theorem d7_44 : D_1 44 = .ok (.lastore, 1) := by decide +kernel
theorem d7_45 : D_1 45 = .ok (.iinc 4 1, 3) := by decide +kernel
theorem d7_48 : D_1 48 = .ok (.goto (-36), 3) := by decide +kernel
theorem d7_51 : D_1 51 = .ok (.iconst 1, 1) := by decide +kernel
theorem d7_52 : D_1 52 = .ok (.aload_n 1, 1) := by decide +kernel
theorem d7_53 : D_1 53 = .ok (.iconst 0, 1) := by decide +kernel
theorem d7_54 : D_1 54 = .ok (.laload, 1) := by decide +kernel
theorem pd_0 : parseMethodDescriptor "(J)I" = some ⟨[.long], some .int⟩ := by decide +kernel
theorem d7_55 : D_1 55 = .ok (.invokestatic 69, 3) := by decide +kernel
theorem d7_58 : D_1 58 = .ok (.iadd, 1) := by decide +kernel
theorem d7_59 : D_1 59 = .ok (.aload_n 1, 1) := by decide +kernel
theorem d7_60 : D_1 60 = .ok (.iconst 1, 1) := by decide +kernel
theorem d7_61 : D_1 61 = .ok (.laload, 1) := by decide +kernel
theorem d7_62 : D_1 62 = .ok (.invokestatic 69, 3) := by decide +kernel
theorem d7_65 : D_1 65 = .ok (.iadd, 1) := by decide +kernel
theorem d7_66 : D_1 66 = .ok (.aload_n 1, 1) := by decide +kernel
theorem d7_67 : D_1 67 = .ok (.iconst 2, 1) := by decide +kernel
theorem d7_68 : D_1 68 = .ok (.laload, 1) := by decide +kernel
theorem d7_69 : D_1 69 = .ok (.invokestatic 69, 3) := by decide +kernel
theorem d7_72 : D_1 72 = .ok (.iadd, 1) := by decide +kernel
theorem d7_73 : D_1 73 = .ok (.aload_n 1, 1) := by decide +kernel
theorem d7_74 : D_1 74 = .ok (.iconst 3, 1) := by decide +kernel
theorem d7_75 : D_1 75 = .ok (.laload, 1) := by decide +kernel
theorem d7_76 : D_1 76 = .ok (.invokestatic 69, 3) := by decide +kernel
theorem d7_79 : D_1 79 = .ok (.iadd, 1) := by decide +kernel
theorem d7_80 : D_1 80 = .ok (.ireturn, 1) := by decide +kernel
def r7k1_v (fp : Nat → Int32) : Int32 := (((((1 : Int32) + (r8_v ((own_hs zJ (fp 0)) 0))) + (r8_v ((own_hs zJ (fp 0)) 1))) + (r8_v ((own_hs zJ (fp 0)) 2))) + (r8_v ((own_hs zJ (fp 0)) 3)))
theorem pn_skipstitch_search_Automaton : plainName "skipstitch/search/Automaton" = true := by first | (simp [plainName, overriddenIn]; done) | decide +kernel
def Q7k1 (Z : State) (rp : Addr) (fp : Nat → Int32) (h0 : Heap) (n0 : Nat) (v : Option Value) (h : Heap) (L : List Loc) : Prop := v = some (.int (r7k1_v fp)) ∧ Fr n0 L ∧ Keep h0 h []
set_option maxRecDepth 65536 in
set_option maxHeartbeats 40000000 in
theorem rm7k1 (l : Launch) (Z : State) (a0 : Array Value) (hw : ∀ d ∈ tables_1, d.before a0 Z = true) (ws : List Jvm.Cond) (rp : Addr) (fp : Nat → Int32) (h0 : Heap) (n0 : Nat) (Z0 : n0 ≤ h0.size) (A_rp : AI Z h0 rp .byte 1 fp) :
  MetFree l mN1 (head1 (Jvm.Cond.code mN1 prog_23_method_7_code 6 (some .int) :: ws) ({ frames := 1, cells := 1, slots := 4, locals := 14 } : Room)) (fun a U => a = #[(.ref rp)] ∧ Z.Warmed39 U.vm ∧ U.heap = h0) (fun _ _ _ _ _ => True) (fun _ U o U' => ∃ v L, o = .returned v ∧ Q7k1 Z rp fp h0 n0 v U'.heap L ∧ FrameEnd U o U' L ({ frames := 1, cells := 1, slots := 4, locals := 14 } : Room).cells ({ frames := 1, cells := 1, slots := 4, locals := 14 } : Room).slots) := by
 refine MetFree.of_bodySF (plainFor_of_name pn_skipstitch_search_Automaton) hisR ?_
 intro p e s m args below meth c s₁ Bd hml0 hP hK
 obtain ⟨rfl, hZ, hh⟩ := hP
 have hx := Bd.exec
 have hby := Bd.bytes
 have q {i : Nat} {r : _} (h : decode _ i = r) := hb hby h
 have hml : c.maxLocals = 6 := hml0
 have hown : s.vm.findClass cS0 = some m.cls := findClass_of_methodNamed Bd.named
 have hnm := (name_of_methodNamed Bd.named Bd.method).1
 have X0 : Stand p l e ({ frames := 1, cells := 1, slots := 4, locals := 14 } : Room) s m #[(.ref rp)] below meth c s₁ [] 0 0 := Stand.of_body Bd
 have e0 : s₁.heap = h0 := by rw [← hh, Bd.state]; rfl
 have N0 := Fr.nil n0
 have K0 : Keep h0 h0 [] := Keep.refl h0 _
 have pre0 : oP p e below (s₁.setTop (mkF m 0 #[vR rp, vU, vU, vU, vU, vU] [])) (s₁.setTop (entryFrame m #[(.ref rp)] 6)) := fun t k => castTop (ef_7k1 m rp) k
 obtain ⟨T1, h1, k1, X1, e1, E1, A1, st1⟩ := newP X0 hx hZ (ow hw 40 rfl) e0 (g := (mkF m 1 #[vR rp, vU, vU, vU, vU, vU] [(.int 4)])) rfl (q d7_1) rfl (by decide) (cap := 4) (by decide) (by decide) (by decide) (by decide)
 obtain ⟨b1, g1⟩ : ∃ z, z = h0.size := ⟨_, rfl⟩
 rw [← g1] at A1 st1
 have gg1 := oL Z0 g1
 have sz1 := oL K0.1 g1
 have f3 := A_rp.ext E1
 have Z1 := Nat.le_trans Z0 E1.1
 have K1 := K0.ext E1
 have f4 : AJ Z h1 b1 .long 4 zJ := AF.new A1 (by decide)
 obtain ⟨cl5, Arcl5, Szcl5⟩ := AF.len f3
 obtain ⟨cl6, Arcl6, hincl6, hatcl6⟩ := AF.at f3 (j := (0 : Int32)) 0 (by decide) (by decide)
 obtain ⟨cl7, Arcl7, hincl7, hatcl7⟩ := AF.at f4 (j := ((((fp 0) &&& (255 : Int32)).toUInt32 >>> ((6 : Int32) &&& 31).toUInt32).toInt32)) (own_ix (fp 0)) (own_ix1 (fp 0)) (own_ix2 (fp 0))
 obtain ⟨cl8, Arcl8, hincl8, -⟩ := AF.at f4 (j := ((((fp 0) &&& (255 : Int32)).toUInt32 >>> ((6 : Int32) &&& 31).toUInt32).toInt32)) (own_ix (fp 0)) (own_ix1 (fp 0)) (own_ix2 (fp 0))
 obtain ⟨T9, h9, X9, e9, W9, st9⟩ := stJ X1 hx hZ e1 Arcl8 (j := ((((fp 0) &&& (255 : Int32)).toUInt32 >>> ((6 : Int32) &&& 31).toUInt32).toInt32)) hincl8 (g := (mkF m 44 #[vR rp, vR b1, vR rp, vI 1, vI 0, vI (fp 0)] [(.long ((0 : Int64) ||| ((1 : Int64) <<< (((fp 0) &&& (63 : Int32)) &&& 0x3f).toInt64))), (.int ((((fp 0) &&& (255 : Int32)).toUInt32 >>> ((6 : Int32) &&& 31).toUInt32).toInt32)), (.ref b1)])) rfl rfl (q d7_44)
 have N9 := Fr.snoc X9 N0 gg1
 have Z9 := Nat.le_trans Z1 (Keep.of_wr W9).1
 have K9 := K1.wr W9 (Or.inr sz1)
 have f10 : AJ Z h9 b1 .long 4 (up zJ (own_ix (fp 0)) ((0 : Int64) ||| ((1 : Int64) <<< (((fp 0) &&& (63 : Int32)) &&& 0x3f).toInt64))) := AF.setJ f4 W9 (own_ix (fp 0)) (own_ix1 (fp 0))
 have f12 : AJ Z h9 b1 .long 4 (own_hs zJ (fp 0)) := f10
 obtain ⟨cl13, Arcl13, hincl13, hatcl13⟩ := AF.at f12 (j := (0 : Int32)) 0 (by decide) (by decide)
 obtain ⟨_, _, ⟨T14, L14, k14, n14⟩, -, X14, ⟨Lc14, hQ14, l14, y14, z14⟩, st14⟩ := Jvm.LawKit.callS X9 hx (y := mN0) hown (om hZ hw 41 rfl) (om hZ hw 42 rfl) (om hZ hw 43 rfl) (om hZ hw 44 rfl) (by decide) (backOf (W := 1) (rm8 l Z a0 hw [] ((own_hs zJ (fp 0)) 0) h9 n0 Z9 ) hZ (ow hw 44 rfl) (ow hw 43 rfl) (by decide) (by decide)) (g := (mkF m 55 #[vR rp, vR b1, vR rp, vI 1, vI 1, vI (fp 0)] [(.long ((own_hs zJ (fp 0)) 0)), (.int 1)])) rfl (by rw [hml]; rfl) (argsL := [(.long ((own_hs zJ (fp 0)) 0))]) (rest := [(.int 1)]) (lenOf pd_0 rfl) rfl (oz rfl) (q d7_55) (fun _ _ => ⟨rfl, e9, (by decide : 1 + 0 ≤ _), (by decide : 4 + 0 ≤ _)⟩)
 dsimp only [Pt.U, Pt.locs, Pt.cells, Pt.slots] at X14 l14 y14 z14 st14 hQ14
 subst y14 z14
 obtain ⟨rfl, N14q, e14⟩ := hQ14
 have N14 := oF l14 N9 N14q
 obtain ⟨cl15, Arcl15, hincl15, hatcl15⟩ := AF.at f12 (j := (1 : Int32)) 1 (by decide) (by decide)
 obtain ⟨_, _, ⟨T16, L16, k16, n16⟩, -, X16, ⟨Lc16, hQ16, l16, y16, z16⟩, st16⟩ := Jvm.LawKit.callS X14 hx (y := mN0) hown (om hZ hw 41 rfl) (om hZ hw 42 rfl) (om hZ hw 43 rfl) (om hZ hw 44 rfl) (by decide) (backOf (W := 1) (rm8 l Z a0 hw [] ((own_hs zJ (fp 0)) 1) h9 n0 Z9 ) hZ (ow hw 44 rfl) (ow hw 43 rfl) (by decide) (by decide)) (g := (mkF m 62 #[vR rp, vR b1, vR rp, vI 1, vI 1, vI (fp 0)] [(.long ((own_hs zJ (fp 0)) 1)), (.int ((1 : Int32) + (r8_v ((own_hs zJ (fp 0)) 0))))])) rfl (by rw [hml]; rfl) (argsL := [(.long ((own_hs zJ (fp 0)) 1))]) (rest := [(.int ((1 : Int32) + (r8_v ((own_hs zJ (fp 0)) 0))))]) (lenOf pd_0 rfl) rfl (oz rfl) (q d7_62) (fun _ _ => ⟨rfl, e14, (by decide : 1 + 0 ≤ _), (by decide : 4 + 0 ≤ _)⟩)
 dsimp only [Pt.U, Pt.locs, Pt.cells, Pt.slots] at X16 l16 y16 z16 st16 hQ16
 subst y16 z16
 obtain ⟨rfl, N16q, e16⟩ := hQ16
 have N16 := oF l16 N14 N16q
 obtain ⟨cl17, Arcl17, hincl17, hatcl17⟩ := AF.at f12 (j := (2 : Int32)) 2 (by decide) (by decide)
 obtain ⟨_, _, ⟨T18, L18, k18, n18⟩, -, X18, ⟨Lc18, hQ18, l18, y18, z18⟩, st18⟩ := Jvm.LawKit.callS X16 hx (y := mN0) hown (om hZ hw 41 rfl) (om hZ hw 42 rfl) (om hZ hw 43 rfl) (om hZ hw 44 rfl) (by decide) (backOf (W := 1) (rm8 l Z a0 hw [] ((own_hs zJ (fp 0)) 2) h9 n0 Z9 ) hZ (ow hw 44 rfl) (ow hw 43 rfl) (by decide) (by decide)) (g := (mkF m 69 #[vR rp, vR b1, vR rp, vI 1, vI 1, vI (fp 0)] [(.long ((own_hs zJ (fp 0)) 2)), (.int (((1 : Int32) + (r8_v ((own_hs zJ (fp 0)) 0))) + (r8_v ((own_hs zJ (fp 0)) 1))))])) rfl (by rw [hml]; rfl) (argsL := [(.long ((own_hs zJ (fp 0)) 2))]) (rest := [(.int (((1 : Int32) + (r8_v ((own_hs zJ (fp 0)) 0))) + (r8_v ((own_hs zJ (fp 0)) 1))))]) (lenOf pd_0 rfl) rfl (oz rfl) (q d7_69) (fun _ _ => ⟨rfl, e16, (by decide : 1 + 0 ≤ _), (by decide : 4 + 0 ≤ _)⟩)
 dsimp only [Pt.U, Pt.locs, Pt.cells, Pt.slots] at X18 l18 y18 z18 st18 hQ18
 subst y18 z18
 obtain ⟨rfl, N18q, e18⟩ := hQ18
 have N18 := oF l18 N16 N18q
 obtain ⟨cl19, Arcl19, hincl19, hatcl19⟩ := AF.at f12 (j := (3 : Int32)) 3 (by decide) (by decide)
 obtain ⟨_, _, ⟨T20, L20, k20, n20⟩, -, X20, ⟨Lc20, hQ20, l20, y20, z20⟩, st20⟩ := Jvm.LawKit.callS X18 hx (y := mN0) hown (om hZ hw 41 rfl) (om hZ hw 42 rfl) (om hZ hw 43 rfl) (om hZ hw 44 rfl) (by decide) (backOf (W := 1) (rm8 l Z a0 hw [] ((own_hs zJ (fp 0)) 3) h9 n0 Z9 ) hZ (ow hw 44 rfl) (ow hw 43 rfl) (by decide) (by decide)) (g := (mkF m 76 #[vR rp, vR b1, vR rp, vI 1, vI 1, vI (fp 0)] [(.long ((own_hs zJ (fp 0)) 3)), (.int ((((1 : Int32) + (r8_v ((own_hs zJ (fp 0)) 0))) + (r8_v ((own_hs zJ (fp 0)) 1))) + (r8_v ((own_hs zJ (fp 0)) 2))))])) rfl (by rw [hml]; rfl) (argsL := [(.long ((own_hs zJ (fp 0)) 3))]) (rest := [(.int ((((1 : Int32) + (r8_v ((own_hs zJ (fp 0)) 0))) + (r8_v ((own_hs zJ (fp 0)) 1))) + (r8_v ((own_hs zJ (fp 0)) 2))))]) (lenOf pd_0 rfl) rfl (oz rfl) (q d7_76) (fun _ _ => ⟨rfl, e18, (by decide : 1 + 0 ≤ _), (by decide : 4 + 0 ≤ _)⟩)
 dsimp only [Pt.U, Pt.locs, Pt.cells, Pt.slots] at X20 l20 y20 z20 st20 hQ20
 subst y20 z20
 obtain ⟨rfl, N20q, e20⟩ := hQ20
 have N20 := oF l20 N18 N20q
 obtain ⟨fs, hr, hrun, hended, hW, hsame⟩ := X20.leave (v := some (.int (((((1 : Int32) + (r8_v ((own_hs zJ (fp 0)) 0))) + (r8_v ((own_hs zJ (fp 0)) 1))) + (r8_v ((own_hs zJ (fp 0)) 2))) + (r8_v ((own_hs zJ (fp 0)) 3))))) (oR Bd.returns) (hlocks := Bd.notSynchronized)
 refine ⟨_, _, pre0 _ ?_, hrun, hended, _, _, rfl, ?_, ⟨_, rfl⟩, hW, hsame.mono (by decide) (by decide)⟩
 ·show Steps p.tables e below (s₁.setTop (mkF m 0 #[vR rp, vU, vU, vU, vU, vU] [])) _
  refine XS.iconst X0.here hx rfl (q d7_0) ?_
  refine st1 _ ?_
  refine XS.astoreN X1.here hx rfl (q d7_3) rfl rfl (l' := #[vR rp, vR b1, vU, vU, vU, vU]) rfl ?_
  refine XS.aloadN X1.here hx rfl (q d7_4) rfl rfl ?_
  refine XS.astoreN X1.here hx rfl (q d7_5) rfl rfl (l' := #[vR rp, vR b1, vR rp, vU, vU, vU]) rfl ?_
  refine XS.aloadN X1.here hx rfl (q d7_6) rfl rfl ?_
  refine X1.arraylength hx (by rw [e1]; exact Arcl5.1) (State.isArrayOf_alike hZ.alike Arcl5.2.1) (g := (mkF m 7 #[vR rp, vR b1, vR rp, vU, vU, vU] [(.ref rp)])) rfl rfl (q d7_7) _ ?_
  rw [Szcl5]
  refine XS.istoreN X1.here hx rfl (q d7_8) rfl (l' := #[vR rp, vR b1, vR rp, vI 1, vU, vU]) rfl ?_
  refine XS.iconst X1.here hx rfl (q d7_9) ?_
  refine XS.istore X1.here hx rfl (q d7_10) rfl (l' := #[vR rp, vR b1, vR rp, vI 1, vI 0, vU]) rfl ?_
  refine XS.iload X1.here hx rfl (q d7_12) rfl ?_
  refine XS.iloadN X1.here hx rfl (q d7_14) rfl ?_
  refine XS.icmpNo X1.here hx rfl (q d7_15) rfl (tlt (by decide : ((0 : Int32) < (1 : Int32)))).2.1 ?_
  refine XS.aloadN X1.here hx rfl (q d7_18) rfl rfl ?_
  refine XS.iload X1.here hx rfl (q d7_19) rfl ?_
  refine X1.baloadBytes hx (j := (0 : Int32)) (v := (.int (fp 0))) (by rw [e1]; exact Arcl6.1) (State.isArrayOf_alike hZ.alike Arcl6.2.1) Arcl6.2.2 hincl6 hatcl6 (g := (mkF m 21 #[vR rp, vR b1, vR rp, vI 1, vI 0, vU] [(.int 0), (.ref rp)])) rfl rfl (q d7_21) _ ?_
  refine XS.istore X1.here hx rfl (q d7_22) rfl (l' := #[vR rp, vR b1, vR rp, vI 1, vI 0, vI (fp 0)]) rfl ?_
  refine XS.aloadN X1.here hx rfl (q d7_24) rfl rfl ?_
  refine XS.iload X1.here hx rfl (q d7_25) rfl ?_
  refine XS.sipush X1.here hx rfl (q d7_27) ?_
  refine XS.iand X1.here hx rfl (q d7_30) rfl ?_
  refine XS.bipush X1.here hx rfl (q d7_31) ?_
  refine XS.iushr X1.here hx rfl (q d7_33) rfl ?_
  refine Jvm.Free.XT.dup2 X1.here hx rfl (q d7_34) rfl rfl rfl ?_
  refine X1.laload hx (j := ((((fp 0) &&& (255 : Int32)).toUInt32 >>> ((6 : Int32) &&& 31).toUInt32).toInt32)) (v := (.long (0 : Int64))) (by rw [e1]; exact Arcl7.1) (State.isArrayOf_alike hZ.alike Arcl7.2.1) Arcl7.2.2 hincl7 hatcl7 (g := (mkF m 35 #[vR rp, vR b1, vR rp, vI 1, vI 0, vI (fp 0)] [(.int ((((fp 0) &&& (255 : Int32)).toUInt32 >>> ((6 : Int32) &&& 31).toUInt32).toInt32)), (.ref b1), (.int ((((fp 0) &&& (255 : Int32)).toUInt32 >>> ((6 : Int32) &&& 31).toUInt32).toInt32)), (.ref b1)])) rfl rfl (q d7_35) _ ?_
  refine XS.lconst X1.here hx rfl (q d7_36) ?_
  refine XS.iload X1.here hx rfl (q d7_37) rfl ?_
  refine XS.bipush X1.here hx rfl (q d7_39) ?_
  refine XS.iand X1.here hx rfl (q d7_41) rfl ?_
  refine XS.lshl X1.here hx rfl (q d7_42) rfl ?_
  refine XS.lor X1.here hx rfl (q d7_43) rfl ?_
  refine st9 _ ?_
  refine XS.iinc X9.here hx rfl (q d7_45) rfl (l' := #[vR rp, vR b1, vR rp, vI 1, vI 1, vI (fp 0)]) rfl ?_
  refine XS.goto X9.here hx rfl (pc0 := 48) (pc' := 12) rfl (q d7_48) (by decide) (by decide) ?_
  refine XS.iload X9.here hx rfl (q d7_12) rfl ?_
  refine XS.iloadN X9.here hx rfl (q d7_14) rfl ?_
  refine XS.icmpYes X9.here hx rfl (pc0 := 15) (pc' := 51) rfl (q d7_15) rfl (flt (by decide : ¬ ((1 : Int32) < (1 : Int32)))).2.1 (by decide) (by decide) ?_
  refine XS.iconst X9.here hx rfl (q d7_51) ?_
  refine XS.aloadN X9.here hx rfl (q d7_52) rfl rfl ?_
  refine XS.iconst X9.here hx rfl (q d7_53) ?_
  refine X9.laload hx (j := (0 : Int32)) (v := (.long ((own_hs zJ (fp 0)) 0))) (by rw [e9]; exact Arcl13.1) (State.isArrayOf_alike hZ.alike Arcl13.2.1) Arcl13.2.2 hincl13 hatcl13 (g := (mkF m 54 #[vR rp, vR b1, vR rp, vI 1, vI 1, vI (fp 0)] [(.int 0), (.ref b1), (.int 1)])) rfl rfl (q d7_54) _ ?_
  refine st14 _ ?_
  refine XS.iadd X14.here hx rfl (q d7_58) rfl ?_
  refine XS.aloadN X14.here hx rfl (q d7_59) rfl rfl ?_
  refine XS.iconst X14.here hx rfl (q d7_60) ?_
  refine X14.laload hx (j := (1 : Int32)) (v := (.long ((own_hs zJ (fp 0)) 1))) (by rw [e14]; exact Arcl15.1) (State.isArrayOf_alike hZ.alike Arcl15.2.1) Arcl15.2.2 hincl15 hatcl15 (g := (mkF m 61 #[vR rp, vR b1, vR rp, vI 1, vI 1, vI (fp 0)] [(.int 1), (.ref b1), (.int ((1 : Int32) + (r8_v ((own_hs zJ (fp 0)) 0))))])) rfl rfl (q d7_61) _ ?_
  refine st16 _ ?_
  refine XS.iadd X16.here hx rfl (q d7_65) rfl ?_
  refine XS.aloadN X16.here hx rfl (q d7_66) rfl rfl ?_
  refine XS.iconst X16.here hx rfl (q d7_67) ?_
  refine X16.laload hx (j := (2 : Int32)) (v := (.long ((own_hs zJ (fp 0)) 2))) (by rw [e16]; exact Arcl17.1) (State.isArrayOf_alike hZ.alike Arcl17.2.1) Arcl17.2.2 hincl17 hatcl17 (g := (mkF m 68 #[vR rp, vR b1, vR rp, vI 1, vI 1, vI (fp 0)] [(.int 2), (.ref b1), (.int (((1 : Int32) + (r8_v ((own_hs zJ (fp 0)) 0))) + (r8_v ((own_hs zJ (fp 0)) 1))))])) rfl rfl (q d7_68) _ ?_
  refine st18 _ ?_
  refine XS.iadd X18.here hx rfl (q d7_72) rfl ?_
  refine XS.aloadN X18.here hx rfl (q d7_73) rfl rfl ?_
  refine XS.iconst X18.here hx rfl (q d7_74) ?_
  refine X18.laload hx (j := (3 : Int32)) (v := (.long ((own_hs zJ (fp 0)) 3))) (by rw [e18]; exact Arcl19.1) (State.isArrayOf_alike hZ.alike Arcl19.2.1) Arcl19.2.2 hincl19 hatcl19 (g := (mkF m 75 #[vR rp, vR b1, vR rp, vI 1, vI 1, vI (fp 0)] [(.int 3), (.ref b1), (.int ((((1 : Int32) + (r8_v ((own_hs zJ (fp 0)) 0))) + (r8_v ((own_hs zJ (fp 0)) 1))) + (r8_v ((own_hs zJ (fp 0)) 2))))])) rfl rfl (q d7_75) _ ?_
  refine st20 _ ?_
  refine XS.iadd X20.here hx rfl (q d7_79) rfl ?_
  exact retI X20 hx Bd.returns (q d7_80) hr
 ·show Q7k1 Z rp fp h0 n0 _ T20.heap _
  rw [e20]
  have ev21 : (r7k1_v fp) = (((((1 : Int32) + (r8_v ((own_hs zJ (fp 0)) 0))) + (r8_v ((own_hs zJ (fp 0)) 1))) + (r8_v ((own_hs zJ (fp 0)) 2))) + (r8_v ((own_hs zJ (fp 0)) 3))) := rfl
  exact ⟨(congrArg (fun z => some (Value.int z)) ev21.symm), N20, K9⟩
theorem ef_7k2 (m : MethodId) (rp : Addr) : entryFrame m #[(.ref rp)] 6 = mkF m 0 #[vR rp, .unset, .unset, .unset, .unset, .unset] [] := by first | (simp [entryFrame, mkF, argsToLocals, Value.category]; done) | rfl
def r7k2_v (fp : Nat → Int32) : Int32 := (((((1 : Int32) + (r8_v ((own_hs (own_hs zJ (fp 0)) (fp 1)) 0))) + (r8_v ((own_hs (own_hs zJ (fp 0)) (fp 1)) 1))) + (r8_v ((own_hs (own_hs zJ (fp 0)) (fp 1)) 2))) + (r8_v ((own_hs (own_hs zJ (fp 0)) (fp 1)) 3)))
def Q7k2 (Z : State) (rp : Addr) (fp : Nat → Int32) (h0 : Heap) (n0 : Nat) (v : Option Value) (h : Heap) (L : List Loc) : Prop := v = some (.int (r7k2_v fp)) ∧ Fr n0 L ∧ Keep h0 h []
set_option maxRecDepth 65536 in
set_option maxHeartbeats 40000000 in
theorem rm7k2 (l : Launch) (Z : State) (a0 : Array Value) (hw : ∀ d ∈ tables_1, d.before a0 Z = true) (ws : List Jvm.Cond) (rp : Addr) (fp : Nat → Int32) (h0 : Heap) (n0 : Nat) (Z0 : n0 ≤ h0.size) (A_rp : AI Z h0 rp .byte 2 fp) :
  MetFree l mN1 (head1 (Jvm.Cond.code mN1 prog_23_method_7_code 6 (some .int) :: ws) ({ frames := 1, cells := 1, slots := 4, locals := 14 } : Room)) (fun a U => a = #[(.ref rp)] ∧ Z.Warmed39 U.vm ∧ U.heap = h0) (fun _ _ _ _ _ => True) (fun _ U o U' => ∃ v L, o = .returned v ∧ Q7k2 Z rp fp h0 n0 v U'.heap L ∧ FrameEnd U o U' L ({ frames := 1, cells := 1, slots := 4, locals := 14 } : Room).cells ({ frames := 1, cells := 1, slots := 4, locals := 14 } : Room).slots) := by
 refine MetFree.of_bodySF (plainFor_of_name pn_skipstitch_search_Automaton) hisR ?_
 intro p e s m args below meth c s₁ Bd hml0 hP hK
 obtain ⟨rfl, hZ, hh⟩ := hP
 have hx := Bd.exec
 have hby := Bd.bytes
 have q {i : Nat} {r : _} (h : decode _ i = r) := hb hby h
 have hml : c.maxLocals = 6 := hml0
 have hown : s.vm.findClass cS0 = some m.cls := findClass_of_methodNamed Bd.named
 have hnm := (name_of_methodNamed Bd.named Bd.method).1
 have X0 : Stand p l e ({ frames := 1, cells := 1, slots := 4, locals := 14 } : Room) s m #[(.ref rp)] below meth c s₁ [] 0 0 := Stand.of_body Bd
 have e0 : s₁.heap = h0 := by rw [← hh, Bd.state]; rfl
 have N0 := Fr.nil n0
 have K0 : Keep h0 h0 [] := Keep.refl h0 _
 have pre0 : oP p e below (s₁.setTop (mkF m 0 #[vR rp, vU, vU, vU, vU, vU] [])) (s₁.setTop (entryFrame m #[(.ref rp)] 6)) := fun t k => castTop (ef_7k2 m rp) k
 obtain ⟨T1, h1, k1, X1, e1, E1, A1, st1⟩ := newP X0 hx hZ (ow hw 40 rfl) e0 (g := (mkF m 1 #[vR rp, vU, vU, vU, vU, vU] [(.int 4)])) rfl (q d7_1) rfl (by decide) (cap := 4) (by decide) (by decide) (by decide) (by decide)
 obtain ⟨b1, g1⟩ : ∃ z, z = h0.size := ⟨_, rfl⟩
 rw [← g1] at A1 st1
 have ne2 := oN A_rp.lt g1
 have gg1 := oL Z0 g1
 have sz1 := oL K0.1 g1
 have f3 := A_rp.ext E1
 have Z1 := Nat.le_trans Z0 E1.1
 have K1 := K0.ext E1
 have f4 : AJ Z h1 b1 .long 4 zJ := AF.new A1 (by decide)
 obtain ⟨cl5, Arcl5, Szcl5⟩ := AF.len f3
 obtain ⟨cl6, Arcl6, hincl6, hatcl6⟩ := AF.at f3 (j := (0 : Int32)) 0 (by decide) (by decide)
 obtain ⟨cl7, Arcl7, hincl7, hatcl7⟩ := AF.at f4 (j := ((((fp 0) &&& (255 : Int32)).toUInt32 >>> ((6 : Int32) &&& 31).toUInt32).toInt32)) (own_ix (fp 0)) (own_ix1 (fp 0)) (own_ix2 (fp 0))
 obtain ⟨cl8, Arcl8, hincl8, -⟩ := AF.at f4 (j := ((((fp 0) &&& (255 : Int32)).toUInt32 >>> ((6 : Int32) &&& 31).toUInt32).toInt32)) (own_ix (fp 0)) (own_ix1 (fp 0)) (own_ix2 (fp 0))
 obtain ⟨T9, h9, X9, e9, W9, st9⟩ := stJ X1 hx hZ e1 Arcl8 (j := ((((fp 0) &&& (255 : Int32)).toUInt32 >>> ((6 : Int32) &&& 31).toUInt32).toInt32)) hincl8 (g := (mkF m 44 #[vR rp, vR b1, vR rp, vI 2, vI 0, vI (fp 0)] [(.long ((0 : Int64) ||| ((1 : Int64) <<< (((fp 0) &&& (63 : Int32)) &&& 0x3f).toInt64))), (.int ((((fp 0) &&& (255 : Int32)).toUInt32 >>> ((6 : Int32) &&& 31).toUInt32).toInt32)), (.ref b1)])) rfl rfl (q d7_44)
 have N9 := Fr.snoc X9 N0 gg1
 have Z9 := Nat.le_trans Z1 (Keep.of_wr W9).1
 have K9 := K1.wr W9 (Or.inr sz1)
 have f10 : AJ Z h9 b1 .long 4 (up zJ (own_ix (fp 0)) ((0 : Int64) ||| ((1 : Int64) <<< (((fp 0) &&& (63 : Int32)) &&& 0x3f).toInt64))) := AF.setJ f4 W9 (own_ix (fp 0)) (own_ix1 (fp 0))
 have f11 := f3.other W9 ne2
 have f12 : AJ Z h9 b1 .long 4 (own_hs zJ (fp 0)) := f10
 obtain ⟨cl13, Arcl13, hincl13, hatcl13⟩ := AF.at f11 (j := (1 : Int32)) 1 (by decide) (by decide)
 obtain ⟨cl14, Arcl14, hincl14, hatcl14⟩ := AF.at f12 (j := ((((fp 1) &&& (255 : Int32)).toUInt32 >>> ((6 : Int32) &&& 31).toUInt32).toInt32)) (own_ix (fp 1)) (own_ix1 (fp 1)) (own_ix2 (fp 1))
 obtain ⟨cl15, Arcl15, hincl15, -⟩ := AF.at f12 (j := ((((fp 1) &&& (255 : Int32)).toUInt32 >>> ((6 : Int32) &&& 31).toUInt32).toInt32)) (own_ix (fp 1)) (own_ix1 (fp 1)) (own_ix2 (fp 1))
 obtain ⟨T16, h16, X16, e16, W16, st16⟩ := stJ X9 hx hZ e9 Arcl15 (j := ((((fp 1) &&& (255 : Int32)).toUInt32 >>> ((6 : Int32) &&& 31).toUInt32).toInt32)) hincl15 (g := (mkF m 44 #[vR rp, vR b1, vR rp, vI 2, vI 1, vI (fp 1)] [(.long (((own_hs zJ (fp 0)) (own_ix (fp 1))) ||| ((1 : Int64) <<< (((fp 1) &&& (63 : Int32)) &&& 0x3f).toInt64))), (.int ((((fp 1) &&& (255 : Int32)).toUInt32 >>> ((6 : Int32) &&& 31).toUInt32).toInt32)), (.ref b1)])) rfl rfl (q d7_44)
 have N16 := Fr.snoc X16 N9 gg1
 have Z16 := Nat.le_trans Z9 (Keep.of_wr W16).1
 have K16 := K9.wr W16 (Or.inr sz1)
 have f17 : AJ Z h16 b1 .long 4 (up (own_hs zJ (fp 0)) (own_ix (fp 1)) (((own_hs zJ (fp 0)) (own_ix (fp 1))) ||| ((1 : Int64) <<< (((fp 1) &&& (63 : Int32)) &&& 0x3f).toInt64))) := AF.setJ f12 W16 (own_ix (fp 1)) (own_ix1 (fp 1))
 have f19 : AJ Z h16 b1 .long 4 (own_hs (own_hs zJ (fp 0)) (fp 1)) := f17
 obtain ⟨cl20, Arcl20, hincl20, hatcl20⟩ := AF.at f19 (j := (0 : Int32)) 0 (by decide) (by decide)
 obtain ⟨_, _, ⟨T21, L21, k21, n21⟩, -, X21, ⟨Lc21, hQ21, l21, y21, z21⟩, st21⟩ := Jvm.LawKit.callS X16 hx (y := mN0) hown (om hZ hw 41 rfl) (om hZ hw 42 rfl) (om hZ hw 43 rfl) (om hZ hw 44 rfl) (by decide) (backOf (W := 1) (rm8 l Z a0 hw [] ((own_hs (own_hs zJ (fp 0)) (fp 1)) 0) h16 n0 Z16 ) hZ (ow hw 44 rfl) (ow hw 43 rfl) (by decide) (by decide)) (g := (mkF m 55 #[vR rp, vR b1, vR rp, vI 2, vI 2, vI (fp 1)] [(.long ((own_hs (own_hs zJ (fp 0)) (fp 1)) 0)), (.int 1)])) rfl (by rw [hml]; rfl) (argsL := [(.long ((own_hs (own_hs zJ (fp 0)) (fp 1)) 0))]) (rest := [(.int 1)]) (lenOf pd_0 rfl) rfl (oz rfl) (q d7_55) (fun _ _ => ⟨rfl, e16, (by decide : 1 + 0 ≤ _), (by decide : 4 + 0 ≤ _)⟩)
 dsimp only [Pt.U, Pt.locs, Pt.cells, Pt.slots] at X21 l21 y21 z21 st21 hQ21
 subst y21 z21
 obtain ⟨rfl, N21q, e21⟩ := hQ21
 have N21 := oF l21 N16 N21q
 obtain ⟨cl22, Arcl22, hincl22, hatcl22⟩ := AF.at f19 (j := (1 : Int32)) 1 (by decide) (by decide)
 obtain ⟨_, _, ⟨T23, L23, k23, n23⟩, -, X23, ⟨Lc23, hQ23, l23, y23, z23⟩, st23⟩ := Jvm.LawKit.callS X21 hx (y := mN0) hown (om hZ hw 41 rfl) (om hZ hw 42 rfl) (om hZ hw 43 rfl) (om hZ hw 44 rfl) (by decide) (backOf (W := 1) (rm8 l Z a0 hw [] ((own_hs (own_hs zJ (fp 0)) (fp 1)) 1) h16 n0 Z16 ) hZ (ow hw 44 rfl) (ow hw 43 rfl) (by decide) (by decide)) (g := (mkF m 62 #[vR rp, vR b1, vR rp, vI 2, vI 2, vI (fp 1)] [(.long ((own_hs (own_hs zJ (fp 0)) (fp 1)) 1)), (.int ((1 : Int32) + (r8_v ((own_hs (own_hs zJ (fp 0)) (fp 1)) 0))))])) rfl (by rw [hml]; rfl) (argsL := [(.long ((own_hs (own_hs zJ (fp 0)) (fp 1)) 1))]) (rest := [(.int ((1 : Int32) + (r8_v ((own_hs (own_hs zJ (fp 0)) (fp 1)) 0))))]) (lenOf pd_0 rfl) rfl (oz rfl) (q d7_62) (fun _ _ => ⟨rfl, e21, (by decide : 1 + 0 ≤ _), (by decide : 4 + 0 ≤ _)⟩)
 dsimp only [Pt.U, Pt.locs, Pt.cells, Pt.slots] at X23 l23 y23 z23 st23 hQ23
 subst y23 z23
 obtain ⟨rfl, N23q, e23⟩ := hQ23
 have N23 := oF l23 N21 N23q
 obtain ⟨cl24, Arcl24, hincl24, hatcl24⟩ := AF.at f19 (j := (2 : Int32)) 2 (by decide) (by decide)
 obtain ⟨_, _, ⟨T25, L25, k25, n25⟩, -, X25, ⟨Lc25, hQ25, l25, y25, z25⟩, st25⟩ := Jvm.LawKit.callS X23 hx (y := mN0) hown (om hZ hw 41 rfl) (om hZ hw 42 rfl) (om hZ hw 43 rfl) (om hZ hw 44 rfl) (by decide) (backOf (W := 1) (rm8 l Z a0 hw [] ((own_hs (own_hs zJ (fp 0)) (fp 1)) 2) h16 n0 Z16 ) hZ (ow hw 44 rfl) (ow hw 43 rfl) (by decide) (by decide)) (g := (mkF m 69 #[vR rp, vR b1, vR rp, vI 2, vI 2, vI (fp 1)] [(.long ((own_hs (own_hs zJ (fp 0)) (fp 1)) 2)), (.int (((1 : Int32) + (r8_v ((own_hs (own_hs zJ (fp 0)) (fp 1)) 0))) + (r8_v ((own_hs (own_hs zJ (fp 0)) (fp 1)) 1))))])) rfl (by rw [hml]; rfl) (argsL := [(.long ((own_hs (own_hs zJ (fp 0)) (fp 1)) 2))]) (rest := [(.int (((1 : Int32) + (r8_v ((own_hs (own_hs zJ (fp 0)) (fp 1)) 0))) + (r8_v ((own_hs (own_hs zJ (fp 0)) (fp 1)) 1))))]) (lenOf pd_0 rfl) rfl (oz rfl) (q d7_69) (fun _ _ => ⟨rfl, e23, (by decide : 1 + 0 ≤ _), (by decide : 4 + 0 ≤ _)⟩)
 dsimp only [Pt.U, Pt.locs, Pt.cells, Pt.slots] at X25 l25 y25 z25 st25 hQ25
 subst y25 z25
 obtain ⟨rfl, N25q, e25⟩ := hQ25
 have N25 := oF l25 N23 N25q
 obtain ⟨cl26, Arcl26, hincl26, hatcl26⟩ := AF.at f19 (j := (3 : Int32)) 3 (by decide) (by decide)
 obtain ⟨_, _, ⟨T27, L27, k27, n27⟩, -, X27, ⟨Lc27, hQ27, l27, y27, z27⟩, st27⟩ := Jvm.LawKit.callS X25 hx (y := mN0) hown (om hZ hw 41 rfl) (om hZ hw 42 rfl) (om hZ hw 43 rfl) (om hZ hw 44 rfl) (by decide) (backOf (W := 1) (rm8 l Z a0 hw [] ((own_hs (own_hs zJ (fp 0)) (fp 1)) 3) h16 n0 Z16 ) hZ (ow hw 44 rfl) (ow hw 43 rfl) (by decide) (by decide)) (g := (mkF m 76 #[vR rp, vR b1, vR rp, vI 2, vI 2, vI (fp 1)] [(.long ((own_hs (own_hs zJ (fp 0)) (fp 1)) 3)), (.int ((((1 : Int32) + (r8_v ((own_hs (own_hs zJ (fp 0)) (fp 1)) 0))) + (r8_v ((own_hs (own_hs zJ (fp 0)) (fp 1)) 1))) + (r8_v ((own_hs (own_hs zJ (fp 0)) (fp 1)) 2))))])) rfl (by rw [hml]; rfl) (argsL := [(.long ((own_hs (own_hs zJ (fp 0)) (fp 1)) 3))]) (rest := [(.int ((((1 : Int32) + (r8_v ((own_hs (own_hs zJ (fp 0)) (fp 1)) 0))) + (r8_v ((own_hs (own_hs zJ (fp 0)) (fp 1)) 1))) + (r8_v ((own_hs (own_hs zJ (fp 0)) (fp 1)) 2))))]) (lenOf pd_0 rfl) rfl (oz rfl) (q d7_76) (fun _ _ => ⟨rfl, e25, (by decide : 1 + 0 ≤ _), (by decide : 4 + 0 ≤ _)⟩)
 dsimp only [Pt.U, Pt.locs, Pt.cells, Pt.slots] at X27 l27 y27 z27 st27 hQ27
 subst y27 z27
 obtain ⟨rfl, N27q, e27⟩ := hQ27
 have N27 := oF l27 N25 N27q
 obtain ⟨fs, hr, hrun, hended, hW, hsame⟩ := X27.leave (v := some (.int (((((1 : Int32) + (r8_v ((own_hs (own_hs zJ (fp 0)) (fp 1)) 0))) + (r8_v ((own_hs (own_hs zJ (fp 0)) (fp 1)) 1))) + (r8_v ((own_hs (own_hs zJ (fp 0)) (fp 1)) 2))) + (r8_v ((own_hs (own_hs zJ (fp 0)) (fp 1)) 3))))) (oR Bd.returns) (hlocks := Bd.notSynchronized)
 refine ⟨_, _, pre0 _ ?_, hrun, hended, _, _, rfl, ?_, ⟨_, rfl⟩, hW, hsame.mono (by decide) (by decide)⟩
 ·show Steps p.tables e below (s₁.setTop (mkF m 0 #[vR rp, vU, vU, vU, vU, vU] [])) _
  refine XS.iconst X0.here hx rfl (q d7_0) ?_
  refine st1 _ ?_
  refine XS.astoreN X1.here hx rfl (q d7_3) rfl rfl (l' := #[vR rp, vR b1, vU, vU, vU, vU]) rfl ?_
  refine XS.aloadN X1.here hx rfl (q d7_4) rfl rfl ?_
  refine XS.astoreN X1.here hx rfl (q d7_5) rfl rfl (l' := #[vR rp, vR b1, vR rp, vU, vU, vU]) rfl ?_
  refine XS.aloadN X1.here hx rfl (q d7_6) rfl rfl ?_
  refine X1.arraylength hx (by rw [e1]; exact Arcl5.1) (State.isArrayOf_alike hZ.alike Arcl5.2.1) (g := (mkF m 7 #[vR rp, vR b1, vR rp, vU, vU, vU] [(.ref rp)])) rfl rfl (q d7_7) _ ?_
  rw [Szcl5]
  refine XS.istoreN X1.here hx rfl (q d7_8) rfl (l' := #[vR rp, vR b1, vR rp, vI 2, vU, vU]) rfl ?_
  refine XS.iconst X1.here hx rfl (q d7_9) ?_
  refine XS.istore X1.here hx rfl (q d7_10) rfl (l' := #[vR rp, vR b1, vR rp, vI 2, vI 0, vU]) rfl ?_
  refine XS.iload X1.here hx rfl (q d7_12) rfl ?_
  refine XS.iloadN X1.here hx rfl (q d7_14) rfl ?_
  refine XS.icmpNo X1.here hx rfl (q d7_15) rfl (tlt (by decide : ((0 : Int32) < (2 : Int32)))).2.1 ?_
  refine XS.aloadN X1.here hx rfl (q d7_18) rfl rfl ?_
  refine XS.iload X1.here hx rfl (q d7_19) rfl ?_
  refine X1.baloadBytes hx (j := (0 : Int32)) (v := (.int (fp 0))) (by rw [e1]; exact Arcl6.1) (State.isArrayOf_alike hZ.alike Arcl6.2.1) Arcl6.2.2 hincl6 hatcl6 (g := (mkF m 21 #[vR rp, vR b1, vR rp, vI 2, vI 0, vU] [(.int 0), (.ref rp)])) rfl rfl (q d7_21) _ ?_
  refine XS.istore X1.here hx rfl (q d7_22) rfl (l' := #[vR rp, vR b1, vR rp, vI 2, vI 0, vI (fp 0)]) rfl ?_
  refine XS.aloadN X1.here hx rfl (q d7_24) rfl rfl ?_
  refine XS.iload X1.here hx rfl (q d7_25) rfl ?_
  refine XS.sipush X1.here hx rfl (q d7_27) ?_
  refine XS.iand X1.here hx rfl (q d7_30) rfl ?_
  refine XS.bipush X1.here hx rfl (q d7_31) ?_
  refine XS.iushr X1.here hx rfl (q d7_33) rfl ?_
  refine Jvm.Free.XT.dup2 X1.here hx rfl (q d7_34) rfl rfl rfl ?_
  refine X1.laload hx (j := ((((fp 0) &&& (255 : Int32)).toUInt32 >>> ((6 : Int32) &&& 31).toUInt32).toInt32)) (v := (.long (0 : Int64))) (by rw [e1]; exact Arcl7.1) (State.isArrayOf_alike hZ.alike Arcl7.2.1) Arcl7.2.2 hincl7 hatcl7 (g := (mkF m 35 #[vR rp, vR b1, vR rp, vI 2, vI 0, vI (fp 0)] [(.int ((((fp 0) &&& (255 : Int32)).toUInt32 >>> ((6 : Int32) &&& 31).toUInt32).toInt32)), (.ref b1), (.int ((((fp 0) &&& (255 : Int32)).toUInt32 >>> ((6 : Int32) &&& 31).toUInt32).toInt32)), (.ref b1)])) rfl rfl (q d7_35) _ ?_
  refine XS.lconst X1.here hx rfl (q d7_36) ?_
  refine XS.iload X1.here hx rfl (q d7_37) rfl ?_
  refine XS.bipush X1.here hx rfl (q d7_39) ?_
  refine XS.iand X1.here hx rfl (q d7_41) rfl ?_
  refine XS.lshl X1.here hx rfl (q d7_42) rfl ?_
  refine XS.lor X1.here hx rfl (q d7_43) rfl ?_
  refine st9 _ ?_
  refine XS.iinc X9.here hx rfl (q d7_45) rfl (l' := #[vR rp, vR b1, vR rp, vI 2, vI 1, vI (fp 0)]) rfl ?_
  refine XS.goto X9.here hx rfl (pc0 := 48) (pc' := 12) rfl (q d7_48) (by decide) (by decide) ?_
  refine XS.iload X9.here hx rfl (q d7_12) rfl ?_
  refine XS.iloadN X9.here hx rfl (q d7_14) rfl ?_
  refine XS.icmpNo X9.here hx rfl (q d7_15) rfl (tlt (by decide : ((1 : Int32) < (2 : Int32)))).2.1 ?_
  refine XS.aloadN X9.here hx rfl (q d7_18) rfl rfl ?_
  refine XS.iload X9.here hx rfl (q d7_19) rfl ?_
  refine X9.baloadBytes hx (j := (1 : Int32)) (v := (.int (fp 1))) (by rw [e9]; exact Arcl13.1) (State.isArrayOf_alike hZ.alike Arcl13.2.1) Arcl13.2.2 hincl13 hatcl13 (g := (mkF m 21 #[vR rp, vR b1, vR rp, vI 2, vI 1, vI (fp 0)] [(.int 1), (.ref rp)])) rfl rfl (q d7_21) _ ?_
  refine XS.istore X9.here hx rfl (q d7_22) rfl (l' := #[vR rp, vR b1, vR rp, vI 2, vI 1, vI (fp 1)]) rfl ?_
  refine XS.aloadN X9.here hx rfl (q d7_24) rfl rfl ?_
  refine XS.iload X9.here hx rfl (q d7_25) rfl ?_
  refine XS.sipush X9.here hx rfl (q d7_27) ?_
  refine XS.iand X9.here hx rfl (q d7_30) rfl ?_
  refine XS.bipush X9.here hx rfl (q d7_31) ?_
  refine XS.iushr X9.here hx rfl (q d7_33) rfl ?_
  refine Jvm.Free.XT.dup2 X9.here hx rfl (q d7_34) rfl rfl rfl ?_
  refine X9.laload hx (j := ((((fp 1) &&& (255 : Int32)).toUInt32 >>> ((6 : Int32) &&& 31).toUInt32).toInt32)) (v := (.long ((own_hs zJ (fp 0)) (own_ix (fp 1))))) (by rw [e9]; exact Arcl14.1) (State.isArrayOf_alike hZ.alike Arcl14.2.1) Arcl14.2.2 hincl14 hatcl14 (g := (mkF m 35 #[vR rp, vR b1, vR rp, vI 2, vI 1, vI (fp 1)] [(.int ((((fp 1) &&& (255 : Int32)).toUInt32 >>> ((6 : Int32) &&& 31).toUInt32).toInt32)), (.ref b1), (.int ((((fp 1) &&& (255 : Int32)).toUInt32 >>> ((6 : Int32) &&& 31).toUInt32).toInt32)), (.ref b1)])) rfl rfl (q d7_35) _ ?_
  refine XS.lconst X9.here hx rfl (q d7_36) ?_
  refine XS.iload X9.here hx rfl (q d7_37) rfl ?_
  refine XS.bipush X9.here hx rfl (q d7_39) ?_
  refine XS.iand X9.here hx rfl (q d7_41) rfl ?_
  refine XS.lshl X9.here hx rfl (q d7_42) rfl ?_
  refine XS.lor X9.here hx rfl (q d7_43) rfl ?_
  refine st16 _ ?_
  refine XS.iinc X16.here hx rfl (q d7_45) rfl (l' := #[vR rp, vR b1, vR rp, vI 2, vI 2, vI (fp 1)]) rfl ?_
  refine XS.goto X16.here hx rfl (pc0 := 48) (pc' := 12) rfl (q d7_48) (by decide) (by decide) ?_
  refine XS.iload X16.here hx rfl (q d7_12) rfl ?_
  refine XS.iloadN X16.here hx rfl (q d7_14) rfl ?_
  refine XS.icmpYes X16.here hx rfl (pc0 := 15) (pc' := 51) rfl (q d7_15) rfl (flt (by decide : ¬ ((2 : Int32) < (2 : Int32)))).2.1 (by decide) (by decide) ?_
  refine XS.iconst X16.here hx rfl (q d7_51) ?_
  refine XS.aloadN X16.here hx rfl (q d7_52) rfl rfl ?_
  refine XS.iconst X16.here hx rfl (q d7_53) ?_
  refine X16.laload hx (j := (0 : Int32)) (v := (.long ((own_hs (own_hs zJ (fp 0)) (fp 1)) 0))) (by rw [e16]; exact Arcl20.1) (State.isArrayOf_alike hZ.alike Arcl20.2.1) Arcl20.2.2 hincl20 hatcl20 (g := (mkF m 54 #[vR rp, vR b1, vR rp, vI 2, vI 2, vI (fp 1)] [(.int 0), (.ref b1), (.int 1)])) rfl rfl (q d7_54) _ ?_
  refine st21 _ ?_
  refine XS.iadd X21.here hx rfl (q d7_58) rfl ?_
  refine XS.aloadN X21.here hx rfl (q d7_59) rfl rfl ?_
  refine XS.iconst X21.here hx rfl (q d7_60) ?_
  refine X21.laload hx (j := (1 : Int32)) (v := (.long ((own_hs (own_hs zJ (fp 0)) (fp 1)) 1))) (by rw [e21]; exact Arcl22.1) (State.isArrayOf_alike hZ.alike Arcl22.2.1) Arcl22.2.2 hincl22 hatcl22 (g := (mkF m 61 #[vR rp, vR b1, vR rp, vI 2, vI 2, vI (fp 1)] [(.int 1), (.ref b1), (.int ((1 : Int32) + (r8_v ((own_hs (own_hs zJ (fp 0)) (fp 1)) 0))))])) rfl rfl (q d7_61) _ ?_
  refine st23 _ ?_
  refine XS.iadd X23.here hx rfl (q d7_65) rfl ?_
  refine XS.aloadN X23.here hx rfl (q d7_66) rfl rfl ?_
  refine XS.iconst X23.here hx rfl (q d7_67) ?_
  refine X23.laload hx (j := (2 : Int32)) (v := (.long ((own_hs (own_hs zJ (fp 0)) (fp 1)) 2))) (by rw [e23]; exact Arcl24.1) (State.isArrayOf_alike hZ.alike Arcl24.2.1) Arcl24.2.2 hincl24 hatcl24 (g := (mkF m 68 #[vR rp, vR b1, vR rp, vI 2, vI 2, vI (fp 1)] [(.int 2), (.ref b1), (.int (((1 : Int32) + (r8_v ((own_hs (own_hs zJ (fp 0)) (fp 1)) 0))) + (r8_v ((own_hs (own_hs zJ (fp 0)) (fp 1)) 1))))])) rfl rfl (q d7_68) _ ?_
  refine st25 _ ?_
  refine XS.iadd X25.here hx rfl (q d7_72) rfl ?_
  refine XS.aloadN X25.here hx rfl (q d7_73) rfl rfl ?_
  refine XS.iconst X25.here hx rfl (q d7_74) ?_
  refine X25.laload hx (j := (3 : Int32)) (v := (.long ((own_hs (own_hs zJ (fp 0)) (fp 1)) 3))) (by rw [e25]; exact Arcl26.1) (State.isArrayOf_alike hZ.alike Arcl26.2.1) Arcl26.2.2 hincl26 hatcl26 (g := (mkF m 75 #[vR rp, vR b1, vR rp, vI 2, vI 2, vI (fp 1)] [(.int 3), (.ref b1), (.int ((((1 : Int32) + (r8_v ((own_hs (own_hs zJ (fp 0)) (fp 1)) 0))) + (r8_v ((own_hs (own_hs zJ (fp 0)) (fp 1)) 1))) + (r8_v ((own_hs (own_hs zJ (fp 0)) (fp 1)) 2))))])) rfl rfl (q d7_75) _ ?_
  refine st27 _ ?_
  refine XS.iadd X27.here hx rfl (q d7_79) rfl ?_
  exact retI X27 hx Bd.returns (q d7_80) hr
 ·show Q7k2 Z rp fp h0 n0 _ T27.heap _
  rw [e27]
  have ev28 : (r7k2_v fp) = (((((1 : Int32) + (r8_v ((own_hs (own_hs zJ (fp 0)) (fp 1)) 0))) + (r8_v ((own_hs (own_hs zJ (fp 0)) (fp 1)) 1))) + (r8_v ((own_hs (own_hs zJ (fp 0)) (fp 1)) 2))) + (r8_v ((own_hs (own_hs zJ (fp 0)) (fp 1)) 3))) := rfl
  exact ⟨(congrArg (fun z => some (Value.int z)) ev28.symm), N27, K16⟩
theorem ef_7k3 (m : MethodId) (rp : Addr) : entryFrame m #[(.ref rp)] 6 = mkF m 0 #[vR rp, .unset, .unset, .unset, .unset, .unset] [] := by first | (simp [entryFrame, mkF, argsToLocals, Value.category]; done) | rfl
def r7k3_v (fp : Nat → Int32) : Int32 := (((((1 : Int32) + (r8_v ((own_hs (own_hs (own_hs zJ (fp 0)) (fp 1)) (fp 2)) 0))) + (r8_v ((own_hs (own_hs (own_hs zJ (fp 0)) (fp 1)) (fp 2)) 1))) + (r8_v ((own_hs (own_hs (own_hs zJ (fp 0)) (fp 1)) (fp 2)) 2))) + (r8_v ((own_hs (own_hs (own_hs zJ (fp 0)) (fp 1)) (fp 2)) 3)))
def Q7k3 (Z : State) (rp : Addr) (fp : Nat → Int32) (h0 : Heap) (n0 : Nat) (v : Option Value) (h : Heap) (L : List Loc) : Prop := v = some (.int (r7k3_v fp)) ∧ Fr n0 L ∧ Keep h0 h []
set_option maxRecDepth 65536 in
set_option maxHeartbeats 40000000 in
theorem rm7k3 (l : Launch) (Z : State) (a0 : Array Value) (hw : ∀ d ∈ tables_1, d.before a0 Z = true) (ws : List Jvm.Cond) (rp : Addr) (fp : Nat → Int32) (h0 : Heap) (n0 : Nat) (Z0 : n0 ≤ h0.size) (A_rp : AI Z h0 rp .byte 3 fp) :
  MetFree l mN1 (head1 (Jvm.Cond.code mN1 prog_23_method_7_code 6 (some .int) :: ws) ({ frames := 1, cells := 1, slots := 4, locals := 14 } : Room)) (fun a U => a = #[(.ref rp)] ∧ Z.Warmed39 U.vm ∧ U.heap = h0) (fun _ _ _ _ _ => True) (fun _ U o U' => ∃ v L, o = .returned v ∧ Q7k3 Z rp fp h0 n0 v U'.heap L ∧ FrameEnd U o U' L ({ frames := 1, cells := 1, slots := 4, locals := 14 } : Room).cells ({ frames := 1, cells := 1, slots := 4, locals := 14 } : Room).slots) := by
 refine MetFree.of_bodySF (plainFor_of_name pn_skipstitch_search_Automaton) hisR ?_
 intro p e s m args below meth c s₁ Bd hml0 hP hK
 obtain ⟨rfl, hZ, hh⟩ := hP
 have hx := Bd.exec
 have hby := Bd.bytes
 have q {i : Nat} {r : _} (h : decode _ i = r) := hb hby h
 have hml : c.maxLocals = 6 := hml0
 have hown : s.vm.findClass cS0 = some m.cls := findClass_of_methodNamed Bd.named
 have hnm := (name_of_methodNamed Bd.named Bd.method).1
 have X0 : Stand p l e ({ frames := 1, cells := 1, slots := 4, locals := 14 } : Room) s m #[(.ref rp)] below meth c s₁ [] 0 0 := Stand.of_body Bd
 have e0 : s₁.heap = h0 := by rw [← hh, Bd.state]; rfl
 have N0 := Fr.nil n0
 have K0 : Keep h0 h0 [] := Keep.refl h0 _
 have pre0 : oP p e below (s₁.setTop (mkF m 0 #[vR rp, vU, vU, vU, vU, vU] [])) (s₁.setTop (entryFrame m #[(.ref rp)] 6)) := fun t k => castTop (ef_7k3 m rp) k
 obtain ⟨T1, h1, k1, X1, e1, E1, A1, st1⟩ := newP X0 hx hZ (ow hw 40 rfl) e0 (g := (mkF m 1 #[vR rp, vU, vU, vU, vU, vU] [(.int 4)])) rfl (q d7_1) rfl (by decide) (cap := 4) (by decide) (by decide) (by decide) (by decide)
 obtain ⟨b1, g1⟩ : ∃ z, z = h0.size := ⟨_, rfl⟩
 rw [← g1] at A1 st1
 have ne2 := oN A_rp.lt g1
 have gg1 := oL Z0 g1
 have sz1 := oL K0.1 g1
 have f3 := A_rp.ext E1
 have Z1 := Nat.le_trans Z0 E1.1
 have K1 := K0.ext E1
 have f4 : AJ Z h1 b1 .long 4 zJ := AF.new A1 (by decide)
 obtain ⟨cl5, Arcl5, Szcl5⟩ := AF.len f3
 obtain ⟨cl6, Arcl6, hincl6, hatcl6⟩ := AF.at f3 (j := (0 : Int32)) 0 (by decide) (by decide)
 obtain ⟨cl7, Arcl7, hincl7, hatcl7⟩ := AF.at f4 (j := ((((fp 0) &&& (255 : Int32)).toUInt32 >>> ((6 : Int32) &&& 31).toUInt32).toInt32)) (own_ix (fp 0)) (own_ix1 (fp 0)) (own_ix2 (fp 0))
 obtain ⟨cl8, Arcl8, hincl8, -⟩ := AF.at f4 (j := ((((fp 0) &&& (255 : Int32)).toUInt32 >>> ((6 : Int32) &&& 31).toUInt32).toInt32)) (own_ix (fp 0)) (own_ix1 (fp 0)) (own_ix2 (fp 0))
 obtain ⟨T9, h9, X9, e9, W9, st9⟩ := stJ X1 hx hZ e1 Arcl8 (j := ((((fp 0) &&& (255 : Int32)).toUInt32 >>> ((6 : Int32) &&& 31).toUInt32).toInt32)) hincl8 (g := (mkF m 44 #[vR rp, vR b1, vR rp, vI 3, vI 0, vI (fp 0)] [(.long ((0 : Int64) ||| ((1 : Int64) <<< (((fp 0) &&& (63 : Int32)) &&& 0x3f).toInt64))), (.int ((((fp 0) &&& (255 : Int32)).toUInt32 >>> ((6 : Int32) &&& 31).toUInt32).toInt32)), (.ref b1)])) rfl rfl (q d7_44)
 have N9 := Fr.snoc X9 N0 gg1
 have Z9 := Nat.le_trans Z1 (Keep.of_wr W9).1
 have K9 := K1.wr W9 (Or.inr sz1)
 have f10 : AJ Z h9 b1 .long 4 (up zJ (own_ix (fp 0)) ((0 : Int64) ||| ((1 : Int64) <<< (((fp 0) &&& (63 : Int32)) &&& 0x3f).toInt64))) := AF.setJ f4 W9 (own_ix (fp 0)) (own_ix1 (fp 0))
 have f11 := f3.other W9 ne2
 have f12 : AJ Z h9 b1 .long 4 (own_hs zJ (fp 0)) := f10
 obtain ⟨cl13, Arcl13, hincl13, hatcl13⟩ := AF.at f11 (j := (1 : Int32)) 1 (by decide) (by decide)
 obtain ⟨cl14, Arcl14, hincl14, hatcl14⟩ := AF.at f12 (j := ((((fp 1) &&& (255 : Int32)).toUInt32 >>> ((6 : Int32) &&& 31).toUInt32).toInt32)) (own_ix (fp 1)) (own_ix1 (fp 1)) (own_ix2 (fp 1))
 obtain ⟨cl15, Arcl15, hincl15, -⟩ := AF.at f12 (j := ((((fp 1) &&& (255 : Int32)).toUInt32 >>> ((6 : Int32) &&& 31).toUInt32).toInt32)) (own_ix (fp 1)) (own_ix1 (fp 1)) (own_ix2 (fp 1))
 obtain ⟨T16, h16, X16, e16, W16, st16⟩ := stJ X9 hx hZ e9 Arcl15 (j := ((((fp 1) &&& (255 : Int32)).toUInt32 >>> ((6 : Int32) &&& 31).toUInt32).toInt32)) hincl15 (g := (mkF m 44 #[vR rp, vR b1, vR rp, vI 3, vI 1, vI (fp 1)] [(.long (((own_hs zJ (fp 0)) (own_ix (fp 1))) ||| ((1 : Int64) <<< (((fp 1) &&& (63 : Int32)) &&& 0x3f).toInt64))), (.int ((((fp 1) &&& (255 : Int32)).toUInt32 >>> ((6 : Int32) &&& 31).toUInt32).toInt32)), (.ref b1)])) rfl rfl (q d7_44)
 have N16 := Fr.snoc X16 N9 gg1
 have Z16 := Nat.le_trans Z9 (Keep.of_wr W16).1
 have K16 := K9.wr W16 (Or.inr sz1)
 have f17 : AJ Z h16 b1 .long 4 (up (own_hs zJ (fp 0)) (own_ix (fp 1)) (((own_hs zJ (fp 0)) (own_ix (fp 1))) ||| ((1 : Int64) <<< (((fp 1) &&& (63 : Int32)) &&& 0x3f).toInt64))) := AF.setJ f12 W16 (own_ix (fp 1)) (own_ix1 (fp 1))
 have f18 := f11.other W16 ne2
 have f19 : AJ Z h16 b1 .long 4 (own_hs (own_hs zJ (fp 0)) (fp 1)) := f17
 obtain ⟨cl20, Arcl20, hincl20, hatcl20⟩ := AF.at f18 (j := (2 : Int32)) 2 (by decide) (by decide)
 obtain ⟨cl21, Arcl21, hincl21, hatcl21⟩ := AF.at f19 (j := ((((fp 2) &&& (255 : Int32)).toUInt32 >>> ((6 : Int32) &&& 31).toUInt32).toInt32)) (own_ix (fp 2)) (own_ix1 (fp 2)) (own_ix2 (fp 2))
 obtain ⟨cl22, Arcl22, hincl22, -⟩ := AF.at f19 (j := ((((fp 2) &&& (255 : Int32)).toUInt32 >>> ((6 : Int32) &&& 31).toUInt32).toInt32)) (own_ix (fp 2)) (own_ix1 (fp 2)) (own_ix2 (fp 2))
 obtain ⟨T23, h23, X23, e23, W23, st23⟩ := stJ X16 hx hZ e16 Arcl22 (j := ((((fp 2) &&& (255 : Int32)).toUInt32 >>> ((6 : Int32) &&& 31).toUInt32).toInt32)) hincl22 (g := (mkF m 44 #[vR rp, vR b1, vR rp, vI 3, vI 2, vI (fp 2)] [(.long (((own_hs (own_hs zJ (fp 0)) (fp 1)) (own_ix (fp 2))) ||| ((1 : Int64) <<< (((fp 2) &&& (63 : Int32)) &&& 0x3f).toInt64))), (.int ((((fp 2) &&& (255 : Int32)).toUInt32 >>> ((6 : Int32) &&& 31).toUInt32).toInt32)), (.ref b1)])) rfl rfl (q d7_44)
 have N23 := Fr.snoc X23 N16 gg1
 have Z23 := Nat.le_trans Z16 (Keep.of_wr W23).1
 have K23 := K16.wr W23 (Or.inr sz1)
 have f24 : AJ Z h23 b1 .long 4 (up (own_hs (own_hs zJ (fp 0)) (fp 1)) (own_ix (fp 2)) (((own_hs (own_hs zJ (fp 0)) (fp 1)) (own_ix (fp 2))) ||| ((1 : Int64) <<< (((fp 2) &&& (63 : Int32)) &&& 0x3f).toInt64))) := AF.setJ f19 W23 (own_ix (fp 2)) (own_ix1 (fp 2))
 have f26 : AJ Z h23 b1 .long 4 (own_hs (own_hs (own_hs zJ (fp 0)) (fp 1)) (fp 2)) := f24
 obtain ⟨cl27, Arcl27, hincl27, hatcl27⟩ := AF.at f26 (j := (0 : Int32)) 0 (by decide) (by decide)
 obtain ⟨_, _, ⟨T28, L28, k28, n28⟩, -, X28, ⟨Lc28, hQ28, l28, y28, z28⟩, st28⟩ := Jvm.LawKit.callS X23 hx (y := mN0) hown (om hZ hw 41 rfl) (om hZ hw 42 rfl) (om hZ hw 43 rfl) (om hZ hw 44 rfl) (by decide) (backOf (W := 1) (rm8 l Z a0 hw [] ((own_hs (own_hs (own_hs zJ (fp 0)) (fp 1)) (fp 2)) 0) h23 n0 Z23 ) hZ (ow hw 44 rfl) (ow hw 43 rfl) (by decide) (by decide)) (g := (mkF m 55 #[vR rp, vR b1, vR rp, vI 3, vI 3, vI (fp 2)] [(.long ((own_hs (own_hs (own_hs zJ (fp 0)) (fp 1)) (fp 2)) 0)), (.int 1)])) rfl (by rw [hml]; rfl) (argsL := [(.long ((own_hs (own_hs (own_hs zJ (fp 0)) (fp 1)) (fp 2)) 0))]) (rest := [(.int 1)]) (lenOf pd_0 rfl) rfl (oz rfl) (q d7_55) (fun _ _ => ⟨rfl, e23, (by decide : 1 + 0 ≤ _), (by decide : 4 + 0 ≤ _)⟩)
 dsimp only [Pt.U, Pt.locs, Pt.cells, Pt.slots] at X28 l28 y28 z28 st28 hQ28
 subst y28 z28
 obtain ⟨rfl, N28q, e28⟩ := hQ28
 have N28 := oF l28 N23 N28q
 obtain ⟨cl29, Arcl29, hincl29, hatcl29⟩ := AF.at f26 (j := (1 : Int32)) 1 (by decide) (by decide)
 obtain ⟨_, _, ⟨T30, L30, k30, n30⟩, -, X30, ⟨Lc30, hQ30, l30, y30, z30⟩, st30⟩ := Jvm.LawKit.callS X28 hx (y := mN0) hown (om hZ hw 41 rfl) (om hZ hw 42 rfl) (om hZ hw 43 rfl) (om hZ hw 44 rfl) (by decide) (backOf (W := 1) (rm8 l Z a0 hw [] ((own_hs (own_hs (own_hs zJ (fp 0)) (fp 1)) (fp 2)) 1) h23 n0 Z23 ) hZ (ow hw 44 rfl) (ow hw 43 rfl) (by decide) (by decide)) (g := (mkF m 62 #[vR rp, vR b1, vR rp, vI 3, vI 3, vI (fp 2)] [(.long ((own_hs (own_hs (own_hs zJ (fp 0)) (fp 1)) (fp 2)) 1)), (.int ((1 : Int32) + (r8_v ((own_hs (own_hs (own_hs zJ (fp 0)) (fp 1)) (fp 2)) 0))))])) rfl (by rw [hml]; rfl) (argsL := [(.long ((own_hs (own_hs (own_hs zJ (fp 0)) (fp 1)) (fp 2)) 1))]) (rest := [(.int ((1 : Int32) + (r8_v ((own_hs (own_hs (own_hs zJ (fp 0)) (fp 1)) (fp 2)) 0))))]) (lenOf pd_0 rfl) rfl (oz rfl) (q d7_62) (fun _ _ => ⟨rfl, e28, (by decide : 1 + 0 ≤ _), (by decide : 4 + 0 ≤ _)⟩)
 dsimp only [Pt.U, Pt.locs, Pt.cells, Pt.slots] at X30 l30 y30 z30 st30 hQ30
 subst y30 z30
 obtain ⟨rfl, N30q, e30⟩ := hQ30
 have N30 := oF l30 N28 N30q
 obtain ⟨cl31, Arcl31, hincl31, hatcl31⟩ := AF.at f26 (j := (2 : Int32)) 2 (by decide) (by decide)
 obtain ⟨_, _, ⟨T32, L32, k32, n32⟩, -, X32, ⟨Lc32, hQ32, l32, y32, z32⟩, st32⟩ := Jvm.LawKit.callS X30 hx (y := mN0) hown (om hZ hw 41 rfl) (om hZ hw 42 rfl) (om hZ hw 43 rfl) (om hZ hw 44 rfl) (by decide) (backOf (W := 1) (rm8 l Z a0 hw [] ((own_hs (own_hs (own_hs zJ (fp 0)) (fp 1)) (fp 2)) 2) h23 n0 Z23 ) hZ (ow hw 44 rfl) (ow hw 43 rfl) (by decide) (by decide)) (g := (mkF m 69 #[vR rp, vR b1, vR rp, vI 3, vI 3, vI (fp 2)] [(.long ((own_hs (own_hs (own_hs zJ (fp 0)) (fp 1)) (fp 2)) 2)), (.int (((1 : Int32) + (r8_v ((own_hs (own_hs (own_hs zJ (fp 0)) (fp 1)) (fp 2)) 0))) + (r8_v ((own_hs (own_hs (own_hs zJ (fp 0)) (fp 1)) (fp 2)) 1))))])) rfl (by rw [hml]; rfl) (argsL := [(.long ((own_hs (own_hs (own_hs zJ (fp 0)) (fp 1)) (fp 2)) 2))]) (rest := [(.int (((1 : Int32) + (r8_v ((own_hs (own_hs (own_hs zJ (fp 0)) (fp 1)) (fp 2)) 0))) + (r8_v ((own_hs (own_hs (own_hs zJ (fp 0)) (fp 1)) (fp 2)) 1))))]) (lenOf pd_0 rfl) rfl (oz rfl) (q d7_69) (fun _ _ => ⟨rfl, e30, (by decide : 1 + 0 ≤ _), (by decide : 4 + 0 ≤ _)⟩)
 dsimp only [Pt.U, Pt.locs, Pt.cells, Pt.slots] at X32 l32 y32 z32 st32 hQ32
 subst y32 z32
 obtain ⟨rfl, N32q, e32⟩ := hQ32
 have N32 := oF l32 N30 N32q
 obtain ⟨cl33, Arcl33, hincl33, hatcl33⟩ := AF.at f26 (j := (3 : Int32)) 3 (by decide) (by decide)
 obtain ⟨_, _, ⟨T34, L34, k34, n34⟩, -, X34, ⟨Lc34, hQ34, l34, y34, z34⟩, st34⟩ := Jvm.LawKit.callS X32 hx (y := mN0) hown (om hZ hw 41 rfl) (om hZ hw 42 rfl) (om hZ hw 43 rfl) (om hZ hw 44 rfl) (by decide) (backOf (W := 1) (rm8 l Z a0 hw [] ((own_hs (own_hs (own_hs zJ (fp 0)) (fp 1)) (fp 2)) 3) h23 n0 Z23 ) hZ (ow hw 44 rfl) (ow hw 43 rfl) (by decide) (by decide)) (g := (mkF m 76 #[vR rp, vR b1, vR rp, vI 3, vI 3, vI (fp 2)] [(.long ((own_hs (own_hs (own_hs zJ (fp 0)) (fp 1)) (fp 2)) 3)), (.int ((((1 : Int32) + (r8_v ((own_hs (own_hs (own_hs zJ (fp 0)) (fp 1)) (fp 2)) 0))) + (r8_v ((own_hs (own_hs (own_hs zJ (fp 0)) (fp 1)) (fp 2)) 1))) + (r8_v ((own_hs (own_hs (own_hs zJ (fp 0)) (fp 1)) (fp 2)) 2))))])) rfl (by rw [hml]; rfl) (argsL := [(.long ((own_hs (own_hs (own_hs zJ (fp 0)) (fp 1)) (fp 2)) 3))]) (rest := [(.int ((((1 : Int32) + (r8_v ((own_hs (own_hs (own_hs zJ (fp 0)) (fp 1)) (fp 2)) 0))) + (r8_v ((own_hs (own_hs (own_hs zJ (fp 0)) (fp 1)) (fp 2)) 1))) + (r8_v ((own_hs (own_hs (own_hs zJ (fp 0)) (fp 1)) (fp 2)) 2))))]) (lenOf pd_0 rfl) rfl (oz rfl) (q d7_76) (fun _ _ => ⟨rfl, e32, (by decide : 1 + 0 ≤ _), (by decide : 4 + 0 ≤ _)⟩)
 dsimp only [Pt.U, Pt.locs, Pt.cells, Pt.slots] at X34 l34 y34 z34 st34 hQ34
 subst y34 z34
 obtain ⟨rfl, N34q, e34⟩ := hQ34
 have N34 := oF l34 N32 N34q
 obtain ⟨fs, hr, hrun, hended, hW, hsame⟩ := X34.leave (v := some (.int (((((1 : Int32) + (r8_v ((own_hs (own_hs (own_hs zJ (fp 0)) (fp 1)) (fp 2)) 0))) + (r8_v ((own_hs (own_hs (own_hs zJ (fp 0)) (fp 1)) (fp 2)) 1))) + (r8_v ((own_hs (own_hs (own_hs zJ (fp 0)) (fp 1)) (fp 2)) 2))) + (r8_v ((own_hs (own_hs (own_hs zJ (fp 0)) (fp 1)) (fp 2)) 3))))) (oR Bd.returns) (hlocks := Bd.notSynchronized)
 refine ⟨_, _, pre0 _ ?_, hrun, hended, _, _, rfl, ?_, ⟨_, rfl⟩, hW, hsame.mono (by decide) (by decide)⟩
 ·show Steps p.tables e below (s₁.setTop (mkF m 0 #[vR rp, vU, vU, vU, vU, vU] [])) _
  refine XS.iconst X0.here hx rfl (q d7_0) ?_
  refine st1 _ ?_
  refine XS.astoreN X1.here hx rfl (q d7_3) rfl rfl (l' := #[vR rp, vR b1, vU, vU, vU, vU]) rfl ?_
  refine XS.aloadN X1.here hx rfl (q d7_4) rfl rfl ?_
  refine XS.astoreN X1.here hx rfl (q d7_5) rfl rfl (l' := #[vR rp, vR b1, vR rp, vU, vU, vU]) rfl ?_
  refine XS.aloadN X1.here hx rfl (q d7_6) rfl rfl ?_
  refine X1.arraylength hx (by rw [e1]; exact Arcl5.1) (State.isArrayOf_alike hZ.alike Arcl5.2.1) (g := (mkF m 7 #[vR rp, vR b1, vR rp, vU, vU, vU] [(.ref rp)])) rfl rfl (q d7_7) _ ?_
  rw [Szcl5]
  refine XS.istoreN X1.here hx rfl (q d7_8) rfl (l' := #[vR rp, vR b1, vR rp, vI 3, vU, vU]) rfl ?_
  refine XS.iconst X1.here hx rfl (q d7_9) ?_
  refine XS.istore X1.here hx rfl (q d7_10) rfl (l' := #[vR rp, vR b1, vR rp, vI 3, vI 0, vU]) rfl ?_
  refine XS.iload X1.here hx rfl (q d7_12) rfl ?_
  refine XS.iloadN X1.here hx rfl (q d7_14) rfl ?_
  refine XS.icmpNo X1.here hx rfl (q d7_15) rfl (tlt (by decide : ((0 : Int32) < (3 : Int32)))).2.1 ?_
  refine XS.aloadN X1.here hx rfl (q d7_18) rfl rfl ?_
  refine XS.iload X1.here hx rfl (q d7_19) rfl ?_
  refine X1.baloadBytes hx (j := (0 : Int32)) (v := (.int (fp 0))) (by rw [e1]; exact Arcl6.1) (State.isArrayOf_alike hZ.alike Arcl6.2.1) Arcl6.2.2 hincl6 hatcl6 (g := (mkF m 21 #[vR rp, vR b1, vR rp, vI 3, vI 0, vU] [(.int 0), (.ref rp)])) rfl rfl (q d7_21) _ ?_
  refine XS.istore X1.here hx rfl (q d7_22) rfl (l' := #[vR rp, vR b1, vR rp, vI 3, vI 0, vI (fp 0)]) rfl ?_
  refine XS.aloadN X1.here hx rfl (q d7_24) rfl rfl ?_
  refine XS.iload X1.here hx rfl (q d7_25) rfl ?_
  refine XS.sipush X1.here hx rfl (q d7_27) ?_
  refine XS.iand X1.here hx rfl (q d7_30) rfl ?_
  refine XS.bipush X1.here hx rfl (q d7_31) ?_
  refine XS.iushr X1.here hx rfl (q d7_33) rfl ?_
  refine Jvm.Free.XT.dup2 X1.here hx rfl (q d7_34) rfl rfl rfl ?_
  refine X1.laload hx (j := ((((fp 0) &&& (255 : Int32)).toUInt32 >>> ((6 : Int32) &&& 31).toUInt32).toInt32)) (v := (.long (0 : Int64))) (by rw [e1]; exact Arcl7.1) (State.isArrayOf_alike hZ.alike Arcl7.2.1) Arcl7.2.2 hincl7 hatcl7 (g := (mkF m 35 #[vR rp, vR b1, vR rp, vI 3, vI 0, vI (fp 0)] [(.int ((((fp 0) &&& (255 : Int32)).toUInt32 >>> ((6 : Int32) &&& 31).toUInt32).toInt32)), (.ref b1), (.int ((((fp 0) &&& (255 : Int32)).toUInt32 >>> ((6 : Int32) &&& 31).toUInt32).toInt32)), (.ref b1)])) rfl rfl (q d7_35) _ ?_
  refine XS.lconst X1.here hx rfl (q d7_36) ?_
  refine XS.iload X1.here hx rfl (q d7_37) rfl ?_
  refine XS.bipush X1.here hx rfl (q d7_39) ?_
  refine XS.iand X1.here hx rfl (q d7_41) rfl ?_
  refine XS.lshl X1.here hx rfl (q d7_42) rfl ?_
  refine XS.lor X1.here hx rfl (q d7_43) rfl ?_
  refine st9 _ ?_
  refine XS.iinc X9.here hx rfl (q d7_45) rfl (l' := #[vR rp, vR b1, vR rp, vI 3, vI 1, vI (fp 0)]) rfl ?_
  refine XS.goto X9.here hx rfl (pc0 := 48) (pc' := 12) rfl (q d7_48) (by decide) (by decide) ?_
  refine XS.iload X9.here hx rfl (q d7_12) rfl ?_
  refine XS.iloadN X9.here hx rfl (q d7_14) rfl ?_
  refine XS.icmpNo X9.here hx rfl (q d7_15) rfl (tlt (by decide : ((1 : Int32) < (3 : Int32)))).2.1 ?_
  refine XS.aloadN X9.here hx rfl (q d7_18) rfl rfl ?_
  refine XS.iload X9.here hx rfl (q d7_19) rfl ?_
  refine X9.baloadBytes hx (j := (1 : Int32)) (v := (.int (fp 1))) (by rw [e9]; exact Arcl13.1) (State.isArrayOf_alike hZ.alike Arcl13.2.1) Arcl13.2.2 hincl13 hatcl13 (g := (mkF m 21 #[vR rp, vR b1, vR rp, vI 3, vI 1, vI (fp 0)] [(.int 1), (.ref rp)])) rfl rfl (q d7_21) _ ?_
  refine XS.istore X9.here hx rfl (q d7_22) rfl (l' := #[vR rp, vR b1, vR rp, vI 3, vI 1, vI (fp 1)]) rfl ?_
  refine XS.aloadN X9.here hx rfl (q d7_24) rfl rfl ?_
  refine XS.iload X9.here hx rfl (q d7_25) rfl ?_
  refine XS.sipush X9.here hx rfl (q d7_27) ?_
  refine XS.iand X9.here hx rfl (q d7_30) rfl ?_
  refine XS.bipush X9.here hx rfl (q d7_31) ?_
  refine XS.iushr X9.here hx rfl (q d7_33) rfl ?_
  refine Jvm.Free.XT.dup2 X9.here hx rfl (q d7_34) rfl rfl rfl ?_
  refine X9.laload hx (j := ((((fp 1) &&& (255 : Int32)).toUInt32 >>> ((6 : Int32) &&& 31).toUInt32).toInt32)) (v := (.long ((own_hs zJ (fp 0)) (own_ix (fp 1))))) (by rw [e9]; exact Arcl14.1) (State.isArrayOf_alike hZ.alike Arcl14.2.1) Arcl14.2.2 hincl14 hatcl14 (g := (mkF m 35 #[vR rp, vR b1, vR rp, vI 3, vI 1, vI (fp 1)] [(.int ((((fp 1) &&& (255 : Int32)).toUInt32 >>> ((6 : Int32) &&& 31).toUInt32).toInt32)), (.ref b1), (.int ((((fp 1) &&& (255 : Int32)).toUInt32 >>> ((6 : Int32) &&& 31).toUInt32).toInt32)), (.ref b1)])) rfl rfl (q d7_35) _ ?_
  refine XS.lconst X9.here hx rfl (q d7_36) ?_
  refine XS.iload X9.here hx rfl (q d7_37) rfl ?_
  refine XS.bipush X9.here hx rfl (q d7_39) ?_
  refine XS.iand X9.here hx rfl (q d7_41) rfl ?_
  refine XS.lshl X9.here hx rfl (q d7_42) rfl ?_
  refine XS.lor X9.here hx rfl (q d7_43) rfl ?_
  refine st16 _ ?_
  refine XS.iinc X16.here hx rfl (q d7_45) rfl (l' := #[vR rp, vR b1, vR rp, vI 3, vI 2, vI (fp 1)]) rfl ?_
  refine XS.goto X16.here hx rfl (pc0 := 48) (pc' := 12) rfl (q d7_48) (by decide) (by decide) ?_
  refine XS.iload X16.here hx rfl (q d7_12) rfl ?_
  refine XS.iloadN X16.here hx rfl (q d7_14) rfl ?_
  refine XS.icmpNo X16.here hx rfl (q d7_15) rfl (tlt (by decide : ((2 : Int32) < (3 : Int32)))).2.1 ?_
  refine XS.aloadN X16.here hx rfl (q d7_18) rfl rfl ?_
  refine XS.iload X16.here hx rfl (q d7_19) rfl ?_
  refine X16.baloadBytes hx (j := (2 : Int32)) (v := (.int (fp 2))) (by rw [e16]; exact Arcl20.1) (State.isArrayOf_alike hZ.alike Arcl20.2.1) Arcl20.2.2 hincl20 hatcl20 (g := (mkF m 21 #[vR rp, vR b1, vR rp, vI 3, vI 2, vI (fp 1)] [(.int 2), (.ref rp)])) rfl rfl (q d7_21) _ ?_
  refine XS.istore X16.here hx rfl (q d7_22) rfl (l' := #[vR rp, vR b1, vR rp, vI 3, vI 2, vI (fp 2)]) rfl ?_
  refine XS.aloadN X16.here hx rfl (q d7_24) rfl rfl ?_
  refine XS.iload X16.here hx rfl (q d7_25) rfl ?_
  refine XS.sipush X16.here hx rfl (q d7_27) ?_
  refine XS.iand X16.here hx rfl (q d7_30) rfl ?_
  refine XS.bipush X16.here hx rfl (q d7_31) ?_
  refine XS.iushr X16.here hx rfl (q d7_33) rfl ?_
  refine Jvm.Free.XT.dup2 X16.here hx rfl (q d7_34) rfl rfl rfl ?_
  refine X16.laload hx (j := ((((fp 2) &&& (255 : Int32)).toUInt32 >>> ((6 : Int32) &&& 31).toUInt32).toInt32)) (v := (.long ((own_hs (own_hs zJ (fp 0)) (fp 1)) (own_ix (fp 2))))) (by rw [e16]; exact Arcl21.1) (State.isArrayOf_alike hZ.alike Arcl21.2.1) Arcl21.2.2 hincl21 hatcl21 (g := (mkF m 35 #[vR rp, vR b1, vR rp, vI 3, vI 2, vI (fp 2)] [(.int ((((fp 2) &&& (255 : Int32)).toUInt32 >>> ((6 : Int32) &&& 31).toUInt32).toInt32)), (.ref b1), (.int ((((fp 2) &&& (255 : Int32)).toUInt32 >>> ((6 : Int32) &&& 31).toUInt32).toInt32)), (.ref b1)])) rfl rfl (q d7_35) _ ?_
  refine XS.lconst X16.here hx rfl (q d7_36) ?_
  refine XS.iload X16.here hx rfl (q d7_37) rfl ?_
  refine XS.bipush X16.here hx rfl (q d7_39) ?_
  refine XS.iand X16.here hx rfl (q d7_41) rfl ?_
  refine XS.lshl X16.here hx rfl (q d7_42) rfl ?_
  refine XS.lor X16.here hx rfl (q d7_43) rfl ?_
  refine st23 _ ?_
  refine XS.iinc X23.here hx rfl (q d7_45) rfl (l' := #[vR rp, vR b1, vR rp, vI 3, vI 3, vI (fp 2)]) rfl ?_
  refine XS.goto X23.here hx rfl (pc0 := 48) (pc' := 12) rfl (q d7_48) (by decide) (by decide) ?_
  refine XS.iload X23.here hx rfl (q d7_12) rfl ?_
  refine XS.iloadN X23.here hx rfl (q d7_14) rfl ?_
  refine XS.icmpYes X23.here hx rfl (pc0 := 15) (pc' := 51) rfl (q d7_15) rfl (flt (by decide : ¬ ((3 : Int32) < (3 : Int32)))).2.1 (by decide) (by decide) ?_
  refine XS.iconst X23.here hx rfl (q d7_51) ?_
  refine XS.aloadN X23.here hx rfl (q d7_52) rfl rfl ?_
  refine XS.iconst X23.here hx rfl (q d7_53) ?_
  refine X23.laload hx (j := (0 : Int32)) (v := (.long ((own_hs (own_hs (own_hs zJ (fp 0)) (fp 1)) (fp 2)) 0))) (by rw [e23]; exact Arcl27.1) (State.isArrayOf_alike hZ.alike Arcl27.2.1) Arcl27.2.2 hincl27 hatcl27 (g := (mkF m 54 #[vR rp, vR b1, vR rp, vI 3, vI 3, vI (fp 2)] [(.int 0), (.ref b1), (.int 1)])) rfl rfl (q d7_54) _ ?_
  refine st28 _ ?_
  refine XS.iadd X28.here hx rfl (q d7_58) rfl ?_
  refine XS.aloadN X28.here hx rfl (q d7_59) rfl rfl ?_
  refine XS.iconst X28.here hx rfl (q d7_60) ?_
  refine X28.laload hx (j := (1 : Int32)) (v := (.long ((own_hs (own_hs (own_hs zJ (fp 0)) (fp 1)) (fp 2)) 1))) (by rw [e28]; exact Arcl29.1) (State.isArrayOf_alike hZ.alike Arcl29.2.1) Arcl29.2.2 hincl29 hatcl29 (g := (mkF m 61 #[vR rp, vR b1, vR rp, vI 3, vI 3, vI (fp 2)] [(.int 1), (.ref b1), (.int ((1 : Int32) + (r8_v ((own_hs (own_hs (own_hs zJ (fp 0)) (fp 1)) (fp 2)) 0))))])) rfl rfl (q d7_61) _ ?_
  refine st30 _ ?_
  refine XS.iadd X30.here hx rfl (q d7_65) rfl ?_
  refine XS.aloadN X30.here hx rfl (q d7_66) rfl rfl ?_
  refine XS.iconst X30.here hx rfl (q d7_67) ?_
  refine X30.laload hx (j := (2 : Int32)) (v := (.long ((own_hs (own_hs (own_hs zJ (fp 0)) (fp 1)) (fp 2)) 2))) (by rw [e30]; exact Arcl31.1) (State.isArrayOf_alike hZ.alike Arcl31.2.1) Arcl31.2.2 hincl31 hatcl31 (g := (mkF m 68 #[vR rp, vR b1, vR rp, vI 3, vI 3, vI (fp 2)] [(.int 2), (.ref b1), (.int (((1 : Int32) + (r8_v ((own_hs (own_hs (own_hs zJ (fp 0)) (fp 1)) (fp 2)) 0))) + (r8_v ((own_hs (own_hs (own_hs zJ (fp 0)) (fp 1)) (fp 2)) 1))))])) rfl rfl (q d7_68) _ ?_
  refine st32 _ ?_
  refine XS.iadd X32.here hx rfl (q d7_72) rfl ?_
  refine XS.aloadN X32.here hx rfl (q d7_73) rfl rfl ?_
  refine XS.iconst X32.here hx rfl (q d7_74) ?_
  refine X32.laload hx (j := (3 : Int32)) (v := (.long ((own_hs (own_hs (own_hs zJ (fp 0)) (fp 1)) (fp 2)) 3))) (by rw [e32]; exact Arcl33.1) (State.isArrayOf_alike hZ.alike Arcl33.2.1) Arcl33.2.2 hincl33 hatcl33 (g := (mkF m 75 #[vR rp, vR b1, vR rp, vI 3, vI 3, vI (fp 2)] [(.int 3), (.ref b1), (.int ((((1 : Int32) + (r8_v ((own_hs (own_hs (own_hs zJ (fp 0)) (fp 1)) (fp 2)) 0))) + (r8_v ((own_hs (own_hs (own_hs zJ (fp 0)) (fp 1)) (fp 2)) 1))) + (r8_v ((own_hs (own_hs (own_hs zJ (fp 0)) (fp 1)) (fp 2)) 2))))])) rfl rfl (q d7_75) _ ?_
  refine st34 _ ?_
  refine XS.iadd X34.here hx rfl (q d7_79) rfl ?_
  exact retI X34 hx Bd.returns (q d7_80) hr
 ·show Q7k3 Z rp fp h0 n0 _ T34.heap _
  rw [e34]
  have ev35 : (r7k3_v fp) = (((((1 : Int32) + (r8_v ((own_hs (own_hs (own_hs zJ (fp 0)) (fp 1)) (fp 2)) 0))) + (r8_v ((own_hs (own_hs (own_hs zJ (fp 0)) (fp 1)) (fp 2)) 1))) + (r8_v ((own_hs (own_hs (own_hs zJ (fp 0)) (fp 1)) (fp 2)) 2))) + (r8_v ((own_hs (own_hs (own_hs zJ (fp 0)) (fp 1)) (fp 2)) 3))) := rfl
  exact ⟨(congrArg (fun z => some (Value.int z)) ev35.symm), N34, K23⟩
def own_m1 (n : Nat) : Nat := (18446744073709551616 - ((n >>> 1) &&& 6148914691236517205) + n) % 18446744073709551616
def own_m2 (n : Nat) : Nat := ((n &&& 3689348814741910323) + ((n >>> 2) &&& 3689348814741910323)) % 18446744073709551616
def own_m3 (n : Nat) : Nat := ((n + (n >>> 4)) % 18446744073709551616) &&& 1085102592571150095
def own_m4 (n : Nat) : Nat := (n + (n >>> 8)) % 18446744073709551616
def own_m5 (n : Nat) : Nat := (n + (n >>> 16)) % 18446744073709551616
def own_m6 (n : Nat) : Nat := (n + (n >>> 32)) % 18446744073709551616
def own_nbc (n : Nat) : Nat := (own_m6 (own_m5 (own_m4 (own_m3 (own_m2 (own_m1 n))))) % 4294967296) &&& 127
theorem own_shn (x : Int64) (k : Int32) (n : Nat) (h : (k &&& 0x3f).toInt64.toUInt64.toNat = n) (hn : n < 64) : ((x.toUInt64 >>> (k &&& 0x3f).toInt64.toUInt64).toInt64).toUInt64.toNat = x.toUInt64.toNat >>> n := by
 show (x.toUInt64 >>> (k &&& 0x3f).toInt64.toUInt64).toNat = _
 rw [UInt64.toNat_shiftRight, h, Nat.mod_eq_of_lt hn]
theorem own_andn (x y : Int64) : (x &&& y).toUInt64.toNat = x.toUInt64.toNat &&& y.toUInt64.toNat := UInt64.toNat_and _ _
theorem own_orn (x y : Int64) : (x ||| y).toUInt64.toNat = x.toUInt64.toNat ||| y.toUInt64.toNat := UInt64.toNat_or _ _
theorem own_addn (x y : Int64) : (x + y).toUInt64.toNat = (x.toUInt64.toNat + y.toUInt64.toNat) % 18446744073709551616 := UInt64.toNat_add _ _
theorem own_subn (x y : Int64) : (x - y).toUInt64.toNat = (18446744073709551616 - y.toUInt64.toNat + x.toUInt64.toNat) % 18446744073709551616 := UInt64.toNat_sub _ _
theorem own_b1n (x : Int64) : (own_b1 x).toUInt64.toNat = own_m1 x.toUInt64.toNat := by
 unfold own_b1 own_m1
 rw [own_subn, own_andn, own_shn x 1 1 (by decide) (by decide)]; rfl
theorem own_b2n (x : Int64) : (own_b2 x).toUInt64.toNat = own_m2 (own_m1 x.toUInt64.toNat) := by
 rw [← own_b1n]; unfold own_b2 own_m2
 rw [own_addn, own_andn, own_andn, own_shn _ 2 2 (by decide) (by decide)]; rfl
theorem own_b3n (x : Int64) : (own_b3 x).toUInt64.toNat = own_m3 (own_m2 (own_m1 x.toUInt64.toNat)) := by
 rw [← own_b2n]; unfold own_b3 own_m3
 rw [own_andn, own_addn, own_shn _ 4 4 (by decide) (by decide)]; rfl
theorem own_b4n (x : Int64) : (own_b4 x).toUInt64.toNat = own_m4 (own_m3 (own_m2 (own_m1 x.toUInt64.toNat))) := by
 rw [← own_b3n]; unfold own_b4 own_m4
 rw [own_addn, own_shn _ 8 8 (by decide) (by decide)]
theorem own_b5n (x : Int64) : (own_b5 x).toUInt64.toNat = own_m5 (own_m4 (own_m3 (own_m2 (own_m1 x.toUInt64.toNat)))) := by
 rw [← own_b4n]; unfold own_b5 own_m5
 rw [own_addn, own_shn _ 16 16 (by decide) (by decide)]
theorem own_b6n (x : Int64) : (own_b6 x).toUInt64.toNat = own_m6 (own_m5 (own_m4 (own_m3 (own_m2 (own_m1 x.toUInt64.toNat))))) := by
 rw [← own_b5n]; unfold own_b6 own_m6
 rw [own_addn, own_shn _ 32 32 (by decide) (by decide)]
theorem own_r8n (x : Int64) : (r8_v x).toInt = (own_nbc x.toUInt64.toNat : Int) ∧ own_nbc x.toUInt64.toNat ≤ 127 := by
 unfold r8_v own_nbc
 rw [← own_b6n]
 generalize own_b6 x = y
 have h1 : (y.toInt32 &&& (127 : Int32)).toUInt32.toNat = (y.toUInt64.toNat % 4294967296) &&& 127 := by
  show (y.toInt32.toUInt32 &&& (127 : UInt32)).toNat = _
  rw [UInt32.toNat_and]
  congr 1
  show (y.toBitVec.signExtend 32).toNat = _
  rw [BitVec.signExtend_eq_setWidth_of_le _ (by decide), BitVec.toNat_setWidth]
  rfl
 have h2 : (y.toUInt64.toNat % 4294967296) &&& 127 ≤ 127 := Nat.and_le_right
 rw [← h1] at h2 ⊢
 refine ⟨?_, h2⟩
 generalize (y.toInt32 &&& (127 : Int32)) = z at *
 have h3 : z.toBitVec.toNat ≤ 127 := h2
 show z.toBitVec.toInt = (z.toBitVec.toNat : Int)
 rw [BitVec.toInt_eq_toNat_cond]
 split <;> omega
def own_ck (p : Nat → Bool) : Nat → Bool
 | 0 => true
 | k + 1 => p k && own_ck p k
theorem own_ckp {p : Nat → Bool} : ∀ {n : Nat}, own_ck p n = true → ∀ a, a < n → p a = true
 | 0, _, a, h => absurd h (Nat.not_lt_zero _)
 | n + 1, h, a, ha => by
  simp only [own_ck, Bool.and_eq_true] at h
  rcases Nat.lt_succ_iff_lt_or_eq.mp ha with q | q
  ·exact own_ckp h.2 a q
  ·subst q; exact h.1
theorem own_c1 : own_ck (fun a => Nat.ble (own_nbc (2 ^ a)) 1) 64 = true := by decide +kernel
theorem own_c2 : own_ck (fun a => own_ck (fun b => Nat.ble (own_nbc (2 ^ a ||| 2 ^ b)) 2) 64) 64 = true := by decide +kernel
theorem own_c3 : own_ck (fun a => own_ck (fun b => own_ck (fun c => Nat.ble (own_nbc (2 ^ a ||| 2 ^ b ||| 2 ^ c)) 3) (b + 1)) (a + 1)) 64 = true := by decide +kernel
theorem own_p1 (a : Nat) (ha : a < 64) : own_nbc (2 ^ a) ≤ 1 := Nat.le_of_ble_eq_true (own_ckp own_c1 a ha)
theorem own_p2 (a b : Nat) (ha : a < 64) (hb : b < 64) : own_nbc (2 ^ a ||| 2 ^ b) ≤ 2 := Nat.le_of_ble_eq_true (own_ckp (own_ckp own_c2 a ha) b hb)
theorem own_p3o (a b c : Nat) (ha : a < 64) (hb : b ≤ a) (hc : c ≤ b) : own_nbc (2 ^ a ||| 2 ^ b ||| 2 ^ c) ≤ 3 := Nat.le_of_ble_eq_true (own_ckp (own_ckp (own_ckp own_c3 a ha) b (by omega)) c (by omega))
theorem own_p3 (a b c : Nat) (ha : a < 64) (hb : b < 64) (hc : c < 64) : own_nbc (2 ^ a ||| 2 ^ b ||| 2 ^ c) ≤ 3 := by
 generalize ea : 2 ^ a = x
 generalize eb : 2 ^ b = y
 generalize ec : 2 ^ c = z
 rcases Nat.le_total a b with q1 | q1 <;> rcases Nat.le_total b c with q2 | q2 <;> rcases Nat.le_total a c with q3 | q3
 ·have := own_p3o c b a hc q2 q1; rw [ea, eb, ec] at this; rwa [show x ||| y ||| z = z ||| y ||| x by ac_rfl]
 ·have := own_p3o c b a hc q2 q1; rw [ea, eb, ec] at this; rwa [show x ||| y ||| z = z ||| y ||| x by ac_rfl]
 ·have := own_p3o b c a hb q2 q3; rw [ea, eb, ec] at this; rwa [show x ||| y ||| z = y ||| z ||| x by ac_rfl]
 ·have := own_p3o b a c hb q1 q3; rw [ea, eb, ec] at this; rwa [show x ||| y ||| z = y ||| x ||| z by ac_rfl]
 ·have := own_p3o c a b hc q3 q1; rw [ea, eb, ec] at this; rwa [show x ||| y ||| z = z ||| x ||| y by ac_rfl]
 ·have := own_p3o a c b ha q3 q2; rw [ea, eb, ec] at this; rwa [show x ||| y ||| z = x ||| z ||| y by ac_rfl]
 ·have := own_p3o a b c ha q1 q2; rw [ea, eb, ec] at this; exact this
 ·have := own_p3o a b c ha q1 q2; rw [ea, eb, ec] at this; exact this
theorem own_kx (bv : Int32) : ∃ k : Nat, k < 64 ∧ ((1 : Int64) <<< ((bv &&& (63 : Int32)) &&& 0x3f).toInt64).toUInt64.toNat = 2 ^ k := by
 generalize e : (bv &&& (63 : Int32)) &&& 0x3f = w
 have hw : w.toUInt32.toNat ≤ 63 := by
  rw [← e]
  show ((bv.toUInt32 &&& (63 : UInt32)) &&& (63 : UInt32)).toNat ≤ 63
  rw [UInt32.toNat_and]; exact Nat.and_le_right
 have hb : w.toBitVec.toNat ≤ 63 := hw
 have h2 : w.toInt64.toUInt64.toNat = w.toBitVec.toNat := by
  show (w.toBitVec.signExtend 64).toNat = _
  rw [BitVec.toNat_signExtend]
  have : w.toBitVec.msb = false := by rw [BitVec.msb_eq_decide]; simp; omega
  rw [this, BitVec.toNat_setWidth]; simp; omega
 refine ⟨w.toBitVec.toNat, by omega, ?_⟩
 have h5 : w.toInt64.toBitVec.toNat = w.toBitVec.toNat := h2
 have h6 : w.toInt64.toBitVec.msb = false := by rw [BitVec.msb_eq_decide, h5]; exact decide_eq_false (by omega)
 have h7 : (w.toInt64.toBitVec.smod 64).toNat = w.toBitVec.toNat := by
  rw [BitVec.smod_eq, h6]
  show (w.toInt64.toBitVec.umod 64).toNat = _
  rw [BitVec.umod_eq, BitVec.toNat_umod, h5]
  exact Nat.mod_eq_of_lt (show _ < 64 by omega)
 show ((1 : BitVec 64) <<< (w.toInt64.toBitVec.smod 64)).toNat = _
 rw [BitVec.shiftLeft_eq', BitVec.toNat_shiftLeft, h7]
 show (1 <<< w.toBitVec.toNat) % 2 ^ 64 = _
 rw [Nat.shiftLeft_eq, Nat.one_mul]
 exact Nat.mod_eq_of_lt (Nat.pow_lt_pow_right (by decide) (by omega))
theorem own_hsn (g : Nat → Int64) (bv : Int32) (j : Nat) : (own_hs g bv j).toUInt64.toNat = (g j).toUInt64.toNat ||| (if j = own_ix bv then ((1 : Int64) <<< ((bv &&& (63 : Int32)) &&& 0x3f).toInt64).toUInt64.toNat else 0) := by
 unfold own_hs up
 by_cases q : j = own_ix bv
 ·rw [if_pos q, if_pos q, own_orn, q]
 ·rw [if_neg q, if_neg q, Nat.or_zero]
theorem own_one (i : Nat) : (if 0 = i then 1 else 0) + (if 1 = i then 1 else 0) + (if 2 = i then 1 else 0) + (if 3 = i then 1 else 0) ≤ 1 := by
 repeat' split
 all_goals omega
theorem own_z0 (j : Nat) : (zJ j).toUInt64.toNat = 0 := rfl
theorem own_bj3 (x y z : Int32) (j : Nat) : own_nbc (own_hs (own_hs (own_hs zJ x) y) z j).toUInt64.toNat ≤ (if j = own_ix x then 1 else 0) + (if j = own_ix y then 1 else 0) + (if j = own_ix z then 1 else 0) := by
 rw [own_hsn, own_hsn, own_hsn, own_z0, Nat.zero_or]
 obtain ⟨a, ha, ea⟩ := own_kx x
 obtain ⟨b, hb, eb⟩ := own_kx y
 obtain ⟨c, hc, ec⟩ := own_kx z
 rw [ea, eb, ec]
 have hz : own_nbc 0 = 0 := by decide
 have p1 := own_p1 a ha
 have p2 := own_p1 b hb
 have p3 := own_p1 c hc
 have p4 := own_p2 a b ha hb
 have p5 := own_p2 a c ha hc
 have p6 := own_p2 b c hb hc
 have p7 := own_p3 a b c ha hb hc
 by_cases q1 : j = own_ix x <;> by_cases q2 : j = own_ix y <;> by_cases q3 : j = own_ix z <;> (first | simp only [if_pos q1] | simp only [if_neg q1]) <;> (first | simp only [if_pos q2] | simp only [if_neg q2]) <;> (first | simp only [if_pos q3] | simp only [if_neg q3]) <;> (try simp only [Nat.or_zero, Nat.zero_or]) <;> omega
theorem own_bj2 (x y : Int32) (j : Nat) : own_nbc (own_hs (own_hs zJ x) y j).toUInt64.toNat ≤ (if j = own_ix x then 1 else 0) + (if j = own_ix y then 1 else 0) := by
 rw [own_hsn, own_hsn, own_z0, Nat.zero_or]
 obtain ⟨a, ha, ea⟩ := own_kx x
 obtain ⟨b, hb, eb⟩ := own_kx y
 rw [ea, eb]
 have hz : own_nbc 0 = 0 := by decide
 have p1 := own_p1 a ha
 have p2 := own_p1 b hb
 have p4 := own_p2 a b ha hb
 by_cases q1 : j = own_ix x <;> by_cases q2 : j = own_ix y <;> (first | simp only [if_pos q1] | simp only [if_neg q1]) <;> (first | simp only [if_pos q2] | simp only [if_neg q2]) <;> (try simp only [Nat.or_zero, Nat.zero_or]) <;> omega
theorem own_cn3 (x y z : Int32) : own_nbc (own_hs (own_hs (own_hs zJ x) y) z 0).toUInt64.toNat + own_nbc (own_hs (own_hs (own_hs zJ x) y) z 1).toUInt64.toNat + own_nbc (own_hs (own_hs (own_hs zJ x) y) z 2).toUInt64.toNat + own_nbc (own_hs (own_hs (own_hs zJ x) y) z 3).toUInt64.toNat ≤ 3 := by
 have a0 := own_bj3 x y z 0
 have a1 := own_bj3 x y z 1
 have a2 := own_bj3 x y z 2
 have a3 := own_bj3 x y z 3
 have b0 := own_one (own_ix x)
 have b1 := own_one (own_ix y)
 have b2 := own_one (own_ix z)
 omega
theorem own_cn2 (x y : Int32) : own_nbc (own_hs (own_hs zJ x) y 0).toUInt64.toNat + own_nbc (own_hs (own_hs zJ x) y 1).toUInt64.toNat + own_nbc (own_hs (own_hs zJ x) y 2).toUInt64.toNat + own_nbc (own_hs (own_hs zJ x) y 3).toUInt64.toNat ≤ 3 := by
 have a0 := own_bj2 x y 0
 have a1 := own_bj2 x y 1
 have a2 := own_bj2 x y 2
 have a3 := own_bj2 x y 3
 have b0 := own_one (own_ix x)
 have b1 := own_one (own_ix y)
 omega
theorem own_sum4 {a b c d : Int32} {A B C D : Nat} (ha : a.toInt = (A : Int)) (hb : b.toInt = (B : Int)) (hc : c.toInt = (C : Int)) (hd : d.toInt = (D : Int)) (h : A + B + C + D ≤ 3) : ((((1 : Int32) + a) + b) + c) + d = (1 : Int32) ∨ ((((1 : Int32) + a) + b) + c) + d = (2 : Int32) ∨ ((((1 : Int32) + a) + b) + c) + d = (3 : Int32) ∨ ((((1 : Int32) + a) + b) + c) + d = (4 : Int32) := by
 have e1 : (1 : Int32).toInt = 1 := rfl
 have t1 : ((1 : Int32) + a).toInt = 1 + (A : Int) := own_iadd e1 ha (by omega) (by omega)
 have t2 : (((1 : Int32) + a) + b).toInt = 1 + (A : Int) + B := own_iadd t1 hb (by omega) (by omega)
 have t3 : ((((1 : Int32) + a) + b) + c).toInt = 1 + (A : Int) + B + C := own_iadd t2 hc (by omega) (by omega)
 have t4 : (((((1 : Int32) + a) + b) + c) + d).toInt = 1 + (A : Int) + B + C + D := own_iadd t3 hd (by omega) (by omega)
 simp only [← Int32.toInt_inj, t4]
 have e2 : (2 : Int32).toInt = 2 := rfl
 have e3 : (3 : Int32).toInt = 3 := rfl
 have e4 : (4 : Int32).toInt = 4 := rfl
 omega
theorem own_cc2 (fp : Nat → Int32) : r7k2_v fp = (1 : Int32) ∨ r7k2_v fp = (2 : Int32) ∨ r7k2_v fp = (3 : Int32) ∨ r7k2_v fp = (4 : Int32) := by
 unfold r7k2_v
 exact own_sum4 (own_r8n _).1 (own_r8n _).1 (own_r8n _).1 (own_r8n _).1 (own_cn2 _ _)
theorem own_cc3 (fp : Nat → Int32) : r7k3_v fp = (1 : Int32) ∨ r7k3_v fp = (2 : Int32) ∨ r7k3_v fp = (3 : Int32) ∨ r7k3_v fp = (4 : Int32) := by
 unfold r7k3_v
 exact own_sum4 (own_r8n _).1 (own_r8n _).1 (own_r8n _).1 (own_r8n _).1 (own_cn3 _ _ _)
theorem ef_9m1 (m : MethodId) (cc : Int32) : entryFrame m #[(.int 1), (.int cc)] 7 = mkF m 0 #[vI 1, vI cc, .unset, .unset, .unset, .unset, .unset] [] := by first | (simp [entryFrame, mkF, argsToLocals, Value.category]; done) | rfl
abbrev D_2 (k : Nat) := decode prog_23_method_4_code k
theorem d9_0 : D_2 0 = .ok (.iload_n 0, 1) := by decide +kernel
theorem d9_1 : D_2 1 = .ok (.i2l, 1) := by decide +kernel
theorem d9_2 : D_2 2 = .ok (.lconst 1, 1) := by decide +kernel
theorem d9_3 : D_2 3 = .ok (.ladd, 1) := by decide +kernel
theorem d9_4 : D_2 4 = .ok (.iload_n 1, 1) := by decide +kernel
theorem d9_5 : D_2 5 = .ok (.i2l, 1) := by decide +kernel
theorem d9_6 : D_2 6 = .ok (.lmul, 1) := by decide +kernel
theorem d9_7 : D_2 7 = .ok (.lstore_n 2, 1) := by decide +kernel
theorem d9_8 : D_2 8 = .ok (.iload_n 0, 1) := by decide +kernel
theorem d9_9 : D_2 9 = .ok (.iconst 1, 1) := by decide +kernel
theorem d9_10 : D_2 10 = .ok (.if_icmp .eq 11, 3) := by decide +kernel
theorem d9_21 : D_2 21 = .ok (.iconst 0, 1) := by decide +kernel
theorem d9_22 : D_2 22 = .ok (.ireturn, 1) := by decide +kernel
def Q9m1 (Z : State) (cc : Int32) (h0 : Heap) (n0 : Nat) (v : Option Value) (h : Heap) (L : List Loc) : Prop := v = some (.int 0) ∧ Fr n0 L ∧ h = h0
set_option maxRecDepth 65536 in
set_option maxHeartbeats 40000000 in
theorem rm9m1 (l : Launch) (Z : State) (a0 : Array Value) (hw : ∀ d ∈ tables_1, d.before a0 Z = true) (ws : List Jvm.Cond) (cc : Int32) (h0 : Heap) (n0 : Nat) (Z0 : n0 ≤ h0.size) :
  MetFree l mN2 (head1 (Jvm.Cond.code mN2 prog_23_method_4_code 7 (some .int) :: ws) ({ frames := 0, cells := 0, slots := 0, locals := 0 } : Room)) (fun a U => a = #[(.int 1), (.int cc)] ∧ Z.Warmed39 U.vm ∧ U.heap = h0) (fun _ _ _ _ _ => True) (fun _ U o U' => ∃ v L, o = .returned v ∧ Q9m1 Z cc h0 n0 v U'.heap L ∧ FrameEnd U o U' L ({ frames := 0, cells := 0, slots := 0, locals := 0 } : Room).cells ({ frames := 0, cells := 0, slots := 0, locals := 0 } : Room).slots) := by
 refine MetFree.of_bodySF (plainFor_of_name pn_skipstitch_search_Automaton) hisR ?_
 intro p e s m args below meth c s₁ Bd hml0 hP hK
 obtain ⟨rfl, hZ, hh⟩ := hP
 have hx := Bd.exec
 have hby := Bd.bytes
 have q {i : Nat} {r : _} (h : decode _ i = r) := hb hby h
 have hml : c.maxLocals = 7 := hml0
 have hown : s.vm.findClass cS0 = some m.cls := findClass_of_methodNamed Bd.named
 have hnm := (name_of_methodNamed Bd.named Bd.method).1
 have X0 : Stand p l e ({ frames := 0, cells := 0, slots := 0, locals := 0 } : Room) s m #[(.int 1), (.int cc)] below meth c s₁ [] 0 0 := Stand.of_body Bd
 have e0 : s₁.heap = h0 := by rw [← hh, Bd.state]; rfl
 have N0 := Fr.nil n0
 have pre0 : oP p e below (s₁.setTop (mkF m 0 #[vI 1, vI cc, vU, vU, vU, vU, vU] [])) (s₁.setTop (entryFrame m #[(.int 1), (.int cc)] 7)) := fun t k => castTop (ef_9m1 m cc) k
 obtain ⟨fs, hr, hrun, hended, hW, hsame⟩ := X0.leave (v := some (.int 0)) (oR Bd.returns) (hlocks := Bd.notSynchronized)
 refine ⟨_, _, pre0 _ ?_, hrun, hended, _, _, rfl, ?_, ⟨_, rfl⟩, hW, hsame.mono (by decide) (by decide)⟩
 ·show Steps p.tables e below (s₁.setTop (mkF m 0 #[vI 1, vI cc, vU, vU, vU, vU, vU] [])) _
  refine XS.iloadN X0.here hx rfl (q d9_0) rfl ?_
  refine XS.i2l X0.here hx rfl (q d9_1) rfl ?_
  refine XS.lconst X0.here hx rfl (q d9_2) ?_
  refine XS.ladd X0.here hx rfl (q d9_3) rfl ?_
  refine XS.iloadN X0.here hx rfl (q d9_4) rfl ?_
  refine XS.i2l X0.here hx rfl (q d9_5) rfl ?_
  refine XS.lmul X0.here hx rfl (q d9_6) rfl ?_
  refine XS.lstoreN X0.here hx rfl (q d9_7) rfl (l' := #[vI 1, vI cc, vJ ((2 : Int64) * (cc.toInt64)), .second, vU, vU, vU]) rfl ?_
  refine XS.iloadN X0.here hx rfl (q d9_8) rfl ?_
  refine XS.iconst X0.here hx rfl (q d9_9) ?_
  refine XS.icmpYes X0.here hx rfl (pc0 := 10) (pc' := 21) rfl (q d9_10) rfl (teq (by decide : ((1 : Int32) = (1 : Int32)))).1 (by decide) (by decide) ?_
  refine XS.iconst X0.here hx rfl (q d9_21) ?_
  exact retI X0 hx Bd.returns (q d9_22) hr
 ·show Q9m1 Z cc h0 n0 _ s₁.heap _
  rw [e0]
  exact ⟨rfl, N0, rfl⟩
theorem ef_9m2c1 (m : MethodId) : entryFrame m #[(.int 2), (.int 1)] 7 = mkF m 0 #[vI 2, vI 1, .unset, .unset, .unset, .unset, .unset] [] := by first | (simp [entryFrame, mkF, argsToLocals, Value.category]; done) | rfl
theorem d9_13 : D_2 13 = .ok (.lload_n 2, 1) := by decide +kernel
theorem d9_14 : D_2 14 = .ok (.ldc2_w 67, 3) := by decide +kernel
theorem d9_17 : D_2 17 = .ok (.lcmp, 1) := by decide +kernel
theorem d9_18 : D_2 18 = .ok (.ifCond .le 5, 3) := by decide +kernel
theorem d9_23 : D_2 23 = .ok (.iconst 1, 1) := by decide +kernel
theorem d9_24 : D_2 24 = .ok (.istore 4, 2) := by decide +kernel
theorem d9_26 : D_2 26 = .ok (.iload_n 1, 1) := by decide +kernel
theorem d9_27 : D_2 27 = .ok (.i2l, 1) := by decide +kernel
theorem d9_28 : D_2 28 = .ok (.lstore 5, 2) := by decide +kernel
theorem d9_30 : D_2 30 = .ok (.iload 4, 2) := by decide +kernel
theorem d9_32 : D_2 32 = .ok (.iconst 4, 1) := by decide +kernel
theorem d9_33 : D_2 33 = .ok (.if_icmp .ge 35, 3) := by decide +kernel
theorem d9_36 : D_2 36 = .ok (.lload_n 2, 1) := by decide +kernel
theorem d9_37 : D_2 37 = .ok (.lload 5, 2) := by decide +kernel
theorem d9_39 : D_2 39 = .ok (.lmul, 1) := by decide +kernel
theorem d9_40 : D_2 40 = .ok (.ldc2_w 67, 3) := by decide +kernel
theorem d9_43 : D_2 43 = .ok (.lcmp, 1) := by decide +kernel
theorem d9_44 : D_2 44 = .ok (.ifCond .gt 24, 3) := by decide +kernel
theorem d9_47 : D_2 47 = .ok (.lload_n 2, 1) := by decide +kernel
theorem d9_48 : D_2 48 = .ok (.lload 5, 2) := by decide +kernel
theorem d9_50 : D_2 50 = .ok (.lmul, 1) := by decide +kernel
theorem d9_51 : D_2 51 = .ok (.lstore_n 2, 1) := by decide +kernel
theorem d9_52 : D_2 52 = .ok (.lload 5, 2) := by decide +kernel
theorem d9_54 : D_2 54 = .ok (.lload 5, 2) := by decide +kernel
theorem d9_56 : D_2 56 = .ok (.lmul, 1) := by decide +kernel
theorem d9_57 : D_2 57 = .ok (.lstore 5, 2) := by decide +kernel
theorem d9_59 : D_2 59 = .ok (.iload 4, 2) := by decide +kernel
theorem d9_61 : D_2 61 = .ok (.iconst 2, 1) := by decide +kernel
theorem d9_62 : D_2 62 = .ok (.imul, 1) := by decide +kernel
theorem d9_63 : D_2 63 = .ok (.istore 4, 2) := by decide +kernel
theorem d9_65 : D_2 65 = .ok (.goto (-35), 3) := by decide +kernel
theorem d9_68 : D_2 68 = .ok (.iload 4, 2) := by decide +kernel
theorem d9_70 : D_2 70 = .ok (.ireturn, 1) := by decide +kernel
def Q9m2c1 (Z : State)  (h0 : Heap) (n0 : Nat) (v : Option Value) (h : Heap) (L : List Loc) : Prop := v = some (.int 4) ∧ Fr n0 L ∧ h = h0
set_option maxRecDepth 65536 in
set_option maxHeartbeats 40000000 in
theorem rm9m2c1 (l : Launch) (Z : State) (a0 : Array Value) (hw : ∀ d ∈ tables_1, d.before a0 Z = true) (ws : List Jvm.Cond)  (h0 : Heap) (n0 : Nat) (Z0 : n0 ≤ h0.size) :
  MetFree l mN2 (head1 (Jvm.Cond.code mN2 prog_23_method_4_code 7 (some .int) :: ws) ({ frames := 0, cells := 0, slots := 0, locals := 0 } : Room)) (fun a U => a = #[(.int 2), (.int 1)] ∧ Z.Warmed39 U.vm ∧ U.heap = h0) (fun _ _ _ _ _ => True) (fun _ U o U' => ∃ v L, o = .returned v ∧ Q9m2c1 Z  h0 n0 v U'.heap L ∧ FrameEnd U o U' L ({ frames := 0, cells := 0, slots := 0, locals := 0 } : Room).cells ({ frames := 0, cells := 0, slots := 0, locals := 0 } : Room).slots) := by
 refine MetFree.of_bodySF (plainFor_of_name pn_skipstitch_search_Automaton) hisR ?_
 intro p e s m args below meth c s₁ Bd hml0 hP hK
 obtain ⟨rfl, hZ, hh⟩ := hP
 have hx := Bd.exec
 have hby := Bd.bytes
 have q {i : Nat} {r : _} (h : decode _ i = r) := hb hby h
 have hml : c.maxLocals = 7 := hml0
 have hown : s.vm.findClass cS0 = some m.cls := findClass_of_methodNamed Bd.named
 have hnm := (name_of_methodNamed Bd.named Bd.method).1
 have X0 : Stand p l e ({ frames := 0, cells := 0, slots := 0, locals := 0 } : Room) s m #[(.int 2), (.int 1)] below meth c s₁ [] 0 0 := Stand.of_body Bd
 have e0 : s₁.heap = h0 := by rw [← hh, Bd.state]; rfl
 have N0 := Fr.nil n0
 have pre0 : oP p e below (s₁.setTop (mkF m 0 #[vI 2, vI 1, vU, vU, vU, vU, vU] [])) (s₁.setTop (entryFrame m #[(.int 2), (.int 1)] 7)) := fun t k => castTop (ef_9m2c1 m) k
 obtain ⟨fs, hr, hrun, hended, hW, hsame⟩ := X0.leave (v := some (.int 4)) (oR Bd.returns) (hlocks := Bd.notSynchronized)
 refine ⟨_, _, pre0 _ ?_, hrun, hended, _, _, rfl, ?_, ⟨_, rfl⟩, hW, hsame.mono (by decide) (by decide)⟩
 ·show Steps p.tables e below (s₁.setTop (mkF m 0 #[vI 2, vI 1, vU, vU, vU, vU, vU] [])) _
  refine XS.iloadN X0.here hx rfl (q d9_0) rfl ?_
  refine XS.i2l X0.here hx rfl (q d9_1) rfl ?_
  refine XS.lconst X0.here hx rfl (q d9_2) ?_
  refine XS.ladd X0.here hx rfl (q d9_3) rfl ?_
  refine XS.iloadN X0.here hx rfl (q d9_4) rfl ?_
  refine XS.i2l X0.here hx rfl (q d9_5) rfl ?_
  refine XS.lmul X0.here hx rfl (q d9_6) rfl ?_
  refine XS.lstoreN X0.here hx rfl (q d9_7) rfl (l' := #[vI 2, vI 1, vJ (3 : Int64), .second, vU, vU, vU]) rfl ?_
  refine XS.iloadN X0.here hx rfl (q d9_8) rfl ?_
  refine XS.iconst X0.here hx rfl (q d9_9) ?_
  refine XS.icmpNo X0.here hx rfl (q d9_10) rfl (feq (by decide : ¬ ((2 : Int32) = (1 : Int32)))).1 ?_
  refine XS.lloadN X0.here hx rfl (q d9_13) rfl ?_
  refine X0.ldc2Long hx hown (om hZ hw 67 rfl) (g := (mkF m 14 #[vI 2, vI 1, vJ (3 : Int64), .second, vU, vU, vU] [(.long (3 : Int64))])) rfl (q d9_14) _ ?_
  refine XS.lcmp X0.here hx rfl (q d9_17) rfl ?_
  refine XS.ifYes X0.here hx rfl (pc0 := 18) (pc' := 23) rfl (q d9_18) rfl (own_fltL (by decide : ¬ ((131072 : Int64) < (3 : Int64)))).2.2.2 (by decide) (by decide) ?_
  refine XS.iconst X0.here hx rfl (q d9_23) ?_
  refine XS.istore X0.here hx rfl (q d9_24) rfl (l' := #[vI 2, vI 1, vJ (3 : Int64), .second, vI 1, vU, vU]) rfl ?_
  refine XS.iloadN X0.here hx rfl (q d9_26) rfl ?_
  refine XS.i2l X0.here hx rfl (q d9_27) rfl ?_
  refine XS.lstore X0.here hx rfl (q d9_28) rfl (l' := #[vI 2, vI 1, vJ (3 : Int64), .second, vI 1, vJ (1 : Int64), .second]) rfl ?_
  refine XS.iload X0.here hx rfl (q d9_30) rfl ?_
  refine XS.iconst X0.here hx rfl (q d9_32) ?_
  refine XS.icmpNo X0.here hx rfl (q d9_33) rfl (tlt (by decide : ((1 : Int32) < (4 : Int32)))).2.1 ?_
  refine XS.lloadN X0.here hx rfl (q d9_36) rfl ?_
  refine XS.lload X0.here hx rfl (q d9_37) rfl ?_
  refine XS.lmul X0.here hx rfl (q d9_39) rfl ?_
  refine X0.ldc2Long hx hown (om hZ hw 67 rfl) (g := (mkF m 40 #[vI 2, vI 1, vJ (3 : Int64), .second, vI 1, vJ (1 : Int64), .second] [(.long (3 : Int64))])) rfl (q d9_40) _ ?_
  refine XS.lcmp X0.here hx rfl (q d9_43) rfl ?_
  refine XS.ifNo X0.here hx rfl (q d9_44) rfl (own_fltL (by decide : ¬ ((131072 : Int64) < (3 : Int64)))).2.2.1 ?_
  refine XS.lloadN X0.here hx rfl (q d9_47) rfl ?_
  refine XS.lload X0.here hx rfl (q d9_48) rfl ?_
  refine XS.lmul X0.here hx rfl (q d9_50) rfl ?_
  refine XS.lstoreN X0.here hx rfl (q d9_51) rfl (l' := #[vI 2, vI 1, vJ (3 : Int64), .second, vI 1, vJ (1 : Int64), .second]) rfl ?_
  refine XS.lload X0.here hx rfl (q d9_52) rfl ?_
  refine XS.lload X0.here hx rfl (q d9_54) rfl ?_
  refine XS.lmul X0.here hx rfl (q d9_56) rfl ?_
  refine XS.lstore X0.here hx rfl (q d9_57) rfl (l' := #[vI 2, vI 1, vJ (3 : Int64), .second, vI 1, vJ (1 : Int64), .second]) rfl ?_
  refine XS.iload X0.here hx rfl (q d9_59) rfl ?_
  refine XS.iconst X0.here hx rfl (q d9_61) ?_
  refine XS.imul X0.here hx rfl (q d9_62) rfl ?_
  refine XS.istore X0.here hx rfl (q d9_63) rfl (l' := #[vI 2, vI 1, vJ (3 : Int64), .second, vI 2, vJ (1 : Int64), .second]) rfl ?_
  refine XS.goto X0.here hx rfl (pc0 := 65) (pc' := 30) rfl (q d9_65) (by decide) (by decide) ?_
  refine XS.iload X0.here hx rfl (q d9_30) rfl ?_
  refine XS.iconst X0.here hx rfl (q d9_32) ?_
  refine XS.icmpNo X0.here hx rfl (q d9_33) rfl (tlt (by decide : ((2 : Int32) < (4 : Int32)))).2.1 ?_
  refine XS.lloadN X0.here hx rfl (q d9_36) rfl ?_
  refine XS.lload X0.here hx rfl (q d9_37) rfl ?_
  refine XS.lmul X0.here hx rfl (q d9_39) rfl ?_
  refine X0.ldc2Long hx hown (om hZ hw 67 rfl) (g := (mkF m 40 #[vI 2, vI 1, vJ (3 : Int64), .second, vI 2, vJ (1 : Int64), .second] [(.long (3 : Int64))])) rfl (q d9_40) _ ?_
  refine XS.lcmp X0.here hx rfl (q d9_43) rfl ?_
  refine XS.ifNo X0.here hx rfl (q d9_44) rfl (own_fltL (by decide : ¬ ((131072 : Int64) < (3 : Int64)))).2.2.1 ?_
  refine XS.lloadN X0.here hx rfl (q d9_47) rfl ?_
  refine XS.lload X0.here hx rfl (q d9_48) rfl ?_
  refine XS.lmul X0.here hx rfl (q d9_50) rfl ?_
  refine XS.lstoreN X0.here hx rfl (q d9_51) rfl (l' := #[vI 2, vI 1, vJ (3 : Int64), .second, vI 2, vJ (1 : Int64), .second]) rfl ?_
  refine XS.lload X0.here hx rfl (q d9_52) rfl ?_
  refine XS.lload X0.here hx rfl (q d9_54) rfl ?_
  refine XS.lmul X0.here hx rfl (q d9_56) rfl ?_
  refine XS.lstore X0.here hx rfl (q d9_57) rfl (l' := #[vI 2, vI 1, vJ (3 : Int64), .second, vI 2, vJ (1 : Int64), .second]) rfl ?_
  refine XS.iload X0.here hx rfl (q d9_59) rfl ?_
  refine XS.iconst X0.here hx rfl (q d9_61) ?_
  refine XS.imul X0.here hx rfl (q d9_62) rfl ?_
  refine XS.istore X0.here hx rfl (q d9_63) rfl (l' := #[vI 2, vI 1, vJ (3 : Int64), .second, vI 4, vJ (1 : Int64), .second]) rfl ?_
  refine XS.goto X0.here hx rfl (pc0 := 65) (pc' := 30) rfl (q d9_65) (by decide) (by decide) ?_
  refine XS.iload X0.here hx rfl (q d9_30) rfl ?_
  refine XS.iconst X0.here hx rfl (q d9_32) ?_
  refine XS.icmpYes X0.here hx rfl (pc0 := 33) (pc' := 68) rfl (q d9_33) rfl (flt (by decide : ¬ ((4 : Int32) < (4 : Int32)))).2.1 (by decide) (by decide) ?_
  refine XS.iload X0.here hx rfl (q d9_68) rfl ?_
  exact retI X0 hx Bd.returns (q d9_70) hr
 ·show Q9m2c1 Z  h0 n0 _ s₁.heap _
  rw [e0]
  exact ⟨rfl, N0, rfl⟩
theorem ef_9m2c2 (m : MethodId) : entryFrame m #[(.int 2), (.int 2)] 7 = mkF m 0 #[vI 2, vI 2, .unset, .unset, .unset, .unset, .unset] [] := by first | (simp [entryFrame, mkF, argsToLocals, Value.category]; done) | rfl
def Q9m2c2 (Z : State)  (h0 : Heap) (n0 : Nat) (v : Option Value) (h : Heap) (L : List Loc) : Prop := v = some (.int 4) ∧ Fr n0 L ∧ h = h0
set_option maxRecDepth 65536 in
set_option maxHeartbeats 40000000 in
theorem rm9m2c2 (l : Launch) (Z : State) (a0 : Array Value) (hw : ∀ d ∈ tables_1, d.before a0 Z = true) (ws : List Jvm.Cond)  (h0 : Heap) (n0 : Nat) (Z0 : n0 ≤ h0.size) :
  MetFree l mN2 (head1 (Jvm.Cond.code mN2 prog_23_method_4_code 7 (some .int) :: ws) ({ frames := 0, cells := 0, slots := 0, locals := 0 } : Room)) (fun a U => a = #[(.int 2), (.int 2)] ∧ Z.Warmed39 U.vm ∧ U.heap = h0) (fun _ _ _ _ _ => True) (fun _ U o U' => ∃ v L, o = .returned v ∧ Q9m2c2 Z  h0 n0 v U'.heap L ∧ FrameEnd U o U' L ({ frames := 0, cells := 0, slots := 0, locals := 0 } : Room).cells ({ frames := 0, cells := 0, slots := 0, locals := 0 } : Room).slots) := by
 refine MetFree.of_bodySF (plainFor_of_name pn_skipstitch_search_Automaton) hisR ?_
 intro p e s m args below meth c s₁ Bd hml0 hP hK
 obtain ⟨rfl, hZ, hh⟩ := hP
 have hx := Bd.exec
 have hby := Bd.bytes
 have q {i : Nat} {r : _} (h : decode _ i = r) := hb hby h
 have hml : c.maxLocals = 7 := hml0
 have hown : s.vm.findClass cS0 = some m.cls := findClass_of_methodNamed Bd.named
 have hnm := (name_of_methodNamed Bd.named Bd.method).1
 have X0 : Stand p l e ({ frames := 0, cells := 0, slots := 0, locals := 0 } : Room) s m #[(.int 2), (.int 2)] below meth c s₁ [] 0 0 := Stand.of_body Bd
 have e0 : s₁.heap = h0 := by rw [← hh, Bd.state]; rfl
 have N0 := Fr.nil n0
 have pre0 : oP p e below (s₁.setTop (mkF m 0 #[vI 2, vI 2, vU, vU, vU, vU, vU] [])) (s₁.setTop (entryFrame m #[(.int 2), (.int 2)] 7)) := fun t k => castTop (ef_9m2c2 m) k
 obtain ⟨fs, hr, hrun, hended, hW, hsame⟩ := X0.leave (v := some (.int 4)) (oR Bd.returns) (hlocks := Bd.notSynchronized)
 refine ⟨_, _, pre0 _ ?_, hrun, hended, _, _, rfl, ?_, ⟨_, rfl⟩, hW, hsame.mono (by decide) (by decide)⟩
 ·show Steps p.tables e below (s₁.setTop (mkF m 0 #[vI 2, vI 2, vU, vU, vU, vU, vU] [])) _
  refine XS.iloadN X0.here hx rfl (q d9_0) rfl ?_
  refine XS.i2l X0.here hx rfl (q d9_1) rfl ?_
  refine XS.lconst X0.here hx rfl (q d9_2) ?_
  refine XS.ladd X0.here hx rfl (q d9_3) rfl ?_
  refine XS.iloadN X0.here hx rfl (q d9_4) rfl ?_
  refine XS.i2l X0.here hx rfl (q d9_5) rfl ?_
  refine XS.lmul X0.here hx rfl (q d9_6) rfl ?_
  refine XS.lstoreN X0.here hx rfl (q d9_7) rfl (l' := #[vI 2, vI 2, vJ (6 : Int64), .second, vU, vU, vU]) rfl ?_
  refine XS.iloadN X0.here hx rfl (q d9_8) rfl ?_
  refine XS.iconst X0.here hx rfl (q d9_9) ?_
  refine XS.icmpNo X0.here hx rfl (q d9_10) rfl (feq (by decide : ¬ ((2 : Int32) = (1 : Int32)))).1 ?_
  refine XS.lloadN X0.here hx rfl (q d9_13) rfl ?_
  refine X0.ldc2Long hx hown (om hZ hw 67 rfl) (g := (mkF m 14 #[vI 2, vI 2, vJ (6 : Int64), .second, vU, vU, vU] [(.long (6 : Int64))])) rfl (q d9_14) _ ?_
  refine XS.lcmp X0.here hx rfl (q d9_17) rfl ?_
  refine XS.ifYes X0.here hx rfl (pc0 := 18) (pc' := 23) rfl (q d9_18) rfl (own_fltL (by decide : ¬ ((131072 : Int64) < (6 : Int64)))).2.2.2 (by decide) (by decide) ?_
  refine XS.iconst X0.here hx rfl (q d9_23) ?_
  refine XS.istore X0.here hx rfl (q d9_24) rfl (l' := #[vI 2, vI 2, vJ (6 : Int64), .second, vI 1, vU, vU]) rfl ?_
  refine XS.iloadN X0.here hx rfl (q d9_26) rfl ?_
  refine XS.i2l X0.here hx rfl (q d9_27) rfl ?_
  refine XS.lstore X0.here hx rfl (q d9_28) rfl (l' := #[vI 2, vI 2, vJ (6 : Int64), .second, vI 1, vJ (2 : Int64), .second]) rfl ?_
  refine XS.iload X0.here hx rfl (q d9_30) rfl ?_
  refine XS.iconst X0.here hx rfl (q d9_32) ?_
  refine XS.icmpNo X0.here hx rfl (q d9_33) rfl (tlt (by decide : ((1 : Int32) < (4 : Int32)))).2.1 ?_
  refine XS.lloadN X0.here hx rfl (q d9_36) rfl ?_
  refine XS.lload X0.here hx rfl (q d9_37) rfl ?_
  refine XS.lmul X0.here hx rfl (q d9_39) rfl ?_
  refine X0.ldc2Long hx hown (om hZ hw 67 rfl) (g := (mkF m 40 #[vI 2, vI 2, vJ (6 : Int64), .second, vI 1, vJ (2 : Int64), .second] [(.long (12 : Int64))])) rfl (q d9_40) _ ?_
  refine XS.lcmp X0.here hx rfl (q d9_43) rfl ?_
  refine XS.ifNo X0.here hx rfl (q d9_44) rfl (own_fltL (by decide : ¬ ((131072 : Int64) < (12 : Int64)))).2.2.1 ?_
  refine XS.lloadN X0.here hx rfl (q d9_47) rfl ?_
  refine XS.lload X0.here hx rfl (q d9_48) rfl ?_
  refine XS.lmul X0.here hx rfl (q d9_50) rfl ?_
  refine XS.lstoreN X0.here hx rfl (q d9_51) rfl (l' := #[vI 2, vI 2, vJ (12 : Int64), .second, vI 1, vJ (2 : Int64), .second]) rfl ?_
  refine XS.lload X0.here hx rfl (q d9_52) rfl ?_
  refine XS.lload X0.here hx rfl (q d9_54) rfl ?_
  refine XS.lmul X0.here hx rfl (q d9_56) rfl ?_
  refine XS.lstore X0.here hx rfl (q d9_57) rfl (l' := #[vI 2, vI 2, vJ (12 : Int64), .second, vI 1, vJ (4 : Int64), .second]) rfl ?_
  refine XS.iload X0.here hx rfl (q d9_59) rfl ?_
  refine XS.iconst X0.here hx rfl (q d9_61) ?_
  refine XS.imul X0.here hx rfl (q d9_62) rfl ?_
  refine XS.istore X0.here hx rfl (q d9_63) rfl (l' := #[vI 2, vI 2, vJ (12 : Int64), .second, vI 2, vJ (4 : Int64), .second]) rfl ?_
  refine XS.goto X0.here hx rfl (pc0 := 65) (pc' := 30) rfl (q d9_65) (by decide) (by decide) ?_
  refine XS.iload X0.here hx rfl (q d9_30) rfl ?_
  refine XS.iconst X0.here hx rfl (q d9_32) ?_
  refine XS.icmpNo X0.here hx rfl (q d9_33) rfl (tlt (by decide : ((2 : Int32) < (4 : Int32)))).2.1 ?_
  refine XS.lloadN X0.here hx rfl (q d9_36) rfl ?_
  refine XS.lload X0.here hx rfl (q d9_37) rfl ?_
  refine XS.lmul X0.here hx rfl (q d9_39) rfl ?_
  refine X0.ldc2Long hx hown (om hZ hw 67 rfl) (g := (mkF m 40 #[vI 2, vI 2, vJ (12 : Int64), .second, vI 2, vJ (4 : Int64), .second] [(.long (48 : Int64))])) rfl (q d9_40) _ ?_
  refine XS.lcmp X0.here hx rfl (q d9_43) rfl ?_
  refine XS.ifNo X0.here hx rfl (q d9_44) rfl (own_fltL (by decide : ¬ ((131072 : Int64) < (48 : Int64)))).2.2.1 ?_
  refine XS.lloadN X0.here hx rfl (q d9_47) rfl ?_
  refine XS.lload X0.here hx rfl (q d9_48) rfl ?_
  refine XS.lmul X0.here hx rfl (q d9_50) rfl ?_
  refine XS.lstoreN X0.here hx rfl (q d9_51) rfl (l' := #[vI 2, vI 2, vJ (48 : Int64), .second, vI 2, vJ (4 : Int64), .second]) rfl ?_
  refine XS.lload X0.here hx rfl (q d9_52) rfl ?_
  refine XS.lload X0.here hx rfl (q d9_54) rfl ?_
  refine XS.lmul X0.here hx rfl (q d9_56) rfl ?_
  refine XS.lstore X0.here hx rfl (q d9_57) rfl (l' := #[vI 2, vI 2, vJ (48 : Int64), .second, vI 2, vJ (16 : Int64), .second]) rfl ?_
  refine XS.iload X0.here hx rfl (q d9_59) rfl ?_
  refine XS.iconst X0.here hx rfl (q d9_61) ?_
  refine XS.imul X0.here hx rfl (q d9_62) rfl ?_
  refine XS.istore X0.here hx rfl (q d9_63) rfl (l' := #[vI 2, vI 2, vJ (48 : Int64), .second, vI 4, vJ (16 : Int64), .second]) rfl ?_
  refine XS.goto X0.here hx rfl (pc0 := 65) (pc' := 30) rfl (q d9_65) (by decide) (by decide) ?_
  refine XS.iload X0.here hx rfl (q d9_30) rfl ?_
  refine XS.iconst X0.here hx rfl (q d9_32) ?_
  refine XS.icmpYes X0.here hx rfl (pc0 := 33) (pc' := 68) rfl (q d9_33) rfl (flt (by decide : ¬ ((4 : Int32) < (4 : Int32)))).2.1 (by decide) (by decide) ?_
  refine XS.iload X0.here hx rfl (q d9_68) rfl ?_
  exact retI X0 hx Bd.returns (q d9_70) hr
 ·show Q9m2c2 Z  h0 n0 _ s₁.heap _
  rw [e0]
  exact ⟨rfl, N0, rfl⟩
theorem ef_9m2c3 (m : MethodId) : entryFrame m #[(.int 2), (.int 3)] 7 = mkF m 0 #[vI 2, vI 3, .unset, .unset, .unset, .unset, .unset] [] := by first | (simp [entryFrame, mkF, argsToLocals, Value.category]; done) | rfl
def Q9m2c3 (Z : State)  (h0 : Heap) (n0 : Nat) (v : Option Value) (h : Heap) (L : List Loc) : Prop := v = some (.int 4) ∧ Fr n0 L ∧ h = h0
set_option maxRecDepth 65536 in
set_option maxHeartbeats 40000000 in
theorem rm9m2c3 (l : Launch) (Z : State) (a0 : Array Value) (hw : ∀ d ∈ tables_1, d.before a0 Z = true) (ws : List Jvm.Cond)  (h0 : Heap) (n0 : Nat) (Z0 : n0 ≤ h0.size) :
  MetFree l mN2 (head1 (Jvm.Cond.code mN2 prog_23_method_4_code 7 (some .int) :: ws) ({ frames := 0, cells := 0, slots := 0, locals := 0 } : Room)) (fun a U => a = #[(.int 2), (.int 3)] ∧ Z.Warmed39 U.vm ∧ U.heap = h0) (fun _ _ _ _ _ => True) (fun _ U o U' => ∃ v L, o = .returned v ∧ Q9m2c3 Z  h0 n0 v U'.heap L ∧ FrameEnd U o U' L ({ frames := 0, cells := 0, slots := 0, locals := 0 } : Room).cells ({ frames := 0, cells := 0, slots := 0, locals := 0 } : Room).slots) := by
 refine MetFree.of_bodySF (plainFor_of_name pn_skipstitch_search_Automaton) hisR ?_
 intro p e s m args below meth c s₁ Bd hml0 hP hK
 obtain ⟨rfl, hZ, hh⟩ := hP
 have hx := Bd.exec
 have hby := Bd.bytes
 have q {i : Nat} {r : _} (h : decode _ i = r) := hb hby h
 have hml : c.maxLocals = 7 := hml0
 have hown : s.vm.findClass cS0 = some m.cls := findClass_of_methodNamed Bd.named
 have hnm := (name_of_methodNamed Bd.named Bd.method).1
 have X0 : Stand p l e ({ frames := 0, cells := 0, slots := 0, locals := 0 } : Room) s m #[(.int 2), (.int 3)] below meth c s₁ [] 0 0 := Stand.of_body Bd
 have e0 : s₁.heap = h0 := by rw [← hh, Bd.state]; rfl
 have N0 := Fr.nil n0
 have pre0 : oP p e below (s₁.setTop (mkF m 0 #[vI 2, vI 3, vU, vU, vU, vU, vU] [])) (s₁.setTop (entryFrame m #[(.int 2), (.int 3)] 7)) := fun t k => castTop (ef_9m2c3 m) k
 obtain ⟨fs, hr, hrun, hended, hW, hsame⟩ := X0.leave (v := some (.int 4)) (oR Bd.returns) (hlocks := Bd.notSynchronized)
 refine ⟨_, _, pre0 _ ?_, hrun, hended, _, _, rfl, ?_, ⟨_, rfl⟩, hW, hsame.mono (by decide) (by decide)⟩
 ·show Steps p.tables e below (s₁.setTop (mkF m 0 #[vI 2, vI 3, vU, vU, vU, vU, vU] [])) _
  refine XS.iloadN X0.here hx rfl (q d9_0) rfl ?_
  refine XS.i2l X0.here hx rfl (q d9_1) rfl ?_
  refine XS.lconst X0.here hx rfl (q d9_2) ?_
  refine XS.ladd X0.here hx rfl (q d9_3) rfl ?_
  refine XS.iloadN X0.here hx rfl (q d9_4) rfl ?_
  refine XS.i2l X0.here hx rfl (q d9_5) rfl ?_
  refine XS.lmul X0.here hx rfl (q d9_6) rfl ?_
  refine XS.lstoreN X0.here hx rfl (q d9_7) rfl (l' := #[vI 2, vI 3, vJ (9 : Int64), .second, vU, vU, vU]) rfl ?_
  refine XS.iloadN X0.here hx rfl (q d9_8) rfl ?_
  refine XS.iconst X0.here hx rfl (q d9_9) ?_
  refine XS.icmpNo X0.here hx rfl (q d9_10) rfl (feq (by decide : ¬ ((2 : Int32) = (1 : Int32)))).1 ?_
  refine XS.lloadN X0.here hx rfl (q d9_13) rfl ?_
  refine X0.ldc2Long hx hown (om hZ hw 67 rfl) (g := (mkF m 14 #[vI 2, vI 3, vJ (9 : Int64), .second, vU, vU, vU] [(.long (9 : Int64))])) rfl (q d9_14) _ ?_
  refine XS.lcmp X0.here hx rfl (q d9_17) rfl ?_
  refine XS.ifYes X0.here hx rfl (pc0 := 18) (pc' := 23) rfl (q d9_18) rfl (own_fltL (by decide : ¬ ((131072 : Int64) < (9 : Int64)))).2.2.2 (by decide) (by decide) ?_
  refine XS.iconst X0.here hx rfl (q d9_23) ?_
  refine XS.istore X0.here hx rfl (q d9_24) rfl (l' := #[vI 2, vI 3, vJ (9 : Int64), .second, vI 1, vU, vU]) rfl ?_
  refine XS.iloadN X0.here hx rfl (q d9_26) rfl ?_
  refine XS.i2l X0.here hx rfl (q d9_27) rfl ?_
  refine XS.lstore X0.here hx rfl (q d9_28) rfl (l' := #[vI 2, vI 3, vJ (9 : Int64), .second, vI 1, vJ (3 : Int64), .second]) rfl ?_
  refine XS.iload X0.here hx rfl (q d9_30) rfl ?_
  refine XS.iconst X0.here hx rfl (q d9_32) ?_
  refine XS.icmpNo X0.here hx rfl (q d9_33) rfl (tlt (by decide : ((1 : Int32) < (4 : Int32)))).2.1 ?_
  refine XS.lloadN X0.here hx rfl (q d9_36) rfl ?_
  refine XS.lload X0.here hx rfl (q d9_37) rfl ?_
  refine XS.lmul X0.here hx rfl (q d9_39) rfl ?_
  refine X0.ldc2Long hx hown (om hZ hw 67 rfl) (g := (mkF m 40 #[vI 2, vI 3, vJ (9 : Int64), .second, vI 1, vJ (3 : Int64), .second] [(.long (27 : Int64))])) rfl (q d9_40) _ ?_
  refine XS.lcmp X0.here hx rfl (q d9_43) rfl ?_
  refine XS.ifNo X0.here hx rfl (q d9_44) rfl (own_fltL (by decide : ¬ ((131072 : Int64) < (27 : Int64)))).2.2.1 ?_
  refine XS.lloadN X0.here hx rfl (q d9_47) rfl ?_
  refine XS.lload X0.here hx rfl (q d9_48) rfl ?_
  refine XS.lmul X0.here hx rfl (q d9_50) rfl ?_
  refine XS.lstoreN X0.here hx rfl (q d9_51) rfl (l' := #[vI 2, vI 3, vJ (27 : Int64), .second, vI 1, vJ (3 : Int64), .second]) rfl ?_
  refine XS.lload X0.here hx rfl (q d9_52) rfl ?_
  refine XS.lload X0.here hx rfl (q d9_54) rfl ?_
  refine XS.lmul X0.here hx rfl (q d9_56) rfl ?_
  refine XS.lstore X0.here hx rfl (q d9_57) rfl (l' := #[vI 2, vI 3, vJ (27 : Int64), .second, vI 1, vJ (9 : Int64), .second]) rfl ?_
  refine XS.iload X0.here hx rfl (q d9_59) rfl ?_
  refine XS.iconst X0.here hx rfl (q d9_61) ?_
  refine XS.imul X0.here hx rfl (q d9_62) rfl ?_
  refine XS.istore X0.here hx rfl (q d9_63) rfl (l' := #[vI 2, vI 3, vJ (27 : Int64), .second, vI 2, vJ (9 : Int64), .second]) rfl ?_
  refine XS.goto X0.here hx rfl (pc0 := 65) (pc' := 30) rfl (q d9_65) (by decide) (by decide) ?_
  refine XS.iload X0.here hx rfl (q d9_30) rfl ?_
  refine XS.iconst X0.here hx rfl (q d9_32) ?_
  refine XS.icmpNo X0.here hx rfl (q d9_33) rfl (tlt (by decide : ((2 : Int32) < (4 : Int32)))).2.1 ?_
  refine XS.lloadN X0.here hx rfl (q d9_36) rfl ?_
  refine XS.lload X0.here hx rfl (q d9_37) rfl ?_
  refine XS.lmul X0.here hx rfl (q d9_39) rfl ?_
  refine X0.ldc2Long hx hown (om hZ hw 67 rfl) (g := (mkF m 40 #[vI 2, vI 3, vJ (27 : Int64), .second, vI 2, vJ (9 : Int64), .second] [(.long (243 : Int64))])) rfl (q d9_40) _ ?_
  refine XS.lcmp X0.here hx rfl (q d9_43) rfl ?_
  refine XS.ifNo X0.here hx rfl (q d9_44) rfl (own_fltL (by decide : ¬ ((131072 : Int64) < (243 : Int64)))).2.2.1 ?_
  refine XS.lloadN X0.here hx rfl (q d9_47) rfl ?_
  refine XS.lload X0.here hx rfl (q d9_48) rfl ?_
  refine XS.lmul X0.here hx rfl (q d9_50) rfl ?_
  refine XS.lstoreN X0.here hx rfl (q d9_51) rfl (l' := #[vI 2, vI 3, vJ (243 : Int64), .second, vI 2, vJ (9 : Int64), .second]) rfl ?_
  refine XS.lload X0.here hx rfl (q d9_52) rfl ?_
  refine XS.lload X0.here hx rfl (q d9_54) rfl ?_
  refine XS.lmul X0.here hx rfl (q d9_56) rfl ?_
  refine XS.lstore X0.here hx rfl (q d9_57) rfl (l' := #[vI 2, vI 3, vJ (243 : Int64), .second, vI 2, vJ (81 : Int64), .second]) rfl ?_
  refine XS.iload X0.here hx rfl (q d9_59) rfl ?_
  refine XS.iconst X0.here hx rfl (q d9_61) ?_
  refine XS.imul X0.here hx rfl (q d9_62) rfl ?_
  refine XS.istore X0.here hx rfl (q d9_63) rfl (l' := #[vI 2, vI 3, vJ (243 : Int64), .second, vI 4, vJ (81 : Int64), .second]) rfl ?_
  refine XS.goto X0.here hx rfl (pc0 := 65) (pc' := 30) rfl (q d9_65) (by decide) (by decide) ?_
  refine XS.iload X0.here hx rfl (q d9_30) rfl ?_
  refine XS.iconst X0.here hx rfl (q d9_32) ?_
  refine XS.icmpYes X0.here hx rfl (pc0 := 33) (pc' := 68) rfl (q d9_33) rfl (flt (by decide : ¬ ((4 : Int32) < (4 : Int32)))).2.1 (by decide) (by decide) ?_
  refine XS.iload X0.here hx rfl (q d9_68) rfl ?_
  exact retI X0 hx Bd.returns (q d9_70) hr
 ·show Q9m2c3 Z  h0 n0 _ s₁.heap _
  rw [e0]
  exact ⟨rfl, N0, rfl⟩
theorem ef_9m2c4 (m : MethodId) : entryFrame m #[(.int 2), (.int 4)] 7 = mkF m 0 #[vI 2, vI 4, .unset, .unset, .unset, .unset, .unset] [] := by first | (simp [entryFrame, mkF, argsToLocals, Value.category]; done) | rfl
def Q9m2c4 (Z : State)  (h0 : Heap) (n0 : Nat) (v : Option Value) (h : Heap) (L : List Loc) : Prop := v = some (.int 4) ∧ Fr n0 L ∧ h = h0
set_option maxRecDepth 65536 in
set_option maxHeartbeats 40000000 in
theorem rm9m2c4 (l : Launch) (Z : State) (a0 : Array Value) (hw : ∀ d ∈ tables_1, d.before a0 Z = true) (ws : List Jvm.Cond)  (h0 : Heap) (n0 : Nat) (Z0 : n0 ≤ h0.size) :
  MetFree l mN2 (head1 (Jvm.Cond.code mN2 prog_23_method_4_code 7 (some .int) :: ws) ({ frames := 0, cells := 0, slots := 0, locals := 0 } : Room)) (fun a U => a = #[(.int 2), (.int 4)] ∧ Z.Warmed39 U.vm ∧ U.heap = h0) (fun _ _ _ _ _ => True) (fun _ U o U' => ∃ v L, o = .returned v ∧ Q9m2c4 Z  h0 n0 v U'.heap L ∧ FrameEnd U o U' L ({ frames := 0, cells := 0, slots := 0, locals := 0 } : Room).cells ({ frames := 0, cells := 0, slots := 0, locals := 0 } : Room).slots) := by
 refine MetFree.of_bodySF (plainFor_of_name pn_skipstitch_search_Automaton) hisR ?_
 intro p e s m args below meth c s₁ Bd hml0 hP hK
 obtain ⟨rfl, hZ, hh⟩ := hP
 have hx := Bd.exec
 have hby := Bd.bytes
 have q {i : Nat} {r : _} (h : decode _ i = r) := hb hby h
 have hml : c.maxLocals = 7 := hml0
 have hown : s.vm.findClass cS0 = some m.cls := findClass_of_methodNamed Bd.named
 have hnm := (name_of_methodNamed Bd.named Bd.method).1
 have X0 : Stand p l e ({ frames := 0, cells := 0, slots := 0, locals := 0 } : Room) s m #[(.int 2), (.int 4)] below meth c s₁ [] 0 0 := Stand.of_body Bd
 have e0 : s₁.heap = h0 := by rw [← hh, Bd.state]; rfl
 have N0 := Fr.nil n0
 have pre0 : oP p e below (s₁.setTop (mkF m 0 #[vI 2, vI 4, vU, vU, vU, vU, vU] [])) (s₁.setTop (entryFrame m #[(.int 2), (.int 4)] 7)) := fun t k => castTop (ef_9m2c4 m) k
 obtain ⟨fs, hr, hrun, hended, hW, hsame⟩ := X0.leave (v := some (.int 4)) (oR Bd.returns) (hlocks := Bd.notSynchronized)
 refine ⟨_, _, pre0 _ ?_, hrun, hended, _, _, rfl, ?_, ⟨_, rfl⟩, hW, hsame.mono (by decide) (by decide)⟩
 ·show Steps p.tables e below (s₁.setTop (mkF m 0 #[vI 2, vI 4, vU, vU, vU, vU, vU] [])) _
  refine XS.iloadN X0.here hx rfl (q d9_0) rfl ?_
  refine XS.i2l X0.here hx rfl (q d9_1) rfl ?_
  refine XS.lconst X0.here hx rfl (q d9_2) ?_
  refine XS.ladd X0.here hx rfl (q d9_3) rfl ?_
  refine XS.iloadN X0.here hx rfl (q d9_4) rfl ?_
  refine XS.i2l X0.here hx rfl (q d9_5) rfl ?_
  refine XS.lmul X0.here hx rfl (q d9_6) rfl ?_
  refine XS.lstoreN X0.here hx rfl (q d9_7) rfl (l' := #[vI 2, vI 4, vJ (12 : Int64), .second, vU, vU, vU]) rfl ?_
  refine XS.iloadN X0.here hx rfl (q d9_8) rfl ?_
  refine XS.iconst X0.here hx rfl (q d9_9) ?_
  refine XS.icmpNo X0.here hx rfl (q d9_10) rfl (feq (by decide : ¬ ((2 : Int32) = (1 : Int32)))).1 ?_
  refine XS.lloadN X0.here hx rfl (q d9_13) rfl ?_
  refine X0.ldc2Long hx hown (om hZ hw 67 rfl) (g := (mkF m 14 #[vI 2, vI 4, vJ (12 : Int64), .second, vU, vU, vU] [(.long (12 : Int64))])) rfl (q d9_14) _ ?_
  refine XS.lcmp X0.here hx rfl (q d9_17) rfl ?_
  refine XS.ifYes X0.here hx rfl (pc0 := 18) (pc' := 23) rfl (q d9_18) rfl (own_fltL (by decide : ¬ ((131072 : Int64) < (12 : Int64)))).2.2.2 (by decide) (by decide) ?_
  refine XS.iconst X0.here hx rfl (q d9_23) ?_
  refine XS.istore X0.here hx rfl (q d9_24) rfl (l' := #[vI 2, vI 4, vJ (12 : Int64), .second, vI 1, vU, vU]) rfl ?_
  refine XS.iloadN X0.here hx rfl (q d9_26) rfl ?_
  refine XS.i2l X0.here hx rfl (q d9_27) rfl ?_
  refine XS.lstore X0.here hx rfl (q d9_28) rfl (l' := #[vI 2, vI 4, vJ (12 : Int64), .second, vI 1, vJ (4 : Int64), .second]) rfl ?_
  refine XS.iload X0.here hx rfl (q d9_30) rfl ?_
  refine XS.iconst X0.here hx rfl (q d9_32) ?_
  refine XS.icmpNo X0.here hx rfl (q d9_33) rfl (tlt (by decide : ((1 : Int32) < (4 : Int32)))).2.1 ?_
  refine XS.lloadN X0.here hx rfl (q d9_36) rfl ?_
  refine XS.lload X0.here hx rfl (q d9_37) rfl ?_
  refine XS.lmul X0.here hx rfl (q d9_39) rfl ?_
  refine X0.ldc2Long hx hown (om hZ hw 67 rfl) (g := (mkF m 40 #[vI 2, vI 4, vJ (12 : Int64), .second, vI 1, vJ (4 : Int64), .second] [(.long (48 : Int64))])) rfl (q d9_40) _ ?_
  refine XS.lcmp X0.here hx rfl (q d9_43) rfl ?_
  refine XS.ifNo X0.here hx rfl (q d9_44) rfl (own_fltL (by decide : ¬ ((131072 : Int64) < (48 : Int64)))).2.2.1 ?_
  refine XS.lloadN X0.here hx rfl (q d9_47) rfl ?_
  refine XS.lload X0.here hx rfl (q d9_48) rfl ?_
  refine XS.lmul X0.here hx rfl (q d9_50) rfl ?_
  refine XS.lstoreN X0.here hx rfl (q d9_51) rfl (l' := #[vI 2, vI 4, vJ (48 : Int64), .second, vI 1, vJ (4 : Int64), .second]) rfl ?_
  refine XS.lload X0.here hx rfl (q d9_52) rfl ?_
  refine XS.lload X0.here hx rfl (q d9_54) rfl ?_
  refine XS.lmul X0.here hx rfl (q d9_56) rfl ?_
  refine XS.lstore X0.here hx rfl (q d9_57) rfl (l' := #[vI 2, vI 4, vJ (48 : Int64), .second, vI 1, vJ (16 : Int64), .second]) rfl ?_
  refine XS.iload X0.here hx rfl (q d9_59) rfl ?_
  refine XS.iconst X0.here hx rfl (q d9_61) ?_
  refine XS.imul X0.here hx rfl (q d9_62) rfl ?_
  refine XS.istore X0.here hx rfl (q d9_63) rfl (l' := #[vI 2, vI 4, vJ (48 : Int64), .second, vI 2, vJ (16 : Int64), .second]) rfl ?_
  refine XS.goto X0.here hx rfl (pc0 := 65) (pc' := 30) rfl (q d9_65) (by decide) (by decide) ?_
  refine XS.iload X0.here hx rfl (q d9_30) rfl ?_
  refine XS.iconst X0.here hx rfl (q d9_32) ?_
  refine XS.icmpNo X0.here hx rfl (q d9_33) rfl (tlt (by decide : ((2 : Int32) < (4 : Int32)))).2.1 ?_
  refine XS.lloadN X0.here hx rfl (q d9_36) rfl ?_
  refine XS.lload X0.here hx rfl (q d9_37) rfl ?_
  refine XS.lmul X0.here hx rfl (q d9_39) rfl ?_
  refine X0.ldc2Long hx hown (om hZ hw 67 rfl) (g := (mkF m 40 #[vI 2, vI 4, vJ (48 : Int64), .second, vI 2, vJ (16 : Int64), .second] [(.long (768 : Int64))])) rfl (q d9_40) _ ?_
  refine XS.lcmp X0.here hx rfl (q d9_43) rfl ?_
  refine XS.ifNo X0.here hx rfl (q d9_44) rfl (own_fltL (by decide : ¬ ((131072 : Int64) < (768 : Int64)))).2.2.1 ?_
  refine XS.lloadN X0.here hx rfl (q d9_47) rfl ?_
  refine XS.lload X0.here hx rfl (q d9_48) rfl ?_
  refine XS.lmul X0.here hx rfl (q d9_50) rfl ?_
  refine XS.lstoreN X0.here hx rfl (q d9_51) rfl (l' := #[vI 2, vI 4, vJ (768 : Int64), .second, vI 2, vJ (16 : Int64), .second]) rfl ?_
  refine XS.lload X0.here hx rfl (q d9_52) rfl ?_
  refine XS.lload X0.here hx rfl (q d9_54) rfl ?_
  refine XS.lmul X0.here hx rfl (q d9_56) rfl ?_
  refine XS.lstore X0.here hx rfl (q d9_57) rfl (l' := #[vI 2, vI 4, vJ (768 : Int64), .second, vI 2, vJ (256 : Int64), .second]) rfl ?_
  refine XS.iload X0.here hx rfl (q d9_59) rfl ?_
  refine XS.iconst X0.here hx rfl (q d9_61) ?_
  refine XS.imul X0.here hx rfl (q d9_62) rfl ?_
  refine XS.istore X0.here hx rfl (q d9_63) rfl (l' := #[vI 2, vI 4, vJ (768 : Int64), .second, vI 4, vJ (256 : Int64), .second]) rfl ?_
  refine XS.goto X0.here hx rfl (pc0 := 65) (pc' := 30) rfl (q d9_65) (by decide) (by decide) ?_
  refine XS.iload X0.here hx rfl (q d9_30) rfl ?_
  refine XS.iconst X0.here hx rfl (q d9_32) ?_
  refine XS.icmpYes X0.here hx rfl (pc0 := 33) (pc' := 68) rfl (q d9_33) rfl (flt (by decide : ¬ ((4 : Int32) < (4 : Int32)))).2.1 (by decide) (by decide) ?_
  refine XS.iload X0.here hx rfl (q d9_68) rfl ?_
  exact retI X0 hx Bd.returns (q d9_70) hr
 ·show Q9m2c4 Z  h0 n0 _ s₁.heap _
  rw [e0]
  exact ⟨rfl, N0, rfl⟩
theorem ef_9m3c1 (m : MethodId) : entryFrame m #[(.int 3), (.int 1)] 7 = mkF m 0 #[vI 3, vI 1, .unset, .unset, .unset, .unset, .unset] [] := by first | (simp [entryFrame, mkF, argsToLocals, Value.category]; done) | rfl
def Q9m3c1 (Z : State)  (h0 : Heap) (n0 : Nat) (v : Option Value) (h : Heap) (L : List Loc) : Prop := v = some (.int 4) ∧ Fr n0 L ∧ h = h0
set_option maxRecDepth 65536 in
set_option maxHeartbeats 40000000 in
theorem rm9m3c1 (l : Launch) (Z : State) (a0 : Array Value) (hw : ∀ d ∈ tables_1, d.before a0 Z = true) (ws : List Jvm.Cond)  (h0 : Heap) (n0 : Nat) (Z0 : n0 ≤ h0.size) :
  MetFree l mN2 (head1 (Jvm.Cond.code mN2 prog_23_method_4_code 7 (some .int) :: ws) ({ frames := 0, cells := 0, slots := 0, locals := 0 } : Room)) (fun a U => a = #[(.int 3), (.int 1)] ∧ Z.Warmed39 U.vm ∧ U.heap = h0) (fun _ _ _ _ _ => True) (fun _ U o U' => ∃ v L, o = .returned v ∧ Q9m3c1 Z  h0 n0 v U'.heap L ∧ FrameEnd U o U' L ({ frames := 0, cells := 0, slots := 0, locals := 0 } : Room).cells ({ frames := 0, cells := 0, slots := 0, locals := 0 } : Room).slots) := by
 refine MetFree.of_bodySF (plainFor_of_name pn_skipstitch_search_Automaton) hisR ?_
 intro p e s m args below meth c s₁ Bd hml0 hP hK
 obtain ⟨rfl, hZ, hh⟩ := hP
 have hx := Bd.exec
 have hby := Bd.bytes
 have q {i : Nat} {r : _} (h : decode _ i = r) := hb hby h
 have hml : c.maxLocals = 7 := hml0
 have hown : s.vm.findClass cS0 = some m.cls := findClass_of_methodNamed Bd.named
 have hnm := (name_of_methodNamed Bd.named Bd.method).1
 have X0 : Stand p l e ({ frames := 0, cells := 0, slots := 0, locals := 0 } : Room) s m #[(.int 3), (.int 1)] below meth c s₁ [] 0 0 := Stand.of_body Bd
 have e0 : s₁.heap = h0 := by rw [← hh, Bd.state]; rfl
 have N0 := Fr.nil n0
 have pre0 : oP p e below (s₁.setTop (mkF m 0 #[vI 3, vI 1, vU, vU, vU, vU, vU] [])) (s₁.setTop (entryFrame m #[(.int 3), (.int 1)] 7)) := fun t k => castTop (ef_9m3c1 m) k
 obtain ⟨fs, hr, hrun, hended, hW, hsame⟩ := X0.leave (v := some (.int 4)) (oR Bd.returns) (hlocks := Bd.notSynchronized)
 refine ⟨_, _, pre0 _ ?_, hrun, hended, _, _, rfl, ?_, ⟨_, rfl⟩, hW, hsame.mono (by decide) (by decide)⟩
 ·show Steps p.tables e below (s₁.setTop (mkF m 0 #[vI 3, vI 1, vU, vU, vU, vU, vU] [])) _
  refine XS.iloadN X0.here hx rfl (q d9_0) rfl ?_
  refine XS.i2l X0.here hx rfl (q d9_1) rfl ?_
  refine XS.lconst X0.here hx rfl (q d9_2) ?_
  refine XS.ladd X0.here hx rfl (q d9_3) rfl ?_
  refine XS.iloadN X0.here hx rfl (q d9_4) rfl ?_
  refine XS.i2l X0.here hx rfl (q d9_5) rfl ?_
  refine XS.lmul X0.here hx rfl (q d9_6) rfl ?_
  refine XS.lstoreN X0.here hx rfl (q d9_7) rfl (l' := #[vI 3, vI 1, vJ (4 : Int64), .second, vU, vU, vU]) rfl ?_
  refine XS.iloadN X0.here hx rfl (q d9_8) rfl ?_
  refine XS.iconst X0.here hx rfl (q d9_9) ?_
  refine XS.icmpNo X0.here hx rfl (q d9_10) rfl (feq (by decide : ¬ ((3 : Int32) = (1 : Int32)))).1 ?_
  refine XS.lloadN X0.here hx rfl (q d9_13) rfl ?_
  refine X0.ldc2Long hx hown (om hZ hw 67 rfl) (g := (mkF m 14 #[vI 3, vI 1, vJ (4 : Int64), .second, vU, vU, vU] [(.long (4 : Int64))])) rfl (q d9_14) _ ?_
  refine XS.lcmp X0.here hx rfl (q d9_17) rfl ?_
  refine XS.ifYes X0.here hx rfl (pc0 := 18) (pc' := 23) rfl (q d9_18) rfl (own_fltL (by decide : ¬ ((131072 : Int64) < (4 : Int64)))).2.2.2 (by decide) (by decide) ?_
  refine XS.iconst X0.here hx rfl (q d9_23) ?_
  refine XS.istore X0.here hx rfl (q d9_24) rfl (l' := #[vI 3, vI 1, vJ (4 : Int64), .second, vI 1, vU, vU]) rfl ?_
  refine XS.iloadN X0.here hx rfl (q d9_26) rfl ?_
  refine XS.i2l X0.here hx rfl (q d9_27) rfl ?_
  refine XS.lstore X0.here hx rfl (q d9_28) rfl (l' := #[vI 3, vI 1, vJ (4 : Int64), .second, vI 1, vJ (1 : Int64), .second]) rfl ?_
  refine XS.iload X0.here hx rfl (q d9_30) rfl ?_
  refine XS.iconst X0.here hx rfl (q d9_32) ?_
  refine XS.icmpNo X0.here hx rfl (q d9_33) rfl (tlt (by decide : ((1 : Int32) < (4 : Int32)))).2.1 ?_
  refine XS.lloadN X0.here hx rfl (q d9_36) rfl ?_
  refine XS.lload X0.here hx rfl (q d9_37) rfl ?_
  refine XS.lmul X0.here hx rfl (q d9_39) rfl ?_
  refine X0.ldc2Long hx hown (om hZ hw 67 rfl) (g := (mkF m 40 #[vI 3, vI 1, vJ (4 : Int64), .second, vI 1, vJ (1 : Int64), .second] [(.long (4 : Int64))])) rfl (q d9_40) _ ?_
  refine XS.lcmp X0.here hx rfl (q d9_43) rfl ?_
  refine XS.ifNo X0.here hx rfl (q d9_44) rfl (own_fltL (by decide : ¬ ((131072 : Int64) < (4 : Int64)))).2.2.1 ?_
  refine XS.lloadN X0.here hx rfl (q d9_47) rfl ?_
  refine XS.lload X0.here hx rfl (q d9_48) rfl ?_
  refine XS.lmul X0.here hx rfl (q d9_50) rfl ?_
  refine XS.lstoreN X0.here hx rfl (q d9_51) rfl (l' := #[vI 3, vI 1, vJ (4 : Int64), .second, vI 1, vJ (1 : Int64), .second]) rfl ?_
  refine XS.lload X0.here hx rfl (q d9_52) rfl ?_
  refine XS.lload X0.here hx rfl (q d9_54) rfl ?_
  refine XS.lmul X0.here hx rfl (q d9_56) rfl ?_
  refine XS.lstore X0.here hx rfl (q d9_57) rfl (l' := #[vI 3, vI 1, vJ (4 : Int64), .second, vI 1, vJ (1 : Int64), .second]) rfl ?_
  refine XS.iload X0.here hx rfl (q d9_59) rfl ?_
  refine XS.iconst X0.here hx rfl (q d9_61) ?_
  refine XS.imul X0.here hx rfl (q d9_62) rfl ?_
  refine XS.istore X0.here hx rfl (q d9_63) rfl (l' := #[vI 3, vI 1, vJ (4 : Int64), .second, vI 2, vJ (1 : Int64), .second]) rfl ?_
  refine XS.goto X0.here hx rfl (pc0 := 65) (pc' := 30) rfl (q d9_65) (by decide) (by decide) ?_
  refine XS.iload X0.here hx rfl (q d9_30) rfl ?_
  refine XS.iconst X0.here hx rfl (q d9_32) ?_
  refine XS.icmpNo X0.here hx rfl (q d9_33) rfl (tlt (by decide : ((2 : Int32) < (4 : Int32)))).2.1 ?_
  refine XS.lloadN X0.here hx rfl (q d9_36) rfl ?_
  refine XS.lload X0.here hx rfl (q d9_37) rfl ?_
  refine XS.lmul X0.here hx rfl (q d9_39) rfl ?_
  refine X0.ldc2Long hx hown (om hZ hw 67 rfl) (g := (mkF m 40 #[vI 3, vI 1, vJ (4 : Int64), .second, vI 2, vJ (1 : Int64), .second] [(.long (4 : Int64))])) rfl (q d9_40) _ ?_
  refine XS.lcmp X0.here hx rfl (q d9_43) rfl ?_
  refine XS.ifNo X0.here hx rfl (q d9_44) rfl (own_fltL (by decide : ¬ ((131072 : Int64) < (4 : Int64)))).2.2.1 ?_
  refine XS.lloadN X0.here hx rfl (q d9_47) rfl ?_
  refine XS.lload X0.here hx rfl (q d9_48) rfl ?_
  refine XS.lmul X0.here hx rfl (q d9_50) rfl ?_
  refine XS.lstoreN X0.here hx rfl (q d9_51) rfl (l' := #[vI 3, vI 1, vJ (4 : Int64), .second, vI 2, vJ (1 : Int64), .second]) rfl ?_
  refine XS.lload X0.here hx rfl (q d9_52) rfl ?_
  refine XS.lload X0.here hx rfl (q d9_54) rfl ?_
  refine XS.lmul X0.here hx rfl (q d9_56) rfl ?_
  refine XS.lstore X0.here hx rfl (q d9_57) rfl (l' := #[vI 3, vI 1, vJ (4 : Int64), .second, vI 2, vJ (1 : Int64), .second]) rfl ?_
  refine XS.iload X0.here hx rfl (q d9_59) rfl ?_
  refine XS.iconst X0.here hx rfl (q d9_61) ?_
  refine XS.imul X0.here hx rfl (q d9_62) rfl ?_
  refine XS.istore X0.here hx rfl (q d9_63) rfl (l' := #[vI 3, vI 1, vJ (4 : Int64), .second, vI 4, vJ (1 : Int64), .second]) rfl ?_
  refine XS.goto X0.here hx rfl (pc0 := 65) (pc' := 30) rfl (q d9_65) (by decide) (by decide) ?_
  refine XS.iload X0.here hx rfl (q d9_30) rfl ?_
  refine XS.iconst X0.here hx rfl (q d9_32) ?_
  refine XS.icmpYes X0.here hx rfl (pc0 := 33) (pc' := 68) rfl (q d9_33) rfl (flt (by decide : ¬ ((4 : Int32) < (4 : Int32)))).2.1 (by decide) (by decide) ?_
  refine XS.iload X0.here hx rfl (q d9_68) rfl ?_
  exact retI X0 hx Bd.returns (q d9_70) hr
 ·show Q9m3c1 Z  h0 n0 _ s₁.heap _
  rw [e0]
  exact ⟨rfl, N0, rfl⟩
theorem ef_9m3c2 (m : MethodId) : entryFrame m #[(.int 3), (.int 2)] 7 = mkF m 0 #[vI 3, vI 2, .unset, .unset, .unset, .unset, .unset] [] := by first | (simp [entryFrame, mkF, argsToLocals, Value.category]; done) | rfl
def Q9m3c2 (Z : State)  (h0 : Heap) (n0 : Nat) (v : Option Value) (h : Heap) (L : List Loc) : Prop := v = some (.int 4) ∧ Fr n0 L ∧ h = h0
set_option maxRecDepth 65536 in
set_option maxHeartbeats 40000000 in
theorem rm9m3c2 (l : Launch) (Z : State) (a0 : Array Value) (hw : ∀ d ∈ tables_1, d.before a0 Z = true) (ws : List Jvm.Cond)  (h0 : Heap) (n0 : Nat) (Z0 : n0 ≤ h0.size) :
  MetFree l mN2 (head1 (Jvm.Cond.code mN2 prog_23_method_4_code 7 (some .int) :: ws) ({ frames := 0, cells := 0, slots := 0, locals := 0 } : Room)) (fun a U => a = #[(.int 3), (.int 2)] ∧ Z.Warmed39 U.vm ∧ U.heap = h0) (fun _ _ _ _ _ => True) (fun _ U o U' => ∃ v L, o = .returned v ∧ Q9m3c2 Z  h0 n0 v U'.heap L ∧ FrameEnd U o U' L ({ frames := 0, cells := 0, slots := 0, locals := 0 } : Room).cells ({ frames := 0, cells := 0, slots := 0, locals := 0 } : Room).slots) := by
 refine MetFree.of_bodySF (plainFor_of_name pn_skipstitch_search_Automaton) hisR ?_
 intro p e s m args below meth c s₁ Bd hml0 hP hK
 obtain ⟨rfl, hZ, hh⟩ := hP
 have hx := Bd.exec
 have hby := Bd.bytes
 have q {i : Nat} {r : _} (h : decode _ i = r) := hb hby h
 have hml : c.maxLocals = 7 := hml0
 have hown : s.vm.findClass cS0 = some m.cls := findClass_of_methodNamed Bd.named
 have hnm := (name_of_methodNamed Bd.named Bd.method).1
 have X0 : Stand p l e ({ frames := 0, cells := 0, slots := 0, locals := 0 } : Room) s m #[(.int 3), (.int 2)] below meth c s₁ [] 0 0 := Stand.of_body Bd
 have e0 : s₁.heap = h0 := by rw [← hh, Bd.state]; rfl
 have N0 := Fr.nil n0
 have pre0 : oP p e below (s₁.setTop (mkF m 0 #[vI 3, vI 2, vU, vU, vU, vU, vU] [])) (s₁.setTop (entryFrame m #[(.int 3), (.int 2)] 7)) := fun t k => castTop (ef_9m3c2 m) k
 obtain ⟨fs, hr, hrun, hended, hW, hsame⟩ := X0.leave (v := some (.int 4)) (oR Bd.returns) (hlocks := Bd.notSynchronized)
 refine ⟨_, _, pre0 _ ?_, hrun, hended, _, _, rfl, ?_, ⟨_, rfl⟩, hW, hsame.mono (by decide) (by decide)⟩
 ·show Steps p.tables e below (s₁.setTop (mkF m 0 #[vI 3, vI 2, vU, vU, vU, vU, vU] [])) _
  refine XS.iloadN X0.here hx rfl (q d9_0) rfl ?_
  refine XS.i2l X0.here hx rfl (q d9_1) rfl ?_
  refine XS.lconst X0.here hx rfl (q d9_2) ?_
  refine XS.ladd X0.here hx rfl (q d9_3) rfl ?_
  refine XS.iloadN X0.here hx rfl (q d9_4) rfl ?_
  refine XS.i2l X0.here hx rfl (q d9_5) rfl ?_
  refine XS.lmul X0.here hx rfl (q d9_6) rfl ?_
  refine XS.lstoreN X0.here hx rfl (q d9_7) rfl (l' := #[vI 3, vI 2, vJ (8 : Int64), .second, vU, vU, vU]) rfl ?_
  refine XS.iloadN X0.here hx rfl (q d9_8) rfl ?_
  refine XS.iconst X0.here hx rfl (q d9_9) ?_
  refine XS.icmpNo X0.here hx rfl (q d9_10) rfl (feq (by decide : ¬ ((3 : Int32) = (1 : Int32)))).1 ?_
  refine XS.lloadN X0.here hx rfl (q d9_13) rfl ?_
  refine X0.ldc2Long hx hown (om hZ hw 67 rfl) (g := (mkF m 14 #[vI 3, vI 2, vJ (8 : Int64), .second, vU, vU, vU] [(.long (8 : Int64))])) rfl (q d9_14) _ ?_
  refine XS.lcmp X0.here hx rfl (q d9_17) rfl ?_
  refine XS.ifYes X0.here hx rfl (pc0 := 18) (pc' := 23) rfl (q d9_18) rfl (own_fltL (by decide : ¬ ((131072 : Int64) < (8 : Int64)))).2.2.2 (by decide) (by decide) ?_
  refine XS.iconst X0.here hx rfl (q d9_23) ?_
  refine XS.istore X0.here hx rfl (q d9_24) rfl (l' := #[vI 3, vI 2, vJ (8 : Int64), .second, vI 1, vU, vU]) rfl ?_
  refine XS.iloadN X0.here hx rfl (q d9_26) rfl ?_
  refine XS.i2l X0.here hx rfl (q d9_27) rfl ?_
  refine XS.lstore X0.here hx rfl (q d9_28) rfl (l' := #[vI 3, vI 2, vJ (8 : Int64), .second, vI 1, vJ (2 : Int64), .second]) rfl ?_
  refine XS.iload X0.here hx rfl (q d9_30) rfl ?_
  refine XS.iconst X0.here hx rfl (q d9_32) ?_
  refine XS.icmpNo X0.here hx rfl (q d9_33) rfl (tlt (by decide : ((1 : Int32) < (4 : Int32)))).2.1 ?_
  refine XS.lloadN X0.here hx rfl (q d9_36) rfl ?_
  refine XS.lload X0.here hx rfl (q d9_37) rfl ?_
  refine XS.lmul X0.here hx rfl (q d9_39) rfl ?_
  refine X0.ldc2Long hx hown (om hZ hw 67 rfl) (g := (mkF m 40 #[vI 3, vI 2, vJ (8 : Int64), .second, vI 1, vJ (2 : Int64), .second] [(.long (16 : Int64))])) rfl (q d9_40) _ ?_
  refine XS.lcmp X0.here hx rfl (q d9_43) rfl ?_
  refine XS.ifNo X0.here hx rfl (q d9_44) rfl (own_fltL (by decide : ¬ ((131072 : Int64) < (16 : Int64)))).2.2.1 ?_
  refine XS.lloadN X0.here hx rfl (q d9_47) rfl ?_
  refine XS.lload X0.here hx rfl (q d9_48) rfl ?_
  refine XS.lmul X0.here hx rfl (q d9_50) rfl ?_
  refine XS.lstoreN X0.here hx rfl (q d9_51) rfl (l' := #[vI 3, vI 2, vJ (16 : Int64), .second, vI 1, vJ (2 : Int64), .second]) rfl ?_
  refine XS.lload X0.here hx rfl (q d9_52) rfl ?_
  refine XS.lload X0.here hx rfl (q d9_54) rfl ?_
  refine XS.lmul X0.here hx rfl (q d9_56) rfl ?_
  refine XS.lstore X0.here hx rfl (q d9_57) rfl (l' := #[vI 3, vI 2, vJ (16 : Int64), .second, vI 1, vJ (4 : Int64), .second]) rfl ?_
  refine XS.iload X0.here hx rfl (q d9_59) rfl ?_
  refine XS.iconst X0.here hx rfl (q d9_61) ?_
  refine XS.imul X0.here hx rfl (q d9_62) rfl ?_
  refine XS.istore X0.here hx rfl (q d9_63) rfl (l' := #[vI 3, vI 2, vJ (16 : Int64), .second, vI 2, vJ (4 : Int64), .second]) rfl ?_
  refine XS.goto X0.here hx rfl (pc0 := 65) (pc' := 30) rfl (q d9_65) (by decide) (by decide) ?_
  refine XS.iload X0.here hx rfl (q d9_30) rfl ?_
  refine XS.iconst X0.here hx rfl (q d9_32) ?_
  refine XS.icmpNo X0.here hx rfl (q d9_33) rfl (tlt (by decide : ((2 : Int32) < (4 : Int32)))).2.1 ?_
  refine XS.lloadN X0.here hx rfl (q d9_36) rfl ?_
  refine XS.lload X0.here hx rfl (q d9_37) rfl ?_
  refine XS.lmul X0.here hx rfl (q d9_39) rfl ?_
  refine X0.ldc2Long hx hown (om hZ hw 67 rfl) (g := (mkF m 40 #[vI 3, vI 2, vJ (16 : Int64), .second, vI 2, vJ (4 : Int64), .second] [(.long (64 : Int64))])) rfl (q d9_40) _ ?_
  refine XS.lcmp X0.here hx rfl (q d9_43) rfl ?_
  refine XS.ifNo X0.here hx rfl (q d9_44) rfl (own_fltL (by decide : ¬ ((131072 : Int64) < (64 : Int64)))).2.2.1 ?_
  refine XS.lloadN X0.here hx rfl (q d9_47) rfl ?_
  refine XS.lload X0.here hx rfl (q d9_48) rfl ?_
  refine XS.lmul X0.here hx rfl (q d9_50) rfl ?_
  refine XS.lstoreN X0.here hx rfl (q d9_51) rfl (l' := #[vI 3, vI 2, vJ (64 : Int64), .second, vI 2, vJ (4 : Int64), .second]) rfl ?_
  refine XS.lload X0.here hx rfl (q d9_52) rfl ?_
  refine XS.lload X0.here hx rfl (q d9_54) rfl ?_
  refine XS.lmul X0.here hx rfl (q d9_56) rfl ?_
  refine XS.lstore X0.here hx rfl (q d9_57) rfl (l' := #[vI 3, vI 2, vJ (64 : Int64), .second, vI 2, vJ (16 : Int64), .second]) rfl ?_
  refine XS.iload X0.here hx rfl (q d9_59) rfl ?_
  refine XS.iconst X0.here hx rfl (q d9_61) ?_
  refine XS.imul X0.here hx rfl (q d9_62) rfl ?_
  refine XS.istore X0.here hx rfl (q d9_63) rfl (l' := #[vI 3, vI 2, vJ (64 : Int64), .second, vI 4, vJ (16 : Int64), .second]) rfl ?_
  refine XS.goto X0.here hx rfl (pc0 := 65) (pc' := 30) rfl (q d9_65) (by decide) (by decide) ?_
  refine XS.iload X0.here hx rfl (q d9_30) rfl ?_
  refine XS.iconst X0.here hx rfl (q d9_32) ?_
  refine XS.icmpYes X0.here hx rfl (pc0 := 33) (pc' := 68) rfl (q d9_33) rfl (flt (by decide : ¬ ((4 : Int32) < (4 : Int32)))).2.1 (by decide) (by decide) ?_
  refine XS.iload X0.here hx rfl (q d9_68) rfl ?_
  exact retI X0 hx Bd.returns (q d9_70) hr
 ·show Q9m3c2 Z  h0 n0 _ s₁.heap _
  rw [e0]
  exact ⟨rfl, N0, rfl⟩
theorem ef_9m3c3 (m : MethodId) : entryFrame m #[(.int 3), (.int 3)] 7 = mkF m 0 #[vI 3, vI 3, .unset, .unset, .unset, .unset, .unset] [] := by first | (simp [entryFrame, mkF, argsToLocals, Value.category]; done) | rfl
def Q9m3c3 (Z : State)  (h0 : Heap) (n0 : Nat) (v : Option Value) (h : Heap) (L : List Loc) : Prop := v = some (.int 4) ∧ Fr n0 L ∧ h = h0
set_option maxRecDepth 65536 in
set_option maxHeartbeats 40000000 in
theorem rm9m3c3 (l : Launch) (Z : State) (a0 : Array Value) (hw : ∀ d ∈ tables_1, d.before a0 Z = true) (ws : List Jvm.Cond)  (h0 : Heap) (n0 : Nat) (Z0 : n0 ≤ h0.size) :
  MetFree l mN2 (head1 (Jvm.Cond.code mN2 prog_23_method_4_code 7 (some .int) :: ws) ({ frames := 0, cells := 0, slots := 0, locals := 0 } : Room)) (fun a U => a = #[(.int 3), (.int 3)] ∧ Z.Warmed39 U.vm ∧ U.heap = h0) (fun _ _ _ _ _ => True) (fun _ U o U' => ∃ v L, o = .returned v ∧ Q9m3c3 Z  h0 n0 v U'.heap L ∧ FrameEnd U o U' L ({ frames := 0, cells := 0, slots := 0, locals := 0 } : Room).cells ({ frames := 0, cells := 0, slots := 0, locals := 0 } : Room).slots) := by
 refine MetFree.of_bodySF (plainFor_of_name pn_skipstitch_search_Automaton) hisR ?_
 intro p e s m args below meth c s₁ Bd hml0 hP hK
 obtain ⟨rfl, hZ, hh⟩ := hP
 have hx := Bd.exec
 have hby := Bd.bytes
 have q {i : Nat} {r : _} (h : decode _ i = r) := hb hby h
 have hml : c.maxLocals = 7 := hml0
 have hown : s.vm.findClass cS0 = some m.cls := findClass_of_methodNamed Bd.named
 have hnm := (name_of_methodNamed Bd.named Bd.method).1
 have X0 : Stand p l e ({ frames := 0, cells := 0, slots := 0, locals := 0 } : Room) s m #[(.int 3), (.int 3)] below meth c s₁ [] 0 0 := Stand.of_body Bd
 have e0 : s₁.heap = h0 := by rw [← hh, Bd.state]; rfl
 have N0 := Fr.nil n0
 have pre0 : oP p e below (s₁.setTop (mkF m 0 #[vI 3, vI 3, vU, vU, vU, vU, vU] [])) (s₁.setTop (entryFrame m #[(.int 3), (.int 3)] 7)) := fun t k => castTop (ef_9m3c3 m) k
 obtain ⟨fs, hr, hrun, hended, hW, hsame⟩ := X0.leave (v := some (.int 4)) (oR Bd.returns) (hlocks := Bd.notSynchronized)
 refine ⟨_, _, pre0 _ ?_, hrun, hended, _, _, rfl, ?_, ⟨_, rfl⟩, hW, hsame.mono (by decide) (by decide)⟩
 ·show Steps p.tables e below (s₁.setTop (mkF m 0 #[vI 3, vI 3, vU, vU, vU, vU, vU] [])) _
  refine XS.iloadN X0.here hx rfl (q d9_0) rfl ?_
  refine XS.i2l X0.here hx rfl (q d9_1) rfl ?_
  refine XS.lconst X0.here hx rfl (q d9_2) ?_
  refine XS.ladd X0.here hx rfl (q d9_3) rfl ?_
  refine XS.iloadN X0.here hx rfl (q d9_4) rfl ?_
  refine XS.i2l X0.here hx rfl (q d9_5) rfl ?_
  refine XS.lmul X0.here hx rfl (q d9_6) rfl ?_
  refine XS.lstoreN X0.here hx rfl (q d9_7) rfl (l' := #[vI 3, vI 3, vJ (12 : Int64), .second, vU, vU, vU]) rfl ?_
  refine XS.iloadN X0.here hx rfl (q d9_8) rfl ?_
  refine XS.iconst X0.here hx rfl (q d9_9) ?_
  refine XS.icmpNo X0.here hx rfl (q d9_10) rfl (feq (by decide : ¬ ((3 : Int32) = (1 : Int32)))).1 ?_
  refine XS.lloadN X0.here hx rfl (q d9_13) rfl ?_
  refine X0.ldc2Long hx hown (om hZ hw 67 rfl) (g := (mkF m 14 #[vI 3, vI 3, vJ (12 : Int64), .second, vU, vU, vU] [(.long (12 : Int64))])) rfl (q d9_14) _ ?_
  refine XS.lcmp X0.here hx rfl (q d9_17) rfl ?_
  refine XS.ifYes X0.here hx rfl (pc0 := 18) (pc' := 23) rfl (q d9_18) rfl (own_fltL (by decide : ¬ ((131072 : Int64) < (12 : Int64)))).2.2.2 (by decide) (by decide) ?_
  refine XS.iconst X0.here hx rfl (q d9_23) ?_
  refine XS.istore X0.here hx rfl (q d9_24) rfl (l' := #[vI 3, vI 3, vJ (12 : Int64), .second, vI 1, vU, vU]) rfl ?_
  refine XS.iloadN X0.here hx rfl (q d9_26) rfl ?_
  refine XS.i2l X0.here hx rfl (q d9_27) rfl ?_
  refine XS.lstore X0.here hx rfl (q d9_28) rfl (l' := #[vI 3, vI 3, vJ (12 : Int64), .second, vI 1, vJ (3 : Int64), .second]) rfl ?_
  refine XS.iload X0.here hx rfl (q d9_30) rfl ?_
  refine XS.iconst X0.here hx rfl (q d9_32) ?_
  refine XS.icmpNo X0.here hx rfl (q d9_33) rfl (tlt (by decide : ((1 : Int32) < (4 : Int32)))).2.1 ?_
  refine XS.lloadN X0.here hx rfl (q d9_36) rfl ?_
  refine XS.lload X0.here hx rfl (q d9_37) rfl ?_
  refine XS.lmul X0.here hx rfl (q d9_39) rfl ?_
  refine X0.ldc2Long hx hown (om hZ hw 67 rfl) (g := (mkF m 40 #[vI 3, vI 3, vJ (12 : Int64), .second, vI 1, vJ (3 : Int64), .second] [(.long (36 : Int64))])) rfl (q d9_40) _ ?_
  refine XS.lcmp X0.here hx rfl (q d9_43) rfl ?_
  refine XS.ifNo X0.here hx rfl (q d9_44) rfl (own_fltL (by decide : ¬ ((131072 : Int64) < (36 : Int64)))).2.2.1 ?_
  refine XS.lloadN X0.here hx rfl (q d9_47) rfl ?_
  refine XS.lload X0.here hx rfl (q d9_48) rfl ?_
  refine XS.lmul X0.here hx rfl (q d9_50) rfl ?_
  refine XS.lstoreN X0.here hx rfl (q d9_51) rfl (l' := #[vI 3, vI 3, vJ (36 : Int64), .second, vI 1, vJ (3 : Int64), .second]) rfl ?_
  refine XS.lload X0.here hx rfl (q d9_52) rfl ?_
  refine XS.lload X0.here hx rfl (q d9_54) rfl ?_
  refine XS.lmul X0.here hx rfl (q d9_56) rfl ?_
  refine XS.lstore X0.here hx rfl (q d9_57) rfl (l' := #[vI 3, vI 3, vJ (36 : Int64), .second, vI 1, vJ (9 : Int64), .second]) rfl ?_
  refine XS.iload X0.here hx rfl (q d9_59) rfl ?_
  refine XS.iconst X0.here hx rfl (q d9_61) ?_
  refine XS.imul X0.here hx rfl (q d9_62) rfl ?_
  refine XS.istore X0.here hx rfl (q d9_63) rfl (l' := #[vI 3, vI 3, vJ (36 : Int64), .second, vI 2, vJ (9 : Int64), .second]) rfl ?_
  refine XS.goto X0.here hx rfl (pc0 := 65) (pc' := 30) rfl (q d9_65) (by decide) (by decide) ?_
  refine XS.iload X0.here hx rfl (q d9_30) rfl ?_
  refine XS.iconst X0.here hx rfl (q d9_32) ?_
  refine XS.icmpNo X0.here hx rfl (q d9_33) rfl (tlt (by decide : ((2 : Int32) < (4 : Int32)))).2.1 ?_
  refine XS.lloadN X0.here hx rfl (q d9_36) rfl ?_
  refine XS.lload X0.here hx rfl (q d9_37) rfl ?_
  refine XS.lmul X0.here hx rfl (q d9_39) rfl ?_
  refine X0.ldc2Long hx hown (om hZ hw 67 rfl) (g := (mkF m 40 #[vI 3, vI 3, vJ (36 : Int64), .second, vI 2, vJ (9 : Int64), .second] [(.long (324 : Int64))])) rfl (q d9_40) _ ?_
  refine XS.lcmp X0.here hx rfl (q d9_43) rfl ?_
  refine XS.ifNo X0.here hx rfl (q d9_44) rfl (own_fltL (by decide : ¬ ((131072 : Int64) < (324 : Int64)))).2.2.1 ?_
  refine XS.lloadN X0.here hx rfl (q d9_47) rfl ?_
  refine XS.lload X0.here hx rfl (q d9_48) rfl ?_
  refine XS.lmul X0.here hx rfl (q d9_50) rfl ?_
  refine XS.lstoreN X0.here hx rfl (q d9_51) rfl (l' := #[vI 3, vI 3, vJ (324 : Int64), .second, vI 2, vJ (9 : Int64), .second]) rfl ?_
  refine XS.lload X0.here hx rfl (q d9_52) rfl ?_
  refine XS.lload X0.here hx rfl (q d9_54) rfl ?_
  refine XS.lmul X0.here hx rfl (q d9_56) rfl ?_
  refine XS.lstore X0.here hx rfl (q d9_57) rfl (l' := #[vI 3, vI 3, vJ (324 : Int64), .second, vI 2, vJ (81 : Int64), .second]) rfl ?_
  refine XS.iload X0.here hx rfl (q d9_59) rfl ?_
  refine XS.iconst X0.here hx rfl (q d9_61) ?_
  refine XS.imul X0.here hx rfl (q d9_62) rfl ?_
  refine XS.istore X0.here hx rfl (q d9_63) rfl (l' := #[vI 3, vI 3, vJ (324 : Int64), .second, vI 4, vJ (81 : Int64), .second]) rfl ?_
  refine XS.goto X0.here hx rfl (pc0 := 65) (pc' := 30) rfl (q d9_65) (by decide) (by decide) ?_
  refine XS.iload X0.here hx rfl (q d9_30) rfl ?_
  refine XS.iconst X0.here hx rfl (q d9_32) ?_
  refine XS.icmpYes X0.here hx rfl (pc0 := 33) (pc' := 68) rfl (q d9_33) rfl (flt (by decide : ¬ ((4 : Int32) < (4 : Int32)))).2.1 (by decide) (by decide) ?_
  refine XS.iload X0.here hx rfl (q d9_68) rfl ?_
  exact retI X0 hx Bd.returns (q d9_70) hr
 ·show Q9m3c3 Z  h0 n0 _ s₁.heap _
  rw [e0]
  exact ⟨rfl, N0, rfl⟩
theorem ef_9m3c4 (m : MethodId) : entryFrame m #[(.int 3), (.int 4)] 7 = mkF m 0 #[vI 3, vI 4, .unset, .unset, .unset, .unset, .unset] [] := by first | (simp [entryFrame, mkF, argsToLocals, Value.category]; done) | rfl
def Q9m3c4 (Z : State)  (h0 : Heap) (n0 : Nat) (v : Option Value) (h : Heap) (L : List Loc) : Prop := v = some (.int 4) ∧ Fr n0 L ∧ h = h0
set_option maxRecDepth 65536 in
set_option maxHeartbeats 40000000 in
theorem rm9m3c4 (l : Launch) (Z : State) (a0 : Array Value) (hw : ∀ d ∈ tables_1, d.before a0 Z = true) (ws : List Jvm.Cond)  (h0 : Heap) (n0 : Nat) (Z0 : n0 ≤ h0.size) :
  MetFree l mN2 (head1 (Jvm.Cond.code mN2 prog_23_method_4_code 7 (some .int) :: ws) ({ frames := 0, cells := 0, slots := 0, locals := 0 } : Room)) (fun a U => a = #[(.int 3), (.int 4)] ∧ Z.Warmed39 U.vm ∧ U.heap = h0) (fun _ _ _ _ _ => True) (fun _ U o U' => ∃ v L, o = .returned v ∧ Q9m3c4 Z  h0 n0 v U'.heap L ∧ FrameEnd U o U' L ({ frames := 0, cells := 0, slots := 0, locals := 0 } : Room).cells ({ frames := 0, cells := 0, slots := 0, locals := 0 } : Room).slots) := by
 refine MetFree.of_bodySF (plainFor_of_name pn_skipstitch_search_Automaton) hisR ?_
 intro p e s m args below meth c s₁ Bd hml0 hP hK
 obtain ⟨rfl, hZ, hh⟩ := hP
 have hx := Bd.exec
 have hby := Bd.bytes
 have q {i : Nat} {r : _} (h : decode _ i = r) := hb hby h
 have hml : c.maxLocals = 7 := hml0
 have hown : s.vm.findClass cS0 = some m.cls := findClass_of_methodNamed Bd.named
 have hnm := (name_of_methodNamed Bd.named Bd.method).1
 have X0 : Stand p l e ({ frames := 0, cells := 0, slots := 0, locals := 0 } : Room) s m #[(.int 3), (.int 4)] below meth c s₁ [] 0 0 := Stand.of_body Bd
 have e0 : s₁.heap = h0 := by rw [← hh, Bd.state]; rfl
 have N0 := Fr.nil n0
 have pre0 : oP p e below (s₁.setTop (mkF m 0 #[vI 3, vI 4, vU, vU, vU, vU, vU] [])) (s₁.setTop (entryFrame m #[(.int 3), (.int 4)] 7)) := fun t k => castTop (ef_9m3c4 m) k
 obtain ⟨fs, hr, hrun, hended, hW, hsame⟩ := X0.leave (v := some (.int 4)) (oR Bd.returns) (hlocks := Bd.notSynchronized)
 refine ⟨_, _, pre0 _ ?_, hrun, hended, _, _, rfl, ?_, ⟨_, rfl⟩, hW, hsame.mono (by decide) (by decide)⟩
 ·show Steps p.tables e below (s₁.setTop (mkF m 0 #[vI 3, vI 4, vU, vU, vU, vU, vU] [])) _
  refine XS.iloadN X0.here hx rfl (q d9_0) rfl ?_
  refine XS.i2l X0.here hx rfl (q d9_1) rfl ?_
  refine XS.lconst X0.here hx rfl (q d9_2) ?_
  refine XS.ladd X0.here hx rfl (q d9_3) rfl ?_
  refine XS.iloadN X0.here hx rfl (q d9_4) rfl ?_
  refine XS.i2l X0.here hx rfl (q d9_5) rfl ?_
  refine XS.lmul X0.here hx rfl (q d9_6) rfl ?_
  refine XS.lstoreN X0.here hx rfl (q d9_7) rfl (l' := #[vI 3, vI 4, vJ (16 : Int64), .second, vU, vU, vU]) rfl ?_
  refine XS.iloadN X0.here hx rfl (q d9_8) rfl ?_
  refine XS.iconst X0.here hx rfl (q d9_9) ?_
  refine XS.icmpNo X0.here hx rfl (q d9_10) rfl (feq (by decide : ¬ ((3 : Int32) = (1 : Int32)))).1 ?_
  refine XS.lloadN X0.here hx rfl (q d9_13) rfl ?_
  refine X0.ldc2Long hx hown (om hZ hw 67 rfl) (g := (mkF m 14 #[vI 3, vI 4, vJ (16 : Int64), .second, vU, vU, vU] [(.long (16 : Int64))])) rfl (q d9_14) _ ?_
  refine XS.lcmp X0.here hx rfl (q d9_17) rfl ?_
  refine XS.ifYes X0.here hx rfl (pc0 := 18) (pc' := 23) rfl (q d9_18) rfl (own_fltL (by decide : ¬ ((131072 : Int64) < (16 : Int64)))).2.2.2 (by decide) (by decide) ?_
  refine XS.iconst X0.here hx rfl (q d9_23) ?_
  refine XS.istore X0.here hx rfl (q d9_24) rfl (l' := #[vI 3, vI 4, vJ (16 : Int64), .second, vI 1, vU, vU]) rfl ?_
  refine XS.iloadN X0.here hx rfl (q d9_26) rfl ?_
  refine XS.i2l X0.here hx rfl (q d9_27) rfl ?_
  refine XS.lstore X0.here hx rfl (q d9_28) rfl (l' := #[vI 3, vI 4, vJ (16 : Int64), .second, vI 1, vJ (4 : Int64), .second]) rfl ?_
  refine XS.iload X0.here hx rfl (q d9_30) rfl ?_
  refine XS.iconst X0.here hx rfl (q d9_32) ?_
  refine XS.icmpNo X0.here hx rfl (q d9_33) rfl (tlt (by decide : ((1 : Int32) < (4 : Int32)))).2.1 ?_
  refine XS.lloadN X0.here hx rfl (q d9_36) rfl ?_
  refine XS.lload X0.here hx rfl (q d9_37) rfl ?_
  refine XS.lmul X0.here hx rfl (q d9_39) rfl ?_
  refine X0.ldc2Long hx hown (om hZ hw 67 rfl) (g := (mkF m 40 #[vI 3, vI 4, vJ (16 : Int64), .second, vI 1, vJ (4 : Int64), .second] [(.long (64 : Int64))])) rfl (q d9_40) _ ?_
  refine XS.lcmp X0.here hx rfl (q d9_43) rfl ?_
  refine XS.ifNo X0.here hx rfl (q d9_44) rfl (own_fltL (by decide : ¬ ((131072 : Int64) < (64 : Int64)))).2.2.1 ?_
  refine XS.lloadN X0.here hx rfl (q d9_47) rfl ?_
  refine XS.lload X0.here hx rfl (q d9_48) rfl ?_
  refine XS.lmul X0.here hx rfl (q d9_50) rfl ?_
  refine XS.lstoreN X0.here hx rfl (q d9_51) rfl (l' := #[vI 3, vI 4, vJ (64 : Int64), .second, vI 1, vJ (4 : Int64), .second]) rfl ?_
  refine XS.lload X0.here hx rfl (q d9_52) rfl ?_
  refine XS.lload X0.here hx rfl (q d9_54) rfl ?_
  refine XS.lmul X0.here hx rfl (q d9_56) rfl ?_
  refine XS.lstore X0.here hx rfl (q d9_57) rfl (l' := #[vI 3, vI 4, vJ (64 : Int64), .second, vI 1, vJ (16 : Int64), .second]) rfl ?_
  refine XS.iload X0.here hx rfl (q d9_59) rfl ?_
  refine XS.iconst X0.here hx rfl (q d9_61) ?_
  refine XS.imul X0.here hx rfl (q d9_62) rfl ?_
  refine XS.istore X0.here hx rfl (q d9_63) rfl (l' := #[vI 3, vI 4, vJ (64 : Int64), .second, vI 2, vJ (16 : Int64), .second]) rfl ?_
  refine XS.goto X0.here hx rfl (pc0 := 65) (pc' := 30) rfl (q d9_65) (by decide) (by decide) ?_
  refine XS.iload X0.here hx rfl (q d9_30) rfl ?_
  refine XS.iconst X0.here hx rfl (q d9_32) ?_
  refine XS.icmpNo X0.here hx rfl (q d9_33) rfl (tlt (by decide : ((2 : Int32) < (4 : Int32)))).2.1 ?_
  refine XS.lloadN X0.here hx rfl (q d9_36) rfl ?_
  refine XS.lload X0.here hx rfl (q d9_37) rfl ?_
  refine XS.lmul X0.here hx rfl (q d9_39) rfl ?_
  refine X0.ldc2Long hx hown (om hZ hw 67 rfl) (g := (mkF m 40 #[vI 3, vI 4, vJ (64 : Int64), .second, vI 2, vJ (16 : Int64), .second] [(.long (1024 : Int64))])) rfl (q d9_40) _ ?_
  refine XS.lcmp X0.here hx rfl (q d9_43) rfl ?_
  refine XS.ifNo X0.here hx rfl (q d9_44) rfl (own_fltL (by decide : ¬ ((131072 : Int64) < (1024 : Int64)))).2.2.1 ?_
  refine XS.lloadN X0.here hx rfl (q d9_47) rfl ?_
  refine XS.lload X0.here hx rfl (q d9_48) rfl ?_
  refine XS.lmul X0.here hx rfl (q d9_50) rfl ?_
  refine XS.lstoreN X0.here hx rfl (q d9_51) rfl (l' := #[vI 3, vI 4, vJ (1024 : Int64), .second, vI 2, vJ (16 : Int64), .second]) rfl ?_
  refine XS.lload X0.here hx rfl (q d9_52) rfl ?_
  refine XS.lload X0.here hx rfl (q d9_54) rfl ?_
  refine XS.lmul X0.here hx rfl (q d9_56) rfl ?_
  refine XS.lstore X0.here hx rfl (q d9_57) rfl (l' := #[vI 3, vI 4, vJ (1024 : Int64), .second, vI 2, vJ (256 : Int64), .second]) rfl ?_
  refine XS.iload X0.here hx rfl (q d9_59) rfl ?_
  refine XS.iconst X0.here hx rfl (q d9_61) ?_
  refine XS.imul X0.here hx rfl (q d9_62) rfl ?_
  refine XS.istore X0.here hx rfl (q d9_63) rfl (l' := #[vI 3, vI 4, vJ (1024 : Int64), .second, vI 4, vJ (256 : Int64), .second]) rfl ?_
  refine XS.goto X0.here hx rfl (pc0 := 65) (pc' := 30) rfl (q d9_65) (by decide) (by decide) ?_
  refine XS.iload X0.here hx rfl (q d9_30) rfl ?_
  refine XS.iconst X0.here hx rfl (q d9_32) ?_
  refine XS.icmpYes X0.here hx rfl (pc0 := 33) (pc' := 68) rfl (q d9_33) rfl (flt (by decide : ¬ ((4 : Int32) < (4 : Int32)))).2.1 (by decide) (by decide) ?_
  refine XS.iload X0.here hx rfl (q d9_68) rfl ?_
  exact retI X0 hx Bd.returns (q d9_70) hr
 ·show Q9m3c4 Z  h0 n0 _ s₁.heap _
  rw [e0]
  exact ⟨rfl, N0, rfl⟩
theorem ef_6k1 (m : MethodId) (rp : Addr) : entryFrame m #[(.ref rp)] 7 = mkF m 0 #[vR rp, .unset, .unset, .unset, .unset, .unset, .unset] [] := by first | (simp [entryFrame, mkF, argsToLocals, Value.category]; done) | rfl
abbrev D_3 (k : Nat) := decode prog_23_method_6_code k
theorem d6_0 : D_3 0 = .ok (.sipush 256, 3) := by decide +kernel
theorem d6_3 : D_3 3 = .ok (.newarray .int, 2) := by decide +kernel
theorem d6_5 : D_3 5 = .ok (.astore_n 1, 1) := by decide +kernel
theorem d6_6 : D_3 6 = .ok (.iconst 1, 1) := by decide +kernel
theorem d6_7 : D_3 7 = .ok (.istore_n 2, 1) := by decide +kernel
theorem d6_8 : D_3 8 = .ok (.aload_n 0, 1) := by decide +kernel
theorem d6_9 : D_3 9 = .ok (.astore_n 3, 1) := by decide +kernel
theorem d6_10 : D_3 10 = .ok (.aload_n 3, 1) := by decide +kernel
theorem d6_11 : D_3 11 = .ok (.arraylength, 1) := by decide +kernel
theorem d6_12 : D_3 12 = .ok (.istore 4, 2) := by decide +kernel
theorem d6_14 : D_3 14 = .ok (.iconst 0, 1) := by decide +kernel
theorem d6_15 : D_3 15 = .ok (.istore 5, 2) := by decide +kernel
theorem d6_17 : D_3 17 = .ok (.iload 5, 2) := by decide +kernel
theorem d6_19 : D_3 19 = .ok (.iload 4, 2) := by decide +kernel
theorem d6_21 : D_3 21 = .ok (.if_icmp .ge 38, 3) := by decide +kernel
theorem d6_24 : D_3 24 = .ok (.aload_n 3, 1) := by decide +kernel
theorem d6_25 : D_3 25 = .ok (.iload 5, 2) := by decide +kernel
theorem d6_27 : D_3 27 = .ok (.baload, 1) := by decide +kernel
theorem d6_28 : D_3 28 = .ok (.istore 6, 2) := by decide +kernel
theorem d6_30 : D_3 30 = .ok (.aload_n 1, 1) := by decide +kernel
theorem d6_31 : D_3 31 = .ok (.iload 6, 2) := by decide +kernel
theorem d6_33 : D_3 33 = .ok (.sipush 255, 3) := by decide +kernel
theorem d6_36 : D_3 36 = .ok (.iand, 1) := by decide +kernel
theorem d6_37 : D_3 37 = .ok (.iaload, 1) := by decide +kernel
theorem d6_38 : D_3 38 = .ok (.ifCond .ne 15, 3) := by decide +kernel
theorem d6_41 : D_3 41 = .ok (.aload_n 1, 1) := by decide +kernel
theorem d6_42 : D_3 42 = .ok (.iload 6, 2) := by decide +kernel
theorem d6_44 : D_3 44 = .ok (.sipush 255, 3) := by decide +kernel
theorem d6_47 : D_3 47 = .ok (.iand, 1) := by decide +kernel
theorem d6_48 : D_3 48 = .ok (.iload_n 2, 1) := by decide +kernel
theorem d6_49 : D_3 49 = .ok (.iinc 2 1, 3) := by decide +kernel
theorem d6_52 : D_3 52 = .ok (.iastore, 1) := by decide +kernel
theorem d6_53 : D_3 53 = .ok (.iinc 5 1, 3) := by decide +kernel
theorem d6_56 : D_3 56 = .ok (.goto (-39), 3) := by decide +kernel
theorem d6_59 : D_3 59 = .ok (.aload_n 1, 1) := by decide +kernel
theorem d6_60 : D_3 60 = .ok (.areturn, 1) := by decide +kernel
def Q6k1 (Z : State) (rp : Addr) (fp : Nat → Int32) (h0 : Heap) (n0 : Nat) (v : Option Value) (h : Heap) (L : List Loc) : Prop := ∃ fr0 : Addr, ∃ fx0 : Nat → Int32, n0 ≤ fr0 ∧ h0.size ≤ fr0 ∧ v = some (.ref fr0) ∧ Fr n0 L ∧ Keep h0 h [] ∧ AI Z h fr0 .int 256 fx0
set_option maxRecDepth 65536 in
set_option maxHeartbeats 40000000 in
theorem rm6k1 (l : Launch) (Z : State) (a0 : Array Value) (hw : ∀ d ∈ tables_1, d.before a0 Z = true) (ws : List Jvm.Cond) (rp : Addr) (fp : Nat → Int32) (h0 : Heap) (n0 : Nat) (Z0 : n0 ≤ h0.size) (A_rp : AI Z h0 rp .byte 1 fp) :
  MetFree l mN3 (head1 (Jvm.Cond.code mN3 prog_23_method_6_code 7 (some (.array .int)) :: ws) ({ frames := 0, cells := 1, slots := 256, locals := 0 } : Room)) (fun a U => a = #[(.ref rp)] ∧ Z.Warmed39 U.vm ∧ U.heap = h0) (fun _ _ _ _ _ => True) (fun _ U o U' => ∃ v L, o = .returned v ∧ Q6k1 Z rp fp h0 n0 v U'.heap L ∧ FrameEnd U o U' L ({ frames := 0, cells := 1, slots := 256, locals := 0 } : Room).cells ({ frames := 0, cells := 1, slots := 256, locals := 0 } : Room).slots) := by
 refine MetFree.of_bodySF (plainFor_of_name pn_skipstitch_search_Automaton) hisR ?_
 intro p e s m args below meth c s₁ Bd hml0 hP hK
 obtain ⟨rfl, hZ, hh⟩ := hP
 have hx := Bd.exec
 have hby := Bd.bytes
 have q {i : Nat} {r : _} (h : decode _ i = r) := hb hby h
 have hml : c.maxLocals = 7 := hml0
 have hown : s.vm.findClass cS0 = some m.cls := findClass_of_methodNamed Bd.named
 have hnm := (name_of_methodNamed Bd.named Bd.method).1
 have X0 : Stand p l e ({ frames := 0, cells := 1, slots := 256, locals := 0 } : Room) s m #[(.ref rp)] below meth c s₁ [] 0 0 := Stand.of_body Bd
 have e0 : s₁.heap = h0 := by rw [← hh, Bd.state]; rfl
 have N0 := Fr.nil n0
 have K0 : Keep h0 h0 [] := Keep.refl h0 _
 have pre0 : oP p e below (s₁.setTop (mkF m 0 #[vR rp, vU, vU, vU, vU, vU, vU] [])) (s₁.setTop (entryFrame m #[(.ref rp)] 7)) := fun t k => castTop (ef_6k1 m rp) k
 obtain ⟨T1, h1, k1, X1, e1, E1, A1, st1⟩ := newP X0 hx hZ (ow hw 2 rfl) e0 (g := (mkF m 3 #[vR rp, vU, vU, vU, vU, vU, vU] [(.int 256)])) rfl (q d6_3) rfl (by decide) (cap := 256) (by decide) (by decide) (by decide) (by decide)
 obtain ⟨b1, g1⟩ : ∃ z, z = h0.size := ⟨_, rfl⟩
 rw [← g1] at A1 st1
 have gg1 := oL Z0 g1
 have sz1 := oL K0.1 g1
 have f3 := A_rp.ext E1
 have K1 := K0.ext E1
 have f4 : AI Z h1 b1 .int 256 zI := AF.new A1 (by decide)
 obtain ⟨cl5, Arcl5, Szcl5⟩ := AF.len f3
 obtain ⟨cl6, Arcl6, hincl6, hatcl6⟩ := AF.at f3 (j := (0 : Int32)) 0 (by decide) (by decide)
 obtain ⟨cl7, Arcl7, hincl7, hatcl7⟩ := AF.at f4 (j := ((fp 0) &&& (255 : Int32))) (own_iy (fp 0)) (own_iy1 (fp 0)) (own_iy2 (fp 0))
 obtain ⟨cl8, Arcl8, hincl8, -⟩ := AF.at f4 (j := ((fp 0) &&& (255 : Int32))) (own_iy (fp 0)) (own_iy1 (fp 0)) (own_iy2 (fp 0))
 obtain ⟨T9, h9, X9, e9, W9, st9⟩ := stI X1 hx hZ e1 Arcl8 (j := ((fp 0) &&& (255 : Int32))) hincl8 (g := (mkF m 52 #[vR rp, vR b1, vI 2, vR rp, vI 1, vI 0, vI (fp 0)] [(.int 1), (.int ((fp 0) &&& (255 : Int32))), (.ref b1)])) rfl rfl (q d6_52)
 have N9 := Fr.snoc X9 N0 gg1
 have K9 := K1.wr W9 (Or.inr sz1)
 have f10 : AI Z h9 b1 .int 256 (up zI (own_iy (fp 0)) (1 : Int32)) := AF.setI f4 W9 (own_iy (fp 0)) (own_iy1 (fp 0))
 obtain ⟨fs, hr, hrun, hended, hW, hsame⟩ := X9.leave (v := some (.ref b1)) (oR Bd.returns) (hlocks := Bd.notSynchronized)
 refine ⟨_, _, pre0 _ ?_, hrun, hended, _, _, rfl, ?_, ⟨_, rfl⟩, hW, hsame.mono (by decide) (by decide)⟩
 ·show Steps p.tables e below (s₁.setTop (mkF m 0 #[vR rp, vU, vU, vU, vU, vU, vU] [])) _
  refine XS.sipush X0.here hx rfl (q d6_0) ?_
  refine st1 _ ?_
  refine XS.astoreN X1.here hx rfl (q d6_5) rfl rfl (l' := #[vR rp, vR b1, vU, vU, vU, vU, vU]) rfl ?_
  refine XS.iconst X1.here hx rfl (q d6_6) ?_
  refine XS.istoreN X1.here hx rfl (q d6_7) rfl (l' := #[vR rp, vR b1, vI 1, vU, vU, vU, vU]) rfl ?_
  refine XS.aloadN X1.here hx rfl (q d6_8) rfl rfl ?_
  refine XS.astoreN X1.here hx rfl (q d6_9) rfl rfl (l' := #[vR rp, vR b1, vI 1, vR rp, vU, vU, vU]) rfl ?_
  refine XS.aloadN X1.here hx rfl (q d6_10) rfl rfl ?_
  refine X1.arraylength hx (by rw [e1]; exact Arcl5.1) (State.isArrayOf_alike hZ.alike Arcl5.2.1) (g := (mkF m 11 #[vR rp, vR b1, vI 1, vR rp, vU, vU, vU] [(.ref rp)])) rfl rfl (q d6_11) _ ?_
  rw [Szcl5]
  refine XS.istore X1.here hx rfl (q d6_12) rfl (l' := #[vR rp, vR b1, vI 1, vR rp, vI 1, vU, vU]) rfl ?_
  refine XS.iconst X1.here hx rfl (q d6_14) ?_
  refine XS.istore X1.here hx rfl (q d6_15) rfl (l' := #[vR rp, vR b1, vI 1, vR rp, vI 1, vI 0, vU]) rfl ?_
  refine XS.iload X1.here hx rfl (q d6_17) rfl ?_
  refine XS.iload X1.here hx rfl (q d6_19) rfl ?_
  refine XS.icmpNo X1.here hx rfl (q d6_21) rfl (tlt (by decide : ((0 : Int32) < (1 : Int32)))).2.1 ?_
  refine XS.aloadN X1.here hx rfl (q d6_24) rfl rfl ?_
  refine XS.iload X1.here hx rfl (q d6_25) rfl ?_
  refine X1.baloadBytes hx (j := (0 : Int32)) (v := (.int (fp 0))) (by rw [e1]; exact Arcl6.1) (State.isArrayOf_alike hZ.alike Arcl6.2.1) Arcl6.2.2 hincl6 hatcl6 (g := (mkF m 27 #[vR rp, vR b1, vI 1, vR rp, vI 1, vI 0, vU] [(.int 0), (.ref rp)])) rfl rfl (q d6_27) _ ?_
  refine XS.istore X1.here hx rfl (q d6_28) rfl (l' := #[vR rp, vR b1, vI 1, vR rp, vI 1, vI 0, vI (fp 0)]) rfl ?_
  refine XS.aloadN X1.here hx rfl (q d6_30) rfl rfl ?_
  refine XS.iload X1.here hx rfl (q d6_31) rfl ?_
  refine XS.sipush X1.here hx rfl (q d6_33) ?_
  refine XS.iand X1.here hx rfl (q d6_36) rfl ?_
  refine X1.iaload hx (j := ((fp 0) &&& (255 : Int32))) (v := (.int 0)) (by rw [e1]; exact Arcl7.1) (State.isArrayOf_alike hZ.alike Arcl7.2.1) Arcl7.2.2 hincl7 hatcl7 (g := (mkF m 37 #[vR rp, vR b1, vI 1, vR rp, vI 1, vI 0, vI (fp 0)] [(.int ((fp 0) &&& (255 : Int32))), (.ref b1)])) rfl rfl (q d6_37) _ ?_
  refine XS.ifNo X1.here hx rfl (q d6_38) rfl ((if0 _ _).trans (teq (by decide : ((0 : Int32) = (0 : Int32)))).2) ?_
  refine XS.aloadN X1.here hx rfl (q d6_41) rfl rfl ?_
  refine XS.iload X1.here hx rfl (q d6_42) rfl ?_
  refine XS.sipush X1.here hx rfl (q d6_44) ?_
  refine XS.iand X1.here hx rfl (q d6_47) rfl ?_
  refine XS.iloadN X1.here hx rfl (q d6_48) rfl ?_
  refine XS.iinc X1.here hx rfl (q d6_49) rfl (l' := #[vR rp, vR b1, vI 2, vR rp, vI 1, vI 0, vI (fp 0)]) rfl ?_
  refine st9 _ ?_
  refine XS.iinc X9.here hx rfl (q d6_53) rfl (l' := #[vR rp, vR b1, vI 2, vR rp, vI 1, vI 1, vI (fp 0)]) rfl ?_
  refine XS.goto X9.here hx rfl (pc0 := 56) (pc' := 17) rfl (q d6_56) (by decide) (by decide) ?_
  refine XS.iload X9.here hx rfl (q d6_17) rfl ?_
  refine XS.iload X9.here hx rfl (q d6_19) rfl ?_
  refine XS.icmpYes X9.here hx rfl (pc0 := 21) (pc' := 59) rfl (q d6_21) rfl (flt (by decide : ¬ ((1 : Int32) < (1 : Int32)))).2.1 (by decide) (by decide) ?_
  refine XS.aloadN X9.here hx rfl (q d6_59) rfl rfl ?_
  exact retOut X9 hx Bd.returns rfl (Or.inr (Or.inr (Or.inr (Or.inr ⟨rfl, rfl, rfl⟩)))) (q d6_60) hr
 ·show Q6k1 Z rp fp h0 n0 _ T9.heap _
  rw [e9]
  exact ⟨b1, (up zI (own_iy (fp 0)) (1 : Int32)), gg1, sz1, rfl, N9, K9, f10⟩
theorem ef_11k1 (m : MethodId) (rp : Addr) : entryFrame m #[(.ref rp)] 1 = mkF m 0 #[vR rp] [] := by first | (simp [entryFrame, mkF, argsToLocals, Value.category]; done) | rfl
abbrev D_4 (k : Nat) := decode prog_23_method_3_code k
theorem d11_0 : D_4 0 = .ok (.aload_n 0, 1) := by decide +kernel
theorem d11_1 : D_4 1 = .ok (.arraylength, 1) := by decide +kernel
theorem d11_2 : D_4 2 = .ok (.aload_n 0, 1) := by decide +kernel
theorem pd_1 : parseMethodDescriptor "([B)I" = some ⟨[(.array .byte)], some .int⟩ := by decide +kernel
theorem d11_3 : D_4 3 = .ok (.invokestatic 44, 3) := by decide +kernel
theorem pd_2 : parseMethodDescriptor "(II)I" = some ⟨[.int, .int], some .int⟩ := by decide +kernel
theorem d11_6 : D_4 6 = .ok (.invokestatic 48, 3) := by decide +kernel
theorem d11_9 : D_4 9 = .ok (.ireturn, 1) := by decide +kernel
def Q11k1 (Z : State) (rp : Addr) (fp : Nat → Int32) (h0 : Heap) (n0 : Nat) (v : Option Value) (h : Heap) (L : List Loc) : Prop := v = some (.int 0) ∧ Fr n0 L ∧ Keep h0 h []
set_option maxRecDepth 65536 in
set_option maxHeartbeats 40000000 in
theorem rm11k1 (l : Launch) (Z : State) (a0 : Array Value) (hw : ∀ d ∈ tables_1, d.before a0 Z = true) (ws : List Jvm.Cond) (rp : Addr) (fp : Nat → Int32) (h0 : Heap) (n0 : Nat) (Z0 : n0 ≤ h0.size) (A_rp : AI Z h0 rp .byte 1 fp) :
  MetFree l mN4 (head1 (Jvm.Cond.code mN4 prog_23_method_3_code 1 (some .int) :: ws) ({ frames := 2, cells := 1, slots := 4, locals := 32 } : Room)) (fun a U => a = #[(.ref rp)] ∧ Z.Warmed39 U.vm ∧ U.heap = h0) (fun _ _ _ _ _ => True) (fun _ U o U' => ∃ v L, o = .returned v ∧ Q11k1 Z rp fp h0 n0 v U'.heap L ∧ FrameEnd U o U' L ({ frames := 2, cells := 1, slots := 4, locals := 32 } : Room).cells ({ frames := 2, cells := 1, slots := 4, locals := 32 } : Room).slots) := by
 refine MetFree.of_bodySF (plainFor_of_name pn_skipstitch_search_Automaton) hisR ?_
 intro p e s m args below meth c s₁ Bd hml0 hP hK
 obtain ⟨rfl, hZ, hh⟩ := hP
 have hx := Bd.exec
 have hby := Bd.bytes
 have q {i : Nat} {r : _} (h : decode _ i = r) := hb hby h
 have hml : c.maxLocals = 1 := hml0
 have hown : s.vm.findClass cS0 = some m.cls := findClass_of_methodNamed Bd.named
 have hnm := (name_of_methodNamed Bd.named Bd.method).1
 have X0 : Stand p l e ({ frames := 2, cells := 1, slots := 4, locals := 32 } : Room) s m #[(.ref rp)] below meth c s₁ [] 0 0 := Stand.of_body Bd
 have e0 : s₁.heap = h0 := by rw [← hh, Bd.state]; rfl
 have N0 := Fr.nil n0
 have K0 : Keep h0 h0 [] := Keep.refl h0 _
 have pre0 : oP p e below (s₁.setTop (mkF m 0 #[vR rp] [])) (s₁.setTop (entryFrame m #[(.ref rp)] 1)) := fun t k => castTop (ef_11k1 m rp) k
 obtain ⟨cl1, Arcl1, Szcl1⟩ := AF.len A_rp
 obtain ⟨_, _, ⟨T2, L2, k2, n2⟩, -, X2, ⟨Lc2, hQ2, l2, y2, z2⟩, st2⟩ := Jvm.LawKit.callS X0 hx (y := mN1) hown (om hZ hw 37 rfl) (om hZ hw 38 rfl) (om hZ hw 32 rfl) (om hZ hw 39 rfl) (by decide) (backOf (W := 1) (rm7k1 l Z a0 hw [] rp fp h0 n0 Z0 A_rp) hZ (ow hw 39 rfl) (ow hw 32 rfl) (by decide) (by decide)) (g := (mkF m 3 #[vR rp] [(.ref rp), (.int 1)])) rfl (by rw [hml]; rfl) (argsL := [(.ref rp)]) (rest := [(.int 1)]) (lenOf pd_1 rfl) rfl (oz rfl) (q d11_3) (fun _ _ => ⟨rfl, e0, (by decide : 0 + 1 ≤ _), (by decide : 0 + 4 ≤ _)⟩)
 dsimp only [Pt.U, Pt.locs, Pt.cells, Pt.slots] at X2 l2 y2 z2 st2 hQ2
 subst y2 z2
 obtain ⟨rfl, N2q, K2c⟩ := hQ2
 have N2 := oF l2 N0 N2q
 have Z2 := Nat.le_trans Z0 K2c.1
 have K2 := K0.trans K2c all0
 obtain ⟨_, _, ⟨T4, L4, k4, n4⟩, -, X4, ⟨Lc4, hQ4, l4, y4, z4⟩, st4⟩ := Jvm.LawKit.callS X2 hx (y := mN2) hown (om hZ hw 48 rfl) (om hZ hw 49 rfl) (om hZ hw 32 rfl) (om hZ hw 50 rfl) (by decide) (backOf (W := 0) (rm9m1 l Z a0 hw [] (r7k1_v fp) T2.heap n0 Z2 ) hZ (ow hw 50 rfl) (ow hw 32 rfl) (by decide) (by decide)) (g := (mkF m 6 #[vR rp] [(.int (r7k1_v fp)), (.int 1)])) rfl (by rw [hml]; rfl) (argsL := [(.int 1), (.int (r7k1_v fp))]) (rest := []) (lenOf pd_2 rfl) rfl (oz rfl) (q d11_6) (fun _ _ => ⟨rfl, rfl, (by decide : 1 + 0 ≤ _), (by decide : 4 + 0 ≤ _)⟩)
 dsimp only [Pt.U, Pt.locs, Pt.cells, Pt.slots] at X4 l4 y4 z4 st4 hQ4
 subst y4 z4
 obtain ⟨rfl, N4q, e4⟩ := hQ4
 have N4 := oF l4 N2 N4q
 obtain ⟨fs, hr, hrun, hended, hW, hsame⟩ := X4.leave (v := some (.int 0)) (oR Bd.returns) (hlocks := Bd.notSynchronized)
 refine ⟨_, _, pre0 _ ?_, hrun, hended, _, _, rfl, ?_, ⟨_, rfl⟩, hW, hsame.mono (by decide) (by decide)⟩
 ·show Steps p.tables e below (s₁.setTop (mkF m 0 #[vR rp] [])) _
  refine XS.aloadN X0.here hx rfl (q d11_0) rfl rfl ?_
  refine X0.arraylength hx (by rw [e0]; exact Arcl1.1) (State.isArrayOf_alike hZ.alike Arcl1.2.1) (g := (mkF m 1 #[vR rp] [(.ref rp)])) rfl rfl (q d11_1) _ ?_
  rw [Szcl1]
  refine XS.aloadN X0.here hx rfl (q d11_2) rfl rfl ?_
  refine st2 _ ?_
  refine st4 _ ?_
  exact retI X4 hx Bd.returns (q d11_9) hr
 ·show Q11k1 Z rp fp h0 n0 _ T4.heap _
  rw [e4]
  exact ⟨rfl, N4, K2⟩
theorem ef_13k1 (m : MethodId) (rp : Addr) : entryFrame m #[(.ref rp)] 9 = mkF m 0 #[vR rp, .unset, .unset, .unset, .unset, .unset, .unset, .unset, .unset] [] := by first | (simp [entryFrame, mkF, argsToLocals, Value.category]; done) | rfl
abbrev D_5 (k : Nat) := decode prog_23_method_5_code k
theorem d13_0 : D_5 0 = .ok (.aload_n 0, 1) := by decide +kernel
theorem d13_1 : D_5 1 = .ok (.arraylength, 1) := by decide +kernel
theorem d13_2 : D_5 2 = .ok (.istore_n 1, 1) := by decide +kernel
theorem d13_3 : D_5 3 = .ok (.aload_n 0, 1) := by decide +kernel
theorem d13_4 : D_5 4 = .ok (.invokestatic 44, 3) := by decide +kernel
theorem d13_7 : D_5 7 = .ok (.istore_n 2, 1) := by decide +kernel
theorem d13_8 : D_5 8 = .ok (.iload_n 1, 1) := by decide +kernel
theorem d13_9 : D_5 9 = .ok (.iload_n 2, 1) := by decide +kernel
theorem d13_10 : D_5 10 = .ok (.invokestatic 48, 3) := by decide +kernel
theorem d13_13 : D_5 13 = .ok (.istore_n 3, 1) := by decide +kernel
theorem d13_14 : D_5 14 = .ok (.lconst 0, 1) := by decide +kernel
theorem d13_15 : D_5 15 = .ok (.lstore 4, 2) := by decide +kernel
theorem d13_17 : D_5 17 = .ok (.iload_n 2, 1) := by decide +kernel
theorem d13_18 : D_5 18 = .ok (.i2l, 1) := by decide +kernel
theorem d13_19 : D_5 19 = .ok (.lstore 6, 2) := by decide +kernel
theorem d13_21 : D_5 21 = .ok (.iconst 1, 1) := by decide +kernel
theorem d13_22 : D_5 22 = .ok (.istore 8, 2) := by decide +kernel
theorem d13_24 : D_5 24 = .ok (.iload 8, 2) := by decide +kernel
theorem d13_26 : D_5 26 = .ok (.iload_n 3, 1) := by decide +kernel
theorem d13_27 : D_5 27 = .ok (.if_icmp .gt 31, 3) := by decide +kernel
theorem d13_58 : D_5 58 = .ok (.lload 4, 2) := by decide +kernel
theorem d13_60 : D_5 60 = .ok (.lreturn, 1) := by decide +kernel
def Q13k1 (Z : State) (rp : Addr) (fp : Nat → Int32) (h0 : Heap) (n0 : Nat) (v : Option Value) (h : Heap) (L : List Loc) : Prop := ∃ xr : Int64, v = some (.long xr) ∧ Fr n0 L ∧ Keep h0 h []
set_option maxRecDepth 65536 in
set_option maxHeartbeats 40000000 in
theorem rm13k1 (l : Launch) (Z : State) (a0 : Array Value) (hw : ∀ d ∈ tables_1, d.before a0 Z = true) (ws : List Jvm.Cond) (rp : Addr) (fp : Nat → Int32) (h0 : Heap) (n0 : Nat) (Z0 : n0 ≤ h0.size) (A_rp : AI Z h0 rp .byte 1 fp) :
  MetFree l mN5 (head1 (Jvm.Cond.code mN5 prog_23_method_5_code 9 (some .long) :: ws) ({ frames := 2, cells := 1, slots := 4, locals := 31 } : Room)) (fun a U => a = #[(.ref rp)] ∧ Z.Warmed39 U.vm ∧ U.heap = h0) (fun _ _ _ _ _ => True) (fun _ U o U' => ∃ v L, o = .returned v ∧ Q13k1 Z rp fp h0 n0 v U'.heap L ∧ FrameEnd U o U' L ({ frames := 2, cells := 1, slots := 4, locals := 31 } : Room).cells ({ frames := 2, cells := 1, slots := 4, locals := 31 } : Room).slots) := by
 refine MetFree.of_bodySF (plainFor_of_name pn_skipstitch_search_Automaton) hisR ?_
 intro p e s m args below meth c s₁ Bd hml0 hP hK
 obtain ⟨rfl, hZ, hh⟩ := hP
 have hx := Bd.exec
 have hby := Bd.bytes
 have q {i : Nat} {r : _} (h : decode _ i = r) := hb hby h
 have hml : c.maxLocals = 9 := hml0
 have hown : s.vm.findClass cS0 = some m.cls := findClass_of_methodNamed Bd.named
 have hnm := (name_of_methodNamed Bd.named Bd.method).1
 have X0 : Stand p l e ({ frames := 2, cells := 1, slots := 4, locals := 31 } : Room) s m #[(.ref rp)] below meth c s₁ [] 0 0 := Stand.of_body Bd
 have e0 : s₁.heap = h0 := by rw [← hh, Bd.state]; rfl
 have N0 := Fr.nil n0
 have K0 : Keep h0 h0 [] := Keep.refl h0 _
 have pre0 : oP p e below (s₁.setTop (mkF m 0 #[vR rp, vU, vU, vU, vU, vU, vU, vU, vU] [])) (s₁.setTop (entryFrame m #[(.ref rp)] 9)) := fun t k => castTop (ef_13k1 m rp) k
 obtain ⟨cl1, Arcl1, Szcl1⟩ := AF.len A_rp
 obtain ⟨_, _, ⟨T2, L2, k2, n2⟩, -, X2, ⟨Lc2, hQ2, l2, y2, z2⟩, st2⟩ := Jvm.LawKit.callS X0 hx (y := mN1) hown (om hZ hw 37 rfl) (om hZ hw 38 rfl) (om hZ hw 32 rfl) (om hZ hw 39 rfl) (by decide) (backOf (W := 0) (rm7k1 l Z a0 hw [] rp fp h0 n0 Z0 A_rp) hZ (ow hw 39 rfl) (ow hw 32 rfl) (by decide) (by decide)) (g := (mkF m 4 #[vR rp, vI 1, vU, vU, vU, vU, vU, vU, vU] [(.ref rp)])) rfl (by rw [hml]; rfl) (argsL := [(.ref rp)]) (rest := []) (lenOf pd_1 rfl) rfl (oz rfl) (q d13_4) (fun _ _ => ⟨rfl, e0, (by decide : 0 + 1 ≤ _), (by decide : 0 + 4 ≤ _)⟩)
 dsimp only [Pt.U, Pt.locs, Pt.cells, Pt.slots] at X2 l2 y2 z2 st2 hQ2
 subst y2 z2
 obtain ⟨rfl, N2q, K2c⟩ := hQ2
 have N2 := oF l2 N0 N2q
 have Z2 := Nat.le_trans Z0 K2c.1
 have K2 := K0.trans K2c all0
 obtain ⟨_, _, ⟨T4, L4, k4, n4⟩, -, X4, ⟨Lc4, hQ4, l4, y4, z4⟩, st4⟩ := Jvm.LawKit.callS X2 hx (y := mN2) hown (om hZ hw 48 rfl) (om hZ hw 49 rfl) (om hZ hw 32 rfl) (om hZ hw 50 rfl) (by decide) (backOf (W := 0) (rm9m1 l Z a0 hw [] (r7k1_v fp) T2.heap n0 Z2 ) hZ (ow hw 50 rfl) (ow hw 32 rfl) (by decide) (by decide)) (g := (mkF m 10 #[vR rp, vI 1, vI (r7k1_v fp), vU, vU, vU, vU, vU, vU] [(.int (r7k1_v fp)), (.int 1)])) rfl (by rw [hml]; rfl) (argsL := [(.int 1), (.int (r7k1_v fp))]) (rest := []) (lenOf pd_2 rfl) rfl (oz rfl) (q d13_10) (fun _ _ => ⟨rfl, rfl, (by decide : 1 + 0 ≤ _), (by decide : 4 + 0 ≤ _)⟩)
 dsimp only [Pt.U, Pt.locs, Pt.cells, Pt.slots] at X4 l4 y4 z4 st4 hQ4
 subst y4 z4
 obtain ⟨rfl, N4q, e4⟩ := hQ4
 have N4 := oF l4 N2 N4q
 obtain ⟨fs, hr, hrun, hended, hW, hsame⟩ := X4.leave (v := some (.long (0 : Int64))) (oR Bd.returns) (hlocks := Bd.notSynchronized)
 refine ⟨_, _, pre0 _ ?_, hrun, hended, _, _, rfl, ?_, ⟨_, rfl⟩, hW, hsame.mono (by decide) (by decide)⟩
 ·show Steps p.tables e below (s₁.setTop (mkF m 0 #[vR rp, vU, vU, vU, vU, vU, vU, vU, vU] [])) _
  refine XS.aloadN X0.here hx rfl (q d13_0) rfl rfl ?_
  refine X0.arraylength hx (by rw [e0]; exact Arcl1.1) (State.isArrayOf_alike hZ.alike Arcl1.2.1) (g := (mkF m 1 #[vR rp, vU, vU, vU, vU, vU, vU, vU, vU] [(.ref rp)])) rfl rfl (q d13_1) _ ?_
  rw [Szcl1]
  refine XS.istoreN X0.here hx rfl (q d13_2) rfl (l' := #[vR rp, vI 1, vU, vU, vU, vU, vU, vU, vU]) rfl ?_
  refine XS.aloadN X0.here hx rfl (q d13_3) rfl rfl ?_
  refine st2 _ ?_
  refine XS.istoreN X2.here hx rfl (q d13_7) rfl (l' := #[vR rp, vI 1, vI (r7k1_v fp), vU, vU, vU, vU, vU, vU]) rfl ?_
  refine XS.iloadN X2.here hx rfl (q d13_8) rfl ?_
  refine XS.iloadN X2.here hx rfl (q d13_9) rfl ?_
  refine st4 _ ?_
  refine XS.istoreN X4.here hx rfl (q d13_13) rfl (l' := #[vR rp, vI 1, vI (r7k1_v fp), vI 0, vU, vU, vU, vU, vU]) rfl ?_
  refine XS.lconst X4.here hx rfl (q d13_14) ?_
  refine XS.lstore X4.here hx rfl (q d13_15) rfl (l' := #[vR rp, vI 1, vI (r7k1_v fp), vI 0, vJ (0 : Int64), .second, vU, vU, vU]) rfl ?_
  refine XS.iloadN X4.here hx rfl (q d13_17) rfl ?_
  refine XS.i2l X4.here hx rfl (q d13_18) rfl ?_
  refine XS.lstore X4.here hx rfl (q d13_19) rfl (l' := #[vR rp, vI 1, vI (r7k1_v fp), vI 0, vJ (0 : Int64), .second, vJ ((r7k1_v fp).toInt64), .second, vU]) rfl ?_
  refine XS.iconst X4.here hx rfl (q d13_21) ?_
  refine XS.istore X4.here hx rfl (q d13_22) rfl (l' := #[vR rp, vI 1, vI (r7k1_v fp), vI 0, vJ (0 : Int64), .second, vJ ((r7k1_v fp).toInt64), .second, vI 1]) rfl ?_
  refine XS.iload X4.here hx rfl (q d13_24) rfl ?_
  refine XS.iloadN X4.here hx rfl (q d13_26) rfl ?_
  refine XS.icmpYes X4.here hx rfl (pc0 := 27) (pc' := 58) rfl (q d13_27) rfl (tlt (by decide : ((0 : Int32) < (1 : Int32)))).2.2.1 (by decide) (by decide) ?_
  refine XS.lload X4.here hx rfl (q d13_58) rfl ?_
  exact retOut X4 hx Bd.returns rfl (Or.inr (Or.inl ⟨rfl, rfl, _, rfl⟩)) (q d13_60) hr
 ·show Q13k1 Z rp fp h0 n0 _ T4.heap _
  rw [e4]
  exact ⟨(0 : Int64), rfl, N4, K2⟩
theorem ef_10k1 (m : MethodId) (ra : Addr) : entryFrame m #[(.ref ra)] 2 = mkF m 0 #[vR ra, .unset] [] := by first | (simp [entryFrame, mkF, argsToLocals, Value.category]; done) | rfl
abbrev D_6 (k : Nat) := decode prog_28_method_2_code k
theorem d10_0 : D_6 0 = .ok (.aload_n 0, 1) := by decide +kernel
theorem d10_1 : D_6 1 = .ok (.getfield 7, 3) := by decide +kernel
theorem d10_4 : D_6 4 = .ok (.istore_n 1, 1) := by decide +kernel
theorem d10_5 : D_6 5 = .ok (.iload_n 1, 1) := by decide +kernel
theorem d10_6 : D_6 6 = .ok (.ifCond .ge 16, 3) := by decide +kernel
theorem d10_9 : D_6 9 = .ok (.aload_n 0, 1) := by decide +kernel
theorem d10_10 : D_6 10 = .ok (.getfield 13, 3) := by decide +kernel
theorem d10_13 : D_6 13 = .ok (.invokestatic 21, 3) := by decide +kernel
theorem d10_16 : D_6 16 = .ok (.istore_n 1, 1) := by decide +kernel
theorem d10_17 : D_6 17 = .ok (.aload_n 0, 1) := by decide +kernel
theorem d10_18 : D_6 18 = .ok (.iload_n 1, 1) := by decide +kernel
theorem d10_19 : D_6 19 = .ok (.putfield 7, 3) := by decide +kernel
theorem d10_22 : D_6 22 = .ok (.iload_n 1, 1) := by decide +kernel
theorem d10_23 : D_6 23 = .ok (.ireturn, 1) := by decide +kernel
theorem pn_skipstitch_search_LazyAutomaton : plainName "skipstitch/search/LazyAutomaton" = true := by first | (simp [plainName, overriddenIn]; done) | decide +kernel
def Q10k1 (Z : State) (ra : Addr) (rp : Addr) (rl : Addr) (fp : Nat → Int32) (h0 : Heap) (n0 : Nat) (v : Option Value) (h : Heap) (L : List Loc) : Prop := v = some (.int 0) ∧ Fr n0 L ∧ Keep h0 h [ra] ∧ Fld Z h ra cS1 "pattern" "[B" (.ref rp) ∧ Fld Z h ra cS1 "width" "I" (.int 0) ∧ Fld Z h ra cS1 "links" "[I" (.ref rl) ∧ Fld Z h ra cS1 "automaton" cS2 .null
set_option maxRecDepth 65536 in
set_option maxHeartbeats 40000000 in
theorem rm10k1 (l : Launch) (Z : State) (a0 : Array Value) (hw : ∀ d ∈ tables_1, d.before a0 Z = true) (ws : List Jvm.Cond) (ra : Addr) (rp : Addr) (rl : Addr) (fp : Nat → Int32) (h0 : Heap) (n0 : Nat) (Z0 : n0 ≤ h0.size) (E_ra : Exa Z h0 ra cS1) (F_pattern_ra : Fld Z h0 ra cS1 "pattern" "[B" (.ref rp)) (F_width_ra : Fld Z h0 ra cS1 "width" "I" (.int (-1 : Int32))) (F_links_ra : Fld Z h0 ra cS1 "links" "[I" (.ref rl)) (F_automaton_ra : Fld Z h0 ra cS1 "automaton" cS2 .null) (A_rp : AI Z h0 rp .byte 1 fp) (ne_rp_ra : rp ≠ ra) (g_ra : n0 ≤ ra) :
  MetFree l mN6 (head1 (Jvm.Cond.code mN6 prog_28_method_2_code 2 (some .int) :: ws) ({ frames := 3, cells := 1, slots := 4, locals := 44 } : Room)) (fun a U => a = #[(.ref ra)] ∧ Z.Warmed39 U.vm ∧ U.heap = h0) (fun _ _ _ _ _ => True) (fun _ U o U' => ∃ v L, o = .returned v ∧ Q10k1 Z ra rp rl fp h0 n0 v U'.heap L ∧ FrameEnd U o U' L ({ frames := 3, cells := 1, slots := 4, locals := 44 } : Room).cells ({ frames := 3, cells := 1, slots := 4, locals := 44 } : Room).slots) := by
 refine MetFree.of_bodySF (plainFor_of_name pn_skipstitch_search_LazyAutomaton) hisR ?_
 intro p e s m args below meth c s₁ Bd hml0 hP hK
 obtain ⟨rfl, hZ, hh⟩ := hP
 have hx := Bd.exec
 have hby := Bd.bytes
 have q {i : Nat} {r : _} (h : decode _ i = r) := hb hby h
 have hml : c.maxLocals = 2 := hml0
 have hown : s.vm.findClass cS1 = some m.cls := findClass_of_methodNamed Bd.named
 have hnm := (name_of_methodNamed Bd.named Bd.method).1
 have X0 : Stand p l e ({ frames := 3, cells := 1, slots := 4, locals := 44 } : Room) s m #[(.ref ra)] below meth c s₁ [] 0 0 := Stand.of_body Bd
 have e0 : s₁.heap = h0 := by rw [← hh, Bd.state]; rfl
 have N0 := Fr.nil n0
 have K0 : Keep h0 h0 [ra] := Keep.refl h0 _
 have pre0 : oP p e below (s₁.setTop (mkF m 0 #[vR ra, vU] [])) (s₁.setTop (entryFrame m #[(.ref ra)] 2)) := fun t k => castTop (ef_10k1 m ra) k
 obtain ⟨T1, X1, e1, st1⟩ := getF X0 hx hZ hown (host := "") (Or.inl (ow hw 12 rfl)) Via.refl e0 F_width_ra (g := (mkF m 1 #[vR ra, vU] [(.ref ra)])) rfl rfl (q d10_1)
 obtain ⟨T2, X2, e2, st2⟩ := getF X1 hx hZ hown (host := "") (Or.inl (ow hw 14 rfl)) Via.refl e1 F_pattern_ra (g := (mkF m 10 #[vR ra, vI (-1 : Int32)] [(.ref ra)])) rfl rfl (q d10_10)
 obtain ⟨_, _, ⟨T3, L3, k3, n3⟩, -, X3, ⟨Lc3, hQ3, l3, y3, z3⟩, st3⟩ := Jvm.LawKit.callS X2 hx (y := mN4) hown (om hZ hw 56 rfl) (om hZ hw 57 rfl) (om hZ hw 32 rfl) (om hZ hw 58 rfl) (by decide) (backOf (W := 0) (rm11k1 l Z a0 hw [] rp fp h0 n0 Z0 A_rp) hZ (ow hw 58 rfl) (ow hw 32 rfl) (by decide) (by decide)) (g := (mkF m 13 #[vR ra, vI (-1 : Int32)] [(.ref rp)])) rfl (by rw [hml]; rfl) (argsL := [(.ref rp)]) (rest := []) (lenOf pd_1 rfl) rfl (oz rfl) (q d10_13) (fun _ _ => ⟨rfl, e2, (by decide : 0 + 1 ≤ _), (by decide : 0 + 4 ≤ _)⟩)
 dsimp only [Pt.U, Pt.locs, Pt.cells, Pt.slots] at X3 l3 y3 z3 st3 hQ3
 subst y3 z3
 obtain ⟨rfl, N3q, K3c⟩ := hQ3
 have N3 := oF l3 N0 N3q
 have f4 := E_ra.keep K3c
 have f5 := F_pattern_ra.keep K3c nin0
 have f6 := F_width_ra.keep K3c nin0
 have f7 := F_links_ra.keep K3c nin0
 have f8 := F_automaton_ra.keep K3c nin0
 have K3 := K0.trans K3c all0
 obtain ⟨T10, h10, X10, e10, W10, st10⟩ := putF X3 hx hZ hown (host := "") (Or.inl (ow hw 12 rfl)) Via.refl rfl f6 f4 (Or.inl (ow hw 13 rfl)) (ow hw 4 rfl) (ty := .int) (by decide) rfl rfl (g := (mkF m 19 #[vR ra, vI 0] [(.int 0), (.ref ra)])) rfl rfl (q d10_19)
 have N10 := Fr.snoc X10 N3 g_ra
 have K10 := K3.wr W10 (Or.inl (List.mem_of_getElem? (i := 0) rfl))
 have f11 : Fld Z h10 ra cS1 "width" "I" (.int 0) := f6.same W10
 have f13 := f5.other W10 (Or.inr (slot_ne (Or.inr (ow hw 15 rfl)) (Or.inl (ow hw 13 rfl)) (by decide) (t := (.array .byte)) (t' := .int) (by decide) (by decide)))
 have f14 := f7.other W10 (Or.inr (slot_ne (Or.inr (ow hw 17 rfl)) (Or.inl (ow hw 13 rfl)) (by decide) (t := (.array .int)) (t' := .int) (by decide) (by decide)))
 have f15 := f8.other W10 (Or.inr (slot_ne (Or.inl (ow hw 24 rfl)) (Or.inl (ow hw 13 rfl)) (by decide) (t := (.object cS0)) (t' := .int) (by decide) (by decide)))
 obtain ⟨fs, hr, hrun, hended, hW, hsame⟩ := X10.leave (v := some (.int 0)) (oR Bd.returns) (hlocks := Bd.notSynchronized)
 refine ⟨_, _, pre0 _ ?_, hrun, hended, _, _, rfl, ?_, ⟨_, rfl⟩, hW, hsame.mono (by decide) (by decide)⟩
 ·show Steps p.tables e below (s₁.setTop (mkF m 0 #[vR ra, vU] [])) _
  refine XS.aloadN X0.here hx rfl (q d10_0) rfl rfl ?_
  refine st1 _ ?_
  refine XS.istoreN X1.here hx rfl (q d10_4) rfl (l' := #[vR ra, vI (-1 : Int32)]) rfl ?_
  refine XS.iloadN X1.here hx rfl (q d10_5) rfl ?_
  refine XS.ifNo X1.here hx rfl (q d10_6) rfl ((if0 _ _).trans (tlt (by decide : ((-1 : Int32) < (0 : Int32)))).2.1) ?_
  refine XS.aloadN X1.here hx rfl (q d10_9) rfl rfl ?_
  refine st2 _ ?_
  refine st3 _ ?_
  refine XS.istoreN X3.here hx rfl (q d10_16) rfl (l' := #[vR ra, vI 0]) rfl ?_
  refine XS.aloadN X3.here hx rfl (q d10_17) rfl rfl ?_
  refine XS.iloadN X3.here hx rfl (q d10_18) rfl ?_
  refine st10 _ ?_
  refine XS.iloadN X10.here hx rfl (q d10_22) rfl ?_
  exact retI X10 hx Bd.returns (q d10_23) hr
 ·show Q10k1 Z ra rp rl fp h0 n0 _ T10.heap _
  rw [e10]
  exact ⟨rfl, N10, K10, f13, f11, f14, f15⟩
theorem ef_12k1 (m : MethodId) (ra : Addr) : entryFrame m #[(.ref ra)] 1 = mkF m 0 #[vR ra] [] := by first | (simp [entryFrame, mkF, argsToLocals, Value.category]; done) | rfl
abbrev D_7 (k : Nat) := decode prog_28_method_3_code k
theorem d12_0 : D_7 0 = .ok (.aload_n 0, 1) := by decide +kernel
theorem d12_1 : D_7 1 = .ok (.getfield 13, 3) := by decide +kernel
theorem pd_3 : parseMethodDescriptor "([B)J" = some ⟨[(.array .byte)], some .long⟩ := by decide +kernel
theorem d12_4 : D_7 4 = .ok (.invokestatic 26, 3) := by decide +kernel
theorem d12_7 : D_7 7 = .ok (.lreturn, 1) := by decide +kernel
def Q12k1 (Z : State) (ra : Addr) (rp : Addr) (fp : Nat → Int32) (h0 : Heap) (n0 : Nat) (v : Option Value) (h : Heap) (L : List Loc) : Prop := ∃ xr : Int64, v = some (.long xr) ∧ Fr n0 L ∧ Keep h0 h []
set_option maxRecDepth 65536 in
set_option maxHeartbeats 40000000 in
theorem rm12k1 (l : Launch) (Z : State) (a0 : Array Value) (hw : ∀ d ∈ tables_1, d.before a0 Z = true) (ws : List Jvm.Cond) (ra : Addr) (rp : Addr) (fp : Nat → Int32) (h0 : Heap) (n0 : Nat) (Z0 : n0 ≤ h0.size) (E_ra : Exa Z h0 ra cS1) (F_pattern_ra : Fld Z h0 ra cS1 "pattern" "[B" (.ref rp)) (A_rp : AI Z h0 rp .byte 1 fp) :
  MetFree l mN7 (head1 (Jvm.Cond.code mN7 prog_28_method_3_code 1 (some .long) :: ws) ({ frames := 3, cells := 1, slots := 4, locals := 51 } : Room)) (fun a U => a = #[(.ref ra)] ∧ Z.Warmed39 U.vm ∧ U.heap = h0) (fun _ _ _ _ _ => True) (fun _ U o U' => ∃ v L, o = .returned v ∧ Q12k1 Z ra rp fp h0 n0 v U'.heap L ∧ FrameEnd U o U' L ({ frames := 3, cells := 1, slots := 4, locals := 51 } : Room).cells ({ frames := 3, cells := 1, slots := 4, locals := 51 } : Room).slots) := by
 refine MetFree.of_bodySF (plainFor_of_name pn_skipstitch_search_LazyAutomaton) hisR ?_
 intro p e s m args below meth c s₁ Bd hml0 hP hK
 obtain ⟨rfl, hZ, hh⟩ := hP
 have hx := Bd.exec
 have hby := Bd.bytes
 have q {i : Nat} {r : _} (h : decode _ i = r) := hb hby h
 have hml : c.maxLocals = 1 := hml0
 have hown : s.vm.findClass cS1 = some m.cls := findClass_of_methodNamed Bd.named
 have hnm := (name_of_methodNamed Bd.named Bd.method).1
 have X0 : Stand p l e ({ frames := 3, cells := 1, slots := 4, locals := 51 } : Room) s m #[(.ref ra)] below meth c s₁ [] 0 0 := Stand.of_body Bd
 have e0 : s₁.heap = h0 := by rw [← hh, Bd.state]; rfl
 have N0 := Fr.nil n0
 have K0 : Keep h0 h0 [] := Keep.refl h0 _
 have pre0 : oP p e below (s₁.setTop (mkF m 0 #[vR ra] [])) (s₁.setTop (entryFrame m #[(.ref ra)] 1)) := fun t k => castTop (ef_12k1 m ra) k
 obtain ⟨T1, X1, e1, st1⟩ := getF X0 hx hZ hown (host := "") (Or.inl (ow hw 14 rfl)) Via.refl e0 F_pattern_ra (g := (mkF m 1 #[vR ra] [(.ref ra)])) rfl rfl (q d12_1)
 obtain ⟨_, _, ⟨T2, L2, k2, n2⟩, -, X2, ⟨Lc2, hQ2, l2, y2, z2⟩, st2⟩ := Jvm.LawKit.callS X1 hx (y := mN5) hown (om hZ hw 64 rfl) (om hZ hw 65 rfl) (om hZ hw 32 rfl) (om hZ hw 66 rfl) (by decide) (backOf (W := 0) (rm13k1 l Z a0 hw [] rp fp h0 n0 Z0 A_rp) hZ (ow hw 66 rfl) (ow hw 32 rfl) (by decide) (by decide)) (g := (mkF m 4 #[vR ra] [(.ref rp)])) rfl (by rw [hml]; rfl) (argsL := [(.ref rp)]) (rest := []) (lenOf pd_3 rfl) rfl (oz rfl) (q d12_4) (fun _ _ => ⟨rfl, e1, (by decide : 0 + 1 ≤ _), (by decide : 0 + 4 ≤ _)⟩)
 dsimp only [Pt.U, Pt.locs, Pt.cells, Pt.slots] at X2 l2 y2 z2 st2 hQ2
 subst y2 z2
 obtain ⟨gx3, rfl, N2q, K2c⟩ := hQ2
 have N2 := oF l2 N0 N2q
 have K2 := K0.trans K2c all0
 obtain ⟨fs, hr, hrun, hended, hW, hsame⟩ := X2.leave (v := some (.long gx3)) (oR Bd.returns) (hlocks := Bd.notSynchronized)
 refine ⟨_, _, pre0 _ ?_, hrun, hended, _, _, rfl, ?_, ⟨_, rfl⟩, hW, hsame.mono (by decide) (by decide)⟩
 ·show Steps p.tables e below (s₁.setTop (mkF m 0 #[vR ra] [])) _
  refine XS.aloadN X0.here hx rfl (q d12_0) rfl rfl ?_
  refine st1 _ ?_
  refine st2 _ ?_
  exact retOut X2 hx Bd.returns rfl (Or.inr (Or.inl ⟨rfl, rfl, _, rfl⟩)) (q d12_7) hr
 ·show Q12k1 Z ra rp fp h0 n0 _ T2.heap _
  exact ⟨gx3, rfl, N2, K2⟩
theorem ef_6k2 (m : MethodId) (rp : Addr) : entryFrame m #[(.ref rp)] 7 = mkF m 0 #[vR rp, .unset, .unset, .unset, .unset, .unset, .unset] [] := by first | (simp [entryFrame, mkF, argsToLocals, Value.category]; done) | rfl
def Q6k2 (Z : State) (rp : Addr) (fp : Nat → Int32) (h0 : Heap) (n0 : Nat) (v : Option Value) (h : Heap) (L : List Loc) : Prop := ∃ fr0 : Addr, ∃ fx0 : Nat → Int32, n0 ≤ fr0 ∧ h0.size ≤ fr0 ∧ v = some (.ref fr0) ∧ Fr n0 L ∧ Keep h0 h [] ∧ AI Z h fr0 .int 256 fx0
set_option maxRecDepth 65536 in
set_option maxHeartbeats 40000000 in
theorem rm6k2 (l : Launch) (Z : State) (a0 : Array Value) (hw : ∀ d ∈ tables_1, d.before a0 Z = true) (ws : List Jvm.Cond) (rp : Addr) (fp : Nat → Int32) (h0 : Heap) (n0 : Nat) (Z0 : n0 ≤ h0.size) (A_rp : AI Z h0 rp .byte 2 fp) :
  MetFree l mN3 (head1 (Jvm.Cond.code mN3 prog_23_method_6_code 7 (some (.array .int)) :: ws) ({ frames := 0, cells := 1, slots := 256, locals := 0 } : Room)) (fun a U => a = #[(.ref rp)] ∧ Z.Warmed39 U.vm ∧ U.heap = h0) (fun _ _ _ _ _ => True) (fun _ U o U' => ∃ v L, o = .returned v ∧ Q6k2 Z rp fp h0 n0 v U'.heap L ∧ FrameEnd U o U' L ({ frames := 0, cells := 1, slots := 256, locals := 0 } : Room).cells ({ frames := 0, cells := 1, slots := 256, locals := 0 } : Room).slots) := by
 refine MetFree.of_bodySF (plainFor_of_name pn_skipstitch_search_Automaton) hisR ?_
 intro p e s m args below meth c s₁ Bd hml0 hP hK
 obtain ⟨rfl, hZ, hh⟩ := hP
 have hx := Bd.exec
 have hby := Bd.bytes
 have q {i : Nat} {r : _} (h : decode _ i = r) := hb hby h
 have hml : c.maxLocals = 7 := hml0
 have hown : s.vm.findClass cS0 = some m.cls := findClass_of_methodNamed Bd.named
 have hnm := (name_of_methodNamed Bd.named Bd.method).1
 have X0 : Stand p l e ({ frames := 0, cells := 1, slots := 256, locals := 0 } : Room) s m #[(.ref rp)] below meth c s₁ [] 0 0 := Stand.of_body Bd
 have e0 : s₁.heap = h0 := by rw [← hh, Bd.state]; rfl
 have N0 := Fr.nil n0
 have K0 : Keep h0 h0 [] := Keep.refl h0 _
 have pre0 : oP p e below (s₁.setTop (mkF m 0 #[vR rp, vU, vU, vU, vU, vU, vU] [])) (s₁.setTop (entryFrame m #[(.ref rp)] 7)) := fun t k => castTop (ef_6k2 m rp) k
 obtain ⟨T1, h1, k1, X1, e1, E1, A1, st1⟩ := newP X0 hx hZ (ow hw 2 rfl) e0 (g := (mkF m 3 #[vR rp, vU, vU, vU, vU, vU, vU] [(.int 256)])) rfl (q d6_3) rfl (by decide) (cap := 256) (by decide) (by decide) (by decide) (by decide)
 obtain ⟨b1, g1⟩ : ∃ z, z = h0.size := ⟨_, rfl⟩
 rw [← g1] at A1 st1
 have ne2 := oN A_rp.lt g1
 have gg1 := oL Z0 g1
 have sz1 := oL K0.1 g1
 have f3 := A_rp.ext E1
 have K1 := K0.ext E1
 have f4 : AI Z h1 b1 .int 256 zI := AF.new A1 (by decide)
 obtain ⟨cl5, Arcl5, Szcl5⟩ := AF.len f3
 obtain ⟨cl6, Arcl6, hincl6, hatcl6⟩ := AF.at f3 (j := (0 : Int32)) 0 (by decide) (by decide)
 obtain ⟨cl7, Arcl7, hincl7, hatcl7⟩ := AF.at f4 (j := ((fp 0) &&& (255 : Int32))) (own_iy (fp 0)) (own_iy1 (fp 0)) (own_iy2 (fp 0))
 obtain ⟨cl8, Arcl8, hincl8, -⟩ := AF.at f4 (j := ((fp 0) &&& (255 : Int32))) (own_iy (fp 0)) (own_iy1 (fp 0)) (own_iy2 (fp 0))
 obtain ⟨T9, h9, X9, e9, W9, st9⟩ := stI X1 hx hZ e1 Arcl8 (j := ((fp 0) &&& (255 : Int32))) hincl8 (g := (mkF m 52 #[vR rp, vR b1, vI 2, vR rp, vI 2, vI 0, vI (fp 0)] [(.int 1), (.int ((fp 0) &&& (255 : Int32))), (.ref b1)])) rfl rfl (q d6_52)
 have N9 := Fr.snoc X9 N0 gg1
 have K9 := K1.wr W9 (Or.inr sz1)
 have f10 : AI Z h9 b1 .int 256 (up zI (own_iy (fp 0)) (1 : Int32)) := AF.setI f4 W9 (own_iy (fp 0)) (own_iy1 (fp 0))
 have f11 := f3.other W9 ne2
 obtain ⟨cl12, Arcl12, hincl12, hatcl12⟩ := AF.at f11 (j := (1 : Int32)) 1 (by decide) (by decide)
 obtain ⟨cl13, Arcl13, hincl13, hatcl13⟩ := AF.at f10 (j := ((fp 1) &&& (255 : Int32))) (own_iy (fp 1)) (own_iy1 (fp 1)) (own_iy2 (fp 1))
 have pre14 : oP p e below (T9.setTop (mkF m 38 #[vR rp, vR b1, vI 2, vR rp, vI 2, vI 1, vI (fp 1)] [(.int ((up zI (own_iy (fp 0)) (1 : Int32)) (own_iy (fp 1))))])) (s₁.setTop (entryFrame m #[(.ref rp)] 7)) := by
  intro t k
  refine pre0 _ ?_
  refine XS.sipush X0.here hx rfl (q d6_0) ?_
  refine st1 _ ?_
  refine XS.astoreN X1.here hx rfl (q d6_5) rfl rfl (l' := #[vR rp, vR b1, vU, vU, vU, vU, vU]) rfl ?_
  refine XS.iconst X1.here hx rfl (q d6_6) ?_
  refine XS.istoreN X1.here hx rfl (q d6_7) rfl (l' := #[vR rp, vR b1, vI 1, vU, vU, vU, vU]) rfl ?_
  refine XS.aloadN X1.here hx rfl (q d6_8) rfl rfl ?_
  refine XS.astoreN X1.here hx rfl (q d6_9) rfl rfl (l' := #[vR rp, vR b1, vI 1, vR rp, vU, vU, vU]) rfl ?_
  refine XS.aloadN X1.here hx rfl (q d6_10) rfl rfl ?_
  refine X1.arraylength hx (by rw [e1]; exact Arcl5.1) (State.isArrayOf_alike hZ.alike Arcl5.2.1) (g := (mkF m 11 #[vR rp, vR b1, vI 1, vR rp, vU, vU, vU] [(.ref rp)])) rfl rfl (q d6_11) _ ?_
  rw [Szcl5]
  refine XS.istore X1.here hx rfl (q d6_12) rfl (l' := #[vR rp, vR b1, vI 1, vR rp, vI 2, vU, vU]) rfl ?_
  refine XS.iconst X1.here hx rfl (q d6_14) ?_
  refine XS.istore X1.here hx rfl (q d6_15) rfl (l' := #[vR rp, vR b1, vI 1, vR rp, vI 2, vI 0, vU]) rfl ?_
  refine XS.iload X1.here hx rfl (q d6_17) rfl ?_
  refine XS.iload X1.here hx rfl (q d6_19) rfl ?_
  refine XS.icmpNo X1.here hx rfl (q d6_21) rfl (tlt (by decide : ((0 : Int32) < (2 : Int32)))).2.1 ?_
  refine XS.aloadN X1.here hx rfl (q d6_24) rfl rfl ?_
  refine XS.iload X1.here hx rfl (q d6_25) rfl ?_
  refine X1.baloadBytes hx (j := (0 : Int32)) (v := (.int (fp 0))) (by rw [e1]; exact Arcl6.1) (State.isArrayOf_alike hZ.alike Arcl6.2.1) Arcl6.2.2 hincl6 hatcl6 (g := (mkF m 27 #[vR rp, vR b1, vI 1, vR rp, vI 2, vI 0, vU] [(.int 0), (.ref rp)])) rfl rfl (q d6_27) _ ?_
  refine XS.istore X1.here hx rfl (q d6_28) rfl (l' := #[vR rp, vR b1, vI 1, vR rp, vI 2, vI 0, vI (fp 0)]) rfl ?_
  refine XS.aloadN X1.here hx rfl (q d6_30) rfl rfl ?_
  refine XS.iload X1.here hx rfl (q d6_31) rfl ?_
  refine XS.sipush X1.here hx rfl (q d6_33) ?_
  refine XS.iand X1.here hx rfl (q d6_36) rfl ?_
  refine X1.iaload hx (j := ((fp 0) &&& (255 : Int32))) (v := (.int 0)) (by rw [e1]; exact Arcl7.1) (State.isArrayOf_alike hZ.alike Arcl7.2.1) Arcl7.2.2 hincl7 hatcl7 (g := (mkF m 37 #[vR rp, vR b1, vI 1, vR rp, vI 2, vI 0, vI (fp 0)] [(.int ((fp 0) &&& (255 : Int32))), (.ref b1)])) rfl rfl (q d6_37) _ ?_
  refine XS.ifNo X1.here hx rfl (q d6_38) rfl ((if0 _ _).trans (teq (by decide : ((0 : Int32) = (0 : Int32)))).2) ?_
  refine XS.aloadN X1.here hx rfl (q d6_41) rfl rfl ?_
  refine XS.iload X1.here hx rfl (q d6_42) rfl ?_
  refine XS.sipush X1.here hx rfl (q d6_44) ?_
  refine XS.iand X1.here hx rfl (q d6_47) rfl ?_
  refine XS.iloadN X1.here hx rfl (q d6_48) rfl ?_
  refine XS.iinc X1.here hx rfl (q d6_49) rfl (l' := #[vR rp, vR b1, vI 2, vR rp, vI 2, vI 0, vI (fp 0)]) rfl ?_
  refine st9 _ ?_
  refine XS.iinc X9.here hx rfl (q d6_53) rfl (l' := #[vR rp, vR b1, vI 2, vR rp, vI 2, vI 1, vI (fp 0)]) rfl ?_
  refine XS.goto X9.here hx rfl (pc0 := 56) (pc' := 17) rfl (q d6_56) (by decide) (by decide) ?_
  refine XS.iload X9.here hx rfl (q d6_17) rfl ?_
  refine XS.iload X9.here hx rfl (q d6_19) rfl ?_
  refine XS.icmpNo X9.here hx rfl (q d6_21) rfl (tlt (by decide : ((1 : Int32) < (2 : Int32)))).2.1 ?_
  refine XS.aloadN X9.here hx rfl (q d6_24) rfl rfl ?_
  refine XS.iload X9.here hx rfl (q d6_25) rfl ?_
  refine X9.baloadBytes hx (j := (1 : Int32)) (v := (.int (fp 1))) (by rw [e9]; exact Arcl12.1) (State.isArrayOf_alike hZ.alike Arcl12.2.1) Arcl12.2.2 hincl12 hatcl12 (g := (mkF m 27 #[vR rp, vR b1, vI 2, vR rp, vI 2, vI 1, vI (fp 0)] [(.int 1), (.ref rp)])) rfl rfl (q d6_27) _ ?_
  refine XS.istore X9.here hx rfl (q d6_28) rfl (l' := #[vR rp, vR b1, vI 2, vR rp, vI 2, vI 1, vI (fp 1)]) rfl ?_
  refine XS.aloadN X9.here hx rfl (q d6_30) rfl rfl ?_
  refine XS.iload X9.here hx rfl (q d6_31) rfl ?_
  refine XS.sipush X9.here hx rfl (q d6_33) ?_
  refine XS.iand X9.here hx rfl (q d6_36) rfl ?_
  refine X9.iaload hx (j := ((fp 1) &&& (255 : Int32))) (v := (.int ((up zI (own_iy (fp 0)) (1 : Int32)) (own_iy (fp 1))))) (by rw [e9]; exact Arcl13.1) (State.isArrayOf_alike hZ.alike Arcl13.2.1) Arcl13.2.2 hincl13 hatcl13 (g := (mkF m 37 #[vR rp, vR b1, vI 2, vR rp, vI 2, vI 1, vI (fp 1)] [(.int ((fp 1) &&& (255 : Int32))), (.ref b1)])) rfl rfl (q d6_37) _ ?_
  exact k
 by_cases hk15 : ((up zI (own_iy (fp 0)) (1 : Int32)) (own_iy (fp 1))) = (0 : Int32)
 ·obtain ⟨cl16, Arcl16, hincl16, -⟩ := AF.at f10 (j := ((fp 1) &&& (255 : Int32))) (own_iy (fp 1)) (own_iy1 (fp 1)) (own_iy2 (fp 1))
  obtain ⟨T17, h17, X17, e17, W17, st17⟩ := stI X9 hx hZ e9 Arcl16 (j := ((fp 1) &&& (255 : Int32))) hincl16 (g := (mkF m 52 #[vR rp, vR b1, vI 3, vR rp, vI 2, vI 1, vI (fp 1)] [(.int 2), (.int ((fp 1) &&& (255 : Int32))), (.ref b1)])) rfl rfl (q d6_52)
  have N17 := Fr.snoc X17 N9 gg1
  have K17 := K9.wr W17 (Or.inr sz1)
  have f18 : AI Z h17 b1 .int 256 (up (up zI (own_iy (fp 0)) (1 : Int32)) (own_iy (fp 1)) (2 : Int32)) := AF.setI f10 W17 (own_iy (fp 1)) (own_iy1 (fp 1))
  obtain ⟨fs, hr, hrun, hended, hW, hsame⟩ := X17.leave (v := some (.ref b1)) (oR Bd.returns) (hlocks := Bd.notSynchronized)
  refine ⟨_, _, pre14 _ ?_, hrun, hended, _, _, rfl, ?_, ⟨_, rfl⟩, hW, hsame.mono (by decide) (by decide)⟩
  ·show Steps p.tables e below (T9.setTop (mkF m 38 #[vR rp, vR b1, vI 2, vR rp, vI 2, vI 1, vI (fp 1)] [(.int ((up zI (own_iy (fp 0)) (1 : Int32)) (own_iy (fp 1))))])) _
   refine XS.ifNo X9.here hx rfl (q d6_38) rfl ((if0 _ _).trans (teq hk15).2) ?_
   refine XS.aloadN X9.here hx rfl (q d6_41) rfl rfl ?_
   refine XS.iload X9.here hx rfl (q d6_42) rfl ?_
   refine XS.sipush X9.here hx rfl (q d6_44) ?_
   refine XS.iand X9.here hx rfl (q d6_47) rfl ?_
   refine XS.iloadN X9.here hx rfl (q d6_48) rfl ?_
   refine XS.iinc X9.here hx rfl (q d6_49) rfl (l' := #[vR rp, vR b1, vI 3, vR rp, vI 2, vI 1, vI (fp 1)]) rfl ?_
   refine st17 _ ?_
   refine XS.iinc X17.here hx rfl (q d6_53) rfl (l' := #[vR rp, vR b1, vI 3, vR rp, vI 2, vI 2, vI (fp 1)]) rfl ?_
   refine XS.goto X17.here hx rfl (pc0 := 56) (pc' := 17) rfl (q d6_56) (by decide) (by decide) ?_
   refine XS.iload X17.here hx rfl (q d6_17) rfl ?_
   refine XS.iload X17.here hx rfl (q d6_19) rfl ?_
   refine XS.icmpYes X17.here hx rfl (pc0 := 21) (pc' := 59) rfl (q d6_21) rfl (flt (by decide : ¬ ((2 : Int32) < (2 : Int32)))).2.1 (by decide) (by decide) ?_
   refine XS.aloadN X17.here hx rfl (q d6_59) rfl rfl ?_
   exact retOut X17 hx Bd.returns rfl (Or.inr (Or.inr (Or.inr (Or.inr ⟨rfl, rfl, rfl⟩)))) (q d6_60) hr
  ·show Q6k2 Z rp fp h0 n0 _ T17.heap _
   rw [e17]
   exact ⟨b1, (up (up zI (own_iy (fp 0)) (1 : Int32)) (own_iy (fp 1)) (2 : Int32)), gg1, sz1, rfl, N17, K17, f18⟩
 ·obtain ⟨fs, hr, hrun, hended, hW, hsame⟩ := X9.leave (v := some (.ref b1)) (oR Bd.returns) (hlocks := Bd.notSynchronized)
  refine ⟨_, _, pre14 _ ?_, hrun, hended, _, _, rfl, ?_, ⟨_, rfl⟩, hW, hsame.mono (by decide) (by decide)⟩
  ·show Steps p.tables e below (T9.setTop (mkF m 38 #[vR rp, vR b1, vI 2, vR rp, vI 2, vI 1, vI (fp 1)] [(.int ((up zI (own_iy (fp 0)) (1 : Int32)) (own_iy (fp 1))))])) _
   refine XS.ifYes X9.here hx rfl (pc0 := 38) (pc' := 53) rfl (q d6_38) rfl ((if0 _ _).trans (feq hk15).2) (by decide) (by decide) ?_
   refine XS.iinc X9.here hx rfl (q d6_53) rfl (l' := #[vR rp, vR b1, vI 2, vR rp, vI 2, vI 2, vI (fp 1)]) rfl ?_
   refine XS.goto X9.here hx rfl (pc0 := 56) (pc' := 17) rfl (q d6_56) (by decide) (by decide) ?_
   refine XS.iload X9.here hx rfl (q d6_17) rfl ?_
   refine XS.iload X9.here hx rfl (q d6_19) rfl ?_
   refine XS.icmpYes X9.here hx rfl (pc0 := 21) (pc' := 59) rfl (q d6_21) rfl (flt (by decide : ¬ ((2 : Int32) < (2 : Int32)))).2.1 (by decide) (by decide) ?_
   refine XS.aloadN X9.here hx rfl (q d6_59) rfl rfl ?_
   exact retOut X9 hx Bd.returns rfl (Or.inr (Or.inr (Or.inr (Or.inr ⟨rfl, rfl, rfl⟩)))) (q d6_60) hr
  ·show Q6k2 Z rp fp h0 n0 _ T9.heap _
   rw [e9]
   exact ⟨b1, (up zI (own_iy (fp 0)) (1 : Int32)), gg1, sz1, rfl, N9, K9, f10⟩
theorem ef_11k2 (m : MethodId) (rp : Addr) : entryFrame m #[(.ref rp)] 1 = mkF m 0 #[vR rp] [] := by first | (simp [entryFrame, mkF, argsToLocals, Value.category]; done) | rfl
def Q11k2 (Z : State) (rp : Addr) (fp : Nat → Int32) (h0 : Heap) (n0 : Nat) (v : Option Value) (h : Heap) (L : List Loc) : Prop := v = some (.int 4) ∧ Fr n0 L ∧ Keep h0 h []
set_option maxRecDepth 65536 in
set_option maxHeartbeats 40000000 in
theorem rm11k2 (l : Launch) (Z : State) (a0 : Array Value) (hw : ∀ d ∈ tables_1, d.before a0 Z = true) (ws : List Jvm.Cond) (rp : Addr) (fp : Nat → Int32) (h0 : Heap) (n0 : Nat) (Z0 : n0 ≤ h0.size) (A_rp : AI Z h0 rp .byte 2 fp) :
  MetFree l mN4 (head1 (Jvm.Cond.code mN4 prog_23_method_3_code 1 (some .int) :: ws) ({ frames := 2, cells := 1, slots := 4, locals := 32 } : Room)) (fun a U => a = #[(.ref rp)] ∧ Z.Warmed39 U.vm ∧ U.heap = h0) (fun _ _ _ _ _ => True) (fun _ U o U' => ∃ v L, o = .returned v ∧ Q11k2 Z rp fp h0 n0 v U'.heap L ∧ FrameEnd U o U' L ({ frames := 2, cells := 1, slots := 4, locals := 32 } : Room).cells ({ frames := 2, cells := 1, slots := 4, locals := 32 } : Room).slots) := by
 refine MetFree.of_bodySF (plainFor_of_name pn_skipstitch_search_Automaton) hisR ?_
 intro p e s m args below meth c s₁ Bd hml0 hP hK
 obtain ⟨rfl, hZ, hh⟩ := hP
 have hx := Bd.exec
 have hby := Bd.bytes
 have q {i : Nat} {r : _} (h : decode _ i = r) := hb hby h
 have hml : c.maxLocals = 1 := hml0
 have hown : s.vm.findClass cS0 = some m.cls := findClass_of_methodNamed Bd.named
 have hnm := (name_of_methodNamed Bd.named Bd.method).1
 have X0 : Stand p l e ({ frames := 2, cells := 1, slots := 4, locals := 32 } : Room) s m #[(.ref rp)] below meth c s₁ [] 0 0 := Stand.of_body Bd
 have e0 : s₁.heap = h0 := by rw [← hh, Bd.state]; rfl
 have N0 := Fr.nil n0
 have K0 : Keep h0 h0 [] := Keep.refl h0 _
 have pre0 : oP p e below (s₁.setTop (mkF m 0 #[vR rp] [])) (s₁.setTop (entryFrame m #[(.ref rp)] 1)) := fun t k => castTop (ef_11k2 m rp) k
 obtain ⟨cl1, Arcl1, Szcl1⟩ := AF.len A_rp
 obtain ⟨_, _, ⟨T2, L2, k2, n2⟩, -, X2, ⟨Lc2, hQ2, l2, y2, z2⟩, st2⟩ := Jvm.LawKit.callS X0 hx (y := mN1) hown (om hZ hw 37 rfl) (om hZ hw 38 rfl) (om hZ hw 32 rfl) (om hZ hw 39 rfl) (by decide) (backOf (W := 1) (rm7k2 l Z a0 hw [] rp fp h0 n0 Z0 A_rp) hZ (ow hw 39 rfl) (ow hw 32 rfl) (by decide) (by decide)) (g := (mkF m 3 #[vR rp] [(.ref rp), (.int 2)])) rfl (by rw [hml]; rfl) (argsL := [(.ref rp)]) (rest := [(.int 2)]) (lenOf pd_1 rfl) rfl (oz rfl) (q d11_3) (fun _ _ => ⟨rfl, e0, (by decide : 0 + 1 ≤ _), (by decide : 0 + 4 ≤ _)⟩)
 dsimp only [Pt.U, Pt.locs, Pt.cells, Pt.slots] at X2 l2 y2 z2 st2 hQ2
 subst y2 z2
 obtain ⟨rfl, N2q, K2c⟩ := hQ2
 have N2 := oF l2 N0 N2q
 have Z2 := Nat.le_trans Z0 K2c.1
 have K2 := K0.trans K2c all0
 have pre4 : oP p e below (T2.setTop (mkF m 6 #[vR rp] [(.int (r7k2_v fp)), (.int 2)])) (s₁.setTop (entryFrame m #[(.ref rp)] 1)) := by
  intro t k
  refine pre0 _ ?_
  refine XS.aloadN X0.here hx rfl (q d11_0) rfl rfl ?_
  refine X0.arraylength hx (by rw [e0]; exact Arcl1.1) (State.isArrayOf_alike hZ.alike Arcl1.2.1) (g := (mkF m 1 #[vR rp] [(.ref rp)])) rfl rfl (q d11_1) _ ?_
  rw [Szcl1]
  refine XS.aloadN X0.here hx rfl (q d11_2) rfl rfl ?_
  refine st2 _ ?_
  exact k
 rcases own_cc2 fp with hk5 | hk5 | hk5 | hk5
 ·have pre6 : oP p e below (T2.setTop (mkF m 6 #[vR rp] [(.int 1), (.int 2)])) (s₁.setTop (entryFrame m #[(.ref rp)] 1)) := by
   intro t k
   refine pre4 _ ?_
   rw [hk5]
   exact k
  obtain ⟨_, _, ⟨T7, L7, k7, n7⟩, -, X7, ⟨Lc7, hQ7, l7, y7, z7⟩, st7⟩ := Jvm.LawKit.callS X2 hx (y := mN2) hown (om hZ hw 48 rfl) (om hZ hw 49 rfl) (om hZ hw 32 rfl) (om hZ hw 50 rfl) (by decide) (backOf (W := 0) (rm9m2c1 l Z a0 hw []  T2.heap n0 Z2 ) hZ (ow hw 50 rfl) (ow hw 32 rfl) (by decide) (by decide)) (g := (mkF m 6 #[vR rp] [(.int 1), (.int 2)])) rfl (by rw [hml]; rfl) (argsL := [(.int 2), (.int 1)]) (rest := []) (lenOf pd_2 rfl) rfl (oz rfl) (q d11_6) (fun _ _ => ⟨rfl, rfl, (by decide : 1 + 0 ≤ _), (by decide : 4 + 0 ≤ _)⟩)
  dsimp only [Pt.U, Pt.locs, Pt.cells, Pt.slots] at X7 l7 y7 z7 st7 hQ7
  subst y7 z7
  obtain ⟨rfl, N7q, e7⟩ := hQ7
  have N7 := oF l7 N2 N7q
  obtain ⟨fs, hr, hrun, hended, hW, hsame⟩ := X7.leave (v := some (.int 4)) (oR Bd.returns) (hlocks := Bd.notSynchronized)
  refine ⟨_, _, pre6 _ ?_, hrun, hended, _, _, rfl, ?_, ⟨_, rfl⟩, hW, hsame.mono (by decide) (by decide)⟩
  ·show Steps p.tables e below (T2.setTop (mkF m 6 #[vR rp] [(.int 1), (.int 2)])) _
   refine st7 _ ?_
   exact retI X7 hx Bd.returns (q d11_9) hr
  ·show Q11k2 Z rp fp h0 n0 _ T7.heap _
   rw [e7]
   exact ⟨rfl, N7, K2⟩
 ·have pre8 : oP p e below (T2.setTop (mkF m 6 #[vR rp] [(.int 2), (.int 2)])) (s₁.setTop (entryFrame m #[(.ref rp)] 1)) := by
   intro t k
   refine pre4 _ ?_
   rw [hk5]
   exact k
  obtain ⟨_, _, ⟨T9, L9, k9, n9⟩, -, X9, ⟨Lc9, hQ9, l9, y9, z9⟩, st9⟩ := Jvm.LawKit.callS X2 hx (y := mN2) hown (om hZ hw 48 rfl) (om hZ hw 49 rfl) (om hZ hw 32 rfl) (om hZ hw 50 rfl) (by decide) (backOf (W := 0) (rm9m2c2 l Z a0 hw []  T2.heap n0 Z2 ) hZ (ow hw 50 rfl) (ow hw 32 rfl) (by decide) (by decide)) (g := (mkF m 6 #[vR rp] [(.int 2), (.int 2)])) rfl (by rw [hml]; rfl) (argsL := [(.int 2), (.int 2)]) (rest := []) (lenOf pd_2 rfl) rfl (oz rfl) (q d11_6) (fun _ _ => ⟨rfl, rfl, (by decide : 1 + 0 ≤ _), (by decide : 4 + 0 ≤ _)⟩)
  dsimp only [Pt.U, Pt.locs, Pt.cells, Pt.slots] at X9 l9 y9 z9 st9 hQ9
  subst y9 z9
  obtain ⟨rfl, N9q, e9⟩ := hQ9
  have N9 := oF l9 N2 N9q
  obtain ⟨fs, hr, hrun, hended, hW, hsame⟩ := X9.leave (v := some (.int 4)) (oR Bd.returns) (hlocks := Bd.notSynchronized)
  refine ⟨_, _, pre8 _ ?_, hrun, hended, _, _, rfl, ?_, ⟨_, rfl⟩, hW, hsame.mono (by decide) (by decide)⟩
  ·show Steps p.tables e below (T2.setTop (mkF m 6 #[vR rp] [(.int 2), (.int 2)])) _
   refine st9 _ ?_
   exact retI X9 hx Bd.returns (q d11_9) hr
  ·show Q11k2 Z rp fp h0 n0 _ T9.heap _
   rw [e9]
   exact ⟨rfl, N9, K2⟩
 ·have pre10 : oP p e below (T2.setTop (mkF m 6 #[vR rp] [(.int 3), (.int 2)])) (s₁.setTop (entryFrame m #[(.ref rp)] 1)) := by
   intro t k
   refine pre4 _ ?_
   rw [hk5]
   exact k
  obtain ⟨_, _, ⟨T11, L11, k11, n11⟩, -, X11, ⟨Lc11, hQ11, l11, y11, z11⟩, st11⟩ := Jvm.LawKit.callS X2 hx (y := mN2) hown (om hZ hw 48 rfl) (om hZ hw 49 rfl) (om hZ hw 32 rfl) (om hZ hw 50 rfl) (by decide) (backOf (W := 0) (rm9m2c3 l Z a0 hw []  T2.heap n0 Z2 ) hZ (ow hw 50 rfl) (ow hw 32 rfl) (by decide) (by decide)) (g := (mkF m 6 #[vR rp] [(.int 3), (.int 2)])) rfl (by rw [hml]; rfl) (argsL := [(.int 2), (.int 3)]) (rest := []) (lenOf pd_2 rfl) rfl (oz rfl) (q d11_6) (fun _ _ => ⟨rfl, rfl, (by decide : 1 + 0 ≤ _), (by decide : 4 + 0 ≤ _)⟩)
  dsimp only [Pt.U, Pt.locs, Pt.cells, Pt.slots] at X11 l11 y11 z11 st11 hQ11
  subst y11 z11
  obtain ⟨rfl, N11q, e11⟩ := hQ11
  have N11 := oF l11 N2 N11q
  obtain ⟨fs, hr, hrun, hended, hW, hsame⟩ := X11.leave (v := some (.int 4)) (oR Bd.returns) (hlocks := Bd.notSynchronized)
  refine ⟨_, _, pre10 _ ?_, hrun, hended, _, _, rfl, ?_, ⟨_, rfl⟩, hW, hsame.mono (by decide) (by decide)⟩
  ·show Steps p.tables e below (T2.setTop (mkF m 6 #[vR rp] [(.int 3), (.int 2)])) _
   refine st11 _ ?_
   exact retI X11 hx Bd.returns (q d11_9) hr
  ·show Q11k2 Z rp fp h0 n0 _ T11.heap _
   rw [e11]
   exact ⟨rfl, N11, K2⟩
 ·have pre12 : oP p e below (T2.setTop (mkF m 6 #[vR rp] [(.int 4), (.int 2)])) (s₁.setTop (entryFrame m #[(.ref rp)] 1)) := by
   intro t k
   refine pre4 _ ?_
   rw [hk5]
   exact k
  obtain ⟨_, _, ⟨T13, L13, k13, n13⟩, -, X13, ⟨Lc13, hQ13, l13, y13, z13⟩, st13⟩ := Jvm.LawKit.callS X2 hx (y := mN2) hown (om hZ hw 48 rfl) (om hZ hw 49 rfl) (om hZ hw 32 rfl) (om hZ hw 50 rfl) (by decide) (backOf (W := 0) (rm9m2c4 l Z a0 hw []  T2.heap n0 Z2 ) hZ (ow hw 50 rfl) (ow hw 32 rfl) (by decide) (by decide)) (g := (mkF m 6 #[vR rp] [(.int 4), (.int 2)])) rfl (by rw [hml]; rfl) (argsL := [(.int 2), (.int 4)]) (rest := []) (lenOf pd_2 rfl) rfl (oz rfl) (q d11_6) (fun _ _ => ⟨rfl, rfl, (by decide : 1 + 0 ≤ _), (by decide : 4 + 0 ≤ _)⟩)
  dsimp only [Pt.U, Pt.locs, Pt.cells, Pt.slots] at X13 l13 y13 z13 st13 hQ13
  subst y13 z13
  obtain ⟨rfl, N13q, e13⟩ := hQ13
  have N13 := oF l13 N2 N13q
  obtain ⟨fs, hr, hrun, hended, hW, hsame⟩ := X13.leave (v := some (.int 4)) (oR Bd.returns) (hlocks := Bd.notSynchronized)
  refine ⟨_, _, pre12 _ ?_, hrun, hended, _, _, rfl, ?_, ⟨_, rfl⟩, hW, hsame.mono (by decide) (by decide)⟩
  ·show Steps p.tables e below (T2.setTop (mkF m 6 #[vR rp] [(.int 4), (.int 2)])) _
   refine st13 _ ?_
   exact retI X13 hx Bd.returns (q d11_9) hr
  ·show Q11k2 Z rp fp h0 n0 _ T13.heap _
   rw [e13]
   exact ⟨rfl, N13, K2⟩
theorem ef_13k2 (m : MethodId) (rp : Addr) : entryFrame m #[(.ref rp)] 9 = mkF m 0 #[vR rp, .unset, .unset, .unset, .unset, .unset, .unset, .unset, .unset] [] := by first | (simp [entryFrame, mkF, argsToLocals, Value.category]; done) | rfl
theorem d13_30 : D_5 30 = .ok (.lload 4, 2) := by decide +kernel
theorem d13_32 : D_5 32 = .ok (.iload_n 1, 1) := by decide +kernel
theorem d13_33 : D_5 33 = .ok (.i2l, 1) := by decide +kernel
theorem d13_34 : D_5 34 = .ok (.lconst 1, 1) := by decide +kernel
theorem d13_35 : D_5 35 = .ok (.ladd, 1) := by decide +kernel
theorem d13_36 : D_5 36 = .ok (.lload 6, 2) := by decide +kernel
theorem d13_38 : D_5 38 = .ok (.lmul, 1) := by decide +kernel
theorem d13_39 : D_5 39 = .ok (.ladd, 1) := by decide +kernel
theorem d13_40 : D_5 40 = .ok (.lstore 4, 2) := by decide +kernel
theorem d13_42 : D_5 42 = .ok (.lload 6, 2) := by decide +kernel
theorem d13_44 : D_5 44 = .ok (.lload 6, 2) := by decide +kernel
theorem d13_46 : D_5 46 = .ok (.lmul, 1) := by decide +kernel
theorem d13_47 : D_5 47 = .ok (.lstore 6, 2) := by decide +kernel
theorem d13_49 : D_5 49 = .ok (.iload 8, 2) := by decide +kernel
theorem d13_51 : D_5 51 = .ok (.iconst 2, 1) := by decide +kernel
theorem d13_52 : D_5 52 = .ok (.imul, 1) := by decide +kernel
theorem d13_53 : D_5 53 = .ok (.istore 8, 2) := by decide +kernel
theorem d13_55 : D_5 55 = .ok (.goto (-31), 3) := by decide +kernel
def Q13k2 (Z : State) (rp : Addr) (fp : Nat → Int32) (h0 : Heap) (n0 : Nat) (v : Option Value) (h : Heap) (L : List Loc) : Prop := ∃ xr : Int64, v = some (.long xr) ∧ Fr n0 L ∧ Keep h0 h []
set_option maxRecDepth 65536 in
set_option maxHeartbeats 40000000 in
theorem rm13k2 (l : Launch) (Z : State) (a0 : Array Value) (hw : ∀ d ∈ tables_1, d.before a0 Z = true) (ws : List Jvm.Cond) (rp : Addr) (fp : Nat → Int32) (h0 : Heap) (n0 : Nat) (Z0 : n0 ≤ h0.size) (A_rp : AI Z h0 rp .byte 2 fp) :
  MetFree l mN5 (head1 (Jvm.Cond.code mN5 prog_23_method_5_code 9 (some .long) :: ws) ({ frames := 2, cells := 1, slots := 4, locals := 31 } : Room)) (fun a U => a = #[(.ref rp)] ∧ Z.Warmed39 U.vm ∧ U.heap = h0) (fun _ _ _ _ _ => True) (fun _ U o U' => ∃ v L, o = .returned v ∧ Q13k2 Z rp fp h0 n0 v U'.heap L ∧ FrameEnd U o U' L ({ frames := 2, cells := 1, slots := 4, locals := 31 } : Room).cells ({ frames := 2, cells := 1, slots := 4, locals := 31 } : Room).slots) := by
 refine MetFree.of_bodySF (plainFor_of_name pn_skipstitch_search_Automaton) hisR ?_
 intro p e s m args below meth c s₁ Bd hml0 hP hK
 obtain ⟨rfl, hZ, hh⟩ := hP
 have hx := Bd.exec
 have hby := Bd.bytes
 have q {i : Nat} {r : _} (h : decode _ i = r) := hb hby h
 have hml : c.maxLocals = 9 := hml0
 have hown : s.vm.findClass cS0 = some m.cls := findClass_of_methodNamed Bd.named
 have hnm := (name_of_methodNamed Bd.named Bd.method).1
 have X0 : Stand p l e ({ frames := 2, cells := 1, slots := 4, locals := 31 } : Room) s m #[(.ref rp)] below meth c s₁ [] 0 0 := Stand.of_body Bd
 have e0 : s₁.heap = h0 := by rw [← hh, Bd.state]; rfl
 have N0 := Fr.nil n0
 have K0 : Keep h0 h0 [] := Keep.refl h0 _
 have pre0 : oP p e below (s₁.setTop (mkF m 0 #[vR rp, vU, vU, vU, vU, vU, vU, vU, vU] [])) (s₁.setTop (entryFrame m #[(.ref rp)] 9)) := fun t k => castTop (ef_13k2 m rp) k
 obtain ⟨cl1, Arcl1, Szcl1⟩ := AF.len A_rp
 obtain ⟨_, _, ⟨T2, L2, k2, n2⟩, -, X2, ⟨Lc2, hQ2, l2, y2, z2⟩, st2⟩ := Jvm.LawKit.callS X0 hx (y := mN1) hown (om hZ hw 37 rfl) (om hZ hw 38 rfl) (om hZ hw 32 rfl) (om hZ hw 39 rfl) (by decide) (backOf (W := 0) (rm7k2 l Z a0 hw [] rp fp h0 n0 Z0 A_rp) hZ (ow hw 39 rfl) (ow hw 32 rfl) (by decide) (by decide)) (g := (mkF m 4 #[vR rp, vI 2, vU, vU, vU, vU, vU, vU, vU] [(.ref rp)])) rfl (by rw [hml]; rfl) (argsL := [(.ref rp)]) (rest := []) (lenOf pd_1 rfl) rfl (oz rfl) (q d13_4) (fun _ _ => ⟨rfl, e0, (by decide : 0 + 1 ≤ _), (by decide : 0 + 4 ≤ _)⟩)
 dsimp only [Pt.U, Pt.locs, Pt.cells, Pt.slots] at X2 l2 y2 z2 st2 hQ2
 subst y2 z2
 obtain ⟨rfl, N2q, K2c⟩ := hQ2
 have N2 := oF l2 N0 N2q
 have Z2 := Nat.le_trans Z0 K2c.1
 have K2 := K0.trans K2c all0
 have pre4 : oP p e below (T2.setTop (mkF m 7 #[vR rp, vI 2, vU, vU, vU, vU, vU, vU, vU] [(.int (r7k2_v fp))])) (s₁.setTop (entryFrame m #[(.ref rp)] 9)) := by
  intro t k
  refine pre0 _ ?_
  refine XS.aloadN X0.here hx rfl (q d13_0) rfl rfl ?_
  refine X0.arraylength hx (by rw [e0]; exact Arcl1.1) (State.isArrayOf_alike hZ.alike Arcl1.2.1) (g := (mkF m 1 #[vR rp, vU, vU, vU, vU, vU, vU, vU, vU] [(.ref rp)])) rfl rfl (q d13_1) _ ?_
  rw [Szcl1]
  refine XS.istoreN X0.here hx rfl (q d13_2) rfl (l' := #[vR rp, vI 2, vU, vU, vU, vU, vU, vU, vU]) rfl ?_
  refine XS.aloadN X0.here hx rfl (q d13_3) rfl rfl ?_
  refine st2 _ ?_
  exact k
 rcases own_cc2 fp with hk5 | hk5 | hk5 | hk5
 ·have pre6 : oP p e below (T2.setTop (mkF m 7 #[vR rp, vI 2, vU, vU, vU, vU, vU, vU, vU] [(.int 1)])) (s₁.setTop (entryFrame m #[(.ref rp)] 9)) := by
   intro t k
   refine pre4 _ ?_
   rw [hk5]
   exact k
  obtain ⟨_, _, ⟨T7, L7, k7, n7⟩, -, X7, ⟨Lc7, hQ7, l7, y7, z7⟩, st7⟩ := Jvm.LawKit.callS X2 hx (y := mN2) hown (om hZ hw 48 rfl) (om hZ hw 49 rfl) (om hZ hw 32 rfl) (om hZ hw 50 rfl) (by decide) (backOf (W := 0) (rm9m2c1 l Z a0 hw []  T2.heap n0 Z2 ) hZ (ow hw 50 rfl) (ow hw 32 rfl) (by decide) (by decide)) (g := (mkF m 10 #[vR rp, vI 2, vI 1, vU, vU, vU, vU, vU, vU] [(.int 1), (.int 2)])) rfl (by rw [hml]; rfl) (argsL := [(.int 2), (.int 1)]) (rest := []) (lenOf pd_2 rfl) rfl (oz rfl) (q d13_10) (fun _ _ => ⟨rfl, rfl, (by decide : 1 + 0 ≤ _), (by decide : 4 + 0 ≤ _)⟩)
  dsimp only [Pt.U, Pt.locs, Pt.cells, Pt.slots] at X7 l7 y7 z7 st7 hQ7
  subst y7 z7
  obtain ⟨rfl, N7q, e7⟩ := hQ7
  have N7 := oF l7 N2 N7q
  obtain ⟨fs, hr, hrun, hended, hW, hsame⟩ := X7.leave (v := some (.long (9 : Int64))) (oR Bd.returns) (hlocks := Bd.notSynchronized)
  refine ⟨_, _, pre6 _ ?_, hrun, hended, _, _, rfl, ?_, ⟨_, rfl⟩, hW, hsame.mono (by decide) (by decide)⟩
  ·show Steps p.tables e below (T2.setTop (mkF m 7 #[vR rp, vI 2, vU, vU, vU, vU, vU, vU, vU] [(.int 1)])) _
   refine XS.istoreN X2.here hx rfl (q d13_7) rfl (l' := #[vR rp, vI 2, vI 1, vU, vU, vU, vU, vU, vU]) rfl ?_
   refine XS.iloadN X2.here hx rfl (q d13_8) rfl ?_
   refine XS.iloadN X2.here hx rfl (q d13_9) rfl ?_
   refine st7 _ ?_
   refine XS.istoreN X7.here hx rfl (q d13_13) rfl (l' := #[vR rp, vI 2, vI 1, vI 4, vU, vU, vU, vU, vU]) rfl ?_
   refine XS.lconst X7.here hx rfl (q d13_14) ?_
   refine XS.lstore X7.here hx rfl (q d13_15) rfl (l' := #[vR rp, vI 2, vI 1, vI 4, vJ (0 : Int64), .second, vU, vU, vU]) rfl ?_
   refine XS.iloadN X7.here hx rfl (q d13_17) rfl ?_
   refine XS.i2l X7.here hx rfl (q d13_18) rfl ?_
   refine XS.lstore X7.here hx rfl (q d13_19) rfl (l' := #[vR rp, vI 2, vI 1, vI 4, vJ (0 : Int64), .second, vJ (1 : Int64), .second, vU]) rfl ?_
   refine XS.iconst X7.here hx rfl (q d13_21) ?_
   refine XS.istore X7.here hx rfl (q d13_22) rfl (l' := #[vR rp, vI 2, vI 1, vI 4, vJ (0 : Int64), .second, vJ (1 : Int64), .second, vI 1]) rfl ?_
   refine XS.iload X7.here hx rfl (q d13_24) rfl ?_
   refine XS.iloadN X7.here hx rfl (q d13_26) rfl ?_
   refine XS.icmpNo X7.here hx rfl (q d13_27) rfl (flt (by decide : ¬ ((4 : Int32) < (1 : Int32)))).2.2.1 ?_
   refine XS.lload X7.here hx rfl (q d13_30) rfl ?_
   refine XS.iloadN X7.here hx rfl (q d13_32) rfl ?_
   refine XS.i2l X7.here hx rfl (q d13_33) rfl ?_
   refine XS.lconst X7.here hx rfl (q d13_34) ?_
   refine XS.ladd X7.here hx rfl (q d13_35) rfl ?_
   refine XS.lload X7.here hx rfl (q d13_36) rfl ?_
   refine XS.lmul X7.here hx rfl (q d13_38) rfl ?_
   refine XS.ladd X7.here hx rfl (q d13_39) rfl ?_
   refine XS.lstore X7.here hx rfl (q d13_40) rfl (l' := #[vR rp, vI 2, vI 1, vI 4, vJ (3 : Int64), .second, vJ (1 : Int64), .second, vI 1]) rfl ?_
   refine XS.lload X7.here hx rfl (q d13_42) rfl ?_
   refine XS.lload X7.here hx rfl (q d13_44) rfl ?_
   refine XS.lmul X7.here hx rfl (q d13_46) rfl ?_
   refine XS.lstore X7.here hx rfl (q d13_47) rfl (l' := #[vR rp, vI 2, vI 1, vI 4, vJ (3 : Int64), .second, vJ (1 : Int64), .second, vI 1]) rfl ?_
   refine XS.iload X7.here hx rfl (q d13_49) rfl ?_
   refine XS.iconst X7.here hx rfl (q d13_51) ?_
   refine XS.imul X7.here hx rfl (q d13_52) rfl ?_
   refine XS.istore X7.here hx rfl (q d13_53) rfl (l' := #[vR rp, vI 2, vI 1, vI 4, vJ (3 : Int64), .second, vJ (1 : Int64), .second, vI 2]) rfl ?_
   refine XS.goto X7.here hx rfl (pc0 := 55) (pc' := 24) rfl (q d13_55) (by decide) (by decide) ?_
   refine XS.iload X7.here hx rfl (q d13_24) rfl ?_
   refine XS.iloadN X7.here hx rfl (q d13_26) rfl ?_
   refine XS.icmpNo X7.here hx rfl (q d13_27) rfl (flt (by decide : ¬ ((4 : Int32) < (2 : Int32)))).2.2.1 ?_
   refine XS.lload X7.here hx rfl (q d13_30) rfl ?_
   refine XS.iloadN X7.here hx rfl (q d13_32) rfl ?_
   refine XS.i2l X7.here hx rfl (q d13_33) rfl ?_
   refine XS.lconst X7.here hx rfl (q d13_34) ?_
   refine XS.ladd X7.here hx rfl (q d13_35) rfl ?_
   refine XS.lload X7.here hx rfl (q d13_36) rfl ?_
   refine XS.lmul X7.here hx rfl (q d13_38) rfl ?_
   refine XS.ladd X7.here hx rfl (q d13_39) rfl ?_
   refine XS.lstore X7.here hx rfl (q d13_40) rfl (l' := #[vR rp, vI 2, vI 1, vI 4, vJ (6 : Int64), .second, vJ (1 : Int64), .second, vI 2]) rfl ?_
   refine XS.lload X7.here hx rfl (q d13_42) rfl ?_
   refine XS.lload X7.here hx rfl (q d13_44) rfl ?_
   refine XS.lmul X7.here hx rfl (q d13_46) rfl ?_
   refine XS.lstore X7.here hx rfl (q d13_47) rfl (l' := #[vR rp, vI 2, vI 1, vI 4, vJ (6 : Int64), .second, vJ (1 : Int64), .second, vI 2]) rfl ?_
   refine XS.iload X7.here hx rfl (q d13_49) rfl ?_
   refine XS.iconst X7.here hx rfl (q d13_51) ?_
   refine XS.imul X7.here hx rfl (q d13_52) rfl ?_
   refine XS.istore X7.here hx rfl (q d13_53) rfl (l' := #[vR rp, vI 2, vI 1, vI 4, vJ (6 : Int64), .second, vJ (1 : Int64), .second, vI 4]) rfl ?_
   refine XS.goto X7.here hx rfl (pc0 := 55) (pc' := 24) rfl (q d13_55) (by decide) (by decide) ?_
   refine XS.iload X7.here hx rfl (q d13_24) rfl ?_
   refine XS.iloadN X7.here hx rfl (q d13_26) rfl ?_
   refine XS.icmpNo X7.here hx rfl (q d13_27) rfl (flt (by decide : ¬ ((4 : Int32) < (4 : Int32)))).2.2.1 ?_
   refine XS.lload X7.here hx rfl (q d13_30) rfl ?_
   refine XS.iloadN X7.here hx rfl (q d13_32) rfl ?_
   refine XS.i2l X7.here hx rfl (q d13_33) rfl ?_
   refine XS.lconst X7.here hx rfl (q d13_34) ?_
   refine XS.ladd X7.here hx rfl (q d13_35) rfl ?_
   refine XS.lload X7.here hx rfl (q d13_36) rfl ?_
   refine XS.lmul X7.here hx rfl (q d13_38) rfl ?_
   refine XS.ladd X7.here hx rfl (q d13_39) rfl ?_
   refine XS.lstore X7.here hx rfl (q d13_40) rfl (l' := #[vR rp, vI 2, vI 1, vI 4, vJ (9 : Int64), .second, vJ (1 : Int64), .second, vI 4]) rfl ?_
   refine XS.lload X7.here hx rfl (q d13_42) rfl ?_
   refine XS.lload X7.here hx rfl (q d13_44) rfl ?_
   refine XS.lmul X7.here hx rfl (q d13_46) rfl ?_
   refine XS.lstore X7.here hx rfl (q d13_47) rfl (l' := #[vR rp, vI 2, vI 1, vI 4, vJ (9 : Int64), .second, vJ (1 : Int64), .second, vI 4]) rfl ?_
   refine XS.iload X7.here hx rfl (q d13_49) rfl ?_
   refine XS.iconst X7.here hx rfl (q d13_51) ?_
   refine XS.imul X7.here hx rfl (q d13_52) rfl ?_
   refine XS.istore X7.here hx rfl (q d13_53) rfl (l' := #[vR rp, vI 2, vI 1, vI 4, vJ (9 : Int64), .second, vJ (1 : Int64), .second, vI 8]) rfl ?_
   refine XS.goto X7.here hx rfl (pc0 := 55) (pc' := 24) rfl (q d13_55) (by decide) (by decide) ?_
   refine XS.iload X7.here hx rfl (q d13_24) rfl ?_
   refine XS.iloadN X7.here hx rfl (q d13_26) rfl ?_
   refine XS.icmpYes X7.here hx rfl (pc0 := 27) (pc' := 58) rfl (q d13_27) rfl (tlt (by decide : ((4 : Int32) < (8 : Int32)))).2.2.1 (by decide) (by decide) ?_
   refine XS.lload X7.here hx rfl (q d13_58) rfl ?_
   exact retOut X7 hx Bd.returns rfl (Or.inr (Or.inl ⟨rfl, rfl, _, rfl⟩)) (q d13_60) hr
  ·show Q13k2 Z rp fp h0 n0 _ T7.heap _
   rw [e7]
   exact ⟨(9 : Int64), rfl, N7, K2⟩
 ·have pre8 : oP p e below (T2.setTop (mkF m 7 #[vR rp, vI 2, vU, vU, vU, vU, vU, vU, vU] [(.int 2)])) (s₁.setTop (entryFrame m #[(.ref rp)] 9)) := by
   intro t k
   refine pre4 _ ?_
   rw [hk5]
   exact k
  obtain ⟨_, _, ⟨T9, L9, k9, n9⟩, -, X9, ⟨Lc9, hQ9, l9, y9, z9⟩, st9⟩ := Jvm.LawKit.callS X2 hx (y := mN2) hown (om hZ hw 48 rfl) (om hZ hw 49 rfl) (om hZ hw 32 rfl) (om hZ hw 50 rfl) (by decide) (backOf (W := 0) (rm9m2c2 l Z a0 hw []  T2.heap n0 Z2 ) hZ (ow hw 50 rfl) (ow hw 32 rfl) (by decide) (by decide)) (g := (mkF m 10 #[vR rp, vI 2, vI 2, vU, vU, vU, vU, vU, vU] [(.int 2), (.int 2)])) rfl (by rw [hml]; rfl) (argsL := [(.int 2), (.int 2)]) (rest := []) (lenOf pd_2 rfl) rfl (oz rfl) (q d13_10) (fun _ _ => ⟨rfl, rfl, (by decide : 1 + 0 ≤ _), (by decide : 4 + 0 ≤ _)⟩)
  dsimp only [Pt.U, Pt.locs, Pt.cells, Pt.slots] at X9 l9 y9 z9 st9 hQ9
  subst y9 z9
  obtain ⟨rfl, N9q, e9⟩ := hQ9
  have N9 := oF l9 N2 N9q
  obtain ⟨fs, hr, hrun, hended, hW, hsame⟩ := X9.leave (v := some (.long (66 : Int64))) (oR Bd.returns) (hlocks := Bd.notSynchronized)
  refine ⟨_, _, pre8 _ ?_, hrun, hended, _, _, rfl, ?_, ⟨_, rfl⟩, hW, hsame.mono (by decide) (by decide)⟩
  ·show Steps p.tables e below (T2.setTop (mkF m 7 #[vR rp, vI 2, vU, vU, vU, vU, vU, vU, vU] [(.int 2)])) _
   refine XS.istoreN X2.here hx rfl (q d13_7) rfl (l' := #[vR rp, vI 2, vI 2, vU, vU, vU, vU, vU, vU]) rfl ?_
   refine XS.iloadN X2.here hx rfl (q d13_8) rfl ?_
   refine XS.iloadN X2.here hx rfl (q d13_9) rfl ?_
   refine st9 _ ?_
   refine XS.istoreN X9.here hx rfl (q d13_13) rfl (l' := #[vR rp, vI 2, vI 2, vI 4, vU, vU, vU, vU, vU]) rfl ?_
   refine XS.lconst X9.here hx rfl (q d13_14) ?_
   refine XS.lstore X9.here hx rfl (q d13_15) rfl (l' := #[vR rp, vI 2, vI 2, vI 4, vJ (0 : Int64), .second, vU, vU, vU]) rfl ?_
   refine XS.iloadN X9.here hx rfl (q d13_17) rfl ?_
   refine XS.i2l X9.here hx rfl (q d13_18) rfl ?_
   refine XS.lstore X9.here hx rfl (q d13_19) rfl (l' := #[vR rp, vI 2, vI 2, vI 4, vJ (0 : Int64), .second, vJ (2 : Int64), .second, vU]) rfl ?_
   refine XS.iconst X9.here hx rfl (q d13_21) ?_
   refine XS.istore X9.here hx rfl (q d13_22) rfl (l' := #[vR rp, vI 2, vI 2, vI 4, vJ (0 : Int64), .second, vJ (2 : Int64), .second, vI 1]) rfl ?_
   refine XS.iload X9.here hx rfl (q d13_24) rfl ?_
   refine XS.iloadN X9.here hx rfl (q d13_26) rfl ?_
   refine XS.icmpNo X9.here hx rfl (q d13_27) rfl (flt (by decide : ¬ ((4 : Int32) < (1 : Int32)))).2.2.1 ?_
   refine XS.lload X9.here hx rfl (q d13_30) rfl ?_
   refine XS.iloadN X9.here hx rfl (q d13_32) rfl ?_
   refine XS.i2l X9.here hx rfl (q d13_33) rfl ?_
   refine XS.lconst X9.here hx rfl (q d13_34) ?_
   refine XS.ladd X9.here hx rfl (q d13_35) rfl ?_
   refine XS.lload X9.here hx rfl (q d13_36) rfl ?_
   refine XS.lmul X9.here hx rfl (q d13_38) rfl ?_
   refine XS.ladd X9.here hx rfl (q d13_39) rfl ?_
   refine XS.lstore X9.here hx rfl (q d13_40) rfl (l' := #[vR rp, vI 2, vI 2, vI 4, vJ (6 : Int64), .second, vJ (2 : Int64), .second, vI 1]) rfl ?_
   refine XS.lload X9.here hx rfl (q d13_42) rfl ?_
   refine XS.lload X9.here hx rfl (q d13_44) rfl ?_
   refine XS.lmul X9.here hx rfl (q d13_46) rfl ?_
   refine XS.lstore X9.here hx rfl (q d13_47) rfl (l' := #[vR rp, vI 2, vI 2, vI 4, vJ (6 : Int64), .second, vJ (4 : Int64), .second, vI 1]) rfl ?_
   refine XS.iload X9.here hx rfl (q d13_49) rfl ?_
   refine XS.iconst X9.here hx rfl (q d13_51) ?_
   refine XS.imul X9.here hx rfl (q d13_52) rfl ?_
   refine XS.istore X9.here hx rfl (q d13_53) rfl (l' := #[vR rp, vI 2, vI 2, vI 4, vJ (6 : Int64), .second, vJ (4 : Int64), .second, vI 2]) rfl ?_
   refine XS.goto X9.here hx rfl (pc0 := 55) (pc' := 24) rfl (q d13_55) (by decide) (by decide) ?_
   refine XS.iload X9.here hx rfl (q d13_24) rfl ?_
   refine XS.iloadN X9.here hx rfl (q d13_26) rfl ?_
   refine XS.icmpNo X9.here hx rfl (q d13_27) rfl (flt (by decide : ¬ ((4 : Int32) < (2 : Int32)))).2.2.1 ?_
   refine XS.lload X9.here hx rfl (q d13_30) rfl ?_
   refine XS.iloadN X9.here hx rfl (q d13_32) rfl ?_
   refine XS.i2l X9.here hx rfl (q d13_33) rfl ?_
   refine XS.lconst X9.here hx rfl (q d13_34) ?_
   refine XS.ladd X9.here hx rfl (q d13_35) rfl ?_
   refine XS.lload X9.here hx rfl (q d13_36) rfl ?_
   refine XS.lmul X9.here hx rfl (q d13_38) rfl ?_
   refine XS.ladd X9.here hx rfl (q d13_39) rfl ?_
   refine XS.lstore X9.here hx rfl (q d13_40) rfl (l' := #[vR rp, vI 2, vI 2, vI 4, vJ (18 : Int64), .second, vJ (4 : Int64), .second, vI 2]) rfl ?_
   refine XS.lload X9.here hx rfl (q d13_42) rfl ?_
   refine XS.lload X9.here hx rfl (q d13_44) rfl ?_
   refine XS.lmul X9.here hx rfl (q d13_46) rfl ?_
   refine XS.lstore X9.here hx rfl (q d13_47) rfl (l' := #[vR rp, vI 2, vI 2, vI 4, vJ (18 : Int64), .second, vJ (16 : Int64), .second, vI 2]) rfl ?_
   refine XS.iload X9.here hx rfl (q d13_49) rfl ?_
   refine XS.iconst X9.here hx rfl (q d13_51) ?_
   refine XS.imul X9.here hx rfl (q d13_52) rfl ?_
   refine XS.istore X9.here hx rfl (q d13_53) rfl (l' := #[vR rp, vI 2, vI 2, vI 4, vJ (18 : Int64), .second, vJ (16 : Int64), .second, vI 4]) rfl ?_
   refine XS.goto X9.here hx rfl (pc0 := 55) (pc' := 24) rfl (q d13_55) (by decide) (by decide) ?_
   refine XS.iload X9.here hx rfl (q d13_24) rfl ?_
   refine XS.iloadN X9.here hx rfl (q d13_26) rfl ?_
   refine XS.icmpNo X9.here hx rfl (q d13_27) rfl (flt (by decide : ¬ ((4 : Int32) < (4 : Int32)))).2.2.1 ?_
   refine XS.lload X9.here hx rfl (q d13_30) rfl ?_
   refine XS.iloadN X9.here hx rfl (q d13_32) rfl ?_
   refine XS.i2l X9.here hx rfl (q d13_33) rfl ?_
   refine XS.lconst X9.here hx rfl (q d13_34) ?_
   refine XS.ladd X9.here hx rfl (q d13_35) rfl ?_
   refine XS.lload X9.here hx rfl (q d13_36) rfl ?_
   refine XS.lmul X9.here hx rfl (q d13_38) rfl ?_
   refine XS.ladd X9.here hx rfl (q d13_39) rfl ?_
   refine XS.lstore X9.here hx rfl (q d13_40) rfl (l' := #[vR rp, vI 2, vI 2, vI 4, vJ (66 : Int64), .second, vJ (16 : Int64), .second, vI 4]) rfl ?_
   refine XS.lload X9.here hx rfl (q d13_42) rfl ?_
   refine XS.lload X9.here hx rfl (q d13_44) rfl ?_
   refine XS.lmul X9.here hx rfl (q d13_46) rfl ?_
   refine XS.lstore X9.here hx rfl (q d13_47) rfl (l' := #[vR rp, vI 2, vI 2, vI 4, vJ (66 : Int64), .second, vJ (256 : Int64), .second, vI 4]) rfl ?_
   refine XS.iload X9.here hx rfl (q d13_49) rfl ?_
   refine XS.iconst X9.here hx rfl (q d13_51) ?_
   refine XS.imul X9.here hx rfl (q d13_52) rfl ?_
   refine XS.istore X9.here hx rfl (q d13_53) rfl (l' := #[vR rp, vI 2, vI 2, vI 4, vJ (66 : Int64), .second, vJ (256 : Int64), .second, vI 8]) rfl ?_
   refine XS.goto X9.here hx rfl (pc0 := 55) (pc' := 24) rfl (q d13_55) (by decide) (by decide) ?_
   refine XS.iload X9.here hx rfl (q d13_24) rfl ?_
   refine XS.iloadN X9.here hx rfl (q d13_26) rfl ?_
   refine XS.icmpYes X9.here hx rfl (pc0 := 27) (pc' := 58) rfl (q d13_27) rfl (tlt (by decide : ((4 : Int32) < (8 : Int32)))).2.2.1 (by decide) (by decide) ?_
   refine XS.lload X9.here hx rfl (q d13_58) rfl ?_
   exact retOut X9 hx Bd.returns rfl (Or.inr (Or.inl ⟨rfl, rfl, _, rfl⟩)) (q d13_60) hr
  ·show Q13k2 Z rp fp h0 n0 _ T9.heap _
   rw [e9]
   exact ⟨(66 : Int64), rfl, N9, K2⟩
 ·have pre10 : oP p e below (T2.setTop (mkF m 7 #[vR rp, vI 2, vU, vU, vU, vU, vU, vU, vU] [(.int 3)])) (s₁.setTop (entryFrame m #[(.ref rp)] 9)) := by
   intro t k
   refine pre4 _ ?_
   rw [hk5]
   exact k
  obtain ⟨_, _, ⟨T11, L11, k11, n11⟩, -, X11, ⟨Lc11, hQ11, l11, y11, z11⟩, st11⟩ := Jvm.LawKit.callS X2 hx (y := mN2) hown (om hZ hw 48 rfl) (om hZ hw 49 rfl) (om hZ hw 32 rfl) (om hZ hw 50 rfl) (by decide) (backOf (W := 0) (rm9m2c3 l Z a0 hw []  T2.heap n0 Z2 ) hZ (ow hw 50 rfl) (ow hw 32 rfl) (by decide) (by decide)) (g := (mkF m 10 #[vR rp, vI 2, vI 3, vU, vU, vU, vU, vU, vU] [(.int 3), (.int 2)])) rfl (by rw [hml]; rfl) (argsL := [(.int 2), (.int 3)]) (rest := []) (lenOf pd_2 rfl) rfl (oz rfl) (q d13_10) (fun _ _ => ⟨rfl, rfl, (by decide : 1 + 0 ≤ _), (by decide : 4 + 0 ≤ _)⟩)
  dsimp only [Pt.U, Pt.locs, Pt.cells, Pt.slots] at X11 l11 y11 z11 st11 hQ11
  subst y11 z11
  obtain ⟨rfl, N11q, e11⟩ := hQ11
  have N11 := oF l11 N2 N11q
  obtain ⟨fs, hr, hrun, hended, hW, hsame⟩ := X11.leave (v := some (.long (279 : Int64))) (oR Bd.returns) (hlocks := Bd.notSynchronized)
  refine ⟨_, _, pre10 _ ?_, hrun, hended, _, _, rfl, ?_, ⟨_, rfl⟩, hW, hsame.mono (by decide) (by decide)⟩
  ·show Steps p.tables e below (T2.setTop (mkF m 7 #[vR rp, vI 2, vU, vU, vU, vU, vU, vU, vU] [(.int 3)])) _
   refine XS.istoreN X2.here hx rfl (q d13_7) rfl (l' := #[vR rp, vI 2, vI 3, vU, vU, vU, vU, vU, vU]) rfl ?_
   refine XS.iloadN X2.here hx rfl (q d13_8) rfl ?_
   refine XS.iloadN X2.here hx rfl (q d13_9) rfl ?_
   refine st11 _ ?_
   refine XS.istoreN X11.here hx rfl (q d13_13) rfl (l' := #[vR rp, vI 2, vI 3, vI 4, vU, vU, vU, vU, vU]) rfl ?_
   refine XS.lconst X11.here hx rfl (q d13_14) ?_
   refine XS.lstore X11.here hx rfl (q d13_15) rfl (l' := #[vR rp, vI 2, vI 3, vI 4, vJ (0 : Int64), .second, vU, vU, vU]) rfl ?_
   refine XS.iloadN X11.here hx rfl (q d13_17) rfl ?_
   refine XS.i2l X11.here hx rfl (q d13_18) rfl ?_
   refine XS.lstore X11.here hx rfl (q d13_19) rfl (l' := #[vR rp, vI 2, vI 3, vI 4, vJ (0 : Int64), .second, vJ (3 : Int64), .second, vU]) rfl ?_
   refine XS.iconst X11.here hx rfl (q d13_21) ?_
   refine XS.istore X11.here hx rfl (q d13_22) rfl (l' := #[vR rp, vI 2, vI 3, vI 4, vJ (0 : Int64), .second, vJ (3 : Int64), .second, vI 1]) rfl ?_
   refine XS.iload X11.here hx rfl (q d13_24) rfl ?_
   refine XS.iloadN X11.here hx rfl (q d13_26) rfl ?_
   refine XS.icmpNo X11.here hx rfl (q d13_27) rfl (flt (by decide : ¬ ((4 : Int32) < (1 : Int32)))).2.2.1 ?_
   refine XS.lload X11.here hx rfl (q d13_30) rfl ?_
   refine XS.iloadN X11.here hx rfl (q d13_32) rfl ?_
   refine XS.i2l X11.here hx rfl (q d13_33) rfl ?_
   refine XS.lconst X11.here hx rfl (q d13_34) ?_
   refine XS.ladd X11.here hx rfl (q d13_35) rfl ?_
   refine XS.lload X11.here hx rfl (q d13_36) rfl ?_
   refine XS.lmul X11.here hx rfl (q d13_38) rfl ?_
   refine XS.ladd X11.here hx rfl (q d13_39) rfl ?_
   refine XS.lstore X11.here hx rfl (q d13_40) rfl (l' := #[vR rp, vI 2, vI 3, vI 4, vJ (9 : Int64), .second, vJ (3 : Int64), .second, vI 1]) rfl ?_
   refine XS.lload X11.here hx rfl (q d13_42) rfl ?_
   refine XS.lload X11.here hx rfl (q d13_44) rfl ?_
   refine XS.lmul X11.here hx rfl (q d13_46) rfl ?_
   refine XS.lstore X11.here hx rfl (q d13_47) rfl (l' := #[vR rp, vI 2, vI 3, vI 4, vJ (9 : Int64), .second, vJ (9 : Int64), .second, vI 1]) rfl ?_
   refine XS.iload X11.here hx rfl (q d13_49) rfl ?_
   refine XS.iconst X11.here hx rfl (q d13_51) ?_
   refine XS.imul X11.here hx rfl (q d13_52) rfl ?_
   refine XS.istore X11.here hx rfl (q d13_53) rfl (l' := #[vR rp, vI 2, vI 3, vI 4, vJ (9 : Int64), .second, vJ (9 : Int64), .second, vI 2]) rfl ?_
   refine XS.goto X11.here hx rfl (pc0 := 55) (pc' := 24) rfl (q d13_55) (by decide) (by decide) ?_
   refine XS.iload X11.here hx rfl (q d13_24) rfl ?_
   refine XS.iloadN X11.here hx rfl (q d13_26) rfl ?_
   refine XS.icmpNo X11.here hx rfl (q d13_27) rfl (flt (by decide : ¬ ((4 : Int32) < (2 : Int32)))).2.2.1 ?_
   refine XS.lload X11.here hx rfl (q d13_30) rfl ?_
   refine XS.iloadN X11.here hx rfl (q d13_32) rfl ?_
   refine XS.i2l X11.here hx rfl (q d13_33) rfl ?_
   refine XS.lconst X11.here hx rfl (q d13_34) ?_
   refine XS.ladd X11.here hx rfl (q d13_35) rfl ?_
   refine XS.lload X11.here hx rfl (q d13_36) rfl ?_
   refine XS.lmul X11.here hx rfl (q d13_38) rfl ?_
   refine XS.ladd X11.here hx rfl (q d13_39) rfl ?_
   refine XS.lstore X11.here hx rfl (q d13_40) rfl (l' := #[vR rp, vI 2, vI 3, vI 4, vJ (36 : Int64), .second, vJ (9 : Int64), .second, vI 2]) rfl ?_
   refine XS.lload X11.here hx rfl (q d13_42) rfl ?_
   refine XS.lload X11.here hx rfl (q d13_44) rfl ?_
   refine XS.lmul X11.here hx rfl (q d13_46) rfl ?_
   refine XS.lstore X11.here hx rfl (q d13_47) rfl (l' := #[vR rp, vI 2, vI 3, vI 4, vJ (36 : Int64), .second, vJ (81 : Int64), .second, vI 2]) rfl ?_
   refine XS.iload X11.here hx rfl (q d13_49) rfl ?_
   refine XS.iconst X11.here hx rfl (q d13_51) ?_
   refine XS.imul X11.here hx rfl (q d13_52) rfl ?_
   refine XS.istore X11.here hx rfl (q d13_53) rfl (l' := #[vR rp, vI 2, vI 3, vI 4, vJ (36 : Int64), .second, vJ (81 : Int64), .second, vI 4]) rfl ?_
   refine XS.goto X11.here hx rfl (pc0 := 55) (pc' := 24) rfl (q d13_55) (by decide) (by decide) ?_
   refine XS.iload X11.here hx rfl (q d13_24) rfl ?_
   refine XS.iloadN X11.here hx rfl (q d13_26) rfl ?_
   refine XS.icmpNo X11.here hx rfl (q d13_27) rfl (flt (by decide : ¬ ((4 : Int32) < (4 : Int32)))).2.2.1 ?_
   refine XS.lload X11.here hx rfl (q d13_30) rfl ?_
   refine XS.iloadN X11.here hx rfl (q d13_32) rfl ?_
   refine XS.i2l X11.here hx rfl (q d13_33) rfl ?_
   refine XS.lconst X11.here hx rfl (q d13_34) ?_
   refine XS.ladd X11.here hx rfl (q d13_35) rfl ?_
   refine XS.lload X11.here hx rfl (q d13_36) rfl ?_
   refine XS.lmul X11.here hx rfl (q d13_38) rfl ?_
   refine XS.ladd X11.here hx rfl (q d13_39) rfl ?_
   refine XS.lstore X11.here hx rfl (q d13_40) rfl (l' := #[vR rp, vI 2, vI 3, vI 4, vJ (279 : Int64), .second, vJ (81 : Int64), .second, vI 4]) rfl ?_
   refine XS.lload X11.here hx rfl (q d13_42) rfl ?_
   refine XS.lload X11.here hx rfl (q d13_44) rfl ?_
   refine XS.lmul X11.here hx rfl (q d13_46) rfl ?_
   refine XS.lstore X11.here hx rfl (q d13_47) rfl (l' := #[vR rp, vI 2, vI 3, vI 4, vJ (279 : Int64), .second, vJ (6561 : Int64), .second, vI 4]) rfl ?_
   refine XS.iload X11.here hx rfl (q d13_49) rfl ?_
   refine XS.iconst X11.here hx rfl (q d13_51) ?_
   refine XS.imul X11.here hx rfl (q d13_52) rfl ?_
   refine XS.istore X11.here hx rfl (q d13_53) rfl (l' := #[vR rp, vI 2, vI 3, vI 4, vJ (279 : Int64), .second, vJ (6561 : Int64), .second, vI 8]) rfl ?_
   refine XS.goto X11.here hx rfl (pc0 := 55) (pc' := 24) rfl (q d13_55) (by decide) (by decide) ?_
   refine XS.iload X11.here hx rfl (q d13_24) rfl ?_
   refine XS.iloadN X11.here hx rfl (q d13_26) rfl ?_
   refine XS.icmpYes X11.here hx rfl (pc0 := 27) (pc' := 58) rfl (q d13_27) rfl (tlt (by decide : ((4 : Int32) < (8 : Int32)))).2.2.1 (by decide) (by decide) ?_
   refine XS.lload X11.here hx rfl (q d13_58) rfl ?_
   exact retOut X11 hx Bd.returns rfl (Or.inr (Or.inl ⟨rfl, rfl, _, rfl⟩)) (q d13_60) hr
  ·show Q13k2 Z rp fp h0 n0 _ T11.heap _
   rw [e11]
   exact ⟨(279 : Int64), rfl, N11, K2⟩
 ·have pre12 : oP p e below (T2.setTop (mkF m 7 #[vR rp, vI 2, vU, vU, vU, vU, vU, vU, vU] [(.int 4)])) (s₁.setTop (entryFrame m #[(.ref rp)] 9)) := by
   intro t k
   refine pre4 _ ?_
   rw [hk5]
   exact k
  obtain ⟨_, _, ⟨T13, L13, k13, n13⟩, -, X13, ⟨Lc13, hQ13, l13, y13, z13⟩, st13⟩ := Jvm.LawKit.callS X2 hx (y := mN2) hown (om hZ hw 48 rfl) (om hZ hw 49 rfl) (om hZ hw 32 rfl) (om hZ hw 50 rfl) (by decide) (backOf (W := 0) (rm9m2c4 l Z a0 hw []  T2.heap n0 Z2 ) hZ (ow hw 50 rfl) (ow hw 32 rfl) (by decide) (by decide)) (g := (mkF m 10 #[vR rp, vI 2, vI 4, vU, vU, vU, vU, vU, vU] [(.int 4), (.int 2)])) rfl (by rw [hml]; rfl) (argsL := [(.int 2), (.int 4)]) (rest := []) (lenOf pd_2 rfl) rfl (oz rfl) (q d13_10) (fun _ _ => ⟨rfl, rfl, (by decide : 1 + 0 ≤ _), (by decide : 4 + 0 ≤ _)⟩)
  dsimp only [Pt.U, Pt.locs, Pt.cells, Pt.slots] at X13 l13 y13 z13 st13 hQ13
  subst y13 z13
  obtain ⟨rfl, N13q, e13⟩ := hQ13
  have N13 := oF l13 N2 N13q
  obtain ⟨fs, hr, hrun, hended, hW, hsame⟩ := X13.leave (v := some (.long (828 : Int64))) (oR Bd.returns) (hlocks := Bd.notSynchronized)
  refine ⟨_, _, pre12 _ ?_, hrun, hended, _, _, rfl, ?_, ⟨_, rfl⟩, hW, hsame.mono (by decide) (by decide)⟩
  ·show Steps p.tables e below (T2.setTop (mkF m 7 #[vR rp, vI 2, vU, vU, vU, vU, vU, vU, vU] [(.int 4)])) _
   refine XS.istoreN X2.here hx rfl (q d13_7) rfl (l' := #[vR rp, vI 2, vI 4, vU, vU, vU, vU, vU, vU]) rfl ?_
   refine XS.iloadN X2.here hx rfl (q d13_8) rfl ?_
   refine XS.iloadN X2.here hx rfl (q d13_9) rfl ?_
   refine st13 _ ?_
   refine XS.istoreN X13.here hx rfl (q d13_13) rfl (l' := #[vR rp, vI 2, vI 4, vI 4, vU, vU, vU, vU, vU]) rfl ?_
   refine XS.lconst X13.here hx rfl (q d13_14) ?_
   refine XS.lstore X13.here hx rfl (q d13_15) rfl (l' := #[vR rp, vI 2, vI 4, vI 4, vJ (0 : Int64), .second, vU, vU, vU]) rfl ?_
   refine XS.iloadN X13.here hx rfl (q d13_17) rfl ?_
   refine XS.i2l X13.here hx rfl (q d13_18) rfl ?_
   refine XS.lstore X13.here hx rfl (q d13_19) rfl (l' := #[vR rp, vI 2, vI 4, vI 4, vJ (0 : Int64), .second, vJ (4 : Int64), .second, vU]) rfl ?_
   refine XS.iconst X13.here hx rfl (q d13_21) ?_
   refine XS.istore X13.here hx rfl (q d13_22) rfl (l' := #[vR rp, vI 2, vI 4, vI 4, vJ (0 : Int64), .second, vJ (4 : Int64), .second, vI 1]) rfl ?_
   refine XS.iload X13.here hx rfl (q d13_24) rfl ?_
   refine XS.iloadN X13.here hx rfl (q d13_26) rfl ?_
   refine XS.icmpNo X13.here hx rfl (q d13_27) rfl (flt (by decide : ¬ ((4 : Int32) < (1 : Int32)))).2.2.1 ?_
   refine XS.lload X13.here hx rfl (q d13_30) rfl ?_
   refine XS.iloadN X13.here hx rfl (q d13_32) rfl ?_
   refine XS.i2l X13.here hx rfl (q d13_33) rfl ?_
   refine XS.lconst X13.here hx rfl (q d13_34) ?_
   refine XS.ladd X13.here hx rfl (q d13_35) rfl ?_
   refine XS.lload X13.here hx rfl (q d13_36) rfl ?_
   refine XS.lmul X13.here hx rfl (q d13_38) rfl ?_
   refine XS.ladd X13.here hx rfl (q d13_39) rfl ?_
   refine XS.lstore X13.here hx rfl (q d13_40) rfl (l' := #[vR rp, vI 2, vI 4, vI 4, vJ (12 : Int64), .second, vJ (4 : Int64), .second, vI 1]) rfl ?_
   refine XS.lload X13.here hx rfl (q d13_42) rfl ?_
   refine XS.lload X13.here hx rfl (q d13_44) rfl ?_
   refine XS.lmul X13.here hx rfl (q d13_46) rfl ?_
   refine XS.lstore X13.here hx rfl (q d13_47) rfl (l' := #[vR rp, vI 2, vI 4, vI 4, vJ (12 : Int64), .second, vJ (16 : Int64), .second, vI 1]) rfl ?_
   refine XS.iload X13.here hx rfl (q d13_49) rfl ?_
   refine XS.iconst X13.here hx rfl (q d13_51) ?_
   refine XS.imul X13.here hx rfl (q d13_52) rfl ?_
   refine XS.istore X13.here hx rfl (q d13_53) rfl (l' := #[vR rp, vI 2, vI 4, vI 4, vJ (12 : Int64), .second, vJ (16 : Int64), .second, vI 2]) rfl ?_
   refine XS.goto X13.here hx rfl (pc0 := 55) (pc' := 24) rfl (q d13_55) (by decide) (by decide) ?_
   refine XS.iload X13.here hx rfl (q d13_24) rfl ?_
   refine XS.iloadN X13.here hx rfl (q d13_26) rfl ?_
   refine XS.icmpNo X13.here hx rfl (q d13_27) rfl (flt (by decide : ¬ ((4 : Int32) < (2 : Int32)))).2.2.1 ?_
   refine XS.lload X13.here hx rfl (q d13_30) rfl ?_
   refine XS.iloadN X13.here hx rfl (q d13_32) rfl ?_
   refine XS.i2l X13.here hx rfl (q d13_33) rfl ?_
   refine XS.lconst X13.here hx rfl (q d13_34) ?_
   refine XS.ladd X13.here hx rfl (q d13_35) rfl ?_
   refine XS.lload X13.here hx rfl (q d13_36) rfl ?_
   refine XS.lmul X13.here hx rfl (q d13_38) rfl ?_
   refine XS.ladd X13.here hx rfl (q d13_39) rfl ?_
   refine XS.lstore X13.here hx rfl (q d13_40) rfl (l' := #[vR rp, vI 2, vI 4, vI 4, vJ (60 : Int64), .second, vJ (16 : Int64), .second, vI 2]) rfl ?_
   refine XS.lload X13.here hx rfl (q d13_42) rfl ?_
   refine XS.lload X13.here hx rfl (q d13_44) rfl ?_
   refine XS.lmul X13.here hx rfl (q d13_46) rfl ?_
   refine XS.lstore X13.here hx rfl (q d13_47) rfl (l' := #[vR rp, vI 2, vI 4, vI 4, vJ (60 : Int64), .second, vJ (256 : Int64), .second, vI 2]) rfl ?_
   refine XS.iload X13.here hx rfl (q d13_49) rfl ?_
   refine XS.iconst X13.here hx rfl (q d13_51) ?_
   refine XS.imul X13.here hx rfl (q d13_52) rfl ?_
   refine XS.istore X13.here hx rfl (q d13_53) rfl (l' := #[vR rp, vI 2, vI 4, vI 4, vJ (60 : Int64), .second, vJ (256 : Int64), .second, vI 4]) rfl ?_
   refine XS.goto X13.here hx rfl (pc0 := 55) (pc' := 24) rfl (q d13_55) (by decide) (by decide) ?_
   refine XS.iload X13.here hx rfl (q d13_24) rfl ?_
   refine XS.iloadN X13.here hx rfl (q d13_26) rfl ?_
   refine XS.icmpNo X13.here hx rfl (q d13_27) rfl (flt (by decide : ¬ ((4 : Int32) < (4 : Int32)))).2.2.1 ?_
   refine XS.lload X13.here hx rfl (q d13_30) rfl ?_
   refine XS.iloadN X13.here hx rfl (q d13_32) rfl ?_
   refine XS.i2l X13.here hx rfl (q d13_33) rfl ?_
   refine XS.lconst X13.here hx rfl (q d13_34) ?_
   refine XS.ladd X13.here hx rfl (q d13_35) rfl ?_
   refine XS.lload X13.here hx rfl (q d13_36) rfl ?_
   refine XS.lmul X13.here hx rfl (q d13_38) rfl ?_
   refine XS.ladd X13.here hx rfl (q d13_39) rfl ?_
   refine XS.lstore X13.here hx rfl (q d13_40) rfl (l' := #[vR rp, vI 2, vI 4, vI 4, vJ (828 : Int64), .second, vJ (256 : Int64), .second, vI 4]) rfl ?_
   refine XS.lload X13.here hx rfl (q d13_42) rfl ?_
   refine XS.lload X13.here hx rfl (q d13_44) rfl ?_
   refine XS.lmul X13.here hx rfl (q d13_46) rfl ?_
   refine XS.lstore X13.here hx rfl (q d13_47) rfl (l' := #[vR rp, vI 2, vI 4, vI 4, vJ (828 : Int64), .second, vJ (65536 : Int64), .second, vI 4]) rfl ?_
   refine XS.iload X13.here hx rfl (q d13_49) rfl ?_
   refine XS.iconst X13.here hx rfl (q d13_51) ?_
   refine XS.imul X13.here hx rfl (q d13_52) rfl ?_
   refine XS.istore X13.here hx rfl (q d13_53) rfl (l' := #[vR rp, vI 2, vI 4, vI 4, vJ (828 : Int64), .second, vJ (65536 : Int64), .second, vI 8]) rfl ?_
   refine XS.goto X13.here hx rfl (pc0 := 55) (pc' := 24) rfl (q d13_55) (by decide) (by decide) ?_
   refine XS.iload X13.here hx rfl (q d13_24) rfl ?_
   refine XS.iloadN X13.here hx rfl (q d13_26) rfl ?_
   refine XS.icmpYes X13.here hx rfl (pc0 := 27) (pc' := 58) rfl (q d13_27) rfl (tlt (by decide : ((4 : Int32) < (8 : Int32)))).2.2.1 (by decide) (by decide) ?_
   refine XS.lload X13.here hx rfl (q d13_58) rfl ?_
   exact retOut X13 hx Bd.returns rfl (Or.inr (Or.inl ⟨rfl, rfl, _, rfl⟩)) (q d13_60) hr
  ·show Q13k2 Z rp fp h0 n0 _ T13.heap _
   rw [e13]
   exact ⟨(828 : Int64), rfl, N13, K2⟩
theorem ef_10k2 (m : MethodId) (ra : Addr) : entryFrame m #[(.ref ra)] 2 = mkF m 0 #[vR ra, .unset] [] := by first | (simp [entryFrame, mkF, argsToLocals, Value.category]; done) | rfl
def Q10k2 (Z : State) (ra : Addr) (rp : Addr) (rl : Addr) (fp : Nat → Int32) (h0 : Heap) (n0 : Nat) (v : Option Value) (h : Heap) (L : List Loc) : Prop := v = some (.int 4) ∧ Fr n0 L ∧ Keep h0 h [ra] ∧ Fld Z h ra cS1 "pattern" "[B" (.ref rp) ∧ Fld Z h ra cS1 "width" "I" (.int 4) ∧ Fld Z h ra cS1 "links" "[I" (.ref rl) ∧ Fld Z h ra cS1 "automaton" cS2 .null
set_option maxRecDepth 65536 in
set_option maxHeartbeats 40000000 in
theorem rm10k2 (l : Launch) (Z : State) (a0 : Array Value) (hw : ∀ d ∈ tables_1, d.before a0 Z = true) (ws : List Jvm.Cond) (ra : Addr) (rp : Addr) (rl : Addr) (fp : Nat → Int32) (h0 : Heap) (n0 : Nat) (Z0 : n0 ≤ h0.size) (E_ra : Exa Z h0 ra cS1) (F_pattern_ra : Fld Z h0 ra cS1 "pattern" "[B" (.ref rp)) (F_width_ra : Fld Z h0 ra cS1 "width" "I" (.int (-1 : Int32))) (F_links_ra : Fld Z h0 ra cS1 "links" "[I" (.ref rl)) (F_automaton_ra : Fld Z h0 ra cS1 "automaton" cS2 .null) (A_rp : AI Z h0 rp .byte 2 fp) (ne_rp_ra : rp ≠ ra) (g_ra : n0 ≤ ra) :
  MetFree l mN6 (head1 (Jvm.Cond.code mN6 prog_28_method_2_code 2 (some .int) :: ws) ({ frames := 3, cells := 1, slots := 4, locals := 44 } : Room)) (fun a U => a = #[(.ref ra)] ∧ Z.Warmed39 U.vm ∧ U.heap = h0) (fun _ _ _ _ _ => True) (fun _ U o U' => ∃ v L, o = .returned v ∧ Q10k2 Z ra rp rl fp h0 n0 v U'.heap L ∧ FrameEnd U o U' L ({ frames := 3, cells := 1, slots := 4, locals := 44 } : Room).cells ({ frames := 3, cells := 1, slots := 4, locals := 44 } : Room).slots) := by
 refine MetFree.of_bodySF (plainFor_of_name pn_skipstitch_search_LazyAutomaton) hisR ?_
 intro p e s m args below meth c s₁ Bd hml0 hP hK
 obtain ⟨rfl, hZ, hh⟩ := hP
 have hx := Bd.exec
 have hby := Bd.bytes
 have q {i : Nat} {r : _} (h : decode _ i = r) := hb hby h
 have hml : c.maxLocals = 2 := hml0
 have hown : s.vm.findClass cS1 = some m.cls := findClass_of_methodNamed Bd.named
 have hnm := (name_of_methodNamed Bd.named Bd.method).1
 have X0 : Stand p l e ({ frames := 3, cells := 1, slots := 4, locals := 44 } : Room) s m #[(.ref ra)] below meth c s₁ [] 0 0 := Stand.of_body Bd
 have e0 : s₁.heap = h0 := by rw [← hh, Bd.state]; rfl
 have N0 := Fr.nil n0
 have K0 : Keep h0 h0 [ra] := Keep.refl h0 _
 have pre0 : oP p e below (s₁.setTop (mkF m 0 #[vR ra, vU] [])) (s₁.setTop (entryFrame m #[(.ref ra)] 2)) := fun t k => castTop (ef_10k2 m ra) k
 obtain ⟨T1, X1, e1, st1⟩ := getF X0 hx hZ hown (host := "") (Or.inl (ow hw 12 rfl)) Via.refl e0 F_width_ra (g := (mkF m 1 #[vR ra, vU] [(.ref ra)])) rfl rfl (q d10_1)
 obtain ⟨T2, X2, e2, st2⟩ := getF X1 hx hZ hown (host := "") (Or.inl (ow hw 14 rfl)) Via.refl e1 F_pattern_ra (g := (mkF m 10 #[vR ra, vI (-1 : Int32)] [(.ref ra)])) rfl rfl (q d10_10)
 obtain ⟨_, _, ⟨T3, L3, k3, n3⟩, -, X3, ⟨Lc3, hQ3, l3, y3, z3⟩, st3⟩ := Jvm.LawKit.callS X2 hx (y := mN4) hown (om hZ hw 56 rfl) (om hZ hw 57 rfl) (om hZ hw 32 rfl) (om hZ hw 58 rfl) (by decide) (backOf (W := 0) (rm11k2 l Z a0 hw [] rp fp h0 n0 Z0 A_rp) hZ (ow hw 58 rfl) (ow hw 32 rfl) (by decide) (by decide)) (g := (mkF m 13 #[vR ra, vI (-1 : Int32)] [(.ref rp)])) rfl (by rw [hml]; rfl) (argsL := [(.ref rp)]) (rest := []) (lenOf pd_1 rfl) rfl (oz rfl) (q d10_13) (fun _ _ => ⟨rfl, e2, (by decide : 0 + 1 ≤ _), (by decide : 0 + 4 ≤ _)⟩)
 dsimp only [Pt.U, Pt.locs, Pt.cells, Pt.slots] at X3 l3 y3 z3 st3 hQ3
 subst y3 z3
 obtain ⟨rfl, N3q, K3c⟩ := hQ3
 have N3 := oF l3 N0 N3q
 have f4 := E_ra.keep K3c
 have f5 := F_pattern_ra.keep K3c nin0
 have f6 := F_width_ra.keep K3c nin0
 have f7 := F_links_ra.keep K3c nin0
 have f8 := F_automaton_ra.keep K3c nin0
 have K3 := K0.trans K3c all0
 obtain ⟨T10, h10, X10, e10, W10, st10⟩ := putF X3 hx hZ hown (host := "") (Or.inl (ow hw 12 rfl)) Via.refl rfl f6 f4 (Or.inl (ow hw 13 rfl)) (ow hw 4 rfl) (ty := .int) (by decide) rfl rfl (g := (mkF m 19 #[vR ra, vI 4] [(.int 4), (.ref ra)])) rfl rfl (q d10_19)
 have N10 := Fr.snoc X10 N3 g_ra
 have K10 := K3.wr W10 (Or.inl (List.mem_of_getElem? (i := 0) rfl))
 have f11 : Fld Z h10 ra cS1 "width" "I" (.int 4) := f6.same W10
 have f13 := f5.other W10 (Or.inr (slot_ne (Or.inr (ow hw 15 rfl)) (Or.inl (ow hw 13 rfl)) (by decide) (t := (.array .byte)) (t' := .int) (by decide) (by decide)))
 have f14 := f7.other W10 (Or.inr (slot_ne (Or.inr (ow hw 17 rfl)) (Or.inl (ow hw 13 rfl)) (by decide) (t := (.array .int)) (t' := .int) (by decide) (by decide)))
 have f15 := f8.other W10 (Or.inr (slot_ne (Or.inl (ow hw 24 rfl)) (Or.inl (ow hw 13 rfl)) (by decide) (t := (.object cS0)) (t' := .int) (by decide) (by decide)))
 obtain ⟨fs, hr, hrun, hended, hW, hsame⟩ := X10.leave (v := some (.int 4)) (oR Bd.returns) (hlocks := Bd.notSynchronized)
 refine ⟨_, _, pre0 _ ?_, hrun, hended, _, _, rfl, ?_, ⟨_, rfl⟩, hW, hsame.mono (by decide) (by decide)⟩
 ·show Steps p.tables e below (s₁.setTop (mkF m 0 #[vR ra, vU] [])) _
  refine XS.aloadN X0.here hx rfl (q d10_0) rfl rfl ?_
  refine st1 _ ?_
  refine XS.istoreN X1.here hx rfl (q d10_4) rfl (l' := #[vR ra, vI (-1 : Int32)]) rfl ?_
  refine XS.iloadN X1.here hx rfl (q d10_5) rfl ?_
  refine XS.ifNo X1.here hx rfl (q d10_6) rfl ((if0 _ _).trans (tlt (by decide : ((-1 : Int32) < (0 : Int32)))).2.1) ?_
  refine XS.aloadN X1.here hx rfl (q d10_9) rfl rfl ?_
  refine st2 _ ?_
  refine st3 _ ?_
  refine XS.istoreN X3.here hx rfl (q d10_16) rfl (l' := #[vR ra, vI 4]) rfl ?_
  refine XS.aloadN X3.here hx rfl (q d10_17) rfl rfl ?_
  refine XS.iloadN X3.here hx rfl (q d10_18) rfl ?_
  refine st10 _ ?_
  refine XS.iloadN X10.here hx rfl (q d10_22) rfl ?_
  exact retI X10 hx Bd.returns (q d10_23) hr
 ·show Q10k2 Z ra rp rl fp h0 n0 _ T10.heap _
  rw [e10]
  exact ⟨rfl, N10, K10, f13, f11, f14, f15⟩
theorem ef_12k2 (m : MethodId) (ra : Addr) : entryFrame m #[(.ref ra)] 1 = mkF m 0 #[vR ra] [] := by first | (simp [entryFrame, mkF, argsToLocals, Value.category]; done) | rfl
def Q12k2 (Z : State) (ra : Addr) (rp : Addr) (fp : Nat → Int32) (h0 : Heap) (n0 : Nat) (v : Option Value) (h : Heap) (L : List Loc) : Prop := ∃ xr : Int64, v = some (.long xr) ∧ Fr n0 L ∧ Keep h0 h []
set_option maxRecDepth 65536 in
set_option maxHeartbeats 40000000 in
theorem rm12k2 (l : Launch) (Z : State) (a0 : Array Value) (hw : ∀ d ∈ tables_1, d.before a0 Z = true) (ws : List Jvm.Cond) (ra : Addr) (rp : Addr) (fp : Nat → Int32) (h0 : Heap) (n0 : Nat) (Z0 : n0 ≤ h0.size) (E_ra : Exa Z h0 ra cS1) (F_pattern_ra : Fld Z h0 ra cS1 "pattern" "[B" (.ref rp)) (A_rp : AI Z h0 rp .byte 2 fp) :
  MetFree l mN7 (head1 (Jvm.Cond.code mN7 prog_28_method_3_code 1 (some .long) :: ws) ({ frames := 3, cells := 1, slots := 4, locals := 51 } : Room)) (fun a U => a = #[(.ref ra)] ∧ Z.Warmed39 U.vm ∧ U.heap = h0) (fun _ _ _ _ _ => True) (fun _ U o U' => ∃ v L, o = .returned v ∧ Q12k2 Z ra rp fp h0 n0 v U'.heap L ∧ FrameEnd U o U' L ({ frames := 3, cells := 1, slots := 4, locals := 51 } : Room).cells ({ frames := 3, cells := 1, slots := 4, locals := 51 } : Room).slots) := by
 refine MetFree.of_bodySF (plainFor_of_name pn_skipstitch_search_LazyAutomaton) hisR ?_
 intro p e s m args below meth c s₁ Bd hml0 hP hK
 obtain ⟨rfl, hZ, hh⟩ := hP
 have hx := Bd.exec
 have hby := Bd.bytes
 have q {i : Nat} {r : _} (h : decode _ i = r) := hb hby h
 have hml : c.maxLocals = 1 := hml0
 have hown : s.vm.findClass cS1 = some m.cls := findClass_of_methodNamed Bd.named
 have hnm := (name_of_methodNamed Bd.named Bd.method).1
 have X0 : Stand p l e ({ frames := 3, cells := 1, slots := 4, locals := 51 } : Room) s m #[(.ref ra)] below meth c s₁ [] 0 0 := Stand.of_body Bd
 have e0 : s₁.heap = h0 := by rw [← hh, Bd.state]; rfl
 have N0 := Fr.nil n0
 have K0 : Keep h0 h0 [] := Keep.refl h0 _
 have pre0 : oP p e below (s₁.setTop (mkF m 0 #[vR ra] [])) (s₁.setTop (entryFrame m #[(.ref ra)] 1)) := fun t k => castTop (ef_12k2 m ra) k
 obtain ⟨T1, X1, e1, st1⟩ := getF X0 hx hZ hown (host := "") (Or.inl (ow hw 14 rfl)) Via.refl e0 F_pattern_ra (g := (mkF m 1 #[vR ra] [(.ref ra)])) rfl rfl (q d12_1)
 obtain ⟨_, _, ⟨T2, L2, k2, n2⟩, -, X2, ⟨Lc2, hQ2, l2, y2, z2⟩, st2⟩ := Jvm.LawKit.callS X1 hx (y := mN5) hown (om hZ hw 64 rfl) (om hZ hw 65 rfl) (om hZ hw 32 rfl) (om hZ hw 66 rfl) (by decide) (backOf (W := 0) (rm13k2 l Z a0 hw [] rp fp h0 n0 Z0 A_rp) hZ (ow hw 66 rfl) (ow hw 32 rfl) (by decide) (by decide)) (g := (mkF m 4 #[vR ra] [(.ref rp)])) rfl (by rw [hml]; rfl) (argsL := [(.ref rp)]) (rest := []) (lenOf pd_3 rfl) rfl (oz rfl) (q d12_4) (fun _ _ => ⟨rfl, e1, (by decide : 0 + 1 ≤ _), (by decide : 0 + 4 ≤ _)⟩)
 dsimp only [Pt.U, Pt.locs, Pt.cells, Pt.slots] at X2 l2 y2 z2 st2 hQ2
 subst y2 z2
 obtain ⟨gx3, rfl, N2q, K2c⟩ := hQ2
 have N2 := oF l2 N0 N2q
 have K2 := K0.trans K2c all0
 obtain ⟨fs, hr, hrun, hended, hW, hsame⟩ := X2.leave (v := some (.long gx3)) (oR Bd.returns) (hlocks := Bd.notSynchronized)
 refine ⟨_, _, pre0 _ ?_, hrun, hended, _, _, rfl, ?_, ⟨_, rfl⟩, hW, hsame.mono (by decide) (by decide)⟩
 ·show Steps p.tables e below (s₁.setTop (mkF m 0 #[vR ra] [])) _
  refine XS.aloadN X0.here hx rfl (q d12_0) rfl rfl ?_
  refine st1 _ ?_
  refine st2 _ ?_
  exact retOut X2 hx Bd.returns rfl (Or.inr (Or.inl ⟨rfl, rfl, _, rfl⟩)) (q d12_7) hr
 ·show Q12k2 Z ra rp fp h0 n0 _ T2.heap _
  exact ⟨gx3, rfl, N2, K2⟩
theorem ef_6k3 (m : MethodId) (rp : Addr) : entryFrame m #[(.ref rp)] 7 = mkF m 0 #[vR rp, .unset, .unset, .unset, .unset, .unset, .unset] [] := by first | (simp [entryFrame, mkF, argsToLocals, Value.category]; done) | rfl
def Q6k3 (Z : State) (rp : Addr) (fp : Nat → Int32) (h0 : Heap) (n0 : Nat) (v : Option Value) (h : Heap) (L : List Loc) : Prop := ∃ fr0 : Addr, ∃ fx0 : Nat → Int32, n0 ≤ fr0 ∧ h0.size ≤ fr0 ∧ v = some (.ref fr0) ∧ Fr n0 L ∧ Keep h0 h [] ∧ AI Z h fr0 .int 256 fx0
set_option maxRecDepth 65536 in
set_option maxHeartbeats 40000000 in
theorem rm6k3 (l : Launch) (Z : State) (a0 : Array Value) (hw : ∀ d ∈ tables_1, d.before a0 Z = true) (ws : List Jvm.Cond) (rp : Addr) (fp : Nat → Int32) (h0 : Heap) (n0 : Nat) (Z0 : n0 ≤ h0.size) (A_rp : AI Z h0 rp .byte 3 fp) :
  MetFree l mN3 (head1 (Jvm.Cond.code mN3 prog_23_method_6_code 7 (some (.array .int)) :: ws) ({ frames := 0, cells := 1, slots := 256, locals := 0 } : Room)) (fun a U => a = #[(.ref rp)] ∧ Z.Warmed39 U.vm ∧ U.heap = h0) (fun _ _ _ _ _ => True) (fun _ U o U' => ∃ v L, o = .returned v ∧ Q6k3 Z rp fp h0 n0 v U'.heap L ∧ FrameEnd U o U' L ({ frames := 0, cells := 1, slots := 256, locals := 0 } : Room).cells ({ frames := 0, cells := 1, slots := 256, locals := 0 } : Room).slots) := by
 refine MetFree.of_bodySF (plainFor_of_name pn_skipstitch_search_Automaton) hisR ?_
 intro p e s m args below meth c s₁ Bd hml0 hP hK
 obtain ⟨rfl, hZ, hh⟩ := hP
 have hx := Bd.exec
 have hby := Bd.bytes
 have q {i : Nat} {r : _} (h : decode _ i = r) := hb hby h
 have hml : c.maxLocals = 7 := hml0
 have hown : s.vm.findClass cS0 = some m.cls := findClass_of_methodNamed Bd.named
 have hnm := (name_of_methodNamed Bd.named Bd.method).1
 have X0 : Stand p l e ({ frames := 0, cells := 1, slots := 256, locals := 0 } : Room) s m #[(.ref rp)] below meth c s₁ [] 0 0 := Stand.of_body Bd
 have e0 : s₁.heap = h0 := by rw [← hh, Bd.state]; rfl
 have N0 := Fr.nil n0
 have K0 : Keep h0 h0 [] := Keep.refl h0 _
 have pre0 : oP p e below (s₁.setTop (mkF m 0 #[vR rp, vU, vU, vU, vU, vU, vU] [])) (s₁.setTop (entryFrame m #[(.ref rp)] 7)) := fun t k => castTop (ef_6k3 m rp) k
 obtain ⟨T1, h1, k1, X1, e1, E1, A1, st1⟩ := newP X0 hx hZ (ow hw 2 rfl) e0 (g := (mkF m 3 #[vR rp, vU, vU, vU, vU, vU, vU] [(.int 256)])) rfl (q d6_3) rfl (by decide) (cap := 256) (by decide) (by decide) (by decide) (by decide)
 obtain ⟨b1, g1⟩ : ∃ z, z = h0.size := ⟨_, rfl⟩
 rw [← g1] at A1 st1
 have ne2 := oN A_rp.lt g1
 have gg1 := oL Z0 g1
 have sz1 := oL K0.1 g1
 have f3 := A_rp.ext E1
 have K1 := K0.ext E1
 have f4 : AI Z h1 b1 .int 256 zI := AF.new A1 (by decide)
 obtain ⟨cl5, Arcl5, Szcl5⟩ := AF.len f3
 obtain ⟨cl6, Arcl6, hincl6, hatcl6⟩ := AF.at f3 (j := (0 : Int32)) 0 (by decide) (by decide)
 obtain ⟨cl7, Arcl7, hincl7, hatcl7⟩ := AF.at f4 (j := ((fp 0) &&& (255 : Int32))) (own_iy (fp 0)) (own_iy1 (fp 0)) (own_iy2 (fp 0))
 obtain ⟨cl8, Arcl8, hincl8, -⟩ := AF.at f4 (j := ((fp 0) &&& (255 : Int32))) (own_iy (fp 0)) (own_iy1 (fp 0)) (own_iy2 (fp 0))
 obtain ⟨T9, h9, X9, e9, W9, st9⟩ := stI X1 hx hZ e1 Arcl8 (j := ((fp 0) &&& (255 : Int32))) hincl8 (g := (mkF m 52 #[vR rp, vR b1, vI 2, vR rp, vI 3, vI 0, vI (fp 0)] [(.int 1), (.int ((fp 0) &&& (255 : Int32))), (.ref b1)])) rfl rfl (q d6_52)
 have N9 := Fr.snoc X9 N0 gg1
 have K9 := K1.wr W9 (Or.inr sz1)
 have f10 : AI Z h9 b1 .int 256 (up zI (own_iy (fp 0)) (1 : Int32)) := AF.setI f4 W9 (own_iy (fp 0)) (own_iy1 (fp 0))
 have f11 := f3.other W9 ne2
 obtain ⟨cl12, Arcl12, hincl12, hatcl12⟩ := AF.at f11 (j := (1 : Int32)) 1 (by decide) (by decide)
 obtain ⟨cl13, Arcl13, hincl13, hatcl13⟩ := AF.at f10 (j := ((fp 1) &&& (255 : Int32))) (own_iy (fp 1)) (own_iy1 (fp 1)) (own_iy2 (fp 1))
 have pre14 : oP p e below (T9.setTop (mkF m 38 #[vR rp, vR b1, vI 2, vR rp, vI 3, vI 1, vI (fp 1)] [(.int ((up zI (own_iy (fp 0)) (1 : Int32)) (own_iy (fp 1))))])) (s₁.setTop (entryFrame m #[(.ref rp)] 7)) := by
  intro t k
  refine pre0 _ ?_
  refine XS.sipush X0.here hx rfl (q d6_0) ?_
  refine st1 _ ?_
  refine XS.astoreN X1.here hx rfl (q d6_5) rfl rfl (l' := #[vR rp, vR b1, vU, vU, vU, vU, vU]) rfl ?_
  refine XS.iconst X1.here hx rfl (q d6_6) ?_
  refine XS.istoreN X1.here hx rfl (q d6_7) rfl (l' := #[vR rp, vR b1, vI 1, vU, vU, vU, vU]) rfl ?_
  refine XS.aloadN X1.here hx rfl (q d6_8) rfl rfl ?_
  refine XS.astoreN X1.here hx rfl (q d6_9) rfl rfl (l' := #[vR rp, vR b1, vI 1, vR rp, vU, vU, vU]) rfl ?_
  refine XS.aloadN X1.here hx rfl (q d6_10) rfl rfl ?_
  refine X1.arraylength hx (by rw [e1]; exact Arcl5.1) (State.isArrayOf_alike hZ.alike Arcl5.2.1) (g := (mkF m 11 #[vR rp, vR b1, vI 1, vR rp, vU, vU, vU] [(.ref rp)])) rfl rfl (q d6_11) _ ?_
  rw [Szcl5]
  refine XS.istore X1.here hx rfl (q d6_12) rfl (l' := #[vR rp, vR b1, vI 1, vR rp, vI 3, vU, vU]) rfl ?_
  refine XS.iconst X1.here hx rfl (q d6_14) ?_
  refine XS.istore X1.here hx rfl (q d6_15) rfl (l' := #[vR rp, vR b1, vI 1, vR rp, vI 3, vI 0, vU]) rfl ?_
  refine XS.iload X1.here hx rfl (q d6_17) rfl ?_
  refine XS.iload X1.here hx rfl (q d6_19) rfl ?_
  refine XS.icmpNo X1.here hx rfl (q d6_21) rfl (tlt (by decide : ((0 : Int32) < (3 : Int32)))).2.1 ?_
  refine XS.aloadN X1.here hx rfl (q d6_24) rfl rfl ?_
  refine XS.iload X1.here hx rfl (q d6_25) rfl ?_
  refine X1.baloadBytes hx (j := (0 : Int32)) (v := (.int (fp 0))) (by rw [e1]; exact Arcl6.1) (State.isArrayOf_alike hZ.alike Arcl6.2.1) Arcl6.2.2 hincl6 hatcl6 (g := (mkF m 27 #[vR rp, vR b1, vI 1, vR rp, vI 3, vI 0, vU] [(.int 0), (.ref rp)])) rfl rfl (q d6_27) _ ?_
  refine XS.istore X1.here hx rfl (q d6_28) rfl (l' := #[vR rp, vR b1, vI 1, vR rp, vI 3, vI 0, vI (fp 0)]) rfl ?_
  refine XS.aloadN X1.here hx rfl (q d6_30) rfl rfl ?_
  refine XS.iload X1.here hx rfl (q d6_31) rfl ?_
  refine XS.sipush X1.here hx rfl (q d6_33) ?_
  refine XS.iand X1.here hx rfl (q d6_36) rfl ?_
  refine X1.iaload hx (j := ((fp 0) &&& (255 : Int32))) (v := (.int 0)) (by rw [e1]; exact Arcl7.1) (State.isArrayOf_alike hZ.alike Arcl7.2.1) Arcl7.2.2 hincl7 hatcl7 (g := (mkF m 37 #[vR rp, vR b1, vI 1, vR rp, vI 3, vI 0, vI (fp 0)] [(.int ((fp 0) &&& (255 : Int32))), (.ref b1)])) rfl rfl (q d6_37) _ ?_
  refine XS.ifNo X1.here hx rfl (q d6_38) rfl ((if0 _ _).trans (teq (by decide : ((0 : Int32) = (0 : Int32)))).2) ?_
  refine XS.aloadN X1.here hx rfl (q d6_41) rfl rfl ?_
  refine XS.iload X1.here hx rfl (q d6_42) rfl ?_
  refine XS.sipush X1.here hx rfl (q d6_44) ?_
  refine XS.iand X1.here hx rfl (q d6_47) rfl ?_
  refine XS.iloadN X1.here hx rfl (q d6_48) rfl ?_
  refine XS.iinc X1.here hx rfl (q d6_49) rfl (l' := #[vR rp, vR b1, vI 2, vR rp, vI 3, vI 0, vI (fp 0)]) rfl ?_
  refine st9 _ ?_
  refine XS.iinc X9.here hx rfl (q d6_53) rfl (l' := #[vR rp, vR b1, vI 2, vR rp, vI 3, vI 1, vI (fp 0)]) rfl ?_
  refine XS.goto X9.here hx rfl (pc0 := 56) (pc' := 17) rfl (q d6_56) (by decide) (by decide) ?_
  refine XS.iload X9.here hx rfl (q d6_17) rfl ?_
  refine XS.iload X9.here hx rfl (q d6_19) rfl ?_
  refine XS.icmpNo X9.here hx rfl (q d6_21) rfl (tlt (by decide : ((1 : Int32) < (3 : Int32)))).2.1 ?_
  refine XS.aloadN X9.here hx rfl (q d6_24) rfl rfl ?_
  refine XS.iload X9.here hx rfl (q d6_25) rfl ?_
  refine X9.baloadBytes hx (j := (1 : Int32)) (v := (.int (fp 1))) (by rw [e9]; exact Arcl12.1) (State.isArrayOf_alike hZ.alike Arcl12.2.1) Arcl12.2.2 hincl12 hatcl12 (g := (mkF m 27 #[vR rp, vR b1, vI 2, vR rp, vI 3, vI 1, vI (fp 0)] [(.int 1), (.ref rp)])) rfl rfl (q d6_27) _ ?_
  refine XS.istore X9.here hx rfl (q d6_28) rfl (l' := #[vR rp, vR b1, vI 2, vR rp, vI 3, vI 1, vI (fp 1)]) rfl ?_
  refine XS.aloadN X9.here hx rfl (q d6_30) rfl rfl ?_
  refine XS.iload X9.here hx rfl (q d6_31) rfl ?_
  refine XS.sipush X9.here hx rfl (q d6_33) ?_
  refine XS.iand X9.here hx rfl (q d6_36) rfl ?_
  refine X9.iaload hx (j := ((fp 1) &&& (255 : Int32))) (v := (.int ((up zI (own_iy (fp 0)) (1 : Int32)) (own_iy (fp 1))))) (by rw [e9]; exact Arcl13.1) (State.isArrayOf_alike hZ.alike Arcl13.2.1) Arcl13.2.2 hincl13 hatcl13 (g := (mkF m 37 #[vR rp, vR b1, vI 2, vR rp, vI 3, vI 1, vI (fp 1)] [(.int ((fp 1) &&& (255 : Int32))), (.ref b1)])) rfl rfl (q d6_37) _ ?_
  exact k
 by_cases hk15 : ((up zI (own_iy (fp 0)) (1 : Int32)) (own_iy (fp 1))) = (0 : Int32)
 ·obtain ⟨cl16, Arcl16, hincl16, -⟩ := AF.at f10 (j := ((fp 1) &&& (255 : Int32))) (own_iy (fp 1)) (own_iy1 (fp 1)) (own_iy2 (fp 1))
  obtain ⟨T17, h17, X17, e17, W17, st17⟩ := stI X9 hx hZ e9 Arcl16 (j := ((fp 1) &&& (255 : Int32))) hincl16 (g := (mkF m 52 #[vR rp, vR b1, vI 3, vR rp, vI 3, vI 1, vI (fp 1)] [(.int 2), (.int ((fp 1) &&& (255 : Int32))), (.ref b1)])) rfl rfl (q d6_52)
  have N17 := Fr.snoc X17 N9 gg1
  have K17 := K9.wr W17 (Or.inr sz1)
  have f18 : AI Z h17 b1 .int 256 (up (up zI (own_iy (fp 0)) (1 : Int32)) (own_iy (fp 1)) (2 : Int32)) := AF.setI f10 W17 (own_iy (fp 1)) (own_iy1 (fp 1))
  have f19 := f11.other W17 ne2
  obtain ⟨cl20, Arcl20, hincl20, hatcl20⟩ := AF.at f19 (j := (2 : Int32)) 2 (by decide) (by decide)
  obtain ⟨cl21, Arcl21, hincl21, hatcl21⟩ := AF.at f18 (j := ((fp 2) &&& (255 : Int32))) (own_iy (fp 2)) (own_iy1 (fp 2)) (own_iy2 (fp 2))
  have pre22 : oP p e below (T17.setTop (mkF m 38 #[vR rp, vR b1, vI 3, vR rp, vI 3, vI 2, vI (fp 2)] [(.int ((up (up zI (own_iy (fp 0)) (1 : Int32)) (own_iy (fp 1)) (2 : Int32)) (own_iy (fp 2))))])) (s₁.setTop (entryFrame m #[(.ref rp)] 7)) := by
   intro t k
   refine pre14 _ ?_
   refine XS.ifNo X9.here hx rfl (q d6_38) rfl ((if0 _ _).trans (teq hk15).2) ?_
   refine XS.aloadN X9.here hx rfl (q d6_41) rfl rfl ?_
   refine XS.iload X9.here hx rfl (q d6_42) rfl ?_
   refine XS.sipush X9.here hx rfl (q d6_44) ?_
   refine XS.iand X9.here hx rfl (q d6_47) rfl ?_
   refine XS.iloadN X9.here hx rfl (q d6_48) rfl ?_
   refine XS.iinc X9.here hx rfl (q d6_49) rfl (l' := #[vR rp, vR b1, vI 3, vR rp, vI 3, vI 1, vI (fp 1)]) rfl ?_
   refine st17 _ ?_
   refine XS.iinc X17.here hx rfl (q d6_53) rfl (l' := #[vR rp, vR b1, vI 3, vR rp, vI 3, vI 2, vI (fp 1)]) rfl ?_
   refine XS.goto X17.here hx rfl (pc0 := 56) (pc' := 17) rfl (q d6_56) (by decide) (by decide) ?_
   refine XS.iload X17.here hx rfl (q d6_17) rfl ?_
   refine XS.iload X17.here hx rfl (q d6_19) rfl ?_
   refine XS.icmpNo X17.here hx rfl (q d6_21) rfl (tlt (by decide : ((2 : Int32) < (3 : Int32)))).2.1 ?_
   refine XS.aloadN X17.here hx rfl (q d6_24) rfl rfl ?_
   refine XS.iload X17.here hx rfl (q d6_25) rfl ?_
   refine X17.baloadBytes hx (j := (2 : Int32)) (v := (.int (fp 2))) (by rw [e17]; exact Arcl20.1) (State.isArrayOf_alike hZ.alike Arcl20.2.1) Arcl20.2.2 hincl20 hatcl20 (g := (mkF m 27 #[vR rp, vR b1, vI 3, vR rp, vI 3, vI 2, vI (fp 1)] [(.int 2), (.ref rp)])) rfl rfl (q d6_27) _ ?_
   refine XS.istore X17.here hx rfl (q d6_28) rfl (l' := #[vR rp, vR b1, vI 3, vR rp, vI 3, vI 2, vI (fp 2)]) rfl ?_
   refine XS.aloadN X17.here hx rfl (q d6_30) rfl rfl ?_
   refine XS.iload X17.here hx rfl (q d6_31) rfl ?_
   refine XS.sipush X17.here hx rfl (q d6_33) ?_
   refine XS.iand X17.here hx rfl (q d6_36) rfl ?_
   refine X17.iaload hx (j := ((fp 2) &&& (255 : Int32))) (v := (.int ((up (up zI (own_iy (fp 0)) (1 : Int32)) (own_iy (fp 1)) (2 : Int32)) (own_iy (fp 2))))) (by rw [e17]; exact Arcl21.1) (State.isArrayOf_alike hZ.alike Arcl21.2.1) Arcl21.2.2 hincl21 hatcl21 (g := (mkF m 37 #[vR rp, vR b1, vI 3, vR rp, vI 3, vI 2, vI (fp 2)] [(.int ((fp 2) &&& (255 : Int32))), (.ref b1)])) rfl rfl (q d6_37) _ ?_
   exact k
  by_cases hk23 : ((up (up zI (own_iy (fp 0)) (1 : Int32)) (own_iy (fp 1)) (2 : Int32)) (own_iy (fp 2))) = (0 : Int32)
  ·obtain ⟨cl24, Arcl24, hincl24, -⟩ := AF.at f18 (j := ((fp 2) &&& (255 : Int32))) (own_iy (fp 2)) (own_iy1 (fp 2)) (own_iy2 (fp 2))
   obtain ⟨T25, h25, X25, e25, W25, st25⟩ := stI X17 hx hZ e17 Arcl24 (j := ((fp 2) &&& (255 : Int32))) hincl24 (g := (mkF m 52 #[vR rp, vR b1, vI 4, vR rp, vI 3, vI 2, vI (fp 2)] [(.int 3), (.int ((fp 2) &&& (255 : Int32))), (.ref b1)])) rfl rfl (q d6_52)
   have N25 := Fr.snoc X25 N17 gg1
   have K25 := K17.wr W25 (Or.inr sz1)
   have f26 : AI Z h25 b1 .int 256 (up (up (up zI (own_iy (fp 0)) (1 : Int32)) (own_iy (fp 1)) (2 : Int32)) (own_iy (fp 2)) (3 : Int32)) := AF.setI f18 W25 (own_iy (fp 2)) (own_iy1 (fp 2))
   obtain ⟨fs, hr, hrun, hended, hW, hsame⟩ := X25.leave (v := some (.ref b1)) (oR Bd.returns) (hlocks := Bd.notSynchronized)
   refine ⟨_, _, pre22 _ ?_, hrun, hended, _, _, rfl, ?_, ⟨_, rfl⟩, hW, hsame.mono (by decide) (by decide)⟩
   ·show Steps p.tables e below (T17.setTop (mkF m 38 #[vR rp, vR b1, vI 3, vR rp, vI 3, vI 2, vI (fp 2)] [(.int ((up (up zI (own_iy (fp 0)) (1 : Int32)) (own_iy (fp 1)) (2 : Int32)) (own_iy (fp 2))))])) _
    refine XS.ifNo X17.here hx rfl (q d6_38) rfl ((if0 _ _).trans (teq hk23).2) ?_
    refine XS.aloadN X17.here hx rfl (q d6_41) rfl rfl ?_
    refine XS.iload X17.here hx rfl (q d6_42) rfl ?_
    refine XS.sipush X17.here hx rfl (q d6_44) ?_
    refine XS.iand X17.here hx rfl (q d6_47) rfl ?_
    refine XS.iloadN X17.here hx rfl (q d6_48) rfl ?_
    refine XS.iinc X17.here hx rfl (q d6_49) rfl (l' := #[vR rp, vR b1, vI 4, vR rp, vI 3, vI 2, vI (fp 2)]) rfl ?_
    refine st25 _ ?_
    refine XS.iinc X25.here hx rfl (q d6_53) rfl (l' := #[vR rp, vR b1, vI 4, vR rp, vI 3, vI 3, vI (fp 2)]) rfl ?_
    refine XS.goto X25.here hx rfl (pc0 := 56) (pc' := 17) rfl (q d6_56) (by decide) (by decide) ?_
    refine XS.iload X25.here hx rfl (q d6_17) rfl ?_
    refine XS.iload X25.here hx rfl (q d6_19) rfl ?_
    refine XS.icmpYes X25.here hx rfl (pc0 := 21) (pc' := 59) rfl (q d6_21) rfl (flt (by decide : ¬ ((3 : Int32) < (3 : Int32)))).2.1 (by decide) (by decide) ?_
    refine XS.aloadN X25.here hx rfl (q d6_59) rfl rfl ?_
    exact retOut X25 hx Bd.returns rfl (Or.inr (Or.inr (Or.inr (Or.inr ⟨rfl, rfl, rfl⟩)))) (q d6_60) hr
   ·show Q6k3 Z rp fp h0 n0 _ T25.heap _
    rw [e25]
    exact ⟨b1, (up (up (up zI (own_iy (fp 0)) (1 : Int32)) (own_iy (fp 1)) (2 : Int32)) (own_iy (fp 2)) (3 : Int32)), gg1, sz1, rfl, N25, K25, f26⟩
  ·obtain ⟨fs, hr, hrun, hended, hW, hsame⟩ := X17.leave (v := some (.ref b1)) (oR Bd.returns) (hlocks := Bd.notSynchronized)
   refine ⟨_, _, pre22 _ ?_, hrun, hended, _, _, rfl, ?_, ⟨_, rfl⟩, hW, hsame.mono (by decide) (by decide)⟩
   ·show Steps p.tables e below (T17.setTop (mkF m 38 #[vR rp, vR b1, vI 3, vR rp, vI 3, vI 2, vI (fp 2)] [(.int ((up (up zI (own_iy (fp 0)) (1 : Int32)) (own_iy (fp 1)) (2 : Int32)) (own_iy (fp 2))))])) _
    refine XS.ifYes X17.here hx rfl (pc0 := 38) (pc' := 53) rfl (q d6_38) rfl ((if0 _ _).trans (feq hk23).2) (by decide) (by decide) ?_
    refine XS.iinc X17.here hx rfl (q d6_53) rfl (l' := #[vR rp, vR b1, vI 3, vR rp, vI 3, vI 3, vI (fp 2)]) rfl ?_
    refine XS.goto X17.here hx rfl (pc0 := 56) (pc' := 17) rfl (q d6_56) (by decide) (by decide) ?_
    refine XS.iload X17.here hx rfl (q d6_17) rfl ?_
    refine XS.iload X17.here hx rfl (q d6_19) rfl ?_
    refine XS.icmpYes X17.here hx rfl (pc0 := 21) (pc' := 59) rfl (q d6_21) rfl (flt (by decide : ¬ ((3 : Int32) < (3 : Int32)))).2.1 (by decide) (by decide) ?_
    refine XS.aloadN X17.here hx rfl (q d6_59) rfl rfl ?_
    exact retOut X17 hx Bd.returns rfl (Or.inr (Or.inr (Or.inr (Or.inr ⟨rfl, rfl, rfl⟩)))) (q d6_60) hr
   ·show Q6k3 Z rp fp h0 n0 _ T17.heap _
    rw [e17]
    exact ⟨b1, (up (up zI (own_iy (fp 0)) (1 : Int32)) (own_iy (fp 1)) (2 : Int32)), gg1, sz1, rfl, N17, K17, f18⟩
 ·obtain ⟨cl28, Arcl28, hincl28, hatcl28⟩ := AF.at f11 (j := (2 : Int32)) 2 (by decide) (by decide)
  obtain ⟨cl29, Arcl29, hincl29, hatcl29⟩ := AF.at f10 (j := ((fp 2) &&& (255 : Int32))) (own_iy (fp 2)) (own_iy1 (fp 2)) (own_iy2 (fp 2))
  have pre30 : oP p e below (T9.setTop (mkF m 38 #[vR rp, vR b1, vI 2, vR rp, vI 3, vI 2, vI (fp 2)] [(.int ((up zI (own_iy (fp 0)) (1 : Int32)) (own_iy (fp 2))))])) (s₁.setTop (entryFrame m #[(.ref rp)] 7)) := by
   intro t k
   refine pre14 _ ?_
   refine XS.ifYes X9.here hx rfl (pc0 := 38) (pc' := 53) rfl (q d6_38) rfl ((if0 _ _).trans (feq hk15).2) (by decide) (by decide) ?_
   refine XS.iinc X9.here hx rfl (q d6_53) rfl (l' := #[vR rp, vR b1, vI 2, vR rp, vI 3, vI 2, vI (fp 1)]) rfl ?_
   refine XS.goto X9.here hx rfl (pc0 := 56) (pc' := 17) rfl (q d6_56) (by decide) (by decide) ?_
   refine XS.iload X9.here hx rfl (q d6_17) rfl ?_
   refine XS.iload X9.here hx rfl (q d6_19) rfl ?_
   refine XS.icmpNo X9.here hx rfl (q d6_21) rfl (tlt (by decide : ((2 : Int32) < (3 : Int32)))).2.1 ?_
   refine XS.aloadN X9.here hx rfl (q d6_24) rfl rfl ?_
   refine XS.iload X9.here hx rfl (q d6_25) rfl ?_
   refine X9.baloadBytes hx (j := (2 : Int32)) (v := (.int (fp 2))) (by rw [e9]; exact Arcl28.1) (State.isArrayOf_alike hZ.alike Arcl28.2.1) Arcl28.2.2 hincl28 hatcl28 (g := (mkF m 27 #[vR rp, vR b1, vI 2, vR rp, vI 3, vI 2, vI (fp 1)] [(.int 2), (.ref rp)])) rfl rfl (q d6_27) _ ?_
   refine XS.istore X9.here hx rfl (q d6_28) rfl (l' := #[vR rp, vR b1, vI 2, vR rp, vI 3, vI 2, vI (fp 2)]) rfl ?_
   refine XS.aloadN X9.here hx rfl (q d6_30) rfl rfl ?_
   refine XS.iload X9.here hx rfl (q d6_31) rfl ?_
   refine XS.sipush X9.here hx rfl (q d6_33) ?_
   refine XS.iand X9.here hx rfl (q d6_36) rfl ?_
   refine X9.iaload hx (j := ((fp 2) &&& (255 : Int32))) (v := (.int ((up zI (own_iy (fp 0)) (1 : Int32)) (own_iy (fp 2))))) (by rw [e9]; exact Arcl29.1) (State.isArrayOf_alike hZ.alike Arcl29.2.1) Arcl29.2.2 hincl29 hatcl29 (g := (mkF m 37 #[vR rp, vR b1, vI 2, vR rp, vI 3, vI 2, vI (fp 2)] [(.int ((fp 2) &&& (255 : Int32))), (.ref b1)])) rfl rfl (q d6_37) _ ?_
   exact k
  by_cases hk31 : ((up zI (own_iy (fp 0)) (1 : Int32)) (own_iy (fp 2))) = (0 : Int32)
  ·obtain ⟨cl32, Arcl32, hincl32, -⟩ := AF.at f10 (j := ((fp 2) &&& (255 : Int32))) (own_iy (fp 2)) (own_iy1 (fp 2)) (own_iy2 (fp 2))
   obtain ⟨T33, h33, X33, e33, W33, st33⟩ := stI X9 hx hZ e9 Arcl32 (j := ((fp 2) &&& (255 : Int32))) hincl32 (g := (mkF m 52 #[vR rp, vR b1, vI 3, vR rp, vI 3, vI 2, vI (fp 2)] [(.int 2), (.int ((fp 2) &&& (255 : Int32))), (.ref b1)])) rfl rfl (q d6_52)
   have N33 := Fr.snoc X33 N9 gg1
   have K33 := K9.wr W33 (Or.inr sz1)
   have f34 : AI Z h33 b1 .int 256 (up (up zI (own_iy (fp 0)) (1 : Int32)) (own_iy (fp 2)) (2 : Int32)) := AF.setI f10 W33 (own_iy (fp 2)) (own_iy1 (fp 2))
   obtain ⟨fs, hr, hrun, hended, hW, hsame⟩ := X33.leave (v := some (.ref b1)) (oR Bd.returns) (hlocks := Bd.notSynchronized)
   refine ⟨_, _, pre30 _ ?_, hrun, hended, _, _, rfl, ?_, ⟨_, rfl⟩, hW, hsame.mono (by decide) (by decide)⟩
   ·show Steps p.tables e below (T9.setTop (mkF m 38 #[vR rp, vR b1, vI 2, vR rp, vI 3, vI 2, vI (fp 2)] [(.int ((up zI (own_iy (fp 0)) (1 : Int32)) (own_iy (fp 2))))])) _
    refine XS.ifNo X9.here hx rfl (q d6_38) rfl ((if0 _ _).trans (teq hk31).2) ?_
    refine XS.aloadN X9.here hx rfl (q d6_41) rfl rfl ?_
    refine XS.iload X9.here hx rfl (q d6_42) rfl ?_
    refine XS.sipush X9.here hx rfl (q d6_44) ?_
    refine XS.iand X9.here hx rfl (q d6_47) rfl ?_
    refine XS.iloadN X9.here hx rfl (q d6_48) rfl ?_
    refine XS.iinc X9.here hx rfl (q d6_49) rfl (l' := #[vR rp, vR b1, vI 3, vR rp, vI 3, vI 2, vI (fp 2)]) rfl ?_
    refine st33 _ ?_
    refine XS.iinc X33.here hx rfl (q d6_53) rfl (l' := #[vR rp, vR b1, vI 3, vR rp, vI 3, vI 3, vI (fp 2)]) rfl ?_
    refine XS.goto X33.here hx rfl (pc0 := 56) (pc' := 17) rfl (q d6_56) (by decide) (by decide) ?_
    refine XS.iload X33.here hx rfl (q d6_17) rfl ?_
    refine XS.iload X33.here hx rfl (q d6_19) rfl ?_
    refine XS.icmpYes X33.here hx rfl (pc0 := 21) (pc' := 59) rfl (q d6_21) rfl (flt (by decide : ¬ ((3 : Int32) < (3 : Int32)))).2.1 (by decide) (by decide) ?_
    refine XS.aloadN X33.here hx rfl (q d6_59) rfl rfl ?_
    exact retOut X33 hx Bd.returns rfl (Or.inr (Or.inr (Or.inr (Or.inr ⟨rfl, rfl, rfl⟩)))) (q d6_60) hr
   ·show Q6k3 Z rp fp h0 n0 _ T33.heap _
    rw [e33]
    exact ⟨b1, (up (up zI (own_iy (fp 0)) (1 : Int32)) (own_iy (fp 2)) (2 : Int32)), gg1, sz1, rfl, N33, K33, f34⟩
  ·obtain ⟨fs, hr, hrun, hended, hW, hsame⟩ := X9.leave (v := some (.ref b1)) (oR Bd.returns) (hlocks := Bd.notSynchronized)
   refine ⟨_, _, pre30 _ ?_, hrun, hended, _, _, rfl, ?_, ⟨_, rfl⟩, hW, hsame.mono (by decide) (by decide)⟩
   ·show Steps p.tables e below (T9.setTop (mkF m 38 #[vR rp, vR b1, vI 2, vR rp, vI 3, vI 2, vI (fp 2)] [(.int ((up zI (own_iy (fp 0)) (1 : Int32)) (own_iy (fp 2))))])) _
    refine XS.ifYes X9.here hx rfl (pc0 := 38) (pc' := 53) rfl (q d6_38) rfl ((if0 _ _).trans (feq hk31).2) (by decide) (by decide) ?_
    refine XS.iinc X9.here hx rfl (q d6_53) rfl (l' := #[vR rp, vR b1, vI 2, vR rp, vI 3, vI 3, vI (fp 2)]) rfl ?_
    refine XS.goto X9.here hx rfl (pc0 := 56) (pc' := 17) rfl (q d6_56) (by decide) (by decide) ?_
    refine XS.iload X9.here hx rfl (q d6_17) rfl ?_
    refine XS.iload X9.here hx rfl (q d6_19) rfl ?_
    refine XS.icmpYes X9.here hx rfl (pc0 := 21) (pc' := 59) rfl (q d6_21) rfl (flt (by decide : ¬ ((3 : Int32) < (3 : Int32)))).2.1 (by decide) (by decide) ?_
    refine XS.aloadN X9.here hx rfl (q d6_59) rfl rfl ?_
    exact retOut X9 hx Bd.returns rfl (Or.inr (Or.inr (Or.inr (Or.inr ⟨rfl, rfl, rfl⟩)))) (q d6_60) hr
   ·show Q6k3 Z rp fp h0 n0 _ T9.heap _
    rw [e9]
    exact ⟨b1, (up zI (own_iy (fp 0)) (1 : Int32)), gg1, sz1, rfl, N9, K9, f10⟩
theorem ef_11k3 (m : MethodId) (rp : Addr) : entryFrame m #[(.ref rp)] 1 = mkF m 0 #[vR rp] [] := by first | (simp [entryFrame, mkF, argsToLocals, Value.category]; done) | rfl
def Q11k3 (Z : State) (rp : Addr) (fp : Nat → Int32) (h0 : Heap) (n0 : Nat) (v : Option Value) (h : Heap) (L : List Loc) : Prop := v = some (.int 4) ∧ Fr n0 L ∧ Keep h0 h []
set_option maxRecDepth 65536 in
set_option maxHeartbeats 40000000 in
theorem rm11k3 (l : Launch) (Z : State) (a0 : Array Value) (hw : ∀ d ∈ tables_1, d.before a0 Z = true) (ws : List Jvm.Cond) (rp : Addr) (fp : Nat → Int32) (h0 : Heap) (n0 : Nat) (Z0 : n0 ≤ h0.size) (A_rp : AI Z h0 rp .byte 3 fp) :
  MetFree l mN4 (head1 (Jvm.Cond.code mN4 prog_23_method_3_code 1 (some .int) :: ws) ({ frames := 2, cells := 1, slots := 4, locals := 32 } : Room)) (fun a U => a = #[(.ref rp)] ∧ Z.Warmed39 U.vm ∧ U.heap = h0) (fun _ _ _ _ _ => True) (fun _ U o U' => ∃ v L, o = .returned v ∧ Q11k3 Z rp fp h0 n0 v U'.heap L ∧ FrameEnd U o U' L ({ frames := 2, cells := 1, slots := 4, locals := 32 } : Room).cells ({ frames := 2, cells := 1, slots := 4, locals := 32 } : Room).slots) := by
 refine MetFree.of_bodySF (plainFor_of_name pn_skipstitch_search_Automaton) hisR ?_
 intro p e s m args below meth c s₁ Bd hml0 hP hK
 obtain ⟨rfl, hZ, hh⟩ := hP
 have hx := Bd.exec
 have hby := Bd.bytes
 have q {i : Nat} {r : _} (h : decode _ i = r) := hb hby h
 have hml : c.maxLocals = 1 := hml0
 have hown : s.vm.findClass cS0 = some m.cls := findClass_of_methodNamed Bd.named
 have hnm := (name_of_methodNamed Bd.named Bd.method).1
 have X0 : Stand p l e ({ frames := 2, cells := 1, slots := 4, locals := 32 } : Room) s m #[(.ref rp)] below meth c s₁ [] 0 0 := Stand.of_body Bd
 have e0 : s₁.heap = h0 := by rw [← hh, Bd.state]; rfl
 have N0 := Fr.nil n0
 have K0 : Keep h0 h0 [] := Keep.refl h0 _
 have pre0 : oP p e below (s₁.setTop (mkF m 0 #[vR rp] [])) (s₁.setTop (entryFrame m #[(.ref rp)] 1)) := fun t k => castTop (ef_11k3 m rp) k
 obtain ⟨cl1, Arcl1, Szcl1⟩ := AF.len A_rp
 obtain ⟨_, _, ⟨T2, L2, k2, n2⟩, -, X2, ⟨Lc2, hQ2, l2, y2, z2⟩, st2⟩ := Jvm.LawKit.callS X0 hx (y := mN1) hown (om hZ hw 37 rfl) (om hZ hw 38 rfl) (om hZ hw 32 rfl) (om hZ hw 39 rfl) (by decide) (backOf (W := 1) (rm7k3 l Z a0 hw [] rp fp h0 n0 Z0 A_rp) hZ (ow hw 39 rfl) (ow hw 32 rfl) (by decide) (by decide)) (g := (mkF m 3 #[vR rp] [(.ref rp), (.int 3)])) rfl (by rw [hml]; rfl) (argsL := [(.ref rp)]) (rest := [(.int 3)]) (lenOf pd_1 rfl) rfl (oz rfl) (q d11_3) (fun _ _ => ⟨rfl, e0, (by decide : 0 + 1 ≤ _), (by decide : 0 + 4 ≤ _)⟩)
 dsimp only [Pt.U, Pt.locs, Pt.cells, Pt.slots] at X2 l2 y2 z2 st2 hQ2
 subst y2 z2
 obtain ⟨rfl, N2q, K2c⟩ := hQ2
 have N2 := oF l2 N0 N2q
 have Z2 := Nat.le_trans Z0 K2c.1
 have K2 := K0.trans K2c all0
 have pre4 : oP p e below (T2.setTop (mkF m 6 #[vR rp] [(.int (r7k3_v fp)), (.int 3)])) (s₁.setTop (entryFrame m #[(.ref rp)] 1)) := by
  intro t k
  refine pre0 _ ?_
  refine XS.aloadN X0.here hx rfl (q d11_0) rfl rfl ?_
  refine X0.arraylength hx (by rw [e0]; exact Arcl1.1) (State.isArrayOf_alike hZ.alike Arcl1.2.1) (g := (mkF m 1 #[vR rp] [(.ref rp)])) rfl rfl (q d11_1) _ ?_
  rw [Szcl1]
  refine XS.aloadN X0.here hx rfl (q d11_2) rfl rfl ?_
  refine st2 _ ?_
  exact k
 rcases own_cc3 fp with hk5 | hk5 | hk5 | hk5
 ·have pre6 : oP p e below (T2.setTop (mkF m 6 #[vR rp] [(.int 1), (.int 3)])) (s₁.setTop (entryFrame m #[(.ref rp)] 1)) := by
   intro t k
   refine pre4 _ ?_
   rw [hk5]
   exact k
  obtain ⟨_, _, ⟨T7, L7, k7, n7⟩, -, X7, ⟨Lc7, hQ7, l7, y7, z7⟩, st7⟩ := Jvm.LawKit.callS X2 hx (y := mN2) hown (om hZ hw 48 rfl) (om hZ hw 49 rfl) (om hZ hw 32 rfl) (om hZ hw 50 rfl) (by decide) (backOf (W := 0) (rm9m3c1 l Z a0 hw []  T2.heap n0 Z2 ) hZ (ow hw 50 rfl) (ow hw 32 rfl) (by decide) (by decide)) (g := (mkF m 6 #[vR rp] [(.int 1), (.int 3)])) rfl (by rw [hml]; rfl) (argsL := [(.int 3), (.int 1)]) (rest := []) (lenOf pd_2 rfl) rfl (oz rfl) (q d11_6) (fun _ _ => ⟨rfl, rfl, (by decide : 1 + 0 ≤ _), (by decide : 4 + 0 ≤ _)⟩)
  dsimp only [Pt.U, Pt.locs, Pt.cells, Pt.slots] at X7 l7 y7 z7 st7 hQ7
  subst y7 z7
  obtain ⟨rfl, N7q, e7⟩ := hQ7
  have N7 := oF l7 N2 N7q
  obtain ⟨fs, hr, hrun, hended, hW, hsame⟩ := X7.leave (v := some (.int 4)) (oR Bd.returns) (hlocks := Bd.notSynchronized)
  refine ⟨_, _, pre6 _ ?_, hrun, hended, _, _, rfl, ?_, ⟨_, rfl⟩, hW, hsame.mono (by decide) (by decide)⟩
  ·show Steps p.tables e below (T2.setTop (mkF m 6 #[vR rp] [(.int 1), (.int 3)])) _
   refine st7 _ ?_
   exact retI X7 hx Bd.returns (q d11_9) hr
  ·show Q11k3 Z rp fp h0 n0 _ T7.heap _
   rw [e7]
   exact ⟨rfl, N7, K2⟩
 ·have pre8 : oP p e below (T2.setTop (mkF m 6 #[vR rp] [(.int 2), (.int 3)])) (s₁.setTop (entryFrame m #[(.ref rp)] 1)) := by
   intro t k
   refine pre4 _ ?_
   rw [hk5]
   exact k
  obtain ⟨_, _, ⟨T9, L9, k9, n9⟩, -, X9, ⟨Lc9, hQ9, l9, y9, z9⟩, st9⟩ := Jvm.LawKit.callS X2 hx (y := mN2) hown (om hZ hw 48 rfl) (om hZ hw 49 rfl) (om hZ hw 32 rfl) (om hZ hw 50 rfl) (by decide) (backOf (W := 0) (rm9m3c2 l Z a0 hw []  T2.heap n0 Z2 ) hZ (ow hw 50 rfl) (ow hw 32 rfl) (by decide) (by decide)) (g := (mkF m 6 #[vR rp] [(.int 2), (.int 3)])) rfl (by rw [hml]; rfl) (argsL := [(.int 3), (.int 2)]) (rest := []) (lenOf pd_2 rfl) rfl (oz rfl) (q d11_6) (fun _ _ => ⟨rfl, rfl, (by decide : 1 + 0 ≤ _), (by decide : 4 + 0 ≤ _)⟩)
  dsimp only [Pt.U, Pt.locs, Pt.cells, Pt.slots] at X9 l9 y9 z9 st9 hQ9
  subst y9 z9
  obtain ⟨rfl, N9q, e9⟩ := hQ9
  have N9 := oF l9 N2 N9q
  obtain ⟨fs, hr, hrun, hended, hW, hsame⟩ := X9.leave (v := some (.int 4)) (oR Bd.returns) (hlocks := Bd.notSynchronized)
  refine ⟨_, _, pre8 _ ?_, hrun, hended, _, _, rfl, ?_, ⟨_, rfl⟩, hW, hsame.mono (by decide) (by decide)⟩
  ·show Steps p.tables e below (T2.setTop (mkF m 6 #[vR rp] [(.int 2), (.int 3)])) _
   refine st9 _ ?_
   exact retI X9 hx Bd.returns (q d11_9) hr
  ·show Q11k3 Z rp fp h0 n0 _ T9.heap _
   rw [e9]
   exact ⟨rfl, N9, K2⟩
 ·have pre10 : oP p e below (T2.setTop (mkF m 6 #[vR rp] [(.int 3), (.int 3)])) (s₁.setTop (entryFrame m #[(.ref rp)] 1)) := by
   intro t k
   refine pre4 _ ?_
   rw [hk5]
   exact k
  obtain ⟨_, _, ⟨T11, L11, k11, n11⟩, -, X11, ⟨Lc11, hQ11, l11, y11, z11⟩, st11⟩ := Jvm.LawKit.callS X2 hx (y := mN2) hown (om hZ hw 48 rfl) (om hZ hw 49 rfl) (om hZ hw 32 rfl) (om hZ hw 50 rfl) (by decide) (backOf (W := 0) (rm9m3c3 l Z a0 hw []  T2.heap n0 Z2 ) hZ (ow hw 50 rfl) (ow hw 32 rfl) (by decide) (by decide)) (g := (mkF m 6 #[vR rp] [(.int 3), (.int 3)])) rfl (by rw [hml]; rfl) (argsL := [(.int 3), (.int 3)]) (rest := []) (lenOf pd_2 rfl) rfl (oz rfl) (q d11_6) (fun _ _ => ⟨rfl, rfl, (by decide : 1 + 0 ≤ _), (by decide : 4 + 0 ≤ _)⟩)
  dsimp only [Pt.U, Pt.locs, Pt.cells, Pt.slots] at X11 l11 y11 z11 st11 hQ11
  subst y11 z11
  obtain ⟨rfl, N11q, e11⟩ := hQ11
  have N11 := oF l11 N2 N11q
  obtain ⟨fs, hr, hrun, hended, hW, hsame⟩ := X11.leave (v := some (.int 4)) (oR Bd.returns) (hlocks := Bd.notSynchronized)
  refine ⟨_, _, pre10 _ ?_, hrun, hended, _, _, rfl, ?_, ⟨_, rfl⟩, hW, hsame.mono (by decide) (by decide)⟩
  ·show Steps p.tables e below (T2.setTop (mkF m 6 #[vR rp] [(.int 3), (.int 3)])) _
   refine st11 _ ?_
   exact retI X11 hx Bd.returns (q d11_9) hr
  ·show Q11k3 Z rp fp h0 n0 _ T11.heap _
   rw [e11]
   exact ⟨rfl, N11, K2⟩
 ·have pre12 : oP p e below (T2.setTop (mkF m 6 #[vR rp] [(.int 4), (.int 3)])) (s₁.setTop (entryFrame m #[(.ref rp)] 1)) := by
   intro t k
   refine pre4 _ ?_
   rw [hk5]
   exact k
  obtain ⟨_, _, ⟨T13, L13, k13, n13⟩, -, X13, ⟨Lc13, hQ13, l13, y13, z13⟩, st13⟩ := Jvm.LawKit.callS X2 hx (y := mN2) hown (om hZ hw 48 rfl) (om hZ hw 49 rfl) (om hZ hw 32 rfl) (om hZ hw 50 rfl) (by decide) (backOf (W := 0) (rm9m3c4 l Z a0 hw []  T2.heap n0 Z2 ) hZ (ow hw 50 rfl) (ow hw 32 rfl) (by decide) (by decide)) (g := (mkF m 6 #[vR rp] [(.int 4), (.int 3)])) rfl (by rw [hml]; rfl) (argsL := [(.int 3), (.int 4)]) (rest := []) (lenOf pd_2 rfl) rfl (oz rfl) (q d11_6) (fun _ _ => ⟨rfl, rfl, (by decide : 1 + 0 ≤ _), (by decide : 4 + 0 ≤ _)⟩)
  dsimp only [Pt.U, Pt.locs, Pt.cells, Pt.slots] at X13 l13 y13 z13 st13 hQ13
  subst y13 z13
  obtain ⟨rfl, N13q, e13⟩ := hQ13
  have N13 := oF l13 N2 N13q
  obtain ⟨fs, hr, hrun, hended, hW, hsame⟩ := X13.leave (v := some (.int 4)) (oR Bd.returns) (hlocks := Bd.notSynchronized)
  refine ⟨_, _, pre12 _ ?_, hrun, hended, _, _, rfl, ?_, ⟨_, rfl⟩, hW, hsame.mono (by decide) (by decide)⟩
  ·show Steps p.tables e below (T2.setTop (mkF m 6 #[vR rp] [(.int 4), (.int 3)])) _
   refine st13 _ ?_
   exact retI X13 hx Bd.returns (q d11_9) hr
  ·show Q11k3 Z rp fp h0 n0 _ T13.heap _
   rw [e13]
   exact ⟨rfl, N13, K2⟩
theorem ef_13k3 (m : MethodId) (rp : Addr) : entryFrame m #[(.ref rp)] 9 = mkF m 0 #[vR rp, .unset, .unset, .unset, .unset, .unset, .unset, .unset, .unset] [] := by first | (simp [entryFrame, mkF, argsToLocals, Value.category]; done) | rfl
def Q13k3 (Z : State) (rp : Addr) (fp : Nat → Int32) (h0 : Heap) (n0 : Nat) (v : Option Value) (h : Heap) (L : List Loc) : Prop := ∃ xr : Int64, v = some (.long xr) ∧ Fr n0 L ∧ Keep h0 h []
set_option maxRecDepth 65536 in
set_option maxHeartbeats 40000000 in
theorem rm13k3 (l : Launch) (Z : State) (a0 : Array Value) (hw : ∀ d ∈ tables_1, d.before a0 Z = true) (ws : List Jvm.Cond) (rp : Addr) (fp : Nat → Int32) (h0 : Heap) (n0 : Nat) (Z0 : n0 ≤ h0.size) (A_rp : AI Z h0 rp .byte 3 fp) :
  MetFree l mN5 (head1 (Jvm.Cond.code mN5 prog_23_method_5_code 9 (some .long) :: ws) ({ frames := 2, cells := 1, slots := 4, locals := 31 } : Room)) (fun a U => a = #[(.ref rp)] ∧ Z.Warmed39 U.vm ∧ U.heap = h0) (fun _ _ _ _ _ => True) (fun _ U o U' => ∃ v L, o = .returned v ∧ Q13k3 Z rp fp h0 n0 v U'.heap L ∧ FrameEnd U o U' L ({ frames := 2, cells := 1, slots := 4, locals := 31 } : Room).cells ({ frames := 2, cells := 1, slots := 4, locals := 31 } : Room).slots) := by
 refine MetFree.of_bodySF (plainFor_of_name pn_skipstitch_search_Automaton) hisR ?_
 intro p e s m args below meth c s₁ Bd hml0 hP hK
 obtain ⟨rfl, hZ, hh⟩ := hP
 have hx := Bd.exec
 have hby := Bd.bytes
 have q {i : Nat} {r : _} (h : decode _ i = r) := hb hby h
 have hml : c.maxLocals = 9 := hml0
 have hown : s.vm.findClass cS0 = some m.cls := findClass_of_methodNamed Bd.named
 have hnm := (name_of_methodNamed Bd.named Bd.method).1
 have X0 : Stand p l e ({ frames := 2, cells := 1, slots := 4, locals := 31 } : Room) s m #[(.ref rp)] below meth c s₁ [] 0 0 := Stand.of_body Bd
 have e0 : s₁.heap = h0 := by rw [← hh, Bd.state]; rfl
 have N0 := Fr.nil n0
 have K0 : Keep h0 h0 [] := Keep.refl h0 _
 have pre0 : oP p e below (s₁.setTop (mkF m 0 #[vR rp, vU, vU, vU, vU, vU, vU, vU, vU] [])) (s₁.setTop (entryFrame m #[(.ref rp)] 9)) := fun t k => castTop (ef_13k3 m rp) k
 obtain ⟨cl1, Arcl1, Szcl1⟩ := AF.len A_rp
 obtain ⟨_, _, ⟨T2, L2, k2, n2⟩, -, X2, ⟨Lc2, hQ2, l2, y2, z2⟩, st2⟩ := Jvm.LawKit.callS X0 hx (y := mN1) hown (om hZ hw 37 rfl) (om hZ hw 38 rfl) (om hZ hw 32 rfl) (om hZ hw 39 rfl) (by decide) (backOf (W := 0) (rm7k3 l Z a0 hw [] rp fp h0 n0 Z0 A_rp) hZ (ow hw 39 rfl) (ow hw 32 rfl) (by decide) (by decide)) (g := (mkF m 4 #[vR rp, vI 3, vU, vU, vU, vU, vU, vU, vU] [(.ref rp)])) rfl (by rw [hml]; rfl) (argsL := [(.ref rp)]) (rest := []) (lenOf pd_1 rfl) rfl (oz rfl) (q d13_4) (fun _ _ => ⟨rfl, e0, (by decide : 0 + 1 ≤ _), (by decide : 0 + 4 ≤ _)⟩)
 dsimp only [Pt.U, Pt.locs, Pt.cells, Pt.slots] at X2 l2 y2 z2 st2 hQ2
 subst y2 z2
 obtain ⟨rfl, N2q, K2c⟩ := hQ2
 have N2 := oF l2 N0 N2q
 have Z2 := Nat.le_trans Z0 K2c.1
 have K2 := K0.trans K2c all0
 have pre4 : oP p e below (T2.setTop (mkF m 7 #[vR rp, vI 3, vU, vU, vU, vU, vU, vU, vU] [(.int (r7k3_v fp))])) (s₁.setTop (entryFrame m #[(.ref rp)] 9)) := by
  intro t k
  refine pre0 _ ?_
  refine XS.aloadN X0.here hx rfl (q d13_0) rfl rfl ?_
  refine X0.arraylength hx (by rw [e0]; exact Arcl1.1) (State.isArrayOf_alike hZ.alike Arcl1.2.1) (g := (mkF m 1 #[vR rp, vU, vU, vU, vU, vU, vU, vU, vU] [(.ref rp)])) rfl rfl (q d13_1) _ ?_
  rw [Szcl1]
  refine XS.istoreN X0.here hx rfl (q d13_2) rfl (l' := #[vR rp, vI 3, vU, vU, vU, vU, vU, vU, vU]) rfl ?_
  refine XS.aloadN X0.here hx rfl (q d13_3) rfl rfl ?_
  refine st2 _ ?_
  exact k
 rcases own_cc3 fp with hk5 | hk5 | hk5 | hk5
 ·have pre6 : oP p e below (T2.setTop (mkF m 7 #[vR rp, vI 3, vU, vU, vU, vU, vU, vU, vU] [(.int 1)])) (s₁.setTop (entryFrame m #[(.ref rp)] 9)) := by
   intro t k
   refine pre4 _ ?_
   rw [hk5]
   exact k
  obtain ⟨_, _, ⟨T7, L7, k7, n7⟩, -, X7, ⟨Lc7, hQ7, l7, y7, z7⟩, st7⟩ := Jvm.LawKit.callS X2 hx (y := mN2) hown (om hZ hw 48 rfl) (om hZ hw 49 rfl) (om hZ hw 32 rfl) (om hZ hw 50 rfl) (by decide) (backOf (W := 0) (rm9m3c1 l Z a0 hw []  T2.heap n0 Z2 ) hZ (ow hw 50 rfl) (ow hw 32 rfl) (by decide) (by decide)) (g := (mkF m 10 #[vR rp, vI 3, vI 1, vU, vU, vU, vU, vU, vU] [(.int 1), (.int 3)])) rfl (by rw [hml]; rfl) (argsL := [(.int 3), (.int 1)]) (rest := []) (lenOf pd_2 rfl) rfl (oz rfl) (q d13_10) (fun _ _ => ⟨rfl, rfl, (by decide : 1 + 0 ≤ _), (by decide : 4 + 0 ≤ _)⟩)
  dsimp only [Pt.U, Pt.locs, Pt.cells, Pt.slots] at X7 l7 y7 z7 st7 hQ7
  subst y7 z7
  obtain ⟨rfl, N7q, e7⟩ := hQ7
  have N7 := oF l7 N2 N7q
  obtain ⟨fs, hr, hrun, hended, hW, hsame⟩ := X7.leave (v := some (.long (12 : Int64))) (oR Bd.returns) (hlocks := Bd.notSynchronized)
  refine ⟨_, _, pre6 _ ?_, hrun, hended, _, _, rfl, ?_, ⟨_, rfl⟩, hW, hsame.mono (by decide) (by decide)⟩
  ·show Steps p.tables e below (T2.setTop (mkF m 7 #[vR rp, vI 3, vU, vU, vU, vU, vU, vU, vU] [(.int 1)])) _
   refine XS.istoreN X2.here hx rfl (q d13_7) rfl (l' := #[vR rp, vI 3, vI 1, vU, vU, vU, vU, vU, vU]) rfl ?_
   refine XS.iloadN X2.here hx rfl (q d13_8) rfl ?_
   refine XS.iloadN X2.here hx rfl (q d13_9) rfl ?_
   refine st7 _ ?_
   refine XS.istoreN X7.here hx rfl (q d13_13) rfl (l' := #[vR rp, vI 3, vI 1, vI 4, vU, vU, vU, vU, vU]) rfl ?_
   refine XS.lconst X7.here hx rfl (q d13_14) ?_
   refine XS.lstore X7.here hx rfl (q d13_15) rfl (l' := #[vR rp, vI 3, vI 1, vI 4, vJ (0 : Int64), .second, vU, vU, vU]) rfl ?_
   refine XS.iloadN X7.here hx rfl (q d13_17) rfl ?_
   refine XS.i2l X7.here hx rfl (q d13_18) rfl ?_
   refine XS.lstore X7.here hx rfl (q d13_19) rfl (l' := #[vR rp, vI 3, vI 1, vI 4, vJ (0 : Int64), .second, vJ (1 : Int64), .second, vU]) rfl ?_
   refine XS.iconst X7.here hx rfl (q d13_21) ?_
   refine XS.istore X7.here hx rfl (q d13_22) rfl (l' := #[vR rp, vI 3, vI 1, vI 4, vJ (0 : Int64), .second, vJ (1 : Int64), .second, vI 1]) rfl ?_
   refine XS.iload X7.here hx rfl (q d13_24) rfl ?_
   refine XS.iloadN X7.here hx rfl (q d13_26) rfl ?_
   refine XS.icmpNo X7.here hx rfl (q d13_27) rfl (flt (by decide : ¬ ((4 : Int32) < (1 : Int32)))).2.2.1 ?_
   refine XS.lload X7.here hx rfl (q d13_30) rfl ?_
   refine XS.iloadN X7.here hx rfl (q d13_32) rfl ?_
   refine XS.i2l X7.here hx rfl (q d13_33) rfl ?_
   refine XS.lconst X7.here hx rfl (q d13_34) ?_
   refine XS.ladd X7.here hx rfl (q d13_35) rfl ?_
   refine XS.lload X7.here hx rfl (q d13_36) rfl ?_
   refine XS.lmul X7.here hx rfl (q d13_38) rfl ?_
   refine XS.ladd X7.here hx rfl (q d13_39) rfl ?_
   refine XS.lstore X7.here hx rfl (q d13_40) rfl (l' := #[vR rp, vI 3, vI 1, vI 4, vJ (4 : Int64), .second, vJ (1 : Int64), .second, vI 1]) rfl ?_
   refine XS.lload X7.here hx rfl (q d13_42) rfl ?_
   refine XS.lload X7.here hx rfl (q d13_44) rfl ?_
   refine XS.lmul X7.here hx rfl (q d13_46) rfl ?_
   refine XS.lstore X7.here hx rfl (q d13_47) rfl (l' := #[vR rp, vI 3, vI 1, vI 4, vJ (4 : Int64), .second, vJ (1 : Int64), .second, vI 1]) rfl ?_
   refine XS.iload X7.here hx rfl (q d13_49) rfl ?_
   refine XS.iconst X7.here hx rfl (q d13_51) ?_
   refine XS.imul X7.here hx rfl (q d13_52) rfl ?_
   refine XS.istore X7.here hx rfl (q d13_53) rfl (l' := #[vR rp, vI 3, vI 1, vI 4, vJ (4 : Int64), .second, vJ (1 : Int64), .second, vI 2]) rfl ?_
   refine XS.goto X7.here hx rfl (pc0 := 55) (pc' := 24) rfl (q d13_55) (by decide) (by decide) ?_
   refine XS.iload X7.here hx rfl (q d13_24) rfl ?_
   refine XS.iloadN X7.here hx rfl (q d13_26) rfl ?_
   refine XS.icmpNo X7.here hx rfl (q d13_27) rfl (flt (by decide : ¬ ((4 : Int32) < (2 : Int32)))).2.2.1 ?_
   refine XS.lload X7.here hx rfl (q d13_30) rfl ?_
   refine XS.iloadN X7.here hx rfl (q d13_32) rfl ?_
   refine XS.i2l X7.here hx rfl (q d13_33) rfl ?_
   refine XS.lconst X7.here hx rfl (q d13_34) ?_
   refine XS.ladd X7.here hx rfl (q d13_35) rfl ?_
   refine XS.lload X7.here hx rfl (q d13_36) rfl ?_
   refine XS.lmul X7.here hx rfl (q d13_38) rfl ?_
   refine XS.ladd X7.here hx rfl (q d13_39) rfl ?_
   refine XS.lstore X7.here hx rfl (q d13_40) rfl (l' := #[vR rp, vI 3, vI 1, vI 4, vJ (8 : Int64), .second, vJ (1 : Int64), .second, vI 2]) rfl ?_
   refine XS.lload X7.here hx rfl (q d13_42) rfl ?_
   refine XS.lload X7.here hx rfl (q d13_44) rfl ?_
   refine XS.lmul X7.here hx rfl (q d13_46) rfl ?_
   refine XS.lstore X7.here hx rfl (q d13_47) rfl (l' := #[vR rp, vI 3, vI 1, vI 4, vJ (8 : Int64), .second, vJ (1 : Int64), .second, vI 2]) rfl ?_
   refine XS.iload X7.here hx rfl (q d13_49) rfl ?_
   refine XS.iconst X7.here hx rfl (q d13_51) ?_
   refine XS.imul X7.here hx rfl (q d13_52) rfl ?_
   refine XS.istore X7.here hx rfl (q d13_53) rfl (l' := #[vR rp, vI 3, vI 1, vI 4, vJ (8 : Int64), .second, vJ (1 : Int64), .second, vI 4]) rfl ?_
   refine XS.goto X7.here hx rfl (pc0 := 55) (pc' := 24) rfl (q d13_55) (by decide) (by decide) ?_
   refine XS.iload X7.here hx rfl (q d13_24) rfl ?_
   refine XS.iloadN X7.here hx rfl (q d13_26) rfl ?_
   refine XS.icmpNo X7.here hx rfl (q d13_27) rfl (flt (by decide : ¬ ((4 : Int32) < (4 : Int32)))).2.2.1 ?_
   refine XS.lload X7.here hx rfl (q d13_30) rfl ?_
   refine XS.iloadN X7.here hx rfl (q d13_32) rfl ?_
   refine XS.i2l X7.here hx rfl (q d13_33) rfl ?_
   refine XS.lconst X7.here hx rfl (q d13_34) ?_
   refine XS.ladd X7.here hx rfl (q d13_35) rfl ?_
   refine XS.lload X7.here hx rfl (q d13_36) rfl ?_
   refine XS.lmul X7.here hx rfl (q d13_38) rfl ?_
   refine XS.ladd X7.here hx rfl (q d13_39) rfl ?_
   refine XS.lstore X7.here hx rfl (q d13_40) rfl (l' := #[vR rp, vI 3, vI 1, vI 4, vJ (12 : Int64), .second, vJ (1 : Int64), .second, vI 4]) rfl ?_
   refine XS.lload X7.here hx rfl (q d13_42) rfl ?_
   refine XS.lload X7.here hx rfl (q d13_44) rfl ?_
   refine XS.lmul X7.here hx rfl (q d13_46) rfl ?_
   refine XS.lstore X7.here hx rfl (q d13_47) rfl (l' := #[vR rp, vI 3, vI 1, vI 4, vJ (12 : Int64), .second, vJ (1 : Int64), .second, vI 4]) rfl ?_
   refine XS.iload X7.here hx rfl (q d13_49) rfl ?_
   refine XS.iconst X7.here hx rfl (q d13_51) ?_
   refine XS.imul X7.here hx rfl (q d13_52) rfl ?_
   refine XS.istore X7.here hx rfl (q d13_53) rfl (l' := #[vR rp, vI 3, vI 1, vI 4, vJ (12 : Int64), .second, vJ (1 : Int64), .second, vI 8]) rfl ?_
   refine XS.goto X7.here hx rfl (pc0 := 55) (pc' := 24) rfl (q d13_55) (by decide) (by decide) ?_
   refine XS.iload X7.here hx rfl (q d13_24) rfl ?_
   refine XS.iloadN X7.here hx rfl (q d13_26) rfl ?_
   refine XS.icmpYes X7.here hx rfl (pc0 := 27) (pc' := 58) rfl (q d13_27) rfl (tlt (by decide : ((4 : Int32) < (8 : Int32)))).2.2.1 (by decide) (by decide) ?_
   refine XS.lload X7.here hx rfl (q d13_58) rfl ?_
   exact retOut X7 hx Bd.returns rfl (Or.inr (Or.inl ⟨rfl, rfl, _, rfl⟩)) (q d13_60) hr
  ·show Q13k3 Z rp fp h0 n0 _ T7.heap _
   rw [e7]
   exact ⟨(12 : Int64), rfl, N7, K2⟩
 ·have pre8 : oP p e below (T2.setTop (mkF m 7 #[vR rp, vI 3, vU, vU, vU, vU, vU, vU, vU] [(.int 2)])) (s₁.setTop (entryFrame m #[(.ref rp)] 9)) := by
   intro t k
   refine pre4 _ ?_
   rw [hk5]
   exact k
  obtain ⟨_, _, ⟨T9, L9, k9, n9⟩, -, X9, ⟨Lc9, hQ9, l9, y9, z9⟩, st9⟩ := Jvm.LawKit.callS X2 hx (y := mN2) hown (om hZ hw 48 rfl) (om hZ hw 49 rfl) (om hZ hw 32 rfl) (om hZ hw 50 rfl) (by decide) (backOf (W := 0) (rm9m3c2 l Z a0 hw []  T2.heap n0 Z2 ) hZ (ow hw 50 rfl) (ow hw 32 rfl) (by decide) (by decide)) (g := (mkF m 10 #[vR rp, vI 3, vI 2, vU, vU, vU, vU, vU, vU] [(.int 2), (.int 3)])) rfl (by rw [hml]; rfl) (argsL := [(.int 3), (.int 2)]) (rest := []) (lenOf pd_2 rfl) rfl (oz rfl) (q d13_10) (fun _ _ => ⟨rfl, rfl, (by decide : 1 + 0 ≤ _), (by decide : 4 + 0 ≤ _)⟩)
  dsimp only [Pt.U, Pt.locs, Pt.cells, Pt.slots] at X9 l9 y9 z9 st9 hQ9
  subst y9 z9
  obtain ⟨rfl, N9q, e9⟩ := hQ9
  have N9 := oF l9 N2 N9q
  obtain ⟨fs, hr, hrun, hended, hW, hsame⟩ := X9.leave (v := some (.long (88 : Int64))) (oR Bd.returns) (hlocks := Bd.notSynchronized)
  refine ⟨_, _, pre8 _ ?_, hrun, hended, _, _, rfl, ?_, ⟨_, rfl⟩, hW, hsame.mono (by decide) (by decide)⟩
  ·show Steps p.tables e below (T2.setTop (mkF m 7 #[vR rp, vI 3, vU, vU, vU, vU, vU, vU, vU] [(.int 2)])) _
   refine XS.istoreN X2.here hx rfl (q d13_7) rfl (l' := #[vR rp, vI 3, vI 2, vU, vU, vU, vU, vU, vU]) rfl ?_
   refine XS.iloadN X2.here hx rfl (q d13_8) rfl ?_
   refine XS.iloadN X2.here hx rfl (q d13_9) rfl ?_
   refine st9 _ ?_
   refine XS.istoreN X9.here hx rfl (q d13_13) rfl (l' := #[vR rp, vI 3, vI 2, vI 4, vU, vU, vU, vU, vU]) rfl ?_
   refine XS.lconst X9.here hx rfl (q d13_14) ?_
   refine XS.lstore X9.here hx rfl (q d13_15) rfl (l' := #[vR rp, vI 3, vI 2, vI 4, vJ (0 : Int64), .second, vU, vU, vU]) rfl ?_
   refine XS.iloadN X9.here hx rfl (q d13_17) rfl ?_
   refine XS.i2l X9.here hx rfl (q d13_18) rfl ?_
   refine XS.lstore X9.here hx rfl (q d13_19) rfl (l' := #[vR rp, vI 3, vI 2, vI 4, vJ (0 : Int64), .second, vJ (2 : Int64), .second, vU]) rfl ?_
   refine XS.iconst X9.here hx rfl (q d13_21) ?_
   refine XS.istore X9.here hx rfl (q d13_22) rfl (l' := #[vR rp, vI 3, vI 2, vI 4, vJ (0 : Int64), .second, vJ (2 : Int64), .second, vI 1]) rfl ?_
   refine XS.iload X9.here hx rfl (q d13_24) rfl ?_
   refine XS.iloadN X9.here hx rfl (q d13_26) rfl ?_
   refine XS.icmpNo X9.here hx rfl (q d13_27) rfl (flt (by decide : ¬ ((4 : Int32) < (1 : Int32)))).2.2.1 ?_
   refine XS.lload X9.here hx rfl (q d13_30) rfl ?_
   refine XS.iloadN X9.here hx rfl (q d13_32) rfl ?_
   refine XS.i2l X9.here hx rfl (q d13_33) rfl ?_
   refine XS.lconst X9.here hx rfl (q d13_34) ?_
   refine XS.ladd X9.here hx rfl (q d13_35) rfl ?_
   refine XS.lload X9.here hx rfl (q d13_36) rfl ?_
   refine XS.lmul X9.here hx rfl (q d13_38) rfl ?_
   refine XS.ladd X9.here hx rfl (q d13_39) rfl ?_
   refine XS.lstore X9.here hx rfl (q d13_40) rfl (l' := #[vR rp, vI 3, vI 2, vI 4, vJ (8 : Int64), .second, vJ (2 : Int64), .second, vI 1]) rfl ?_
   refine XS.lload X9.here hx rfl (q d13_42) rfl ?_
   refine XS.lload X9.here hx rfl (q d13_44) rfl ?_
   refine XS.lmul X9.here hx rfl (q d13_46) rfl ?_
   refine XS.lstore X9.here hx rfl (q d13_47) rfl (l' := #[vR rp, vI 3, vI 2, vI 4, vJ (8 : Int64), .second, vJ (4 : Int64), .second, vI 1]) rfl ?_
   refine XS.iload X9.here hx rfl (q d13_49) rfl ?_
   refine XS.iconst X9.here hx rfl (q d13_51) ?_
   refine XS.imul X9.here hx rfl (q d13_52) rfl ?_
   refine XS.istore X9.here hx rfl (q d13_53) rfl (l' := #[vR rp, vI 3, vI 2, vI 4, vJ (8 : Int64), .second, vJ (4 : Int64), .second, vI 2]) rfl ?_
   refine XS.goto X9.here hx rfl (pc0 := 55) (pc' := 24) rfl (q d13_55) (by decide) (by decide) ?_
   refine XS.iload X9.here hx rfl (q d13_24) rfl ?_
   refine XS.iloadN X9.here hx rfl (q d13_26) rfl ?_
   refine XS.icmpNo X9.here hx rfl (q d13_27) rfl (flt (by decide : ¬ ((4 : Int32) < (2 : Int32)))).2.2.1 ?_
   refine XS.lload X9.here hx rfl (q d13_30) rfl ?_
   refine XS.iloadN X9.here hx rfl (q d13_32) rfl ?_
   refine XS.i2l X9.here hx rfl (q d13_33) rfl ?_
   refine XS.lconst X9.here hx rfl (q d13_34) ?_
   refine XS.ladd X9.here hx rfl (q d13_35) rfl ?_
   refine XS.lload X9.here hx rfl (q d13_36) rfl ?_
   refine XS.lmul X9.here hx rfl (q d13_38) rfl ?_
   refine XS.ladd X9.here hx rfl (q d13_39) rfl ?_
   refine XS.lstore X9.here hx rfl (q d13_40) rfl (l' := #[vR rp, vI 3, vI 2, vI 4, vJ (24 : Int64), .second, vJ (4 : Int64), .second, vI 2]) rfl ?_
   refine XS.lload X9.here hx rfl (q d13_42) rfl ?_
   refine XS.lload X9.here hx rfl (q d13_44) rfl ?_
   refine XS.lmul X9.here hx rfl (q d13_46) rfl ?_
   refine XS.lstore X9.here hx rfl (q d13_47) rfl (l' := #[vR rp, vI 3, vI 2, vI 4, vJ (24 : Int64), .second, vJ (16 : Int64), .second, vI 2]) rfl ?_
   refine XS.iload X9.here hx rfl (q d13_49) rfl ?_
   refine XS.iconst X9.here hx rfl (q d13_51) ?_
   refine XS.imul X9.here hx rfl (q d13_52) rfl ?_
   refine XS.istore X9.here hx rfl (q d13_53) rfl (l' := #[vR rp, vI 3, vI 2, vI 4, vJ (24 : Int64), .second, vJ (16 : Int64), .second, vI 4]) rfl ?_
   refine XS.goto X9.here hx rfl (pc0 := 55) (pc' := 24) rfl (q d13_55) (by decide) (by decide) ?_
   refine XS.iload X9.here hx rfl (q d13_24) rfl ?_
   refine XS.iloadN X9.here hx rfl (q d13_26) rfl ?_
   refine XS.icmpNo X9.here hx rfl (q d13_27) rfl (flt (by decide : ¬ ((4 : Int32) < (4 : Int32)))).2.2.1 ?_
   refine XS.lload X9.here hx rfl (q d13_30) rfl ?_
   refine XS.iloadN X9.here hx rfl (q d13_32) rfl ?_
   refine XS.i2l X9.here hx rfl (q d13_33) rfl ?_
   refine XS.lconst X9.here hx rfl (q d13_34) ?_
   refine XS.ladd X9.here hx rfl (q d13_35) rfl ?_
   refine XS.lload X9.here hx rfl (q d13_36) rfl ?_
   refine XS.lmul X9.here hx rfl (q d13_38) rfl ?_
   refine XS.ladd X9.here hx rfl (q d13_39) rfl ?_
   refine XS.lstore X9.here hx rfl (q d13_40) rfl (l' := #[vR rp, vI 3, vI 2, vI 4, vJ (88 : Int64), .second, vJ (16 : Int64), .second, vI 4]) rfl ?_
   refine XS.lload X9.here hx rfl (q d13_42) rfl ?_
   refine XS.lload X9.here hx rfl (q d13_44) rfl ?_
   refine XS.lmul X9.here hx rfl (q d13_46) rfl ?_
   refine XS.lstore X9.here hx rfl (q d13_47) rfl (l' := #[vR rp, vI 3, vI 2, vI 4, vJ (88 : Int64), .second, vJ (256 : Int64), .second, vI 4]) rfl ?_
   refine XS.iload X9.here hx rfl (q d13_49) rfl ?_
   refine XS.iconst X9.here hx rfl (q d13_51) ?_
   refine XS.imul X9.here hx rfl (q d13_52) rfl ?_
   refine XS.istore X9.here hx rfl (q d13_53) rfl (l' := #[vR rp, vI 3, vI 2, vI 4, vJ (88 : Int64), .second, vJ (256 : Int64), .second, vI 8]) rfl ?_
   refine XS.goto X9.here hx rfl (pc0 := 55) (pc' := 24) rfl (q d13_55) (by decide) (by decide) ?_
   refine XS.iload X9.here hx rfl (q d13_24) rfl ?_
   refine XS.iloadN X9.here hx rfl (q d13_26) rfl ?_
   refine XS.icmpYes X9.here hx rfl (pc0 := 27) (pc' := 58) rfl (q d13_27) rfl (tlt (by decide : ((4 : Int32) < (8 : Int32)))).2.2.1 (by decide) (by decide) ?_
   refine XS.lload X9.here hx rfl (q d13_58) rfl ?_
   exact retOut X9 hx Bd.returns rfl (Or.inr (Or.inl ⟨rfl, rfl, _, rfl⟩)) (q d13_60) hr
  ·show Q13k3 Z rp fp h0 n0 _ T9.heap _
   rw [e9]
   exact ⟨(88 : Int64), rfl, N9, K2⟩
 ·have pre10 : oP p e below (T2.setTop (mkF m 7 #[vR rp, vI 3, vU, vU, vU, vU, vU, vU, vU] [(.int 3)])) (s₁.setTop (entryFrame m #[(.ref rp)] 9)) := by
   intro t k
   refine pre4 _ ?_
   rw [hk5]
   exact k
  obtain ⟨_, _, ⟨T11, L11, k11, n11⟩, -, X11, ⟨Lc11, hQ11, l11, y11, z11⟩, st11⟩ := Jvm.LawKit.callS X2 hx (y := mN2) hown (om hZ hw 48 rfl) (om hZ hw 49 rfl) (om hZ hw 32 rfl) (om hZ hw 50 rfl) (by decide) (backOf (W := 0) (rm9m3c3 l Z a0 hw []  T2.heap n0 Z2 ) hZ (ow hw 50 rfl) (ow hw 32 rfl) (by decide) (by decide)) (g := (mkF m 10 #[vR rp, vI 3, vI 3, vU, vU, vU, vU, vU, vU] [(.int 3), (.int 3)])) rfl (by rw [hml]; rfl) (argsL := [(.int 3), (.int 3)]) (rest := []) (lenOf pd_2 rfl) rfl (oz rfl) (q d13_10) (fun _ _ => ⟨rfl, rfl, (by decide : 1 + 0 ≤ _), (by decide : 4 + 0 ≤ _)⟩)
  dsimp only [Pt.U, Pt.locs, Pt.cells, Pt.slots] at X11 l11 y11 z11 st11 hQ11
  subst y11 z11
  obtain ⟨rfl, N11q, e11⟩ := hQ11
  have N11 := oF l11 N2 N11q
  obtain ⟨fs, hr, hrun, hended, hW, hsame⟩ := X11.leave (v := some (.long (372 : Int64))) (oR Bd.returns) (hlocks := Bd.notSynchronized)
  refine ⟨_, _, pre10 _ ?_, hrun, hended, _, _, rfl, ?_, ⟨_, rfl⟩, hW, hsame.mono (by decide) (by decide)⟩
  ·show Steps p.tables e below (T2.setTop (mkF m 7 #[vR rp, vI 3, vU, vU, vU, vU, vU, vU, vU] [(.int 3)])) _
   refine XS.istoreN X2.here hx rfl (q d13_7) rfl (l' := #[vR rp, vI 3, vI 3, vU, vU, vU, vU, vU, vU]) rfl ?_
   refine XS.iloadN X2.here hx rfl (q d13_8) rfl ?_
   refine XS.iloadN X2.here hx rfl (q d13_9) rfl ?_
   refine st11 _ ?_
   refine XS.istoreN X11.here hx rfl (q d13_13) rfl (l' := #[vR rp, vI 3, vI 3, vI 4, vU, vU, vU, vU, vU]) rfl ?_
   refine XS.lconst X11.here hx rfl (q d13_14) ?_
   refine XS.lstore X11.here hx rfl (q d13_15) rfl (l' := #[vR rp, vI 3, vI 3, vI 4, vJ (0 : Int64), .second, vU, vU, vU]) rfl ?_
   refine XS.iloadN X11.here hx rfl (q d13_17) rfl ?_
   refine XS.i2l X11.here hx rfl (q d13_18) rfl ?_
   refine XS.lstore X11.here hx rfl (q d13_19) rfl (l' := #[vR rp, vI 3, vI 3, vI 4, vJ (0 : Int64), .second, vJ (3 : Int64), .second, vU]) rfl ?_
   refine XS.iconst X11.here hx rfl (q d13_21) ?_
   refine XS.istore X11.here hx rfl (q d13_22) rfl (l' := #[vR rp, vI 3, vI 3, vI 4, vJ (0 : Int64), .second, vJ (3 : Int64), .second, vI 1]) rfl ?_
   refine XS.iload X11.here hx rfl (q d13_24) rfl ?_
   refine XS.iloadN X11.here hx rfl (q d13_26) rfl ?_
   refine XS.icmpNo X11.here hx rfl (q d13_27) rfl (flt (by decide : ¬ ((4 : Int32) < (1 : Int32)))).2.2.1 ?_
   refine XS.lload X11.here hx rfl (q d13_30) rfl ?_
   refine XS.iloadN X11.here hx rfl (q d13_32) rfl ?_
   refine XS.i2l X11.here hx rfl (q d13_33) rfl ?_
   refine XS.lconst X11.here hx rfl (q d13_34) ?_
   refine XS.ladd X11.here hx rfl (q d13_35) rfl ?_
   refine XS.lload X11.here hx rfl (q d13_36) rfl ?_
   refine XS.lmul X11.here hx rfl (q d13_38) rfl ?_
   refine XS.ladd X11.here hx rfl (q d13_39) rfl ?_
   refine XS.lstore X11.here hx rfl (q d13_40) rfl (l' := #[vR rp, vI 3, vI 3, vI 4, vJ (12 : Int64), .second, vJ (3 : Int64), .second, vI 1]) rfl ?_
   refine XS.lload X11.here hx rfl (q d13_42) rfl ?_
   refine XS.lload X11.here hx rfl (q d13_44) rfl ?_
   refine XS.lmul X11.here hx rfl (q d13_46) rfl ?_
   refine XS.lstore X11.here hx rfl (q d13_47) rfl (l' := #[vR rp, vI 3, vI 3, vI 4, vJ (12 : Int64), .second, vJ (9 : Int64), .second, vI 1]) rfl ?_
   refine XS.iload X11.here hx rfl (q d13_49) rfl ?_
   refine XS.iconst X11.here hx rfl (q d13_51) ?_
   refine XS.imul X11.here hx rfl (q d13_52) rfl ?_
   refine XS.istore X11.here hx rfl (q d13_53) rfl (l' := #[vR rp, vI 3, vI 3, vI 4, vJ (12 : Int64), .second, vJ (9 : Int64), .second, vI 2]) rfl ?_
   refine XS.goto X11.here hx rfl (pc0 := 55) (pc' := 24) rfl (q d13_55) (by decide) (by decide) ?_
   refine XS.iload X11.here hx rfl (q d13_24) rfl ?_
   refine XS.iloadN X11.here hx rfl (q d13_26) rfl ?_
   refine XS.icmpNo X11.here hx rfl (q d13_27) rfl (flt (by decide : ¬ ((4 : Int32) < (2 : Int32)))).2.2.1 ?_
   refine XS.lload X11.here hx rfl (q d13_30) rfl ?_
   refine XS.iloadN X11.here hx rfl (q d13_32) rfl ?_
   refine XS.i2l X11.here hx rfl (q d13_33) rfl ?_
   refine XS.lconst X11.here hx rfl (q d13_34) ?_
   refine XS.ladd X11.here hx rfl (q d13_35) rfl ?_
   refine XS.lload X11.here hx rfl (q d13_36) rfl ?_
   refine XS.lmul X11.here hx rfl (q d13_38) rfl ?_
   refine XS.ladd X11.here hx rfl (q d13_39) rfl ?_
   refine XS.lstore X11.here hx rfl (q d13_40) rfl (l' := #[vR rp, vI 3, vI 3, vI 4, vJ (48 : Int64), .second, vJ (9 : Int64), .second, vI 2]) rfl ?_
   refine XS.lload X11.here hx rfl (q d13_42) rfl ?_
   refine XS.lload X11.here hx rfl (q d13_44) rfl ?_
   refine XS.lmul X11.here hx rfl (q d13_46) rfl ?_
   refine XS.lstore X11.here hx rfl (q d13_47) rfl (l' := #[vR rp, vI 3, vI 3, vI 4, vJ (48 : Int64), .second, vJ (81 : Int64), .second, vI 2]) rfl ?_
   refine XS.iload X11.here hx rfl (q d13_49) rfl ?_
   refine XS.iconst X11.here hx rfl (q d13_51) ?_
   refine XS.imul X11.here hx rfl (q d13_52) rfl ?_
   refine XS.istore X11.here hx rfl (q d13_53) rfl (l' := #[vR rp, vI 3, vI 3, vI 4, vJ (48 : Int64), .second, vJ (81 : Int64), .second, vI 4]) rfl ?_
   refine XS.goto X11.here hx rfl (pc0 := 55) (pc' := 24) rfl (q d13_55) (by decide) (by decide) ?_
   refine XS.iload X11.here hx rfl (q d13_24) rfl ?_
   refine XS.iloadN X11.here hx rfl (q d13_26) rfl ?_
   refine XS.icmpNo X11.here hx rfl (q d13_27) rfl (flt (by decide : ¬ ((4 : Int32) < (4 : Int32)))).2.2.1 ?_
   refine XS.lload X11.here hx rfl (q d13_30) rfl ?_
   refine XS.iloadN X11.here hx rfl (q d13_32) rfl ?_
   refine XS.i2l X11.here hx rfl (q d13_33) rfl ?_
   refine XS.lconst X11.here hx rfl (q d13_34) ?_
   refine XS.ladd X11.here hx rfl (q d13_35) rfl ?_
   refine XS.lload X11.here hx rfl (q d13_36) rfl ?_
   refine XS.lmul X11.here hx rfl (q d13_38) rfl ?_
   refine XS.ladd X11.here hx rfl (q d13_39) rfl ?_
   refine XS.lstore X11.here hx rfl (q d13_40) rfl (l' := #[vR rp, vI 3, vI 3, vI 4, vJ (372 : Int64), .second, vJ (81 : Int64), .second, vI 4]) rfl ?_
   refine XS.lload X11.here hx rfl (q d13_42) rfl ?_
   refine XS.lload X11.here hx rfl (q d13_44) rfl ?_
   refine XS.lmul X11.here hx rfl (q d13_46) rfl ?_
   refine XS.lstore X11.here hx rfl (q d13_47) rfl (l' := #[vR rp, vI 3, vI 3, vI 4, vJ (372 : Int64), .second, vJ (6561 : Int64), .second, vI 4]) rfl ?_
   refine XS.iload X11.here hx rfl (q d13_49) rfl ?_
   refine XS.iconst X11.here hx rfl (q d13_51) ?_
   refine XS.imul X11.here hx rfl (q d13_52) rfl ?_
   refine XS.istore X11.here hx rfl (q d13_53) rfl (l' := #[vR rp, vI 3, vI 3, vI 4, vJ (372 : Int64), .second, vJ (6561 : Int64), .second, vI 8]) rfl ?_
   refine XS.goto X11.here hx rfl (pc0 := 55) (pc' := 24) rfl (q d13_55) (by decide) (by decide) ?_
   refine XS.iload X11.here hx rfl (q d13_24) rfl ?_
   refine XS.iloadN X11.here hx rfl (q d13_26) rfl ?_
   refine XS.icmpYes X11.here hx rfl (pc0 := 27) (pc' := 58) rfl (q d13_27) rfl (tlt (by decide : ((4 : Int32) < (8 : Int32)))).2.2.1 (by decide) (by decide) ?_
   refine XS.lload X11.here hx rfl (q d13_58) rfl ?_
   exact retOut X11 hx Bd.returns rfl (Or.inr (Or.inl ⟨rfl, rfl, _, rfl⟩)) (q d13_60) hr
  ·show Q13k3 Z rp fp h0 n0 _ T11.heap _
   rw [e11]
   exact ⟨(372 : Int64), rfl, N11, K2⟩
 ·have pre12 : oP p e below (T2.setTop (mkF m 7 #[vR rp, vI 3, vU, vU, vU, vU, vU, vU, vU] [(.int 4)])) (s₁.setTop (entryFrame m #[(.ref rp)] 9)) := by
   intro t k
   refine pre4 _ ?_
   rw [hk5]
   exact k
  obtain ⟨_, _, ⟨T13, L13, k13, n13⟩, -, X13, ⟨Lc13, hQ13, l13, y13, z13⟩, st13⟩ := Jvm.LawKit.callS X2 hx (y := mN2) hown (om hZ hw 48 rfl) (om hZ hw 49 rfl) (om hZ hw 32 rfl) (om hZ hw 50 rfl) (by decide) (backOf (W := 0) (rm9m3c4 l Z a0 hw []  T2.heap n0 Z2 ) hZ (ow hw 50 rfl) (ow hw 32 rfl) (by decide) (by decide)) (g := (mkF m 10 #[vR rp, vI 3, vI 4, vU, vU, vU, vU, vU, vU] [(.int 4), (.int 3)])) rfl (by rw [hml]; rfl) (argsL := [(.int 3), (.int 4)]) (rest := []) (lenOf pd_2 rfl) rfl (oz rfl) (q d13_10) (fun _ _ => ⟨rfl, rfl, (by decide : 1 + 0 ≤ _), (by decide : 4 + 0 ≤ _)⟩)
  dsimp only [Pt.U, Pt.locs, Pt.cells, Pt.slots] at X13 l13 y13 z13 st13 hQ13
  subst y13 z13
  obtain ⟨rfl, N13q, e13⟩ := hQ13
  have N13 := oF l13 N2 N13q
  obtain ⟨fs, hr, hrun, hended, hW, hsame⟩ := X13.leave (v := some (.long (1104 : Int64))) (oR Bd.returns) (hlocks := Bd.notSynchronized)
  refine ⟨_, _, pre12 _ ?_, hrun, hended, _, _, rfl, ?_, ⟨_, rfl⟩, hW, hsame.mono (by decide) (by decide)⟩
  ·show Steps p.tables e below (T2.setTop (mkF m 7 #[vR rp, vI 3, vU, vU, vU, vU, vU, vU, vU] [(.int 4)])) _
   refine XS.istoreN X2.here hx rfl (q d13_7) rfl (l' := #[vR rp, vI 3, vI 4, vU, vU, vU, vU, vU, vU]) rfl ?_
   refine XS.iloadN X2.here hx rfl (q d13_8) rfl ?_
   refine XS.iloadN X2.here hx rfl (q d13_9) rfl ?_
   refine st13 _ ?_
   refine XS.istoreN X13.here hx rfl (q d13_13) rfl (l' := #[vR rp, vI 3, vI 4, vI 4, vU, vU, vU, vU, vU]) rfl ?_
   refine XS.lconst X13.here hx rfl (q d13_14) ?_
   refine XS.lstore X13.here hx rfl (q d13_15) rfl (l' := #[vR rp, vI 3, vI 4, vI 4, vJ (0 : Int64), .second, vU, vU, vU]) rfl ?_
   refine XS.iloadN X13.here hx rfl (q d13_17) rfl ?_
   refine XS.i2l X13.here hx rfl (q d13_18) rfl ?_
   refine XS.lstore X13.here hx rfl (q d13_19) rfl (l' := #[vR rp, vI 3, vI 4, vI 4, vJ (0 : Int64), .second, vJ (4 : Int64), .second, vU]) rfl ?_
   refine XS.iconst X13.here hx rfl (q d13_21) ?_
   refine XS.istore X13.here hx rfl (q d13_22) rfl (l' := #[vR rp, vI 3, vI 4, vI 4, vJ (0 : Int64), .second, vJ (4 : Int64), .second, vI 1]) rfl ?_
   refine XS.iload X13.here hx rfl (q d13_24) rfl ?_
   refine XS.iloadN X13.here hx rfl (q d13_26) rfl ?_
   refine XS.icmpNo X13.here hx rfl (q d13_27) rfl (flt (by decide : ¬ ((4 : Int32) < (1 : Int32)))).2.2.1 ?_
   refine XS.lload X13.here hx rfl (q d13_30) rfl ?_
   refine XS.iloadN X13.here hx rfl (q d13_32) rfl ?_
   refine XS.i2l X13.here hx rfl (q d13_33) rfl ?_
   refine XS.lconst X13.here hx rfl (q d13_34) ?_
   refine XS.ladd X13.here hx rfl (q d13_35) rfl ?_
   refine XS.lload X13.here hx rfl (q d13_36) rfl ?_
   refine XS.lmul X13.here hx rfl (q d13_38) rfl ?_
   refine XS.ladd X13.here hx rfl (q d13_39) rfl ?_
   refine XS.lstore X13.here hx rfl (q d13_40) rfl (l' := #[vR rp, vI 3, vI 4, vI 4, vJ (16 : Int64), .second, vJ (4 : Int64), .second, vI 1]) rfl ?_
   refine XS.lload X13.here hx rfl (q d13_42) rfl ?_
   refine XS.lload X13.here hx rfl (q d13_44) rfl ?_
   refine XS.lmul X13.here hx rfl (q d13_46) rfl ?_
   refine XS.lstore X13.here hx rfl (q d13_47) rfl (l' := #[vR rp, vI 3, vI 4, vI 4, vJ (16 : Int64), .second, vJ (16 : Int64), .second, vI 1]) rfl ?_
   refine XS.iload X13.here hx rfl (q d13_49) rfl ?_
   refine XS.iconst X13.here hx rfl (q d13_51) ?_
   refine XS.imul X13.here hx rfl (q d13_52) rfl ?_
   refine XS.istore X13.here hx rfl (q d13_53) rfl (l' := #[vR rp, vI 3, vI 4, vI 4, vJ (16 : Int64), .second, vJ (16 : Int64), .second, vI 2]) rfl ?_
   refine XS.goto X13.here hx rfl (pc0 := 55) (pc' := 24) rfl (q d13_55) (by decide) (by decide) ?_
   refine XS.iload X13.here hx rfl (q d13_24) rfl ?_
   refine XS.iloadN X13.here hx rfl (q d13_26) rfl ?_
   refine XS.icmpNo X13.here hx rfl (q d13_27) rfl (flt (by decide : ¬ ((4 : Int32) < (2 : Int32)))).2.2.1 ?_
   refine XS.lload X13.here hx rfl (q d13_30) rfl ?_
   refine XS.iloadN X13.here hx rfl (q d13_32) rfl ?_
   refine XS.i2l X13.here hx rfl (q d13_33) rfl ?_
   refine XS.lconst X13.here hx rfl (q d13_34) ?_
   refine XS.ladd X13.here hx rfl (q d13_35) rfl ?_
   refine XS.lload X13.here hx rfl (q d13_36) rfl ?_
   refine XS.lmul X13.here hx rfl (q d13_38) rfl ?_
   refine XS.ladd X13.here hx rfl (q d13_39) rfl ?_
   refine XS.lstore X13.here hx rfl (q d13_40) rfl (l' := #[vR rp, vI 3, vI 4, vI 4, vJ (80 : Int64), .second, vJ (16 : Int64), .second, vI 2]) rfl ?_
   refine XS.lload X13.here hx rfl (q d13_42) rfl ?_
   refine XS.lload X13.here hx rfl (q d13_44) rfl ?_
   refine XS.lmul X13.here hx rfl (q d13_46) rfl ?_
   refine XS.lstore X13.here hx rfl (q d13_47) rfl (l' := #[vR rp, vI 3, vI 4, vI 4, vJ (80 : Int64), .second, vJ (256 : Int64), .second, vI 2]) rfl ?_
   refine XS.iload X13.here hx rfl (q d13_49) rfl ?_
   refine XS.iconst X13.here hx rfl (q d13_51) ?_
   refine XS.imul X13.here hx rfl (q d13_52) rfl ?_
   refine XS.istore X13.here hx rfl (q d13_53) rfl (l' := #[vR rp, vI 3, vI 4, vI 4, vJ (80 : Int64), .second, vJ (256 : Int64), .second, vI 4]) rfl ?_
   refine XS.goto X13.here hx rfl (pc0 := 55) (pc' := 24) rfl (q d13_55) (by decide) (by decide) ?_
   refine XS.iload X13.here hx rfl (q d13_24) rfl ?_
   refine XS.iloadN X13.here hx rfl (q d13_26) rfl ?_
   refine XS.icmpNo X13.here hx rfl (q d13_27) rfl (flt (by decide : ¬ ((4 : Int32) < (4 : Int32)))).2.2.1 ?_
   refine XS.lload X13.here hx rfl (q d13_30) rfl ?_
   refine XS.iloadN X13.here hx rfl (q d13_32) rfl ?_
   refine XS.i2l X13.here hx rfl (q d13_33) rfl ?_
   refine XS.lconst X13.here hx rfl (q d13_34) ?_
   refine XS.ladd X13.here hx rfl (q d13_35) rfl ?_
   refine XS.lload X13.here hx rfl (q d13_36) rfl ?_
   refine XS.lmul X13.here hx rfl (q d13_38) rfl ?_
   refine XS.ladd X13.here hx rfl (q d13_39) rfl ?_
   refine XS.lstore X13.here hx rfl (q d13_40) rfl (l' := #[vR rp, vI 3, vI 4, vI 4, vJ (1104 : Int64), .second, vJ (256 : Int64), .second, vI 4]) rfl ?_
   refine XS.lload X13.here hx rfl (q d13_42) rfl ?_
   refine XS.lload X13.here hx rfl (q d13_44) rfl ?_
   refine XS.lmul X13.here hx rfl (q d13_46) rfl ?_
   refine XS.lstore X13.here hx rfl (q d13_47) rfl (l' := #[vR rp, vI 3, vI 4, vI 4, vJ (1104 : Int64), .second, vJ (65536 : Int64), .second, vI 4]) rfl ?_
   refine XS.iload X13.here hx rfl (q d13_49) rfl ?_
   refine XS.iconst X13.here hx rfl (q d13_51) ?_
   refine XS.imul X13.here hx rfl (q d13_52) rfl ?_
   refine XS.istore X13.here hx rfl (q d13_53) rfl (l' := #[vR rp, vI 3, vI 4, vI 4, vJ (1104 : Int64), .second, vJ (65536 : Int64), .second, vI 8]) rfl ?_
   refine XS.goto X13.here hx rfl (pc0 := 55) (pc' := 24) rfl (q d13_55) (by decide) (by decide) ?_
   refine XS.iload X13.here hx rfl (q d13_24) rfl ?_
   refine XS.iloadN X13.here hx rfl (q d13_26) rfl ?_
   refine XS.icmpYes X13.here hx rfl (pc0 := 27) (pc' := 58) rfl (q d13_27) rfl (tlt (by decide : ((4 : Int32) < (8 : Int32)))).2.2.1 (by decide) (by decide) ?_
   refine XS.lload X13.here hx rfl (q d13_58) rfl ?_
   exact retOut X13 hx Bd.returns rfl (Or.inr (Or.inl ⟨rfl, rfl, _, rfl⟩)) (q d13_60) hr
  ·show Q13k3 Z rp fp h0 n0 _ T13.heap _
   rw [e13]
   exact ⟨(1104 : Int64), rfl, N13, K2⟩
theorem ef_10k3 (m : MethodId) (ra : Addr) : entryFrame m #[(.ref ra)] 2 = mkF m 0 #[vR ra, .unset] [] := by first | (simp [entryFrame, mkF, argsToLocals, Value.category]; done) | rfl
def Q10k3 (Z : State) (ra : Addr) (rp : Addr) (rl : Addr) (fp : Nat → Int32) (h0 : Heap) (n0 : Nat) (v : Option Value) (h : Heap) (L : List Loc) : Prop := v = some (.int 4) ∧ Fr n0 L ∧ Keep h0 h [ra] ∧ Fld Z h ra cS1 "pattern" "[B" (.ref rp) ∧ Fld Z h ra cS1 "width" "I" (.int 4) ∧ Fld Z h ra cS1 "links" "[I" (.ref rl) ∧ Fld Z h ra cS1 "automaton" cS2 .null
set_option maxRecDepth 65536 in
set_option maxHeartbeats 40000000 in
theorem rm10k3 (l : Launch) (Z : State) (a0 : Array Value) (hw : ∀ d ∈ tables_1, d.before a0 Z = true) (ws : List Jvm.Cond) (ra : Addr) (rp : Addr) (rl : Addr) (fp : Nat → Int32) (h0 : Heap) (n0 : Nat) (Z0 : n0 ≤ h0.size) (E_ra : Exa Z h0 ra cS1) (F_pattern_ra : Fld Z h0 ra cS1 "pattern" "[B" (.ref rp)) (F_width_ra : Fld Z h0 ra cS1 "width" "I" (.int (-1 : Int32))) (F_links_ra : Fld Z h0 ra cS1 "links" "[I" (.ref rl)) (F_automaton_ra : Fld Z h0 ra cS1 "automaton" cS2 .null) (A_rp : AI Z h0 rp .byte 3 fp) (ne_rp_ra : rp ≠ ra) (g_ra : n0 ≤ ra) :
  MetFree l mN6 (head1 (Jvm.Cond.code mN6 prog_28_method_2_code 2 (some .int) :: ws) ({ frames := 3, cells := 1, slots := 4, locals := 44 } : Room)) (fun a U => a = #[(.ref ra)] ∧ Z.Warmed39 U.vm ∧ U.heap = h0) (fun _ _ _ _ _ => True) (fun _ U o U' => ∃ v L, o = .returned v ∧ Q10k3 Z ra rp rl fp h0 n0 v U'.heap L ∧ FrameEnd U o U' L ({ frames := 3, cells := 1, slots := 4, locals := 44 } : Room).cells ({ frames := 3, cells := 1, slots := 4, locals := 44 } : Room).slots) := by
 refine MetFree.of_bodySF (plainFor_of_name pn_skipstitch_search_LazyAutomaton) hisR ?_
 intro p e s m args below meth c s₁ Bd hml0 hP hK
 obtain ⟨rfl, hZ, hh⟩ := hP
 have hx := Bd.exec
 have hby := Bd.bytes
 have q {i : Nat} {r : _} (h : decode _ i = r) := hb hby h
 have hml : c.maxLocals = 2 := hml0
 have hown : s.vm.findClass cS1 = some m.cls := findClass_of_methodNamed Bd.named
 have hnm := (name_of_methodNamed Bd.named Bd.method).1
 have X0 : Stand p l e ({ frames := 3, cells := 1, slots := 4, locals := 44 } : Room) s m #[(.ref ra)] below meth c s₁ [] 0 0 := Stand.of_body Bd
 have e0 : s₁.heap = h0 := by rw [← hh, Bd.state]; rfl
 have N0 := Fr.nil n0
 have K0 : Keep h0 h0 [ra] := Keep.refl h0 _
 have pre0 : oP p e below (s₁.setTop (mkF m 0 #[vR ra, vU] [])) (s₁.setTop (entryFrame m #[(.ref ra)] 2)) := fun t k => castTop (ef_10k3 m ra) k
 obtain ⟨T1, X1, e1, st1⟩ := getF X0 hx hZ hown (host := "") (Or.inl (ow hw 12 rfl)) Via.refl e0 F_width_ra (g := (mkF m 1 #[vR ra, vU] [(.ref ra)])) rfl rfl (q d10_1)
 obtain ⟨T2, X2, e2, st2⟩ := getF X1 hx hZ hown (host := "") (Or.inl (ow hw 14 rfl)) Via.refl e1 F_pattern_ra (g := (mkF m 10 #[vR ra, vI (-1 : Int32)] [(.ref ra)])) rfl rfl (q d10_10)
 obtain ⟨_, _, ⟨T3, L3, k3, n3⟩, -, X3, ⟨Lc3, hQ3, l3, y3, z3⟩, st3⟩ := Jvm.LawKit.callS X2 hx (y := mN4) hown (om hZ hw 56 rfl) (om hZ hw 57 rfl) (om hZ hw 32 rfl) (om hZ hw 58 rfl) (by decide) (backOf (W := 0) (rm11k3 l Z a0 hw [] rp fp h0 n0 Z0 A_rp) hZ (ow hw 58 rfl) (ow hw 32 rfl) (by decide) (by decide)) (g := (mkF m 13 #[vR ra, vI (-1 : Int32)] [(.ref rp)])) rfl (by rw [hml]; rfl) (argsL := [(.ref rp)]) (rest := []) (lenOf pd_1 rfl) rfl (oz rfl) (q d10_13) (fun _ _ => ⟨rfl, e2, (by decide : 0 + 1 ≤ _), (by decide : 0 + 4 ≤ _)⟩)
 dsimp only [Pt.U, Pt.locs, Pt.cells, Pt.slots] at X3 l3 y3 z3 st3 hQ3
 subst y3 z3
 obtain ⟨rfl, N3q, K3c⟩ := hQ3
 have N3 := oF l3 N0 N3q
 have f4 := E_ra.keep K3c
 have f5 := F_pattern_ra.keep K3c nin0
 have f6 := F_width_ra.keep K3c nin0
 have f7 := F_links_ra.keep K3c nin0
 have f8 := F_automaton_ra.keep K3c nin0
 have K3 := K0.trans K3c all0
 obtain ⟨T10, h10, X10, e10, W10, st10⟩ := putF X3 hx hZ hown (host := "") (Or.inl (ow hw 12 rfl)) Via.refl rfl f6 f4 (Or.inl (ow hw 13 rfl)) (ow hw 4 rfl) (ty := .int) (by decide) rfl rfl (g := (mkF m 19 #[vR ra, vI 4] [(.int 4), (.ref ra)])) rfl rfl (q d10_19)
 have N10 := Fr.snoc X10 N3 g_ra
 have K10 := K3.wr W10 (Or.inl (List.mem_of_getElem? (i := 0) rfl))
 have f11 : Fld Z h10 ra cS1 "width" "I" (.int 4) := f6.same W10
 have f13 := f5.other W10 (Or.inr (slot_ne (Or.inr (ow hw 15 rfl)) (Or.inl (ow hw 13 rfl)) (by decide) (t := (.array .byte)) (t' := .int) (by decide) (by decide)))
 have f14 := f7.other W10 (Or.inr (slot_ne (Or.inr (ow hw 17 rfl)) (Or.inl (ow hw 13 rfl)) (by decide) (t := (.array .int)) (t' := .int) (by decide) (by decide)))
 have f15 := f8.other W10 (Or.inr (slot_ne (Or.inl (ow hw 24 rfl)) (Or.inl (ow hw 13 rfl)) (by decide) (t := (.object cS0)) (t' := .int) (by decide) (by decide)))
 obtain ⟨fs, hr, hrun, hended, hW, hsame⟩ := X10.leave (v := some (.int 4)) (oR Bd.returns) (hlocks := Bd.notSynchronized)
 refine ⟨_, _, pre0 _ ?_, hrun, hended, _, _, rfl, ?_, ⟨_, rfl⟩, hW, hsame.mono (by decide) (by decide)⟩
 ·show Steps p.tables e below (s₁.setTop (mkF m 0 #[vR ra, vU] [])) _
  refine XS.aloadN X0.here hx rfl (q d10_0) rfl rfl ?_
  refine st1 _ ?_
  refine XS.istoreN X1.here hx rfl (q d10_4) rfl (l' := #[vR ra, vI (-1 : Int32)]) rfl ?_
  refine XS.iloadN X1.here hx rfl (q d10_5) rfl ?_
  refine XS.ifNo X1.here hx rfl (q d10_6) rfl ((if0 _ _).trans (tlt (by decide : ((-1 : Int32) < (0 : Int32)))).2.1) ?_
  refine XS.aloadN X1.here hx rfl (q d10_9) rfl rfl ?_
  refine st2 _ ?_
  refine st3 _ ?_
  refine XS.istoreN X3.here hx rfl (q d10_16) rfl (l' := #[vR ra, vI 4]) rfl ?_
  refine XS.aloadN X3.here hx rfl (q d10_17) rfl rfl ?_
  refine XS.iloadN X3.here hx rfl (q d10_18) rfl ?_
  refine st10 _ ?_
  refine XS.iloadN X10.here hx rfl (q d10_22) rfl ?_
  exact retI X10 hx Bd.returns (q d10_23) hr
 ·show Q10k3 Z ra rp rl fp h0 n0 _ T10.heap _
  rw [e10]
  exact ⟨rfl, N10, K10, f13, f11, f14, f15⟩
theorem ef_12k3 (m : MethodId) (ra : Addr) : entryFrame m #[(.ref ra)] 1 = mkF m 0 #[vR ra] [] := by first | (simp [entryFrame, mkF, argsToLocals, Value.category]; done) | rfl
def Q12k3 (Z : State) (ra : Addr) (rp : Addr) (fp : Nat → Int32) (h0 : Heap) (n0 : Nat) (v : Option Value) (h : Heap) (L : List Loc) : Prop := ∃ xr : Int64, v = some (.long xr) ∧ Fr n0 L ∧ Keep h0 h []
set_option maxRecDepth 65536 in
set_option maxHeartbeats 40000000 in
theorem rm12k3 (l : Launch) (Z : State) (a0 : Array Value) (hw : ∀ d ∈ tables_1, d.before a0 Z = true) (ws : List Jvm.Cond) (ra : Addr) (rp : Addr) (fp : Nat → Int32) (h0 : Heap) (n0 : Nat) (Z0 : n0 ≤ h0.size) (E_ra : Exa Z h0 ra cS1) (F_pattern_ra : Fld Z h0 ra cS1 "pattern" "[B" (.ref rp)) (A_rp : AI Z h0 rp .byte 3 fp) :
  MetFree l mN7 (head1 (Jvm.Cond.code mN7 prog_28_method_3_code 1 (some .long) :: ws) ({ frames := 3, cells := 1, slots := 4, locals := 51 } : Room)) (fun a U => a = #[(.ref ra)] ∧ Z.Warmed39 U.vm ∧ U.heap = h0) (fun _ _ _ _ _ => True) (fun _ U o U' => ∃ v L, o = .returned v ∧ Q12k3 Z ra rp fp h0 n0 v U'.heap L ∧ FrameEnd U o U' L ({ frames := 3, cells := 1, slots := 4, locals := 51 } : Room).cells ({ frames := 3, cells := 1, slots := 4, locals := 51 } : Room).slots) := by
 refine MetFree.of_bodySF (plainFor_of_name pn_skipstitch_search_LazyAutomaton) hisR ?_
 intro p e s m args below meth c s₁ Bd hml0 hP hK
 obtain ⟨rfl, hZ, hh⟩ := hP
 have hx := Bd.exec
 have hby := Bd.bytes
 have q {i : Nat} {r : _} (h : decode _ i = r) := hb hby h
 have hml : c.maxLocals = 1 := hml0
 have hown : s.vm.findClass cS1 = some m.cls := findClass_of_methodNamed Bd.named
 have hnm := (name_of_methodNamed Bd.named Bd.method).1
 have X0 : Stand p l e ({ frames := 3, cells := 1, slots := 4, locals := 51 } : Room) s m #[(.ref ra)] below meth c s₁ [] 0 0 := Stand.of_body Bd
 have e0 : s₁.heap = h0 := by rw [← hh, Bd.state]; rfl
 have N0 := Fr.nil n0
 have K0 : Keep h0 h0 [] := Keep.refl h0 _
 have pre0 : oP p e below (s₁.setTop (mkF m 0 #[vR ra] [])) (s₁.setTop (entryFrame m #[(.ref ra)] 1)) := fun t k => castTop (ef_12k3 m ra) k
 obtain ⟨T1, X1, e1, st1⟩ := getF X0 hx hZ hown (host := "") (Or.inl (ow hw 14 rfl)) Via.refl e0 F_pattern_ra (g := (mkF m 1 #[vR ra] [(.ref ra)])) rfl rfl (q d12_1)
 obtain ⟨_, _, ⟨T2, L2, k2, n2⟩, -, X2, ⟨Lc2, hQ2, l2, y2, z2⟩, st2⟩ := Jvm.LawKit.callS X1 hx (y := mN5) hown (om hZ hw 64 rfl) (om hZ hw 65 rfl) (om hZ hw 32 rfl) (om hZ hw 66 rfl) (by decide) (backOf (W := 0) (rm13k3 l Z a0 hw [] rp fp h0 n0 Z0 A_rp) hZ (ow hw 66 rfl) (ow hw 32 rfl) (by decide) (by decide)) (g := (mkF m 4 #[vR ra] [(.ref rp)])) rfl (by rw [hml]; rfl) (argsL := [(.ref rp)]) (rest := []) (lenOf pd_3 rfl) rfl (oz rfl) (q d12_4) (fun _ _ => ⟨rfl, e1, (by decide : 0 + 1 ≤ _), (by decide : 0 + 4 ≤ _)⟩)
 dsimp only [Pt.U, Pt.locs, Pt.cells, Pt.slots] at X2 l2 y2 z2 st2 hQ2
 subst y2 z2
 obtain ⟨gx3, rfl, N2q, K2c⟩ := hQ2
 have N2 := oF l2 N0 N2q
 have K2 := K0.trans K2c all0
 obtain ⟨fs, hr, hrun, hended, hW, hsame⟩ := X2.leave (v := some (.long gx3)) (oR Bd.returns) (hlocks := Bd.notSynchronized)
 refine ⟨_, _, pre0 _ ?_, hrun, hended, _, _, rfl, ?_, ⟨_, rfl⟩, hW, hsame.mono (by decide) (by decide)⟩
 ·show Steps p.tables e below (s₁.setTop (mkF m 0 #[vR ra] [])) _
  refine XS.aloadN X0.here hx rfl (q d12_0) rfl rfl ?_
  refine st1 _ ?_
  refine st2 _ ?_
  exact retOut X2 hx Bd.returns rfl (Or.inr (Or.inl ⟨rfl, rfl, _, rfl⟩)) (q d12_7) hr
 ·show Q12k3 Z ra rp fp h0 n0 _ T2.heap _
  exact ⟨gx3, rfl, N2, K2⟩
theorem ef_1 (m : MethodId) (ra : Addr) (rp : Addr) (rl : Addr) : entryFrame m #[(.ref ra), (.ref rp), (.ref rl)] 3 = mkF m 0 #[vR ra, vR rp, vR rl] [] := by first | (simp [entryFrame, mkF, argsToLocals, Value.category]; done) | rfl
abbrev D_8 (k : Nat) := decode prog_28_method_1_code k
theorem d1_0 : D_8 0 = .ok (.aload_n 0, 1) := by decide +kernel
theorem d1_1 : D_8 1 = .ok (.invokespecial 1, 3) := by decide +kernel
theorem d1_4 : D_8 4 = .ok (.aload_n 0, 1) := by decide +kernel
theorem d1_5 : D_8 5 = .ok (.iconst (-1), 1) := by decide +kernel
theorem d1_6 : D_8 6 = .ok (.putfield 7, 3) := by decide +kernel
theorem d1_9 : D_8 9 = .ok (.aload_n 0, 1) := by decide +kernel
theorem d1_10 : D_8 10 = .ok (.aload_n 1, 1) := by decide +kernel
theorem d1_11 : D_8 11 = .ok (.putfield 13, 3) := by decide +kernel
theorem d1_14 : D_8 14 = .ok (.aload_n 0, 1) := by decide +kernel
theorem d1_15 : D_8 15 = .ok (.aload_n 2, 1) := by decide +kernel
theorem d1_16 : D_8 16 = .ok (.putfield 17, 3) := by decide +kernel
theorem d1_19 : D_8 19 = .ok (.return_, 1) := by decide +kernel
def Q1 (Z : State) (ra : Addr) (rp : Addr) (rl : Addr) (h0 : Heap) (n0 : Nat) (v : Option Value) (h : Heap) (L : List Loc) : Prop := v = none ∧ Fr n0 L ∧ Keep h0 h [ra] ∧ Fld Z h ra cS1 "automaton" cS2 .null ∧ Fld Z h ra cS1 "width" "I" (.int (-1 : Int32)) ∧ Fld Z h ra cS1 "pattern" "[B" (.ref rp) ∧ Fld Z h ra cS1 "links" "[I" (.ref rl)
set_option maxRecDepth 65536 in
set_option maxHeartbeats 40000000 in
theorem rm1 (l : Launch) (Z : State) (a0 : Array Value) (hw : ∀ d ∈ tables_1, d.before a0 Z = true) (ws : List Jvm.Cond) (ra : Addr) (rp : Addr) (rl : Addr) (h0 : Heap) (n0 : Nat) (Z0 : n0 ≤ h0.size) (E_ra : Exa Z h0 ra cS1) (F_automaton_ra : Fld Z h0 ra cS1 "automaton" cS2 .null) (F_width_ra : Fld Z h0 ra cS1 "width" "I" (.int 0)) (F_pattern_ra : Fld Z h0 ra cS1 "pattern" "[B" .null) (F_links_ra : Fld Z h0 ra cS1 "links" "[I" .null) (g_ra : n0 ≤ ra) :
  MetFree l mN8 (head1 (Jvm.Cond.code mN8 prog_28_method_1_code 3 none :: ws) ({ frames := 1, cells := 0, slots := 0, locals := 12 } : Room)) (fun a U => a = #[(.ref ra), (.ref rp), (.ref rl)] ∧ Z.Warmed39 U.vm ∧ U.heap = h0) (fun _ _ _ _ _ => True) (fun _ U o U' => ∃ v L, o = .returned v ∧ Q1 Z ra rp rl h0 n0 v U'.heap L ∧ FrameEnd U o U' L ({ frames := 1, cells := 0, slots := 0, locals := 12 } : Room).cells ({ frames := 1, cells := 0, slots := 0, locals := 12 } : Room).slots) := by
 refine MetFree.of_bodySF (plainFor_of_name pn_skipstitch_search_LazyAutomaton) hisR ?_
 intro p e s m args below meth c s₁ Bd hml0 hP hK
 obtain ⟨rfl, hZ, hh⟩ := hP
 have hx := Bd.exec
 have hby := Bd.bytes
 have q {i : Nat} {r : _} (h : decode _ i = r) := hb hby h
 have hml : c.maxLocals = 3 := hml0
 have hown : s.vm.findClass cS1 = some m.cls := findClass_of_methodNamed Bd.named
 have hnm := (name_of_methodNamed Bd.named Bd.method).1
 have X0 : Stand p l e ({ frames := 1, cells := 0, slots := 0, locals := 12 } : Room) s m #[(.ref ra), (.ref rp), (.ref rl)] below meth c s₁ [] 0 0 := Stand.of_body Bd
 have e0 : s₁.heap = h0 := by rw [← hh, Bd.state]; rfl
 have N0 := Fr.nil n0
 have K0 : Keep h0 h0 [ra] := Keep.refl h0 _
 have pre0 : oP p e below (s₁.setTop (mkF m 0 #[vR ra, vR rp, vR rl] [])) (s₁.setTop (entryFrame m #[(.ref ra), (.ref rp), (.ref rl)] 3)) := fun t k => castTop (ef_1 m ra rp rl) k
 obtain ⟨T1, X1, e1, st1⟩ := initO X0 hx hZ hown (ow hw 9 rfl) (ow hw 10 rfl) (ow hw 11 rfl) e0 (g := (mkF m 1 #[vR ra, vR rp, vR rl] [(.ref ra)])) rfl (by rw [hml]; rfl) rfl (q d1_1) (by decide) (W := 0) (oz rfl) (by decide)
 obtain ⟨T2, h2, X2, e2, W2, st2⟩ := putF X1 hx hZ hown (host := "") (Or.inl (ow hw 12 rfl)) Via.refl e1 F_width_ra E_ra (Or.inl (ow hw 13 rfl)) (ow hw 4 rfl) (ty := .int) (by decide) rfl rfl (g := (mkF m 6 #[vR ra, vR rp, vR rl] [(.int (-1 : Int32)), (.ref ra)])) rfl rfl (q d1_6)
 have N2 := Fr.snoc X2 N0 g_ra
 have K2 := K0.wr W2 (Or.inl (List.mem_of_getElem? (i := 0) rfl))
 have f3 : Fld Z h2 ra cS1 "width" "I" (.int (-1 : Int32)) := F_width_ra.same W2
 have f4 := E_ra.wr W2
 have f5 := F_automaton_ra.other W2 (Or.inr (slot_ne (Or.inl (ow hw 24 rfl)) (Or.inl (ow hw 13 rfl)) (by decide) (t := (.object cS0)) (t' := .int) (by decide) (by decide)))
 have f6 := F_pattern_ra.other W2 (Or.inr (slot_ne (Or.inr (ow hw 15 rfl)) (Or.inl (ow hw 13 rfl)) (by decide) (t := (.array .byte)) (t' := .int) (by decide) (by decide)))
 have f7 := F_links_ra.other W2 (Or.inr (slot_ne (Or.inr (ow hw 17 rfl)) (Or.inl (ow hw 13 rfl)) (by decide) (t := (.array .int)) (t' := .int) (by decide) (by decide)))
 obtain ⟨T8, h8, X8, e8, W8, st8⟩ := putF X2 hx hZ hown (host := "") (Or.inl (ow hw 14 rfl)) Via.refl e2 f6 f4 (Or.inr ⟨(ow hw 15 rfl), rfl, hnm⟩) (ow hw 4 rfl) (ty := (.array .byte)) (by decide) rfl rfl (g := (mkF m 11 #[vR ra, vR rp, vR rl] [(.ref rp), (.ref ra)])) rfl rfl (q d1_11)
 have N8 := Fr.snoc X8 N2 g_ra
 have K8 := K2.wr W8 (Or.inl (List.mem_of_getElem? (i := 0) rfl))
 have f9 : Fld Z h8 ra cS1 "pattern" "[B" (.ref rp) := f6.same W8
 have f10 := f4.wr W8
 have f11 := f5.other W8 (Or.inr (slot_ne (Or.inl (ow hw 24 rfl)) (Or.inr (ow hw 15 rfl)) (by decide) (t := (.object cS0)) (t' := (.array .byte)) (by decide) (by decide)))
 have f12 := f3.other W8 (Or.inr (slot_ne (Or.inl (ow hw 13 rfl)) (Or.inr (ow hw 15 rfl)) (by decide) (t := .int) (t' := (.array .byte)) (by decide) (by decide)))
 have f13 := f7.other W8 (Or.inr (slot_ne (Or.inr (ow hw 17 rfl)) (Or.inr (ow hw 15 rfl)) (by decide) (t := (.array .int)) (t' := (.array .byte)) (by decide) (by decide)))
 obtain ⟨T14, h14, X14, e14, W14, st14⟩ := putF X8 hx hZ hown (host := "") (Or.inl (ow hw 16 rfl)) Via.refl e8 f13 f10 (Or.inr ⟨(ow hw 17 rfl), rfl, hnm⟩) (ow hw 4 rfl) (ty := (.array .int)) (by decide) rfl rfl (g := (mkF m 16 #[vR ra, vR rp, vR rl] [(.ref rl), (.ref ra)])) rfl rfl (q d1_16)
 have N14 := Fr.snoc X14 N8 g_ra
 have K14 := K8.wr W14 (Or.inl (List.mem_of_getElem? (i := 0) rfl))
 have f15 : Fld Z h14 ra cS1 "links" "[I" (.ref rl) := f13.same W14
 have f17 := f11.other W14 (Or.inr (slot_ne (Or.inl (ow hw 24 rfl)) (Or.inr (ow hw 17 rfl)) (by decide) (t := (.object cS0)) (t' := (.array .int)) (by decide) (by decide)))
 have f18 := f12.other W14 (Or.inr (slot_ne (Or.inl (ow hw 13 rfl)) (Or.inr (ow hw 17 rfl)) (by decide) (t := .int) (t' := (.array .int)) (by decide) (by decide)))
 have f19 := f9.other W14 (Or.inr (slot_ne (Or.inr (ow hw 15 rfl)) (Or.inr (ow hw 17 rfl)) (by decide) (t := (.array .byte)) (t' := (.array .int)) (by decide) (by decide)))
 obtain ⟨fs, hr, hrun, hended, hW, hsame⟩ := X14.leave (v := none) (fun _ => rfl) (hlocks := Bd.notSynchronized)
 refine ⟨_, _, pre0 _ ?_, hrun, hended, _, _, rfl, ?_, ⟨_, rfl⟩, hW, hsame.mono (by decide) (by decide)⟩
 ·show Steps p.tables e below (s₁.setTop (mkF m 0 #[vR ra, vR rp, vR rl] [])) _
  refine XS.aloadN X0.here hx rfl (q d1_0) rfl rfl ?_
  refine st1 _ ?_
  refine XS.aloadN X1.here hx rfl (q d1_4) rfl rfl ?_
  refine XS.iconst X1.here hx rfl (q d1_5) ?_
  refine st2 _ ?_
  refine XS.aloadN X2.here hx rfl (q d1_9) rfl rfl ?_
  refine XS.aloadN X2.here hx rfl (q d1_10) rfl rfl ?_
  refine st8 _ ?_
  refine XS.aloadN X8.here hx rfl (q d1_14) rfl rfl ?_
  refine XS.aloadN X8.here hx rfl (q d1_15) rfl rfl ?_
  refine st14 _ ?_
  exact X14.returnOut hx Bd.returns (q d1_19) hr
 ·show Q1 Z ra rp rl h0 n0 _ T14.heap _
  rw [e14]
  exact ⟨rfl, N14, K14, f17, f18, f19, f15⟩
theorem ef_3z (m : MethodId) (ra : Addr) : entryFrame m #[(.ref ra)] 1 = mkF m 0 #[vR ra] [] := by first | (simp [entryFrame, mkF, argsToLocals, Value.category]; done) | rfl
abbrev D_9 (k : Nat) := decode prog_28_method_4_code k
theorem d3_0 : D_9 0 = .ok (.aload_n 0, 1) := by decide +kernel
theorem d3_1 : D_9 1 = .ok (.getfield 30, 3) := by decide +kernel
theorem d3_4 : D_9 4 = .ok (.ifnull 7, 3) := by decide +kernel
theorem d3_11 : D_9 11 = .ok (.iconst 0, 1) := by decide +kernel
theorem d3_12 : D_9 12 = .ok (.ireturn, 1) := by decide +kernel
def Q3z (Z : State) (ra : Addr) (h0 : Heap) (n0 : Nat) (v : Option Value) (h : Heap) (L : List Loc) : Prop := v = some (.int 0) ∧ Fr n0 L ∧ h = h0
set_option maxRecDepth 65536 in
set_option maxHeartbeats 40000000 in
theorem rm3z (l : Launch) (Z : State) (a0 : Array Value) (hw : ∀ d ∈ tables_1, d.before a0 Z = true) (ws : List Jvm.Cond) (ra : Addr) (h0 : Heap) (n0 : Nat) (Z0 : n0 ≤ h0.size) (F_automaton_ra : Fld Z h0 ra cS1 "automaton" cS2 .null) :
  MetFree l mN9 (head1 (Jvm.Cond.code mN9 prog_28_method_4_code 1 (some .boolean) :: ws) ({ frames := 0, cells := 0, slots := 0, locals := 0 } : Room)) (fun a U => a = #[(.ref ra)] ∧ Z.Warmed39 U.vm ∧ U.heap = h0) (fun _ _ _ _ _ => True) (fun _ U o U' => ∃ v L, o = .returned v ∧ Q3z Z ra h0 n0 v U'.heap L ∧ FrameEnd U o U' L ({ frames := 0, cells := 0, slots := 0, locals := 0 } : Room).cells ({ frames := 0, cells := 0, slots := 0, locals := 0 } : Room).slots) := by
 refine MetFree.of_bodySF (plainFor_of_name pn_skipstitch_search_LazyAutomaton) hisR ?_
 intro p e s m args below meth c s₁ Bd hml0 hP hK
 obtain ⟨rfl, hZ, hh⟩ := hP
 have hx := Bd.exec
 have hby := Bd.bytes
 have q {i : Nat} {r : _} (h : decode _ i = r) := hb hby h
 have hml : c.maxLocals = 1 := hml0
 have hown : s.vm.findClass cS1 = some m.cls := findClass_of_methodNamed Bd.named
 have hnm := (name_of_methodNamed Bd.named Bd.method).1
 have X0 : Stand p l e ({ frames := 0, cells := 0, slots := 0, locals := 0 } : Room) s m #[(.ref ra)] below meth c s₁ [] 0 0 := Stand.of_body Bd
 have e0 : s₁.heap = h0 := by rw [← hh, Bd.state]; rfl
 have N0 := Fr.nil n0
 have pre0 : oP p e below (s₁.setTop (mkF m 0 #[vR ra] [])) (s₁.setTop (entryFrame m #[(.ref ra)] 1)) := fun t k => castTop (ef_3z m ra) k
 obtain ⟨T1, X1, e1, st1⟩ := getF X0 hx hZ hown (host := "") (Or.inl (ow hw 23 rfl)) Via.refl e0 F_automaton_ra (g := (mkF m 1 #[vR ra] [(.ref ra)])) rfl rfl (q d3_1)
 obtain ⟨fs, hr, hrun, hended, hW, hsame⟩ := X1.leave (v := some (.int 0)) (oR Bd.returns) (hlocks := Bd.notSynchronized)
 refine ⟨_, _, pre0 _ ?_, hrun, hended, _, _, rfl, ?_, ⟨_, rfl⟩, hW, hsame.mono (by decide) (by decide)⟩
 ·show Steps p.tables e below (s₁.setTop (mkF m 0 #[vR ra] [])) _
  refine XS.aloadN X0.here hx rfl (q d3_0) rfl rfl ?_
  refine st1 _ ?_
  refine XS.ifnullYes X1.here hx rfl (pc0 := 4) (pc' := 11) rfl (q d3_4) rfl (by decide) (by decide) ?_
  refine XS.iconst X1.here hx rfl (q d3_11) ?_
  exact retN X1 hx (t := .boolean) Bd.returns (by simp) (q d3_12) hr
 ·show Q3z Z ra h0 n0 _ T1.heap _
  rw [e1]
  exact ⟨rfl, N0, rfl⟩
theorem ef_3r (m : MethodId) (ra : Addr) : entryFrame m #[(.ref ra)] 1 = mkF m 0 #[vR ra] [] := by first | (simp [entryFrame, mkF, argsToLocals, Value.category]; done) | rfl
theorem d3_7 : D_9 7 = .ok (.iconst 1, 1) := by decide +kernel
theorem d3_8 : D_9 8 = .ok (.goto 4, 3) := by decide +kernel
def Q3r (Z : State) (ra : Addr) (rq : Addr) (h0 : Heap) (n0 : Nat) (v : Option Value) (h : Heap) (L : List Loc) : Prop := v = some (.int 1) ∧ Fr n0 L ∧ h = h0
set_option maxRecDepth 65536 in
set_option maxHeartbeats 40000000 in
theorem rm3r (l : Launch) (Z : State) (a0 : Array Value) (hw : ∀ d ∈ tables_1, d.before a0 Z = true) (ws : List Jvm.Cond) (ra : Addr) (rq : Addr) (h0 : Heap) (n0 : Nat) (Z0 : n0 ≤ h0.size) (F_automaton_ra : Fld Z h0 ra cS1 "automaton" cS2 (.ref rq)) :
  MetFree l mN9 (head1 (Jvm.Cond.code mN9 prog_28_method_4_code 1 (some .boolean) :: ws) ({ frames := 0, cells := 0, slots := 0, locals := 0 } : Room)) (fun a U => a = #[(.ref ra)] ∧ Z.Warmed39 U.vm ∧ U.heap = h0) (fun _ _ _ _ _ => True) (fun _ U o U' => ∃ v L, o = .returned v ∧ Q3r Z ra rq h0 n0 v U'.heap L ∧ FrameEnd U o U' L ({ frames := 0, cells := 0, slots := 0, locals := 0 } : Room).cells ({ frames := 0, cells := 0, slots := 0, locals := 0 } : Room).slots) := by
 refine MetFree.of_bodySF (plainFor_of_name pn_skipstitch_search_LazyAutomaton) hisR ?_
 intro p e s m args below meth c s₁ Bd hml0 hP hK
 obtain ⟨rfl, hZ, hh⟩ := hP
 have hx := Bd.exec
 have hby := Bd.bytes
 have q {i : Nat} {r : _} (h : decode _ i = r) := hb hby h
 have hml : c.maxLocals = 1 := hml0
 have hown : s.vm.findClass cS1 = some m.cls := findClass_of_methodNamed Bd.named
 have hnm := (name_of_methodNamed Bd.named Bd.method).1
 have X0 : Stand p l e ({ frames := 0, cells := 0, slots := 0, locals := 0 } : Room) s m #[(.ref ra)] below meth c s₁ [] 0 0 := Stand.of_body Bd
 have e0 : s₁.heap = h0 := by rw [← hh, Bd.state]; rfl
 have N0 := Fr.nil n0
 have pre0 : oP p e below (s₁.setTop (mkF m 0 #[vR ra] [])) (s₁.setTop (entryFrame m #[(.ref ra)] 1)) := fun t k => castTop (ef_3r m ra) k
 obtain ⟨T1, X1, e1, st1⟩ := getF X0 hx hZ hown (host := "") (Or.inl (ow hw 23 rfl)) Via.refl e0 F_automaton_ra (g := (mkF m 1 #[vR ra] [(.ref ra)])) rfl rfl (q d3_1)
 obtain ⟨fs, hr, hrun, hended, hW, hsame⟩ := X1.leave (v := some (.int 1)) (oR Bd.returns) (hlocks := Bd.notSynchronized)
 refine ⟨_, _, pre0 _ ?_, hrun, hended, _, _, rfl, ?_, ⟨_, rfl⟩, hW, hsame.mono (by decide) (by decide)⟩
 ·show Steps p.tables e below (s₁.setTop (mkF m 0 #[vR ra] [])) _
  refine XS.aloadN X0.here hx rfl (q d3_0) rfl rfl ?_
  refine st1 _ ?_
  refine XS.ifnullNo X1.here hx rfl (q d3_4) rfl ?_
  refine XS.iconst X1.here hx rfl (q d3_7) ?_
  refine XS.goto X1.here hx rfl (pc0 := 8) (pc' := 12) rfl (q d3_8) (by decide) (by decide) ?_
  exact retN X1 hx (t := .boolean) Bd.returns (by simp) (q d3_12) hr
 ·show Q3r Z ra rq h0 n0 _ T1.heap _
  rw [e1]
  exact ⟨rfl, N0, rfl⟩
theorem ef_15 (m : MethodId) (ra : Addr) : entryFrame m #[(.ref ra)] 1 = mkF m 0 #[vR ra] [] := by first | (simp [entryFrame, mkF, argsToLocals, Value.category]; done) | rfl
abbrev D_10 (k : Nat) := decode jdk_30_method_1_code k
theorem d15_0 : D_10 0 = .ok (.aload_n 0, 1) := by decide +kernel
theorem d15_1 : D_10 1 = .ok (.invokespecial 1, 3) := by decide +kernel
theorem d15_4 : D_10 4 = .ok (.return_, 1) := by decide +kernel
theorem pn_java_lang_Record : plainName "java/lang/Record" = true := by first | (simp [plainName, overriddenIn]; done) | decide +kernel
def Q15 (Z : State) (ra : Addr) (h0 : Heap) (n0 : Nat) (v : Option Value) (h : Heap) (L : List Loc) : Prop := v = none ∧ Fr n0 L ∧ h = h0
set_option maxRecDepth 65536 in
set_option maxHeartbeats 40000000 in
theorem rm15 (l : Launch) (Z : State) (a0 : Array Value) (hw : ∀ d ∈ tables_1, d.before a0 Z = true) (ws : List Jvm.Cond) (ra : Addr) (h0 : Heap) (n0 : Nat) (Z0 : n0 ≤ h0.size) :
  MetFree l mN10 (head1 (Jvm.Cond.code mN10 jdk_30_method_1_code 1 none :: ws) ({ frames := 1, cells := 0, slots := 0, locals := 12 } : Room)) (fun a U => a = #[(.ref ra)] ∧ Z.Warmed39 U.vm ∧ U.heap = h0) (fun _ _ _ _ _ => True) (fun _ U o U' => ∃ v L, o = .returned v ∧ Q15 Z ra h0 n0 v U'.heap L ∧ FrameEnd U o U' L ({ frames := 1, cells := 0, slots := 0, locals := 12 } : Room).cells ({ frames := 1, cells := 0, slots := 0, locals := 12 } : Room).slots) := by
 refine MetFree.of_bodySF (plainFor_of_name pn_java_lang_Record) hisR ?_
 intro p e s m args below meth c s₁ Bd hml0 hP hK
 obtain ⟨rfl, hZ, hh⟩ := hP
 have hx := Bd.exec
 have hby := Bd.bytes
 have q {i : Nat} {r : _} (h : decode _ i = r) := hb hby h
 have hml : c.maxLocals = 1 := hml0
 have hown : s.vm.findClass "java/lang/Record" = some m.cls := findClass_of_methodNamed Bd.named
 have hnm := (name_of_methodNamed Bd.named Bd.method).1
 have X0 : Stand p l e ({ frames := 1, cells := 0, slots := 0, locals := 12 } : Room) s m #[(.ref ra)] below meth c s₁ [] 0 0 := Stand.of_body Bd
 have e0 : s₁.heap = h0 := by rw [← hh, Bd.state]; rfl
 have N0 := Fr.nil n0
 have pre0 : oP p e below (s₁.setTop (mkF m 0 #[vR ra] [])) (s₁.setTop (entryFrame m #[(.ref ra)] 1)) := fun t k => castTop (ef_15 m ra) k
 obtain ⟨T1, X1, e1, st1⟩ := initO X0 hx hZ hown (ow hw 83 rfl) (ow hw 10 rfl) (ow hw 11 rfl) e0 (g := (mkF m 1 #[vR ra] [(.ref ra)])) rfl (by rw [hml]; rfl) rfl (q d15_1) (by decide) (W := 0) (oz rfl) (by decide)
 obtain ⟨fs, hr, hrun, hended, hW, hsame⟩ := X1.leave (v := none) (fun _ => rfl) (hlocks := Bd.notSynchronized)
 refine ⟨_, _, pre0 _ ?_, hrun, hended, _, _, rfl, ?_, ⟨_, rfl⟩, hW, hsame.mono (by decide) (by decide)⟩
 ·show Steps p.tables e below (s₁.setTop (mkF m 0 #[vR ra] [])) _
  refine XS.aloadN X0.here hx rfl (q d15_0) rfl rfl ?_
  refine st1 _ ?_
  exact X1.returnOut hx Bd.returns (q d15_4) hr
 ·show Q15 Z ra h0 n0 _ T1.heap _
  rw [e1]
  exact ⟨rfl, N0, rfl⟩
theorem ef_14 (m : MethodId) (ra : Addr) (wi : Int32) (cc : Int32) (rn : Addr) (rc : Addr) : entryFrame m #[(.ref ra), (.int wi), (.int cc), (.ref rn), (.ref rc)] 5 = mkF m 0 #[vR ra, vI wi, vI cc, vR rn, vR rc] [] := by first | (simp [entryFrame, mkF, argsToLocals, Value.category]; done) | rfl
abbrev D_11 (k : Nat) := decode prog_24_method_1_code k
theorem d14_0 : D_11 0 = .ok (.aload_n 0, 1) := by decide +kernel
theorem pd_4 : parseMethodDescriptor "()V" = some ⟨[], none⟩ := by decide +kernel
theorem d14_1 : D_11 1 = .ok (.invokespecial 1, 3) := by decide +kernel
theorem d14_4 : D_11 4 = .ok (.aload_n 0, 1) := by decide +kernel
theorem d14_5 : D_11 5 = .ok (.iload_n 1, 1) := by decide +kernel
theorem d14_6 : D_11 6 = .ok (.putfield 7, 3) := by decide +kernel
theorem d14_9 : D_11 9 = .ok (.aload_n 0, 1) := by decide +kernel
theorem d14_10 : D_11 10 = .ok (.iload_n 2, 1) := by decide +kernel
theorem d14_11 : D_11 11 = .ok (.putfield 13, 3) := by decide +kernel
theorem d14_14 : D_11 14 = .ok (.aload_n 0, 1) := by decide +kernel
theorem d14_15 : D_11 15 = .ok (.aload_n 3, 1) := by decide +kernel
theorem d14_16 : D_11 16 = .ok (.putfield 16, 3) := by decide +kernel
theorem d14_19 : D_11 19 = .ok (.aload_n 0, 1) := by decide +kernel
theorem d14_20 : D_11 20 = .ok (.aload 4, 2) := by decide +kernel
theorem d14_22 : D_11 22 = .ok (.putfield 20, 3) := by decide +kernel
theorem d14_25 : D_11 25 = .ok (.return_, 1) := by decide +kernel
theorem pn_skipstitch_search_Automaton_Steps : plainName "skipstitch/search/Automaton$Steps" = true := by first | (simp [plainName, overriddenIn]; done) | decide +kernel
def Q14 (Z : State) (ra : Addr) (wi : Int32) (cc : Int32) (rn : Addr) (rc : Addr) (h0 : Heap) (n0 : Nat) (v : Option Value) (h : Heap) (L : List Loc) : Prop := v = none ∧ Fr n0 L ∧ Keep h0 h [ra] ∧ Fld Z h ra cS3 "width" "I" (.int wi) ∧ Fld Z h ra cS3 "columns" "I" (.int cc) ∧ Fld Z h ra cS3 "next" "[I" (.ref rn) ∧ Fld Z h ra cS3 "comparisons" "[I" (.ref rc)
set_option maxRecDepth 65536 in
set_option maxHeartbeats 40000000 in
theorem rm14 (l : Launch) (Z : State) (a0 : Array Value) (hw : ∀ d ∈ tables_1, d.before a0 Z = true) (ws : List Jvm.Cond) (ra : Addr) (wi : Int32) (cc : Int32) (rn : Addr) (rc : Addr) (h0 : Heap) (n0 : Nat) (Z0 : n0 ≤ h0.size) (E_ra : Exa Z h0 ra cS3) (F_width_ra : Fld Z h0 ra cS3 "width" "I" (.int 0)) (F_columns_ra : Fld Z h0 ra cS3 "columns" "I" (.int 0)) (F_next_ra : Fld Z h0 ra cS3 "next" "[I" .null) (F_comparisons_ra : Fld Z h0 ra cS3 "comparisons" "[I" .null) (g_ra : n0 ≤ ra) :
  MetFree l mN11 (head1 (Jvm.Cond.code mN11 prog_24_method_1_code 5 none :: ws) ({ frames := 2, cells := 0, slots := 0, locals := 24 } : Room)) (fun a U => a = #[(.ref ra), (.int wi), (.int cc), (.ref rn), (.ref rc)] ∧ Z.Warmed39 U.vm ∧ U.heap = h0) (fun _ _ _ _ _ => True) (fun _ U o U' => ∃ v L, o = .returned v ∧ Q14 Z ra wi cc rn rc h0 n0 v U'.heap L ∧ FrameEnd U o U' L ({ frames := 2, cells := 0, slots := 0, locals := 24 } : Room).cells ({ frames := 2, cells := 0, slots := 0, locals := 24 } : Room).slots) := by
 refine MetFree.of_bodySF (plainFor_of_name pn_skipstitch_search_Automaton_Steps) hisR ?_
 intro p e s m args below meth c s₁ Bd hml0 hP hK
 obtain ⟨rfl, hZ, hh⟩ := hP
 have hx := Bd.exec
 have hby := Bd.bytes
 have q {i : Nat} {r : _} (h : decode _ i = r) := hb hby h
 have hml : c.maxLocals = 5 := hml0
 have hown : s.vm.findClass cS3 = some m.cls := findClass_of_methodNamed Bd.named
 have hnm := (name_of_methodNamed Bd.named Bd.method).1
 have X0 : Stand p l e ({ frames := 2, cells := 0, slots := 0, locals := 24 } : Room) s m #[(.ref ra), (.int wi), (.int cc), (.ref rn), (.ref rc)] below meth c s₁ [] 0 0 := Stand.of_body Bd
 have e0 : s₁.heap = h0 := by rw [← hh, Bd.state]; rfl
 have N0 := Fr.nil n0
 have K0 : Keep h0 h0 [ra] := Keep.refl h0 _
 have pre0 : oP p e below (s₁.setTop (mkF m 0 #[vR ra, vI wi, vI cc, vR rn, vR rc] [])) (s₁.setTop (entryFrame m #[(.ref ra), (.int wi), (.int cc), (.ref rn), (.ref rc)] 5)) := fun t k => castTop (ef_14 m ra wi cc rn rc) k
 obtain ⟨_, _, ⟨T1, L1, k1, n1⟩, -, X1, ⟨Lc1, hQ1, l1, y1, z1⟩, st1⟩ := X0.specialBack hx (y := mN10) rfl hown (om hZ hw 78 rfl) (om hZ hw 79 rfl) (om hZ hw 82 rfl) (by decide) (backOf (W := 0) (rm15 l Z a0 hw [] ra h0 n0 Z0 ) hZ (ow hw 82 rfl) (ow hw 81 rfl) (by decide) (by decide)) (g := (mkF m 1 #[vR ra, vI wi, vI cc, vR rn, vR rc] [(.ref ra)])) rfl (by rw [hml]; rfl) (Steps.refl _) (a := ra) (argsL := []) (rest := []) (lenOf pd_4 rfl) rfl (oz rfl) (q d14_1) (fun _ _ => ⟨rfl, e0, (by decide : 0 + 0 ≤ _), (by decide : 0 + 0 ≤ _)⟩)
 dsimp only [Pt.U, Pt.locs, Pt.cells, Pt.slots] at X1 l1 y1 z1 st1 hQ1
 subst y1 z1
 obtain ⟨rfl, N1q, e1⟩ := hQ1
 have N1 := oF l1 N0 N1q
 obtain ⟨T2, h2, X2, e2, W2, st2⟩ := putF X1 hx hZ hown (host := "") (Or.inl (ow hw 84 rfl)) Via.refl e1 F_width_ra E_ra (Or.inr ⟨(ow hw 85 rfl), rfl, hnm⟩) (ow hw 73 rfl) (ty := .int) (by decide) rfl rfl (g := (mkF m 6 #[vR ra, vI wi, vI cc, vR rn, vR rc] [(.int wi), (.ref ra)])) rfl rfl (q d14_6)
 have N2 := Fr.snoc X2 N1 g_ra
 have K2 := K0.wr W2 (Or.inl (List.mem_of_getElem? (i := 0) rfl))
 have f3 : Fld Z h2 ra cS3 "width" "I" (.int wi) := F_width_ra.same W2
 have f4 := E_ra.wr W2
 have f5 := F_columns_ra.other W2 (Or.inr (slot_ne (Or.inr (ow hw 87 rfl)) (Or.inr (ow hw 85 rfl)) (by decide) (t := .int) (t' := .int) (by decide) (by decide)))
 have f6 := F_next_ra.other W2 (Or.inr (slot_ne (Or.inr (ow hw 89 rfl)) (Or.inr (ow hw 85 rfl)) (by decide) (t := (.array .int)) (t' := .int) (by decide) (by decide)))
 have f7 := F_comparisons_ra.other W2 (Or.inr (slot_ne (Or.inr (ow hw 91 rfl)) (Or.inr (ow hw 85 rfl)) (by decide) (t := (.array .int)) (t' := .int) (by decide) (by decide)))
 obtain ⟨T8, h8, X8, e8, W8, st8⟩ := putF X2 hx hZ hown (host := "") (Or.inl (ow hw 86 rfl)) Via.refl e2 f5 f4 (Or.inr ⟨(ow hw 87 rfl), rfl, hnm⟩) (ow hw 73 rfl) (ty := .int) (by decide) rfl rfl (g := (mkF m 11 #[vR ra, vI wi, vI cc, vR rn, vR rc] [(.int cc), (.ref ra)])) rfl rfl (q d14_11)
 have N8 := Fr.snoc X8 N2 g_ra
 have K8 := K2.wr W8 (Or.inl (List.mem_of_getElem? (i := 0) rfl))
 have f9 : Fld Z h8 ra cS3 "columns" "I" (.int cc) := f5.same W8
 have f10 := f4.wr W8
 have f11 := f3.other W8 (Or.inr (slot_ne (Or.inr (ow hw 85 rfl)) (Or.inr (ow hw 87 rfl)) (by decide) (t := .int) (t' := .int) (by decide) (by decide)))
 have f12 := f6.other W8 (Or.inr (slot_ne (Or.inr (ow hw 89 rfl)) (Or.inr (ow hw 87 rfl)) (by decide) (t := (.array .int)) (t' := .int) (by decide) (by decide)))
 have f13 := f7.other W8 (Or.inr (slot_ne (Or.inr (ow hw 91 rfl)) (Or.inr (ow hw 87 rfl)) (by decide) (t := (.array .int)) (t' := .int) (by decide) (by decide)))
 obtain ⟨T14, h14, X14, e14, W14, st14⟩ := putF X8 hx hZ hown (host := "") (Or.inl (ow hw 88 rfl)) Via.refl e8 f12 f10 (Or.inr ⟨(ow hw 89 rfl), rfl, hnm⟩) (ow hw 73 rfl) (ty := (.array .int)) (by decide) rfl rfl (g := (mkF m 16 #[vR ra, vI wi, vI cc, vR rn, vR rc] [(.ref rn), (.ref ra)])) rfl rfl (q d14_16)
 have N14 := Fr.snoc X14 N8 g_ra
 have K14 := K8.wr W14 (Or.inl (List.mem_of_getElem? (i := 0) rfl))
 have f15 : Fld Z h14 ra cS3 "next" "[I" (.ref rn) := f12.same W14
 have f16 := f10.wr W14
 have f17 := f11.other W14 (Or.inr (slot_ne (Or.inr (ow hw 85 rfl)) (Or.inr (ow hw 89 rfl)) (by decide) (t := .int) (t' := (.array .int)) (by decide) (by decide)))
 have f18 := f9.other W14 (Or.inr (slot_ne (Or.inr (ow hw 87 rfl)) (Or.inr (ow hw 89 rfl)) (by decide) (t := .int) (t' := (.array .int)) (by decide) (by decide)))
 have f19 := f13.other W14 (Or.inr (slot_ne (Or.inr (ow hw 91 rfl)) (Or.inr (ow hw 89 rfl)) (by decide) (t := (.array .int)) (t' := (.array .int)) (by decide) (by decide)))
 obtain ⟨T20, h20, X20, e20, W20, st20⟩ := putF X14 hx hZ hown (host := "") (Or.inl (ow hw 90 rfl)) Via.refl e14 f19 f16 (Or.inr ⟨(ow hw 91 rfl), rfl, hnm⟩) (ow hw 73 rfl) (ty := (.array .int)) (by decide) rfl rfl (g := (mkF m 22 #[vR ra, vI wi, vI cc, vR rn, vR rc] [(.ref rc), (.ref ra)])) rfl rfl (q d14_22)
 have N20 := Fr.snoc X20 N14 g_ra
 have K20 := K14.wr W20 (Or.inl (List.mem_of_getElem? (i := 0) rfl))
 have f21 : Fld Z h20 ra cS3 "comparisons" "[I" (.ref rc) := f19.same W20
 have f23 := f17.other W20 (Or.inr (slot_ne (Or.inr (ow hw 85 rfl)) (Or.inr (ow hw 91 rfl)) (by decide) (t := .int) (t' := (.array .int)) (by decide) (by decide)))
 have f24 := f18.other W20 (Or.inr (slot_ne (Or.inr (ow hw 87 rfl)) (Or.inr (ow hw 91 rfl)) (by decide) (t := .int) (t' := (.array .int)) (by decide) (by decide)))
 have f25 := f15.other W20 (Or.inr (slot_ne (Or.inr (ow hw 89 rfl)) (Or.inr (ow hw 91 rfl)) (by decide) (t := (.array .int)) (t' := (.array .int)) (by decide) (by decide)))
 obtain ⟨fs, hr, hrun, hended, hW, hsame⟩ := X20.leave (v := none) (fun _ => rfl) (hlocks := Bd.notSynchronized)
 refine ⟨_, _, pre0 _ ?_, hrun, hended, _, _, rfl, ?_, ⟨_, rfl⟩, hW, hsame.mono (by decide) (by decide)⟩
 ·show Steps p.tables e below (s₁.setTop (mkF m 0 #[vR ra, vI wi, vI cc, vR rn, vR rc] [])) _
  refine XS.aloadN X0.here hx rfl (q d14_0) rfl rfl ?_
  refine st1.trans ?_
  refine XS.aloadN X1.here hx rfl (q d14_4) rfl rfl ?_
  refine XS.iloadN X1.here hx rfl (q d14_5) rfl ?_
  refine st2 _ ?_
  refine XS.aloadN X2.here hx rfl (q d14_9) rfl rfl ?_
  refine XS.iloadN X2.here hx rfl (q d14_10) rfl ?_
  refine st8 _ ?_
  refine XS.aloadN X8.here hx rfl (q d14_14) rfl rfl ?_
  refine XS.aloadN X8.here hx rfl (q d14_15) rfl rfl ?_
  refine st14 _ ?_
  refine XS.aloadN X14.here hx rfl (q d14_19) rfl rfl ?_
  refine XS.aload X14.here hx rfl (q d14_20) rfl rfl ?_
  refine st20 _ ?_
  exact X20.returnOut hx Bd.returns (q d14_25) hr
 ·show Q14 Z ra wi cc rn rc h0 n0 _ T20.heap _
  rw [e20]
  exact ⟨rfl, N20, K20, f23, f24, f25, f21⟩
theorem ef_16 (m : MethodId) (ra : Addr) : entryFrame m #[(.ref ra)] 1 = mkF m 0 #[vR ra] [] := by first | (simp [entryFrame, mkF, argsToLocals, Value.category]; done) | rfl
abbrev D_12 (k : Nat) := decode prog_24_method_5_code k
theorem d16_0 : D_12 0 = .ok (.aload_n 0, 1) := by decide +kernel
theorem d16_1 : D_12 1 = .ok (.getfield 7, 3) := by decide +kernel
theorem d16_4 : D_12 4 = .ok (.ireturn, 1) := by decide +kernel
def Q16 (Z : State) (ra : Addr) (wi : Int32) (h0 : Heap) (n0 : Nat) (v : Option Value) (h : Heap) (L : List Loc) : Prop := v = some (.int wi) ∧ Fr n0 L ∧ h = h0
set_option maxRecDepth 65536 in
set_option maxHeartbeats 40000000 in
theorem rm16 (l : Launch) (Z : State) (a0 : Array Value) (hw : ∀ d ∈ tables_1, d.before a0 Z = true) (ws : List Jvm.Cond) (ra : Addr) (wi : Int32) (h0 : Heap) (n0 : Nat) (Z0 : n0 ≤ h0.size) (F_width_ra : Fld Z h0 ra cS3 "width" "I" (.int wi)) :
  MetFree l mN12 (head1 (Jvm.Cond.code mN12 prog_24_method_5_code 1 (some .int) :: ws) ({ frames := 0, cells := 0, slots := 0, locals := 0 } : Room)) (fun a U => a = #[(.ref ra)] ∧ Z.Warmed39 U.vm ∧ U.heap = h0) (fun _ _ _ _ _ => True) (fun _ U o U' => ∃ v L, o = .returned v ∧ Q16 Z ra wi h0 n0 v U'.heap L ∧ FrameEnd U o U' L ({ frames := 0, cells := 0, slots := 0, locals := 0 } : Room).cells ({ frames := 0, cells := 0, slots := 0, locals := 0 } : Room).slots) := by
 refine MetFree.of_bodySF (plainFor_of_name pn_skipstitch_search_Automaton_Steps) hisR ?_
 intro p e s m args below meth c s₁ Bd hml0 hP hK
 obtain ⟨rfl, hZ, hh⟩ := hP
 have hx := Bd.exec
 have hby := Bd.bytes
 have q {i : Nat} {r : _} (h : decode _ i = r) := hb hby h
 have hml : c.maxLocals = 1 := hml0
 have hown : s.vm.findClass cS3 = some m.cls := findClass_of_methodNamed Bd.named
 have hnm := (name_of_methodNamed Bd.named Bd.method).1
 have X0 : Stand p l e ({ frames := 0, cells := 0, slots := 0, locals := 0 } : Room) s m #[(.ref ra)] below meth c s₁ [] 0 0 := Stand.of_body Bd
 have e0 : s₁.heap = h0 := by rw [← hh, Bd.state]; rfl
 have N0 := Fr.nil n0
 have pre0 : oP p e below (s₁.setTop (mkF m 0 #[vR ra] [])) (s₁.setTop (entryFrame m #[(.ref ra)] 1)) := fun t k => castTop (ef_16 m ra) k
 obtain ⟨T1, X1, e1, st1⟩ := getF X0 hx hZ hown (host := "") (Or.inl (ow hw 84 rfl)) Via.refl e0 F_width_ra (g := (mkF m 1 #[vR ra] [(.ref ra)])) rfl rfl (q d16_1)
 obtain ⟨fs, hr, hrun, hended, hW, hsame⟩ := X1.leave (v := some (.int wi)) (oR Bd.returns) (hlocks := Bd.notSynchronized)
 refine ⟨_, _, pre0 _ ?_, hrun, hended, _, _, rfl, ?_, ⟨_, rfl⟩, hW, hsame.mono (by decide) (by decide)⟩
 ·show Steps p.tables e below (s₁.setTop (mkF m 0 #[vR ra] [])) _
  refine XS.aloadN X0.here hx rfl (q d16_0) rfl rfl ?_
  refine st1 _ ?_
  exact retI X1 hx Bd.returns (q d16_4) hr
 ·show Q16 Z ra wi h0 n0 _ T1.heap _
  rw [e1]
  exact ⟨rfl, N0, rfl⟩
theorem ef_18 (m : MethodId) (ra : Addr) : entryFrame m #[(.ref ra)] 1 = mkF m 0 #[vR ra] [] := by first | (simp [entryFrame, mkF, argsToLocals, Value.category]; done) | rfl
abbrev D_13 (k : Nat) := decode prog_24_method_6_code k
theorem d18_0 : D_13 0 = .ok (.aload_n 0, 1) := by decide +kernel
theorem d18_1 : D_13 1 = .ok (.getfield 13, 3) := by decide +kernel
theorem d18_4 : D_13 4 = .ok (.ireturn, 1) := by decide +kernel
def Q18 (Z : State) (ra : Addr) (cc : Int32) (h0 : Heap) (n0 : Nat) (v : Option Value) (h : Heap) (L : List Loc) : Prop := v = some (.int cc) ∧ Fr n0 L ∧ h = h0
set_option maxRecDepth 65536 in
set_option maxHeartbeats 40000000 in
theorem rm18 (l : Launch) (Z : State) (a0 : Array Value) (hw : ∀ d ∈ tables_1, d.before a0 Z = true) (ws : List Jvm.Cond) (ra : Addr) (cc : Int32) (h0 : Heap) (n0 : Nat) (Z0 : n0 ≤ h0.size) (F_columns_ra : Fld Z h0 ra cS3 "columns" "I" (.int cc)) :
  MetFree l mN13 (head1 (Jvm.Cond.code mN13 prog_24_method_6_code 1 (some .int) :: ws) ({ frames := 0, cells := 0, slots := 0, locals := 0 } : Room)) (fun a U => a = #[(.ref ra)] ∧ Z.Warmed39 U.vm ∧ U.heap = h0) (fun _ _ _ _ _ => True) (fun _ U o U' => ∃ v L, o = .returned v ∧ Q18 Z ra cc h0 n0 v U'.heap L ∧ FrameEnd U o U' L ({ frames := 0, cells := 0, slots := 0, locals := 0 } : Room).cells ({ frames := 0, cells := 0, slots := 0, locals := 0 } : Room).slots) := by
 refine MetFree.of_bodySF (plainFor_of_name pn_skipstitch_search_Automaton_Steps) hisR ?_
 intro p e s m args below meth c s₁ Bd hml0 hP hK
 obtain ⟨rfl, hZ, hh⟩ := hP
 have hx := Bd.exec
 have hby := Bd.bytes
 have q {i : Nat} {r : _} (h : decode _ i = r) := hb hby h
 have hml : c.maxLocals = 1 := hml0
 have hown : s.vm.findClass cS3 = some m.cls := findClass_of_methodNamed Bd.named
 have hnm := (name_of_methodNamed Bd.named Bd.method).1
 have X0 : Stand p l e ({ frames := 0, cells := 0, slots := 0, locals := 0 } : Room) s m #[(.ref ra)] below meth c s₁ [] 0 0 := Stand.of_body Bd
 have e0 : s₁.heap = h0 := by rw [← hh, Bd.state]; rfl
 have N0 := Fr.nil n0
 have pre0 : oP p e below (s₁.setTop (mkF m 0 #[vR ra] [])) (s₁.setTop (entryFrame m #[(.ref ra)] 1)) := fun t k => castTop (ef_18 m ra) k
 obtain ⟨T1, X1, e1, st1⟩ := getF X0 hx hZ hown (host := "") (Or.inl (ow hw 86 rfl)) Via.refl e0 F_columns_ra (g := (mkF m 1 #[vR ra] [(.ref ra)])) rfl rfl (q d18_1)
 obtain ⟨fs, hr, hrun, hended, hW, hsame⟩ := X1.leave (v := some (.int cc)) (oR Bd.returns) (hlocks := Bd.notSynchronized)
 refine ⟨_, _, pre0 _ ?_, hrun, hended, _, _, rfl, ?_, ⟨_, rfl⟩, hW, hsame.mono (by decide) (by decide)⟩
 ·show Steps p.tables e below (s₁.setTop (mkF m 0 #[vR ra] [])) _
  refine XS.aloadN X0.here hx rfl (q d18_0) rfl rfl ?_
  refine st1 _ ?_
  exact retI X1 hx Bd.returns (q d18_4) hr
 ·show Q18 Z ra cc h0 n0 _ T1.heap _
  rw [e1]
  exact ⟨rfl, N0, rfl⟩
theorem ef_19 (m : MethodId) (ra : Addr) : entryFrame m #[(.ref ra)] 1 = mkF m 0 #[vR ra] [] := by first | (simp [entryFrame, mkF, argsToLocals, Value.category]; done) | rfl
abbrev D_14 (k : Nat) := decode prog_24_method_7_code k
theorem d19_0 : D_14 0 = .ok (.aload_n 0, 1) := by decide +kernel
theorem d19_1 : D_14 1 = .ok (.getfield 16, 3) := by decide +kernel
theorem d19_4 : D_14 4 = .ok (.areturn, 1) := by decide +kernel
def Q19 (Z : State) (ra : Addr) (rn : Addr) (h0 : Heap) (n0 : Nat) (v : Option Value) (h : Heap) (L : List Loc) : Prop := v = some (.ref rn) ∧ Fr n0 L ∧ h = h0
set_option maxRecDepth 65536 in
set_option maxHeartbeats 40000000 in
theorem rm19 (l : Launch) (Z : State) (a0 : Array Value) (hw : ∀ d ∈ tables_1, d.before a0 Z = true) (ws : List Jvm.Cond) (ra : Addr) (rn : Addr) (h0 : Heap) (n0 : Nat) (Z0 : n0 ≤ h0.size) (F_next_ra : Fld Z h0 ra cS3 "next" "[I" (.ref rn)) :
  MetFree l mN14 (head1 (Jvm.Cond.code mN14 prog_24_method_7_code 1 (some (.array .int)) :: ws) ({ frames := 0, cells := 0, slots := 0, locals := 0 } : Room)) (fun a U => a = #[(.ref ra)] ∧ Z.Warmed39 U.vm ∧ U.heap = h0) (fun _ _ _ _ _ => True) (fun _ U o U' => ∃ v L, o = .returned v ∧ Q19 Z ra rn h0 n0 v U'.heap L ∧ FrameEnd U o U' L ({ frames := 0, cells := 0, slots := 0, locals := 0 } : Room).cells ({ frames := 0, cells := 0, slots := 0, locals := 0 } : Room).slots) := by
 refine MetFree.of_bodySF (plainFor_of_name pn_skipstitch_search_Automaton_Steps) hisR ?_
 intro p e s m args below meth c s₁ Bd hml0 hP hK
 obtain ⟨rfl, hZ, hh⟩ := hP
 have hx := Bd.exec
 have hby := Bd.bytes
 have q {i : Nat} {r : _} (h : decode _ i = r) := hb hby h
 have hml : c.maxLocals = 1 := hml0
 have hown : s.vm.findClass cS3 = some m.cls := findClass_of_methodNamed Bd.named
 have hnm := (name_of_methodNamed Bd.named Bd.method).1
 have X0 : Stand p l e ({ frames := 0, cells := 0, slots := 0, locals := 0 } : Room) s m #[(.ref ra)] below meth c s₁ [] 0 0 := Stand.of_body Bd
 have e0 : s₁.heap = h0 := by rw [← hh, Bd.state]; rfl
 have N0 := Fr.nil n0
 have pre0 : oP p e below (s₁.setTop (mkF m 0 #[vR ra] [])) (s₁.setTop (entryFrame m #[(.ref ra)] 1)) := fun t k => castTop (ef_19 m ra) k
 obtain ⟨T1, X1, e1, st1⟩ := getF X0 hx hZ hown (host := "") (Or.inl (ow hw 88 rfl)) Via.refl e0 F_next_ra (g := (mkF m 1 #[vR ra] [(.ref ra)])) rfl rfl (q d19_1)
 obtain ⟨fs, hr, hrun, hended, hW, hsame⟩ := X1.leave (v := some (.ref rn)) (oR Bd.returns) (hlocks := Bd.notSynchronized)
 refine ⟨_, _, pre0 _ ?_, hrun, hended, _, _, rfl, ?_, ⟨_, rfl⟩, hW, hsame.mono (by decide) (by decide)⟩
 ·show Steps p.tables e below (s₁.setTop (mkF m 0 #[vR ra] [])) _
  refine XS.aloadN X0.here hx rfl (q d19_0) rfl rfl ?_
  refine st1 _ ?_
  exact retOut X1 hx Bd.returns rfl (Or.inr (Or.inr (Or.inr (Or.inr ⟨rfl, rfl, rfl⟩)))) (q d19_4) hr
 ·show Q19 Z ra rn h0 n0 _ T1.heap _
  rw [e1]
  exact ⟨rfl, N0, rfl⟩
theorem ef_20 (m : MethodId) (ra : Addr) : entryFrame m #[(.ref ra)] 1 = mkF m 0 #[vR ra] [] := by first | (simp [entryFrame, mkF, argsToLocals, Value.category]; done) | rfl
abbrev D_15 (k : Nat) := decode prog_24_method_8_code k
theorem d20_0 : D_15 0 = .ok (.aload_n 0, 1) := by decide +kernel
theorem d20_1 : D_15 1 = .ok (.getfield 20, 3) := by decide +kernel
theorem d20_4 : D_15 4 = .ok (.areturn, 1) := by decide +kernel
def Q20 (Z : State) (ra : Addr) (rc : Addr) (h0 : Heap) (n0 : Nat) (v : Option Value) (h : Heap) (L : List Loc) : Prop := v = some (.ref rc) ∧ Fr n0 L ∧ h = h0
set_option maxRecDepth 65536 in
set_option maxHeartbeats 40000000 in
theorem rm20 (l : Launch) (Z : State) (a0 : Array Value) (hw : ∀ d ∈ tables_1, d.before a0 Z = true) (ws : List Jvm.Cond) (ra : Addr) (rc : Addr) (h0 : Heap) (n0 : Nat) (Z0 : n0 ≤ h0.size) (F_comparisons_ra : Fld Z h0 ra cS3 "comparisons" "[I" (.ref rc)) :
  MetFree l mN15 (head1 (Jvm.Cond.code mN15 prog_24_method_8_code 1 (some (.array .int)) :: ws) ({ frames := 0, cells := 0, slots := 0, locals := 0 } : Room)) (fun a U => a = #[(.ref ra)] ∧ Z.Warmed39 U.vm ∧ U.heap = h0) (fun _ _ _ _ _ => True) (fun _ U o U' => ∃ v L, o = .returned v ∧ Q20 Z ra rc h0 n0 v U'.heap L ∧ FrameEnd U o U' L ({ frames := 0, cells := 0, slots := 0, locals := 0 } : Room).cells ({ frames := 0, cells := 0, slots := 0, locals := 0 } : Room).slots) := by
 refine MetFree.of_bodySF (plainFor_of_name pn_skipstitch_search_Automaton_Steps) hisR ?_
 intro p e s m args below meth c s₁ Bd hml0 hP hK
 obtain ⟨rfl, hZ, hh⟩ := hP
 have hx := Bd.exec
 have hby := Bd.bytes
 have q {i : Nat} {r : _} (h : decode _ i = r) := hb hby h
 have hml : c.maxLocals = 1 := hml0
 have hown : s.vm.findClass cS3 = some m.cls := findClass_of_methodNamed Bd.named
 have hnm := (name_of_methodNamed Bd.named Bd.method).1
 have X0 : Stand p l e ({ frames := 0, cells := 0, slots := 0, locals := 0 } : Room) s m #[(.ref ra)] below meth c s₁ [] 0 0 := Stand.of_body Bd
 have e0 : s₁.heap = h0 := by rw [← hh, Bd.state]; rfl
 have N0 := Fr.nil n0
 have pre0 : oP p e below (s₁.setTop (mkF m 0 #[vR ra] [])) (s₁.setTop (entryFrame m #[(.ref ra)] 1)) := fun t k => castTop (ef_20 m ra) k
 obtain ⟨T1, X1, e1, st1⟩ := getF X0 hx hZ hown (host := "") (Or.inl (ow hw 90 rfl)) Via.refl e0 F_comparisons_ra (g := (mkF m 1 #[vR ra] [(.ref ra)])) rfl rfl (q d20_1)
 obtain ⟨fs, hr, hrun, hended, hW, hsame⟩ := X1.leave (v := some (.ref rc)) (oR Bd.returns) (hlocks := Bd.notSynchronized)
 refine ⟨_, _, pre0 _ ?_, hrun, hended, _, _, rfl, ?_, ⟨_, rfl⟩, hW, hsame.mono (by decide) (by decide)⟩
 ·show Steps p.tables e below (s₁.setTop (mkF m 0 #[vR ra] [])) _
  refine XS.aloadN X0.here hx rfl (q d20_0) rfl rfl ?_
  refine st1 _ ?_
  exact retOut X1 hx Bd.returns rfl (Or.inr (Or.inr (Or.inr (Or.inr ⟨rfl, rfl, rfl⟩)))) (q d20_4) hr
 ·show Q20 Z ra rc h0 n0 _ T1.heap _
  rw [e1]
  exact ⟨rfl, N0, rfl⟩
abbrev own_s (o : Option Int32) : Slot := match o with | none => .unset | some i => vI i
abbrev D_16 (k : Nat) := decode prog_23_method_8_code k
theorem d17_50 : D_16 50 = .ok (.iload 9, 2) := by decide +kernel
theorem d17_52 : D_16 52 = .ok (.iload_n 2, 1) := by decide +kernel
theorem d17_53 : D_16 53 = .ok (.if_icmp .ge 75, 3) := by decide +kernel
theorem d17_56 : D_16 56 = .ok (.iload 7, 2) := by decide +kernel
theorem d17_58 : D_16 58 = .ok (.iload_n 2, 1) := by decide +kernel
theorem d17_59 : D_16 59 = .ok (.imul, 1) := by decide +kernel
theorem d17_60 : D_16 60 = .ok (.iload 9, 2) := by decide +kernel
theorem d17_62 : D_16 62 = .ok (.iadd, 1) := by decide +kernel
theorem d17_63 : D_16 63 = .ok (.istore 10, 2) := by decide +kernel
theorem d17_65 : D_16 65 = .ok (.iload 8, 2) := by decide +kernel
theorem d17_67 : D_16 67 = .ok (.iload 9, 2) := by decide +kernel
theorem d17_69 : D_16 69 = .ok (.iadd, 1) := by decide +kernel
theorem d17_70 : D_16 70 = .ok (.istore 11, 2) := by decide +kernel
theorem d17_72 : D_16 72 = .ok (.iload 8, 2) := by decide +kernel
theorem d17_74 : D_16 74 = .ok (.iload_n 1, 1) := by decide +kernel
theorem d17_75 : D_16 75 = .ok (.if_icmp .eq 11, 3) := by decide +kernel
theorem d17_86 : D_16 86 = .ok (.aload 5, 2) := by decide +kernel
theorem d17_88 : D_16 88 = .ok (.iload 10, 2) := by decide +kernel
theorem d17_90 : D_16 90 = .ok (.iconst (-1), 1) := by decide +kernel
theorem d17_91 : D_16 91 = .ok (.iastore, 1) := by decide +kernel
theorem d17_92 : D_16 92 = .ok (.goto 30, 3) := by decide +kernel
theorem d17_122 : D_16 122 = .ok (.iinc 9 1, 3) := by decide +kernel
theorem d17_125 : D_16 125 = .ok (.goto (-75), 3) := by decide +kernel
set_option maxRecDepth 65536 in
set_option maxHeartbeats 40000000 in
theorem twA {p : Program} {l : Launch} {e : Env} {R : Room} {s : State} {m : MethodId} {args : Array Value} {below : List Frame} {meth : Method} {c : Code} {T0 : State} {locs : List Loc} {cells slots : Nat} {Z : State} {a0 : Array Value} {h0 : Heap} (ra : Addr) (oc : Int32) (cc : Int32) (rn : Addr) (rc : Addr) (rv : Addr) (rw : Addr) (ff : Int32) (mm : Int32) (dd : Int32) (qa : Option Int32) (qb : Option Int32) (an : Nat) (nn : Nat) (nv : Nat) (fn : Nat → Int32) (fc : Nat → Int32) (fv : Nat → Int32) (fw : Nat → Int32)
  (X0 : Stand p l e R s m args below meth c T0 locs cells slots) (hx : p.tables.exec = Jvm.exec) (hZ : Z.Warmed39 s.vm) (hw : ∀ d ∈ tables_1, d.before a0 Z = true) (hby : c.code = prog_23_method_8_code) (hml : c.maxLocals = 12) (hown : s.vm.findClass cS0 = some m.cls) (e0 : T0.heap = h0) (A_rn : AI Z h0 rn .int nn fn) (A_rc : AI Z h0 rc .int nn fc) (A_rv : AI Z h0 rv .int nv fv) (A_rw : AI Z h0 rw .int nv fw) (hat : ((ff * cc) + dd).toInt = (an : Int)) (hal : an < nv) (hc53 : (dd < cc)) (hc75 : (mm = oc)) :
  ∃ (T' : State) (h' : Heap), Stand p l e R s m args below meth c T' (locs ++ [⟨rv, ((ff * cc) + dd).toNatClampNeg⟩]) cells slots ∧ T'.heap = h' ∧ Wr h0 h' rv ((ff * cc) + dd).toNatClampNeg (.int (-1 : Int32)) ∧ ∀ t, Steps p.tables e below (T'.setTop (mkF m 50 #[vR ra, vI oc, vI cc, vR rn, vR rc, vR rv, vR rw, vI ff, vI mm, vI (dd + (1 : Int32)), vI ((ff * cc) + dd), vI (mm + dd)] [])) t → Steps p.tables e below (T0.setTop (mkF m 50 #[vR ra, vI oc, vI cc, vR rn, vR rc, vR rv, vR rw, vI ff, vI mm, vI dd, (own_s qa), (own_s qb)] [])) t := by
 have pre0 : oP p e below (T0.setTop (mkF m 50 #[vR ra, vI oc, vI cc, vR rn, vR rc, vR rv, vR rw, vI ff, vI mm, vI dd, (own_s qa), (own_s qb)] [])) (T0.setTop (mkF m 50 #[vR ra, vI oc, vI cc, vR rn, vR rc, vR rv, vR rw, vI ff, vI mm, vI dd, (own_s qa), (own_s qb)] [])) := fun t k => k
 obtain ⟨cl1, Arcl1, hincl1, -⟩ := AF.at A_rv (j := ((ff * cc) + dd)) an hat hal
 obtain ⟨T2, h2, X2, e2, W2, st2⟩ := stI X0 hx hZ e0 Arcl1 (j := ((ff * cc) + dd)) hincl1 (g := (mkF m 91 #[vR ra, vI oc, vI cc, vR rn, vR rc, vR rv, vR rw, vI ff, vI mm, vI dd, vI ((ff * cc) + dd), vI (mm + dd)] [(.int (-1 : Int32)), (.int ((ff * cc) + dd)), (.ref rv)])) rfl rfl (hb hby d17_91)
 have pre3 : oP p e below (T2.setTop (mkF m 50 #[vR ra, vI oc, vI cc, vR rn, vR rc, vR rv, vR rw, vI ff, vI mm, vI (dd + (1 : Int32)), vI ((ff * cc) + dd), vI (mm + dd)] [])) (T0.setTop (mkF m 50 #[vR ra, vI oc, vI cc, vR rn, vR rc, vR rv, vR rw, vI ff, vI mm, vI dd, (own_s qa), (own_s qb)] [])) := by
  intro t k
  refine pre0 _ ?_
  refine XS.iload X0.here hx rfl (hb hby d17_50) rfl ?_
  refine XS.iloadN X0.here hx rfl (hb hby d17_52) rfl ?_
  refine XS.icmpNo X0.here hx rfl (hb hby d17_53) rfl (tlt hc53).2.1 ?_
  refine XS.iload X0.here hx rfl (hb hby d17_56) rfl ?_
  refine XS.iloadN X0.here hx rfl (hb hby d17_58) rfl ?_
  refine XS.imul X0.here hx rfl (hb hby d17_59) rfl ?_
  refine XS.iload X0.here hx rfl (hb hby d17_60) rfl ?_
  refine XS.iadd X0.here hx rfl (hb hby d17_62) rfl ?_
  refine XS.istore X0.here hx rfl (hb hby d17_63) rfl (l' := #[vR ra, vI oc, vI cc, vR rn, vR rc, vR rv, vR rw, vI ff, vI mm, vI dd, vI ((ff * cc) + dd), (own_s qb)]) (by cases qa <;> rfl) ?_
  refine XS.iload X0.here hx rfl (hb hby d17_65) rfl ?_
  refine XS.iload X0.here hx rfl (hb hby d17_67) rfl ?_
  refine XS.iadd X0.here hx rfl (hb hby d17_69) rfl ?_
  refine XS.istore X0.here hx rfl (hb hby d17_70) rfl (l' := #[vR ra, vI oc, vI cc, vR rn, vR rc, vR rv, vR rw, vI ff, vI mm, vI dd, vI ((ff * cc) + dd), vI (mm + dd)]) (by cases qb <;> rfl) ?_
  refine XS.iload X0.here hx rfl (hb hby d17_72) rfl ?_
  refine XS.iloadN X0.here hx rfl (hb hby d17_74) rfl ?_
  refine XS.icmpYes X0.here hx rfl (pc0 := 75) (pc' := 86) rfl (hb hby d17_75) rfl (teq hc75).1 (by decide) (by decide) ?_
  refine XS.aload X0.here hx rfl (hb hby d17_86) rfl rfl ?_
  refine XS.iload X0.here hx rfl (hb hby d17_88) rfl ?_
  refine XS.iconst X0.here hx rfl (hb hby d17_90) ?_
  refine st2 _ ?_
  refine XS.goto X2.here hx rfl (pc0 := 92) (pc' := 122) rfl (hb hby d17_92) (by decide) (by decide) ?_
  refine XS.iinc X2.here hx rfl (hb hby d17_122) rfl (l' := #[vR ra, vI oc, vI cc, vR rn, vR rc, vR rv, vR rw, vI ff, vI mm, vI (dd + (1 : Int32)), vI ((ff * cc) + dd), vI (mm + dd)]) rfl ?_
  refine XS.goto X2.here hx rfl (pc0 := 125) (pc' := 50) rfl (hb hby d17_125) (by decide) (by decide) ?_
  exact k
 exact ⟨_, _, X2, e2, W2, pre3⟩
theorem d17_78 : D_16 78 = .ok (.aload_n 3, 1) := by decide +kernel
theorem d17_79 : D_16 79 = .ok (.iload 11, 2) := by decide +kernel
theorem d17_81 : D_16 81 = .ok (.iaload, 1) := by decide +kernel
theorem d17_82 : D_16 82 = .ok (.iload_n 1, 1) := by decide +kernel
theorem d17_83 : D_16 83 = .ok (.if_icmp .ne 12, 3) := by decide +kernel
set_option maxRecDepth 65536 in
set_option maxHeartbeats 40000000 in
theorem twB {p : Program} {l : Launch} {e : Env} {R : Room} {s : State} {m : MethodId} {args : Array Value} {below : List Frame} {meth : Method} {c : Code} {T0 : State} {locs : List Loc} {cells slots : Nat} {Z : State} {a0 : Array Value} {h0 : Heap} (ra : Addr) (oc : Int32) (cc : Int32) (rn : Addr) (rc : Addr) (rv : Addr) (rw : Addr) (ff : Int32) (mm : Int32) (dd : Int32) (qa : Option Int32) (qb : Option Int32) (an : Nat) (sn : Nat) (nn : Nat) (nv : Nat) (fn : Nat → Int32) (fc : Nat → Int32) (fv : Nat → Int32) (fw : Nat → Int32)
  (X0 : Stand p l e R s m args below meth c T0 locs cells slots) (hx : p.tables.exec = Jvm.exec) (hZ : Z.Warmed39 s.vm) (hw : ∀ d ∈ tables_1, d.before a0 Z = true) (hby : c.code = prog_23_method_8_code) (hml : c.maxLocals = 12) (hown : s.vm.findClass cS0 = some m.cls) (e0 : T0.heap = h0) (A_rn : AI Z h0 rn .int nn fn) (A_rc : AI Z h0 rc .int nn fc) (A_rv : AI Z h0 rv .int nv fv) (A_rw : AI Z h0 rw .int nv fw) (hat : ((ff * cc) + dd).toInt = (an : Int)) (hal : an < nv) (hsn : (mm + dd).toInt = (sn : Int)) (hsl : sn < nn) (hc53 : (dd < cc)) (hc75 : ¬ (mm = oc)) (hc83 : ((fn sn) = oc)) :
  ∃ (T' : State) (h' : Heap), Stand p l e R s m args below meth c T' (locs ++ [⟨rv, ((ff * cc) + dd).toNatClampNeg⟩]) cells slots ∧ T'.heap = h' ∧ Wr h0 h' rv ((ff * cc) + dd).toNatClampNeg (.int (-1 : Int32)) ∧ ∀ t, Steps p.tables e below (T'.setTop (mkF m 50 #[vR ra, vI oc, vI cc, vR rn, vR rc, vR rv, vR rw, vI ff, vI mm, vI (dd + (1 : Int32)), vI ((ff * cc) + dd), vI (mm + dd)] [])) t → Steps p.tables e below (T0.setTop (mkF m 50 #[vR ra, vI oc, vI cc, vR rn, vR rc, vR rv, vR rw, vI ff, vI mm, vI dd, (own_s qa), (own_s qb)] [])) t := by
 have pre0 : oP p e below (T0.setTop (mkF m 50 #[vR ra, vI oc, vI cc, vR rn, vR rc, vR rv, vR rw, vI ff, vI mm, vI dd, (own_s qa), (own_s qb)] [])) (T0.setTop (mkF m 50 #[vR ra, vI oc, vI cc, vR rn, vR rc, vR rv, vR rw, vI ff, vI mm, vI dd, (own_s qa), (own_s qb)] [])) := fun t k => k
 obtain ⟨cl1, Arcl1, hincl1, hatcl1⟩ := AF.at A_rn (j := (mm + dd)) sn hsn hsl
 obtain ⟨cl2, Arcl2, hincl2, -⟩ := AF.at A_rv (j := ((ff * cc) + dd)) an hat hal
 obtain ⟨T3, h3, X3, e3, W3, st3⟩ := stI X0 hx hZ e0 Arcl2 (j := ((ff * cc) + dd)) hincl2 (g := (mkF m 91 #[vR ra, vI oc, vI cc, vR rn, vR rc, vR rv, vR rw, vI ff, vI mm, vI dd, vI ((ff * cc) + dd), vI (mm + dd)] [(.int (-1 : Int32)), (.int ((ff * cc) + dd)), (.ref rv)])) rfl rfl (hb hby d17_91)
 have pre4 : oP p e below (T3.setTop (mkF m 50 #[vR ra, vI oc, vI cc, vR rn, vR rc, vR rv, vR rw, vI ff, vI mm, vI (dd + (1 : Int32)), vI ((ff * cc) + dd), vI (mm + dd)] [])) (T0.setTop (mkF m 50 #[vR ra, vI oc, vI cc, vR rn, vR rc, vR rv, vR rw, vI ff, vI mm, vI dd, (own_s qa), (own_s qb)] [])) := by
  intro t k
  refine pre0 _ ?_
  refine XS.iload X0.here hx rfl (hb hby d17_50) rfl ?_
  refine XS.iloadN X0.here hx rfl (hb hby d17_52) rfl ?_
  refine XS.icmpNo X0.here hx rfl (hb hby d17_53) rfl (tlt hc53).2.1 ?_
  refine XS.iload X0.here hx rfl (hb hby d17_56) rfl ?_
  refine XS.iloadN X0.here hx rfl (hb hby d17_58) rfl ?_
  refine XS.imul X0.here hx rfl (hb hby d17_59) rfl ?_
  refine XS.iload X0.here hx rfl (hb hby d17_60) rfl ?_
  refine XS.iadd X0.here hx rfl (hb hby d17_62) rfl ?_
  refine XS.istore X0.here hx rfl (hb hby d17_63) rfl (l' := #[vR ra, vI oc, vI cc, vR rn, vR rc, vR rv, vR rw, vI ff, vI mm, vI dd, vI ((ff * cc) + dd), (own_s qb)]) (by cases qa <;> rfl) ?_
  refine XS.iload X0.here hx rfl (hb hby d17_65) rfl ?_
  refine XS.iload X0.here hx rfl (hb hby d17_67) rfl ?_
  refine XS.iadd X0.here hx rfl (hb hby d17_69) rfl ?_
  refine XS.istore X0.here hx rfl (hb hby d17_70) rfl (l' := #[vR ra, vI oc, vI cc, vR rn, vR rc, vR rv, vR rw, vI ff, vI mm, vI dd, vI ((ff * cc) + dd), vI (mm + dd)]) (by cases qb <;> rfl) ?_
  refine XS.iload X0.here hx rfl (hb hby d17_72) rfl ?_
  refine XS.iloadN X0.here hx rfl (hb hby d17_74) rfl ?_
  refine XS.icmpNo X0.here hx rfl (hb hby d17_75) rfl (feq hc75).1 ?_
  refine XS.aloadN X0.here hx rfl (hb hby d17_78) rfl rfl ?_
  refine XS.iload X0.here hx rfl (hb hby d17_79) rfl ?_
  refine X0.iaload hx (j := (mm + dd)) (v := (.int (fn sn))) (by rw [e0]; exact Arcl1.1) (State.isArrayOf_alike hZ.alike Arcl1.2.1) Arcl1.2.2 hincl1 hatcl1 (g := (mkF m 81 #[vR ra, vI oc, vI cc, vR rn, vR rc, vR rv, vR rw, vI ff, vI mm, vI dd, vI ((ff * cc) + dd), vI (mm + dd)] [(.int (mm + dd)), (.ref rn)])) rfl rfl (hb hby d17_81) _ ?_
  refine XS.iloadN X0.here hx rfl (hb hby d17_82) rfl ?_
  refine XS.icmpNo X0.here hx rfl (hb hby d17_83) rfl (teq hc83).2 ?_
  refine XS.aload X0.here hx rfl (hb hby d17_86) rfl rfl ?_
  refine XS.iload X0.here hx rfl (hb hby d17_88) rfl ?_
  refine XS.iconst X0.here hx rfl (hb hby d17_90) ?_
  refine st3 _ ?_
  refine XS.goto X3.here hx rfl (pc0 := 92) (pc' := 122) rfl (hb hby d17_92) (by decide) (by decide) ?_
  refine XS.iinc X3.here hx rfl (hb hby d17_122) rfl (l' := #[vR ra, vI oc, vI cc, vR rn, vR rc, vR rv, vR rw, vI ff, vI mm, vI (dd + (1 : Int32)), vI ((ff * cc) + dd), vI (mm + dd)]) rfl ?_
  refine XS.goto X3.here hx rfl (pc0 := 125) (pc' := 50) rfl (hb hby d17_125) (by decide) (by decide) ?_
  exact k
 exact ⟨_, _, X3, e3, W3, pre4⟩
theorem d17_95 : D_16 95 = .ok (.aload 5, 2) := by decide +kernel
theorem d17_97 : D_16 97 = .ok (.iload 10, 2) := by decide +kernel
theorem d17_99 : D_16 99 = .ok (.aload_n 3, 1) := by decide +kernel
theorem d17_100 : D_16 100 = .ok (.iload 11, 2) := by decide +kernel
theorem d17_102 : D_16 102 = .ok (.iaload, 1) := by decide +kernel
theorem d17_103 : D_16 103 = .ok (.iload_n 2, 1) := by decide +kernel
theorem d17_104 : D_16 104 = .ok (.imul, 1) := by decide +kernel
theorem d17_105 : D_16 105 = .ok (.iastore, 1) := by decide +kernel
set_option maxRecDepth 65536 in
set_option maxHeartbeats 40000000 in
theorem twC {p : Program} {l : Launch} {e : Env} {R : Room} {s : State} {m : MethodId} {args : Array Value} {below : List Frame} {meth : Method} {c : Code} {T0 : State} {locs : List Loc} {cells slots : Nat} {Z : State} {a0 : Array Value} {h0 : Heap} (ra : Addr) (oc : Int32) (cc : Int32) (rn : Addr) (rc : Addr) (rv : Addr) (rw : Addr) (ff : Int32) (mm : Int32) (dd : Int32) (qa : Option Int32) (qb : Option Int32) (an : Nat) (sn : Nat) (nn : Nat) (nv : Nat) (fn : Nat → Int32) (fc : Nat → Int32) (fv : Nat → Int32) (fw : Nat → Int32)
  (X0 : Stand p l e R s m args below meth c T0 locs cells slots) (hx : p.tables.exec = Jvm.exec) (hZ : Z.Warmed39 s.vm) (hw : ∀ d ∈ tables_1, d.before a0 Z = true) (hby : c.code = prog_23_method_8_code) (hml : c.maxLocals = 12) (hown : s.vm.findClass cS0 = some m.cls) (e0 : T0.heap = h0) (A_rn : AI Z h0 rn .int nn fn) (A_rc : AI Z h0 rc .int nn fc) (A_rv : AI Z h0 rv .int nv fv) (A_rw : AI Z h0 rw .int nv fw) (hat : ((ff * cc) + dd).toInt = (an : Int)) (hal : an < nv) (hsn : (mm + dd).toInt = (sn : Int)) (hsl : sn < nn) (hc53 : (dd < cc)) (hc75 : ¬ (mm = oc)) (hc83 : ¬ ((fn sn) = oc)) :
  ∃ (T' : State) (h' : Heap), Stand p l e R s m args below meth c T' (locs ++ [⟨rv, ((ff * cc) + dd).toNatClampNeg⟩]) cells slots ∧ T'.heap = h' ∧ Wr h0 h' rv ((ff * cc) + dd).toNatClampNeg (.int ((fn sn) * cc)) ∧ ∀ t, Steps p.tables e below (T'.setTop (mkF m 106 #[vR ra, vI oc, vI cc, vR rn, vR rc, vR rv, vR rw, vI ff, vI mm, vI dd, vI ((ff * cc) + dd), vI (mm + dd)] [])) t → Steps p.tables e below (T0.setTop (mkF m 50 #[vR ra, vI oc, vI cc, vR rn, vR rc, vR rv, vR rw, vI ff, vI mm, vI dd, (own_s qa), (own_s qb)] [])) t := by
 have pre0 : oP p e below (T0.setTop (mkF m 50 #[vR ra, vI oc, vI cc, vR rn, vR rc, vR rv, vR rw, vI ff, vI mm, vI dd, (own_s qa), (own_s qb)] [])) (T0.setTop (mkF m 50 #[vR ra, vI oc, vI cc, vR rn, vR rc, vR rv, vR rw, vI ff, vI mm, vI dd, (own_s qa), (own_s qb)] [])) := fun t k => k
 obtain ⟨cl1, Arcl1, hincl1, hatcl1⟩ := AF.at A_rn (j := (mm + dd)) sn hsn hsl
 obtain ⟨cl2, Arcl2, hincl2, hatcl2⟩ := AF.at A_rn (j := (mm + dd)) sn hsn hsl
 obtain ⟨cl3, Arcl3, hincl3, -⟩ := AF.at A_rv (j := ((ff * cc) + dd)) an hat hal
 obtain ⟨T4, h4, X4, e4, W4, st4⟩ := stI X0 hx hZ e0 Arcl3 (j := ((ff * cc) + dd)) hincl3 (g := (mkF m 105 #[vR ra, vI oc, vI cc, vR rn, vR rc, vR rv, vR rw, vI ff, vI mm, vI dd, vI ((ff * cc) + dd), vI (mm + dd)] [(.int ((fn sn) * cc)), (.int ((ff * cc) + dd)), (.ref rv)])) rfl rfl (hb hby d17_105)
 have pre5 : oP p e below (T4.setTop (mkF m 106 #[vR ra, vI oc, vI cc, vR rn, vR rc, vR rv, vR rw, vI ff, vI mm, vI dd, vI ((ff * cc) + dd), vI (mm + dd)] [])) (T0.setTop (mkF m 50 #[vR ra, vI oc, vI cc, vR rn, vR rc, vR rv, vR rw, vI ff, vI mm, vI dd, (own_s qa), (own_s qb)] [])) := by
  intro t k
  refine pre0 _ ?_
  refine XS.iload X0.here hx rfl (hb hby d17_50) rfl ?_
  refine XS.iloadN X0.here hx rfl (hb hby d17_52) rfl ?_
  refine XS.icmpNo X0.here hx rfl (hb hby d17_53) rfl (tlt hc53).2.1 ?_
  refine XS.iload X0.here hx rfl (hb hby d17_56) rfl ?_
  refine XS.iloadN X0.here hx rfl (hb hby d17_58) rfl ?_
  refine XS.imul X0.here hx rfl (hb hby d17_59) rfl ?_
  refine XS.iload X0.here hx rfl (hb hby d17_60) rfl ?_
  refine XS.iadd X0.here hx rfl (hb hby d17_62) rfl ?_
  refine XS.istore X0.here hx rfl (hb hby d17_63) rfl (l' := #[vR ra, vI oc, vI cc, vR rn, vR rc, vR rv, vR rw, vI ff, vI mm, vI dd, vI ((ff * cc) + dd), (own_s qb)]) (by cases qa <;> rfl) ?_
  refine XS.iload X0.here hx rfl (hb hby d17_65) rfl ?_
  refine XS.iload X0.here hx rfl (hb hby d17_67) rfl ?_
  refine XS.iadd X0.here hx rfl (hb hby d17_69) rfl ?_
  refine XS.istore X0.here hx rfl (hb hby d17_70) rfl (l' := #[vR ra, vI oc, vI cc, vR rn, vR rc, vR rv, vR rw, vI ff, vI mm, vI dd, vI ((ff * cc) + dd), vI (mm + dd)]) (by cases qb <;> rfl) ?_
  refine XS.iload X0.here hx rfl (hb hby d17_72) rfl ?_
  refine XS.iloadN X0.here hx rfl (hb hby d17_74) rfl ?_
  refine XS.icmpNo X0.here hx rfl (hb hby d17_75) rfl (feq hc75).1 ?_
  refine XS.aloadN X0.here hx rfl (hb hby d17_78) rfl rfl ?_
  refine XS.iload X0.here hx rfl (hb hby d17_79) rfl ?_
  refine X0.iaload hx (j := (mm + dd)) (v := (.int (fn sn))) (by rw [e0]; exact Arcl1.1) (State.isArrayOf_alike hZ.alike Arcl1.2.1) Arcl1.2.2 hincl1 hatcl1 (g := (mkF m 81 #[vR ra, vI oc, vI cc, vR rn, vR rc, vR rv, vR rw, vI ff, vI mm, vI dd, vI ((ff * cc) + dd), vI (mm + dd)] [(.int (mm + dd)), (.ref rn)])) rfl rfl (hb hby d17_81) _ ?_
  refine XS.iloadN X0.here hx rfl (hb hby d17_82) rfl ?_
  refine XS.icmpYes X0.here hx rfl (pc0 := 83) (pc' := 95) rfl (hb hby d17_83) rfl (feq hc83).2 (by decide) (by decide) ?_
  refine XS.aload X0.here hx rfl (hb hby d17_95) rfl rfl ?_
  refine XS.iload X0.here hx rfl (hb hby d17_97) rfl ?_
  refine XS.aloadN X0.here hx rfl (hb hby d17_99) rfl rfl ?_
  refine XS.iload X0.here hx rfl (hb hby d17_100) rfl ?_
  refine X0.iaload hx (j := (mm + dd)) (v := (.int (fn sn))) (by rw [e0]; exact Arcl2.1) (State.isArrayOf_alike hZ.alike Arcl2.2.1) Arcl2.2.2 hincl2 hatcl2 (g := (mkF m 102 #[vR ra, vI oc, vI cc, vR rn, vR rc, vR rv, vR rw, vI ff, vI mm, vI dd, vI ((ff * cc) + dd), vI (mm + dd)] [(.int (mm + dd)), (.ref rn), (.int ((ff * cc) + dd)), (.ref rv)])) rfl rfl (hb hby d17_102) _ ?_
  refine XS.iloadN X0.here hx rfl (hb hby d17_103) rfl ?_
  refine XS.imul X0.here hx rfl (hb hby d17_104) rfl ?_
  refine st4 _ ?_
  exact k
 exact ⟨_, _, X4, e4, W4, pre5⟩
theorem d17_106 : D_16 106 = .ok (.aload 6, 2) := by decide +kernel
theorem d17_108 : D_16 108 = .ok (.iload 10, 2) := by decide +kernel
theorem d17_110 : D_16 110 = .ok (.aload 4, 2) := by decide +kernel
theorem d17_112 : D_16 112 = .ok (.iload 7, 2) := by decide +kernel
theorem d17_114 : D_16 114 = .ok (.iaload, 1) := by decide +kernel
theorem d17_115 : D_16 115 = .ok (.aload 4, 2) := by decide +kernel
theorem d17_117 : D_16 117 = .ok (.iload 11, 2) := by decide +kernel
theorem d17_119 : D_16 119 = .ok (.iaload, 1) := by decide +kernel
theorem d17_120 : D_16 120 = .ok (.iadd, 1) := by decide +kernel
theorem d17_121 : D_16 121 = .ok (.iastore, 1) := by decide +kernel
set_option maxRecDepth 65536 in
set_option maxHeartbeats 40000000 in
theorem twD {p : Program} {l : Launch} {e : Env} {R : Room} {s : State} {m : MethodId} {args : Array Value} {below : List Frame} {meth : Method} {c : Code} {T0 : State} {locs : List Loc} {cells slots : Nat} {Z : State} {a0 : Array Value} {h0 : Heap} (ra : Addr) (oc : Int32) (cc : Int32) (rn : Addr) (rc : Addr) (rv : Addr) (rw : Addr) (ff : Int32) (mm : Int32) (dd : Int32) (an : Nat) (sn : Nat) (fi : Nat) (nn : Nat) (nv : Nat) (fn : Nat → Int32) (fc : Nat → Int32) (fv : Nat → Int32) (fw : Nat → Int32)
  (X0 : Stand p l e R s m args below meth c T0 locs cells slots) (hx : p.tables.exec = Jvm.exec) (hZ : Z.Warmed39 s.vm) (hw : ∀ d ∈ tables_1, d.before a0 Z = true) (hby : c.code = prog_23_method_8_code) (hml : c.maxLocals = 12) (hown : s.vm.findClass cS0 = some m.cls) (e0 : T0.heap = h0) (A_rn : AI Z h0 rn .int nn fn) (A_rc : AI Z h0 rc .int nn fc) (A_rv : AI Z h0 rv .int nv fv) (A_rw : AI Z h0 rw .int nv fw) (hat : ((ff * cc) + dd).toInt = (an : Int)) (hal : an < nv) (hsn : (mm + dd).toInt = (sn : Int)) (hsl : sn < nn) (hff : ff.toInt = (fi : Int)) (hfl : fi < nn) :
  ∃ (T' : State) (h' : Heap), Stand p l e R s m args below meth c T' (locs ++ [⟨rw, ((ff * cc) + dd).toNatClampNeg⟩]) cells slots ∧ T'.heap = h' ∧ Wr h0 h' rw ((ff * cc) + dd).toNatClampNeg (.int ((fc fi) + (fc sn))) ∧ ∀ t, Steps p.tables e below (T'.setTop (mkF m 50 #[vR ra, vI oc, vI cc, vR rn, vR rc, vR rv, vR rw, vI ff, vI mm, vI (dd + (1 : Int32)), vI ((ff * cc) + dd), vI (mm + dd)] [])) t → Steps p.tables e below (T0.setTop (mkF m 106 #[vR ra, vI oc, vI cc, vR rn, vR rc, vR rv, vR rw, vI ff, vI mm, vI dd, vI ((ff * cc) + dd), vI (mm + dd)] [])) t := by
 have pre0 : oP p e below (T0.setTop (mkF m 106 #[vR ra, vI oc, vI cc, vR rn, vR rc, vR rv, vR rw, vI ff, vI mm, vI dd, vI ((ff * cc) + dd), vI (mm + dd)] [])) (T0.setTop (mkF m 106 #[vR ra, vI oc, vI cc, vR rn, vR rc, vR rv, vR rw, vI ff, vI mm, vI dd, vI ((ff * cc) + dd), vI (mm + dd)] [])) := fun t k => k
 obtain ⟨cl1, Arcl1, hincl1, hatcl1⟩ := AF.at A_rc (j := ff) fi hff hfl
 obtain ⟨cl2, Arcl2, hincl2, hatcl2⟩ := AF.at A_rc (j := (mm + dd)) sn hsn hsl
 obtain ⟨cl3, Arcl3, hincl3, -⟩ := AF.at A_rw (j := ((ff * cc) + dd)) an hat hal
 obtain ⟨T4, h4, X4, e4, W4, st4⟩ := stI X0 hx hZ e0 Arcl3 (j := ((ff * cc) + dd)) hincl3 (g := (mkF m 121 #[vR ra, vI oc, vI cc, vR rn, vR rc, vR rv, vR rw, vI ff, vI mm, vI dd, vI ((ff * cc) + dd), vI (mm + dd)] [(.int ((fc fi) + (fc sn))), (.int ((ff * cc) + dd)), (.ref rw)])) rfl rfl (hb hby d17_121)
 have pre5 : oP p e below (T4.setTop (mkF m 50 #[vR ra, vI oc, vI cc, vR rn, vR rc, vR rv, vR rw, vI ff, vI mm, vI (dd + (1 : Int32)), vI ((ff * cc) + dd), vI (mm + dd)] [])) (T0.setTop (mkF m 106 #[vR ra, vI oc, vI cc, vR rn, vR rc, vR rv, vR rw, vI ff, vI mm, vI dd, vI ((ff * cc) + dd), vI (mm + dd)] [])) := by
  intro t k
  refine pre0 _ ?_
  refine XS.aload X0.here hx rfl (hb hby d17_106) rfl rfl ?_
  refine XS.iload X0.here hx rfl (hb hby d17_108) rfl ?_
  refine XS.aload X0.here hx rfl (hb hby d17_110) rfl rfl ?_
  refine XS.iload X0.here hx rfl (hb hby d17_112) rfl ?_
  refine X0.iaload hx (j := ff) (v := (.int (fc fi))) (by rw [e0]; exact Arcl1.1) (State.isArrayOf_alike hZ.alike Arcl1.2.1) Arcl1.2.2 hincl1 hatcl1 (g := (mkF m 114 #[vR ra, vI oc, vI cc, vR rn, vR rc, vR rv, vR rw, vI ff, vI mm, vI dd, vI ((ff * cc) + dd), vI (mm + dd)] [(.int ff), (.ref rc), (.int ((ff * cc) + dd)), (.ref rw)])) rfl rfl (hb hby d17_114) _ ?_
  refine XS.aload X0.here hx rfl (hb hby d17_115) rfl rfl ?_
  refine XS.iload X0.here hx rfl (hb hby d17_117) rfl ?_
  refine X0.iaload hx (j := (mm + dd)) (v := (.int (fc sn))) (by rw [e0]; exact Arcl2.1) (State.isArrayOf_alike hZ.alike Arcl2.2.1) Arcl2.2.2 hincl2 hatcl2 (g := (mkF m 119 #[vR ra, vI oc, vI cc, vR rn, vR rc, vR rv, vR rw, vI ff, vI mm, vI dd, vI ((ff * cc) + dd), vI (mm + dd)] [(.int (mm + dd)), (.ref rc), (.int (fc fi)), (.int ((ff * cc) + dd)), (.ref rw)])) rfl rfl (hb hby d17_119) _ ?_
  refine XS.iadd X0.here hx rfl (hb hby d17_120) rfl ?_
  refine st4 _ ?_
  refine XS.iinc X4.here hx rfl (hb hby d17_122) rfl (l' := #[vR ra, vI oc, vI cc, vR rn, vR rc, vR rv, vR rw, vI ff, vI mm, vI (dd + (1 : Int32)), vI ((ff * cc) + dd), vI (mm + dd)]) rfl ?_
  refine XS.goto X4.here hx rfl (pc0 := 125) (pc' := 50) rfl (hb hby d17_125) (by decide) (by decide) ?_
  exact k
 exact ⟨_, _, X4, e4, W4, pre5⟩
theorem d17_128 : D_16 128 = .ok (.iinc 7 1, 3) := by decide +kernel
theorem d17_131 : D_16 131 = .ok (.goto (-97), 3) := by decide +kernel
set_option maxRecDepth 65536 in
set_option maxHeartbeats 40000000 in
theorem twE {p : Program} {l : Launch} {e : Env} {R : Room} {s : State} {m : MethodId} {args : Array Value} {below : List Frame} {meth : Method} {c : Code} {T0 : State} {locs : List Loc} {cells slots : Nat} {Z : State} {a0 : Array Value} {h0 : Heap} (ra : Addr) (oc : Int32) (cc : Int32) (rn : Addr) (rc : Addr) (rv : Addr) (rw : Addr) (ff : Int32) (mm : Int32) (dd : Int32) (qa : Option Int32) (qb : Option Int32)
  (X0 : Stand p l e R s m args below meth c T0 locs cells slots) (hx : p.tables.exec = Jvm.exec) (hZ : Z.Warmed39 s.vm) (hw : ∀ d ∈ tables_1, d.before a0 Z = true) (hby : c.code = prog_23_method_8_code) (hml : c.maxLocals = 12) (hown : s.vm.findClass cS0 = some m.cls) (e0 : T0.heap = h0) (hc53 : ¬ (dd < cc)) :
  ∃ T' : State, Stand p l e R s m args below meth c T' locs cells slots ∧ T'.heap = h0 ∧ ∀ t, Steps p.tables e below (T'.setTop (mkF m 34 #[vR ra, vI oc, vI cc, vR rn, vR rc, vR rv, vR rw, vI (ff + (1 : Int32)), vI mm, vI dd, (own_s qa), (own_s qb)] [])) t → Steps p.tables e below (T0.setTop (mkF m 50 #[vR ra, vI oc, vI cc, vR rn, vR rc, vR rv, vR rw, vI ff, vI mm, vI dd, (own_s qa), (own_s qb)] [])) t := by
 have pre0 : oP p e below (T0.setTop (mkF m 50 #[vR ra, vI oc, vI cc, vR rn, vR rc, vR rv, vR rw, vI ff, vI mm, vI dd, (own_s qa), (own_s qb)] [])) (T0.setTop (mkF m 50 #[vR ra, vI oc, vI cc, vR rn, vR rc, vR rv, vR rw, vI ff, vI mm, vI dd, (own_s qa), (own_s qb)] [])) := fun t k => k
 have pre1 : oP p e below (T0.setTop (mkF m 34 #[vR ra, vI oc, vI cc, vR rn, vR rc, vR rv, vR rw, vI (ff + (1 : Int32)), vI mm, vI dd, (own_s qa), (own_s qb)] [])) (T0.setTop (mkF m 50 #[vR ra, vI oc, vI cc, vR rn, vR rc, vR rv, vR rw, vI ff, vI mm, vI dd, (own_s qa), (own_s qb)] [])) := by
  intro t k
  refine pre0 _ ?_
  refine XS.iload X0.here hx rfl (hb hby d17_50) rfl ?_
  refine XS.iloadN X0.here hx rfl (hb hby d17_52) rfl ?_
  refine XS.icmpYes X0.here hx rfl (pc0 := 53) (pc' := 128) rfl (hb hby d17_53) rfl (flt hc53).2.1 (by decide) (by decide) ?_
  refine XS.iinc X0.here hx rfl (hb hby d17_128) rfl (l' := #[vR ra, vI oc, vI cc, vR rn, vR rc, vR rv, vR rw, vI (ff + (1 : Int32)), vI mm, vI dd, (own_s qa), (own_s qb)]) rfl ?_
  refine XS.goto X0.here hx rfl (pc0 := 131) (pc' := 34) rfl (hb hby d17_131) (by decide) (by decide) ?_
  exact k
 exact ⟨_, X0, e0, pre1⟩
theorem d17_34 : D_16 34 = .ok (.iload 7, 2) := by decide +kernel
theorem d17_36 : D_16 36 = .ok (.aload_n 3, 1) := by decide +kernel
theorem d17_37 : D_16 37 = .ok (.arraylength, 1) := by decide +kernel
theorem d17_38 : D_16 38 = .ok (.if_icmp .ge 96, 3) := by decide +kernel
theorem d17_41 : D_16 41 = .ok (.aload_n 3, 1) := by decide +kernel
theorem d17_42 : D_16 42 = .ok (.iload 7, 2) := by decide +kernel
theorem d17_44 : D_16 44 = .ok (.iaload, 1) := by decide +kernel
theorem d17_45 : D_16 45 = .ok (.istore 8, 2) := by decide +kernel
theorem d17_47 : D_16 47 = .ok (.iconst 0, 1) := by decide +kernel
theorem d17_48 : D_16 48 = .ok (.istore 9, 2) := by decide +kernel
set_option maxRecDepth 65536 in
set_option maxHeartbeats 40000000 in
theorem twH {p : Program} {l : Launch} {e : Env} {R : Room} {s : State} {m : MethodId} {args : Array Value} {below : List Frame} {meth : Method} {c : Code} {T0 : State} {locs : List Loc} {cells slots : Nat} {Z : State} {a0 : Array Value} {h0 : Heap} (ra : Addr) (oc : Int32) (cc : Int32) (rn : Addr) (rc : Addr) (rv : Addr) (rw : Addr) (ff : Int32) (qm : Option Int32) (qd : Option Int32) (qa : Option Int32) (qb : Option Int32) (fi : Nat) (nn : Nat) (fn : Nat → Int32)
  (X0 : Stand p l e R s m args below meth c T0 locs cells slots) (hx : p.tables.exec = Jvm.exec) (hZ : Z.Warmed39 s.vm) (hw : ∀ d ∈ tables_1, d.before a0 Z = true) (hby : c.code = prog_23_method_8_code) (hml : c.maxLocals = 12) (hown : s.vm.findClass cS0 = some m.cls) (e0 : T0.heap = h0) (A_rn : AI Z h0 rn .int nn fn) (hff : ff.toInt = (fi : Int)) (hfl : fi < nn) (hc38 : (ff < nn.toInt32)) :
  ∃ T' : State, Stand p l e R s m args below meth c T' locs cells slots ∧ T'.heap = h0 ∧ ∀ t, Steps p.tables e below (T'.setTop (mkF m 50 #[vR ra, vI oc, vI cc, vR rn, vR rc, vR rv, vR rw, vI ff, vI (fn fi), vI 0, (own_s qa), (own_s qb)] [])) t → Steps p.tables e below (T0.setTop (mkF m 34 #[vR ra, vI oc, vI cc, vR rn, vR rc, vR rv, vR rw, vI ff, (own_s qm), (own_s qd), (own_s qa), (own_s qb)] [])) t := by
 have pre0 : oP p e below (T0.setTop (mkF m 34 #[vR ra, vI oc, vI cc, vR rn, vR rc, vR rv, vR rw, vI ff, (own_s qm), (own_s qd), (own_s qa), (own_s qb)] [])) (T0.setTop (mkF m 34 #[vR ra, vI oc, vI cc, vR rn, vR rc, vR rv, vR rw, vI ff, (own_s qm), (own_s qd), (own_s qa), (own_s qb)] [])) := fun t k => k
 obtain ⟨cl1, Arcl1, Szcl1⟩ := AF.len A_rn
 obtain ⟨cl2, Arcl2, hincl2, hatcl2⟩ := AF.at A_rn (j := ff) fi hff hfl
 have pre3 : oP p e below (T0.setTop (mkF m 50 #[vR ra, vI oc, vI cc, vR rn, vR rc, vR rv, vR rw, vI ff, vI (fn fi), vI 0, (own_s qa), (own_s qb)] [])) (T0.setTop (mkF m 34 #[vR ra, vI oc, vI cc, vR rn, vR rc, vR rv, vR rw, vI ff, (own_s qm), (own_s qd), (own_s qa), (own_s qb)] [])) := by
  intro t k
  refine pre0 _ ?_
  refine XS.iload X0.here hx rfl (hb hby d17_34) rfl ?_
  refine XS.aloadN X0.here hx rfl (hb hby d17_36) rfl rfl ?_
  refine X0.arraylength hx (by rw [e0]; exact Arcl1.1) (State.isArrayOf_alike hZ.alike Arcl1.2.1) (g := (mkF m 37 #[vR ra, vI oc, vI cc, vR rn, vR rc, vR rv, vR rw, vI ff, (own_s qm), (own_s qd), (own_s qa), (own_s qb)] [(.ref rn), (.int ff)])) rfl rfl (hb hby d17_37) _ ?_
  rw [Szcl1]
  refine XS.icmpNo X0.here hx rfl (hb hby d17_38) rfl (tlt hc38).2.1 ?_
  refine XS.aloadN X0.here hx rfl (hb hby d17_41) rfl rfl ?_
  refine XS.iload X0.here hx rfl (hb hby d17_42) rfl ?_
  refine X0.iaload hx (j := ff) (v := (.int (fn fi))) (by rw [e0]; exact Arcl2.1) (State.isArrayOf_alike hZ.alike Arcl2.2.1) Arcl2.2.2 hincl2 hatcl2 (g := (mkF m 44 #[vR ra, vI oc, vI cc, vR rn, vR rc, vR rv, vR rw, vI ff, (own_s qm), (own_s qd), (own_s qa), (own_s qb)] [(.int ff), (.ref rn)])) rfl rfl (hb hby d17_44) _ ?_
  refine XS.istore X0.here hx rfl (hb hby d17_45) rfl (l' := #[vR ra, vI oc, vI cc, vR rn, vR rc, vR rv, vR rw, vI ff, vI (fn fi), (own_s qd), (own_s qa), (own_s qb)]) (by cases qm <;> rfl) ?_
  refine XS.iconst X0.here hx rfl (hb hby d17_47) ?_
  refine XS.istore X0.here hx rfl (hb hby d17_48) rfl (l' := #[vR ra, vI oc, vI cc, vR rn, vR rc, vR rv, vR rw, vI ff, vI (fn fi), vI 0, (own_s qa), (own_s qb)]) (by cases qd <;> rfl) ?_
  exact k
 exact ⟨_, X0, e0, pre3⟩
set_option maxRecDepth 65536 in
set_option maxHeartbeats 40000000 in
theorem twX {p : Program} {l : Launch} {e : Env} {R : Room} {s : State} {m : MethodId} {args : Array Value} {below : List Frame} {meth : Method} {c : Code} {T0 : State} {locs : List Loc} {cells slots : Nat} {Z : State} {a0 : Array Value} {h0 : Heap} (ra : Addr) (oc : Int32) (cc : Int32) (rn : Addr) (rc : Addr) (rv : Addr) (rw : Addr) (ff : Int32) (qm : Option Int32) (qd : Option Int32) (qa : Option Int32) (qb : Option Int32) (nn : Nat) (fn : Nat → Int32)
  (X0 : Stand p l e R s m args below meth c T0 locs cells slots) (hx : p.tables.exec = Jvm.exec) (hZ : Z.Warmed39 s.vm) (hw : ∀ d ∈ tables_1, d.before a0 Z = true) (hby : c.code = prog_23_method_8_code) (hml : c.maxLocals = 12) (hown : s.vm.findClass cS0 = some m.cls) (e0 : T0.heap = h0) (A_rn : AI Z h0 rn .int nn fn) (hc38 : ¬ (ff < nn.toInt32)) :
  ∃ T' : State, Stand p l e R s m args below meth c T' locs cells slots ∧ T'.heap = h0 ∧ ∀ t, Steps p.tables e below (T'.setTop (mkF m 134 #[vR ra, vI oc, vI cc, vR rn, vR rc, vR rv, vR rw, vI ff, (own_s qm), (own_s qd), (own_s qa), (own_s qb)] [])) t → Steps p.tables e below (T0.setTop (mkF m 34 #[vR ra, vI oc, vI cc, vR rn, vR rc, vR rv, vR rw, vI ff, (own_s qm), (own_s qd), (own_s qa), (own_s qb)] [])) t := by
 have pre0 : oP p e below (T0.setTop (mkF m 34 #[vR ra, vI oc, vI cc, vR rn, vR rc, vR rv, vR rw, vI ff, (own_s qm), (own_s qd), (own_s qa), (own_s qb)] [])) (T0.setTop (mkF m 34 #[vR ra, vI oc, vI cc, vR rn, vR rc, vR rv, vR rw, vI ff, (own_s qm), (own_s qd), (own_s qa), (own_s qb)] [])) := fun t k => k
 obtain ⟨cl1, Arcl1, Szcl1⟩ := AF.len A_rn
 have pre2 : oP p e below (T0.setTop (mkF m 134 #[vR ra, vI oc, vI cc, vR rn, vR rc, vR rv, vR rw, vI ff, (own_s qm), (own_s qd), (own_s qa), (own_s qb)] [])) (T0.setTop (mkF m 34 #[vR ra, vI oc, vI cc, vR rn, vR rc, vR rv, vR rw, vI ff, (own_s qm), (own_s qd), (own_s qa), (own_s qb)] [])) := by
  intro t k
  refine pre0 _ ?_
  refine XS.iload X0.here hx rfl (hb hby d17_34) rfl ?_
  refine XS.aloadN X0.here hx rfl (hb hby d17_36) rfl rfl ?_
  refine X0.arraylength hx (by rw [e0]; exact Arcl1.1) (State.isArrayOf_alike hZ.alike Arcl1.2.1) (g := (mkF m 37 #[vR ra, vI oc, vI cc, vR rn, vR rc, vR rv, vR rw, vI ff, (own_s qm), (own_s qd), (own_s qa), (own_s qb)] [(.ref rn), (.int ff)])) rfl rfl (hb hby d17_37) _ ?_
  rw [Szcl1]
  refine XS.icmpYes X0.here hx rfl (pc0 := 38) (pc' := 134) rfl (hb hby d17_38) rfl (flt hc38).2.1 (by decide) (by decide) ?_
  exact k
 exact ⟨_, X0, e0, pre2⟩
def own_okv (nn cn : Nat) (v : Int32) : Prop := v = (-1 : Int32) ∨ ∃ k : Nat, v.toInt = (k : Int) ∧ k + cn * cn ≤ nn * cn
def own_okh (nn cn : Nat) (oc v : Int32) : Prop := v = oc ∨ ∃ k : Nat, v.toInt = (k : Int) ∧ k + cn ≤ nn
theorem own_upP {P : Int32 → Prop} {f : Nat → Int32} {n i : Nat} {v : Int32} (h : ∀ j, j < n → P (f j)) (hv : P v) : ∀ j, j < n → P (up f i v j) := by
 intro j hj
 unfold up
 by_cases q : j = i
 ·rw [if_pos q]; exact hv
 ·rw [if_neg q]; exact h j hj
theorem own_at {ff cc dd : Int32} {ffn cn ddn nn : Nat} (hff : ff.toInt = (ffn : Int)) (hcc : cc.toInt = (cn : Int)) (hdd : dd.toInt = (ddn : Int)) (hfl : ffn < nn) (hdl : ddn < cn) (hcap : nn * cn ≤ 1024) : ((ff * cc) + dd).toInt = ((ffn * cn + ddn : Nat) : Int) ∧ ffn * cn + ddn < nn * cn := by
 have h1 : (ffn + 1) * cn ≤ nn * cn := Nat.mul_le_mul_right _ hfl
 rw [Nat.succ_mul] at h1
 have h2 : (ff * cc).toInt = ((ffn * cn : Nat) : Int) := by
  have := own_imul hff hcc (by rw [← Int.natCast_mul]; omega) (by rw [← Int.natCast_mul]; omega)
  rw [this, Int.natCast_mul]
 have h3 := own_iadd h2 hdd (by omega) (by omega)
 exact ⟨by rw [h3]; omega, by omega⟩
theorem own_sec {mm dd : Int32} {mn cn ddn nn : Nat} (hmm : mm.toInt = (mn : Int)) (hdd : dd.toInt = (ddn : Int)) (hm : mn + cn ≤ nn) (hdl : ddn < cn) (hn : nn ≤ 1024) : (mm + dd).toInt = ((mn + ddn : Nat) : Int) ∧ mn + ddn < nn := by
 have h3 := own_iadd hmm hdd (by omega) (by omega)
 exact ⟨by rw [h3]; omega, by omega⟩
theorem own_val {v cc : Int32} {k cn nn : Nat} (hv : v.toInt = (k : Int)) (hcc : cc.toInt = (cn : Int)) (hk : k + cn ≤ nn) (hcap : nn * cn ≤ 1024) : own_okv nn cn (v * cc) := by
 have h1 : (k + cn) * cn ≤ nn * cn := Nat.mul_le_mul_right _ hk
 rw [Nat.add_mul] at h1
 have := own_imul hv hcc (by rw [← Int.natCast_mul]; omega) (by rw [← Int.natCast_mul]; omega)
 exact Or.inr ⟨k * cn, by rw [this, Int.natCast_mul], h1⟩
theorem own_nlen {n : Nat} (h : n ≤ 1024) : n.toInt32.toInt = (n : Int) := len_toInt (by omega)
theorem own_inc {d : Int32} {n : Nat} (h : d.toInt = (n : Int)) (hn : n < 1024) : (d + (1 : Int32)).toInt = ((n + 1 : Nat) : Int) := by
 have := own_iadd (y := (1 : Int32)) h (Y := 1) rfl (by omega) (by omega)
 rw [this]; omega
theorem own_nle {nn cn : Nat} (hc : 1 ≤ cn) (hcap : nn * cn ≤ 1024) : nn ≤ 1024 := by
 have : nn * 1 ≤ nn * cn := Nat.mul_le_mul_left _ hc
 omega
set_option maxRecDepth 65536 in
set_option maxHeartbeats 40000000 in
theorem twI {p : Program} {l : Launch} {e : Env} {R : Room} {s : State} {m : MethodId} {args : Array Value} {below : List Frame} {meth : Method} {c : Code} {cells slots : Nat} {Z : State} {a0 : Array Value} {n0 : Nat}
  (ra : Addr) (oc cc : Int32) (rn rc rv rw : Addr) (ff mm : Int32) (nn cn ffn : Nat) (fn fc : Nat → Int32)
  (hx : p.tables.exec = Jvm.exec) (hZ : Z.Warmed39 s.vm) (hw : ∀ d ∈ tables_1, d.before a0 Z = true) (hby : c.code = prog_23_method_8_code) (hml : c.maxLocals = 12) (hown : s.vm.findClass cS0 = some m.cls)
  (hcc : cc.toInt = (cn : Int)) (hc1 : 1 ≤ cn) (hcap : nn * cn ≤ 1024) (hff : ff.toInt = (ffn : Int)) (hfl : ffn < nn) (hmm : own_okh nn cn oc mm) (hfn : ∀ j, j < nn → own_okh nn cn oc (fn j))
  (gv : n0 ≤ rv) (gw : n0 ≤ rw) (n1 : rn ≠ rv) (n2 : rn ≠ rw) (n3 : rc ≠ rv) (n4 : rc ≠ rw) (n5 : rv ≠ rw) :
  ∀ (k : Nat) (T0 : State) (locs : List Loc) (h0 : Heap) (dd : Int32) (ddn : Nat) (qa qb : Option Int32) (fv fw : Nat → Int32), ddn + k = cn → dd.toInt = (ddn : Int) → Stand p l e R s m args below meth c T0 locs cells slots → T0.heap = h0 → Fr n0 locs →
   AI Z h0 rn .int nn fn → AI Z h0 rc .int nn fc → AI Z h0 rv .int (nn * cn) fv → (∀ j, j < nn * cn → own_okv nn cn (fv j)) → AI Z h0 rw .int (nn * cn) fw →
   ∃ (T' : State) (h' : Heap) (L' : List Loc) (dd' : Int32) (qa' qb' : Option Int32) (fv' fw' : Nat → Int32), Stand p l e R s m args below meth c T' L' cells slots ∧ T'.heap = h' ∧ Fr n0 L' ∧ Keep h0 h' [rv, rw] ∧ AI Z h' rv .int (nn * cn) fv' ∧ (∀ j, j < nn * cn → own_okv nn cn (fv' j)) ∧ AI Z h' rw .int (nn * cn) fw' ∧
    ∀ t, Steps p.tables e below (T'.setTop (mkF m 34 #[vR ra, vI oc, vI cc, vR rn, vR rc, vR rv, vR rw, vI (ff + (1 : Int32)), vI mm, vI dd', own_s qa', own_s qb'] [])) t → Steps p.tables e below (T0.setTop (mkF m 50 #[vR ra, vI oc, vI cc, vR rn, vR rc, vR rv, vR rw, vI ff, vI mm, vI dd, own_s qa, own_s qb] [])) t
 | 0, T0, locs, h0, dd, ddn, qa, qb, fv, fw, hk, hdd, X0, e0, N0, A_rn, A_rc, A_rv, hok, A_rw => by
  have hge : ¬ (dd < cc) := by rw [Int32.lt_iff_toInt_lt]; omega
  obtain ⟨T1, X1, e1, st1⟩ := twE ra oc cc rn rc rv rw ff mm dd qa qb X0 hx hZ hw hby hml hown e0 hge
  exact ⟨T1, h0, locs, dd, qa, qb, fv, fw, X1, e1, N0, Keep.refl _ _, A_rv, hok, A_rw, st1⟩
 | k + 1, T0, locs, h0, dd, ddn, qa, qb, fv, fw, hk, hdd, X0, e0, N0, A_rn, A_rc, A_rv, hok, A_rw => by
  have hlt : dd < cc := by rw [Int32.lt_iff_toInt_lt]; omega
  have hnn := own_nle hc1 hcap
  have hdl : ddn < cn := by omega
  obtain ⟨hat, hal⟩ := own_at hff hcc hdd hfl hdl hcap
  have hcn : cn ≤ 1024 := by
   have : 1 * cn ≤ nn * cn := Nat.mul_le_mul_right _ (by omega)
   omega
  have hd1 := own_inc hdd (by omega)
  have again := twI (p := p) (l := l) (e := e) (R := R) (args := args) (below := below) (meth := meth) (cells := cells) (slots := slots) ra oc cc rn rc rv rw ff mm nn cn ffn fn fc hx hZ hw hby hml hown hcc hc1 hcap hff hfl hmm hfn gv gw n1 n2 n3 n4 n5 k
  by_cases q : mm = oc
  ·obtain ⟨T1, h1, X1, e1, W1, st1⟩ := twA ra oc cc rn rc rv rw ff mm dd qa qb (ffn * cn + ddn) nn (nn * cn) fn fc fv fw X0 hx hZ hw hby hml hown e0 A_rn A_rc A_rv A_rw hat hal hlt q
   have N1 := Fr.snoc X1 N0 gv
   obtain ⟨T2, h2, L2, dd2, qa2, qb2, fv2, fw2, X2, e2, N2, K2, A2, ok2, B2, st2⟩ := again T1 _ h1 (dd + (1 : Int32)) (ddn + 1) (some ((ff * cc) + dd)) (some (mm + dd)) _ fw (by omega) hd1 X1 e1 N1 (A_rn.other W1 n1) (A_rc.other W1 n3) (AF.setI A_rv W1 _ hat) (own_upP hok (Or.inl rfl)) (A_rw.other W1 n5.symm)
   exact ⟨T2, h2, L2, dd2, qa2, qb2, fv2, fw2, X2, e2, N2, ((Keep.refl h0 [rv, rw]).wr W1 (Or.inl (List.mem_cons_self ..))).trans K2 (fun x hx => Or.inl hx), A2, ok2, B2, fun t h => st1 t (st2 t h)⟩
  ·obtain ⟨mn, hmn, hml2⟩ : ∃ mn : Nat, mm.toInt = (mn : Int) ∧ mn + cn ≤ nn := hmm.resolve_left q
   obtain ⟨hsn, hsl⟩ := own_sec hmn hdd hml2 hdl hnn
   by_cases q2 : fn (mn + ddn) = oc
   ·obtain ⟨T1, h1, X1, e1, W1, st1⟩ := twB ra oc cc rn rc rv rw ff mm dd qa qb (ffn * cn + ddn) (mn + ddn) nn (nn * cn) fn fc fv fw X0 hx hZ hw hby hml hown e0 A_rn A_rc A_rv A_rw hat hal hsn hsl hlt q q2
    have N1 := Fr.snoc X1 N0 gv
    obtain ⟨T2, h2, L2, dd2, qa2, qb2, fv2, fw2, X2, e2, N2, K2, A2, ok2, B2, st2⟩ := again T1 _ h1 (dd + (1 : Int32)) (ddn + 1) (some ((ff * cc) + dd)) (some (mm + dd)) _ fw (by omega) hd1 X1 e1 N1 (A_rn.other W1 n1) (A_rc.other W1 n3) (AF.setI A_rv W1 _ hat) (own_upP hok (Or.inl rfl)) (A_rw.other W1 n5.symm)
    exact ⟨T2, h2, L2, dd2, qa2, qb2, fv2, fw2, X2, e2, N2, ((Keep.refl h0 [rv, rw]).wr W1 (Or.inl (List.mem_cons_self ..))).trans K2 (fun x hx => Or.inl hx), A2, ok2, B2, fun t h => st1 t (st2 t h)⟩
   ·obtain ⟨vn, hvn, hvl⟩ : ∃ vn : Nat, (fn (mn + ddn)).toInt = (vn : Int) ∧ vn + cn ≤ nn := (hfn _ hsl).resolve_left q2
    obtain ⟨T1, h1, X1, e1, W1, st1⟩ := twC ra oc cc rn rc rv rw ff mm dd qa qb (ffn * cn + ddn) (mn + ddn) nn (nn * cn) fn fc fv fw X0 hx hZ hw hby hml hown e0 A_rn A_rc A_rv A_rw hat hal hsn hsl hlt q q2
    have N1 := Fr.snoc X1 N0 gv
    have B_rn := A_rn.other W1 n1
    have B_rc := A_rc.other W1 n3
    have B_rv := AF.setI A_rv W1 _ hat
    have B_rw := A_rw.other W1 n5.symm
    obtain ⟨T3, h3, X3, e3, W3, st3⟩ := twD ra oc cc rn rc rv rw ff mm dd (ffn * cn + ddn) (mn + ddn) ffn nn (nn * cn) fn fc _ fw X1 hx hZ hw hby hml hown e1 B_rn B_rc B_rv B_rw hat hal hsn hsl hff hfl
    have N3 := Fr.snoc X3 N1 gw
    obtain ⟨T2, h2, L2, dd2, qa2, qb2, fv2, fw2, X2, e2, N2, K2, A2, ok2, B2, st2⟩ := again T3 _ h3 (dd + (1 : Int32)) (ddn + 1) (some ((ff * cc) + dd)) (some (mm + dd)) _ _ (by omega) hd1 X3 e3 N3 (B_rn.other W3 n2) (B_rc.other W3 n4) (B_rv.other W3 n5) (own_upP hok (own_val hvn hcc hvl hcap)) (AF.setI B_rw W3 _ hat)
    exact ⟨T2, h2, L2, dd2, qa2, qb2, fv2, fw2, X2, e2, N2, (((Keep.refl h0 [rv, rw]).wr W1 (Or.inl (List.mem_cons_self ..))).wr W3 (Or.inl (List.mem_cons_of_mem _ (List.mem_cons_self ..)))).trans K2 (fun x hx => Or.inl hx), A2, ok2, B2, fun t h => st1 t (st3 t (st2 t h))⟩
set_option maxRecDepth 65536 in
set_option maxHeartbeats 40000000 in
theorem twO {p : Program} {l : Launch} {e : Env} {R : Room} {s : State} {m : MethodId} {args : Array Value} {below : List Frame} {meth : Method} {c : Code} {cells slots : Nat} {Z : State} {a0 : Array Value} {n0 : Nat}
  (ra : Addr) (oc cc : Int32) (rn rc rv rw : Addr) (nn cn : Nat) (fn fc : Nat → Int32)
  (hx : p.tables.exec = Jvm.exec) (hZ : Z.Warmed39 s.vm) (hw : ∀ d ∈ tables_1, d.before a0 Z = true) (hby : c.code = prog_23_method_8_code) (hml : c.maxLocals = 12) (hown : s.vm.findClass cS0 = some m.cls)
  (hcc : cc.toInt = (cn : Int)) (hc1 : 1 ≤ cn) (hcap : nn * cn ≤ 1024) (hfn : ∀ j, j < nn → own_okh nn cn oc (fn j))
  (gv : n0 ≤ rv) (gw : n0 ≤ rw) (n1 : rn ≠ rv) (n2 : rn ≠ rw) (n3 : rc ≠ rv) (n4 : rc ≠ rw) (n5 : rv ≠ rw) :
  ∀ (k : Nat) (T0 : State) (locs : List Loc) (h0 : Heap) (ff : Int32) (ffn : Nat) (qm qd qa qb : Option Int32) (fv fw : Nat → Int32), ffn + k = nn → ff.toInt = (ffn : Int) → Stand p l e R s m args below meth c T0 locs cells slots → T0.heap = h0 → Fr n0 locs →
   AI Z h0 rn .int nn fn → AI Z h0 rc .int nn fc → AI Z h0 rv .int (nn * cn) fv → (∀ j, j < nn * cn → own_okv nn cn (fv j)) → AI Z h0 rw .int (nn * cn) fw →
   ∃ (T' : State) (h' : Heap) (L' : List Loc) (ff' : Int32) (qm' qd' qa' qb' : Option Int32) (fv' fw' : Nat → Int32), Stand p l e R s m args below meth c T' L' cells slots ∧ T'.heap = h' ∧ Fr n0 L' ∧ Keep h0 h' [rv, rw] ∧ AI Z h' rv .int (nn * cn) fv' ∧ (∀ j, j < nn * cn → own_okv nn cn (fv' j)) ∧ AI Z h' rw .int (nn * cn) fw' ∧
    ∀ t, Steps p.tables e below (T'.setTop (mkF m 134 #[vR ra, vI oc, vI cc, vR rn, vR rc, vR rv, vR rw, vI ff', own_s qm', own_s qd', own_s qa', own_s qb'] [])) t → Steps p.tables e below (T0.setTop (mkF m 34 #[vR ra, vI oc, vI cc, vR rn, vR rc, vR rv, vR rw, vI ff, own_s qm, own_s qd, own_s qa, own_s qb] [])) t
 | 0, T0, locs, h0, ff, ffn, qm, qd, qa, qb, fv, fw, hk, hff, X0, e0, N0, A_rn, A_rc, A_rv, hok, A_rw => by
  have hnn := own_nle hc1 hcap
  have hge : ¬ (ff < nn.toInt32) := by rw [Int32.lt_iff_toInt_lt, own_nlen hnn]; omega
  obtain ⟨T1, X1, e1, st1⟩ := twX ra oc cc rn rc rv rw ff qm qd qa qb nn fn X0 hx hZ hw hby hml hown e0 A_rn hge
  exact ⟨T1, h0, locs, ff, qm, qd, qa, qb, fv, fw, X1, e1, N0, Keep.refl _ _, A_rv, hok, A_rw, st1⟩
 | k + 1, T0, locs, h0, ff, ffn, qm, qd, qa, qb, fv, fw, hk, hff, X0, e0, N0, A_rn, A_rc, A_rv, hok, A_rw => by
  have hnn := own_nle hc1 hcap
  have hlt : ff < nn.toInt32 := by rw [Int32.lt_iff_toInt_lt, own_nlen hnn]; omega
  have hfl : ffn < nn := by omega
  obtain ⟨T1, X1, e1, st1⟩ := twH ra oc cc rn rc rv rw ff qm qd qa qb ffn nn fn X0 hx hZ hw hby hml hown e0 A_rn hff hfl hlt
  obtain ⟨T2, h2, L2, dd2, qa2, qb2, fv2, fw2, X2, e2, N2, K2, A2, ok2, B2, st2⟩ := twI ra oc cc rn rc rv rw ff (fn ffn) nn cn ffn fn fc hx hZ hw hby hml hown hcc hc1 hcap hff hfl (hfn ffn hfl) hfn gv gw n1 n2 n3 n4 n5 cn T1 locs h0 (0 : Int32) 0 qa qb fv fw (by omega) rfl X1 e1 N0 A_rn A_rc A_rv hok A_rw
  obtain ⟨T3, h3, L3, ff3, qm3, qd3, qa3, qb3, fv3, fw3, X3, e3, N3, K3, A3, ok3, B3, st3⟩ := twO ra oc cc rn rc rv rw nn cn fn fc hx hZ hw hby hml hown hcc hc1 hcap hfn gv gw n1 n2 n3 n4 n5 k T2 L2 h2 (ff + (1 : Int32)) (ffn + 1) (some (fn ffn)) (some dd2) qa2 qb2 fv2 fw2 (by omega) (own_inc hff (by omega)) X2 e2 N2 (A_rn.keep K2 (ninS n1 (ninS n2 nin0))) (A_rc.keep K2 (ninS n3 (ninS n4 nin0))) A2 ok2 B2
  exact ⟨T3, h3, L3, ff3, qm3, qd3, qa3, qb3, fv3, fw3, X3, e3, N3, K2.trans K3 (fun x hx => Or.inl hx), A3, ok3, B3, fun t h => st1 t (st2 t (st3 t h))⟩
theorem own_l20 {cc : Int32} {nn cn : Nat} (hcc : cc.toInt = (cn : Int)) (hc1 : 1 ≤ cn) (hcap : nn * cn ≤ 1024) : (nn.toInt32 * cc).toInt = ((nn * cn : Nat) : Int) := by
 have h := own_nlen (own_nle hc1 hcap)
 have := own_imul h hcc (by rw [← Int.natCast_mul]; omega) (by rw [← Int.natCast_mul]; omega)
 rw [this, Int.natCast_mul]
theorem own_nneg {z : Int32} {n : Nat} (h : z.toInt = (n : Int)) : ¬ z < 0 := by
 rw [Int32.lt_iff_toInt_lt, h]
 have : (0 : Int32).toInt = 0 := rfl
 omega
theorem own_ncap {z : Int32} {n cap : Nat} (h : z.toInt = (n : Int)) (hn : n ≤ cap) : z.toNatClampNeg ≤ cap := by rw [own_tn h]; exact hn
theorem own_zok {nn cn : Nat} (h : cn ≤ nn) : ∀ j, j < nn * cn → own_okv nn cn (zI j) := fun j _ => Or.inr ⟨0, rfl, by
 have := Nat.mul_le_mul_right cn h
 omega⟩
theorem ef_17a (m : MethodId) (ra : Addr) (oc : Int32) : entryFrame m #[(.ref ra), (.int oc)] 12 = mkF m 0 #[vR ra, vI oc, .unset, .unset, .unset, .unset, .unset, .unset, .unset, .unset, .unset, .unset] [] := by first | (simp [entryFrame, mkF, argsToLocals, Value.category]; done) | rfl
theorem d17_0 : D_16 0 = .ok (.aload_n 0, 1) := by decide +kernel
theorem pd_5 : parseMethodDescriptor "()I" = some ⟨[], some .int⟩ := by decide +kernel
theorem d17_1 : D_16 1 = .ok (.invokevirtual 35, 3) := by decide +kernel
theorem d17_4 : D_16 4 = .ok (.istore_n 2, 1) := by decide +kernel
theorem d17_5 : D_16 5 = .ok (.aload_n 0, 1) := by decide +kernel
theorem pd_6 : parseMethodDescriptor "()[I" = some ⟨[], some (.array .int)⟩ := by decide +kernel
theorem d17_6 : D_16 6 = .ok (.invokevirtual 75, 3) := by decide +kernel
theorem d17_9 : D_16 9 = .ok (.astore_n 3, 1) := by decide +kernel
theorem d17_10 : D_16 10 = .ok (.aload_n 0, 1) := by decide +kernel
theorem d17_11 : D_16 11 = .ok (.invokevirtual 79, 3) := by decide +kernel
theorem d17_14 : D_16 14 = .ok (.astore 4, 2) := by decide +kernel
theorem d17_16 : D_16 16 = .ok (.aload_n 3, 1) := by decide +kernel
theorem d17_17 : D_16 17 = .ok (.arraylength, 1) := by decide +kernel
theorem d17_18 : D_16 18 = .ok (.iload_n 2, 1) := by decide +kernel
theorem d17_19 : D_16 19 = .ok (.imul, 1) := by decide +kernel
theorem d17_20 : D_16 20 = .ok (.newarray .int, 2) := by decide +kernel
theorem d17_22 : D_16 22 = .ok (.astore 5, 2) := by decide +kernel
theorem d17_24 : D_16 24 = .ok (.aload 5, 2) := by decide +kernel
theorem d17_26 : D_16 26 = .ok (.arraylength, 1) := by decide +kernel
theorem d17_27 : D_16 27 = .ok (.newarray .int, 2) := by decide +kernel
theorem d17_29 : D_16 29 = .ok (.astore 6, 2) := by decide +kernel
theorem d17_31 : D_16 31 = .ok (.iconst 0, 1) := by decide +kernel
theorem d17_32 : D_16 32 = .ok (.istore 7, 2) := by decide +kernel
theorem d17_134 : D_16 134 = .ok (.new 25, 3) := by decide +kernel
theorem d17_137 : D_16 137 = .ok (.dup, 1) := by decide +kernel
theorem d17_138 : D_16 138 = .ok (.aload_n 0, 1) := by decide +kernel
theorem d17_139 : D_16 139 = .ok (.invokevirtual 24, 3) := by decide +kernel
theorem d17_142 : D_16 142 = .ok (.iconst 2, 1) := by decide +kernel
theorem d17_143 : D_16 143 = .ok (.imul, 1) := by decide +kernel
theorem d17_144 : D_16 144 = .ok (.iload_n 2, 1) := by decide +kernel
theorem d17_145 : D_16 145 = .ok (.iload_n 2, 1) := by decide +kernel
theorem d17_146 : D_16 146 = .ok (.imul, 1) := by decide +kernel
theorem d17_147 : D_16 147 = .ok (.aload 5, 2) := by decide +kernel
theorem d17_149 : D_16 149 = .ok (.aload 6, 2) := by decide +kernel
theorem pd_7 : parseMethodDescriptor "(II[I[I)V" = some ⟨[.int, .int, (.array .int), (.array .int)], none⟩ := by decide +kernel
theorem d17_151 : D_16 151 = .ok (.invokespecial 57, 3) := by decide +kernel
theorem d17_154 : D_16 154 = .ok (.areturn, 1) := by decide +kernel
def Q17a (Z : State) (ra : Addr) (oc : Int32) (cc : Int32) (rn : Addr) (rc : Addr) (nn : Nat) (cn : Nat) (fn : Nat → Int32) (fc : Nat → Int32) (h0 : Heap) (n0 : Nat) (v : Option Value) (h : Heap) (L : List Loc) : Prop := ∃ fr0 fr1 fr2 : Addr, ∃ fx1 : Nat → Int32, ∃ fx2 : Nat → Int32, n0 ≤ fr0 ∧ h0.size ≤ fr0 ∧ n0 ≤ fr1 ∧ h0.size ≤ fr1 ∧ n0 ≤ fr2 ∧ h0.size ≤ fr2 ∧ fr0 ≠ fr1 ∧ fr0 ≠ fr2 ∧ fr1 ≠ fr2 ∧ v = some (.ref fr0) ∧ Fr n0 L ∧ Keep h0 h [] ∧ Exa Z h fr0 cS3 ∧ Fld Z h fr0 cS3 "width" "I" (.int 2) ∧ Fld Z h fr0 cS3 "columns" "I" (.int (cc * cc)) ∧ Fld Z h fr0 cS3 "next" "[I" (.ref fr1) ∧ Fld Z h fr0 cS3 "comparisons" "[I" (.ref fr2) ∧ AI Z h fr1 .int (nn * cn) fx1 ∧ AI Z h fr2 .int (nn * cn) fx2 ∧ ∀ j, j < (nn * cn) → own_okv nn cn (fx1 j)
set_option maxRecDepth 65536 in
set_option maxHeartbeats 40000000 in
theorem rm17a (l : Launch) (Z : State) (a0 : Array Value) (hw : ∀ d ∈ tables_1, d.before a0 Z = true) (ws : List Jvm.Cond) (ra : Addr) (oc : Int32) (cc : Int32) (rn : Addr) (rc : Addr) (nn : Nat) (cn : Nat) (fn : Nat → Int32) (fc : Nat → Int32) (h0 : Heap) (n0 : Nat) (Z0 : n0 ≤ h0.size) (E_ra : Exa Z h0 ra cS3) (F_width_ra : Fld Z h0 ra cS3 "width" "I" (.int 1)) (F_columns_ra : Fld Z h0 ra cS3 "columns" "I" (.int cc)) (F_next_ra : Fld Z h0 ra cS3 "next" "[I" (.ref rn)) (F_comparisons_ra : Fld Z h0 ra cS3 "comparisons" "[I" (.ref rc)) (A_rn : AI Z h0 rn .int nn fn) (A_rc : AI Z h0 rc .int nn fc) (hcc : cc.toInt = (cn : Int)) (hc1 : 1 ≤ cn) (hcap : nn * cn ≤ 1024) (hcnn : cn ≤ nn) (hfn : ∀ j, j < nn → own_okh nn cn oc (fn j)) :
  MetFree l mN16 (head1 (Jvm.Cond.code mN16 prog_23_method_8_code 12 (some (.object cS3)) :: ws) ({ frames := 3, cells := 3, slots := 2052, locals := 41 } : Room)) (fun a U => a = #[(.ref ra), (.int oc)] ∧ Z.Warmed39 U.vm ∧ U.heap = h0) (fun _ _ _ _ _ => True) (fun _ U o U' => ∃ v L, o = .returned v ∧ Q17a Z ra oc cc rn rc nn cn fn fc h0 n0 v U'.heap L ∧ FrameEnd U o U' L ({ frames := 3, cells := 3, slots := 2052, locals := 41 } : Room).cells ({ frames := 3, cells := 3, slots := 2052, locals := 41 } : Room).slots) := by
 refine MetFree.of_bodySF (plainFor_of_name pn_skipstitch_search_Automaton) hisR ?_
 intro p e s m args below meth c s₁ Bd hml0 hP hK
 obtain ⟨rfl, hZ, hh⟩ := hP
 have hx := Bd.exec
 have hby := Bd.bytes
 have q {i : Nat} {r : _} (h : decode _ i = r) := hb hby h
 have hml : c.maxLocals = 12 := hml0
 have hown : s.vm.findClass cS0 = some m.cls := findClass_of_methodNamed Bd.named
 have hnm := (name_of_methodNamed Bd.named Bd.method).1
 have X0 : Stand p l e ({ frames := 3, cells := 3, slots := 2052, locals := 41 } : Room) s m #[(.ref ra), (.int oc)] below meth c s₁ [] 0 0 := Stand.of_body Bd
 have e0 : s₁.heap = h0 := by rw [← hh, Bd.state]; rfl
 have N0 := Fr.nil n0
 have K0 : Keep h0 h0 [] := Keep.refl h0 _
 have pre0 : oP p e below (s₁.setTop (mkF m 0 #[vR ra, vI oc, vU, vU, vU, vU, vU, vU, vU, vU, vU, vU] [])) (s₁.setTop (entryFrame m #[(.ref ra), (.int oc)] 12)) := fun t k => castTop (ef_17a m ra oc) k
 obtain ⟨cq1, kq1, q1a, q1b, q1c⟩ := isOf hZ e0 E_ra
 obtain ⟨_, _, ⟨T1, L1, k1, n1⟩, -, X1, ⟨Lc1, hQ1, l1, y1, z1⟩, st1⟩ := X0.virtualBack hx (y := mN13) (z := mN13) hown (om hZ hw 100 rfl) (om hZ hw 101 rfl) (notFace_of_selects (args := #[]) (om hZ hw 103 rfl)) (om hZ hw 103 rfl) (om hZ hw 102 rfl) (by decide) (backOf (W := 0) (rm18 l Z a0 hw [] ra cc h0 n0 Z0 F_columns_ra) hZ (ow hw 104 rfl) (ow hw 74 rfl) (by decide) (by decide)) q1a q1c (g := (mkF m 1 #[vR ra, vI oc, vU, vU, vU, vU, vU, vU, vU, vU, vU, vU] [(.ref ra)])) rfl (by rw [hml]; rfl) (Steps.refl _) (argsL := []) (rest := []) (lenOf pd_5 rfl) rfl (oz rfl) (q d17_1) (fun _ _ => ⟨rfl, e0, (by decide : 0 + 0 ≤ _), (by decide : 0 + 0 ≤ _)⟩)
 dsimp only [Pt.U, Pt.locs, Pt.cells, Pt.slots] at X1 l1 y1 z1 st1 hQ1
 subst y1 z1
 obtain ⟨rfl, N1q, e1⟩ := hQ1
 have N1 := oF l1 N0 N1q
 obtain ⟨cq2, kq2, q2a, q2b, q2c⟩ := isOf hZ e1 E_ra
 obtain ⟨_, _, ⟨T2, L2, k2, n2⟩, -, X2, ⟨Lc2, hQ2, l2, y2, z2⟩, st2⟩ := X1.virtualBack hx (y := mN14) (z := mN14) hown (om hZ hw 105 rfl) (om hZ hw 106 rfl) (notFace_of_selects (args := #[]) (om hZ hw 108 rfl)) (om hZ hw 108 rfl) (om hZ hw 107 rfl) (by decide) (backOf (W := 0) (rm19 l Z a0 hw [] ra rn h0 n0 Z0 F_next_ra) hZ (ow hw 109 rfl) (ow hw 74 rfl) (by decide) (by decide)) q2a q2c (g := (mkF m 6 #[vR ra, vI oc, vI cc, vU, vU, vU, vU, vU, vU, vU, vU, vU] [(.ref ra)])) rfl (by rw [hml]; rfl) (Steps.refl _) (argsL := []) (rest := []) (lenOf pd_6 rfl) rfl (oz rfl) (q d17_6) (fun _ _ => ⟨rfl, e1, (by decide : 0 + 0 ≤ _), (by decide : 0 + 0 ≤ _)⟩)
 dsimp only [Pt.U, Pt.locs, Pt.cells, Pt.slots] at X2 l2 y2 z2 st2 hQ2
 subst y2 z2
 obtain ⟨rfl, N2q, e2⟩ := hQ2
 have N2 := oF l2 N1 N2q
 obtain ⟨cq3, kq3, q3a, q3b, q3c⟩ := isOf hZ e2 E_ra
 obtain ⟨_, _, ⟨T3, L3, k3, n3⟩, -, X3, ⟨Lc3, hQ3, l3, y3, z3⟩, st3⟩ := X2.virtualBack hx (y := mN15) (z := mN15) hown (om hZ hw 110 rfl) (om hZ hw 111 rfl) (notFace_of_selects (args := #[]) (om hZ hw 113 rfl)) (om hZ hw 113 rfl) (om hZ hw 112 rfl) (by decide) (backOf (W := 0) (rm20 l Z a0 hw [] ra rc h0 n0 Z0 F_comparisons_ra) hZ (ow hw 114 rfl) (ow hw 74 rfl) (by decide) (by decide)) q3a q3c (g := (mkF m 11 #[vR ra, vI oc, vI cc, vR rn, vU, vU, vU, vU, vU, vU, vU, vU] [(.ref ra)])) rfl (by rw [hml]; rfl) (Steps.refl _) (argsL := []) (rest := []) (lenOf pd_6 rfl) rfl (oz rfl) (q d17_11) (fun _ _ => ⟨rfl, e2, (by decide : 0 + 0 ≤ _), (by decide : 0 + 0 ≤ _)⟩)
 dsimp only [Pt.U, Pt.locs, Pt.cells, Pt.slots] at X3 l3 y3 z3 st3 hQ3
 subst y3 z3
 obtain ⟨rfl, N3q, e3⟩ := hQ3
 have N3 := oF l3 N2 N3q
 obtain ⟨cl4, Arcl4, Szcl4⟩ := AF.len A_rn
 obtain ⟨T5, h5, k5, X5, e5, E5, A5, st5⟩ := newP X3 hx hZ (ow hw 2 rfl) e3 (g := (mkF m 20 #[vR ra, vI oc, vI cc, vR rn, vR rc, vU, vU, vU, vU, vU, vU, vU] [(.int (nn.toInt32 * cc))])) rfl (q d17_20) rfl (own_nneg (own_l20 hcc hc1 hcap)) (cap := 1024) (own_ncap (own_l20 hcc hc1 hcap) hcap) (by decide) (by decide) (by decide)
 obtain ⟨b5, g5⟩ : ∃ z, z = h0.size := ⟨_, rfl⟩
 rw [← g5] at A5 st5
 have ne6 := oN E_ra.lt g5
 have ne7 := oN A_rc.lt g5
 have ne8 := oN A_rn.lt g5
 have gg5 := oL Z0 g5
 have sz5 := oL K0.1 g5
 have f9 := E_ra.ext E5
 have f10 := F_width_ra.ext E5
 have f14 := A_rn.ext E5
 have f15 := A_rc.ext E5
 have Z5 := Nat.le_trans Z0 E5.1
 have K5 := K0.ext E5
 have f16 : AI Z h5 b5 .int (nn * cn) zI := AF.new A5 (own_l20 hcc hc1 hcap)
 obtain ⟨cl17, Arcl17, Szcl17⟩ := AF.len f16
 obtain ⟨T18, h18, k18, X18, e18, E18, A18, st18⟩ := newP X5 hx hZ (ow hw 2 rfl) e5 (g := (mkF m 27 #[vR ra, vI oc, vI cc, vR rn, vR rc, vR b5, vU, vU, vU, vU, vU, vU] [(.int (nn * cn).toInt32)])) rfl (q d17_27) rfl (own_nneg (own_nlen hcap)) (cap := 1024) (own_ncap (own_nlen hcap) hcap) (by decide) (by decide) (by decide)
 obtain ⟨b18, g18⟩ : ∃ z, z = h5.size := ⟨_, rfl⟩
 rw [← g18] at A18 st18
 have ne19 := oN f16.lt g18
 have ne20 := oN f9.lt g18
 have ne21 := oN f15.lt g18
 have ne22 := oN f14.lt g18
 have gg18 := oL Z5 g18
 have sz18 := oL K5.1 g18
 have f23 := f9.ext E18
 have f24 := f10.ext E18
 have f28 := f14.ext E18
 have f29 := f15.ext E18
 have f30 := f16.ext E18
 have Z18 := Nat.le_trans Z5 E18.1
 have K18 := K5.ext E18
 have f31 : AI Z h18 b18 .int (nn * cn) zI := AF.new A18 (own_nlen hcap)
 obtain ⟨T32, h32, L32, fo32, qm32, qd32, qa32, qb32, fv32, fw32, X32, e32, N32, Kl32, Av32, ok32, Aw32, st32⟩ := twO ra oc cc rn rc b5 b18 nn cn fn fc hx hZ hw hby hml hown hcc hc1 hcap hfn gg5 gg18 ne8 ne22 ne7 ne21 ne19 nn T18 _ h18 (0 : Int32) 0 none none none none zI zI (Nat.zero_add nn) rfl X18 e18 N3 f28 f29 f30 (own_zok hcnn) f31
 have Z32 := Nat.le_trans Z18 Kl32.1
 have K32 := K18.trans Kl32 (allS (Or.inr sz5) (allS (Or.inr sz18) all0))
 have f33 := f23.keep Kl32
 have f34 := f24.keep Kl32 (ninS ne6 (ninS ne20 nin0))
 obtain ⟨T40, h40, X40, e40, E40, A40, D40, -, st40⟩ := newO X32 hx hZ hown (ow hw 72 rfl) (ow hw 73 rfl) (ow hw 74 rfl) e32 (g := (mkF m 134 #[vR ra, vI oc, vI cc, vR rn, vR rc, vR b5, vR b18, vI fo32, (own_s qm32), (own_s qd32), (own_s qa32), (own_s qb32)] [])) rfl (q d17_134) (by decide) (by decide)
 obtain ⟨b40, g40⟩ : ∃ z, z = h32.size := ⟨_, rfl⟩
 rw [← g40] at A40 D40 st40
 have ne41 := oN Aw32.lt g40
 have ne42 := oN Av32.lt g40
 have gg40 := oL Z32 g40
 have sz40 := oL K32.1 g40
 have f46 := f33.ext E40
 have f47 := f34.ext E40
 have f53 := Av32.ext E40
 have f54 := Aw32.ext E40
 have Z40 := Nat.le_trans Z32 E40.1
 have K40 := K32.ext E40
 have f55 : Fld Z h40 b40 cS3 "width" "I" (.int 0) := D40 (Or.inr (ow hw 85 rfl)) (ty := .int) (by decide)
 have f56 : Fld Z h40 b40 cS3 "columns" "I" (.int 0) := D40 (Or.inr (ow hw 87 rfl)) (ty := .int) (by decide)
 have f57 : Fld Z h40 b40 cS3 "next" "[I" .null := D40 (Or.inr (ow hw 89 rfl)) (ty := (.array .int)) (by decide)
 have f58 : Fld Z h40 b40 cS3 "comparisons" "[I" .null := D40 (Or.inr (ow hw 91 rfl)) (ty := (.array .int)) (by decide)
 obtain ⟨cq59, kq59, q59a, q59b, q59c⟩ := isOf hZ e40 f46
 obtain ⟨_, _, ⟨T59, L59, k59, n59⟩, -, X59, ⟨Lc59, hQ59, l59, y59, z59⟩, st59⟩ := X40.virtualBack hx (y := mN12) (z := mN12) hown (om hZ hw 92 rfl) (om hZ hw 93 rfl) (notFace_of_selects (args := #[]) (om hZ hw 95 rfl)) (om hZ hw 95 rfl) (om hZ hw 94 rfl) (by decide) (backOf (W := 2) (rm16 l Z a0 hw [] ra (1 : Int32) h40 n0 Z40 f47) hZ (ow hw 96 rfl) (ow hw 74 rfl) (by decide) (by decide)) q59a q59c (g := (mkF m 139 #[vR ra, vI oc, vI cc, vR rn, vR rc, vR b5, vR b18, vI fo32, (own_s qm32), (own_s qd32), (own_s qa32), (own_s qb32)] [(.ref ra), (.ref b40), (.ref b40)])) rfl (by rw [hml]; rfl) (Steps.refl _) (argsL := []) (rest := [(.ref b40), (.ref b40)]) (lenOf pd_5 rfl) rfl (oz rfl) (q d17_139) (fun _ _ => ⟨rfl, e40, (by decide : 3 + 0 ≤ _), (by decide : 2052 + 0 ≤ _)⟩)
 dsimp only [Pt.U, Pt.locs, Pt.cells, Pt.slots] at X59 l59 y59 z59 st59 hQ59
 subst y59 z59
 obtain ⟨rfl, N59q, e59⟩ := hQ59
 have N59 := oF l59 N32 N59q
 obtain ⟨_, _, ⟨T60, L60, k60, n60⟩, -, X60, ⟨Lc60, hQ60, l60, y60, z60⟩, st60⟩ := X59.specialBack hx (y := mN11) rfl hown (om hZ hw 75 rfl) (om hZ hw 76 rfl) (om hZ hw 77 rfl) (by decide) (backOf (W := 1) (rm14 l Z a0 hw [] b40 (2 : Int32) (cc * cc) b5 b18 h40 n0 Z40 A40 f55 f56 f57 f58 gg40) hZ (ow hw 77 rfl) (ow hw 74 rfl) (by decide) (by decide)) (g := (mkF m 151 #[vR ra, vI oc, vI cc, vR rn, vR rc, vR b5, vR b18, vI fo32, (own_s qm32), (own_s qd32), (own_s qa32), (own_s qb32)] [(.ref b18), (.ref b5), (.int (cc * cc)), (.int 2), (.ref b40), (.ref b40)])) rfl (by rw [hml]; rfl) (Steps.refl _) (a := b40) (argsL := [(.int 2), (.int (cc * cc)), (.ref b5), (.ref b18)]) (rest := [(.ref b40)]) (lenOf pd_7 rfl) rfl (oz rfl) (q d17_151) (fun _ _ => ⟨rfl, e59, (by decide : 3 + 0 ≤ _), (by decide : 2052 + 0 ≤ _)⟩)
 dsimp only [Pt.U, Pt.locs, Pt.cells, Pt.slots] at X60 l60 y60 z60 st60 hQ60
 subst y60 z60
 obtain ⟨rfl, N60q, K60c, f61, f62, f63, f64⟩ := hQ60
 have N60 := oF l60 N59 N60q
 have f72 := f53.keep K60c (ninS ne42 nin0)
 have f73 := f54.keep K60c (ninS ne41 nin0)
 have f74 := A40.keep K60c
 have K60 := K40.trans K60c (allS (Or.inr sz40) all0)
 obtain ⟨fs, hr, hrun, hended, hW, hsame⟩ := X60.leave (v := some (.ref b40)) (oR Bd.returns) (hlocks := Bd.notSynchronized)
 refine ⟨_, _, pre0 _ ?_, hrun, hended, _, _, rfl, ?_, ⟨_, rfl⟩, hW, hsame.mono (by decide) (by decide)⟩
 ·show Steps p.tables e below (s₁.setTop (mkF m 0 #[vR ra, vI oc, vU, vU, vU, vU, vU, vU, vU, vU, vU, vU] [])) _
  refine XS.aloadN X0.here hx rfl (q d17_0) rfl rfl ?_
  refine st1.trans ?_
  refine XS.istoreN X1.here hx rfl (q d17_4) rfl (l' := #[vR ra, vI oc, vI cc, vU, vU, vU, vU, vU, vU, vU, vU, vU]) rfl ?_
  refine XS.aloadN X1.here hx rfl (q d17_5) rfl rfl ?_
  refine st2.trans ?_
  refine XS.astoreN X2.here hx rfl (q d17_9) rfl rfl (l' := #[vR ra, vI oc, vI cc, vR rn, vU, vU, vU, vU, vU, vU, vU, vU]) rfl ?_
  refine XS.aloadN X2.here hx rfl (q d17_10) rfl rfl ?_
  refine st3.trans ?_
  refine XS.astore X3.here hx rfl (q d17_14) rfl rfl (l' := #[vR ra, vI oc, vI cc, vR rn, vR rc, vU, vU, vU, vU, vU, vU, vU]) rfl ?_
  refine XS.aloadN X3.here hx rfl (q d17_16) rfl rfl ?_
  refine X3.arraylength hx (by rw [e3]; exact Arcl4.1) (State.isArrayOf_alike hZ.alike Arcl4.2.1) (g := (mkF m 17 #[vR ra, vI oc, vI cc, vR rn, vR rc, vU, vU, vU, vU, vU, vU, vU] [(.ref rn)])) rfl rfl (q d17_17) _ ?_
  rw [Szcl4]
  refine XS.iloadN X3.here hx rfl (q d17_18) rfl ?_
  refine XS.imul X3.here hx rfl (q d17_19) rfl ?_
  refine st5 _ ?_
  refine XS.astore X5.here hx rfl (q d17_22) rfl rfl (l' := #[vR ra, vI oc, vI cc, vR rn, vR rc, vR b5, vU, vU, vU, vU, vU, vU]) rfl ?_
  refine XS.aload X5.here hx rfl (q d17_24) rfl rfl ?_
  refine X5.arraylength hx (by rw [e5]; exact Arcl17.1) (State.isArrayOf_alike hZ.alike Arcl17.2.1) (g := (mkF m 26 #[vR ra, vI oc, vI cc, vR rn, vR rc, vR b5, vU, vU, vU, vU, vU, vU] [(.ref b5)])) rfl rfl (q d17_26) _ ?_
  rw [Szcl17]
  refine st18 _ ?_
  refine XS.astore X18.here hx rfl (q d17_29) rfl rfl (l' := #[vR ra, vI oc, vI cc, vR rn, vR rc, vR b5, vR b18, vU, vU, vU, vU, vU]) rfl ?_
  refine XS.iconst X18.here hx rfl (q d17_31) ?_
  refine XS.istore X18.here hx rfl (q d17_32) rfl (l' := #[vR ra, vI oc, vI cc, vR rn, vR rc, vR b5, vR b18, vI 0, vU, vU, vU, vU]) rfl ?_
  refine st32 _ ?_
  refine st40 _ ?_
  refine XS.dup X40.here hx rfl (q d17_137) rfl rfl ?_
  refine XS.aloadN X40.here hx rfl (q d17_138) rfl rfl ?_
  refine st59.trans ?_
  refine XS.iconst X59.here hx rfl (q d17_142) ?_
  refine XS.imul X59.here hx rfl (q d17_143) rfl ?_
  refine XS.iloadN X59.here hx rfl (q d17_144) rfl ?_
  refine XS.iloadN X59.here hx rfl (q d17_145) rfl ?_
  refine XS.imul X59.here hx rfl (q d17_146) rfl ?_
  refine XS.aload X59.here hx rfl (q d17_147) rfl rfl ?_
  refine XS.aload X59.here hx rfl (q d17_149) rfl rfl ?_
  refine st60.trans ?_
  exact retOut X60 hx Bd.returns rfl (Or.inr (Or.inr (Or.inr (Or.inr ⟨rfl, rfl, rfl⟩)))) (q d17_154) hr
 ·show Q17a Z ra oc cc rn rc nn cn fn fc h0 n0 _ T60.heap _
  exact ⟨b40, b5, b18, fv32, fw32, gg40, sz40, gg5, sz5, gg18, sz18, (Ne.symm ne42), (Ne.symm ne41), ne19, rfl, N60, K60, f74, f61, f62, f63, f64, f72, f73, ok32⟩
theorem ef_17b (m : MethodId) (ra : Addr) (oc : Int32) : entryFrame m #[(.ref ra), (.int oc)] 12 = mkF m 0 #[vR ra, vI oc, .unset, .unset, .unset, .unset, .unset, .unset, .unset, .unset, .unset, .unset] [] := by first | (simp [entryFrame, mkF, argsToLocals, Value.category]; done) | rfl
def Q17b (Z : State) (ra : Addr) (oc : Int32) (cc : Int32) (rn : Addr) (rc : Addr) (nn : Nat) (cn : Nat) (fn : Nat → Int32) (fc : Nat → Int32) (h0 : Heap) (n0 : Nat) (v : Option Value) (h : Heap) (L : List Loc) : Prop := ∃ fr0 fr1 fr2 : Addr, ∃ fx1 : Nat → Int32, ∃ fx2 : Nat → Int32, n0 ≤ fr0 ∧ h0.size ≤ fr0 ∧ n0 ≤ fr1 ∧ h0.size ≤ fr1 ∧ n0 ≤ fr2 ∧ h0.size ≤ fr2 ∧ fr0 ≠ fr1 ∧ fr0 ≠ fr2 ∧ fr1 ≠ fr2 ∧ v = some (.ref fr0) ∧ Fr n0 L ∧ Keep h0 h [] ∧ Exa Z h fr0 cS3 ∧ Fld Z h fr0 cS3 "width" "I" (.int 4) ∧ Fld Z h fr0 cS3 "columns" "I" (.int (cc * cc)) ∧ Fld Z h fr0 cS3 "next" "[I" (.ref fr1) ∧ Fld Z h fr0 cS3 "comparisons" "[I" (.ref fr2) ∧ AI Z h fr1 .int (nn * cn) fx1 ∧ AI Z h fr2 .int (nn * cn) fx2 ∧ ∀ j, j < (nn * cn) → own_okv nn cn (fx1 j)
set_option maxRecDepth 65536 in
set_option maxHeartbeats 40000000 in
theorem rm17b (l : Launch) (Z : State) (a0 : Array Value) (hw : ∀ d ∈ tables_1, d.before a0 Z = true) (ws : List Jvm.Cond) (ra : Addr) (oc : Int32) (cc : Int32) (rn : Addr) (rc : Addr) (nn : Nat) (cn : Nat) (fn : Nat → Int32) (fc : Nat → Int32) (h0 : Heap) (n0 : Nat) (Z0 : n0 ≤ h0.size) (E_ra : Exa Z h0 ra cS3) (F_width_ra : Fld Z h0 ra cS3 "width" "I" (.int 2)) (F_columns_ra : Fld Z h0 ra cS3 "columns" "I" (.int cc)) (F_next_ra : Fld Z h0 ra cS3 "next" "[I" (.ref rn)) (F_comparisons_ra : Fld Z h0 ra cS3 "comparisons" "[I" (.ref rc)) (A_rn : AI Z h0 rn .int nn fn) (A_rc : AI Z h0 rc .int nn fc) (hcc : cc.toInt = (cn : Int)) (hc1 : 1 ≤ cn) (hcap : nn * cn ≤ 1024) (hcnn : cn ≤ nn) (hfn : ∀ j, j < nn → own_okh nn cn oc (fn j)) :
  MetFree l mN16 (head1 (Jvm.Cond.code mN16 prog_23_method_8_code 12 (some (.object cS3)) :: ws) ({ frames := 3, cells := 3, slots := 2052, locals := 41 } : Room)) (fun a U => a = #[(.ref ra), (.int oc)] ∧ Z.Warmed39 U.vm ∧ U.heap = h0) (fun _ _ _ _ _ => True) (fun _ U o U' => ∃ v L, o = .returned v ∧ Q17b Z ra oc cc rn rc nn cn fn fc h0 n0 v U'.heap L ∧ FrameEnd U o U' L ({ frames := 3, cells := 3, slots := 2052, locals := 41 } : Room).cells ({ frames := 3, cells := 3, slots := 2052, locals := 41 } : Room).slots) := by
 refine MetFree.of_bodySF (plainFor_of_name pn_skipstitch_search_Automaton) hisR ?_
 intro p e s m args below meth c s₁ Bd hml0 hP hK
 obtain ⟨rfl, hZ, hh⟩ := hP
 have hx := Bd.exec
 have hby := Bd.bytes
 have q {i : Nat} {r : _} (h : decode _ i = r) := hb hby h
 have hml : c.maxLocals = 12 := hml0
 have hown : s.vm.findClass cS0 = some m.cls := findClass_of_methodNamed Bd.named
 have hnm := (name_of_methodNamed Bd.named Bd.method).1
 have X0 : Stand p l e ({ frames := 3, cells := 3, slots := 2052, locals := 41 } : Room) s m #[(.ref ra), (.int oc)] below meth c s₁ [] 0 0 := Stand.of_body Bd
 have e0 : s₁.heap = h0 := by rw [← hh, Bd.state]; rfl
 have N0 := Fr.nil n0
 have K0 : Keep h0 h0 [] := Keep.refl h0 _
 have pre0 : oP p e below (s₁.setTop (mkF m 0 #[vR ra, vI oc, vU, vU, vU, vU, vU, vU, vU, vU, vU, vU] [])) (s₁.setTop (entryFrame m #[(.ref ra), (.int oc)] 12)) := fun t k => castTop (ef_17b m ra oc) k
 obtain ⟨cq1, kq1, q1a, q1b, q1c⟩ := isOf hZ e0 E_ra
 obtain ⟨_, _, ⟨T1, L1, k1, n1⟩, -, X1, ⟨Lc1, hQ1, l1, y1, z1⟩, st1⟩ := X0.virtualBack hx (y := mN13) (z := mN13) hown (om hZ hw 100 rfl) (om hZ hw 101 rfl) (notFace_of_selects (args := #[]) (om hZ hw 103 rfl)) (om hZ hw 103 rfl) (om hZ hw 102 rfl) (by decide) (backOf (W := 0) (rm18 l Z a0 hw [] ra cc h0 n0 Z0 F_columns_ra) hZ (ow hw 104 rfl) (ow hw 74 rfl) (by decide) (by decide)) q1a q1c (g := (mkF m 1 #[vR ra, vI oc, vU, vU, vU, vU, vU, vU, vU, vU, vU, vU] [(.ref ra)])) rfl (by rw [hml]; rfl) (Steps.refl _) (argsL := []) (rest := []) (lenOf pd_5 rfl) rfl (oz rfl) (q d17_1) (fun _ _ => ⟨rfl, e0, (by decide : 0 + 0 ≤ _), (by decide : 0 + 0 ≤ _)⟩)
 dsimp only [Pt.U, Pt.locs, Pt.cells, Pt.slots] at X1 l1 y1 z1 st1 hQ1
 subst y1 z1
 obtain ⟨rfl, N1q, e1⟩ := hQ1
 have N1 := oF l1 N0 N1q
 obtain ⟨cq2, kq2, q2a, q2b, q2c⟩ := isOf hZ e1 E_ra
 obtain ⟨_, _, ⟨T2, L2, k2, n2⟩, -, X2, ⟨Lc2, hQ2, l2, y2, z2⟩, st2⟩ := X1.virtualBack hx (y := mN14) (z := mN14) hown (om hZ hw 105 rfl) (om hZ hw 106 rfl) (notFace_of_selects (args := #[]) (om hZ hw 108 rfl)) (om hZ hw 108 rfl) (om hZ hw 107 rfl) (by decide) (backOf (W := 0) (rm19 l Z a0 hw [] ra rn h0 n0 Z0 F_next_ra) hZ (ow hw 109 rfl) (ow hw 74 rfl) (by decide) (by decide)) q2a q2c (g := (mkF m 6 #[vR ra, vI oc, vI cc, vU, vU, vU, vU, vU, vU, vU, vU, vU] [(.ref ra)])) rfl (by rw [hml]; rfl) (Steps.refl _) (argsL := []) (rest := []) (lenOf pd_6 rfl) rfl (oz rfl) (q d17_6) (fun _ _ => ⟨rfl, e1, (by decide : 0 + 0 ≤ _), (by decide : 0 + 0 ≤ _)⟩)
 dsimp only [Pt.U, Pt.locs, Pt.cells, Pt.slots] at X2 l2 y2 z2 st2 hQ2
 subst y2 z2
 obtain ⟨rfl, N2q, e2⟩ := hQ2
 have N2 := oF l2 N1 N2q
 obtain ⟨cq3, kq3, q3a, q3b, q3c⟩ := isOf hZ e2 E_ra
 obtain ⟨_, _, ⟨T3, L3, k3, n3⟩, -, X3, ⟨Lc3, hQ3, l3, y3, z3⟩, st3⟩ := X2.virtualBack hx (y := mN15) (z := mN15) hown (om hZ hw 110 rfl) (om hZ hw 111 rfl) (notFace_of_selects (args := #[]) (om hZ hw 113 rfl)) (om hZ hw 113 rfl) (om hZ hw 112 rfl) (by decide) (backOf (W := 0) (rm20 l Z a0 hw [] ra rc h0 n0 Z0 F_comparisons_ra) hZ (ow hw 114 rfl) (ow hw 74 rfl) (by decide) (by decide)) q3a q3c (g := (mkF m 11 #[vR ra, vI oc, vI cc, vR rn, vU, vU, vU, vU, vU, vU, vU, vU] [(.ref ra)])) rfl (by rw [hml]; rfl) (Steps.refl _) (argsL := []) (rest := []) (lenOf pd_6 rfl) rfl (oz rfl) (q d17_11) (fun _ _ => ⟨rfl, e2, (by decide : 0 + 0 ≤ _), (by decide : 0 + 0 ≤ _)⟩)
 dsimp only [Pt.U, Pt.locs, Pt.cells, Pt.slots] at X3 l3 y3 z3 st3 hQ3
 subst y3 z3
 obtain ⟨rfl, N3q, e3⟩ := hQ3
 have N3 := oF l3 N2 N3q
 obtain ⟨cl4, Arcl4, Szcl4⟩ := AF.len A_rn
 obtain ⟨T5, h5, k5, X5, e5, E5, A5, st5⟩ := newP X3 hx hZ (ow hw 2 rfl) e3 (g := (mkF m 20 #[vR ra, vI oc, vI cc, vR rn, vR rc, vU, vU, vU, vU, vU, vU, vU] [(.int (nn.toInt32 * cc))])) rfl (q d17_20) rfl (own_nneg (own_l20 hcc hc1 hcap)) (cap := 1024) (own_ncap (own_l20 hcc hc1 hcap) hcap) (by decide) (by decide) (by decide)
 obtain ⟨b5, g5⟩ : ∃ z, z = h0.size := ⟨_, rfl⟩
 rw [← g5] at A5 st5
 have ne6 := oN E_ra.lt g5
 have ne7 := oN A_rc.lt g5
 have ne8 := oN A_rn.lt g5
 have gg5 := oL Z0 g5
 have sz5 := oL K0.1 g5
 have f9 := E_ra.ext E5
 have f10 := F_width_ra.ext E5
 have f14 := A_rn.ext E5
 have f15 := A_rc.ext E5
 have Z5 := Nat.le_trans Z0 E5.1
 have K5 := K0.ext E5
 have f16 : AI Z h5 b5 .int (nn * cn) zI := AF.new A5 (own_l20 hcc hc1 hcap)
 obtain ⟨cl17, Arcl17, Szcl17⟩ := AF.len f16
 obtain ⟨T18, h18, k18, X18, e18, E18, A18, st18⟩ := newP X5 hx hZ (ow hw 2 rfl) e5 (g := (mkF m 27 #[vR ra, vI oc, vI cc, vR rn, vR rc, vR b5, vU, vU, vU, vU, vU, vU] [(.int (nn * cn).toInt32)])) rfl (q d17_27) rfl (own_nneg (own_nlen hcap)) (cap := 1024) (own_ncap (own_nlen hcap) hcap) (by decide) (by decide) (by decide)
 obtain ⟨b18, g18⟩ : ∃ z, z = h5.size := ⟨_, rfl⟩
 rw [← g18] at A18 st18
 have ne19 := oN f16.lt g18
 have ne20 := oN f9.lt g18
 have ne21 := oN f15.lt g18
 have ne22 := oN f14.lt g18
 have gg18 := oL Z5 g18
 have sz18 := oL K5.1 g18
 have f23 := f9.ext E18
 have f24 := f10.ext E18
 have f28 := f14.ext E18
 have f29 := f15.ext E18
 have f30 := f16.ext E18
 have Z18 := Nat.le_trans Z5 E18.1
 have K18 := K5.ext E18
 have f31 : AI Z h18 b18 .int (nn * cn) zI := AF.new A18 (own_nlen hcap)
 obtain ⟨T32, h32, L32, fo32, qm32, qd32, qa32, qb32, fv32, fw32, X32, e32, N32, Kl32, Av32, ok32, Aw32, st32⟩ := twO ra oc cc rn rc b5 b18 nn cn fn fc hx hZ hw hby hml hown hcc hc1 hcap hfn gg5 gg18 ne8 ne22 ne7 ne21 ne19 nn T18 _ h18 (0 : Int32) 0 none none none none zI zI (Nat.zero_add nn) rfl X18 e18 N3 f28 f29 f30 (own_zok hcnn) f31
 have Z32 := Nat.le_trans Z18 Kl32.1
 have K32 := K18.trans Kl32 (allS (Or.inr sz5) (allS (Or.inr sz18) all0))
 have f33 := f23.keep Kl32
 have f34 := f24.keep Kl32 (ninS ne6 (ninS ne20 nin0))
 obtain ⟨T40, h40, X40, e40, E40, A40, D40, -, st40⟩ := newO X32 hx hZ hown (ow hw 72 rfl) (ow hw 73 rfl) (ow hw 74 rfl) e32 (g := (mkF m 134 #[vR ra, vI oc, vI cc, vR rn, vR rc, vR b5, vR b18, vI fo32, (own_s qm32), (own_s qd32), (own_s qa32), (own_s qb32)] [])) rfl (q d17_134) (by decide) (by decide)
 obtain ⟨b40, g40⟩ : ∃ z, z = h32.size := ⟨_, rfl⟩
 rw [← g40] at A40 D40 st40
 have ne41 := oN Aw32.lt g40
 have ne42 := oN Av32.lt g40
 have gg40 := oL Z32 g40
 have sz40 := oL K32.1 g40
 have f46 := f33.ext E40
 have f47 := f34.ext E40
 have f53 := Av32.ext E40
 have f54 := Aw32.ext E40
 have Z40 := Nat.le_trans Z32 E40.1
 have K40 := K32.ext E40
 have f55 : Fld Z h40 b40 cS3 "width" "I" (.int 0) := D40 (Or.inr (ow hw 85 rfl)) (ty := .int) (by decide)
 have f56 : Fld Z h40 b40 cS3 "columns" "I" (.int 0) := D40 (Or.inr (ow hw 87 rfl)) (ty := .int) (by decide)
 have f57 : Fld Z h40 b40 cS3 "next" "[I" .null := D40 (Or.inr (ow hw 89 rfl)) (ty := (.array .int)) (by decide)
 have f58 : Fld Z h40 b40 cS3 "comparisons" "[I" .null := D40 (Or.inr (ow hw 91 rfl)) (ty := (.array .int)) (by decide)
 obtain ⟨cq59, kq59, q59a, q59b, q59c⟩ := isOf hZ e40 f46
 obtain ⟨_, _, ⟨T59, L59, k59, n59⟩, -, X59, ⟨Lc59, hQ59, l59, y59, z59⟩, st59⟩ := X40.virtualBack hx (y := mN12) (z := mN12) hown (om hZ hw 92 rfl) (om hZ hw 93 rfl) (notFace_of_selects (args := #[]) (om hZ hw 95 rfl)) (om hZ hw 95 rfl) (om hZ hw 94 rfl) (by decide) (backOf (W := 2) (rm16 l Z a0 hw [] ra (2 : Int32) h40 n0 Z40 f47) hZ (ow hw 96 rfl) (ow hw 74 rfl) (by decide) (by decide)) q59a q59c (g := (mkF m 139 #[vR ra, vI oc, vI cc, vR rn, vR rc, vR b5, vR b18, vI fo32, (own_s qm32), (own_s qd32), (own_s qa32), (own_s qb32)] [(.ref ra), (.ref b40), (.ref b40)])) rfl (by rw [hml]; rfl) (Steps.refl _) (argsL := []) (rest := [(.ref b40), (.ref b40)]) (lenOf pd_5 rfl) rfl (oz rfl) (q d17_139) (fun _ _ => ⟨rfl, e40, (by decide : 3 + 0 ≤ _), (by decide : 2052 + 0 ≤ _)⟩)
 dsimp only [Pt.U, Pt.locs, Pt.cells, Pt.slots] at X59 l59 y59 z59 st59 hQ59
 subst y59 z59
 obtain ⟨rfl, N59q, e59⟩ := hQ59
 have N59 := oF l59 N32 N59q
 obtain ⟨_, _, ⟨T60, L60, k60, n60⟩, -, X60, ⟨Lc60, hQ60, l60, y60, z60⟩, st60⟩ := X59.specialBack hx (y := mN11) rfl hown (om hZ hw 75 rfl) (om hZ hw 76 rfl) (om hZ hw 77 rfl) (by decide) (backOf (W := 1) (rm14 l Z a0 hw [] b40 (4 : Int32) (cc * cc) b5 b18 h40 n0 Z40 A40 f55 f56 f57 f58 gg40) hZ (ow hw 77 rfl) (ow hw 74 rfl) (by decide) (by decide)) (g := (mkF m 151 #[vR ra, vI oc, vI cc, vR rn, vR rc, vR b5, vR b18, vI fo32, (own_s qm32), (own_s qd32), (own_s qa32), (own_s qb32)] [(.ref b18), (.ref b5), (.int (cc * cc)), (.int 4), (.ref b40), (.ref b40)])) rfl (by rw [hml]; rfl) (Steps.refl _) (a := b40) (argsL := [(.int 4), (.int (cc * cc)), (.ref b5), (.ref b18)]) (rest := [(.ref b40)]) (lenOf pd_7 rfl) rfl (oz rfl) (q d17_151) (fun _ _ => ⟨rfl, e59, (by decide : 3 + 0 ≤ _), (by decide : 2052 + 0 ≤ _)⟩)
 dsimp only [Pt.U, Pt.locs, Pt.cells, Pt.slots] at X60 l60 y60 z60 st60 hQ60
 subst y60 z60
 obtain ⟨rfl, N60q, K60c, f61, f62, f63, f64⟩ := hQ60
 have N60 := oF l60 N59 N60q
 have f72 := f53.keep K60c (ninS ne42 nin0)
 have f73 := f54.keep K60c (ninS ne41 nin0)
 have f74 := A40.keep K60c
 have K60 := K40.trans K60c (allS (Or.inr sz40) all0)
 obtain ⟨fs, hr, hrun, hended, hW, hsame⟩ := X60.leave (v := some (.ref b40)) (oR Bd.returns) (hlocks := Bd.notSynchronized)
 refine ⟨_, _, pre0 _ ?_, hrun, hended, _, _, rfl, ?_, ⟨_, rfl⟩, hW, hsame.mono (by decide) (by decide)⟩
 ·show Steps p.tables e below (s₁.setTop (mkF m 0 #[vR ra, vI oc, vU, vU, vU, vU, vU, vU, vU, vU, vU, vU] [])) _
  refine XS.aloadN X0.here hx rfl (q d17_0) rfl rfl ?_
  refine st1.trans ?_
  refine XS.istoreN X1.here hx rfl (q d17_4) rfl (l' := #[vR ra, vI oc, vI cc, vU, vU, vU, vU, vU, vU, vU, vU, vU]) rfl ?_
  refine XS.aloadN X1.here hx rfl (q d17_5) rfl rfl ?_
  refine st2.trans ?_
  refine XS.astoreN X2.here hx rfl (q d17_9) rfl rfl (l' := #[vR ra, vI oc, vI cc, vR rn, vU, vU, vU, vU, vU, vU, vU, vU]) rfl ?_
  refine XS.aloadN X2.here hx rfl (q d17_10) rfl rfl ?_
  refine st3.trans ?_
  refine XS.astore X3.here hx rfl (q d17_14) rfl rfl (l' := #[vR ra, vI oc, vI cc, vR rn, vR rc, vU, vU, vU, vU, vU, vU, vU]) rfl ?_
  refine XS.aloadN X3.here hx rfl (q d17_16) rfl rfl ?_
  refine X3.arraylength hx (by rw [e3]; exact Arcl4.1) (State.isArrayOf_alike hZ.alike Arcl4.2.1) (g := (mkF m 17 #[vR ra, vI oc, vI cc, vR rn, vR rc, vU, vU, vU, vU, vU, vU, vU] [(.ref rn)])) rfl rfl (q d17_17) _ ?_
  rw [Szcl4]
  refine XS.iloadN X3.here hx rfl (q d17_18) rfl ?_
  refine XS.imul X3.here hx rfl (q d17_19) rfl ?_
  refine st5 _ ?_
  refine XS.astore X5.here hx rfl (q d17_22) rfl rfl (l' := #[vR ra, vI oc, vI cc, vR rn, vR rc, vR b5, vU, vU, vU, vU, vU, vU]) rfl ?_
  refine XS.aload X5.here hx rfl (q d17_24) rfl rfl ?_
  refine X5.arraylength hx (by rw [e5]; exact Arcl17.1) (State.isArrayOf_alike hZ.alike Arcl17.2.1) (g := (mkF m 26 #[vR ra, vI oc, vI cc, vR rn, vR rc, vR b5, vU, vU, vU, vU, vU, vU] [(.ref b5)])) rfl rfl (q d17_26) _ ?_
  rw [Szcl17]
  refine st18 _ ?_
  refine XS.astore X18.here hx rfl (q d17_29) rfl rfl (l' := #[vR ra, vI oc, vI cc, vR rn, vR rc, vR b5, vR b18, vU, vU, vU, vU, vU]) rfl ?_
  refine XS.iconst X18.here hx rfl (q d17_31) ?_
  refine XS.istore X18.here hx rfl (q d17_32) rfl (l' := #[vR ra, vI oc, vI cc, vR rn, vR rc, vR b5, vR b18, vI 0, vU, vU, vU, vU]) rfl ?_
  refine st32 _ ?_
  refine st40 _ ?_
  refine XS.dup X40.here hx rfl (q d17_137) rfl rfl ?_
  refine XS.aloadN X40.here hx rfl (q d17_138) rfl rfl ?_
  refine st59.trans ?_
  refine XS.iconst X59.here hx rfl (q d17_142) ?_
  refine XS.imul X59.here hx rfl (q d17_143) rfl ?_
  refine XS.iloadN X59.here hx rfl (q d17_144) rfl ?_
  refine XS.iloadN X59.here hx rfl (q d17_145) rfl ?_
  refine XS.imul X59.here hx rfl (q d17_146) rfl ?_
  refine XS.aload X59.here hx rfl (q d17_147) rfl rfl ?_
  refine XS.aload X59.here hx rfl (q d17_149) rfl rfl ?_
  refine st60.trans ?_
  exact retOut X60 hx Bd.returns rfl (Or.inr (Or.inr (Or.inr (Or.inr ⟨rfl, rfl, rfl⟩)))) (q d17_154) hr
 ·show Q17b Z ra oc cc rn rc nn cn fn fc h0 n0 _ T60.heap _
  exact ⟨b40, b5, b18, fv32, fw32, gg40, sz40, gg5, sz5, gg18, sz18, (Ne.symm ne42), (Ne.symm ne41), ne19, rfl, N60, K60, f74, f61, f62, f63, f64, f72, f73, ok32⟩
abbrev D_17 (k : Nat) := decode prog_23_method_2_code k
theorem d5_94 : D_17 94 = .ok (.iload 12, 2) := by decide +kernel
theorem d5_96 : D_17 96 = .ok (.iload 4, 2) := by decide +kernel
theorem d5_98 : D_17 98 = .ok (.if_icmp .ge 107, 3) := by decide +kernel
theorem d5_101 : D_17 101 = .ok (.iload 12, 2) := by decide +kernel
theorem d5_103 : D_17 103 = .ok (.iload 10, 2) := by decide +kernel
theorem d5_105 : D_17 105 = .ok (.if_icmp .ne 28, 3) := by decide +kernel
theorem d5_108 : D_17 108 = .ok (.aload 6, 2) := by decide +kernel
theorem d5_110 : D_17 110 = .ok (.iload 9, 2) := by decide +kernel
theorem d5_112 : D_17 112 = .ok (.iload 12, 2) := by decide +kernel
theorem d5_114 : D_17 114 = .ok (.iadd, 1) := by decide +kernel
theorem d5_115 : D_17 115 = .ok (.iload 9, 2) := by decide +kernel
theorem d5_117 : D_17 117 = .ok (.iload 4, 2) := by decide +kernel
theorem d5_119 : D_17 119 = .ok (.iadd, 1) := by decide +kernel
theorem d5_120 : D_17 120 = .ok (.iastore, 1) := by decide +kernel
set_option maxRecDepth 65536 in
set_option maxHeartbeats 40000000 in
theorem ofA {p : Program} {l : Launch} {e : Env} {R : Room} {s : State} {m : MethodId} {args : Array Value} {below : List Frame} {meth : Method} {c : Code} {T0 : State} {locs : List Loc} {cells slots : Nat} {Z : State} {a0 : Array Value} {h0 : Heap} (rp : Addr) (rl : Addr) (mI : Int32) (rk : Addr) (cc : Int32) (wd : Int32) (rn : Addr) (rc : Addr) (ss : Int32) (ro : Int32) (ex : Int32) (lk : Int32) (ci : Int32) (an : Nat) (nv : Nat) (fn : Nat → Int32) (fc : Nat → Int32)
  (X0 : Stand p l e R s m args below meth c T0 locs cells slots) (hx : p.tables.exec = Jvm.exec) (hZ : Z.Warmed39 s.vm) (hw : ∀ d ∈ tables_1, d.before a0 Z = true) (hby : c.code = prog_23_method_2_code) (hml : c.maxLocals = 13) (hown : s.vm.findClass cS0 = some m.cls) (e0 : T0.heap = h0) (A_rn : AI Z h0 rn .int nv fn) (A_rc : AI Z h0 rc .int nv fc) (hat : (ro + ci).toInt = (an : Int)) (hal : an < nv) (hc98 : (ci < cc)) (hc105 : (ci = ex)) :
  ∃ (T' : State) (h' : Heap), Stand p l e R s m args below meth c T' (locs ++ [⟨rn, (ro + ci).toNatClampNeg⟩]) cells slots ∧ T'.heap = h' ∧ Wr h0 h' rn (ro + ci).toNatClampNeg (.int (ro + cc)) ∧ ∀ t, Steps p.tables e below (T'.setTop (mkF m 121 #[vR rp, vR rl, vI mI, vR rk, vI cc, vI wd, vR rn, vR rc, vI ss, vI ro, vI ex, vI lk, vI ci] [])) t → Steps p.tables e below (T0.setTop (mkF m 94 #[vR rp, vR rl, vI mI, vR rk, vI cc, vI wd, vR rn, vR rc, vI ss, vI ro, vI ex, vI lk, vI ci] [])) t := by
 have pre0 : oP p e below (T0.setTop (mkF m 94 #[vR rp, vR rl, vI mI, vR rk, vI cc, vI wd, vR rn, vR rc, vI ss, vI ro, vI ex, vI lk, vI ci] [])) (T0.setTop (mkF m 94 #[vR rp, vR rl, vI mI, vR rk, vI cc, vI wd, vR rn, vR rc, vI ss, vI ro, vI ex, vI lk, vI ci] [])) := fun t k => k
 obtain ⟨cl1, Arcl1, hincl1, -⟩ := AF.at A_rn (j := (ro + ci)) an hat hal
 obtain ⟨T2, h2, X2, e2, W2, st2⟩ := stI X0 hx hZ e0 Arcl1 (j := (ro + ci)) hincl1 (g := (mkF m 120 #[vR rp, vR rl, vI mI, vR rk, vI cc, vI wd, vR rn, vR rc, vI ss, vI ro, vI ex, vI lk, vI ci] [(.int (ro + cc)), (.int (ro + ci)), (.ref rn)])) rfl rfl (hb hby d5_120)
 have pre3 : oP p e below (T2.setTop (mkF m 121 #[vR rp, vR rl, vI mI, vR rk, vI cc, vI wd, vR rn, vR rc, vI ss, vI ro, vI ex, vI lk, vI ci] [])) (T0.setTop (mkF m 94 #[vR rp, vR rl, vI mI, vR rk, vI cc, vI wd, vR rn, vR rc, vI ss, vI ro, vI ex, vI lk, vI ci] [])) := by
  intro t k
  refine pre0 _ ?_
  refine XS.iload X0.here hx rfl (hb hby d5_94) rfl ?_
  refine XS.iload X0.here hx rfl (hb hby d5_96) rfl ?_
  refine XS.icmpNo X0.here hx rfl (hb hby d5_98) rfl (tlt hc98).2.1 ?_
  refine XS.iload X0.here hx rfl (hb hby d5_101) rfl ?_
  refine XS.iload X0.here hx rfl (hb hby d5_103) rfl ?_
  refine XS.icmpNo X0.here hx rfl (hb hby d5_105) rfl (teq hc105).2 ?_
  refine XS.aload X0.here hx rfl (hb hby d5_108) rfl rfl ?_
  refine XS.iload X0.here hx rfl (hb hby d5_110) rfl ?_
  refine XS.iload X0.here hx rfl (hb hby d5_112) rfl ?_
  refine XS.iadd X0.here hx rfl (hb hby d5_114) rfl ?_
  refine XS.iload X0.here hx rfl (hb hby d5_115) rfl ?_
  refine XS.iload X0.here hx rfl (hb hby d5_117) rfl ?_
  refine XS.iadd X0.here hx rfl (hb hby d5_119) rfl ?_
  refine st2 _ ?_
  exact k
 exact ⟨_, _, X2, e2, W2, pre3⟩
theorem d5_121 : D_17 121 = .ok (.aload 7, 2) := by decide +kernel
theorem d5_123 : D_17 123 = .ok (.iload 9, 2) := by decide +kernel
theorem d5_125 : D_17 125 = .ok (.iload 12, 2) := by decide +kernel
theorem d5_127 : D_17 127 = .ok (.iadd, 1) := by decide +kernel
theorem d5_128 : D_17 128 = .ok (.iconst 1, 1) := by decide +kernel
theorem d5_129 : D_17 129 = .ok (.iastore, 1) := by decide +kernel
theorem d5_130 : D_17 130 = .ok (.goto 69, 3) := by decide +kernel
theorem d5_199 : D_17 199 = .ok (.iinc 12 1, 3) := by decide +kernel
theorem d5_202 : D_17 202 = .ok (.goto (-108), 3) := by decide +kernel
set_option maxRecDepth 65536 in
set_option maxHeartbeats 40000000 in
theorem ofA2 {p : Program} {l : Launch} {e : Env} {R : Room} {s : State} {m : MethodId} {args : Array Value} {below : List Frame} {meth : Method} {c : Code} {T0 : State} {locs : List Loc} {cells slots : Nat} {Z : State} {a0 : Array Value} {h0 : Heap} (rp : Addr) (rl : Addr) (mI : Int32) (rk : Addr) (cc : Int32) (wd : Int32) (rn : Addr) (rc : Addr) (ss : Int32) (ro : Int32) (ex : Int32) (lk : Int32) (ci : Int32) (an : Nat) (nv : Nat) (fn : Nat → Int32) (fc : Nat → Int32)
  (X0 : Stand p l e R s m args below meth c T0 locs cells slots) (hx : p.tables.exec = Jvm.exec) (hZ : Z.Warmed39 s.vm) (hw : ∀ d ∈ tables_1, d.before a0 Z = true) (hby : c.code = prog_23_method_2_code) (hml : c.maxLocals = 13) (hown : s.vm.findClass cS0 = some m.cls) (e0 : T0.heap = h0) (A_rn : AI Z h0 rn .int nv fn) (A_rc : AI Z h0 rc .int nv fc) (hat : (ro + ci).toInt = (an : Int)) (hal : an < nv) :
  ∃ (T' : State) (h' : Heap), Stand p l e R s m args below meth c T' (locs ++ [⟨rc, (ro + ci).toNatClampNeg⟩]) cells slots ∧ T'.heap = h' ∧ Wr h0 h' rc (ro + ci).toNatClampNeg (.int 1) ∧ ∀ t, Steps p.tables e below (T'.setTop (mkF m 94 #[vR rp, vR rl, vI mI, vR rk, vI cc, vI wd, vR rn, vR rc, vI ss, vI ro, vI ex, vI lk, vI (ci + (1 : Int32))] [])) t → Steps p.tables e below (T0.setTop (mkF m 121 #[vR rp, vR rl, vI mI, vR rk, vI cc, vI wd, vR rn, vR rc, vI ss, vI ro, vI ex, vI lk, vI ci] [])) t := by
 have pre0 : oP p e below (T0.setTop (mkF m 121 #[vR rp, vR rl, vI mI, vR rk, vI cc, vI wd, vR rn, vR rc, vI ss, vI ro, vI ex, vI lk, vI ci] [])) (T0.setTop (mkF m 121 #[vR rp, vR rl, vI mI, vR rk, vI cc, vI wd, vR rn, vR rc, vI ss, vI ro, vI ex, vI lk, vI ci] [])) := fun t k => k
 obtain ⟨cl1, Arcl1, hincl1, -⟩ := AF.at A_rc (j := (ro + ci)) an hat hal
 obtain ⟨T2, h2, X2, e2, W2, st2⟩ := stI X0 hx hZ e0 Arcl1 (j := (ro + ci)) hincl1 (g := (mkF m 129 #[vR rp, vR rl, vI mI, vR rk, vI cc, vI wd, vR rn, vR rc, vI ss, vI ro, vI ex, vI lk, vI ci] [(.int 1), (.int (ro + ci)), (.ref rc)])) rfl rfl (hb hby d5_129)
 have pre3 : oP p e below (T2.setTop (mkF m 94 #[vR rp, vR rl, vI mI, vR rk, vI cc, vI wd, vR rn, vR rc, vI ss, vI ro, vI ex, vI lk, vI (ci + (1 : Int32))] [])) (T0.setTop (mkF m 121 #[vR rp, vR rl, vI mI, vR rk, vI cc, vI wd, vR rn, vR rc, vI ss, vI ro, vI ex, vI lk, vI ci] [])) := by
  intro t k
  refine pre0 _ ?_
  refine XS.aload X0.here hx rfl (hb hby d5_121) rfl rfl ?_
  refine XS.iload X0.here hx rfl (hb hby d5_123) rfl ?_
  refine XS.iload X0.here hx rfl (hb hby d5_125) rfl ?_
  refine XS.iadd X0.here hx rfl (hb hby d5_127) rfl ?_
  refine XS.iconst X0.here hx rfl (hb hby d5_128) ?_
  refine st2 _ ?_
  refine XS.goto X2.here hx rfl (pc0 := 130) (pc' := 199) rfl (hb hby d5_130) (by decide) (by decide) ?_
  refine XS.iinc X2.here hx rfl (hb hby d5_199) rfl (l' := #[vR rp, vR rl, vI mI, vR rk, vI cc, vI wd, vR rn, vR rc, vI ss, vI ro, vI ex, vI lk, vI (ci + (1 : Int32))]) rfl ?_
  refine XS.goto X2.here hx rfl (pc0 := 202) (pc' := 94) rfl (hb hby d5_202) (by decide) (by decide) ?_
  exact k
 exact ⟨_, _, X2, e2, W2, pre3⟩
theorem d5_133 : D_17 133 = .ok (.iload 11, 2) := by decide +kernel
theorem d5_135 : D_17 135 = .ok (.ifCond .ge 24, 3) := by decide +kernel
theorem d5_138 : D_17 138 = .ok (.aload 6, 2) := by decide +kernel
theorem d5_140 : D_17 140 = .ok (.iload 9, 2) := by decide +kernel
theorem d5_142 : D_17 142 = .ok (.iload 12, 2) := by decide +kernel
theorem d5_144 : D_17 144 = .ok (.iadd, 1) := by decide +kernel
theorem d5_145 : D_17 145 = .ok (.iconst 0, 1) := by decide +kernel
theorem d5_146 : D_17 146 = .ok (.iastore, 1) := by decide +kernel
set_option maxRecDepth 65536 in
set_option maxHeartbeats 40000000 in
theorem ofB {p : Program} {l : Launch} {e : Env} {R : Room} {s : State} {m : MethodId} {args : Array Value} {below : List Frame} {meth : Method} {c : Code} {T0 : State} {locs : List Loc} {cells slots : Nat} {Z : State} {a0 : Array Value} {h0 : Heap} (rp : Addr) (rl : Addr) (mI : Int32) (rk : Addr) (cc : Int32) (wd : Int32) (rn : Addr) (rc : Addr) (ss : Int32) (ro : Int32) (ex : Int32) (lk : Int32) (ci : Int32) (an : Nat) (nv : Nat) (fn : Nat → Int32) (fc : Nat → Int32)
  (X0 : Stand p l e R s m args below meth c T0 locs cells slots) (hx : p.tables.exec = Jvm.exec) (hZ : Z.Warmed39 s.vm) (hw : ∀ d ∈ tables_1, d.before a0 Z = true) (hby : c.code = prog_23_method_2_code) (hml : c.maxLocals = 13) (hown : s.vm.findClass cS0 = some m.cls) (e0 : T0.heap = h0) (A_rn : AI Z h0 rn .int nv fn) (A_rc : AI Z h0 rc .int nv fc) (hat : (ro + ci).toInt = (an : Int)) (hal : an < nv) (hc98 : (ci < cc)) (hc105 : ¬ (ci = ex)) (hc135 : (lk < (0 : Int32))) :
  ∃ (T' : State) (h' : Heap), Stand p l e R s m args below meth c T' (locs ++ [⟨rn, (ro + ci).toNatClampNeg⟩]) cells slots ∧ T'.heap = h' ∧ Wr h0 h' rn (ro + ci).toNatClampNeg (.int 0) ∧ ∀ t, Steps p.tables e below (T'.setTop (mkF m 147 #[vR rp, vR rl, vI mI, vR rk, vI cc, vI wd, vR rn, vR rc, vI ss, vI ro, vI ex, vI lk, vI ci] [])) t → Steps p.tables e below (T0.setTop (mkF m 94 #[vR rp, vR rl, vI mI, vR rk, vI cc, vI wd, vR rn, vR rc, vI ss, vI ro, vI ex, vI lk, vI ci] [])) t := by
 have pre0 : oP p e below (T0.setTop (mkF m 94 #[vR rp, vR rl, vI mI, vR rk, vI cc, vI wd, vR rn, vR rc, vI ss, vI ro, vI ex, vI lk, vI ci] [])) (T0.setTop (mkF m 94 #[vR rp, vR rl, vI mI, vR rk, vI cc, vI wd, vR rn, vR rc, vI ss, vI ro, vI ex, vI lk, vI ci] [])) := fun t k => k
 obtain ⟨cl1, Arcl1, hincl1, -⟩ := AF.at A_rn (j := (ro + ci)) an hat hal
 obtain ⟨T2, h2, X2, e2, W2, st2⟩ := stI X0 hx hZ e0 Arcl1 (j := (ro + ci)) hincl1 (g := (mkF m 146 #[vR rp, vR rl, vI mI, vR rk, vI cc, vI wd, vR rn, vR rc, vI ss, vI ro, vI ex, vI lk, vI ci] [(.int 0), (.int (ro + ci)), (.ref rn)])) rfl rfl (hb hby d5_146)
 have pre3 : oP p e below (T2.setTop (mkF m 147 #[vR rp, vR rl, vI mI, vR rk, vI cc, vI wd, vR rn, vR rc, vI ss, vI ro, vI ex, vI lk, vI ci] [])) (T0.setTop (mkF m 94 #[vR rp, vR rl, vI mI, vR rk, vI cc, vI wd, vR rn, vR rc, vI ss, vI ro, vI ex, vI lk, vI ci] [])) := by
  intro t k
  refine pre0 _ ?_
  refine XS.iload X0.here hx rfl (hb hby d5_94) rfl ?_
  refine XS.iload X0.here hx rfl (hb hby d5_96) rfl ?_
  refine XS.icmpNo X0.here hx rfl (hb hby d5_98) rfl (tlt hc98).2.1 ?_
  refine XS.iload X0.here hx rfl (hb hby d5_101) rfl ?_
  refine XS.iload X0.here hx rfl (hb hby d5_103) rfl ?_
  refine XS.icmpYes X0.here hx rfl (pc0 := 105) (pc' := 133) rfl (hb hby d5_105) rfl (feq hc105).2 (by decide) (by decide) ?_
  refine XS.iload X0.here hx rfl (hb hby d5_133) rfl ?_
  refine XS.ifNo X0.here hx rfl (hb hby d5_135) rfl ((if0 _ _).trans (tlt hc135).2.1) ?_
  refine XS.aload X0.here hx rfl (hb hby d5_138) rfl rfl ?_
  refine XS.iload X0.here hx rfl (hb hby d5_140) rfl ?_
  refine XS.iload X0.here hx rfl (hb hby d5_142) rfl ?_
  refine XS.iadd X0.here hx rfl (hb hby d5_144) rfl ?_
  refine XS.iconst X0.here hx rfl (hb hby d5_145) ?_
  refine st2 _ ?_
  exact k
 exact ⟨_, _, X2, e2, W2, pre3⟩
theorem d5_147 : D_17 147 = .ok (.aload 7, 2) := by decide +kernel
theorem d5_149 : D_17 149 = .ok (.iload 9, 2) := by decide +kernel
theorem d5_151 : D_17 151 = .ok (.iload 12, 2) := by decide +kernel
theorem d5_153 : D_17 153 = .ok (.iadd, 1) := by decide +kernel
theorem d5_154 : D_17 154 = .ok (.iconst 1, 1) := by decide +kernel
theorem d5_155 : D_17 155 = .ok (.iastore, 1) := by decide +kernel
theorem d5_156 : D_17 156 = .ok (.goto 43, 3) := by decide +kernel
set_option maxRecDepth 65536 in
set_option maxHeartbeats 40000000 in
theorem ofB2 {p : Program} {l : Launch} {e : Env} {R : Room} {s : State} {m : MethodId} {args : Array Value} {below : List Frame} {meth : Method} {c : Code} {T0 : State} {locs : List Loc} {cells slots : Nat} {Z : State} {a0 : Array Value} {h0 : Heap} (rp : Addr) (rl : Addr) (mI : Int32) (rk : Addr) (cc : Int32) (wd : Int32) (rn : Addr) (rc : Addr) (ss : Int32) (ro : Int32) (ex : Int32) (lk : Int32) (ci : Int32) (an : Nat) (nv : Nat) (fn : Nat → Int32) (fc : Nat → Int32)
  (X0 : Stand p l e R s m args below meth c T0 locs cells slots) (hx : p.tables.exec = Jvm.exec) (hZ : Z.Warmed39 s.vm) (hw : ∀ d ∈ tables_1, d.before a0 Z = true) (hby : c.code = prog_23_method_2_code) (hml : c.maxLocals = 13) (hown : s.vm.findClass cS0 = some m.cls) (e0 : T0.heap = h0) (A_rn : AI Z h0 rn .int nv fn) (A_rc : AI Z h0 rc .int nv fc) (hat : (ro + ci).toInt = (an : Int)) (hal : an < nv) :
  ∃ (T' : State) (h' : Heap), Stand p l e R s m args below meth c T' (locs ++ [⟨rc, (ro + ci).toNatClampNeg⟩]) cells slots ∧ T'.heap = h' ∧ Wr h0 h' rc (ro + ci).toNatClampNeg (.int 1) ∧ ∀ t, Steps p.tables e below (T'.setTop (mkF m 94 #[vR rp, vR rl, vI mI, vR rk, vI cc, vI wd, vR rn, vR rc, vI ss, vI ro, vI ex, vI lk, vI (ci + (1 : Int32))] [])) t → Steps p.tables e below (T0.setTop (mkF m 147 #[vR rp, vR rl, vI mI, vR rk, vI cc, vI wd, vR rn, vR rc, vI ss, vI ro, vI ex, vI lk, vI ci] [])) t := by
 have pre0 : oP p e below (T0.setTop (mkF m 147 #[vR rp, vR rl, vI mI, vR rk, vI cc, vI wd, vR rn, vR rc, vI ss, vI ro, vI ex, vI lk, vI ci] [])) (T0.setTop (mkF m 147 #[vR rp, vR rl, vI mI, vR rk, vI cc, vI wd, vR rn, vR rc, vI ss, vI ro, vI ex, vI lk, vI ci] [])) := fun t k => k
 obtain ⟨cl1, Arcl1, hincl1, -⟩ := AF.at A_rc (j := (ro + ci)) an hat hal
 obtain ⟨T2, h2, X2, e2, W2, st2⟩ := stI X0 hx hZ e0 Arcl1 (j := (ro + ci)) hincl1 (g := (mkF m 155 #[vR rp, vR rl, vI mI, vR rk, vI cc, vI wd, vR rn, vR rc, vI ss, vI ro, vI ex, vI lk, vI ci] [(.int 1), (.int (ro + ci)), (.ref rc)])) rfl rfl (hb hby d5_155)
 have pre3 : oP p e below (T2.setTop (mkF m 94 #[vR rp, vR rl, vI mI, vR rk, vI cc, vI wd, vR rn, vR rc, vI ss, vI ro, vI ex, vI lk, vI (ci + (1 : Int32))] [])) (T0.setTop (mkF m 147 #[vR rp, vR rl, vI mI, vR rk, vI cc, vI wd, vR rn, vR rc, vI ss, vI ro, vI ex, vI lk, vI ci] [])) := by
  intro t k
  refine pre0 _ ?_
  refine XS.aload X0.here hx rfl (hb hby d5_147) rfl rfl ?_
  refine XS.iload X0.here hx rfl (hb hby d5_149) rfl ?_
  refine XS.iload X0.here hx rfl (hb hby d5_151) rfl ?_
  refine XS.iadd X0.here hx rfl (hb hby d5_153) rfl ?_
  refine XS.iconst X0.here hx rfl (hb hby d5_154) ?_
  refine st2 _ ?_
  refine XS.goto X2.here hx rfl (pc0 := 156) (pc' := 199) rfl (hb hby d5_156) (by decide) (by decide) ?_
  refine XS.iinc X2.here hx rfl (hb hby d5_199) rfl (l' := #[vR rp, vR rl, vI mI, vR rk, vI cc, vI wd, vR rn, vR rc, vI ss, vI ro, vI ex, vI lk, vI (ci + (1 : Int32))]) rfl ?_
  refine XS.goto X2.here hx rfl (pc0 := 202) (pc' := 94) rfl (hb hby d5_202) (by decide) (by decide) ?_
  exact k
 exact ⟨_, _, X2, e2, W2, pre3⟩
theorem d5_159 : D_17 159 = .ok (.aload 6, 2) := by decide +kernel
theorem d5_161 : D_17 161 = .ok (.iload 9, 2) := by decide +kernel
theorem d5_163 : D_17 163 = .ok (.iload 12, 2) := by decide +kernel
theorem d5_165 : D_17 165 = .ok (.iadd, 1) := by decide +kernel
theorem d5_166 : D_17 166 = .ok (.aload 6, 2) := by decide +kernel
theorem d5_168 : D_17 168 = .ok (.iload 11, 2) := by decide +kernel
theorem d5_170 : D_17 170 = .ok (.iload 4, 2) := by decide +kernel
theorem d5_172 : D_17 172 = .ok (.imul, 1) := by decide +kernel
theorem d5_173 : D_17 173 = .ok (.iload 12, 2) := by decide +kernel
theorem d5_175 : D_17 175 = .ok (.iadd, 1) := by decide +kernel
theorem d5_176 : D_17 176 = .ok (.iaload, 1) := by decide +kernel
theorem d5_177 : D_17 177 = .ok (.iastore, 1) := by decide +kernel
set_option maxRecDepth 65536 in
set_option maxHeartbeats 40000000 in
theorem ofC {p : Program} {l : Launch} {e : Env} {R : Room} {s : State} {m : MethodId} {args : Array Value} {below : List Frame} {meth : Method} {c : Code} {T0 : State} {locs : List Loc} {cells slots : Nat} {Z : State} {a0 : Array Value} {h0 : Heap} (rp : Addr) (rl : Addr) (mI : Int32) (rk : Addr) (cc : Int32) (wd : Int32) (rn : Addr) (rc : Addr) (ss : Int32) (ro : Int32) (ex : Int32) (lk : Int32) (ci : Int32) (an : Nat) (bn : Nat) (nv : Nat) (fn : Nat → Int32) (fc : Nat → Int32)
  (X0 : Stand p l e R s m args below meth c T0 locs cells slots) (hx : p.tables.exec = Jvm.exec) (hZ : Z.Warmed39 s.vm) (hw : ∀ d ∈ tables_1, d.before a0 Z = true) (hby : c.code = prog_23_method_2_code) (hml : c.maxLocals = 13) (hown : s.vm.findClass cS0 = some m.cls) (e0 : T0.heap = h0) (A_rn : AI Z h0 rn .int nv fn) (A_rc : AI Z h0 rc .int nv fc) (hat : (ro + ci).toInt = (an : Int)) (hal : an < nv) (hsn : ((lk * cc) + ci).toInt = (bn : Int)) (hsl : bn < nv) (hc98 : (ci < cc)) (hc105 : ¬ (ci = ex)) (hc135 : ¬ (lk < (0 : Int32))) :
  ∃ (T' : State) (h' : Heap), Stand p l e R s m args below meth c T' (locs ++ [⟨rn, (ro + ci).toNatClampNeg⟩]) cells slots ∧ T'.heap = h' ∧ Wr h0 h' rn (ro + ci).toNatClampNeg (.int (fn bn)) ∧ ∀ t, Steps p.tables e below (T'.setTop (mkF m 178 #[vR rp, vR rl, vI mI, vR rk, vI cc, vI wd, vR rn, vR rc, vI ss, vI ro, vI ex, vI lk, vI ci] [])) t → Steps p.tables e below (T0.setTop (mkF m 94 #[vR rp, vR rl, vI mI, vR rk, vI cc, vI wd, vR rn, vR rc, vI ss, vI ro, vI ex, vI lk, vI ci] [])) t := by
 have pre0 : oP p e below (T0.setTop (mkF m 94 #[vR rp, vR rl, vI mI, vR rk, vI cc, vI wd, vR rn, vR rc, vI ss, vI ro, vI ex, vI lk, vI ci] [])) (T0.setTop (mkF m 94 #[vR rp, vR rl, vI mI, vR rk, vI cc, vI wd, vR rn, vR rc, vI ss, vI ro, vI ex, vI lk, vI ci] [])) := fun t k => k
 obtain ⟨cl1, Arcl1, hincl1, hatcl1⟩ := AF.at A_rn (j := ((lk * cc) + ci)) bn hsn hsl
 obtain ⟨cl2, Arcl2, hincl2, -⟩ := AF.at A_rn (j := (ro + ci)) an hat hal
 obtain ⟨T3, h3, X3, e3, W3, st3⟩ := stI X0 hx hZ e0 Arcl2 (j := (ro + ci)) hincl2 (g := (mkF m 177 #[vR rp, vR rl, vI mI, vR rk, vI cc, vI wd, vR rn, vR rc, vI ss, vI ro, vI ex, vI lk, vI ci] [(.int (fn bn)), (.int (ro + ci)), (.ref rn)])) rfl rfl (hb hby d5_177)
 have pre4 : oP p e below (T3.setTop (mkF m 178 #[vR rp, vR rl, vI mI, vR rk, vI cc, vI wd, vR rn, vR rc, vI ss, vI ro, vI ex, vI lk, vI ci] [])) (T0.setTop (mkF m 94 #[vR rp, vR rl, vI mI, vR rk, vI cc, vI wd, vR rn, vR rc, vI ss, vI ro, vI ex, vI lk, vI ci] [])) := by
  intro t k
  refine pre0 _ ?_
  refine XS.iload X0.here hx rfl (hb hby d5_94) rfl ?_
  refine XS.iload X0.here hx rfl (hb hby d5_96) rfl ?_
  refine XS.icmpNo X0.here hx rfl (hb hby d5_98) rfl (tlt hc98).2.1 ?_
  refine XS.iload X0.here hx rfl (hb hby d5_101) rfl ?_
  refine XS.iload X0.here hx rfl (hb hby d5_103) rfl ?_
  refine XS.icmpYes X0.here hx rfl (pc0 := 105) (pc' := 133) rfl (hb hby d5_105) rfl (feq hc105).2 (by decide) (by decide) ?_
  refine XS.iload X0.here hx rfl (hb hby d5_133) rfl ?_
  refine XS.ifYes X0.here hx rfl (pc0 := 135) (pc' := 159) rfl (hb hby d5_135) rfl ((if0 _ _).trans (flt hc135).2.1) (by decide) (by decide) ?_
  refine XS.aload X0.here hx rfl (hb hby d5_159) rfl rfl ?_
  refine XS.iload X0.here hx rfl (hb hby d5_161) rfl ?_
  refine XS.iload X0.here hx rfl (hb hby d5_163) rfl ?_
  refine XS.iadd X0.here hx rfl (hb hby d5_165) rfl ?_
  refine XS.aload X0.here hx rfl (hb hby d5_166) rfl rfl ?_
  refine XS.iload X0.here hx rfl (hb hby d5_168) rfl ?_
  refine XS.iload X0.here hx rfl (hb hby d5_170) rfl ?_
  refine XS.imul X0.here hx rfl (hb hby d5_172) rfl ?_
  refine XS.iload X0.here hx rfl (hb hby d5_173) rfl ?_
  refine XS.iadd X0.here hx rfl (hb hby d5_175) rfl ?_
  refine X0.iaload hx (j := ((lk * cc) + ci)) (v := (.int (fn bn))) (by rw [e0]; exact Arcl1.1) (State.isArrayOf_alike hZ.alike Arcl1.2.1) Arcl1.2.2 hincl1 hatcl1 (g := (mkF m 176 #[vR rp, vR rl, vI mI, vR rk, vI cc, vI wd, vR rn, vR rc, vI ss, vI ro, vI ex, vI lk, vI ci] [(.int ((lk * cc) + ci)), (.ref rn), (.int (ro + ci)), (.ref rn)])) rfl rfl (hb hby d5_176) _ ?_
  refine st3 _ ?_
  exact k
 exact ⟨_, _, X3, e3, W3, pre4⟩
theorem d5_178 : D_17 178 = .ok (.aload 7, 2) := by decide +kernel
theorem d5_180 : D_17 180 = .ok (.iload 9, 2) := by decide +kernel
theorem d5_182 : D_17 182 = .ok (.iload 12, 2) := by decide +kernel
theorem d5_184 : D_17 184 = .ok (.iadd, 1) := by decide +kernel
theorem d5_185 : D_17 185 = .ok (.iconst 1, 1) := by decide +kernel
theorem d5_186 : D_17 186 = .ok (.aload 7, 2) := by decide +kernel
theorem d5_188 : D_17 188 = .ok (.iload 11, 2) := by decide +kernel
theorem d5_190 : D_17 190 = .ok (.iload 4, 2) := by decide +kernel
theorem d5_192 : D_17 192 = .ok (.imul, 1) := by decide +kernel
theorem d5_193 : D_17 193 = .ok (.iload 12, 2) := by decide +kernel
theorem d5_195 : D_17 195 = .ok (.iadd, 1) := by decide +kernel
theorem d5_196 : D_17 196 = .ok (.iaload, 1) := by decide +kernel
theorem d5_197 : D_17 197 = .ok (.iadd, 1) := by decide +kernel
theorem d5_198 : D_17 198 = .ok (.iastore, 1) := by decide +kernel
set_option maxRecDepth 65536 in
set_option maxHeartbeats 40000000 in
theorem ofC2 {p : Program} {l : Launch} {e : Env} {R : Room} {s : State} {m : MethodId} {args : Array Value} {below : List Frame} {meth : Method} {c : Code} {T0 : State} {locs : List Loc} {cells slots : Nat} {Z : State} {a0 : Array Value} {h0 : Heap} (rp : Addr) (rl : Addr) (mI : Int32) (rk : Addr) (cc : Int32) (wd : Int32) (rn : Addr) (rc : Addr) (ss : Int32) (ro : Int32) (ex : Int32) (lk : Int32) (ci : Int32) (an : Nat) (bn : Nat) (nv : Nat) (fn : Nat → Int32) (fc : Nat → Int32)
  (X0 : Stand p l e R s m args below meth c T0 locs cells slots) (hx : p.tables.exec = Jvm.exec) (hZ : Z.Warmed39 s.vm) (hw : ∀ d ∈ tables_1, d.before a0 Z = true) (hby : c.code = prog_23_method_2_code) (hml : c.maxLocals = 13) (hown : s.vm.findClass cS0 = some m.cls) (e0 : T0.heap = h0) (A_rn : AI Z h0 rn .int nv fn) (A_rc : AI Z h0 rc .int nv fc) (hat : (ro + ci).toInt = (an : Int)) (hal : an < nv) (hsn : ((lk * cc) + ci).toInt = (bn : Int)) (hsl : bn < nv) :
  ∃ (T' : State) (h' : Heap), Stand p l e R s m args below meth c T' (locs ++ [⟨rc, (ro + ci).toNatClampNeg⟩]) cells slots ∧ T'.heap = h' ∧ Wr h0 h' rc (ro + ci).toNatClampNeg (.int ((1 : Int32) + (fc bn))) ∧ ∀ t, Steps p.tables e below (T'.setTop (mkF m 94 #[vR rp, vR rl, vI mI, vR rk, vI cc, vI wd, vR rn, vR rc, vI ss, vI ro, vI ex, vI lk, vI (ci + (1 : Int32))] [])) t → Steps p.tables e below (T0.setTop (mkF m 178 #[vR rp, vR rl, vI mI, vR rk, vI cc, vI wd, vR rn, vR rc, vI ss, vI ro, vI ex, vI lk, vI ci] [])) t := by
 have pre0 : oP p e below (T0.setTop (mkF m 178 #[vR rp, vR rl, vI mI, vR rk, vI cc, vI wd, vR rn, vR rc, vI ss, vI ro, vI ex, vI lk, vI ci] [])) (T0.setTop (mkF m 178 #[vR rp, vR rl, vI mI, vR rk, vI cc, vI wd, vR rn, vR rc, vI ss, vI ro, vI ex, vI lk, vI ci] [])) := fun t k => k
 obtain ⟨cl1, Arcl1, hincl1, hatcl1⟩ := AF.at A_rc (j := ((lk * cc) + ci)) bn hsn hsl
 obtain ⟨cl2, Arcl2, hincl2, -⟩ := AF.at A_rc (j := (ro + ci)) an hat hal
 obtain ⟨T3, h3, X3, e3, W3, st3⟩ := stI X0 hx hZ e0 Arcl2 (j := (ro + ci)) hincl2 (g := (mkF m 198 #[vR rp, vR rl, vI mI, vR rk, vI cc, vI wd, vR rn, vR rc, vI ss, vI ro, vI ex, vI lk, vI ci] [(.int ((1 : Int32) + (fc bn))), (.int (ro + ci)), (.ref rc)])) rfl rfl (hb hby d5_198)
 have pre4 : oP p e below (T3.setTop (mkF m 94 #[vR rp, vR rl, vI mI, vR rk, vI cc, vI wd, vR rn, vR rc, vI ss, vI ro, vI ex, vI lk, vI (ci + (1 : Int32))] [])) (T0.setTop (mkF m 178 #[vR rp, vR rl, vI mI, vR rk, vI cc, vI wd, vR rn, vR rc, vI ss, vI ro, vI ex, vI lk, vI ci] [])) := by
  intro t k
  refine pre0 _ ?_
  refine XS.aload X0.here hx rfl (hb hby d5_178) rfl rfl ?_
  refine XS.iload X0.here hx rfl (hb hby d5_180) rfl ?_
  refine XS.iload X0.here hx rfl (hb hby d5_182) rfl ?_
  refine XS.iadd X0.here hx rfl (hb hby d5_184) rfl ?_
  refine XS.iconst X0.here hx rfl (hb hby d5_185) ?_
  refine XS.aload X0.here hx rfl (hb hby d5_186) rfl rfl ?_
  refine XS.iload X0.here hx rfl (hb hby d5_188) rfl ?_
  refine XS.iload X0.here hx rfl (hb hby d5_190) rfl ?_
  refine XS.imul X0.here hx rfl (hb hby d5_192) rfl ?_
  refine XS.iload X0.here hx rfl (hb hby d5_193) rfl ?_
  refine XS.iadd X0.here hx rfl (hb hby d5_195) rfl ?_
  refine X0.iaload hx (j := ((lk * cc) + ci)) (v := (.int (fc bn))) (by rw [e0]; exact Arcl1.1) (State.isArrayOf_alike hZ.alike Arcl1.2.1) Arcl1.2.2 hincl1 hatcl1 (g := (mkF m 196 #[vR rp, vR rl, vI mI, vR rk, vI cc, vI wd, vR rn, vR rc, vI ss, vI ro, vI ex, vI lk, vI ci] [(.int ((lk * cc) + ci)), (.ref rc), (.int 1), (.int (ro + ci)), (.ref rc)])) rfl rfl (hb hby d5_196) _ ?_
  refine XS.iadd X0.here hx rfl (hb hby d5_197) rfl ?_
  refine st3 _ ?_
  refine XS.iinc X3.here hx rfl (hb hby d5_199) rfl (l' := #[vR rp, vR rl, vI mI, vR rk, vI cc, vI wd, vR rn, vR rc, vI ss, vI ro, vI ex, vI lk, vI (ci + (1 : Int32))]) rfl ?_
  refine XS.goto X3.here hx rfl (pc0 := 202) (pc' := 94) rfl (hb hby d5_202) (by decide) (by decide) ?_
  exact k
 exact ⟨_, _, X3, e3, W3, pre4⟩
theorem d5_205 : D_17 205 = .ok (.iinc 8 1, 3) := by decide +kernel
theorem d5_208 : D_17 208 = .ok (.goto (-159), 3) := by decide +kernel
set_option maxRecDepth 65536 in
set_option maxHeartbeats 40000000 in
theorem ofE {p : Program} {l : Launch} {e : Env} {R : Room} {s : State} {m : MethodId} {args : Array Value} {below : List Frame} {meth : Method} {c : Code} {T0 : State} {locs : List Loc} {cells slots : Nat} {Z : State} {a0 : Array Value} {h0 : Heap} (rp : Addr) (rl : Addr) (mI : Int32) (rk : Addr) (cc : Int32) (wd : Int32) (rn : Addr) (rc : Addr) (ss : Int32) (ro : Int32) (ex : Int32) (lk : Int32) (ci : Int32)
  (X0 : Stand p l e R s m args below meth c T0 locs cells slots) (hx : p.tables.exec = Jvm.exec) (hZ : Z.Warmed39 s.vm) (hw : ∀ d ∈ tables_1, d.before a0 Z = true) (hby : c.code = prog_23_method_2_code) (hml : c.maxLocals = 13) (hown : s.vm.findClass cS0 = some m.cls) (e0 : T0.heap = h0) (hc98 : ¬ (ci < cc)) :
  ∃ T' : State, Stand p l e R s m args below meth c T' locs cells slots ∧ T'.heap = h0 ∧ ∀ t, Steps p.tables e below (T'.setTop (mkF m 49 #[vR rp, vR rl, vI mI, vR rk, vI cc, vI wd, vR rn, vR rc, vI (ss + (1 : Int32)), vI ro, vI ex, vI lk, vI ci] [])) t → Steps p.tables e below (T0.setTop (mkF m 94 #[vR rp, vR rl, vI mI, vR rk, vI cc, vI wd, vR rn, vR rc, vI ss, vI ro, vI ex, vI lk, vI ci] [])) t := by
 have pre0 : oP p e below (T0.setTop (mkF m 94 #[vR rp, vR rl, vI mI, vR rk, vI cc, vI wd, vR rn, vR rc, vI ss, vI ro, vI ex, vI lk, vI ci] [])) (T0.setTop (mkF m 94 #[vR rp, vR rl, vI mI, vR rk, vI cc, vI wd, vR rn, vR rc, vI ss, vI ro, vI ex, vI lk, vI ci] [])) := fun t k => k
 have pre1 : oP p e below (T0.setTop (mkF m 49 #[vR rp, vR rl, vI mI, vR rk, vI cc, vI wd, vR rn, vR rc, vI (ss + (1 : Int32)), vI ro, vI ex, vI lk, vI ci] [])) (T0.setTop (mkF m 94 #[vR rp, vR rl, vI mI, vR rk, vI cc, vI wd, vR rn, vR rc, vI ss, vI ro, vI ex, vI lk, vI ci] [])) := by
  intro t k
  refine pre0 _ ?_
  refine XS.iload X0.here hx rfl (hb hby d5_94) rfl ?_
  refine XS.iload X0.here hx rfl (hb hby d5_96) rfl ?_
  refine XS.icmpYes X0.here hx rfl (pc0 := 98) (pc' := 205) rfl (hb hby d5_98) rfl (flt hc98).2.1 (by decide) (by decide) ?_
  refine XS.iinc X0.here hx rfl (hb hby d5_205) rfl (l' := #[vR rp, vR rl, vI mI, vR rk, vI cc, vI wd, vR rn, vR rc, vI (ss + (1 : Int32)), vI ro, vI ex, vI lk, vI ci]) rfl ?_
  refine XS.goto X0.here hx rfl (pc0 := 208) (pc' := 49) rfl (hb hby d5_208) (by decide) (by decide) ?_
  exact k
 exact ⟨_, X0, e0, pre1⟩
theorem d5_49 : D_17 49 = .ok (.iload 8, 2) := by decide +kernel
theorem d5_51 : D_17 51 = .ok (.iload_n 2, 1) := by decide +kernel
theorem d5_52 : D_17 52 = .ok (.if_icmp .ge 159, 3) := by decide +kernel
theorem d5_55 : D_17 55 = .ok (.iload 8, 2) := by decide +kernel
theorem d5_57 : D_17 57 = .ok (.iload 4, 2) := by decide +kernel
theorem d5_59 : D_17 59 = .ok (.imul, 1) := by decide +kernel
theorem d5_60 : D_17 60 = .ok (.istore 9, 2) := by decide +kernel
theorem d5_62 : D_17 62 = .ok (.aload_n 3, 1) := by decide +kernel
theorem d5_63 : D_17 63 = .ok (.aload_n 0, 1) := by decide +kernel
theorem d5_64 : D_17 64 = .ok (.iload 8, 2) := by decide +kernel
theorem d5_66 : D_17 66 = .ok (.baload, 1) := by decide +kernel
theorem d5_67 : D_17 67 = .ok (.sipush 255, 3) := by decide +kernel
theorem d5_70 : D_17 70 = .ok (.iand, 1) := by decide +kernel
theorem d5_71 : D_17 71 = .ok (.iaload, 1) := by decide +kernel
theorem d5_72 : D_17 72 = .ok (.istore 10, 2) := by decide +kernel
theorem d5_74 : D_17 74 = .ok (.iload 8, 2) := by decide +kernel
theorem d5_76 : D_17 76 = .ok (.ifCond .ne 7, 3) := by decide +kernel
theorem d5_79 : D_17 79 = .ok (.iconst (-1), 1) := by decide +kernel
theorem d5_80 : D_17 80 = .ok (.goto 9, 3) := by decide +kernel
theorem d5_89 : D_17 89 = .ok (.istore 11, 2) := by decide +kernel
theorem d5_91 : D_17 91 = .ok (.iconst 0, 1) := by decide +kernel
theorem d5_92 : D_17 92 = .ok (.istore 12, 2) := by decide +kernel
set_option maxRecDepth 65536 in
set_option maxHeartbeats 40000000 in
theorem ofH0 {p : Program} {l : Launch} {e : Env} {R : Room} {s : State} {m : MethodId} {args : Array Value} {below : List Frame} {meth : Method} {c : Code} {T0 : State} {locs : List Loc} {cells slots : Nat} {Z : State} {a0 : Array Value} {h0 : Heap} (rp : Addr) (rl : Addr) (mI : Int32) (rk : Addr) (cc : Int32) (wd : Int32) (rn : Addr) (rc : Addr) (ss : Int32) (qa : Option Int32) (qb : Option Int32) (qc : Option Int32) (qd : Option Int32) (sn : Nat) (mn : Nat) (fp : Nat → Int32) (fk : Nat → Int32)
  (X0 : Stand p l e R s m args below meth c T0 locs cells slots) (hx : p.tables.exec = Jvm.exec) (hZ : Z.Warmed39 s.vm) (hw : ∀ d ∈ tables_1, d.before a0 Z = true) (hby : c.code = prog_23_method_2_code) (hml : c.maxLocals = 13) (hown : s.vm.findClass cS0 = some m.cls) (e0 : T0.heap = h0) (A_rp : AI Z h0 rp .byte mn fp) (A_rk : AI Z h0 rk .int 256 fk) (hss : ss.toInt = (sn : Int)) (hsl : sn < mn) (hc52 : (ss < mI)) (hc76 : (ss = (0 : Int32))) :
  ∃ T' : State, Stand p l e R s m args below meth c T' locs cells slots ∧ T'.heap = h0 ∧ ∀ t, Steps p.tables e below (T'.setTop (mkF m 94 #[vR rp, vR rl, vI mI, vR rk, vI cc, vI wd, vR rn, vR rc, vI ss, vI (ss * cc), vI (fk (own_iy (fp sn))), vI (-1 : Int32), vI 0] [])) t → Steps p.tables e below (T0.setTop (mkF m 49 #[vR rp, vR rl, vI mI, vR rk, vI cc, vI wd, vR rn, vR rc, vI ss, (own_s qa), (own_s qb), (own_s qc), (own_s qd)] [])) t := by
 have pre0 : oP p e below (T0.setTop (mkF m 49 #[vR rp, vR rl, vI mI, vR rk, vI cc, vI wd, vR rn, vR rc, vI ss, (own_s qa), (own_s qb), (own_s qc), (own_s qd)] [])) (T0.setTop (mkF m 49 #[vR rp, vR rl, vI mI, vR rk, vI cc, vI wd, vR rn, vR rc, vI ss, (own_s qa), (own_s qb), (own_s qc), (own_s qd)] [])) := fun t k => k
 obtain ⟨cl1, Arcl1, hincl1, hatcl1⟩ := AF.at A_rp (j := ss) sn hss hsl
 obtain ⟨cl2, Arcl2, hincl2, hatcl2⟩ := AF.at A_rk (j := ((fp sn) &&& (255 : Int32))) (own_iy (fp sn)) (own_iy1 (fp sn)) (own_iy2 (fp sn))
 have pre3 : oP p e below (T0.setTop (mkF m 94 #[vR rp, vR rl, vI mI, vR rk, vI cc, vI wd, vR rn, vR rc, vI ss, vI (ss * cc), vI (fk (own_iy (fp sn))), vI (-1 : Int32), vI 0] [])) (T0.setTop (mkF m 49 #[vR rp, vR rl, vI mI, vR rk, vI cc, vI wd, vR rn, vR rc, vI ss, (own_s qa), (own_s qb), (own_s qc), (own_s qd)] [])) := by
  intro t k
  refine pre0 _ ?_
  refine XS.iload X0.here hx rfl (hb hby d5_49) rfl ?_
  refine XS.iloadN X0.here hx rfl (hb hby d5_51) rfl ?_
  refine XS.icmpNo X0.here hx rfl (hb hby d5_52) rfl (tlt hc52).2.1 ?_
  refine XS.iload X0.here hx rfl (hb hby d5_55) rfl ?_
  refine XS.iload X0.here hx rfl (hb hby d5_57) rfl ?_
  refine XS.imul X0.here hx rfl (hb hby d5_59) rfl ?_
  refine XS.istore X0.here hx rfl (hb hby d5_60) rfl (l' := #[vR rp, vR rl, vI mI, vR rk, vI cc, vI wd, vR rn, vR rc, vI ss, vI (ss * cc), (own_s qb), (own_s qc), (own_s qd)]) (by cases qa <;> rfl) ?_
  refine XS.aloadN X0.here hx rfl (hb hby d5_62) rfl rfl ?_
  refine XS.aloadN X0.here hx rfl (hb hby d5_63) rfl rfl ?_
  refine XS.iload X0.here hx rfl (hb hby d5_64) rfl ?_
  refine X0.baloadBytes hx (j := ss) (v := (.int (fp sn))) (by rw [e0]; exact Arcl1.1) (State.isArrayOf_alike hZ.alike Arcl1.2.1) Arcl1.2.2 hincl1 hatcl1 (g := (mkF m 66 #[vR rp, vR rl, vI mI, vR rk, vI cc, vI wd, vR rn, vR rc, vI ss, vI (ss * cc), (own_s qb), (own_s qc), (own_s qd)] [(.int ss), (.ref rp), (.ref rk)])) rfl rfl (hb hby d5_66) _ ?_
  refine XS.sipush X0.here hx rfl (hb hby d5_67) ?_
  refine XS.iand X0.here hx rfl (hb hby d5_70) rfl ?_
  refine X0.iaload hx (j := ((fp sn) &&& (255 : Int32))) (v := (.int (fk (own_iy (fp sn))))) (by rw [e0]; exact Arcl2.1) (State.isArrayOf_alike hZ.alike Arcl2.2.1) Arcl2.2.2 hincl2 hatcl2 (g := (mkF m 71 #[vR rp, vR rl, vI mI, vR rk, vI cc, vI wd, vR rn, vR rc, vI ss, vI (ss * cc), (own_s qb), (own_s qc), (own_s qd)] [(.int ((fp sn) &&& (255 : Int32))), (.ref rk)])) rfl rfl (hb hby d5_71) _ ?_
  refine XS.istore X0.here hx rfl (hb hby d5_72) rfl (l' := #[vR rp, vR rl, vI mI, vR rk, vI cc, vI wd, vR rn, vR rc, vI ss, vI (ss * cc), vI (fk (own_iy (fp sn))), (own_s qc), (own_s qd)]) (by cases qb <;> rfl) ?_
  refine XS.iload X0.here hx rfl (hb hby d5_74) rfl ?_
  refine XS.ifNo X0.here hx rfl (hb hby d5_76) rfl ((if0 _ _).trans (teq hc76).2) ?_
  refine XS.iconst X0.here hx rfl (hb hby d5_79) ?_
  refine XS.goto X0.here hx rfl (pc0 := 80) (pc' := 89) rfl (hb hby d5_80) (by decide) (by decide) ?_
  refine XS.istore X0.here hx rfl (hb hby d5_89) rfl (l' := #[vR rp, vR rl, vI mI, vR rk, vI cc, vI wd, vR rn, vR rc, vI ss, vI (ss * cc), vI (fk (own_iy (fp sn))), vI (-1 : Int32), (own_s qd)]) (by cases qc <;> rfl) ?_
  refine XS.iconst X0.here hx rfl (hb hby d5_91) ?_
  refine XS.istore X0.here hx rfl (hb hby d5_92) rfl (l' := #[vR rp, vR rl, vI mI, vR rk, vI cc, vI wd, vR rn, vR rc, vI ss, vI (ss * cc), vI (fk (own_iy (fp sn))), vI (-1 : Int32), vI 0]) (by cases qd <;> rfl) ?_
  exact k
 exact ⟨_, X0, e0, pre3⟩
theorem d5_83 : D_17 83 = .ok (.aload_n 1, 1) := by decide +kernel
theorem d5_84 : D_17 84 = .ok (.iload 8, 2) := by decide +kernel
theorem d5_86 : D_17 86 = .ok (.iconst 1, 1) := by decide +kernel
theorem d5_87 : D_17 87 = .ok (.isub, 1) := by decide +kernel
theorem d5_88 : D_17 88 = .ok (.iaload, 1) := by decide +kernel
set_option maxRecDepth 65536 in
set_option maxHeartbeats 40000000 in
theorem ofH1 {p : Program} {l : Launch} {e : Env} {R : Room} {s : State} {m : MethodId} {args : Array Value} {below : List Frame} {meth : Method} {c : Code} {T0 : State} {locs : List Loc} {cells slots : Nat} {Z : State} {a0 : Array Value} {h0 : Heap} (rp : Addr) (rl : Addr) (mI : Int32) (rk : Addr) (cc : Int32) (wd : Int32) (rn : Addr) (rc : Addr) (ss : Int32) (qa : Option Int32) (qb : Option Int32) (qc : Option Int32) (qd : Option Int32) (sn : Nat) (mn : Nat) (fp : Nat → Int32) (fk : Nat → Int32) (fl : Nat → Int32)
  (X0 : Stand p l e R s m args below meth c T0 locs cells slots) (hx : p.tables.exec = Jvm.exec) (hZ : Z.Warmed39 s.vm) (hw : ∀ d ∈ tables_1, d.before a0 Z = true) (hby : c.code = prog_23_method_2_code) (hml : c.maxLocals = 13) (hown : s.vm.findClass cS0 = some m.cls) (e0 : T0.heap = h0) (A_rp : AI Z h0 rp .byte mn fp) (A_rk : AI Z h0 rk .int 256 fk) (A_rl : AI Z h0 rl .int mn fl) (hss : ss.toInt = (sn : Int)) (hsl : sn < mn) (hsm : (ss - (1 : Int32)).toInt = ((sn - 1 : Nat) : Int)) (hsk : sn - 1 < mn) (hc52 : (ss < mI)) (hc76 : ¬ (ss = (0 : Int32))) :
  ∃ T' : State, Stand p l e R s m args below meth c T' locs cells slots ∧ T'.heap = h0 ∧ ∀ t, Steps p.tables e below (T'.setTop (mkF m 94 #[vR rp, vR rl, vI mI, vR rk, vI cc, vI wd, vR rn, vR rc, vI ss, vI (ss * cc), vI (fk (own_iy (fp sn))), vI (fl (sn - 1)), vI 0] [])) t → Steps p.tables e below (T0.setTop (mkF m 49 #[vR rp, vR rl, vI mI, vR rk, vI cc, vI wd, vR rn, vR rc, vI ss, (own_s qa), (own_s qb), (own_s qc), (own_s qd)] [])) t := by
 have pre0 : oP p e below (T0.setTop (mkF m 49 #[vR rp, vR rl, vI mI, vR rk, vI cc, vI wd, vR rn, vR rc, vI ss, (own_s qa), (own_s qb), (own_s qc), (own_s qd)] [])) (T0.setTop (mkF m 49 #[vR rp, vR rl, vI mI, vR rk, vI cc, vI wd, vR rn, vR rc, vI ss, (own_s qa), (own_s qb), (own_s qc), (own_s qd)] [])) := fun t k => k
 obtain ⟨cl1, Arcl1, hincl1, hatcl1⟩ := AF.at A_rp (j := ss) sn hss hsl
 obtain ⟨cl2, Arcl2, hincl2, hatcl2⟩ := AF.at A_rk (j := ((fp sn) &&& (255 : Int32))) (own_iy (fp sn)) (own_iy1 (fp sn)) (own_iy2 (fp sn))
 obtain ⟨cl3, Arcl3, hincl3, hatcl3⟩ := AF.at A_rl (j := (ss - (1 : Int32))) (sn - 1) hsm hsk
 have pre4 : oP p e below (T0.setTop (mkF m 94 #[vR rp, vR rl, vI mI, vR rk, vI cc, vI wd, vR rn, vR rc, vI ss, vI (ss * cc), vI (fk (own_iy (fp sn))), vI (fl (sn - 1)), vI 0] [])) (T0.setTop (mkF m 49 #[vR rp, vR rl, vI mI, vR rk, vI cc, vI wd, vR rn, vR rc, vI ss, (own_s qa), (own_s qb), (own_s qc), (own_s qd)] [])) := by
  intro t k
  refine pre0 _ ?_
  refine XS.iload X0.here hx rfl (hb hby d5_49) rfl ?_
  refine XS.iloadN X0.here hx rfl (hb hby d5_51) rfl ?_
  refine XS.icmpNo X0.here hx rfl (hb hby d5_52) rfl (tlt hc52).2.1 ?_
  refine XS.iload X0.here hx rfl (hb hby d5_55) rfl ?_
  refine XS.iload X0.here hx rfl (hb hby d5_57) rfl ?_
  refine XS.imul X0.here hx rfl (hb hby d5_59) rfl ?_
  refine XS.istore X0.here hx rfl (hb hby d5_60) rfl (l' := #[vR rp, vR rl, vI mI, vR rk, vI cc, vI wd, vR rn, vR rc, vI ss, vI (ss * cc), (own_s qb), (own_s qc), (own_s qd)]) (by cases qa <;> rfl) ?_
  refine XS.aloadN X0.here hx rfl (hb hby d5_62) rfl rfl ?_
  refine XS.aloadN X0.here hx rfl (hb hby d5_63) rfl rfl ?_
  refine XS.iload X0.here hx rfl (hb hby d5_64) rfl ?_
  refine X0.baloadBytes hx (j := ss) (v := (.int (fp sn))) (by rw [e0]; exact Arcl1.1) (State.isArrayOf_alike hZ.alike Arcl1.2.1) Arcl1.2.2 hincl1 hatcl1 (g := (mkF m 66 #[vR rp, vR rl, vI mI, vR rk, vI cc, vI wd, vR rn, vR rc, vI ss, vI (ss * cc), (own_s qb), (own_s qc), (own_s qd)] [(.int ss), (.ref rp), (.ref rk)])) rfl rfl (hb hby d5_66) _ ?_
  refine XS.sipush X0.here hx rfl (hb hby d5_67) ?_
  refine XS.iand X0.here hx rfl (hb hby d5_70) rfl ?_
  refine X0.iaload hx (j := ((fp sn) &&& (255 : Int32))) (v := (.int (fk (own_iy (fp sn))))) (by rw [e0]; exact Arcl2.1) (State.isArrayOf_alike hZ.alike Arcl2.2.1) Arcl2.2.2 hincl2 hatcl2 (g := (mkF m 71 #[vR rp, vR rl, vI mI, vR rk, vI cc, vI wd, vR rn, vR rc, vI ss, vI (ss * cc), (own_s qb), (own_s qc), (own_s qd)] [(.int ((fp sn) &&& (255 : Int32))), (.ref rk)])) rfl rfl (hb hby d5_71) _ ?_
  refine XS.istore X0.here hx rfl (hb hby d5_72) rfl (l' := #[vR rp, vR rl, vI mI, vR rk, vI cc, vI wd, vR rn, vR rc, vI ss, vI (ss * cc), vI (fk (own_iy (fp sn))), (own_s qc), (own_s qd)]) (by cases qb <;> rfl) ?_
  refine XS.iload X0.here hx rfl (hb hby d5_74) rfl ?_
  refine XS.ifYes X0.here hx rfl (pc0 := 76) (pc' := 83) rfl (hb hby d5_76) rfl ((if0 _ _).trans (feq hc76).2) (by decide) (by decide) ?_
  refine XS.aloadN X0.here hx rfl (hb hby d5_83) rfl rfl ?_
  refine XS.iload X0.here hx rfl (hb hby d5_84) rfl ?_
  refine XS.iconst X0.here hx rfl (hb hby d5_86) ?_
  refine XS.isub X0.here hx rfl (hb hby d5_87) rfl ?_
  refine X0.iaload hx (j := (ss - (1 : Int32))) (v := (.int (fl (sn - 1)))) (by rw [e0]; exact Arcl3.1) (State.isArrayOf_alike hZ.alike Arcl3.2.1) Arcl3.2.2 hincl3 hatcl3 (g := (mkF m 88 #[vR rp, vR rl, vI mI, vR rk, vI cc, vI wd, vR rn, vR rc, vI ss, vI (ss * cc), vI (fk (own_iy (fp sn))), (own_s qc), (own_s qd)] [(.int (ss - (1 : Int32))), (.ref rl)])) rfl rfl (hb hby d5_88) _ ?_
  refine XS.istore X0.here hx rfl (hb hby d5_89) rfl (l' := #[vR rp, vR rl, vI mI, vR rk, vI cc, vI wd, vR rn, vR rc, vI ss, vI (ss * cc), vI (fk (own_iy (fp sn))), vI (fl (sn - 1)), (own_s qd)]) (by cases qc <;> rfl) ?_
  refine XS.iconst X0.here hx rfl (hb hby d5_91) ?_
  refine XS.istore X0.here hx rfl (hb hby d5_92) rfl (l' := #[vR rp, vR rl, vI mI, vR rk, vI cc, vI wd, vR rn, vR rc, vI ss, vI (ss * cc), vI (fk (own_iy (fp sn))), vI (fl (sn - 1)), vI 0]) (by cases qd <;> rfl) ?_
  exact k
 exact ⟨_, X0, e0, pre4⟩
set_option maxRecDepth 65536 in
set_option maxHeartbeats 40000000 in
theorem ofX {p : Program} {l : Launch} {e : Env} {R : Room} {s : State} {m : MethodId} {args : Array Value} {below : List Frame} {meth : Method} {c : Code} {T0 : State} {locs : List Loc} {cells slots : Nat} {Z : State} {a0 : Array Value} {h0 : Heap} (rp : Addr) (rl : Addr) (mI : Int32) (rk : Addr) (cc : Int32) (wd : Int32) (rn : Addr) (rc : Addr) (ss : Int32) (qa : Option Int32) (qb : Option Int32) (qc : Option Int32) (qd : Option Int32)
  (X0 : Stand p l e R s m args below meth c T0 locs cells slots) (hx : p.tables.exec = Jvm.exec) (hZ : Z.Warmed39 s.vm) (hw : ∀ d ∈ tables_1, d.before a0 Z = true) (hby : c.code = prog_23_method_2_code) (hml : c.maxLocals = 13) (hown : s.vm.findClass cS0 = some m.cls) (e0 : T0.heap = h0) (hc52 : ¬ (ss < mI)) :
  ∃ T' : State, Stand p l e R s m args below meth c T' locs cells slots ∧ T'.heap = h0 ∧ ∀ t, Steps p.tables e below (T'.setTop (mkF m 211 #[vR rp, vR rl, vI mI, vR rk, vI cc, vI wd, vR rn, vR rc, vI ss, (own_s qa), (own_s qb), (own_s qc), (own_s qd)] [])) t → Steps p.tables e below (T0.setTop (mkF m 49 #[vR rp, vR rl, vI mI, vR rk, vI cc, vI wd, vR rn, vR rc, vI ss, (own_s qa), (own_s qb), (own_s qc), (own_s qd)] [])) t := by
 have pre0 : oP p e below (T0.setTop (mkF m 49 #[vR rp, vR rl, vI mI, vR rk, vI cc, vI wd, vR rn, vR rc, vI ss, (own_s qa), (own_s qb), (own_s qc), (own_s qd)] [])) (T0.setTop (mkF m 49 #[vR rp, vR rl, vI mI, vR rk, vI cc, vI wd, vR rn, vR rc, vI ss, (own_s qa), (own_s qb), (own_s qc), (own_s qd)] [])) := fun t k => k
 have pre1 : oP p e below (T0.setTop (mkF m 211 #[vR rp, vR rl, vI mI, vR rk, vI cc, vI wd, vR rn, vR rc, vI ss, (own_s qa), (own_s qb), (own_s qc), (own_s qd)] [])) (T0.setTop (mkF m 49 #[vR rp, vR rl, vI mI, vR rk, vI cc, vI wd, vR rn, vR rc, vI ss, (own_s qa), (own_s qb), (own_s qc), (own_s qd)] [])) := by
  intro t k
  refine pre0 _ ?_
  refine XS.iload X0.here hx rfl (hb hby d5_49) rfl ?_
  refine XS.iloadN X0.here hx rfl (hb hby d5_51) rfl ?_
  refine XS.icmpYes X0.here hx rfl (pc0 := 52) (pc' := 211) rfl (hb hby d5_52) rfl (flt hc52).2.1 (by decide) (by decide) ?_
  exact k
 exact ⟨_, X0, e0, pre1⟩
def own_okn (b : Nat) (v : Int32) : Prop := ∃ k : Nat, v.toInt = (k : Int) ∧ k ≤ b
theorem own_row {ro ci : Int32} {sn cn cin mn : Nat} (hro : ro.toInt = ((sn * cn : Nat) : Int)) (hci : ci.toInt = (cin : Int)) (hs : sn < mn) (hc : cin < cn) (hcap : (mn + 1) * cn ≤ 1024) : (ro + ci).toInt = ((sn * cn + cin : Nat) : Int) ∧ sn * cn + cin < (mn + 1) * cn := by
 have h1 : (sn + 1) * cn ≤ mn * cn := Nat.mul_le_mul_right _ hs
 rw [Nat.succ_mul] at h1
 rw [Nat.succ_mul] at hcap ⊢
 have h3 := own_iadd hro hci (by omega) (by omega)
 exact ⟨by rw [h3]; omega, by omega⟩
theorem own_nxt {ro cc : Int32} {sn cn mn : Nat} (hro : ro.toInt = ((sn * cn : Nat) : Int)) (hcc : cc.toInt = (cn : Int)) (hs : sn < mn) (hcap : (mn + 1) * cn ≤ 1024) : own_okn (mn * cn) (ro + cc) := by
 have h1 : (sn + 1) * cn ≤ mn * cn := Nat.mul_le_mul_right _ hs
 rw [Nat.succ_mul] at h1
 rw [Nat.succ_mul] at hcap
 have h3 := own_iadd hro hcc (by omega) (by omega)
 exact ⟨sn * cn + cn, by rw [h3]; omega, h1⟩
theorem own_lnk {lk cc ci : Int32} {ln cn cin mn : Nat} (hlk : lk.toInt = (ln : Int)) (hcc : cc.toInt = (cn : Int)) (hci : ci.toInt = (cin : Int)) (hl : ln < mn) (hc : cin < cn) (hcap : (mn + 1) * cn ≤ 1024) : ((lk * cc) + ci).toInt = ((ln * cn + cin : Nat) : Int) ∧ ln * cn + cin < (mn + 1) * cn := by
 have h1 : (ln + 1) * cn ≤ mn * cn := Nat.mul_le_mul_right _ hl
 rw [Nat.succ_mul] at h1
 have h0 := hcap
 rw [Nat.succ_mul] at h0
 have h2 : (lk * cc).toInt = ((ln * cn : Nat) : Int) := by
  have := own_imul hlk hcc (by rw [← Int.natCast_mul]; omega) (by rw [← Int.natCast_mul]; omega)
  rw [this, Int.natCast_mul]
 exact own_row h2 hci hl hc hcap
theorem own_cle {mn cn : Nat} (hcap : (mn + 1) * cn ≤ 1024) : cn ≤ 1024 := by
 rw [Nat.succ_mul] at hcap
 omega
set_option maxRecDepth 65536 in
set_option maxHeartbeats 40000000 in
theorem ofI {p : Program} {l : Launch} {e : Env} {R : Room} {s : State} {m : MethodId} {args : Array Value} {below : List Frame} {meth : Method} {c : Code} {cells slots : Nat} {Z : State} {a0 : Array Value} {n0 : Nat}
  (rp rl : Addr) (mI : Int32) (rk : Addr) (cc wd : Int32) (rn rc : Addr) (ss ro ex lk : Int32) (mn cn sn nv : Nat)
  (hx : p.tables.exec = Jvm.exec) (hZ : Z.Warmed39 s.vm) (hw : ∀ d ∈ tables_1, d.before a0 Z = true) (hby : c.code = prog_23_method_2_code) (hml : c.maxLocals = 13) (hown : s.vm.findClass cS0 = some m.cls)
  (hcc : cc.toInt = (cn : Int)) (hnv : nv = (mn + 1) * cn) (hcap : (mn + 1) * cn ≤ 1024) (hs : sn < mn) (hro : ro.toInt = ((sn * cn : Nat) : Int)) (hlk : lk < (0 : Int32) ∨ ∃ ln : Nat, lk.toInt = (ln : Int) ∧ ln < mn)
  (gn : n0 ≤ rn) (gc : n0 ≤ rc) (n5 : rn ≠ rc) :
  ∀ (k : Nat) (T0 : State) (locs : List Loc) (h0 : Heap) (ci : Int32) (cin : Nat) (fn fc : Nat → Int32), cin + k = cn → ci.toInt = (cin : Int) → Stand p l e R s m args below meth c T0 locs cells slots → T0.heap = h0 → Fr n0 locs →
   AI Z h0 rn .int nv fn → (∀ j, j < nv → own_okn (mn * cn) (fn j)) → AI Z h0 rc .int nv fc →
   ∃ (T' : State) (h' : Heap) (L' : List Loc) (ci' : Int32) (fn' fc' : Nat → Int32), Stand p l e R s m args below meth c T' L' cells slots ∧ T'.heap = h' ∧ Fr n0 L' ∧ Keep h0 h' [rn, rc] ∧ AI Z h' rn .int nv fn' ∧ (∀ j, j < nv → own_okn (mn * cn) (fn' j)) ∧ AI Z h' rc .int nv fc' ∧
    ∀ t, Steps p.tables e below (T'.setTop (mkF m 49 #[vR rp, vR rl, vI mI, vR rk, vI cc, vI wd, vR rn, vR rc, vI (ss + (1 : Int32)), vI ro, vI ex, vI lk, vI ci'] [])) t → Steps p.tables e below (T0.setTop (mkF m 94 #[vR rp, vR rl, vI mI, vR rk, vI cc, vI wd, vR rn, vR rc, vI ss, vI ro, vI ex, vI lk, vI ci] [])) t
 | 0, T0, locs, h0, ci, cin, fn, fc, hk, hci, X0, e0, N0, A_rn, hok, A_rc => by
  have hge : ¬ (ci < cc) := by rw [Int32.lt_iff_toInt_lt]; omega
  obtain ⟨T1, X1, e1, st1⟩ := ofE rp rl mI rk cc wd rn rc ss ro ex lk ci X0 hx hZ hw hby hml hown e0 hge
  exact ⟨T1, h0, locs, ci, fn, fc, X1, e1, N0, Keep.refl _ _, A_rn, hok, A_rc, st1⟩
 | k + 1, T0, locs, h0, ci, cin, fn, fc, hk, hci, X0, e0, N0, A_rn, hok, A_rc => by
  have hlt : ci < cc := by rw [Int32.lt_iff_toInt_lt]; omega
  have hdl : cin < cn := by omega
  obtain ⟨hat, hal⟩ := own_row hro hci hs hdl hcap
  rw [← hnv] at hal
  have hcn := own_cle hcap
  have hc1 := own_inc hci (by omega)
  have again := ofI (p := p) (l := l) (e := e) (R := R) (args := args) (below := below) (meth := meth) (cells := cells) (slots := slots) rp rl mI rk cc wd rn rc ss ro ex lk mn cn sn nv hx hZ hw hby hml hown hcc hnv hcap hs hro hlk gn gc n5 k
  by_cases q : ci = ex
  ·obtain ⟨T1, h1, X1, e1, W1, st1⟩ := ofA rp rl mI rk cc wd rn rc ss ro ex lk ci (sn * cn + cin) nv fn fc X0 hx hZ hw hby hml hown e0 A_rn A_rc hat hal hlt q
   have N1 := Fr.snoc X1 N0 gn
   have B_rn := AF.setI A_rn W1 _ hat
   have B_rc := A_rc.other W1 n5.symm
   obtain ⟨T3, h3, X3, e3, W3, st3⟩ := ofA2 rp rl mI rk cc wd rn rc ss ro ex lk ci (sn * cn + cin) nv _ fc X1 hx hZ hw hby hml hown e1 B_rn B_rc hat hal
   have N3 := Fr.snoc X3 N1 gc
   obtain ⟨T2, h2, L2, ci2, fn2, fc2, X2, e2, N2, K2, A2, ok2, B2, st2⟩ := again T3 _ h3 (ci + (1 : Int32)) (cin + 1) _ _ (by omega) hc1 X3 e3 N3 (B_rn.other W3 n5) (own_upP hok (own_nxt hro hcc hs hcap)) (AF.setI B_rc W3 _ hat)
   exact ⟨T2, h2, L2, ci2, fn2, fc2, X2, e2, N2, (((Keep.refl h0 [rn, rc]).wr W1 (Or.inl (List.mem_cons_self ..))).wr W3 (Or.inl (List.mem_cons_of_mem _ (List.mem_cons_self ..)))).trans K2 (fun x hx => Or.inl hx), A2, ok2, B2, fun t h => st1 t (st3 t (st2 t h))⟩
  ·by_cases q2 : lk < (0 : Int32)
   ·obtain ⟨T1, h1, X1, e1, W1, st1⟩ := ofB rp rl mI rk cc wd rn rc ss ro ex lk ci (sn * cn + cin) nv fn fc X0 hx hZ hw hby hml hown e0 A_rn A_rc hat hal hlt q q2
    have N1 := Fr.snoc X1 N0 gn
    have B_rn := AF.setI A_rn W1 _ hat
    have B_rc := A_rc.other W1 n5.symm
    obtain ⟨T3, h3, X3, e3, W3, st3⟩ := ofB2 rp rl mI rk cc wd rn rc ss ro ex lk ci (sn * cn + cin) nv _ fc X1 hx hZ hw hby hml hown e1 B_rn B_rc hat hal
    have N3 := Fr.snoc X3 N1 gc
    obtain ⟨T2, h2, L2, ci2, fn2, fc2, X2, e2, N2, K2, A2, ok2, B2, st2⟩ := again T3 _ h3 (ci + (1 : Int32)) (cin + 1) _ _ (by omega) hc1 X3 e3 N3 (B_rn.other W3 n5) (own_upP hok ⟨0, rfl, Nat.zero_le _⟩) (AF.setI B_rc W3 _ hat)
    exact ⟨T2, h2, L2, ci2, fn2, fc2, X2, e2, N2, (((Keep.refl h0 [rn, rc]).wr W1 (Or.inl (List.mem_cons_self ..))).wr W3 (Or.inl (List.mem_cons_of_mem _ (List.mem_cons_self ..)))).trans K2 (fun x hx => Or.inl hx), A2, ok2, B2, fun t h => st1 t (st3 t (st2 t h))⟩
   ·obtain ⟨ln, hln, hll⟩ := hlk.resolve_left q2
    obtain ⟨hsn, hsl⟩ := own_lnk hln hcc hci hll hdl hcap
    rw [← hnv] at hsl
    obtain ⟨T1, h1, X1, e1, W1, st1⟩ := ofC rp rl mI rk cc wd rn rc ss ro ex lk ci (sn * cn + cin) (ln * cn + cin) nv fn fc X0 hx hZ hw hby hml hown e0 A_rn A_rc hat hal hsn hsl hlt q q2
    have N1 := Fr.snoc X1 N0 gn
    have B_rn := AF.setI A_rn W1 _ hat
    have B_rc := A_rc.other W1 n5.symm
    obtain ⟨T3, h3, X3, e3, W3, st3⟩ := ofC2 rp rl mI rk cc wd rn rc ss ro ex lk ci (sn * cn + cin) (ln * cn + cin) nv _ fc X1 hx hZ hw hby hml hown e1 B_rn B_rc hat hal hsn hsl
    have N3 := Fr.snoc X3 N1 gc
    obtain ⟨T2, h2, L2, ci2, fn2, fc2, X2, e2, N2, K2, A2, ok2, B2, st2⟩ := again T3 _ h3 (ci + (1 : Int32)) (cin + 1) _ _ (by omega) hc1 X3 e3 N3 (B_rn.other W3 n5) (own_upP hok (hok _ hsl)) (AF.setI B_rc W3 _ hat)
    exact ⟨T2, h2, L2, ci2, fn2, fc2, X2, e2, N2, (((Keep.refl h0 [rn, rc]).wr W1 (Or.inl (List.mem_cons_self ..))).wr W3 (Or.inl (List.mem_cons_of_mem _ (List.mem_cons_self ..)))).trans K2 (fun x hx => Or.inl hx), A2, ok2, B2, fun t h => st1 t (st3 t (st2 t h))⟩
set_option maxRecDepth 65536 in
set_option maxHeartbeats 40000000 in
theorem ofO {p : Program} {l : Launch} {e : Env} {R : Room} {s : State} {m : MethodId} {args : Array Value} {below : List Frame} {meth : Method} {c : Code} {cells slots : Nat} {Z : State} {a0 : Array Value} {n0 : Nat}
  (rp rl : Addr) (mI : Int32) (rk : Addr) (cc wd : Int32) (rn rc : Addr) (mn cn nv : Nat) (fp fl fk : Nat → Int32)
  (hx : p.tables.exec = Jvm.exec) (hZ : Z.Warmed39 s.vm) (hw : ∀ d ∈ tables_1, d.before a0 Z = true) (hby : c.code = prog_23_method_2_code) (hml : c.maxLocals = 13) (hown : s.vm.findClass cS0 = some m.cls)
  (hmI : mI.toInt = (mn : Int)) (hcc : cc.toInt = (cn : Int)) (hc1 : 1 ≤ cn) (hnv : nv = (mn + 1) * cn) (hcap : (mn + 1) * cn ≤ 1024) (hfl : ∀ j, j < mn → ∃ k : Nat, (fl j).toInt = (k : Int) ∧ k ≤ j)
  (gn : n0 ≤ rn) (gc : n0 ≤ rc) (n5 : rn ≠ rc) (u1 : rp ≠ rn) (u2 : rp ≠ rc) (u3 : rl ≠ rn) (u4 : rl ≠ rc) (u5 : rk ≠ rn) (u6 : rk ≠ rc) :
  ∀ (k : Nat) (T0 : State) (locs : List Loc) (h0 : Heap) (ss : Int32) (sn : Nat) (qa qb qc qd : Option Int32) (fn fc : Nat → Int32), sn + k = mn → ss.toInt = (sn : Int) → Stand p l e R s m args below meth c T0 locs cells slots → T0.heap = h0 → Fr n0 locs →
   AI Z h0 rp .byte mn fp → AI Z h0 rl .int mn fl → AI Z h0 rk .int 256 fk → AI Z h0 rn .int nv fn → (∀ j, j < nv → own_okn (mn * cn) (fn j)) → AI Z h0 rc .int nv fc →
   ∃ (T' : State) (h' : Heap) (L' : List Loc) (ss' : Int32) (qa' qb' qc' qd' : Option Int32) (fn' fc' : Nat → Int32), Stand p l e R s m args below meth c T' L' cells slots ∧ T'.heap = h' ∧ Fr n0 L' ∧ Keep h0 h' [rn, rc] ∧ AI Z h' rn .int nv fn' ∧ (∀ j, j < nv → own_okn (mn * cn) (fn' j)) ∧ AI Z h' rc .int nv fc' ∧
    ∀ t, Steps p.tables e below (T'.setTop (mkF m 211 #[vR rp, vR rl, vI mI, vR rk, vI cc, vI wd, vR rn, vR rc, vI ss', own_s qa', own_s qb', own_s qc', own_s qd'] [])) t → Steps p.tables e below (T0.setTop (mkF m 49 #[vR rp, vR rl, vI mI, vR rk, vI cc, vI wd, vR rn, vR rc, vI ss, own_s qa, own_s qb, own_s qc, own_s qd] [])) t
 | 0, T0, locs, h0, ss, sn, qa, qb, qc, qd, fn, fc, hk, hss, X0, e0, N0, A_rp, A_rl, A_rk, A_rn, hok, A_rc => by
  have hge : ¬ (ss < mI) := by rw [Int32.lt_iff_toInt_lt]; omega
  obtain ⟨T1, X1, e1, st1⟩ := ofX rp rl mI rk cc wd rn rc ss qa qb qc qd X0 hx hZ hw hby hml hown e0 hge
  exact ⟨T1, h0, locs, ss, qa, qb, qc, qd, fn, fc, X1, e1, N0, Keep.refl _ _, A_rn, hok, A_rc, st1⟩
 | k + 1, T0, locs, h0, ss, sn, qa, qb, qc, qd, fn, fc, hk, hss, X0, e0, N0, A_rp, A_rl, A_rk, A_rn, hok, A_rc => by
  have hlt : ss < mI := by rw [Int32.lt_iff_toInt_lt]; omega
  have hs : sn < mn := by omega
  have hmn : mn + 1 ≤ 1024 := by
   have : (mn + 1) * 1 ≤ (mn + 1) * cn := Nat.mul_le_mul_left _ hc1
   omega
  have hs1 := own_inc hss (by omega)
  have hro : (ss * cc).toInt = ((sn * cn : Nat) : Int) := by
   have h1 : (sn + 1) * cn ≤ (mn + 1) * cn := Nat.mul_le_mul_right _ (by omega)
   rw [Nat.succ_mul] at h1
   have := own_imul hss hcc (by rw [← Int.natCast_mul]; omega) (by rw [← Int.natCast_mul]; omega)
   rw [this, Int.natCast_mul]
  obtain ⟨ex, lk, T1, hlk, X1, e1, st1⟩ : ∃ (ex lk : Int32) (T1 : State), (lk < (0 : Int32) ∨ ∃ ln : Nat, lk.toInt = (ln : Int) ∧ ln < mn) ∧ Stand p l e R s m args below meth c T1 locs cells slots ∧ T1.heap = h0 ∧ ∀ t, Steps p.tables e below (T1.setTop (mkF m 94 #[vR rp, vR rl, vI mI, vR rk, vI cc, vI wd, vR rn, vR rc, vI ss, vI (ss * cc), vI ex, vI lk, vI 0] [])) t → Steps p.tables e below (T0.setTop (mkF m 49 #[vR rp, vR rl, vI mI, vR rk, vI cc, vI wd, vR rn, vR rc, vI ss, own_s qa, own_s qb, own_s qc, own_s qd] [])) t := by
   by_cases q : ss = (0 : Int32)
   ·obtain ⟨T1, X1, e1, st1⟩ := ofH0 rp rl mI rk cc wd rn rc ss qa qb qc qd sn mn fp fk X0 hx hZ hw hby hml hown e0 A_rp A_rk hss hs hlt q
    exact ⟨_, _, T1, Or.inl (by decide), X1, e1, st1⟩
   ·have h0n : sn ≠ 0 := fun z => q (Int32.toInt_inj.mp (by rw [hss, z]; rfl))
    have hsm : (ss - (1 : Int32)).toInt = ((sn - 1 : Nat) : Int) := by
     have := own_isub (y := (1 : Int32)) hss (Y := 1) rfl (by omega) (by omega)
     rw [this]; omega
    obtain ⟨T1, X1, e1, st1⟩ := ofH1 rp rl mI rk cc wd rn rc ss qa qb qc qd sn mn fp fk fl X0 hx hZ hw hby hml hown e0 A_rp A_rk A_rl hss hs hsm (by omega) hlt q
    obtain ⟨ln, h1, h2⟩ := hfl (sn - 1) (by omega)
    exact ⟨_, _, T1, Or.inr ⟨ln, h1, by omega⟩, X1, e1, st1⟩
  obtain ⟨T2, h2, L2, ci2, fn2, fc2, X2, e2, N2, K2, A2, ok2, B2, st2⟩ := ofI rp rl mI rk cc wd rn rc ss (ss * cc) ex lk mn cn sn nv hx hZ hw hby hml hown hcc hnv hcap hs hro hlk gn gc n5 cn T1 locs h0 (0 : Int32) 0 fn fc (by omega) rfl X1 e1 N0 A_rn hok A_rc
  obtain ⟨T3, h3, L3, ss3, qa3, qb3, qc3, qd3, fn3, fc3, X3, e3, N3, K3, A3, ok3, B3, st3⟩ := ofO rp rl mI rk cc wd rn rc mn cn nv fp fl fk hx hZ hw hby hml hown hmI hcc hc1 hnv hcap hfl gn gc n5 u1 u2 u3 u4 u5 u6 k T2 L2 h2 (ss + (1 : Int32)) (sn + 1) (some (ss * cc)) (some ex) (some lk) (some ci2) fn2 fc2 (by omega) hs1 X2 e2 N2 (A_rp.keep K2 (ninS u1 (ninS u2 nin0))) (A_rl.keep K2 (ninS u3 (ninS u4 nin0))) (A_rk.keep K2 (ninS u5 (ninS u6 nin0))) A2 ok2 B2
  exact ⟨T3, h3, L3, ss3, qa3, qb3, qc3, qd3, fn3, fc3, X3, e3, N3, K2.trans K3 (fun x hx => Or.inl hx), A3, ok3, B3, fun t h => st1 t (st2 t (st3 t h))⟩
abbrev D_18 (k : Nat) := decode prog_23_method_1_code k
theorem d21_70 : D_18 70 = .ok (.iload 8, 2) := by decide +kernel
theorem d21_72 : D_18 72 = .ok (.aload_n 1, 1) := by decide +kernel
theorem d21_73 : D_18 73 = .ok (.arraylength, 1) := by decide +kernel
theorem d21_74 : D_18 74 = .ok (.if_icmp .ge 26, 3) := by decide +kernel
theorem d21_77 : D_18 77 = .ok (.aload_n 0, 1) := by decide +kernel
theorem d21_78 : D_18 78 = .ok (.getfield 32, 3) := by decide +kernel
theorem d21_81 : D_18 81 = .ok (.iload 7, 2) := by decide +kernel
theorem d21_83 : D_18 83 = .ok (.aaload, 1) := by decide +kernel
theorem d21_84 : D_18 84 = .ok (.iload 8, 2) := by decide +kernel
theorem d21_86 : D_18 86 = .ok (.aload_n 1, 1) := by decide +kernel
theorem d21_87 : D_18 87 = .ok (.iload 8, 2) := by decide +kernel
theorem d21_89 : D_18 89 = .ok (.iaload, 1) := by decide +kernel
theorem d21_90 : D_18 90 = .ok (.iload 6, 2) := by decide +kernel
theorem d21_92 : D_18 92 = .ok (.imul, 1) := by decide +kernel
theorem d21_93 : D_18 93 = .ok (.iastore, 1) := by decide +kernel
theorem d21_94 : D_18 94 = .ok (.iinc 8 1, 3) := by decide +kernel
theorem d21_97 : D_18 97 = .ok (.goto (-27), 3) := by decide +kernel
set_option maxRecDepth 65536 in
set_option maxHeartbeats 40000000 in
theorem grT {p : Program} {l : Launch} {e : Env} {R : Room} {s : State} {m : MethodId} {args : Array Value} {below : List Frame} {meth : Method} {c : Code} {T0 : State} {locs : List Loc} {cells slots : Nat} {Z : State} {a0 : Array Value} {h0 : Heap} (ra : Addr) (rk : Addr) (oc : Int32) (rs : Addr) (rb : Addr) (wd : Int32) (wt : Int32) (jj : Int32) (vv : Int32) (rg : Addr) (rx : Addr) (jn : Nat) (vn : Nat) (gf : Nat → Value) (fk : Nat → Int32) (fx : Nat → Int32)
  (X0 : Stand p l e R s m args below meth c T0 locs cells slots) (hx : p.tables.exec = Jvm.exec) (hZ : Z.Warmed39 s.vm) (hw : ∀ d ∈ tables_1, d.before a0 Z = true) (hby : c.code = prog_23_method_1_code) (hml : c.maxLocals = 9) (hown : s.vm.findClass cS0 = some m.cls) (e0 : T0.heap = h0) (F_blockColumn_ra : Fld Z h0 ra cS0 "blockColumn" "[[I" (.ref rg)) (A_rg : AF Z h0 rg (.array .int) 4 gf) (A_rk : AI Z h0 rk .int 256 fk) (A_rx : AI Z h0 rx .int 256 fx) (hjj : jj.toInt = (jn : Int)) (hjl : jn < 4) (hgx : gf jn = .ref rx) (hvv : vv.toInt = (vn : Int)) (hvl : vn < 256) (hc74 : (vv < (256 : Int32))) :
  ∃ (T' : State) (h' : Heap), Stand p l e R s m args below meth c T' (locs ++ [⟨rx, vv.toNatClampNeg⟩]) cells slots ∧ T'.heap = h' ∧ Wr h0 h' rx vv.toNatClampNeg (.int ((fk vn) * wt)) ∧ ∀ t, Steps p.tables e below (T'.setTop (mkF m 70 #[vR ra, vR rk, vI oc, vR rs, vR rb, vI wd, vI wt, vI jj, vI (vv + (1 : Int32))] [])) t → Steps p.tables e below (T0.setTop (mkF m 70 #[vR ra, vR rk, vI oc, vR rs, vR rb, vI wd, vI wt, vI jj, vI vv] [])) t := by
 have pre0 : oP p e below (T0.setTop (mkF m 70 #[vR ra, vR rk, vI oc, vR rs, vR rb, vI wd, vI wt, vI jj, vI vv] [])) (T0.setTop (mkF m 70 #[vR ra, vR rk, vI oc, vR rs, vR rb, vI wd, vI wt, vI jj, vI vv] [])) := fun t k => k
 obtain ⟨cl1, Arcl1, Szcl1⟩ := AF.len A_rk
 obtain ⟨T2, X2, e2, st2⟩ := getF X0 hx hZ hown (host := "") (Or.inl (ow hw 131 rfl)) Via.refl e0 F_blockColumn_ra (g := (mkF m 78 #[vR ra, vR rk, vI oc, vR rs, vR rb, vI wd, vI wt, vI jj, vI vv] [(.ref ra)])) rfl rfl (hb hby d21_78)
 obtain ⟨cl3, Arcl3, hincl3, hatcl3⟩ := AF.at A_rg (j := jj) jn hjj hjl
 rw [hgx] at hatcl3
 obtain ⟨cl4, Arcl4, hincl4, hatcl4⟩ := AF.at A_rk (j := vv) vn hvv hvl
 obtain ⟨cl5, Arcl5, hincl5, -⟩ := AF.at A_rx (j := vv) vn hvv hvl
 obtain ⟨T6, h6, X6, e6, W6, st6⟩ := stI X2 hx hZ e2 Arcl5 (j := vv) hincl5 (g := (mkF m 93 #[vR ra, vR rk, vI oc, vR rs, vR rb, vI wd, vI wt, vI jj, vI vv] [(.int ((fk vn) * wt)), (.int vv), (.ref rx)])) rfl rfl (hb hby d21_93)
 have pre7 : oP p e below (T6.setTop (mkF m 70 #[vR ra, vR rk, vI oc, vR rs, vR rb, vI wd, vI wt, vI jj, vI (vv + (1 : Int32))] [])) (T0.setTop (mkF m 70 #[vR ra, vR rk, vI oc, vR rs, vR rb, vI wd, vI wt, vI jj, vI vv] [])) := by
  intro t k
  refine pre0 _ ?_
  refine XS.iload X0.here hx rfl (hb hby d21_70) rfl ?_
  refine XS.aloadN X0.here hx rfl (hb hby d21_72) rfl rfl ?_
  refine X0.arraylength hx (by rw [e0]; exact Arcl1.1) (State.isArrayOf_alike hZ.alike Arcl1.2.1) (g := (mkF m 73 #[vR ra, vR rk, vI oc, vR rs, vR rb, vI wd, vI wt, vI jj, vI vv] [(.ref rk), (.int vv)])) rfl rfl (hb hby d21_73) _ ?_
  rw [Szcl1]
  refine XS.icmpNo X0.here hx rfl (hb hby d21_74) rfl (tlt hc74).2.1 ?_
  refine XS.aloadN X0.here hx rfl (hb hby d21_77) rfl rfl ?_
  refine st2 _ ?_
  refine XS.iload X2.here hx rfl (hb hby d21_81) rfl ?_
  refine X2.aaload hx (j := jj) (v := (.ref rx)) (by rw [e2]; exact Arcl3.1) (State.isArrayOf_alike hZ.alike Arcl3.2.1) rfl Arcl3.2.2 hincl3 hatcl3 (g := (mkF m 83 #[vR ra, vR rk, vI oc, vR rs, vR rb, vI wd, vI wt, vI jj, vI vv] [(.int jj), (.ref rg)])) rfl rfl (hb hby d21_83) _ ?_
  refine XS.iload X2.here hx rfl (hb hby d21_84) rfl ?_
  refine XS.aloadN X2.here hx rfl (hb hby d21_86) rfl rfl ?_
  refine XS.iload X2.here hx rfl (hb hby d21_87) rfl ?_
  refine X2.iaload hx (j := vv) (v := (.int (fk vn))) (by rw [e2]; exact Arcl4.1) (State.isArrayOf_alike hZ.alike Arcl4.2.1) Arcl4.2.2 hincl4 hatcl4 (g := (mkF m 89 #[vR ra, vR rk, vI oc, vR rs, vR rb, vI wd, vI wt, vI jj, vI vv] [(.int vv), (.ref rk), (.int vv), (.ref rx)])) rfl rfl (hb hby d21_89) _ ?_
  refine XS.iload X2.here hx rfl (hb hby d21_90) rfl ?_
  refine XS.imul X2.here hx rfl (hb hby d21_92) rfl ?_
  refine st6 _ ?_
  refine XS.iinc X6.here hx rfl (hb hby d21_94) rfl (l' := #[vR ra, vR rk, vI oc, vR rs, vR rb, vI wd, vI wt, vI jj, vI (vv + (1 : Int32))]) rfl ?_
  refine XS.goto X6.here hx rfl (pc0 := 97) (pc' := 70) rfl (hb hby d21_97) (by decide) (by decide) ?_
  exact k
 exact ⟨_, _, X6, e6, W6, pre7⟩
set_option maxRecDepth 65536 in
set_option maxHeartbeats 40000000 in
theorem grX {p : Program} {l : Launch} {e : Env} {R : Room} {s : State} {m : MethodId} {args : Array Value} {below : List Frame} {meth : Method} {c : Code} {T0 : State} {locs : List Loc} {cells slots : Nat} {Z : State} {a0 : Array Value} {h0 : Heap} (ra : Addr) (rk : Addr) (oc : Int32) (rs : Addr) (rb : Addr) (wd : Int32) (wt : Int32) (jj : Int32) (vv : Int32) (fk : Nat → Int32)
  (X0 : Stand p l e R s m args below meth c T0 locs cells slots) (hx : p.tables.exec = Jvm.exec) (hZ : Z.Warmed39 s.vm) (hw : ∀ d ∈ tables_1, d.before a0 Z = true) (hby : c.code = prog_23_method_1_code) (hml : c.maxLocals = 9) (hown : s.vm.findClass cS0 = some m.cls) (e0 : T0.heap = h0) (A_rk : AI Z h0 rk .int 256 fk) (hc74 : ¬ (vv < (256 : Int32))) :
  ∃ T' : State, Stand p l e R s m args below meth c T' locs cells slots ∧ T'.heap = h0 ∧ ∀ t, Steps p.tables e below (T'.setTop (mkF m 100 #[vR ra, vR rk, vI oc, vR rs, vR rb, vI wd, vI wt, vI jj, vI vv] [])) t → Steps p.tables e below (T0.setTop (mkF m 70 #[vR ra, vR rk, vI oc, vR rs, vR rb, vI wd, vI wt, vI jj, vI vv] [])) t := by
 have pre0 : oP p e below (T0.setTop (mkF m 70 #[vR ra, vR rk, vI oc, vR rs, vR rb, vI wd, vI wt, vI jj, vI vv] [])) (T0.setTop (mkF m 70 #[vR ra, vR rk, vI oc, vR rs, vR rb, vI wd, vI wt, vI jj, vI vv] [])) := fun t k => k
 obtain ⟨cl1, Arcl1, Szcl1⟩ := AF.len A_rk
 have pre2 : oP p e below (T0.setTop (mkF m 100 #[vR ra, vR rk, vI oc, vR rs, vR rb, vI wd, vI wt, vI jj, vI vv] [])) (T0.setTop (mkF m 70 #[vR ra, vR rk, vI oc, vR rs, vR rb, vI wd, vI wt, vI jj, vI vv] [])) := by
  intro t k
  refine pre0 _ ?_
  refine XS.iload X0.here hx rfl (hb hby d21_70) rfl ?_
  refine XS.aloadN X0.here hx rfl (hb hby d21_72) rfl rfl ?_
  refine X0.arraylength hx (by rw [e0]; exact Arcl1.1) (State.isArrayOf_alike hZ.alike Arcl1.2.1) (g := (mkF m 73 #[vR ra, vR rk, vI oc, vR rs, vR rb, vI wd, vI wt, vI jj, vI vv] [(.ref rk), (.int vv)])) rfl rfl (hb hby d21_73) _ ?_
  rw [Szcl1]
  refine XS.icmpYes X0.here hx rfl (pc0 := 74) (pc' := 100) rfl (hb hby d21_74) rfl (flt hc74).2.1 (by decide) (by decide) ?_
  exact k
 exact ⟨_, X0, e0, pre2⟩
def own_gf (a b c d : Addr) : Nat → Value := fun j => ([a, b, c, d].map Value.ref).getD j .null
theorem own_arv {Z : State} {h : Heap} {a : Addr} {k : ClassId} {ty : FieldType} {z : Int32} {vs : List Value} {d : Value} {n : Nat} (F : Arv Z h a k ty z vs d) (hz : z.toInt = (n : Int)) : AF Z h a ty n (fun j => vs.getD j d) := by
 obtain ⟨c, A, -, S, -, H, -⟩ := F
 have e : c.slots.size = n := by rw [S]; exact own_tn hz
 exact ⟨c, A, e, fun j hj => H j (by rw [e]; exact hj)⟩
set_option maxRecDepth 65536 in
set_option maxHeartbeats 40000000 in
theorem grI {p : Program} {l : Launch} {e : Env} {R : Room} {s : State} {m : MethodId} {args : Array Value} {below : List Frame} {meth : Method} {c : Code} {cells slots : Nat} {Z : State} {a0 : Array Value} {n0 : Nat}
  (ra rk : Addr) (oc : Int32) (rs rb : Addr) (wd wt jj : Int32) (rg rx : Addr) (jn : Nat) (gf : Nat → Value) (fk : Nat → Int32)
  (hx : p.tables.exec = Jvm.exec) (hZ : Z.Warmed39 s.vm) (hw : ∀ d ∈ tables_1, d.before a0 Z = true) (hby : c.code = prog_23_method_1_code) (hml : c.maxLocals = 9) (hown : s.vm.findClass cS0 = some m.cls)
  (hjj : jj.toInt = (jn : Int)) (hjl : jn < 4) (hgx : gf jn = .ref rx) (gx : n0 ≤ rx) (n1 : ra ≠ rx) (n2 : rg ≠ rx) (n3 : rk ≠ rx) :
  ∀ (k : Nat) (T0 : State) (locs : List Loc) (h0 : Heap) (vv : Int32) (vn : Nat) (fx : Nat → Int32), vn + k = 256 → vv.toInt = (vn : Int) → Stand p l e R s m args below meth c T0 locs cells slots → T0.heap = h0 → Fr n0 locs →
   Fld Z h0 ra cS0 "blockColumn" "[[I" (.ref rg) → AF Z h0 rg (.array .int) 4 gf → AI Z h0 rk .int 256 fk → AI Z h0 rx .int 256 fx →
   ∃ (T' : State) (h' : Heap) (L' : List Loc) (vv' : Int32) (fx' : Nat → Int32), Stand p l e R s m args below meth c T' L' cells slots ∧ T'.heap = h' ∧ Fr n0 L' ∧ Keep h0 h' [rx] ∧ AI Z h' rx .int 256 fx' ∧
    ∀ t, Steps p.tables e below (T'.setTop (mkF m 100 #[vR ra, vR rk, vI oc, vR rs, vR rb, vI wd, vI wt, vI jj, vI vv'] [])) t → Steps p.tables e below (T0.setTop (mkF m 70 #[vR ra, vR rk, vI oc, vR rs, vR rb, vI wd, vI wt, vI jj, vI vv] [])) t
 | 0, T0, locs, h0, vv, vn, fx, hk, hvv, X0, e0, N0, F0, A_rg, A_rk, A_rx => by
  have hge : ¬ (vv < (256 : Int32)) := by
   have : (256 : Int32).toInt = 256 := rfl
   rw [Int32.lt_iff_toInt_lt]; omega
  obtain ⟨T1, X1, e1, st1⟩ := grX ra rk oc rs rb wd wt jj vv fk X0 hx hZ hw hby hml hown e0 A_rk hge
  exact ⟨T1, h0, locs, vv, fx, X1, e1, N0, Keep.refl _ _, A_rx, st1⟩
 | k + 1, T0, locs, h0, vv, vn, fx, hk, hvv, X0, e0, N0, F0, A_rg, A_rk, A_rx => by
  have hlt : vv < (256 : Int32) := by
   have : (256 : Int32).toInt = 256 := rfl
   rw [Int32.lt_iff_toInt_lt]; omega
  obtain ⟨T1, h1, X1, e1, W1, st1⟩ := grT ra rk oc rs rb wd wt jj vv rg rx jn vn gf fk fx X0 hx hZ hw hby hml hown e0 F0 A_rg A_rk A_rx hjj hjl hgx hvv (by omega) hlt
  have N1 := Fr.snoc X1 N0 gx
  obtain ⟨T2, h2, L2, vv2, fx2, X2, e2, N2, K2, A2, st2⟩ := grI ra rk oc rs rb wd wt jj rg rx jn gf fk hx hZ hw hby hml hown hjj hjl hgx gx n1 n2 n3 k T1 _ h1 (vv + (1 : Int32)) (vn + 1) _ (by omega) (own_inc hvv (by omega)) X1 e1 N1 (F0.other W1 (Or.inl n1)) (A_rg.other W1 n2) (A_rk.other W1 n3) (AF.setI A_rx W1 _ hvv)
  exact ⟨T2, h2, L2, vv2, fx2, X2, e2, N2, ((Keep.refl h0 [rx]).wr W1 (Or.inl (List.mem_cons_self ..))).trans K2 (fun x hx => Or.inl hx), A2, fun t h => st1 t (st2 t h)⟩
theorem ef_21 (m : MethodId) (ra : Addr) (rk : Addr) (oc : Int32) (rs : Addr) (rb : Addr) : entryFrame m #[(.ref ra), (.ref rk), (.int oc), (.ref rs), (.ref rb)] 9 = mkF m 0 #[vR ra, vR rk, vI oc, vR rs, vR rb, .unset, .unset, .unset, .unset] [] := by first | (simp [entryFrame, mkF, argsToLocals, Value.category]; done) | rfl
theorem d21_0 : D_18 0 = .ok (.aload_n 0, 1) := by decide +kernel
theorem d21_1 : D_18 1 = .ok (.invokespecial 1, 3) := by decide +kernel
theorem d21_4 : D_18 4 = .ok (.aload_n 0, 1) := by decide +kernel
theorem d21_5 : D_18 5 = .ok (.aload_n 1, 1) := by decide +kernel
theorem d21_6 : D_18 6 = .ok (.putfield 7, 3) := by decide +kernel
theorem d21_9 : D_18 9 = .ok (.aload_n 0, 1) := by decide +kernel
theorem d21_10 : D_18 10 = .ok (.iload_n 2, 1) := by decide +kernel
theorem d21_11 : D_18 11 = .ok (.putfield 13, 3) := by decide +kernel
theorem d21_14 : D_18 14 = .ok (.aload_n 0, 1) := by decide +kernel
theorem d21_15 : D_18 15 = .ok (.aload_n 3, 1) := by decide +kernel
theorem d21_16 : D_18 16 = .ok (.putfield 17, 3) := by decide +kernel
theorem d21_19 : D_18 19 = .ok (.aload_n 0, 1) := by decide +kernel
theorem d21_20 : D_18 20 = .ok (.aload 4, 2) := by decide +kernel
theorem d21_22 : D_18 22 = .ok (.putfield 21, 3) := by decide +kernel
theorem d21_25 : D_18 25 = .ok (.aload 4, 2) := by decide +kernel
theorem d21_27 : D_18 27 = .ok (.ifnonnull 7, 3) := by decide +kernel
theorem d21_34 : D_18 34 = .ok (.aload 4, 2) := by decide +kernel
theorem d21_36 : D_18 36 = .ok (.invokevirtual 24, 3) := by decide +kernel
theorem d21_39 : D_18 39 = .ok (.istore 5, 2) := by decide +kernel
theorem d21_41 : D_18 41 = .ok (.aload_n 0, 1) := by decide +kernel
theorem d21_42 : D_18 42 = .ok (.iload 5, 2) := by decide +kernel
theorem d21_44 : D_18 44 = .ok (.aload_n 1, 1) := by decide +kernel
theorem d21_45 : D_18 45 = .ok (.arraylength, 1) := by decide +kernel
theorem d21_46 : D_18 46 = .ok (.multianewarray 30 2, 4) := by decide +kernel
theorem d21_50 : D_18 50 = .ok (.putfield 32, 3) := by decide +kernel
theorem d21_53 : D_18 53 = .ok (.iconst 1, 1) := by decide +kernel
theorem d21_54 : D_18 54 = .ok (.istore 6, 2) := by decide +kernel
theorem d21_56 : D_18 56 = .ok (.iload 5, 2) := by decide +kernel
theorem d21_58 : D_18 58 = .ok (.iconst 1, 1) := by decide +kernel
theorem d21_59 : D_18 59 = .ok (.isub, 1) := by decide +kernel
theorem d21_60 : D_18 60 = .ok (.istore 7, 2) := by decide +kernel
theorem d21_62 : D_18 62 = .ok (.iload 7, 2) := by decide +kernel
theorem d21_64 : D_18 64 = .ok (.ifCond .lt 51, 3) := by decide +kernel
theorem d21_67 : D_18 67 = .ok (.iconst 0, 1) := by decide +kernel
theorem d21_68 : D_18 68 = .ok (.istore 8, 2) := by decide +kernel
theorem d21_100 : D_18 100 = .ok (.iload 6, 2) := by decide +kernel
theorem d21_102 : D_18 102 = .ok (.aload_n 3, 1) := by decide +kernel
theorem d21_103 : D_18 103 = .ok (.invokevirtual 35, 3) := by decide +kernel
theorem d21_106 : D_18 106 = .ok (.imul, 1) := by decide +kernel
theorem d21_107 : D_18 107 = .ok (.istore 6, 2) := by decide +kernel
theorem d21_109 : D_18 109 = .ok (.iinc 7 (-1), 3) := by decide +kernel
theorem d21_112 : D_18 112 = .ok (.goto (-50), 3) := by decide +kernel
theorem d21_115 : D_18 115 = .ok (.aload_n 0, 1) := by decide +kernel
theorem d21_116 : D_18 116 = .ok (.aload 4, 2) := by decide +kernel
theorem d21_118 : D_18 118 = .ok (.ifnonnull 7, 3) := by decide +kernel
theorem d21_125 : D_18 125 = .ok (.aload 4, 2) := by decide +kernel
theorem d21_127 : D_18 127 = .ok (.invokevirtual 35, 3) := by decide +kernel
theorem d21_130 : D_18 130 = .ok (.aload_n 3, 1) := by decide +kernel
theorem d21_131 : D_18 131 = .ok (.invokevirtual 35, 3) := by decide +kernel
theorem d21_134 : D_18 134 = .ok (.idiv, 1) := by decide +kernel
theorem d21_135 : D_18 135 = .ok (.putfield 38, 3) := by decide +kernel
theorem d21_138 : D_18 138 = .ok (.return_, 1) := by decide +kernel
def Q21 (Z : State) (ra : Addr) (rk : Addr) (oc : Int32) (rs : Addr) (rb : Addr) (cc : Int32) (bb : Int32) (fk : Nat → Int32) (h0 : Heap) (n0 : Nat) (v : Option Value) (h : Heap) (L : List Loc) : Prop := v = none ∧ Fr n0 L ∧ Keep h0 h [ra]
set_option maxRecDepth 65536 in
set_option maxHeartbeats 40000000 in
theorem rm21 (l : Launch) (Z : State) (a0 : Array Value) (hw : ∀ d ∈ tables_1, d.before a0 Z = true) (ws : List Jvm.Cond) (ra : Addr) (rk : Addr) (oc : Int32) (rs : Addr) (rb : Addr) (cc : Int32) (bb : Int32) (fk : Nat → Int32) (h0 : Heap) (n0 : Nat) (Z0 : n0 ≤ h0.size) (E_ra : Exa Z h0 ra cS0) (F_column_ra : Fld Z h0 ra cS0 "column" "[I" .null) (F_occurrenceRow_ra : Fld Z h0 ra cS0 "occurrenceRow" "I" (.int 0)) (F_single_ra : Fld Z h0 ra cS0 "single" cS4 .null) (F_block_ra : Fld Z h0 ra cS0 "block" cS4 .null) (F_blockColumn_ra : Fld Z h0 ra cS0 "blockColumn" "[[I" .null) (F_blockFactor_ra : Fld Z h0 ra cS0 "blockFactor" "I" (.int 0)) (E_rs : Exa Z h0 rs cS3) (E_rb : Exa Z h0 rb cS3) (F_columns_rs : Fld Z h0 rs cS3 "columns" "I" (.int cc)) (F_columns_rb : Fld Z h0 rb cS3 "columns" "I" (.int bb)) (F_width_rb : Fld Z h0 rb cS3 "width" "I" (.int 4)) (A_rk : AI Z h0 rk .int 256 fk) (ne_rk_ra : rk ≠ ra) (ne_rs_ra : rs ≠ ra) (ne_rb_ra : rb ≠ ra) (hnz : cc ≠ 0) (g_ra : n0 ≤ ra) :
  MetFree l mN17 (head1 (Jvm.Cond.code mN17 prog_23_method_1_code 9 none :: ws) ({ frames := 1, cells := 5, slots := 1028, locals := 14 } : Room)) (fun a U => a = #[(.ref ra), (.ref rk), (.int oc), (.ref rs), (.ref rb)] ∧ Z.Warmed39 U.vm ∧ U.heap = h0) (fun _ _ _ _ _ => True) (fun _ U o U' => ∃ v L, o = .returned v ∧ Q21 Z ra rk oc rs rb cc bb fk h0 n0 v U'.heap L ∧ FrameEnd U o U' L ({ frames := 1, cells := 5, slots := 1028, locals := 14 } : Room).cells ({ frames := 1, cells := 5, slots := 1028, locals := 14 } : Room).slots) := by
 refine MetFree.of_bodySF (plainFor_of_name pn_skipstitch_search_Automaton) hisR ?_
 intro p e s m args below meth c s₁ Bd hml0 hP hK
 obtain ⟨rfl, hZ, hh⟩ := hP
 have hx := Bd.exec
 have hby := Bd.bytes
 have q {i : Nat} {r : _} (h : decode _ i = r) := hb hby h
 have hml : c.maxLocals = 9 := hml0
 have hown : s.vm.findClass cS0 = some m.cls := findClass_of_methodNamed Bd.named
 have hnm := (name_of_methodNamed Bd.named Bd.method).1
 have X0 : Stand p l e ({ frames := 1, cells := 5, slots := 1028, locals := 14 } : Room) s m #[(.ref ra), (.ref rk), (.int oc), (.ref rs), (.ref rb)] below meth c s₁ [] 0 0 := Stand.of_body Bd
 have e0 : s₁.heap = h0 := by rw [← hh, Bd.state]; rfl
 have N0 := Fr.nil n0
 have K0 : Keep h0 h0 [ra] := Keep.refl h0 _
 have pre0 : oP p e below (s₁.setTop (mkF m 0 #[vR ra, vR rk, vI oc, vR rs, vR rb, vU, vU, vU, vU] [])) (s₁.setTop (entryFrame m #[(.ref ra), (.ref rk), (.int oc), (.ref rs), (.ref rb)] 9)) := fun t k => castTop (ef_21 m ra rk oc rs rb) k
 obtain ⟨T1, X1, e1, st1⟩ := initO X0 hx hZ hown (ow hw 120 rfl) (ow hw 10 rfl) (ow hw 11 rfl) e0 (g := (mkF m 1 #[vR ra, vR rk, vI oc, vR rs, vR rb, vU, vU, vU, vU] [(.ref ra)])) rfl (by rw [hml]; rfl) rfl (q d21_1) (by decide) (W := 0) (oz rfl) (by decide)
 obtain ⟨T2, h2, X2, e2, W2, st2⟩ := putF X1 hx hZ hown (host := "") (Or.inl (ow hw 121 rfl)) Via.refl e1 F_column_ra E_ra (Or.inr ⟨(ow hw 122 rfl), rfl, hnm⟩) (ow hw 116 rfl) (ty := (.array .int)) (by decide) rfl rfl (g := (mkF m 6 #[vR ra, vR rk, vI oc, vR rs, vR rb, vU, vU, vU, vU] [(.ref rk), (.ref ra)])) rfl rfl (q d21_6)
 have N2 := Fr.snoc X2 N0 g_ra
 have Z2 := Nat.le_trans Z0 (Keep.of_wr W2).1
 have K2 := K0.wr W2 (Or.inl (List.mem_of_getElem? (i := 0) rfl))
 have f4 := E_ra.wr W2
 have f5 := F_occurrenceRow_ra.other W2 (Or.inr (slot_ne (Or.inr (ow hw 124 rfl)) (Or.inr (ow hw 122 rfl)) (by decide) (t := .int) (t' := (.array .int)) (by decide) (by decide)))
 have f6 := F_single_ra.other W2 (Or.inr (slot_ne (Or.inr (ow hw 126 rfl)) (Or.inr (ow hw 122 rfl)) (by decide) (t := (.object cS3)) (t' := (.array .int)) (by decide) (by decide)))
 have f7 := F_block_ra.other W2 (Or.inr (slot_ne (Or.inr (ow hw 128 rfl)) (Or.inr (ow hw 122 rfl)) (by decide) (t := (.object cS3)) (t' := (.array .int)) (by decide) (by decide)))
 have f8 := F_blockColumn_ra.other W2 (Or.inr (slot_ne (Or.inr (ow hw 132 rfl)) (Or.inr (ow hw 122 rfl)) (by decide) (t := (.array (.array .int))) (t' := (.array .int)) (by decide) (by decide)))
 have f9 := F_blockFactor_ra.other W2 (Or.inr (slot_ne (Or.inr (ow hw 134 rfl)) (Or.inr (ow hw 122 rfl)) (by decide) (t := .int) (t' := (.array .int)) (by decide) (by decide)))
 have f10 := E_rs.wr W2
 have f11 := E_rb.wr W2
 have f12 := F_columns_rs.other W2 (Or.inl ne_rs_ra)
 have f13 := F_columns_rb.other W2 (Or.inl ne_rb_ra)
 have f14 := F_width_rb.other W2 (Or.inl ne_rb_ra)
 have f15 := A_rk.other W2 ne_rk_ra
 obtain ⟨T16, h16, X16, e16, W16, st16⟩ := putF X2 hx hZ hown (host := "") (Or.inl (ow hw 123 rfl)) Via.refl e2 f5 f4 (Or.inr ⟨(ow hw 124 rfl), rfl, hnm⟩) (ow hw 116 rfl) (ty := .int) (by decide) rfl rfl (g := (mkF m 11 #[vR ra, vR rk, vI oc, vR rs, vR rb, vU, vU, vU, vU] [(.int oc), (.ref ra)])) rfl rfl (q d21_11)
 have N16 := Fr.snoc X16 N2 g_ra
 have Z16 := Nat.le_trans Z2 (Keep.of_wr W16).1
 have K16 := K2.wr W16 (Or.inl (List.mem_of_getElem? (i := 0) rfl))
 have f18 := f4.wr W16
 have f20 := f6.other W16 (Or.inr (slot_ne (Or.inr (ow hw 126 rfl)) (Or.inr (ow hw 124 rfl)) (by decide) (t := (.object cS3)) (t' := .int) (by decide) (by decide)))
 have f21 := f7.other W16 (Or.inr (slot_ne (Or.inr (ow hw 128 rfl)) (Or.inr (ow hw 124 rfl)) (by decide) (t := (.object cS3)) (t' := .int) (by decide) (by decide)))
 have f22 := f8.other W16 (Or.inr (slot_ne (Or.inr (ow hw 132 rfl)) (Or.inr (ow hw 124 rfl)) (by decide) (t := (.array (.array .int))) (t' := .int) (by decide) (by decide)))
 have f23 := f9.other W16 (Or.inr (slot_ne (Or.inr (ow hw 134 rfl)) (Or.inr (ow hw 124 rfl)) (by decide) (t := .int) (t' := .int) (by decide) (by decide)))
 have f24 := f10.wr W16
 have f25 := f11.wr W16
 have f26 := f12.other W16 (Or.inl ne_rs_ra)
 have f27 := f13.other W16 (Or.inl ne_rb_ra)
 have f28 := f14.other W16 (Or.inl ne_rb_ra)
 have f29 := f15.other W16 ne_rk_ra
 obtain ⟨T30, h30, X30, e30, W30, st30⟩ := putF X16 hx hZ hown (host := "") (Or.inl (ow hw 125 rfl)) Via.refl e16 f20 f18 (Or.inr ⟨(ow hw 126 rfl), rfl, hnm⟩) (ow hw 116 rfl) (ty := (.object cS3)) (by decide) rfl rfl (g := (mkF m 16 #[vR ra, vR rk, vI oc, vR rs, vR rb, vU, vU, vU, vU] [(.ref rs), (.ref ra)])) rfl rfl (q d21_16)
 have N30 := Fr.snoc X30 N16 g_ra
 have Z30 := Nat.le_trans Z16 (Keep.of_wr W30).1
 have K30 := K16.wr W30 (Or.inl (List.mem_of_getElem? (i := 0) rfl))
 have f32 := f18.wr W30
 have f35 := f21.other W30 (Or.inr (slot_ne (Or.inr (ow hw 128 rfl)) (Or.inr (ow hw 126 rfl)) (by decide) (t := (.object cS3)) (t' := (.object cS3)) (by decide) (by decide)))
 have f36 := f22.other W30 (Or.inr (slot_ne (Or.inr (ow hw 132 rfl)) (Or.inr (ow hw 126 rfl)) (by decide) (t := (.array (.array .int))) (t' := (.object cS3)) (by decide) (by decide)))
 have f37 := f23.other W30 (Or.inr (slot_ne (Or.inr (ow hw 134 rfl)) (Or.inr (ow hw 126 rfl)) (by decide) (t := .int) (t' := (.object cS3)) (by decide) (by decide)))
 have f38 := f24.wr W30
 have f39 := f25.wr W30
 have f40 := f26.other W30 (Or.inl ne_rs_ra)
 have f41 := f27.other W30 (Or.inl ne_rb_ra)
 have f42 := f28.other W30 (Or.inl ne_rb_ra)
 have f43 := f29.other W30 ne_rk_ra
 obtain ⟨T44, h44, X44, e44, W44, st44⟩ := putF X30 hx hZ hown (host := "") (Or.inl (ow hw 127 rfl)) Via.refl e30 f35 f32 (Or.inr ⟨(ow hw 128 rfl), rfl, hnm⟩) (ow hw 116 rfl) (ty := (.object cS3)) (by decide) rfl rfl (g := (mkF m 22 #[vR ra, vR rk, vI oc, vR rs, vR rb, vU, vU, vU, vU] [(.ref rb), (.ref ra)])) rfl rfl (q d21_22)
 have N44 := Fr.snoc X44 N30 g_ra
 have Z44 := Nat.le_trans Z30 (Keep.of_wr W44).1
 have K44 := K30.wr W44 (Or.inl (List.mem_of_getElem? (i := 0) rfl))
 have f46 := f32.wr W44
 have f50 := f36.other W44 (Or.inr (slot_ne (Or.inr (ow hw 132 rfl)) (Or.inr (ow hw 128 rfl)) (by decide) (t := (.array (.array .int))) (t' := (.object cS3)) (by decide) (by decide)))
 have f51 := f37.other W44 (Or.inr (slot_ne (Or.inr (ow hw 134 rfl)) (Or.inr (ow hw 128 rfl)) (by decide) (t := .int) (t' := (.object cS3)) (by decide) (by decide)))
 have f52 := f38.wr W44
 have f53 := f39.wr W44
 have f54 := f40.other W44 (Or.inl ne_rs_ra)
 have f55 := f41.other W44 (Or.inl ne_rb_ra)
 have f56 := f42.other W44 (Or.inl ne_rb_ra)
 have f57 := f43.other W44 ne_rk_ra
 obtain ⟨cq58, kq58, q58a, q58b, q58c⟩ := isOf hZ e44 f53
 obtain ⟨_, _, ⟨T58, L58, k58, n58⟩, -, X58, ⟨Lc58, hQ58, l58, y58, z58⟩, st58⟩ := X44.virtualBack hx (y := mN12) (z := mN12) hown (om hZ hw 92 rfl) (om hZ hw 93 rfl) (notFace_of_selects (args := #[]) (om hZ hw 95 rfl)) (om hZ hw 95 rfl) (om hZ hw 94 rfl) (by decide) (backOf (W := 0) (rm16 l Z a0 hw [] rb (4 : Int32) h44 n0 Z44 f56) hZ (ow hw 96 rfl) (ow hw 74 rfl) (by decide) (by decide)) q58a q58c (g := (mkF m 36 #[vR ra, vR rk, vI oc, vR rs, vR rb, vU, vU, vU, vU] [(.ref rb)])) rfl (by rw [hml]; rfl) (Steps.refl _) (argsL := []) (rest := []) (lenOf pd_5 rfl) rfl (oz rfl) (q d21_36) (fun _ _ => ⟨rfl, e44, (by decide : 0 + 0 ≤ _), (by decide : 0 + 0 ≤ _)⟩)
 dsimp only [Pt.U, Pt.locs, Pt.cells, Pt.slots] at X58 l58 y58 z58 st58 hQ58
 subst y58 z58
 obtain ⟨rfl, N58q, e58⟩ := hQ58
 have N58 := oF l58 N44 N58q
 obtain ⟨cl59, Arcl59, Szcl59⟩ := AF.len f57
 obtain ⟨xg60, g60⟩ : ∃ z, z = h44.size := ⟨_, rfl⟩
 obtain ⟨xi60_0, gxi60_0⟩ : ∃ z, z = h44.size + 1 + 0 := ⟨_, rfl⟩
 obtain ⟨xi60_1, gxi60_1⟩ : ∃ z, z = h44.size + 1 + 1 := ⟨_, rfl⟩
 obtain ⟨xi60_2, gxi60_2⟩ : ∃ z, z = h44.size + 1 + 2 := ⟨_, rfl⟩
 obtain ⟨xi60_3, gxi60_3⟩ : ∃ z, z = h44.size + 1 + 3 := ⟨_, rfl⟩
 obtain ⟨T60, h60, cA60, cB60, X60, e60, E60, AO60, -, -, fi60, st60⟩ := gridM X58 hx hZ hown (C := "[I") (ad := "[[I") (ty := .int) (by decide) (by decide) (ow hw 129 rfl) (ow hw 130 rfl) (ow hw 2 rfl) e58 (g := (mkF m 46 #[vR ra, vR rk, vI oc, vR rs, vR rb, vI 4, vU, vU, vU] [(.int 256), (.int 4), (.ref ra)])) rfl (q d21_46) rfl (by decide) (by decide) (N := 4) (by decide) (xs := [xi60_0, xi60_1, xi60_2, xi60_3]) (by rw [gxi60_0, gxi60_1, gxi60_2, gxi60_3]; rfl) (cap := 256) (by decide) (by decide) (by decide) rfl rfl (by decide) (by decide)
 rw [← g60] at AO60 st60
 have lexg60 : h44.size ≤ xg60 := by omega
 have ne61 := oM f46.lt lexg60
 have lexi60_0 : h44.size ≤ xi60_0 := by omega
 have ne65 := oM f46.lt lexi60_0
 have ne66 := oM f53.lt lexi60_0
 have ne67 := oM f57.lt lexi60_0
 have ne68 := oM f52.lt lexi60_0
 have ggxi60_0 := Nat.le_trans Z44 lexi60_0
 have szxi60_0 := Nat.le_trans K44.1 lexi60_0
 have lexi60_1 : h44.size ≤ xi60_1 := by omega
 have ne69 := oM f46.lt lexi60_1
 have ne70 := oM f53.lt lexi60_1
 have ne71 := oM f57.lt lexi60_1
 have ne72 := oM f52.lt lexi60_1
 have ggxi60_1 := Nat.le_trans Z44 lexi60_1
 have szxi60_1 := Nat.le_trans K44.1 lexi60_1
 have lexi60_2 : h44.size ≤ xi60_2 := by omega
 have ne73 := oM f46.lt lexi60_2
 have ne74 := oM f53.lt lexi60_2
 have ne75 := oM f57.lt lexi60_2
 have ne76 := oM f52.lt lexi60_2
 have ggxi60_2 := Nat.le_trans Z44 lexi60_2
 have szxi60_2 := Nat.le_trans K44.1 lexi60_2
 have lexi60_3 : h44.size ≤ xi60_3 := by omega
 have ne77 := oM f46.lt lexi60_3
 have ne78 := oM f53.lt lexi60_3
 have ne79 := oM f57.lt lexi60_3
 have ne80 := oM f52.lt lexi60_3
 have ggxi60_3 := Nat.le_trans Z44 lexi60_3
 have szxi60_3 := Nat.le_trans K44.1 lexi60_3
 have ne81 : xg60 ≠ xi60_0 := by omega
 have ne82 : xg60 ≠ xi60_1 := by omega
 have ne83 : xg60 ≠ xi60_2 := by omega
 have ne84 : xg60 ≠ xi60_3 := by omega
 have ne85 : xi60_0 ≠ xi60_1 := by omega
 have ne86 : xi60_0 ≠ xi60_2 := by omega
 have ne87 : xi60_0 ≠ xi60_3 := by omega
 have ne88 : xi60_1 ≠ xi60_2 := by omega
 have ne89 : xi60_1 ≠ xi60_3 := by omega
 have ne90 : xi60_2 ≠ xi60_3 := by omega
 have f91 := f46.ext E60
 have f96 := f50.ext E60
 have f97 := f51.ext E60
 have f98 := f52.ext E60
 have f99 := f53.ext E60
 have f100 := f54.ext E60
 have f101 := f55.ext E60
 have f103 := f57.ext E60
 have Z60 := Nat.le_trans Z44 E60.1
 have K60 := K44.ext E60
 have ag60 : AF Z h60 xg60 (.array .int) 4 (own_gf xi60_0 xi60_1 xi60_2 xi60_3) := own_arv AO60 (by decide)
 have f104 : AI Z h60 xi60_0 .int 256 zI := AF.new (fi60 0 xi60_0 rfl).1 (by decide)
 have f105 : AI Z h60 xi60_1 .int 256 zI := AF.new (fi60 1 xi60_1 rfl).1 (by decide)
 have f106 : AI Z h60 xi60_2 .int 256 zI := AF.new (fi60 2 xi60_2 rfl).1 (by decide)
 have f107 : AI Z h60 xi60_3 .int 256 zI := AF.new (fi60 3 xi60_3 rfl).1 (by decide)
 obtain ⟨T108, h108, X108, e108, W108, st108⟩ := putF X60 hx hZ hown (host := "") (Or.inl (ow hw 131 rfl)) Via.refl e60 f96 f91 (Or.inr ⟨(ow hw 132 rfl), rfl, hnm⟩) (ow hw 116 rfl) (ty := (.array (.array .int))) (by decide) rfl rfl (g := (mkF m 50 #[vR ra, vR rk, vI oc, vR rs, vR rb, vI 4, vU, vU, vU] [(.ref xg60), (.ref ra)])) rfl rfl (q d21_50)
 have N108 := Fr.snoc X108 N58 g_ra
 have Z108 := Nat.le_trans Z60 (Keep.of_wr W108).1
 have K108 := K60.wr W108 (Or.inl (List.mem_of_getElem? (i := 0) rfl))
 have f109 : Fld Z h108 ra cS0 "blockColumn" "[[I" (.ref xg60) := f96.same W108
 have f110 := f91.wr W108
 have f115 := f97.other W108 (Or.inr (slot_ne (Or.inr (ow hw 134 rfl)) (Or.inr (ow hw 132 rfl)) (by decide) (t := .int) (t' := (.array (.array .int))) (by decide) (by decide)))
 have f116 := f98.wr W108
 have f117 := f99.wr W108
 have f118 := f100.other W108 (Or.inl ne_rs_ra)
 have f119 := f101.other W108 (Or.inl ne_rb_ra)
 have f121 := f103.other W108 ne_rk_ra
 have f122 := ag60.other W108 (Ne.symm ne61)
 have f123 := f104.other W108 (Ne.symm ne65)
 have f124 := f105.other W108 (Ne.symm ne69)
 have f125 := f106.other W108 (Ne.symm ne73)
 have f126 := f107.other W108 (Ne.symm ne77)
 obtain ⟨T127, h127, L127, vo127, fx127, X127, e127, N127, Kl127, Ax127, st127⟩ := grI ra rk oc rs rb (4 : Int32) (1 : Int32) (3 : Int32) xg60 xi60_3 3 (own_gf xi60_0 xi60_1 xi60_2 xi60_3) fk hx hZ hw hby hml hown (by decide) (by decide) rfl ggxi60_3 ne77 ne84 ne79 256 T108 _ h108 (0 : Int32) 0 zI (by decide) rfl X108 e108 N108 f109 f122 f121 f126
 have Z127 := Nat.le_trans Z108 Kl127.1
 have K127 := K108.trans Kl127 (allS (Or.inr szxi60_3) all0)
 have f128 := f110.keep Kl127
 have f133 := f109.keep Kl127 (ninS ne77 nin0)
 have f134 := f115.keep Kl127 (ninS ne77 nin0)
 have f135 := f116.keep Kl127
 have f136 := f117.keep Kl127
 have f137 := f118.keep Kl127 (ninS ne80 nin0)
 have f138 := f119.keep Kl127 (ninS ne78 nin0)
 have f140 := f121.keep Kl127 (ninS ne79 nin0)
 have f141 := f122.keep Kl127 (ninS ne84 nin0)
 have f142 := f123.keep Kl127 (ninS ne87 nin0)
 have f143 := f124.keep Kl127 (ninS ne89 nin0)
 have f144 := f125.keep Kl127 (ninS ne90 nin0)
 obtain ⟨cq145, kq145, q145a, q145b, q145c⟩ := isOf hZ e127 f135
 obtain ⟨_, _, ⟨T145, L145, k145, n145⟩, -, X145, ⟨Lc145, hQ145, l145, y145, z145⟩, st145⟩ := X127.virtualBack hx (y := mN13) (z := mN13) hown (om hZ hw 100 rfl) (om hZ hw 101 rfl) (notFace_of_selects (args := #[]) (om hZ hw 103 rfl)) (om hZ hw 103 rfl) (om hZ hw 102 rfl) (by decide) (backOf (W := 1) (rm18 l Z a0 hw [] rs cc h127 n0 Z127 f137) hZ (ow hw 104 rfl) (ow hw 74 rfl) (by decide) (by decide)) q145a q145c (g := (mkF m 103 #[vR ra, vR rk, vI oc, vR rs, vR rb, vI 4, vI 1, vI 3, vI vo127] [(.ref rs), (.int 1)])) rfl (by rw [hml]; rfl) (Steps.refl _) (argsL := []) (rest := [(.int 1)]) (lenOf pd_5 rfl) rfl (oz rfl) (q d21_103) (fun _ _ => ⟨rfl, e127, (by decide : 5 + 0 ≤ _), (by decide : 1028 + 0 ≤ _)⟩)
 dsimp only [Pt.U, Pt.locs, Pt.cells, Pt.slots] at X145 l145 y145 z145 st145 hQ145
 subst y145 z145
 obtain ⟨rfl, N145q, e145⟩ := hQ145
 have N145 := oF l145 N127 N145q
 obtain ⟨T146, h146, L146, vo146, fx146, X146, e146, N146, Kl146, Ax146, st146⟩ := grI ra rk oc rs rb (4 : Int32) ((1 : Int32) * cc) (2 : Int32) xg60 xi60_2 2 (own_gf xi60_0 xi60_1 xi60_2 xi60_3) fk hx hZ hw hby hml hown (by decide) (by decide) rfl ggxi60_2 ne73 ne83 ne75 256 T145 _ h127 (0 : Int32) 0 zI (by decide) rfl X145 e145 N145 f133 f141 f140 f144
 have Z146 := Nat.le_trans Z127 Kl146.1
 have K146 := K127.trans Kl146 (allS (Or.inr szxi60_2) all0)
 have f147 := f128.keep Kl146
 have f152 := f133.keep Kl146 (ninS ne73 nin0)
 have f153 := f134.keep Kl146 (ninS ne73 nin0)
 have f154 := f135.keep Kl146
 have f155 := f136.keep Kl146
 have f156 := f137.keep Kl146 (ninS ne76 nin0)
 have f157 := f138.keep Kl146 (ninS ne74 nin0)
 have f159 := f140.keep Kl146 (ninS ne75 nin0)
 have f160 := f141.keep Kl146 (ninS ne83 nin0)
 have f161 := f142.keep Kl146 (ninS ne86 nin0)
 have f162 := f143.keep Kl146 (ninS ne88 nin0)
 obtain ⟨cq164, kq164, q164a, q164b, q164c⟩ := isOf hZ e146 f154
 obtain ⟨_, _, ⟨T164, L164, k164, n164⟩, -, X164, ⟨Lc164, hQ164, l164, y164, z164⟩, st164⟩ := X146.virtualBack hx (y := mN13) (z := mN13) hown (om hZ hw 100 rfl) (om hZ hw 101 rfl) (notFace_of_selects (args := #[]) (om hZ hw 103 rfl)) (om hZ hw 103 rfl) (om hZ hw 102 rfl) (by decide) (backOf (W := 1) (rm18 l Z a0 hw [] rs cc h146 n0 Z146 f156) hZ (ow hw 104 rfl) (ow hw 74 rfl) (by decide) (by decide)) q164a q164c (g := (mkF m 103 #[vR ra, vR rk, vI oc, vR rs, vR rb, vI 4, vI ((1 : Int32) * cc), vI 2, vI vo146] [(.ref rs), (.int ((1 : Int32) * cc))])) rfl (by rw [hml]; rfl) (Steps.refl _) (argsL := []) (rest := [(.int ((1 : Int32) * cc))]) (lenOf pd_5 rfl) rfl (oz rfl) (q d21_103) (fun _ _ => ⟨rfl, e146, (by decide : 5 + 0 ≤ _), (by decide : 1028 + 0 ≤ _)⟩)
 dsimp only [Pt.U, Pt.locs, Pt.cells, Pt.slots] at X164 l164 y164 z164 st164 hQ164
 subst y164 z164
 obtain ⟨rfl, N164q, e164⟩ := hQ164
 have N164 := oF l164 N146 N164q
 obtain ⟨T165, h165, L165, vo165, fx165, X165, e165, N165, Kl165, Ax165, st165⟩ := grI ra rk oc rs rb (4 : Int32) (((1 : Int32) * cc) * cc) (1 : Int32) xg60 xi60_1 1 (own_gf xi60_0 xi60_1 xi60_2 xi60_3) fk hx hZ hw hby hml hown (by decide) (by decide) rfl ggxi60_1 ne69 ne82 ne71 256 T164 _ h146 (0 : Int32) 0 zI (by decide) rfl X164 e164 N164 f152 f160 f159 f162
 have Z165 := Nat.le_trans Z146 Kl165.1
 have K165 := K146.trans Kl165 (allS (Or.inr szxi60_1) all0)
 have f166 := f147.keep Kl165
 have f171 := f152.keep Kl165 (ninS ne69 nin0)
 have f172 := f153.keep Kl165 (ninS ne69 nin0)
 have f173 := f154.keep Kl165
 have f174 := f155.keep Kl165
 have f175 := f156.keep Kl165 (ninS ne72 nin0)
 have f176 := f157.keep Kl165 (ninS ne70 nin0)
 have f178 := f159.keep Kl165 (ninS ne71 nin0)
 have f179 := f160.keep Kl165 (ninS ne82 nin0)
 have f180 := f161.keep Kl165 (ninS ne85 nin0)
 obtain ⟨cq183, kq183, q183a, q183b, q183c⟩ := isOf hZ e165 f173
 obtain ⟨_, _, ⟨T183, L183, k183, n183⟩, -, X183, ⟨Lc183, hQ183, l183, y183, z183⟩, st183⟩ := X165.virtualBack hx (y := mN13) (z := mN13) hown (om hZ hw 100 rfl) (om hZ hw 101 rfl) (notFace_of_selects (args := #[]) (om hZ hw 103 rfl)) (om hZ hw 103 rfl) (om hZ hw 102 rfl) (by decide) (backOf (W := 1) (rm18 l Z a0 hw [] rs cc h165 n0 Z165 f175) hZ (ow hw 104 rfl) (ow hw 74 rfl) (by decide) (by decide)) q183a q183c (g := (mkF m 103 #[vR ra, vR rk, vI oc, vR rs, vR rb, vI 4, vI (((1 : Int32) * cc) * cc), vI 1, vI vo165] [(.ref rs), (.int (((1 : Int32) * cc) * cc))])) rfl (by rw [hml]; rfl) (Steps.refl _) (argsL := []) (rest := [(.int (((1 : Int32) * cc) * cc))]) (lenOf pd_5 rfl) rfl (oz rfl) (q d21_103) (fun _ _ => ⟨rfl, e165, (by decide : 5 + 0 ≤ _), (by decide : 1028 + 0 ≤ _)⟩)
 dsimp only [Pt.U, Pt.locs, Pt.cells, Pt.slots] at X183 l183 y183 z183 st183 hQ183
 subst y183 z183
 obtain ⟨rfl, N183q, e183⟩ := hQ183
 have N183 := oF l183 N165 N183q
 obtain ⟨T184, h184, L184, vo184, fx184, X184, e184, N184, Kl184, Ax184, st184⟩ := grI ra rk oc rs rb (4 : Int32) ((((1 : Int32) * cc) * cc) * cc) (0 : Int32) xg60 xi60_0 0 (own_gf xi60_0 xi60_1 xi60_2 xi60_3) fk hx hZ hw hby hml hown (by decide) (by decide) rfl ggxi60_0 ne65 ne81 ne67 256 T183 _ h165 (0 : Int32) 0 zI (by decide) rfl X183 e183 N183 f171 f179 f178 f180
 have Z184 := Nat.le_trans Z165 Kl184.1
 have K184 := K165.trans Kl184 (allS (Or.inr szxi60_0) all0)
 have f185 := f166.keep Kl184
 have f191 := f172.keep Kl184 (ninS ne65 nin0)
 have f192 := f173.keep Kl184
 have f193 := f174.keep Kl184
 have f194 := f175.keep Kl184 (ninS ne68 nin0)
 have f195 := f176.keep Kl184 (ninS ne66 nin0)
 obtain ⟨cq202, kq202, q202a, q202b, q202c⟩ := isOf hZ e184 f192
 obtain ⟨_, _, ⟨T202, L202, k202, n202⟩, -, X202, ⟨Lc202, hQ202, l202, y202, z202⟩, st202⟩ := X184.virtualBack hx (y := mN13) (z := mN13) hown (om hZ hw 100 rfl) (om hZ hw 101 rfl) (notFace_of_selects (args := #[]) (om hZ hw 103 rfl)) (om hZ hw 103 rfl) (om hZ hw 102 rfl) (by decide) (backOf (W := 1) (rm18 l Z a0 hw [] rs cc h184 n0 Z184 f194) hZ (ow hw 104 rfl) (ow hw 74 rfl) (by decide) (by decide)) q202a q202c (g := (mkF m 103 #[vR ra, vR rk, vI oc, vR rs, vR rb, vI 4, vI ((((1 : Int32) * cc) * cc) * cc), vI 0, vI vo184] [(.ref rs), (.int ((((1 : Int32) * cc) * cc) * cc))])) rfl (by rw [hml]; rfl) (Steps.refl _) (argsL := []) (rest := [(.int ((((1 : Int32) * cc) * cc) * cc))]) (lenOf pd_5 rfl) rfl (oz rfl) (q d21_103) (fun _ _ => ⟨rfl, e184, (by decide : 5 + 0 ≤ _), (by decide : 1028 + 0 ≤ _)⟩)
 dsimp only [Pt.U, Pt.locs, Pt.cells, Pt.slots] at X202 l202 y202 z202 st202 hQ202
 subst y202 z202
 obtain ⟨rfl, N202q, e202⟩ := hQ202
 have N202 := oF l202 N184 N202q
 obtain ⟨cq203, kq203, q203a, q203b, q203c⟩ := isOf hZ e202 f193
 obtain ⟨_, _, ⟨T203, L203, k203, n203⟩, -, X203, ⟨Lc203, hQ203, l203, y203, z203⟩, st203⟩ := X202.virtualBack hx (y := mN13) (z := mN13) hown (om hZ hw 100 rfl) (om hZ hw 101 rfl) (notFace_of_selects (args := #[]) (om hZ hw 103 rfl)) (om hZ hw 103 rfl) (om hZ hw 102 rfl) (by decide) (backOf (W := 1) (rm18 l Z a0 hw [] rb bb h184 n0 Z184 f195) hZ (ow hw 104 rfl) (ow hw 74 rfl) (by decide) (by decide)) q203a q203c (g := (mkF m 127 #[vR ra, vR rk, vI oc, vR rs, vR rb, vI 4, vI (((((1 : Int32) * cc) * cc) * cc) * cc), vI (-1 : Int32), vI vo184] [(.ref rb), (.ref ra)])) rfl (by rw [hml]; rfl) (Steps.refl _) (argsL := []) (rest := [(.ref ra)]) (lenOf pd_5 rfl) rfl (oz rfl) (q d21_127) (fun _ _ => ⟨rfl, e202, (by decide : 5 + 0 ≤ _), (by decide : 1028 + 0 ≤ _)⟩)
 dsimp only [Pt.U, Pt.locs, Pt.cells, Pt.slots] at X203 l203 y203 z203 st203 hQ203
 subst y203 z203
 obtain ⟨rfl, N203q, e203⟩ := hQ203
 have N203 := oF l203 N202 N203q
 obtain ⟨cq204, kq204, q204a, q204b, q204c⟩ := isOf hZ e203 f192
 obtain ⟨_, _, ⟨T204, L204, k204, n204⟩, -, X204, ⟨Lc204, hQ204, l204, y204, z204⟩, st204⟩ := X203.virtualBack hx (y := mN13) (z := mN13) hown (om hZ hw 100 rfl) (om hZ hw 101 rfl) (notFace_of_selects (args := #[]) (om hZ hw 103 rfl)) (om hZ hw 103 rfl) (om hZ hw 102 rfl) (by decide) (backOf (W := 2) (rm18 l Z a0 hw [] rs cc h184 n0 Z184 f194) hZ (ow hw 104 rfl) (ow hw 74 rfl) (by decide) (by decide)) q204a q204c (g := (mkF m 131 #[vR ra, vR rk, vI oc, vR rs, vR rb, vI 4, vI (((((1 : Int32) * cc) * cc) * cc) * cc), vI (-1 : Int32), vI vo184] [(.ref rs), (.int bb), (.ref ra)])) rfl (by rw [hml]; rfl) (Steps.refl _) (argsL := []) (rest := [(.int bb), (.ref ra)]) (lenOf pd_5 rfl) rfl (oz rfl) (q d21_131) (fun _ _ => ⟨rfl, e203, (by decide : 5 + 0 ≤ _), (by decide : 1028 + 0 ≤ _)⟩)
 dsimp only [Pt.U, Pt.locs, Pt.cells, Pt.slots] at X204 l204 y204 z204 st204 hQ204
 subst y204 z204
 obtain ⟨rfl, N204q, e204⟩ := hQ204
 have N204 := oF l204 N203 N204q
 obtain ⟨T205, h205, X205, e205, W205, st205⟩ := putF X204 hx hZ hown (host := "") (Or.inl (ow hw 133 rfl)) Via.refl e204 f191 f185 (Or.inr ⟨(ow hw 134 rfl), rfl, hnm⟩) (ow hw 116 rfl) (ty := .int) (by decide) rfl rfl (g := (mkF m 135 #[vR ra, vR rk, vI oc, vR rs, vR rb, vI 4, vI (((((1 : Int32) * cc) * cc) * cc) * cc), vI (-1 : Int32), vI vo184] [(.int (bb / cc)), (.ref ra)])) rfl rfl (q d21_135)
 have N205 := Fr.snoc X205 N204 g_ra
 have K205 := K184.wr W205 (Or.inl (List.mem_of_getElem? (i := 0) rfl))
 obtain ⟨fs, hr, hrun, hended, hW, hsame⟩ := X205.leave (v := none) (fun _ => rfl) (hlocks := Bd.notSynchronized)
 refine ⟨_, _, pre0 _ ?_, hrun, hended, _, _, rfl, ?_, ⟨_, rfl⟩, hW, hsame.mono (by decide) (by decide)⟩
 ·show Steps p.tables e below (s₁.setTop (mkF m 0 #[vR ra, vR rk, vI oc, vR rs, vR rb, vU, vU, vU, vU] [])) _
  refine XS.aloadN X0.here hx rfl (q d21_0) rfl rfl ?_
  refine st1 _ ?_
  refine XS.aloadN X1.here hx rfl (q d21_4) rfl rfl ?_
  refine XS.aloadN X1.here hx rfl (q d21_5) rfl rfl ?_
  refine st2 _ ?_
  refine XS.aloadN X2.here hx rfl (q d21_9) rfl rfl ?_
  refine XS.iloadN X2.here hx rfl (q d21_10) rfl ?_
  refine st16 _ ?_
  refine XS.aloadN X16.here hx rfl (q d21_14) rfl rfl ?_
  refine XS.aloadN X16.here hx rfl (q d21_15) rfl rfl ?_
  refine st30 _ ?_
  refine XS.aloadN X30.here hx rfl (q d21_19) rfl rfl ?_
  refine XS.aload X30.here hx rfl (q d21_20) rfl rfl ?_
  refine st44 _ ?_
  refine XS.aload X44.here hx rfl (q d21_25) rfl rfl ?_
  refine XS.ifnonnullYes X44.here hx rfl (pc0 := 27) (pc' := 34) rfl (q d21_27) rfl (by decide) (by decide) ?_
  refine XS.aload X44.here hx rfl (q d21_34) rfl rfl ?_
  refine st58.trans ?_
  refine XS.istore X58.here hx rfl (q d21_39) rfl (l' := #[vR ra, vR rk, vI oc, vR rs, vR rb, vI 4, vU, vU, vU]) rfl ?_
  refine XS.aloadN X58.here hx rfl (q d21_41) rfl rfl ?_
  refine XS.iload X58.here hx rfl (q d21_42) rfl ?_
  refine XS.aloadN X58.here hx rfl (q d21_44) rfl rfl ?_
  refine X58.arraylength hx (by rw [e58]; exact Arcl59.1) (State.isArrayOf_alike hZ.alike Arcl59.2.1) (g := (mkF m 45 #[vR ra, vR rk, vI oc, vR rs, vR rb, vI 4, vU, vU, vU] [(.ref rk), (.int 4), (.ref ra)])) rfl rfl (q d21_45) _ ?_
  rw [Szcl59]
  refine st60 _ ?_
  refine st108 _ ?_
  refine XS.iconst X108.here hx rfl (q d21_53) ?_
  refine XS.istore X108.here hx rfl (q d21_54) rfl (l' := #[vR ra, vR rk, vI oc, vR rs, vR rb, vI 4, vI 1, vU, vU]) rfl ?_
  refine XS.iload X108.here hx rfl (q d21_56) rfl ?_
  refine XS.iconst X108.here hx rfl (q d21_58) ?_
  refine XS.isub X108.here hx rfl (q d21_59) rfl ?_
  refine XS.istore X108.here hx rfl (q d21_60) rfl (l' := #[vR ra, vR rk, vI oc, vR rs, vR rb, vI 4, vI 1, vI 3, vU]) rfl ?_
  refine XS.iload X108.here hx rfl (q d21_62) rfl ?_
  refine XS.ifNo X108.here hx rfl (q d21_64) rfl ((if0 _ _).trans (flt (by decide : ¬ ((3 : Int32) < (0 : Int32)))).1) ?_
  refine XS.iconst X108.here hx rfl (q d21_67) ?_
  refine XS.istore X108.here hx rfl (q d21_68) rfl (l' := #[vR ra, vR rk, vI oc, vR rs, vR rb, vI 4, vI 1, vI 3, vI 0]) rfl ?_
  refine st127 _ ?_
  refine XS.iload X127.here hx rfl (q d21_100) rfl ?_
  refine XS.aloadN X127.here hx rfl (q d21_102) rfl rfl ?_
  refine st145.trans ?_
  refine XS.imul X145.here hx rfl (q d21_106) rfl ?_
  refine XS.istore X145.here hx rfl (q d21_107) rfl (l' := #[vR ra, vR rk, vI oc, vR rs, vR rb, vI 4, vI ((1 : Int32) * cc), vI 3, vI vo127]) rfl ?_
  refine XS.iinc X145.here hx rfl (q d21_109) rfl (l' := #[vR ra, vR rk, vI oc, vR rs, vR rb, vI 4, vI ((1 : Int32) * cc), vI 2, vI vo127]) rfl ?_
  refine XS.goto X145.here hx rfl (pc0 := 112) (pc' := 62) rfl (q d21_112) (by decide) (by decide) ?_
  refine XS.iload X145.here hx rfl (q d21_62) rfl ?_
  refine XS.ifNo X145.here hx rfl (q d21_64) rfl ((if0 _ _).trans (flt (by decide : ¬ ((2 : Int32) < (0 : Int32)))).1) ?_
  refine XS.iconst X145.here hx rfl (q d21_67) ?_
  refine XS.istore X145.here hx rfl (q d21_68) rfl (l' := #[vR ra, vR rk, vI oc, vR rs, vR rb, vI 4, vI ((1 : Int32) * cc), vI 2, vI 0]) rfl ?_
  refine st146 _ ?_
  refine XS.iload X146.here hx rfl (q d21_100) rfl ?_
  refine XS.aloadN X146.here hx rfl (q d21_102) rfl rfl ?_
  refine st164.trans ?_
  refine XS.imul X164.here hx rfl (q d21_106) rfl ?_
  refine XS.istore X164.here hx rfl (q d21_107) rfl (l' := #[vR ra, vR rk, vI oc, vR rs, vR rb, vI 4, vI (((1 : Int32) * cc) * cc), vI 2, vI vo146]) rfl ?_
  refine XS.iinc X164.here hx rfl (q d21_109) rfl (l' := #[vR ra, vR rk, vI oc, vR rs, vR rb, vI 4, vI (((1 : Int32) * cc) * cc), vI 1, vI vo146]) rfl ?_
  refine XS.goto X164.here hx rfl (pc0 := 112) (pc' := 62) rfl (q d21_112) (by decide) (by decide) ?_
  refine XS.iload X164.here hx rfl (q d21_62) rfl ?_
  refine XS.ifNo X164.here hx rfl (q d21_64) rfl ((if0 _ _).trans (flt (by decide : ¬ ((1 : Int32) < (0 : Int32)))).1) ?_
  refine XS.iconst X164.here hx rfl (q d21_67) ?_
  refine XS.istore X164.here hx rfl (q d21_68) rfl (l' := #[vR ra, vR rk, vI oc, vR rs, vR rb, vI 4, vI (((1 : Int32) * cc) * cc), vI 1, vI 0]) rfl ?_
  refine st165 _ ?_
  refine XS.iload X165.here hx rfl (q d21_100) rfl ?_
  refine XS.aloadN X165.here hx rfl (q d21_102) rfl rfl ?_
  refine st183.trans ?_
  refine XS.imul X183.here hx rfl (q d21_106) rfl ?_
  refine XS.istore X183.here hx rfl (q d21_107) rfl (l' := #[vR ra, vR rk, vI oc, vR rs, vR rb, vI 4, vI ((((1 : Int32) * cc) * cc) * cc), vI 1, vI vo165]) rfl ?_
  refine XS.iinc X183.here hx rfl (q d21_109) rfl (l' := #[vR ra, vR rk, vI oc, vR rs, vR rb, vI 4, vI ((((1 : Int32) * cc) * cc) * cc), vI 0, vI vo165]) rfl ?_
  refine XS.goto X183.here hx rfl (pc0 := 112) (pc' := 62) rfl (q d21_112) (by decide) (by decide) ?_
  refine XS.iload X183.here hx rfl (q d21_62) rfl ?_
  refine XS.ifNo X183.here hx rfl (q d21_64) rfl ((if0 _ _).trans (flt (by decide : ¬ ((0 : Int32) < (0 : Int32)))).1) ?_
  refine XS.iconst X183.here hx rfl (q d21_67) ?_
  refine XS.istore X183.here hx rfl (q d21_68) rfl (l' := #[vR ra, vR rk, vI oc, vR rs, vR rb, vI 4, vI ((((1 : Int32) * cc) * cc) * cc), vI 0, vI 0]) rfl ?_
  refine st184 _ ?_
  refine XS.iload X184.here hx rfl (q d21_100) rfl ?_
  refine XS.aloadN X184.here hx rfl (q d21_102) rfl rfl ?_
  refine st202.trans ?_
  refine XS.imul X202.here hx rfl (q d21_106) rfl ?_
  refine XS.istore X202.here hx rfl (q d21_107) rfl (l' := #[vR ra, vR rk, vI oc, vR rs, vR rb, vI 4, vI (((((1 : Int32) * cc) * cc) * cc) * cc), vI 0, vI vo184]) rfl ?_
  refine XS.iinc X202.here hx rfl (q d21_109) rfl (l' := #[vR ra, vR rk, vI oc, vR rs, vR rb, vI 4, vI (((((1 : Int32) * cc) * cc) * cc) * cc), vI (-1 : Int32), vI vo184]) rfl ?_
  refine XS.goto X202.here hx rfl (pc0 := 112) (pc' := 62) rfl (q d21_112) (by decide) (by decide) ?_
  refine XS.iload X202.here hx rfl (q d21_62) rfl ?_
  refine XS.ifYes X202.here hx rfl (pc0 := 64) (pc' := 115) rfl (q d21_64) rfl ((if0 _ _).trans (tlt (by decide : ((-1 : Int32) < (0 : Int32)))).1) (by decide) (by decide) ?_
  refine XS.aloadN X202.here hx rfl (q d21_115) rfl rfl ?_
  refine XS.aload X202.here hx rfl (q d21_116) rfl rfl ?_
  refine XS.ifnonnullYes X202.here hx rfl (pc0 := 118) (pc' := 125) rfl (q d21_118) rfl (by decide) (by decide) ?_
  refine XS.aload X202.here hx rfl (q d21_125) rfl rfl ?_
  refine st203.trans ?_
  refine XS.aloadN X203.here hx rfl (q d21_130) rfl rfl ?_
  refine st204.trans ?_
  refine XS.idiv X204.here hx rfl (q d21_134) rfl (hnz) ?_
  refine st205 _ ?_
  exact X205.returnOut hx Bd.returns (q d21_138) hr
 ·show Q21 Z ra rk oc rs rb cc bb fk h0 n0 _ T205.heap _
  rw [e205]
  exact ⟨rfl, N205, K205⟩
theorem own_cp {p : Program} {l : Launch} {e : Env} {R : Room} {s : State} {m : MethodId} {args : Array Value} {below : List Frame} {meth : Method} {c : Code} {T : State} {locs : List Loc} {cells slots : Nat} {Z : State} {h : Heap}
  (X : Stand p l e R s m args below meth c T locs cells slots) (hx : p.tables.exec = Jvm.exec) (hZ : Z.Warmed39 s.vm) {a0 : Array Value} {own : String} {index : Nat} (hown : s.vm.findClass own = some m.cls)
  (w1 : (Cond.methodLink own index Jvm.Stand.acN).before a0 Z = true) (w2 : (Cond.native Jvm.Stand.acN).before a0 Z = true) (w3 : (Cond.static Jvm.Stand.acN).before a0 Z = true) (w4 : (Cond.initialized "java/lang/System").before a0 Z = true) (eT : T.heap = h)
  {a : Addr} {n : Nat} {f : Nat → Int32} (A : AI Z h a .int n f) (hn : n ≤ 1024) {sp dp nn : Int32} {spn dpn cnt : Nat} (h1 : sp.toInt = (spn : Int)) (h2 : dp.toInt = (dpn : Int)) (h3 : nn.toInt = (cnt : Int)) (h4 : spn + cnt ≤ n) (h5 : dpn + cnt ≤ n) {n0 : Nat} (N : Fr n0 locs) (ge : n0 ≤ a)
  {g : JFrame} (hg : g.method = m) (hsize : g.locals.size = c.maxLocals) {rest : List Value} (hs : g.stack = .int nn :: .int dp :: .ref a :: .int sp :: .ref a :: rest) (hd : decode c.code g.pc = .ok (.invokestatic index, 3))
  (hf : 1 ≤ R.frames) {W : Nat} (hW : 2 * g.monitorRoom + (rest.map fun v => v.category).sum ≤ W) (hlo : W + (nativeFrameWords "java/lang/System" "arraycopy" 5 + 11) ≤ R.locals) :
  ∃ (T' : State) (h' : Heap) (L : List Loc) (f' : Nat → Int32), Stand p l e R s m args below meth c T' L cells slots ∧ T'.heap = h' ∧ Fr n0 L ∧ Keep h h' [a] ∧ AI Z h' a .int n f' ∧ (∀ P : Int32 → Prop, (∀ j, j < n → P (f j)) → ∀ j, j < n → P (f' j)) ∧
   ∀ target, Steps p.tables e below (T'.setTop { g with pc := g.pc + 3, stack := rest }) target → Steps p.tables e below (T.setTop g) target := by
 obtain ⟨cl, A', S, H⟩ := A
 have hz := own_nlen hn
 have vg : ∀ k, k < n → ((List.range n).map fun j => Value.int (f j)).getD k (.int 0) = .int (f k) := fun k hk => by
  rw [List.getD_eq_getElem?_getD, List.getElem?_map, List.getElem?_range hk]; rfl
 have V : Arv Z h a cl.cls .int n.toInt32 ((List.range n).map fun j => Value.int (f j)) (.int 0) := ⟨cl, A', rfl, by rw [S]; exact (own_tn hz).symm, own_nneg hz, fun k hk => by rw [S] at hk; rw [H k hk, vg k hk], fun i hi => by rw [S] at hi; rw [vg i hi]; rfl⟩
 have t1 := own_tn h1
 have t2 := own_tn h2
 have t3 := own_tn h3
 obtain ⟨T', h', L, X', e', N', K', V', st⟩ := cpA X hx hZ hown w1 w2 w3 w4 eT V V (Or.inl ⟨rfl, rfl⟩) (own_nneg h1) (own_nneg h2) (own_nneg h3) (by rw [t1, t3, own_tn hz]; exact h4) (by rw [t2, t3, own_tn hz]; exact h5) rfl (by rw [t2, t3, List.length_map, List.length_range]; exact h5) N ge hg hsize hs hd hf hW hlo
 rw [t1, t2, t3] at V'
 generalize hws : List.take dpn ((List.range n).map fun j => Value.int (f j)) ++ ((List.range cnt).map fun i => ((List.range n).map fun j => Value.int (f j)).getD (spn + i) (.int 0)) ++ List.drop (dpn + cnt) ((List.range n).map fun j => Value.int (f j)) = ws at V'
 have hl : ws.length = n := by
  rw [← hws]
  simp only [List.length_append, List.length_take, List.length_drop, List.length_map, List.length_range]
  omega
 have hm : ∀ v ∈ ws, ∃ i, i < n ∧ v = Value.int (f i) := by
  intro v hv
  have base : v ∈ ((List.range n).map fun j => Value.int (f j)) → ∃ i, i < n ∧ v = Value.int (f i) := fun q => by
   obtain ⟨i, q1, q2⟩ := List.mem_map.mp q
   exact ⟨i, List.mem_range.mp q1, q2.symm⟩
  rw [← hws] at hv
  rcases List.mem_append.mp hv with q | q
  ·rcases List.mem_append.mp q with q | q
   ·exact base (List.mem_of_mem_take q)
   ·obtain ⟨i, q1, q2⟩ := List.mem_map.mp q
    have := List.mem_range.mp q1
    exact ⟨spn + i, by omega, by rw [← q2, vg _ (by omega)]⟩
  ·exact base (List.mem_of_mem_drop q)
 have F' := own_arv V' hz
 have key : ∀ j, j < n → ∃ i, i < n ∧ ws.getD j (.int 0) = Value.int (f i) := fun j hj => by
  have hj' : j < ws.length := by omega
  rw [List.getD_eq_getElem?_getD, List.getElem?_eq_getElem hj']
  exact hm _ (List.getElem_mem hj')
 refine ⟨T', h', L, fun j => (match ws.getD j (.int 0) with | .int x => x | _ => 0), X', e', N', K', AF.re F' fun j hj => ?_, fun P hP j hj => ?_, st⟩
 ·obtain ⟨i, -, q⟩ := key j hj
  show ws.getD j (.int 0) = Value.int (match ws.getD j (.int 0) with | .int x => x | _ => 0)
  rw [q]
 ·obtain ⟨i, hi, q⟩ := key j hj
  show P (match ws.getD j (.int 0) with | .int x => x | _ => 0)
  rw [q]
  exact hP i hi
theorem own_spm {x cc : Int32} {k cn mn : Nat} (hx : x.toInt = (k : Int)) (hcc : cc.toInt = (cn : Int)) (hk : k ≤ mn) (hcap : (mn + 1) * cn ≤ 1024) : (x * cc).toInt = ((k * cn : Nat) : Int) ∧ k * cn + cn ≤ (mn + 1) * cn := by
 have h1 : (k + 1) * cn ≤ (mn + 1) * cn := Nat.mul_le_mul_right _ (by omega)
 rw [Nat.succ_mul] at h1
 have := own_imul hx hcc (by rw [← Int.natCast_mul]; omega) (by rw [← Int.natCast_mul]; omega)
 exact ⟨by rw [this, Int.natCast_mul], h1⟩
theorem own_okt {b nn cn : Nat} {oc v : Int32} (h : own_okn b v) (q : b + cn ≤ nn) : own_okh nn cn oc v := by
 obtain ⟨k, h1, h2⟩ := h
 exact Or.inr ⟨k, h1, by omega⟩
theorem ef_5k1 (m : MethodId) (rp : Addr) (rl : Addr) : entryFrame m #[(.ref rp), (.ref rl)] 13 = mkF m 0 #[vR rp, vR rl, .unset, .unset, .unset, .unset, .unset, .unset, .unset, .unset, .unset, .unset, .unset] [] := by first | (simp [entryFrame, mkF, argsToLocals, Value.category]; done) | rfl
theorem d5_0 : D_17 0 = .ok (.aload_n 0, 1) := by decide +kernel
theorem d5_1 : D_17 1 = .ok (.arraylength, 1) := by decide +kernel
theorem d5_2 : D_17 2 = .ok (.istore_n 2, 1) := by decide +kernel
theorem d5_3 : D_17 3 = .ok (.aload_n 0, 1) := by decide +kernel
theorem pd_8 : parseMethodDescriptor "([B)[I" = some ⟨[(.array .byte)], some (.array .int)⟩ := by decide +kernel
theorem d5_4 : D_17 4 = .ok (.invokestatic 41, 3) := by decide +kernel
theorem d5_7 : D_17 7 = .ok (.astore_n 3, 1) := by decide +kernel
theorem d5_8 : D_17 8 = .ok (.aload_n 0, 1) := by decide +kernel
theorem d5_9 : D_17 9 = .ok (.invokestatic 44, 3) := by decide +kernel
theorem d5_12 : D_17 12 = .ok (.istore 4, 2) := by decide +kernel
theorem d5_14 : D_17 14 = .ok (.iload_n 2, 1) := by decide +kernel
theorem d5_15 : D_17 15 = .ok (.iload 4, 2) := by decide +kernel
theorem d5_17 : D_17 17 = .ok (.invokestatic 48, 3) := by decide +kernel
theorem d5_20 : D_17 20 = .ok (.istore 5, 2) := by decide +kernel
theorem d5_22 : D_17 22 = .ok (.iload 5, 2) := by decide +kernel
theorem d5_24 : D_17 24 = .ok (.ifCond .ne 5, 3) := by decide +kernel
theorem d5_27 : D_17 27 = .ok (.aconst_null, 1) := by decide +kernel
theorem d5_28 : D_17 28 = .ok (.areturn, 1) := by decide +kernel
def Q5k1 (Z : State) (rp : Addr) (rl : Addr) (fp : Nat → Int32) (fl : Nat → Int32) (h0 : Heap) (n0 : Nat) (v : Option Value) (h : Heap) (L : List Loc) : Prop := v = some .null ∧ Fr n0 L ∧ Keep h0 h []
set_option maxRecDepth 65536 in
set_option maxHeartbeats 40000000 in
theorem rm5k1 (l : Launch) (Z : State) (a0 : Array Value) (hw : ∀ d ∈ tables_1, d.before a0 Z = true) (ws : List Jvm.Cond) (rp : Addr) (rl : Addr) (fp : Nat → Int32) (fl : Nat → Int32) (h0 : Heap) (n0 : Nat) (Z0 : n0 ≤ h0.size) (A_rp : AI Z h0 rp .byte 1 fp) (A_rl : AI Z h0 rl .int 1 fl) :
  MetFree l mN18 (head1 (Jvm.Cond.code mN18 prog_23_method_2_code 13 (some (.object cS0)) :: ws) ({ frames := 2, cells := 2, slots := 260, locals := 31 } : Room)) (fun a U => a = #[(.ref rp), (.ref rl)] ∧ Z.Warmed39 U.vm ∧ U.heap = h0) (fun _ _ _ _ _ => True) (fun _ U o U' => ∃ v L, o = .returned v ∧ Q5k1 Z rp rl fp fl h0 n0 v U'.heap L ∧ FrameEnd U o U' L ({ frames := 2, cells := 2, slots := 260, locals := 31 } : Room).cells ({ frames := 2, cells := 2, slots := 260, locals := 31 } : Room).slots) := by
 refine MetFree.of_bodySF (plainFor_of_name pn_skipstitch_search_Automaton) hisR ?_
 intro p e s m args below meth c s₁ Bd hml0 hP hK
 obtain ⟨rfl, hZ, hh⟩ := hP
 have hx := Bd.exec
 have hby := Bd.bytes
 have q {i : Nat} {r : _} (h : decode _ i = r) := hb hby h
 have hml : c.maxLocals = 13 := hml0
 have hown : s.vm.findClass cS0 = some m.cls := findClass_of_methodNamed Bd.named
 have hnm := (name_of_methodNamed Bd.named Bd.method).1
 have X0 : Stand p l e ({ frames := 2, cells := 2, slots := 260, locals := 31 } : Room) s m #[(.ref rp), (.ref rl)] below meth c s₁ [] 0 0 := Stand.of_body Bd
 have e0 : s₁.heap = h0 := by rw [← hh, Bd.state]; rfl
 have N0 := Fr.nil n0
 have K0 : Keep h0 h0 [] := Keep.refl h0 _
 have pre0 : oP p e below (s₁.setTop (mkF m 0 #[vR rp, vR rl, vU, vU, vU, vU, vU, vU, vU, vU, vU, vU, vU] [])) (s₁.setTop (entryFrame m #[(.ref rp), (.ref rl)] 13)) := fun t k => castTop (ef_5k1 m rp rl) k
 obtain ⟨cl1, Arcl1, Szcl1⟩ := AF.len A_rp
 obtain ⟨_, _, ⟨T2, L2, k2, n2⟩, -, X2, ⟨Lc2, hQ2, l2, y2, z2⟩, st2⟩ := Jvm.LawKit.callS X0 hx (y := mN3) hown (om hZ hw 34 rfl) (om hZ hw 35 rfl) (om hZ hw 32 rfl) (om hZ hw 36 rfl) (by decide) (backOf (W := 0) (rm6k1 l Z a0 hw [] rp fp h0 n0 Z0 A_rp) hZ (ow hw 36 rfl) (ow hw 32 rfl) (by decide) (by decide)) (g := (mkF m 4 #[vR rp, vR rl, vI 1, vU, vU, vU, vU, vU, vU, vU, vU, vU, vU] [(.ref rp)])) rfl (by rw [hml]; rfl) (argsL := [(.ref rp)]) (rest := []) (lenOf pd_8 rfl) rfl (oz rfl) (q d5_4) (fun _ _ => ⟨rfl, e0, (by decide : 0 + 1 ≤ _), (by decide : 0 + 256 ≤ _)⟩)
 dsimp only [Pt.U, Pt.locs, Pt.cells, Pt.slots] at X2 l2 y2 z2 st2 hQ2
 subst y2 z2
 obtain ⟨b3, gx4, ggb3, szb3, rfl, N2q, K2c, f5⟩ := hQ2
 have N2 := oF l2 N0 N2q
 have f8 := A_rp.keep K2c nin0
 have Z2 := Nat.le_trans Z0 K2c.1
 have K2 := K0.trans K2c all0
 obtain ⟨_, _, ⟨T10, L10, k10, n10⟩, -, X10, ⟨Lc10, hQ10, l10, y10, z10⟩, st10⟩ := Jvm.LawKit.callS X2 hx (y := mN1) hown (om hZ hw 37 rfl) (om hZ hw 38 rfl) (om hZ hw 32 rfl) (om hZ hw 39 rfl) (by decide) (backOf (W := 0) (rm7k1 l Z a0 hw [] rp fp T2.heap n0 Z2 f8) hZ (ow hw 39 rfl) (ow hw 32 rfl) (by decide) (by decide)) (g := (mkF m 9 #[vR rp, vR rl, vI 1, vR b3, vU, vU, vU, vU, vU, vU, vU, vU, vU] [(.ref rp)])) rfl (by rw [hml]; rfl) (argsL := [(.ref rp)]) (rest := []) (lenOf pd_1 rfl) rfl (oz rfl) (q d5_9) (fun _ _ => ⟨rfl, rfl, (by decide : 1 + 1 ≤ _), (by decide : 256 + 4 ≤ _)⟩)
 dsimp only [Pt.U, Pt.locs, Pt.cells, Pt.slots] at X10 l10 y10 z10 st10 hQ10
 subst y10 z10
 obtain ⟨rfl, N10q, K10c⟩ := hQ10
 have N10 := oF l10 N2 N10q
 have Z10 := Nat.le_trans Z2 K10c.1
 have K10 := K2.trans K10c all0
 obtain ⟨_, _, ⟨T14, L14, k14, n14⟩, -, X14, ⟨Lc14, hQ14, l14, y14, z14⟩, st14⟩ := Jvm.LawKit.callS X10 hx (y := mN2) hown (om hZ hw 48 rfl) (om hZ hw 49 rfl) (om hZ hw 32 rfl) (om hZ hw 50 rfl) (by decide) (backOf (W := 0) (rm9m1 l Z a0 hw [] (r7k1_v fp) T10.heap n0 Z10 ) hZ (ow hw 50 rfl) (ow hw 32 rfl) (by decide) (by decide)) (g := (mkF m 17 #[vR rp, vR rl, vI 1, vR b3, vI (r7k1_v fp), vU, vU, vU, vU, vU, vU, vU, vU] [(.int (r7k1_v fp)), (.int 1)])) rfl (by rw [hml]; rfl) (argsL := [(.int 1), (.int (r7k1_v fp))]) (rest := []) (lenOf pd_2 rfl) rfl (oz rfl) (q d5_17) (fun _ _ => ⟨rfl, rfl, (by decide : 2 + 0 ≤ _), (by decide : 260 + 0 ≤ _)⟩)
 dsimp only [Pt.U, Pt.locs, Pt.cells, Pt.slots] at X14 l14 y14 z14 st14 hQ14
 subst y14 z14
 obtain ⟨rfl, N14q, e14⟩ := hQ14
 have N14 := oF l14 N10 N14q
 obtain ⟨fs, hr, hrun, hended, hW, hsame⟩ := X14.leave (v := some .null) (oR Bd.returns) (hlocks := Bd.notSynchronized)
 refine ⟨_, _, pre0 _ ?_, hrun, hended, _, _, rfl, ?_, ⟨_, rfl⟩, hW, hsame.mono (by decide) (by decide)⟩
 ·show Steps p.tables e below (s₁.setTop (mkF m 0 #[vR rp, vR rl, vU, vU, vU, vU, vU, vU, vU, vU, vU, vU, vU] [])) _
  refine XS.aloadN X0.here hx rfl (q d5_0) rfl rfl ?_
  refine X0.arraylength hx (by rw [e0]; exact Arcl1.1) (State.isArrayOf_alike hZ.alike Arcl1.2.1) (g := (mkF m 1 #[vR rp, vR rl, vU, vU, vU, vU, vU, vU, vU, vU, vU, vU, vU] [(.ref rp)])) rfl rfl (q d5_1) _ ?_
  rw [Szcl1]
  refine XS.istoreN X0.here hx rfl (q d5_2) rfl (l' := #[vR rp, vR rl, vI 1, vU, vU, vU, vU, vU, vU, vU, vU, vU, vU]) rfl ?_
  refine XS.aloadN X0.here hx rfl (q d5_3) rfl rfl ?_
  refine st2 _ ?_
  refine XS.astoreN X2.here hx rfl (q d5_7) rfl rfl (l' := #[vR rp, vR rl, vI 1, vR b3, vU, vU, vU, vU, vU, vU, vU, vU, vU]) rfl ?_
  refine XS.aloadN X2.here hx rfl (q d5_8) rfl rfl ?_
  refine st10 _ ?_
  refine XS.istore X10.here hx rfl (q d5_12) rfl (l' := #[vR rp, vR rl, vI 1, vR b3, vI (r7k1_v fp), vU, vU, vU, vU, vU, vU, vU, vU]) rfl ?_
  refine XS.iloadN X10.here hx rfl (q d5_14) rfl ?_
  refine XS.iload X10.here hx rfl (q d5_15) rfl ?_
  refine st14 _ ?_
  refine XS.istore X14.here hx rfl (q d5_20) rfl (l' := #[vR rp, vR rl, vI 1, vR b3, vI (r7k1_v fp), vI 0, vU, vU, vU, vU, vU, vU, vU]) rfl ?_
  refine XS.iload X14.here hx rfl (q d5_22) rfl ?_
  refine XS.ifNo X14.here hx rfl (q d5_24) rfl ((if0 _ _).trans (teq (by decide : ((0 : Int32) = (0 : Int32)))).2) ?_
  refine XS.aconstNull X14.here hx rfl (q d5_27) ?_
  exact retOut X14 hx Bd.returns rfl (Or.inr (Or.inr (Or.inr (Or.inr ⟨rfl, rfl, rfl⟩)))) (q d5_28) hr
 ·show Q5k1 Z rp rl fp fl h0 n0 _ T14.heap _
  rw [e14]
  exact ⟨rfl, N14, K10⟩
theorem ef_5k2 (m : MethodId) (rp : Addr) (rl : Addr) : entryFrame m #[(.ref rp), (.ref rl)] 13 = mkF m 0 #[vR rp, vR rl, .unset, .unset, .unset, .unset, .unset, .unset, .unset, .unset, .unset, .unset, .unset] [] := by first | (simp [entryFrame, mkF, argsToLocals, Value.category]; done) | rfl
theorem d5_29 : D_17 29 = .ok (.iload_n 2, 1) := by decide +kernel
theorem d5_30 : D_17 30 = .ok (.iconst 1, 1) := by decide +kernel
theorem d5_31 : D_17 31 = .ok (.iadd, 1) := by decide +kernel
theorem d5_32 : D_17 32 = .ok (.iload 4, 2) := by decide +kernel
theorem d5_34 : D_17 34 = .ok (.imul, 1) := by decide +kernel
theorem d5_35 : D_17 35 = .ok (.newarray .int, 2) := by decide +kernel
theorem d5_37 : D_17 37 = .ok (.astore 6, 2) := by decide +kernel
theorem d5_39 : D_17 39 = .ok (.aload 6, 2) := by decide +kernel
theorem d5_41 : D_17 41 = .ok (.arraylength, 1) := by decide +kernel
theorem d5_42 : D_17 42 = .ok (.newarray .int, 2) := by decide +kernel
theorem d5_44 : D_17 44 = .ok (.astore 7, 2) := by decide +kernel
theorem d5_46 : D_17 46 = .ok (.iconst 0, 1) := by decide +kernel
theorem d5_47 : D_17 47 = .ok (.istore 8, 2) := by decide +kernel
theorem d5_211 : D_17 211 = .ok (.iload_n 2, 1) := by decide +kernel
theorem d5_212 : D_17 212 = .ok (.iload 4, 2) := by decide +kernel
theorem d5_214 : D_17 214 = .ok (.imul, 1) := by decide +kernel
theorem d5_215 : D_17 215 = .ok (.istore 8, 2) := by decide +kernel
theorem d5_217 : D_17 217 = .ok (.aload 6, 2) := by decide +kernel
theorem d5_219 : D_17 219 = .ok (.aload_n 1, 1) := by decide +kernel
theorem d5_220 : D_17 220 = .ok (.iload_n 2, 1) := by decide +kernel
theorem d5_221 : D_17 221 = .ok (.iconst 1, 1) := by decide +kernel
theorem d5_222 : D_17 222 = .ok (.isub, 1) := by decide +kernel
theorem d5_223 : D_17 223 = .ok (.iaload, 1) := by decide +kernel
theorem d5_224 : D_17 224 = .ok (.iload 4, 2) := by decide +kernel
theorem d5_226 : D_17 226 = .ok (.imul, 1) := by decide +kernel
theorem d5_227 : D_17 227 = .ok (.aload 6, 2) := by decide +kernel
theorem d5_229 : D_17 229 = .ok (.iload 8, 2) := by decide +kernel
theorem d5_231 : D_17 231 = .ok (.iload 4, 2) := by decide +kernel
theorem d5_233 : D_17 233 = .ok (.invokestatic 51, 3) := by decide +kernel
theorem d5_236 : D_17 236 = .ok (.aload 7, 2) := by decide +kernel
theorem d5_238 : D_17 238 = .ok (.aload_n 1, 1) := by decide +kernel
theorem d5_239 : D_17 239 = .ok (.iload_n 2, 1) := by decide +kernel
theorem d5_240 : D_17 240 = .ok (.iconst 1, 1) := by decide +kernel
theorem d5_241 : D_17 241 = .ok (.isub, 1) := by decide +kernel
theorem d5_242 : D_17 242 = .ok (.iaload, 1) := by decide +kernel
theorem d5_243 : D_17 243 = .ok (.iload 4, 2) := by decide +kernel
theorem d5_245 : D_17 245 = .ok (.imul, 1) := by decide +kernel
theorem d5_246 : D_17 246 = .ok (.aload 7, 2) := by decide +kernel
theorem d5_248 : D_17 248 = .ok (.iload 8, 2) := by decide +kernel
theorem d5_250 : D_17 250 = .ok (.iload 4, 2) := by decide +kernel
theorem d5_252 : D_17 252 = .ok (.invokestatic 51, 3) := by decide +kernel
theorem d5_255 : D_17 255 = .ok (.new 25, 3) := by decide +kernel
theorem d5_258 : D_17 258 = .ok (.dup, 1) := by decide +kernel
theorem d5_259 : D_17 259 = .ok (.iconst 1, 1) := by decide +kernel
theorem d5_260 : D_17 260 = .ok (.iload 4, 2) := by decide +kernel
theorem d5_262 : D_17 262 = .ok (.aload 6, 2) := by decide +kernel
theorem d5_264 : D_17 264 = .ok (.aload 7, 2) := by decide +kernel
theorem d5_266 : D_17 266 = .ok (.invokespecial 57, 3) := by decide +kernel
theorem d5_269 : D_17 269 = .ok (.astore 9, 2) := by decide +kernel
theorem d5_271 : D_17 271 = .ok (.aconst_null, 1) := by decide +kernel
theorem d5_272 : D_17 272 = .ok (.astore 10, 2) := by decide +kernel
theorem d5_274 : D_17 274 = .ok (.aload 9, 2) := by decide +kernel
theorem d5_276 : D_17 276 = .ok (.astore 11, 2) := by decide +kernel
theorem d5_278 : D_17 278 = .ok (.aload 11, 2) := by decide +kernel
theorem d5_280 : D_17 280 = .ok (.invokevirtual 24, 3) := by decide +kernel
theorem d5_283 : D_17 283 = .ok (.iload 5, 2) := by decide +kernel
theorem d5_285 : D_17 285 = .ok (.if_icmp .ge 30, 3) := by decide +kernel
theorem d5_288 : D_17 288 = .ok (.aload 11, 2) := by decide +kernel
theorem d5_290 : D_17 290 = .ok (.aload 11, 2) := by decide +kernel
theorem d5_292 : D_17 292 = .ok (.aload 9, 2) := by decide +kernel
theorem d5_294 : D_17 294 = .ok (.if_acmp .ne 8, 3) := by decide +kernel
theorem d5_297 : D_17 297 = .ok (.iload 8, 2) := by decide +kernel
theorem d5_299 : D_17 299 = .ok (.goto 4, 3) := by decide +kernel
theorem pd_9 : parseMethodDescriptor "(Lskipstitch/search/Automaton$Steps;I)Lskipstitch/search/Automaton$Steps;" = some ⟨[(.object cS3), .int], some (.object cS3)⟩ := by decide +kernel
theorem d5_303 : D_17 303 = .ok (.invokestatic 60, 3) := by decide +kernel
theorem d5_306 : D_17 306 = .ok (.astore 10, 2) := by decide +kernel
theorem d5_308 : D_17 308 = .ok (.aload 10, 2) := by decide +kernel
theorem d5_310 : D_17 310 = .ok (.astore 11, 2) := by decide +kernel
theorem d5_312 : D_17 312 = .ok (.goto (-34), 3) := by decide +kernel
theorem d5_302 : D_17 302 = .ok (.iconst (-1), 1) := by decide +kernel
theorem d5_315 : D_17 315 = .ok (.new 8, 3) := by decide +kernel
theorem d5_318 : D_17 318 = .ok (.dup, 1) := by decide +kernel
theorem d5_319 : D_17 319 = .ok (.aload_n 3, 1) := by decide +kernel
theorem d5_320 : D_17 320 = .ok (.iload 8, 2) := by decide +kernel
theorem d5_322 : D_17 322 = .ok (.aload 9, 2) := by decide +kernel
theorem d5_324 : D_17 324 = .ok (.aload 10, 2) := by decide +kernel
theorem pd_10 : parseMethodDescriptor "([IILskipstitch/search/Automaton$Steps;Lskipstitch/search/Automaton$Steps;)V" = some ⟨[(.array .int), .int, (.object cS3), (.object cS3)], none⟩ := by decide +kernel
theorem d5_326 : D_17 326 = .ok (.invokespecial 64, 3) := by decide +kernel
theorem d5_329 : D_17 329 = .ok (.areturn, 1) := by decide +kernel
def Q5k2 (Z : State) (rp : Addr) (rl : Addr) (fp : Nat → Int32) (fl : Nat → Int32) (h0 : Heap) (n0 : Nat) (v : Option Value) (h : Heap) (L : List Loc) : Prop := ∃ fr0 : Addr, n0 ≤ fr0 ∧ h0.size ≤ fr0 ∧ v = some (.ref fr0) ∧ Fr n0 L ∧ Keep h0 h []
set_option maxRecDepth 65536 in
set_option maxHeartbeats 40000000 in
theorem rm5k2 (l : Launch) (Z : State) (a0 : Array Value) (hw : ∀ d ∈ tables_1, d.before a0 Z = true) (ws : List Jvm.Cond) (rp : Addr) (rl : Addr) (fp : Nat → Int32) (fl : Nat → Int32) (h0 : Heap) (n0 : Nat) (Z0 : n0 ≤ h0.size) (A_rp : AI Z h0 rp .byte 2 fp) (A_rl : AI Z h0 rl .int 2 fl) (hfl : ∀ j, j < 2 → ∃ k : Nat, (fl j).toInt = (k : Int) ∧ k ≤ j) :
  MetFree l mN18 (head1 (Jvm.Cond.code mN18 prog_23_method_2_code 13 (some (.object cS0)) :: ws) ({ frames := 4, cells := 17, slots := 5426, locals := 64 } : Room)) (fun a U => a = #[(.ref rp), (.ref rl)] ∧ Z.Warmed39 U.vm ∧ U.heap = h0) (fun _ _ _ _ _ => True) (fun _ U o U' => ∃ v L, o = .returned v ∧ Q5k2 Z rp rl fp fl h0 n0 v U'.heap L ∧ FrameEnd U o U' L ({ frames := 4, cells := 17, slots := 5426, locals := 64 } : Room).cells ({ frames := 4, cells := 17, slots := 5426, locals := 64 } : Room).slots) := by
 refine MetFree.of_bodySF (plainFor_of_name pn_skipstitch_search_Automaton) hisR ?_
 intro p e s m args below meth c s₁ Bd hml0 hP hK
 obtain ⟨rfl, hZ, hh⟩ := hP
 have hx := Bd.exec
 have hby := Bd.bytes
 have q {i : Nat} {r : _} (h : decode _ i = r) := hb hby h
 have hml : c.maxLocals = 13 := hml0
 have hown : s.vm.findClass cS0 = some m.cls := findClass_of_methodNamed Bd.named
 have hnm := (name_of_methodNamed Bd.named Bd.method).1
 have X0 : Stand p l e ({ frames := 4, cells := 17, slots := 5426, locals := 64 } : Room) s m #[(.ref rp), (.ref rl)] below meth c s₁ [] 0 0 := Stand.of_body Bd
 have e0 : s₁.heap = h0 := by rw [← hh, Bd.state]; rfl
 have N0 := Fr.nil n0
 have K0 : Keep h0 h0 [] := Keep.refl h0 _
 have pre0 : oP p e below (s₁.setTop (mkF m 0 #[vR rp, vR rl, vU, vU, vU, vU, vU, vU, vU, vU, vU, vU, vU] [])) (s₁.setTop (entryFrame m #[(.ref rp), (.ref rl)] 13)) := fun t k => castTop (ef_5k2 m rp rl) k
 obtain ⟨cl1, Arcl1, Szcl1⟩ := AF.len A_rp
 obtain ⟨_, _, ⟨T2, L2, k2, n2⟩, -, X2, ⟨Lc2, hQ2, l2, y2, z2⟩, st2⟩ := Jvm.LawKit.callS X0 hx (y := mN3) hown (om hZ hw 34 rfl) (om hZ hw 35 rfl) (om hZ hw 32 rfl) (om hZ hw 36 rfl) (by decide) (backOf (W := 0) (rm6k2 l Z a0 hw [] rp fp h0 n0 Z0 A_rp) hZ (ow hw 36 rfl) (ow hw 32 rfl) (by decide) (by decide)) (g := (mkF m 4 #[vR rp, vR rl, vI 2, vU, vU, vU, vU, vU, vU, vU, vU, vU, vU] [(.ref rp)])) rfl (by rw [hml]; rfl) (argsL := [(.ref rp)]) (rest := []) (lenOf pd_8 rfl) rfl (oz rfl) (q d5_4) (fun _ _ => ⟨rfl, e0, (by decide : 0 + 1 ≤ _), (by decide : 0 + 256 ≤ _)⟩)
 dsimp only [Pt.U, Pt.locs, Pt.cells, Pt.slots] at X2 l2 y2 z2 st2 hQ2
 subst y2 z2
 obtain ⟨b3, gx4, ggb3, szb3, rfl, N2q, K2c, f5⟩ := hQ2
 have N2 := oF l2 N0 N2q
 have f8 := A_rp.keep K2c nin0
 have f9 := A_rl.keep K2c nin0
 have Z2 := Nat.le_trans Z0 K2c.1
 have K2 := K0.trans K2c all0
 obtain ⟨_, _, ⟨T10, L10, k10, n10⟩, -, X10, ⟨Lc10, hQ10, l10, y10, z10⟩, st10⟩ := Jvm.LawKit.callS X2 hx (y := mN1) hown (om hZ hw 37 rfl) (om hZ hw 38 rfl) (om hZ hw 32 rfl) (om hZ hw 39 rfl) (by decide) (backOf (W := 0) (rm7k2 l Z a0 hw [] rp fp T2.heap n0 Z2 f8) hZ (ow hw 39 rfl) (ow hw 32 rfl) (by decide) (by decide)) (g := (mkF m 9 #[vR rp, vR rl, vI 2, vR b3, vU, vU, vU, vU, vU, vU, vU, vU, vU] [(.ref rp)])) rfl (by rw [hml]; rfl) (argsL := [(.ref rp)]) (rest := []) (lenOf pd_1 rfl) rfl (oz rfl) (q d5_9) (fun _ _ => ⟨rfl, rfl, (by decide : 1 + 1 ≤ _), (by decide : 256 + 4 ≤ _)⟩)
 dsimp only [Pt.U, Pt.locs, Pt.cells, Pt.slots] at X10 l10 y10 z10 st10 hQ10
 subst y10 z10
 obtain ⟨rfl, N10q, K10c⟩ := hQ10
 have N10 := oF l10 N2 N10q
 have f11 := f8.keep K10c nin0
 have f12 := f9.keep K10c nin0
 have f13 := f5.keep K10c nin0
 have Z10 := Nat.le_trans Z2 K10c.1
 have K10 := K2.trans K10c all0
 have pre14 : oP p e below (T10.setTop (mkF m 12 #[vR rp, vR rl, vI 2, vR b3, vU, vU, vU, vU, vU, vU, vU, vU, vU] [(.int (r7k2_v fp))])) (s₁.setTop (entryFrame m #[(.ref rp), (.ref rl)] 13)) := by
  intro t k
  refine pre0 _ ?_
  refine XS.aloadN X0.here hx rfl (q d5_0) rfl rfl ?_
  refine X0.arraylength hx (by rw [e0]; exact Arcl1.1) (State.isArrayOf_alike hZ.alike Arcl1.2.1) (g := (mkF m 1 #[vR rp, vR rl, vU, vU, vU, vU, vU, vU, vU, vU, vU, vU, vU] [(.ref rp)])) rfl rfl (q d5_1) _ ?_
  rw [Szcl1]
  refine XS.istoreN X0.here hx rfl (q d5_2) rfl (l' := #[vR rp, vR rl, vI 2, vU, vU, vU, vU, vU, vU, vU, vU, vU, vU]) rfl ?_
  refine XS.aloadN X0.here hx rfl (q d5_3) rfl rfl ?_
  refine st2 _ ?_
  refine XS.astoreN X2.here hx rfl (q d5_7) rfl rfl (l' := #[vR rp, vR rl, vI 2, vR b3, vU, vU, vU, vU, vU, vU, vU, vU, vU]) rfl ?_
  refine XS.aloadN X2.here hx rfl (q d5_8) rfl rfl ?_
  refine st10 _ ?_
  exact k
 rcases own_cc2 fp with hk15 | hk15 | hk15 | hk15
 ·have pre16 : oP p e below (T10.setTop (mkF m 12 #[vR rp, vR rl, vI 2, vR b3, vU, vU, vU, vU, vU, vU, vU, vU, vU] [(.int 1)])) (s₁.setTop (entryFrame m #[(.ref rp), (.ref rl)] 13)) := by
   intro t k
   refine pre14 _ ?_
   rw [hk15]
   exact k
  obtain ⟨_, _, ⟨T17, L17, k17, n17⟩, -, X17, ⟨Lc17, hQ17, l17, y17, z17⟩, st17⟩ := Jvm.LawKit.callS X10 hx (y := mN2) hown (om hZ hw 48 rfl) (om hZ hw 49 rfl) (om hZ hw 32 rfl) (om hZ hw 50 rfl) (by decide) (backOf (W := 0) (rm9m2c1 l Z a0 hw []  T10.heap n0 Z10 ) hZ (ow hw 50 rfl) (ow hw 32 rfl) (by decide) (by decide)) (g := (mkF m 17 #[vR rp, vR rl, vI 2, vR b3, vI 1, vU, vU, vU, vU, vU, vU, vU, vU] [(.int 1), (.int 2)])) rfl (by rw [hml]; rfl) (argsL := [(.int 2), (.int 1)]) (rest := []) (lenOf pd_2 rfl) rfl (oz rfl) (q d5_17) (fun _ _ => ⟨rfl, rfl, (by decide : 2 + 0 ≤ _), (by decide : 260 + 0 ≤ _)⟩)
  dsimp only [Pt.U, Pt.locs, Pt.cells, Pt.slots] at X17 l17 y17 z17 st17 hQ17
  subst y17 z17
  obtain ⟨rfl, N17q, e17⟩ := hQ17
  have N17 := oF l17 N10 N17q
  obtain ⟨T18, h18, k18, X18, e18, E18, A18, st18⟩ := newP X17 hx hZ (ow hw 2 rfl) e17 (g := (mkF m 35 #[vR rp, vR rl, vI 2, vR b3, vI 1, vI 4, vU, vU, vU, vU, vU, vU, vU] [(.int 3)])) rfl (q d5_35) rfl (by decide) (cap := 3) (by decide) (by decide) (by decide) (by decide)
  obtain ⟨b18, g18⟩ : ∃ z, z = T10.heap.size := ⟨_, rfl⟩
  rw [← g18] at A18 st18
  have ne19 := oN f13.lt g18
  have ne20 := oN f12.lt g18
  have ne21 := oN f11.lt g18
  have gg18 := oL Z10 g18
  have sz18 := oL K10.1 g18
  have f22 := f11.ext E18
  have f23 := f12.ext E18
  have f24 := f13.ext E18
  have Z18 := Nat.le_trans Z10 E18.1
  have K18 := K10.ext E18
  have f25 : AI Z h18 b18 .int 3 zI := AF.new A18 (by decide)
  obtain ⟨cl26, Arcl26, Szcl26⟩ := AF.len f25
  obtain ⟨T27, h27, k27, X27, e27, E27, A27, st27⟩ := newP X18 hx hZ (ow hw 2 rfl) e18 (g := (mkF m 42 #[vR rp, vR rl, vI 2, vR b3, vI 1, vI 4, vR b18, vU, vU, vU, vU, vU, vU] [(.int 3)])) rfl (q d5_42) rfl (by decide) (cap := 3) (by decide) (by decide) (by decide) (by decide)
  obtain ⟨b27, g27⟩ : ∃ z, z = h18.size := ⟨_, rfl⟩
  rw [← g27] at A27 st27
  have ne28 := oN f25.lt g27
  have ne29 := oN f24.lt g27
  have ne30 := oN f23.lt g27
  have ne31 := oN f22.lt g27
  have gg27 := oL Z18 g27
  have sz27 := oL K18.1 g27
  have f32 := f22.ext E27
  have f33 := f23.ext E27
  have f34 := f24.ext E27
  have f35 := f25.ext E27
  have Z27 := Nat.le_trans Z18 E27.1
  have K27 := K18.ext E27
  have f36 : AI Z h27 b27 .int 3 zI := AF.new A27 (by decide)
  obtain ⟨T37, h37, L37, so37, qa37, qb37, qc37, qd37, fn37, fc37, X37, e37, N37, Kl37, An37, ok37, Ac37, st37⟩ := ofO rp rl (2 : Int32) b3 (1 : Int32) (4 : Int32) b18 b27 2 1 3 fp fl gx4 hx hZ hw hby hml hown (by decide) (by decide) (by decide) (by decide) (by decide) hfl gg18 gg27 ne28 ne21 ne31 ne20 ne30 ne19 ne29 2 T27 _ h27 (0 : Int32) 0 none none none none zI zI (by decide) rfl X27 e27 N17 f32 f33 f34 f35 (fun j _ => ⟨0, rfl, Nat.zero_le _⟩) f36
  have Z37 := Nat.le_trans Z27 Kl37.1
  have K37 := K27.trans Kl37 (allS (Or.inr sz18) (allS (Or.inr sz27) all0))
  have f39 := f33.keep Kl37 (ninS ne20 (ninS ne30 nin0))
  have f40 := f34.keep Kl37 (ninS ne19 (ninS ne29 nin0))
  obtain ⟨cl41, Arcl41, hincl41, hatcl41⟩ := AF.at f39 (j := (1 : Int32)) 1 (by decide) (by decide)
  obtain ⟨kl42, hkl42, hkm42⟩ := hfl 1 (by decide)
  obtain ⟨hsp42, hsq42⟩ := own_spm (cc := (1 : Int32)) (cn := 1) hkl42 (by decide) (Nat.le_trans hkm42 (by decide : 1 ≤ 2)) (by decide)
  obtain ⟨T42, h42, L42, fy42, X42, e42, N42, Kl42, Ay42, py42, st42⟩ := own_cp X37 hx hZ hown (ow hw 68 rfl) (ow hw 71 rfl) (ow hw 69 rfl) (ow hw 70 rfl) e37 An37 (by decide) hsp42 (by decide : (2 : Int32).toInt = ((2 : Nat) : Int)) (by decide : (1 : Int32).toInt = ((1 : Nat) : Int)) hsq42 (by decide) N37 gg18 (g := (mkF m 233 #[vR rp, vR rl, vI 2, vR b3, vI 1, vI 4, vR b18, vR b27, vI 2, (own_s qa37), (own_s qb37), (own_s qc37), (own_s qd37)] [(.int 1), (.int 2), (.ref b18), (.int ((fl 1) * (1 : Int32))), (.ref b18)])) rfl (by rw [hml]; rfl) rfl (q d5_233) (by decide) (W := 0) (oz rfl) (by decide)
  have Z42 := Nat.le_trans Z37 Kl42.1
  have K42 := K37.trans Kl42 (allS (Or.inr sz18) all0)
  have f44 := f39.keep Kl42 (ninS ne20 nin0)
  have f45 := f40.keep Kl42 (ninS ne19 nin0)
  have f46 := Ac37.keep Kl42 (ninS (Ne.symm ne28) nin0)
  have okc42 := py42 _ ok37
  obtain ⟨cl47, Arcl47, hincl47, hatcl47⟩ := AF.at f44 (j := (1 : Int32)) 1 (by decide) (by decide)
  obtain ⟨kl48, hkl48, hkm48⟩ := hfl 1 (by decide)
  obtain ⟨hsp48, hsq48⟩ := own_spm (cc := (1 : Int32)) (cn := 1) hkl48 (by decide) (Nat.le_trans hkm48 (by decide : 1 ≤ 2)) (by decide)
  obtain ⟨T48, h48, L48, fy48, X48, e48, N48, Kl48, Ay48, py48, st48⟩ := own_cp X42 hx hZ hown (ow hw 68 rfl) (ow hw 71 rfl) (ow hw 69 rfl) (ow hw 70 rfl) e42 f46 (by decide) hsp48 (by decide : (2 : Int32).toInt = ((2 : Nat) : Int)) (by decide : (1 : Int32).toInt = ((1 : Nat) : Int)) hsq48 (by decide) N42 gg27 (g := (mkF m 252 #[vR rp, vR rl, vI 2, vR b3, vI 1, vI 4, vR b18, vR b27, vI 2, (own_s qa37), (own_s qb37), (own_s qc37), (own_s qd37)] [(.int 1), (.int 2), (.ref b27), (.int ((fl 1) * (1 : Int32))), (.ref b27)])) rfl (by rw [hml]; rfl) rfl (q d5_252) (by decide) (W := 0) (oz rfl) (by decide)
  have Z48 := Nat.le_trans Z42 Kl48.1
  have K48 := K42.trans Kl48 (allS (Or.inr sz27) all0)
  have f51 := f45.keep Kl48 (ninS ne29 nin0)
  have f52 := Ay42.keep Kl48 (ninS ne28 nin0)
  obtain ⟨T53, h53, X53, e53, E53, A53, D53, -, st53⟩ := newO X48 hx hZ hown (ow hw 72 rfl) (ow hw 73 rfl) (ow hw 74 rfl) e48 (g := (mkF m 255 #[vR rp, vR rl, vI 2, vR b3, vI 1, vI 4, vR b18, vR b27, vI 2, (own_s qa37), (own_s qb37), (own_s qc37), (own_s qd37)] [])) rfl (q d5_255) (by decide) (by decide)
  obtain ⟨b53, g53⟩ : ∃ z, z = h48.size := ⟨_, rfl⟩
  rw [← g53] at A53 D53 st53
  have ne54 := oN f52.lt g53
  have ne55 := oN Ay48.lt g53
  have ne56 := oN f51.lt g53
  have gg53 := oL Z48 g53
  have sz53 := oL K48.1 g53
  have f61 := f51.ext E53
  have f62 := f52.ext E53
  have f63 := Ay48.ext E53
  have Z53 := Nat.le_trans Z48 E53.1
  have K53 := K48.ext E53
  have f64 : Fld Z h53 b53 cS3 "width" "I" (.int 0) := D53 (Or.inr (ow hw 85 rfl)) (ty := .int) (by decide)
  have f65 : Fld Z h53 b53 cS3 "columns" "I" (.int 0) := D53 (Or.inr (ow hw 87 rfl)) (ty := .int) (by decide)
  have f66 : Fld Z h53 b53 cS3 "next" "[I" .null := D53 (Or.inr (ow hw 89 rfl)) (ty := (.array .int)) (by decide)
  have f67 : Fld Z h53 b53 cS3 "comparisons" "[I" .null := D53 (Or.inr (ow hw 91 rfl)) (ty := (.array .int)) (by decide)
  obtain ⟨_, _, ⟨T68, L68, k68, n68⟩, -, X68, ⟨Lc68, hQ68, l68, y68, z68⟩, st68⟩ := X53.specialBack hx (y := mN11) rfl hown (om hZ hw 75 rfl) (om hZ hw 76 rfl) (om hZ hw 77 rfl) (by decide) (backOf (W := 1) (rm14 l Z a0 hw [] b53 (1 : Int32) (1 : Int32) b18 b27 h53 n0 Z53 A53 f64 f65 f66 f67 gg53) hZ (ow hw 77 rfl) (ow hw 74 rfl) (by decide) (by decide)) (g := (mkF m 266 #[vR rp, vR rl, vI 2, vR b3, vI 1, vI 4, vR b18, vR b27, vI 2, (own_s qa37), (own_s qb37), (own_s qc37), (own_s qd37)] [(.ref b27), (.ref b18), (.int 1), (.int 1), (.ref b53), (.ref b53)])) rfl (by rw [hml]; rfl) (Steps.refl _) (a := b53) (argsL := [(.int 1), (.int 1), (.ref b18), (.ref b27)]) (rest := [(.ref b53)]) (lenOf pd_7 rfl) rfl (oz rfl) (q d5_266) (fun _ _ => ⟨rfl, e53, (by decide : 5 + 0 ≤ _), (by decide : 270 + 0 ≤ _)⟩)
  dsimp only [Pt.U, Pt.locs, Pt.cells, Pt.slots] at X68 l68 y68 z68 st68 hQ68
  subst y68 z68
  obtain ⟨rfl, N68q, K68c, f69, f70, f71, f72⟩ := hQ68
  have N68 := oF l68 N48 N68q
  have f75 := f61.keep K68c (ninS ne56 nin0)
  have f76 := f62.keep K68c (ninS ne54 nin0)
  have f77 := f63.keep K68c (ninS ne55 nin0)
  have f78 := A53.keep K68c
  have Z68 := Nat.le_trans Z53 K68c.1
  have K68 := K53.trans K68c (allS (Or.inr sz53) all0)
  obtain ⟨cq79, kq79, q79a, q79b, q79c⟩ := isOf hZ rfl f78
  obtain ⟨_, _, ⟨T79, L79, k79, n79⟩, -, X79, ⟨Lc79, hQ79, l79, y79, z79⟩, st79⟩ := X68.virtualBack hx (y := mN12) (z := mN12) hown (om hZ hw 92 rfl) (om hZ hw 93 rfl) (notFace_of_selects (args := #[]) (om hZ hw 95 rfl)) (om hZ hw 95 rfl) (om hZ hw 94 rfl) (by decide) (backOf (W := 0) (rm16 l Z a0 hw [] b53 (1 : Int32) T68.heap n0 Z68 f69) hZ (ow hw 96 rfl) (ow hw 74 rfl) (by decide) (by decide)) q79a q79c (g := (mkF m 280 #[vR rp, vR rl, vI 2, vR b3, vI 1, vI 4, vR b18, vR b27, vI 2, vR b53, .val .null, vR b53, (own_s qd37)] [(.ref b53)])) rfl (by rw [hml]; rfl) (Steps.refl _) (argsL := []) (rest := []) (lenOf pd_5 rfl) rfl (oz rfl) (q d5_280) (fun _ _ => ⟨rfl, rfl, (by decide : 5 + 0 ≤ _), (by decide : 270 + 0 ≤ _)⟩)
  dsimp only [Pt.U, Pt.locs, Pt.cells, Pt.slots] at X79 l79 y79 z79 st79 hQ79
  subst y79 z79
  obtain ⟨rfl, N79q, e79⟩ := hQ79
  have N79 := oF l79 N68 N79q
  obtain ⟨_, _, ⟨T80, L80, k80, n80⟩, -, X80, ⟨Lc80, hQ80, l80, y80, z80⟩, st80⟩ := Jvm.LawKit.callS X79 hx (y := mN16) hown (om hZ hw 97 rfl) (om hZ hw 98 rfl) (om hZ hw 32 rfl) (om hZ hw 99 rfl) (by decide) (backOf (W := 0) (rm17a l Z a0 hw [] b53 (2 : Int32) (1 : Int32) b18 b27 3 1 fy42 fy48 T68.heap n0 Z68 f78 f69 f70 f71 f72 f76 f77 (by decide) (by decide) (by decide) (by decide) (fun j hj => own_okt (okc42 j hj) (by decide))) hZ (ow hw 99 rfl) (ow hw 32 rfl) (by decide) (by decide)) (g := (mkF m 303 #[vR rp, vR rl, vI 2, vR b3, vI 1, vI 4, vR b18, vR b27, vI 2, vR b53, .val .null, vR b53, (own_s qd37)] [(.int 2), (.ref b53)])) rfl (by rw [hml]; rfl) (argsL := [(.ref b53), (.int 2)]) (rest := []) (lenOf pd_9 rfl) rfl (oz rfl) (q d5_303) (fun _ _ => ⟨rfl, e79, (by decide : 5 + 3 ≤ _), (by decide : 270 + 2052 ≤ _)⟩)
  dsimp only [Pt.U, Pt.locs, Pt.cells, Pt.slots] at X80 l80 y80 z80 st80 hQ80
  subst y80 z80
  obtain ⟨b81, b82, b83, gx84, gx85, ggb81, szb81, ggb82, szb82, ggb83, szb83, ne80_0, ne80_1, ne80_2, rfl, N80q, K80c, f86, f87, f88, f89, f90, f91, f92, okw1⟩ := hQ80
  have N80 := oF l80 N79 N80q
  have ne96 := oM f78.lt szb81
  have f113 := f75.keep K80c nin0
  have f116 := f78.keep K80c
  have f118 := f70.keep K80c nin0
  have Z80 := Nat.le_trans Z68 K80c.1
  have K80 := K68.trans K80c all0
  obtain ⟨cq121, kq121, q121a, q121b, q121c⟩ := isOf hZ rfl f86
  obtain ⟨_, _, ⟨T121, L121, k121, n121⟩, -, X121, ⟨Lc121, hQ121, l121, y121, z121⟩, st121⟩ := X80.virtualBack hx (y := mN12) (z := mN12) hown (om hZ hw 92 rfl) (om hZ hw 93 rfl) (notFace_of_selects (args := #[]) (om hZ hw 95 rfl)) (om hZ hw 95 rfl) (om hZ hw 94 rfl) (by decide) (backOf (W := 0) (rm16 l Z a0 hw [] b81 (2 : Int32) T80.heap n0 Z80 f87) hZ (ow hw 96 rfl) (ow hw 74 rfl) (by decide) (by decide)) q121a q121c (g := (mkF m 280 #[vR rp, vR rl, vI 2, vR b3, vI 1, vI 4, vR b18, vR b27, vI 2, vR b53, vR b81, vR b81, (own_s qd37)] [(.ref b81)])) rfl (by rw [hml]; rfl) (Steps.refl _) (argsL := []) (rest := []) (lenOf pd_5 rfl) rfl (oz rfl) (q d5_280) (fun _ _ => ⟨rfl, rfl, (by decide : 8 + 0 ≤ _), (by decide : 2322 + 0 ≤ _)⟩)
  dsimp only [Pt.U, Pt.locs, Pt.cells, Pt.slots] at X121 l121 y121 z121 st121 hQ121
  subst y121 z121
  obtain ⟨rfl, N121q, e121⟩ := hQ121
  have N121 := oF l121 N80 N121q
  obtain ⟨_, _, ⟨T122, L122, k122, n122⟩, -, X122, ⟨Lc122, hQ122, l122, y122, z122⟩, st122⟩ := Jvm.LawKit.callS X121 hx (y := mN16) hown (om hZ hw 97 rfl) (om hZ hw 98 rfl) (om hZ hw 32 rfl) (om hZ hw 99 rfl) (by decide) (backOf (W := 0) (rm17b l Z a0 hw [] b81 (-1 : Int32) ((1 : Int32) * (1 : Int32)) b82 b83 (3 * 1) (1 * 1) gx84 gx85 T80.heap n0 Z80 f86 f87 f88 f89 f90 f91 f92 (by decide) (by decide) (by decide) (by decide) (okw1)) hZ (ow hw 99 rfl) (ow hw 32 rfl) (by decide) (by decide)) (g := (mkF m 303 #[vR rp, vR rl, vI 2, vR b3, vI 1, vI 4, vR b18, vR b27, vI 2, vR b53, vR b81, vR b81, (own_s qd37)] [(.int (-1 : Int32)), (.ref b81)])) rfl (by rw [hml]; rfl) (argsL := [(.ref b81), (.int (-1 : Int32))]) (rest := []) (lenOf pd_9 rfl) rfl (oz rfl) (q d5_303) (fun _ _ => ⟨rfl, e121, (by decide : 8 + 3 ≤ _), (by decide : 2322 + 2052 ≤ _)⟩)
  dsimp only [Pt.U, Pt.locs, Pt.cells, Pt.slots] at X122 l122 y122 z122 st122 hQ122
  subst y122 z122
  obtain ⟨b123, b124, b125, gx126, gx127, ggb123, szb123, ggb124, szb124, ggb125, szb125, ne122_0, ne122_1, ne122_2, rfl, N122q, K122c, f128, f129, f130, f131, f132, f133, f134, hq135⟩ := hQ122
  have N122 := oF l122 N121 N122q
  have f165 := f113.keep K122c nin0
  have f168 := f116.keep K122c
  have f170 := f118.keep K122c nin0
  have Z122 := Nat.le_trans Z80 K122c.1
  have K122 := K80.trans K122c all0
  obtain ⟨cq180, kq180, q180a, q180b, q180c⟩ := isOf hZ rfl f128
  obtain ⟨_, _, ⟨T180, L180, k180, n180⟩, -, X180, ⟨Lc180, hQ180, l180, y180, z180⟩, st180⟩ := X122.virtualBack hx (y := mN12) (z := mN12) hown (om hZ hw 92 rfl) (om hZ hw 93 rfl) (notFace_of_selects (args := #[]) (om hZ hw 95 rfl)) (om hZ hw 95 rfl) (om hZ hw 94 rfl) (by decide) (backOf (W := 0) (rm16 l Z a0 hw [] b123 (4 : Int32) T122.heap n0 Z122 f129) hZ (ow hw 96 rfl) (ow hw 74 rfl) (by decide) (by decide)) q180a q180c (g := (mkF m 280 #[vR rp, vR rl, vI 2, vR b3, vI 1, vI 4, vR b18, vR b27, vI 2, vR b53, vR b123, vR b123, (own_s qd37)] [(.ref b123)])) rfl (by rw [hml]; rfl) (Steps.refl _) (argsL := []) (rest := []) (lenOf pd_5 rfl) rfl (oz rfl) (q d5_280) (fun _ _ => ⟨rfl, rfl, (by decide : 11 + 0 ≤ _), (by decide : 4374 + 0 ≤ _)⟩)
  dsimp only [Pt.U, Pt.locs, Pt.cells, Pt.slots] at X180 l180 y180 z180 st180 hQ180
  subst y180 z180
  obtain ⟨rfl, N180q, e180⟩ := hQ180
  have N180 := oF l180 N122 N180q
  obtain ⟨T181, h181, X181, e181, E181, A181, D181, -, st181⟩ := newO X180 hx hZ hown (ow hw 115 rfl) (ow hw 116 rfl) (ow hw 32 rfl) e180 (g := (mkF m 315 #[vR rp, vR rl, vI 2, vR b3, vI 1, vI 4, vR b18, vR b27, vI 2, vR b53, vR b123, vR b123, (own_s qd37)] [])) rfl (q d5_315) (by decide) (by decide)
  obtain ⟨b181, g181⟩ : ∃ z, z = T122.heap.size := ⟨_, rfl⟩
  rw [← g181] at A181 D181 st181
  have ne182 := oN f128.lt g181
  have ne187 := oN f165.lt g181
  have ne188 := oN f168.lt g181
  have gg181 := oL Z122 g181
  have sz181 := oL K122.1 g181
  have f196 := f165.ext E181
  have f199 := f168.ext E181
  have f201 := f170.ext E181
  have f211 := f128.ext E181
  have f212 := f129.ext E181
  have f213 := f130.ext E181
  have Z181 := Nat.le_trans Z122 E181.1
  have K181 := K122.ext E181
  have f218 : Fld Z h181 b181 cS0 "column" "[I" .null := D181 (Or.inr (ow hw 122 rfl)) (ty := (.array .int)) (by decide)
  have f219 : Fld Z h181 b181 cS0 "occurrenceRow" "I" (.int 0) := D181 (Or.inr (ow hw 124 rfl)) (ty := .int) (by decide)
  have f220 : Fld Z h181 b181 cS0 "single" cS4 .null := D181 (Or.inr (ow hw 126 rfl)) (ty := (.object cS3)) (by decide)
  have f221 : Fld Z h181 b181 cS0 "block" cS4 .null := D181 (Or.inr (ow hw 128 rfl)) (ty := (.object cS3)) (by decide)
  have f222 : Fld Z h181 b181 cS0 "blockColumn" "[[I" .null := D181 (Or.inr (ow hw 132 rfl)) (ty := (.array (.array .int))) (by decide)
  have f223 : Fld Z h181 b181 cS0 "blockFactor" "I" (.int 0) := D181 (Or.inr (ow hw 134 rfl)) (ty := .int) (by decide)
  obtain ⟨_, _, ⟨T224, L224, k224, n224⟩, -, X224, ⟨Lc224, hQ224, l224, y224, z224⟩, st224⟩ := X181.specialBack hx (y := mN17) rfl hown (om hZ hw 117 rfl) (om hZ hw 118 rfl) (om hZ hw 119 rfl) (by decide) (backOf (W := 1) (rm21 l Z a0 hw [] b181 b3 (2 : Int32) b53 b123 (1 : Int32) (((1 : Int32) * (1 : Int32)) * ((1 : Int32) * (1 : Int32))) gx4 h181 n0 Z181 A181 f218 f219 f220 f221 f222 f223 f199 f211 f201 f213 f212 f196 ne187 ne188 ne182 (by decide) gg181) hZ (ow hw 119 rfl) (ow hw 32 rfl) (by decide) (by decide)) (g := (mkF m 326 #[vR rp, vR rl, vI 2, vR b3, vI 1, vI 4, vR b18, vR b27, vI 2, vR b53, vR b123, vR b123, (own_s qd37)] [(.ref b123), (.ref b53), (.int 2), (.ref b3), (.ref b181), (.ref b181)])) rfl (by rw [hml]; rfl) (Steps.refl _) (a := b181) (argsL := [(.ref b3), (.int 2), (.ref b53), (.ref b123)]) (rest := [(.ref b181)]) (lenOf pd_10 rfl) rfl (oz rfl) (q d5_326) (fun _ _ => ⟨rfl, e181, (by decide : 12 + 5 ≤ _), (by decide : 4380 + 1028 ≤ _)⟩)
  dsimp only [Pt.U, Pt.locs, Pt.cells, Pt.slots] at X224 l224 y224 z224 st224 hQ224
  subst y224 z224
  obtain ⟨rfl, N224q, K224c⟩ := hQ224
  have N224 := oF l224 N180 N224q
  have K224 := K181.trans K224c (allS (Or.inr sz181) all0)
  obtain ⟨fs, hr, hrun, hended, hW, hsame⟩ := X224.leave (v := some (.ref b181)) (oR Bd.returns) (hlocks := Bd.notSynchronized)
  refine ⟨_, _, pre16 _ ?_, hrun, hended, _, _, rfl, ?_, ⟨_, rfl⟩, hW, hsame.mono (by decide) (by decide)⟩
  ·show Steps p.tables e below (T10.setTop (mkF m 12 #[vR rp, vR rl, vI 2, vR b3, vU, vU, vU, vU, vU, vU, vU, vU, vU] [(.int 1)])) _
   refine XS.istore X10.here hx rfl (q d5_12) rfl (l' := #[vR rp, vR rl, vI 2, vR b3, vI 1, vU, vU, vU, vU, vU, vU, vU, vU]) rfl ?_
   refine XS.iloadN X10.here hx rfl (q d5_14) rfl ?_
   refine XS.iload X10.here hx rfl (q d5_15) rfl ?_
   refine st17 _ ?_
   refine XS.istore X17.here hx rfl (q d5_20) rfl (l' := #[vR rp, vR rl, vI 2, vR b3, vI 1, vI 4, vU, vU, vU, vU, vU, vU, vU]) rfl ?_
   refine XS.iload X17.here hx rfl (q d5_22) rfl ?_
   refine XS.ifYes X17.here hx rfl (pc0 := 24) (pc' := 29) rfl (q d5_24) rfl ((if0 _ _).trans (feq (by decide : ¬ ((4 : Int32) = (0 : Int32)))).2) (by decide) (by decide) ?_
   refine XS.iloadN X17.here hx rfl (q d5_29) rfl ?_
   refine XS.iconst X17.here hx rfl (q d5_30) ?_
   refine XS.iadd X17.here hx rfl (q d5_31) rfl ?_
   refine XS.iload X17.here hx rfl (q d5_32) rfl ?_
   refine XS.imul X17.here hx rfl (q d5_34) rfl ?_
   refine st18 _ ?_
   refine XS.astore X18.here hx rfl (q d5_37) rfl rfl (l' := #[vR rp, vR rl, vI 2, vR b3, vI 1, vI 4, vR b18, vU, vU, vU, vU, vU, vU]) rfl ?_
   refine XS.aload X18.here hx rfl (q d5_39) rfl rfl ?_
   refine X18.arraylength hx (by rw [e18]; exact Arcl26.1) (State.isArrayOf_alike hZ.alike Arcl26.2.1) (g := (mkF m 41 #[vR rp, vR rl, vI 2, vR b3, vI 1, vI 4, vR b18, vU, vU, vU, vU, vU, vU] [(.ref b18)])) rfl rfl (q d5_41) _ ?_
   rw [Szcl26]
   refine st27 _ ?_
   refine XS.astore X27.here hx rfl (q d5_44) rfl rfl (l' := #[vR rp, vR rl, vI 2, vR b3, vI 1, vI 4, vR b18, vR b27, vU, vU, vU, vU, vU]) rfl ?_
   refine XS.iconst X27.here hx rfl (q d5_46) ?_
   refine XS.istore X27.here hx rfl (q d5_47) rfl (l' := #[vR rp, vR rl, vI 2, vR b3, vI 1, vI 4, vR b18, vR b27, vI 0, vU, vU, vU, vU]) rfl ?_
   refine st37 _ ?_
   refine XS.iloadN X37.here hx rfl (q d5_211) rfl ?_
   refine XS.iload X37.here hx rfl (q d5_212) rfl ?_
   refine XS.imul X37.here hx rfl (q d5_214) rfl ?_
   refine XS.istore X37.here hx rfl (q d5_215) rfl (l' := #[vR rp, vR rl, vI 2, vR b3, vI 1, vI 4, vR b18, vR b27, vI 2, (own_s qa37), (own_s qb37), (own_s qc37), (own_s qd37)]) rfl ?_
   refine XS.aload X37.here hx rfl (q d5_217) rfl rfl ?_
   refine XS.aloadN X37.here hx rfl (q d5_219) rfl rfl ?_
   refine XS.iloadN X37.here hx rfl (q d5_220) rfl ?_
   refine XS.iconst X37.here hx rfl (q d5_221) ?_
   refine XS.isub X37.here hx rfl (q d5_222) rfl ?_
   refine X37.iaload hx (j := (1 : Int32)) (v := (.int (fl 1))) (by rw [e37]; exact Arcl41.1) (State.isArrayOf_alike hZ.alike Arcl41.2.1) Arcl41.2.2 hincl41 hatcl41 (g := (mkF m 223 #[vR rp, vR rl, vI 2, vR b3, vI 1, vI 4, vR b18, vR b27, vI 2, (own_s qa37), (own_s qb37), (own_s qc37), (own_s qd37)] [(.int 1), (.ref rl), (.ref b18)])) rfl rfl (q d5_223) _ ?_
   refine XS.iload X37.here hx rfl (q d5_224) rfl ?_
   refine XS.imul X37.here hx rfl (q d5_226) rfl ?_
   refine XS.aload X37.here hx rfl (q d5_227) rfl rfl ?_
   refine XS.iload X37.here hx rfl (q d5_229) rfl ?_
   refine XS.iload X37.here hx rfl (q d5_231) rfl ?_
   refine st42 _ ?_
   refine XS.aload X42.here hx rfl (q d5_236) rfl rfl ?_
   refine XS.aloadN X42.here hx rfl (q d5_238) rfl rfl ?_
   refine XS.iloadN X42.here hx rfl (q d5_239) rfl ?_
   refine XS.iconst X42.here hx rfl (q d5_240) ?_
   refine XS.isub X42.here hx rfl (q d5_241) rfl ?_
   refine X42.iaload hx (j := (1 : Int32)) (v := (.int (fl 1))) (by rw [e42]; exact Arcl47.1) (State.isArrayOf_alike hZ.alike Arcl47.2.1) Arcl47.2.2 hincl47 hatcl47 (g := (mkF m 242 #[vR rp, vR rl, vI 2, vR b3, vI 1, vI 4, vR b18, vR b27, vI 2, (own_s qa37), (own_s qb37), (own_s qc37), (own_s qd37)] [(.int 1), (.ref rl), (.ref b27)])) rfl rfl (q d5_242) _ ?_
   refine XS.iload X42.here hx rfl (q d5_243) rfl ?_
   refine XS.imul X42.here hx rfl (q d5_245) rfl ?_
   refine XS.aload X42.here hx rfl (q d5_246) rfl rfl ?_
   refine XS.iload X42.here hx rfl (q d5_248) rfl ?_
   refine XS.iload X42.here hx rfl (q d5_250) rfl ?_
   refine st48 _ ?_
   refine st53 _ ?_
   refine XS.dup X53.here hx rfl (q d5_258) rfl rfl ?_
   refine XS.iconst X53.here hx rfl (q d5_259) ?_
   refine XS.iload X53.here hx rfl (q d5_260) rfl ?_
   refine XS.aload X53.here hx rfl (q d5_262) rfl rfl ?_
   refine XS.aload X53.here hx rfl (q d5_264) rfl rfl ?_
   refine st68.trans ?_
   refine XS.astore X68.here hx rfl (q d5_269) rfl rfl (l' := #[vR rp, vR rl, vI 2, vR b3, vI 1, vI 4, vR b18, vR b27, vI 2, vR b53, (own_s qb37), (own_s qc37), (own_s qd37)]) (by cases qa37 <;> rfl) ?_
   refine XS.aconstNull X68.here hx rfl (q d5_271) ?_
   refine XS.astore X68.here hx rfl (q d5_272) rfl rfl (l' := #[vR rp, vR rl, vI 2, vR b3, vI 1, vI 4, vR b18, vR b27, vI 2, vR b53, .val .null, (own_s qc37), (own_s qd37)]) (by cases qb37 <;> rfl) ?_
   refine XS.aload X68.here hx rfl (q d5_274) rfl rfl ?_
   refine XS.astore X68.here hx rfl (q d5_276) rfl rfl (l' := #[vR rp, vR rl, vI 2, vR b3, vI 1, vI 4, vR b18, vR b27, vI 2, vR b53, .val .null, vR b53, (own_s qd37)]) (by cases qc37 <;> rfl) ?_
   refine XS.aload X68.here hx rfl (q d5_278) rfl rfl ?_
   refine st79.trans ?_
   refine XS.iload X79.here hx rfl (q d5_283) rfl ?_
   refine XS.icmpNo X79.here hx rfl (q d5_285) rfl (tlt (by decide : ((1 : Int32) < (4 : Int32)))).2.1 ?_
   refine XS.aload X79.here hx rfl (q d5_288) rfl rfl ?_
   refine XS.aload X79.here hx rfl (q d5_290) rfl rfl ?_
   refine XS.aload X79.here hx rfl (q d5_292) rfl rfl ?_
   refine Jvm.RoadKit.acmp (g := (mkF m 294 #[vR rp, vR rl, vI 2, vR b3, vI 1, vI 4, vR b18, vR b27, vI 2, vR b53, .val .null, vR b53, (own_s qd37)] [(.ref b53), (.ref b53), (.ref b53)])) X79 hx rfl rfl rfl (pc0 := 294) (pc' := 297) (same := true) rfl (q d5_294) rfl (decide_eq_true rfl) (by decide) (by decide) ?_
   refine XS.iload X79.here hx rfl (q d5_297) rfl ?_
   refine XS.goto X79.here hx rfl (pc0 := 299) (pc' := 303) rfl (q d5_299) (by decide) (by decide) ?_
   refine st80 _ ?_
   refine XS.astore X80.here hx rfl (q d5_306) rfl rfl (l' := #[vR rp, vR rl, vI 2, vR b3, vI 1, vI 4, vR b18, vR b27, vI 2, vR b53, vR b81, vR b53, (own_s qd37)]) rfl ?_
   refine XS.aload X80.here hx rfl (q d5_308) rfl rfl ?_
   refine XS.astore X80.here hx rfl (q d5_310) rfl rfl (l' := #[vR rp, vR rl, vI 2, vR b3, vI 1, vI 4, vR b18, vR b27, vI 2, vR b53, vR b81, vR b81, (own_s qd37)]) rfl ?_
   refine XS.goto X80.here hx rfl (pc0 := 312) (pc' := 278) rfl (q d5_312) (by decide) (by decide) ?_
   refine XS.aload X80.here hx rfl (q d5_278) rfl rfl ?_
   refine st121.trans ?_
   refine XS.iload X121.here hx rfl (q d5_283) rfl ?_
   refine XS.icmpNo X121.here hx rfl (q d5_285) rfl (tlt (by decide : ((2 : Int32) < (4 : Int32)))).2.1 ?_
   refine XS.aload X121.here hx rfl (q d5_288) rfl rfl ?_
   refine XS.aload X121.here hx rfl (q d5_290) rfl rfl ?_
   refine XS.aload X121.here hx rfl (q d5_292) rfl rfl ?_
   refine Jvm.RoadKit.acmp (g := (mkF m 294 #[vR rp, vR rl, vI 2, vR b3, vI 1, vI 4, vR b18, vR b27, vI 2, vR b53, vR b81, vR b81, (own_s qd37)] [(.ref b53), (.ref b81), (.ref b81)])) X121 hx rfl rfl rfl (pc0 := 294) (pc' := 302) (same := false) rfl (q d5_294) rfl (decide_eq_false fun q => (Ne.symm ne96) (Value.ref.inj q)) (by decide) (by decide) ?_
   refine XS.iconst X121.here hx rfl (q d5_302) ?_
   refine st122 _ ?_
   refine XS.astore X122.here hx rfl (q d5_306) rfl rfl (l' := #[vR rp, vR rl, vI 2, vR b3, vI 1, vI 4, vR b18, vR b27, vI 2, vR b53, vR b123, vR b81, (own_s qd37)]) rfl ?_
   refine XS.aload X122.here hx rfl (q d5_308) rfl rfl ?_
   refine XS.astore X122.here hx rfl (q d5_310) rfl rfl (l' := #[vR rp, vR rl, vI 2, vR b3, vI 1, vI 4, vR b18, vR b27, vI 2, vR b53, vR b123, vR b123, (own_s qd37)]) rfl ?_
   refine XS.goto X122.here hx rfl (pc0 := 312) (pc' := 278) rfl (q d5_312) (by decide) (by decide) ?_
   refine XS.aload X122.here hx rfl (q d5_278) rfl rfl ?_
   refine st180.trans ?_
   refine XS.iload X180.here hx rfl (q d5_283) rfl ?_
   refine XS.icmpYes X180.here hx rfl (pc0 := 285) (pc' := 315) rfl (q d5_285) rfl (flt (by decide : ¬ ((4 : Int32) < (4 : Int32)))).2.1 (by decide) (by decide) ?_
   refine st181 _ ?_
   refine XS.dup X181.here hx rfl (q d5_318) rfl rfl ?_
   refine XS.aloadN X181.here hx rfl (q d5_319) rfl rfl ?_
   refine XS.iload X181.here hx rfl (q d5_320) rfl ?_
   refine XS.aload X181.here hx rfl (q d5_322) rfl rfl ?_
   refine XS.aload X181.here hx rfl (q d5_324) rfl rfl ?_
   refine st224.trans ?_
   exact retOut X224 hx Bd.returns rfl (Or.inr (Or.inr (Or.inr (Or.inr ⟨rfl, rfl, rfl⟩)))) (q d5_329) hr
  ·show Q5k2 Z rp rl fp fl h0 n0 _ T224.heap _
   exact ⟨b181, gg181, sz181, rfl, N224, K224⟩
 ·have pre250 : oP p e below (T10.setTop (mkF m 12 #[vR rp, vR rl, vI 2, vR b3, vU, vU, vU, vU, vU, vU, vU, vU, vU] [(.int 2)])) (s₁.setTop (entryFrame m #[(.ref rp), (.ref rl)] 13)) := by
   intro t k
   refine pre14 _ ?_
   rw [hk15]
   exact k
  obtain ⟨_, _, ⟨T251, L251, k251, n251⟩, -, X251, ⟨Lc251, hQ251, l251, y251, z251⟩, st251⟩ := Jvm.LawKit.callS X10 hx (y := mN2) hown (om hZ hw 48 rfl) (om hZ hw 49 rfl) (om hZ hw 32 rfl) (om hZ hw 50 rfl) (by decide) (backOf (W := 0) (rm9m2c2 l Z a0 hw []  T10.heap n0 Z10 ) hZ (ow hw 50 rfl) (ow hw 32 rfl) (by decide) (by decide)) (g := (mkF m 17 #[vR rp, vR rl, vI 2, vR b3, vI 2, vU, vU, vU, vU, vU, vU, vU, vU] [(.int 2), (.int 2)])) rfl (by rw [hml]; rfl) (argsL := [(.int 2), (.int 2)]) (rest := []) (lenOf pd_2 rfl) rfl (oz rfl) (q d5_17) (fun _ _ => ⟨rfl, rfl, (by decide : 2 + 0 ≤ _), (by decide : 260 + 0 ≤ _)⟩)
  dsimp only [Pt.U, Pt.locs, Pt.cells, Pt.slots] at X251 l251 y251 z251 st251 hQ251
  subst y251 z251
  obtain ⟨rfl, N251q, e251⟩ := hQ251
  have N251 := oF l251 N10 N251q
  obtain ⟨T252, h252, k252, X252, e252, E252, A252, st252⟩ := newP X251 hx hZ (ow hw 2 rfl) e251 (g := (mkF m 35 #[vR rp, vR rl, vI 2, vR b3, vI 2, vI 4, vU, vU, vU, vU, vU, vU, vU] [(.int 6)])) rfl (q d5_35) rfl (by decide) (cap := 6) (by decide) (by decide) (by decide) (by decide)
  obtain ⟨b252, g252⟩ : ∃ z, z = T10.heap.size := ⟨_, rfl⟩
  rw [← g252] at A252 st252
  have ne253 := oN f13.lt g252
  have ne254 := oN f12.lt g252
  have ne255 := oN f11.lt g252
  have gg252 := oL Z10 g252
  have sz252 := oL K10.1 g252
  have f256 := f11.ext E252
  have f257 := f12.ext E252
  have f258 := f13.ext E252
  have Z252 := Nat.le_trans Z10 E252.1
  have K252 := K10.ext E252
  have f259 : AI Z h252 b252 .int 6 zI := AF.new A252 (by decide)
  obtain ⟨cl260, Arcl260, Szcl260⟩ := AF.len f259
  obtain ⟨T261, h261, k261, X261, e261, E261, A261, st261⟩ := newP X252 hx hZ (ow hw 2 rfl) e252 (g := (mkF m 42 #[vR rp, vR rl, vI 2, vR b3, vI 2, vI 4, vR b252, vU, vU, vU, vU, vU, vU] [(.int 6)])) rfl (q d5_42) rfl (by decide) (cap := 6) (by decide) (by decide) (by decide) (by decide)
  obtain ⟨b261, g261⟩ : ∃ z, z = h252.size := ⟨_, rfl⟩
  rw [← g261] at A261 st261
  have ne262 := oN f259.lt g261
  have ne263 := oN f258.lt g261
  have ne264 := oN f257.lt g261
  have ne265 := oN f256.lt g261
  have gg261 := oL Z252 g261
  have sz261 := oL K252.1 g261
  have f266 := f256.ext E261
  have f267 := f257.ext E261
  have f268 := f258.ext E261
  have f269 := f259.ext E261
  have Z261 := Nat.le_trans Z252 E261.1
  have K261 := K252.ext E261
  have f270 : AI Z h261 b261 .int 6 zI := AF.new A261 (by decide)
  obtain ⟨T271, h271, L271, so271, qa271, qb271, qc271, qd271, fn271, fc271, X271, e271, N271, Kl271, An271, ok271, Ac271, st271⟩ := ofO rp rl (2 : Int32) b3 (2 : Int32) (4 : Int32) b252 b261 2 2 6 fp fl gx4 hx hZ hw hby hml hown (by decide) (by decide) (by decide) (by decide) (by decide) hfl gg252 gg261 ne262 ne255 ne265 ne254 ne264 ne253 ne263 2 T261 _ h261 (0 : Int32) 0 none none none none zI zI (by decide) rfl X261 e261 N251 f266 f267 f268 f269 (fun j _ => ⟨0, rfl, Nat.zero_le _⟩) f270
  have Z271 := Nat.le_trans Z261 Kl271.1
  have K271 := K261.trans Kl271 (allS (Or.inr sz252) (allS (Or.inr sz261) all0))
  have f273 := f267.keep Kl271 (ninS ne254 (ninS ne264 nin0))
  have f274 := f268.keep Kl271 (ninS ne253 (ninS ne263 nin0))
  obtain ⟨cl275, Arcl275, hincl275, hatcl275⟩ := AF.at f273 (j := (1 : Int32)) 1 (by decide) (by decide)
  obtain ⟨kl276, hkl276, hkm276⟩ := hfl 1 (by decide)
  obtain ⟨hsp276, hsq276⟩ := own_spm (cc := (2 : Int32)) (cn := 2) hkl276 (by decide) (Nat.le_trans hkm276 (by decide : 1 ≤ 2)) (by decide)
  obtain ⟨T276, h276, L276, fy276, X276, e276, N276, Kl276, Ay276, py276, st276⟩ := own_cp X271 hx hZ hown (ow hw 68 rfl) (ow hw 71 rfl) (ow hw 69 rfl) (ow hw 70 rfl) e271 An271 (by decide) hsp276 (by decide : (4 : Int32).toInt = ((4 : Nat) : Int)) (by decide : (2 : Int32).toInt = ((2 : Nat) : Int)) hsq276 (by decide) N271 gg252 (g := (mkF m 233 #[vR rp, vR rl, vI 2, vR b3, vI 2, vI 4, vR b252, vR b261, vI 4, (own_s qa271), (own_s qb271), (own_s qc271), (own_s qd271)] [(.int 2), (.int 4), (.ref b252), (.int ((fl 1) * (2 : Int32))), (.ref b252)])) rfl (by rw [hml]; rfl) rfl (q d5_233) (by decide) (W := 0) (oz rfl) (by decide)
  have Z276 := Nat.le_trans Z271 Kl276.1
  have K276 := K271.trans Kl276 (allS (Or.inr sz252) all0)
  have f278 := f273.keep Kl276 (ninS ne254 nin0)
  have f279 := f274.keep Kl276 (ninS ne253 nin0)
  have f280 := Ac271.keep Kl276 (ninS (Ne.symm ne262) nin0)
  have okc276 := py276 _ ok271
  obtain ⟨cl281, Arcl281, hincl281, hatcl281⟩ := AF.at f278 (j := (1 : Int32)) 1 (by decide) (by decide)
  obtain ⟨kl282, hkl282, hkm282⟩ := hfl 1 (by decide)
  obtain ⟨hsp282, hsq282⟩ := own_spm (cc := (2 : Int32)) (cn := 2) hkl282 (by decide) (Nat.le_trans hkm282 (by decide : 1 ≤ 2)) (by decide)
  obtain ⟨T282, h282, L282, fy282, X282, e282, N282, Kl282, Ay282, py282, st282⟩ := own_cp X276 hx hZ hown (ow hw 68 rfl) (ow hw 71 rfl) (ow hw 69 rfl) (ow hw 70 rfl) e276 f280 (by decide) hsp282 (by decide : (4 : Int32).toInt = ((4 : Nat) : Int)) (by decide : (2 : Int32).toInt = ((2 : Nat) : Int)) hsq282 (by decide) N276 gg261 (g := (mkF m 252 #[vR rp, vR rl, vI 2, vR b3, vI 2, vI 4, vR b252, vR b261, vI 4, (own_s qa271), (own_s qb271), (own_s qc271), (own_s qd271)] [(.int 2), (.int 4), (.ref b261), (.int ((fl 1) * (2 : Int32))), (.ref b261)])) rfl (by rw [hml]; rfl) rfl (q d5_252) (by decide) (W := 0) (oz rfl) (by decide)
  have Z282 := Nat.le_trans Z276 Kl282.1
  have K282 := K276.trans Kl282 (allS (Or.inr sz261) all0)
  have f285 := f279.keep Kl282 (ninS ne263 nin0)
  have f286 := Ay276.keep Kl282 (ninS ne262 nin0)
  obtain ⟨T287, h287, X287, e287, E287, A287, D287, -, st287⟩ := newO X282 hx hZ hown (ow hw 72 rfl) (ow hw 73 rfl) (ow hw 74 rfl) e282 (g := (mkF m 255 #[vR rp, vR rl, vI 2, vR b3, vI 2, vI 4, vR b252, vR b261, vI 4, (own_s qa271), (own_s qb271), (own_s qc271), (own_s qd271)] [])) rfl (q d5_255) (by decide) (by decide)
  obtain ⟨b287, g287⟩ : ∃ z, z = h282.size := ⟨_, rfl⟩
  rw [← g287] at A287 D287 st287
  have ne288 := oN f286.lt g287
  have ne289 := oN Ay282.lt g287
  have ne290 := oN f285.lt g287
  have gg287 := oL Z282 g287
  have sz287 := oL K282.1 g287
  have f295 := f285.ext E287
  have f296 := f286.ext E287
  have f297 := Ay282.ext E287
  have Z287 := Nat.le_trans Z282 E287.1
  have K287 := K282.ext E287
  have f298 : Fld Z h287 b287 cS3 "width" "I" (.int 0) := D287 (Or.inr (ow hw 85 rfl)) (ty := .int) (by decide)
  have f299 : Fld Z h287 b287 cS3 "columns" "I" (.int 0) := D287 (Or.inr (ow hw 87 rfl)) (ty := .int) (by decide)
  have f300 : Fld Z h287 b287 cS3 "next" "[I" .null := D287 (Or.inr (ow hw 89 rfl)) (ty := (.array .int)) (by decide)
  have f301 : Fld Z h287 b287 cS3 "comparisons" "[I" .null := D287 (Or.inr (ow hw 91 rfl)) (ty := (.array .int)) (by decide)
  obtain ⟨_, _, ⟨T302, L302, k302, n302⟩, -, X302, ⟨Lc302, hQ302, l302, y302, z302⟩, st302⟩ := X287.specialBack hx (y := mN11) rfl hown (om hZ hw 75 rfl) (om hZ hw 76 rfl) (om hZ hw 77 rfl) (by decide) (backOf (W := 1) (rm14 l Z a0 hw [] b287 (1 : Int32) (2 : Int32) b252 b261 h287 n0 Z287 A287 f298 f299 f300 f301 gg287) hZ (ow hw 77 rfl) (ow hw 74 rfl) (by decide) (by decide)) (g := (mkF m 266 #[vR rp, vR rl, vI 2, vR b3, vI 2, vI 4, vR b252, vR b261, vI 4, (own_s qa271), (own_s qb271), (own_s qc271), (own_s qd271)] [(.ref b261), (.ref b252), (.int 2), (.int 1), (.ref b287), (.ref b287)])) rfl (by rw [hml]; rfl) (Steps.refl _) (a := b287) (argsL := [(.int 1), (.int 2), (.ref b252), (.ref b261)]) (rest := [(.ref b287)]) (lenOf pd_7 rfl) rfl (oz rfl) (q d5_266) (fun _ _ => ⟨rfl, e287, (by decide : 5 + 0 ≤ _), (by decide : 276 + 0 ≤ _)⟩)
  dsimp only [Pt.U, Pt.locs, Pt.cells, Pt.slots] at X302 l302 y302 z302 st302 hQ302
  subst y302 z302
  obtain ⟨rfl, N302q, K302c, f303, f304, f305, f306⟩ := hQ302
  have N302 := oF l302 N282 N302q
  have f309 := f295.keep K302c (ninS ne290 nin0)
  have f310 := f296.keep K302c (ninS ne288 nin0)
  have f311 := f297.keep K302c (ninS ne289 nin0)
  have f312 := A287.keep K302c
  have Z302 := Nat.le_trans Z287 K302c.1
  have K302 := K287.trans K302c (allS (Or.inr sz287) all0)
  obtain ⟨cq313, kq313, q313a, q313b, q313c⟩ := isOf hZ rfl f312
  obtain ⟨_, _, ⟨T313, L313, k313, n313⟩, -, X313, ⟨Lc313, hQ313, l313, y313, z313⟩, st313⟩ := X302.virtualBack hx (y := mN12) (z := mN12) hown (om hZ hw 92 rfl) (om hZ hw 93 rfl) (notFace_of_selects (args := #[]) (om hZ hw 95 rfl)) (om hZ hw 95 rfl) (om hZ hw 94 rfl) (by decide) (backOf (W := 0) (rm16 l Z a0 hw [] b287 (1 : Int32) T302.heap n0 Z302 f303) hZ (ow hw 96 rfl) (ow hw 74 rfl) (by decide) (by decide)) q313a q313c (g := (mkF m 280 #[vR rp, vR rl, vI 2, vR b3, vI 2, vI 4, vR b252, vR b261, vI 4, vR b287, .val .null, vR b287, (own_s qd271)] [(.ref b287)])) rfl (by rw [hml]; rfl) (Steps.refl _) (argsL := []) (rest := []) (lenOf pd_5 rfl) rfl (oz rfl) (q d5_280) (fun _ _ => ⟨rfl, rfl, (by decide : 5 + 0 ≤ _), (by decide : 276 + 0 ≤ _)⟩)
  dsimp only [Pt.U, Pt.locs, Pt.cells, Pt.slots] at X313 l313 y313 z313 st313 hQ313
  subst y313 z313
  obtain ⟨rfl, N313q, e313⟩ := hQ313
  have N313 := oF l313 N302 N313q
  obtain ⟨_, _, ⟨T314, L314, k314, n314⟩, -, X314, ⟨Lc314, hQ314, l314, y314, z314⟩, st314⟩ := Jvm.LawKit.callS X313 hx (y := mN16) hown (om hZ hw 97 rfl) (om hZ hw 98 rfl) (om hZ hw 32 rfl) (om hZ hw 99 rfl) (by decide) (backOf (W := 0) (rm17a l Z a0 hw [] b287 (4 : Int32) (2 : Int32) b252 b261 6 2 fy276 fy282 T302.heap n0 Z302 f312 f303 f304 f305 f306 f310 f311 (by decide) (by decide) (by decide) (by decide) (fun j hj => own_okt (okc276 j hj) (by decide))) hZ (ow hw 99 rfl) (ow hw 32 rfl) (by decide) (by decide)) (g := (mkF m 303 #[vR rp, vR rl, vI 2, vR b3, vI 2, vI 4, vR b252, vR b261, vI 4, vR b287, .val .null, vR b287, (own_s qd271)] [(.int 4), (.ref b287)])) rfl (by rw [hml]; rfl) (argsL := [(.ref b287), (.int 4)]) (rest := []) (lenOf pd_9 rfl) rfl (oz rfl) (q d5_303) (fun _ _ => ⟨rfl, e313, (by decide : 5 + 3 ≤ _), (by decide : 276 + 2052 ≤ _)⟩)
  dsimp only [Pt.U, Pt.locs, Pt.cells, Pt.slots] at X314 l314 y314 z314 st314 hQ314
  subst y314 z314
  obtain ⟨b315, b316, b317, gx318, gx319, ggb315, szb315, ggb316, szb316, ggb317, szb317, ne314_0, ne314_1, ne314_2, rfl, N314q, K314c, f320, f321, f322, f323, f324, f325, f326, okw2⟩ := hQ314
  have N314 := oF l314 N313 N314q
  have ne329 := oM f312.lt szb315
  have f347 := f309.keep K314c nin0
  have f350 := f312.keep K314c
  have f352 := f304.keep K314c nin0
  have Z314 := Nat.le_trans Z302 K314c.1
  have K314 := K302.trans K314c all0
  obtain ⟨cq355, kq355, q355a, q355b, q355c⟩ := isOf hZ rfl f320
  obtain ⟨_, _, ⟨T355, L355, k355, n355⟩, -, X355, ⟨Lc355, hQ355, l355, y355, z355⟩, st355⟩ := X314.virtualBack hx (y := mN12) (z := mN12) hown (om hZ hw 92 rfl) (om hZ hw 93 rfl) (notFace_of_selects (args := #[]) (om hZ hw 95 rfl)) (om hZ hw 95 rfl) (om hZ hw 94 rfl) (by decide) (backOf (W := 0) (rm16 l Z a0 hw [] b315 (2 : Int32) T314.heap n0 Z314 f321) hZ (ow hw 96 rfl) (ow hw 74 rfl) (by decide) (by decide)) q355a q355c (g := (mkF m 280 #[vR rp, vR rl, vI 2, vR b3, vI 2, vI 4, vR b252, vR b261, vI 4, vR b287, vR b315, vR b315, (own_s qd271)] [(.ref b315)])) rfl (by rw [hml]; rfl) (Steps.refl _) (argsL := []) (rest := []) (lenOf pd_5 rfl) rfl (oz rfl) (q d5_280) (fun _ _ => ⟨rfl, rfl, (by decide : 8 + 0 ≤ _), (by decide : 2328 + 0 ≤ _)⟩)
  dsimp only [Pt.U, Pt.locs, Pt.cells, Pt.slots] at X355 l355 y355 z355 st355 hQ355
  subst y355 z355
  obtain ⟨rfl, N355q, e355⟩ := hQ355
  have N355 := oF l355 N314 N355q
  obtain ⟨_, _, ⟨T356, L356, k356, n356⟩, -, X356, ⟨Lc356, hQ356, l356, y356, z356⟩, st356⟩ := Jvm.LawKit.callS X355 hx (y := mN16) hown (om hZ hw 97 rfl) (om hZ hw 98 rfl) (om hZ hw 32 rfl) (om hZ hw 99 rfl) (by decide) (backOf (W := 0) (rm17b l Z a0 hw [] b315 (-1 : Int32) ((2 : Int32) * (2 : Int32)) b316 b317 (6 * 2) (2 * 2) gx318 gx319 T314.heap n0 Z314 f320 f321 f322 f323 f324 f325 f326 (by decide) (by decide) (by decide) (by decide) (okw2)) hZ (ow hw 99 rfl) (ow hw 32 rfl) (by decide) (by decide)) (g := (mkF m 303 #[vR rp, vR rl, vI 2, vR b3, vI 2, vI 4, vR b252, vR b261, vI 4, vR b287, vR b315, vR b315, (own_s qd271)] [(.int (-1 : Int32)), (.ref b315)])) rfl (by rw [hml]; rfl) (argsL := [(.ref b315), (.int (-1 : Int32))]) (rest := []) (lenOf pd_9 rfl) rfl (oz rfl) (q d5_303) (fun _ _ => ⟨rfl, e355, (by decide : 8 + 3 ≤ _), (by decide : 2328 + 2052 ≤ _)⟩)
  dsimp only [Pt.U, Pt.locs, Pt.cells, Pt.slots] at X356 l356 y356 z356 st356 hQ356
  subst y356 z356
  obtain ⟨b357, b358, b359, gx360, gx361, ggb357, szb357, ggb358, szb358, ggb359, szb359, ne356_0, ne356_1, ne356_2, rfl, N356q, K356c, f362, f363, f364, f365, f366, f367, f368, hq369⟩ := hQ356
  have N356 := oF l356 N355 N356q
  have f399 := f347.keep K356c nin0
  have f402 := f350.keep K356c
  have f404 := f352.keep K356c nin0
  have Z356 := Nat.le_trans Z314 K356c.1
  have K356 := K314.trans K356c all0
  obtain ⟨cq414, kq414, q414a, q414b, q414c⟩ := isOf hZ rfl f362
  obtain ⟨_, _, ⟨T414, L414, k414, n414⟩, -, X414, ⟨Lc414, hQ414, l414, y414, z414⟩, st414⟩ := X356.virtualBack hx (y := mN12) (z := mN12) hown (om hZ hw 92 rfl) (om hZ hw 93 rfl) (notFace_of_selects (args := #[]) (om hZ hw 95 rfl)) (om hZ hw 95 rfl) (om hZ hw 94 rfl) (by decide) (backOf (W := 0) (rm16 l Z a0 hw [] b357 (4 : Int32) T356.heap n0 Z356 f363) hZ (ow hw 96 rfl) (ow hw 74 rfl) (by decide) (by decide)) q414a q414c (g := (mkF m 280 #[vR rp, vR rl, vI 2, vR b3, vI 2, vI 4, vR b252, vR b261, vI 4, vR b287, vR b357, vR b357, (own_s qd271)] [(.ref b357)])) rfl (by rw [hml]; rfl) (Steps.refl _) (argsL := []) (rest := []) (lenOf pd_5 rfl) rfl (oz rfl) (q d5_280) (fun _ _ => ⟨rfl, rfl, (by decide : 11 + 0 ≤ _), (by decide : 4380 + 0 ≤ _)⟩)
  dsimp only [Pt.U, Pt.locs, Pt.cells, Pt.slots] at X414 l414 y414 z414 st414 hQ414
  subst y414 z414
  obtain ⟨rfl, N414q, e414⟩ := hQ414
  have N414 := oF l414 N356 N414q
  obtain ⟨T415, h415, X415, e415, E415, A415, D415, -, st415⟩ := newO X414 hx hZ hown (ow hw 115 rfl) (ow hw 116 rfl) (ow hw 32 rfl) e414 (g := (mkF m 315 #[vR rp, vR rl, vI 2, vR b3, vI 2, vI 4, vR b252, vR b261, vI 4, vR b287, vR b357, vR b357, (own_s qd271)] [])) rfl (q d5_315) (by decide) (by decide)
  obtain ⟨b415, g415⟩ : ∃ z, z = T356.heap.size := ⟨_, rfl⟩
  rw [← g415] at A415 D415 st415
  have ne418 := oN f402.lt g415
  have ne419 := oN f399.lt g415
  have ne423 := oN f362.lt g415
  have gg415 := oL Z356 g415
  have sz415 := oL K356.1 g415
  have f430 := f399.ext E415
  have f433 := f402.ext E415
  have f435 := f404.ext E415
  have f445 := f362.ext E415
  have f446 := f363.ext E415
  have f447 := f364.ext E415
  have Z415 := Nat.le_trans Z356 E415.1
  have K415 := K356.ext E415
  have f452 : Fld Z h415 b415 cS0 "column" "[I" .null := D415 (Or.inr (ow hw 122 rfl)) (ty := (.array .int)) (by decide)
  have f453 : Fld Z h415 b415 cS0 "occurrenceRow" "I" (.int 0) := D415 (Or.inr (ow hw 124 rfl)) (ty := .int) (by decide)
  have f454 : Fld Z h415 b415 cS0 "single" cS4 .null := D415 (Or.inr (ow hw 126 rfl)) (ty := (.object cS3)) (by decide)
  have f455 : Fld Z h415 b415 cS0 "block" cS4 .null := D415 (Or.inr (ow hw 128 rfl)) (ty := (.object cS3)) (by decide)
  have f456 : Fld Z h415 b415 cS0 "blockColumn" "[[I" .null := D415 (Or.inr (ow hw 132 rfl)) (ty := (.array (.array .int))) (by decide)
  have f457 : Fld Z h415 b415 cS0 "blockFactor" "I" (.int 0) := D415 (Or.inr (ow hw 134 rfl)) (ty := .int) (by decide)
  obtain ⟨_, _, ⟨T458, L458, k458, n458⟩, -, X458, ⟨Lc458, hQ458, l458, y458, z458⟩, st458⟩ := X415.specialBack hx (y := mN17) rfl hown (om hZ hw 117 rfl) (om hZ hw 118 rfl) (om hZ hw 119 rfl) (by decide) (backOf (W := 1) (rm21 l Z a0 hw [] b415 b3 (4 : Int32) b287 b357 (2 : Int32) (((2 : Int32) * (2 : Int32)) * ((2 : Int32) * (2 : Int32))) gx4 h415 n0 Z415 A415 f452 f453 f454 f455 f456 f457 f433 f445 f435 f447 f446 f430 ne419 ne418 ne423 (by decide) gg415) hZ (ow hw 119 rfl) (ow hw 32 rfl) (by decide) (by decide)) (g := (mkF m 326 #[vR rp, vR rl, vI 2, vR b3, vI 2, vI 4, vR b252, vR b261, vI 4, vR b287, vR b357, vR b357, (own_s qd271)] [(.ref b357), (.ref b287), (.int 4), (.ref b3), (.ref b415), (.ref b415)])) rfl (by rw [hml]; rfl) (Steps.refl _) (a := b415) (argsL := [(.ref b3), (.int 4), (.ref b287), (.ref b357)]) (rest := [(.ref b415)]) (lenOf pd_10 rfl) rfl (oz rfl) (q d5_326) (fun _ _ => ⟨rfl, e415, (by decide : 12 + 5 ≤ _), (by decide : 4386 + 1028 ≤ _)⟩)
  dsimp only [Pt.U, Pt.locs, Pt.cells, Pt.slots] at X458 l458 y458 z458 st458 hQ458
  subst y458 z458
  obtain ⟨rfl, N458q, K458c⟩ := hQ458
  have N458 := oF l458 N414 N458q
  have K458 := K415.trans K458c (allS (Or.inr sz415) all0)
  obtain ⟨fs, hr, hrun, hended, hW, hsame⟩ := X458.leave (v := some (.ref b415)) (oR Bd.returns) (hlocks := Bd.notSynchronized)
  refine ⟨_, _, pre250 _ ?_, hrun, hended, _, _, rfl, ?_, ⟨_, rfl⟩, hW, hsame.mono (by decide) (by decide)⟩
  ·show Steps p.tables e below (T10.setTop (mkF m 12 #[vR rp, vR rl, vI 2, vR b3, vU, vU, vU, vU, vU, vU, vU, vU, vU] [(.int 2)])) _
   refine XS.istore X10.here hx rfl (q d5_12) rfl (l' := #[vR rp, vR rl, vI 2, vR b3, vI 2, vU, vU, vU, vU, vU, vU, vU, vU]) rfl ?_
   refine XS.iloadN X10.here hx rfl (q d5_14) rfl ?_
   refine XS.iload X10.here hx rfl (q d5_15) rfl ?_
   refine st251 _ ?_
   refine XS.istore X251.here hx rfl (q d5_20) rfl (l' := #[vR rp, vR rl, vI 2, vR b3, vI 2, vI 4, vU, vU, vU, vU, vU, vU, vU]) rfl ?_
   refine XS.iload X251.here hx rfl (q d5_22) rfl ?_
   refine XS.ifYes X251.here hx rfl (pc0 := 24) (pc' := 29) rfl (q d5_24) rfl ((if0 _ _).trans (feq (by decide : ¬ ((4 : Int32) = (0 : Int32)))).2) (by decide) (by decide) ?_
   refine XS.iloadN X251.here hx rfl (q d5_29) rfl ?_
   refine XS.iconst X251.here hx rfl (q d5_30) ?_
   refine XS.iadd X251.here hx rfl (q d5_31) rfl ?_
   refine XS.iload X251.here hx rfl (q d5_32) rfl ?_
   refine XS.imul X251.here hx rfl (q d5_34) rfl ?_
   refine st252 _ ?_
   refine XS.astore X252.here hx rfl (q d5_37) rfl rfl (l' := #[vR rp, vR rl, vI 2, vR b3, vI 2, vI 4, vR b252, vU, vU, vU, vU, vU, vU]) rfl ?_
   refine XS.aload X252.here hx rfl (q d5_39) rfl rfl ?_
   refine X252.arraylength hx (by rw [e252]; exact Arcl260.1) (State.isArrayOf_alike hZ.alike Arcl260.2.1) (g := (mkF m 41 #[vR rp, vR rl, vI 2, vR b3, vI 2, vI 4, vR b252, vU, vU, vU, vU, vU, vU] [(.ref b252)])) rfl rfl (q d5_41) _ ?_
   rw [Szcl260]
   refine st261 _ ?_
   refine XS.astore X261.here hx rfl (q d5_44) rfl rfl (l' := #[vR rp, vR rl, vI 2, vR b3, vI 2, vI 4, vR b252, vR b261, vU, vU, vU, vU, vU]) rfl ?_
   refine XS.iconst X261.here hx rfl (q d5_46) ?_
   refine XS.istore X261.here hx rfl (q d5_47) rfl (l' := #[vR rp, vR rl, vI 2, vR b3, vI 2, vI 4, vR b252, vR b261, vI 0, vU, vU, vU, vU]) rfl ?_
   refine st271 _ ?_
   refine XS.iloadN X271.here hx rfl (q d5_211) rfl ?_
   refine XS.iload X271.here hx rfl (q d5_212) rfl ?_
   refine XS.imul X271.here hx rfl (q d5_214) rfl ?_
   refine XS.istore X271.here hx rfl (q d5_215) rfl (l' := #[vR rp, vR rl, vI 2, vR b3, vI 2, vI 4, vR b252, vR b261, vI 4, (own_s qa271), (own_s qb271), (own_s qc271), (own_s qd271)]) rfl ?_
   refine XS.aload X271.here hx rfl (q d5_217) rfl rfl ?_
   refine XS.aloadN X271.here hx rfl (q d5_219) rfl rfl ?_
   refine XS.iloadN X271.here hx rfl (q d5_220) rfl ?_
   refine XS.iconst X271.here hx rfl (q d5_221) ?_
   refine XS.isub X271.here hx rfl (q d5_222) rfl ?_
   refine X271.iaload hx (j := (1 : Int32)) (v := (.int (fl 1))) (by rw [e271]; exact Arcl275.1) (State.isArrayOf_alike hZ.alike Arcl275.2.1) Arcl275.2.2 hincl275 hatcl275 (g := (mkF m 223 #[vR rp, vR rl, vI 2, vR b3, vI 2, vI 4, vR b252, vR b261, vI 4, (own_s qa271), (own_s qb271), (own_s qc271), (own_s qd271)] [(.int 1), (.ref rl), (.ref b252)])) rfl rfl (q d5_223) _ ?_
   refine XS.iload X271.here hx rfl (q d5_224) rfl ?_
   refine XS.imul X271.here hx rfl (q d5_226) rfl ?_
   refine XS.aload X271.here hx rfl (q d5_227) rfl rfl ?_
   refine XS.iload X271.here hx rfl (q d5_229) rfl ?_
   refine XS.iload X271.here hx rfl (q d5_231) rfl ?_
   refine st276 _ ?_
   refine XS.aload X276.here hx rfl (q d5_236) rfl rfl ?_
   refine XS.aloadN X276.here hx rfl (q d5_238) rfl rfl ?_
   refine XS.iloadN X276.here hx rfl (q d5_239) rfl ?_
   refine XS.iconst X276.here hx rfl (q d5_240) ?_
   refine XS.isub X276.here hx rfl (q d5_241) rfl ?_
   refine X276.iaload hx (j := (1 : Int32)) (v := (.int (fl 1))) (by rw [e276]; exact Arcl281.1) (State.isArrayOf_alike hZ.alike Arcl281.2.1) Arcl281.2.2 hincl281 hatcl281 (g := (mkF m 242 #[vR rp, vR rl, vI 2, vR b3, vI 2, vI 4, vR b252, vR b261, vI 4, (own_s qa271), (own_s qb271), (own_s qc271), (own_s qd271)] [(.int 1), (.ref rl), (.ref b261)])) rfl rfl (q d5_242) _ ?_
   refine XS.iload X276.here hx rfl (q d5_243) rfl ?_
   refine XS.imul X276.here hx rfl (q d5_245) rfl ?_
   refine XS.aload X276.here hx rfl (q d5_246) rfl rfl ?_
   refine XS.iload X276.here hx rfl (q d5_248) rfl ?_
   refine XS.iload X276.here hx rfl (q d5_250) rfl ?_
   refine st282 _ ?_
   refine st287 _ ?_
   refine XS.dup X287.here hx rfl (q d5_258) rfl rfl ?_
   refine XS.iconst X287.here hx rfl (q d5_259) ?_
   refine XS.iload X287.here hx rfl (q d5_260) rfl ?_
   refine XS.aload X287.here hx rfl (q d5_262) rfl rfl ?_
   refine XS.aload X287.here hx rfl (q d5_264) rfl rfl ?_
   refine st302.trans ?_
   refine XS.astore X302.here hx rfl (q d5_269) rfl rfl (l' := #[vR rp, vR rl, vI 2, vR b3, vI 2, vI 4, vR b252, vR b261, vI 4, vR b287, (own_s qb271), (own_s qc271), (own_s qd271)]) (by cases qa271 <;> rfl) ?_
   refine XS.aconstNull X302.here hx rfl (q d5_271) ?_
   refine XS.astore X302.here hx rfl (q d5_272) rfl rfl (l' := #[vR rp, vR rl, vI 2, vR b3, vI 2, vI 4, vR b252, vR b261, vI 4, vR b287, .val .null, (own_s qc271), (own_s qd271)]) (by cases qb271 <;> rfl) ?_
   refine XS.aload X302.here hx rfl (q d5_274) rfl rfl ?_
   refine XS.astore X302.here hx rfl (q d5_276) rfl rfl (l' := #[vR rp, vR rl, vI 2, vR b3, vI 2, vI 4, vR b252, vR b261, vI 4, vR b287, .val .null, vR b287, (own_s qd271)]) (by cases qc271 <;> rfl) ?_
   refine XS.aload X302.here hx rfl (q d5_278) rfl rfl ?_
   refine st313.trans ?_
   refine XS.iload X313.here hx rfl (q d5_283) rfl ?_
   refine XS.icmpNo X313.here hx rfl (q d5_285) rfl (tlt (by decide : ((1 : Int32) < (4 : Int32)))).2.1 ?_
   refine XS.aload X313.here hx rfl (q d5_288) rfl rfl ?_
   refine XS.aload X313.here hx rfl (q d5_290) rfl rfl ?_
   refine XS.aload X313.here hx rfl (q d5_292) rfl rfl ?_
   refine Jvm.RoadKit.acmp (g := (mkF m 294 #[vR rp, vR rl, vI 2, vR b3, vI 2, vI 4, vR b252, vR b261, vI 4, vR b287, .val .null, vR b287, (own_s qd271)] [(.ref b287), (.ref b287), (.ref b287)])) X313 hx rfl rfl rfl (pc0 := 294) (pc' := 297) (same := true) rfl (q d5_294) rfl (decide_eq_true rfl) (by decide) (by decide) ?_
   refine XS.iload X313.here hx rfl (q d5_297) rfl ?_
   refine XS.goto X313.here hx rfl (pc0 := 299) (pc' := 303) rfl (q d5_299) (by decide) (by decide) ?_
   refine st314 _ ?_
   refine XS.astore X314.here hx rfl (q d5_306) rfl rfl (l' := #[vR rp, vR rl, vI 2, vR b3, vI 2, vI 4, vR b252, vR b261, vI 4, vR b287, vR b315, vR b287, (own_s qd271)]) rfl ?_
   refine XS.aload X314.here hx rfl (q d5_308) rfl rfl ?_
   refine XS.astore X314.here hx rfl (q d5_310) rfl rfl (l' := #[vR rp, vR rl, vI 2, vR b3, vI 2, vI 4, vR b252, vR b261, vI 4, vR b287, vR b315, vR b315, (own_s qd271)]) rfl ?_
   refine XS.goto X314.here hx rfl (pc0 := 312) (pc' := 278) rfl (q d5_312) (by decide) (by decide) ?_
   refine XS.aload X314.here hx rfl (q d5_278) rfl rfl ?_
   refine st355.trans ?_
   refine XS.iload X355.here hx rfl (q d5_283) rfl ?_
   refine XS.icmpNo X355.here hx rfl (q d5_285) rfl (tlt (by decide : ((2 : Int32) < (4 : Int32)))).2.1 ?_
   refine XS.aload X355.here hx rfl (q d5_288) rfl rfl ?_
   refine XS.aload X355.here hx rfl (q d5_290) rfl rfl ?_
   refine XS.aload X355.here hx rfl (q d5_292) rfl rfl ?_
   refine Jvm.RoadKit.acmp (g := (mkF m 294 #[vR rp, vR rl, vI 2, vR b3, vI 2, vI 4, vR b252, vR b261, vI 4, vR b287, vR b315, vR b315, (own_s qd271)] [(.ref b287), (.ref b315), (.ref b315)])) X355 hx rfl rfl rfl (pc0 := 294) (pc' := 302) (same := false) rfl (q d5_294) rfl (decide_eq_false fun q => (Ne.symm ne329) (Value.ref.inj q)) (by decide) (by decide) ?_
   refine XS.iconst X355.here hx rfl (q d5_302) ?_
   refine st356 _ ?_
   refine XS.astore X356.here hx rfl (q d5_306) rfl rfl (l' := #[vR rp, vR rl, vI 2, vR b3, vI 2, vI 4, vR b252, vR b261, vI 4, vR b287, vR b357, vR b315, (own_s qd271)]) rfl ?_
   refine XS.aload X356.here hx rfl (q d5_308) rfl rfl ?_
   refine XS.astore X356.here hx rfl (q d5_310) rfl rfl (l' := #[vR rp, vR rl, vI 2, vR b3, vI 2, vI 4, vR b252, vR b261, vI 4, vR b287, vR b357, vR b357, (own_s qd271)]) rfl ?_
   refine XS.goto X356.here hx rfl (pc0 := 312) (pc' := 278) rfl (q d5_312) (by decide) (by decide) ?_
   refine XS.aload X356.here hx rfl (q d5_278) rfl rfl ?_
   refine st414.trans ?_
   refine XS.iload X414.here hx rfl (q d5_283) rfl ?_
   refine XS.icmpYes X414.here hx rfl (pc0 := 285) (pc' := 315) rfl (q d5_285) rfl (flt (by decide : ¬ ((4 : Int32) < (4 : Int32)))).2.1 (by decide) (by decide) ?_
   refine st415 _ ?_
   refine XS.dup X415.here hx rfl (q d5_318) rfl rfl ?_
   refine XS.aloadN X415.here hx rfl (q d5_319) rfl rfl ?_
   refine XS.iload X415.here hx rfl (q d5_320) rfl ?_
   refine XS.aload X415.here hx rfl (q d5_322) rfl rfl ?_
   refine XS.aload X415.here hx rfl (q d5_324) rfl rfl ?_
   refine st458.trans ?_
   exact retOut X458 hx Bd.returns rfl (Or.inr (Or.inr (Or.inr (Or.inr ⟨rfl, rfl, rfl⟩)))) (q d5_329) hr
  ·show Q5k2 Z rp rl fp fl h0 n0 _ T458.heap _
   exact ⟨b415, gg415, sz415, rfl, N458, K458⟩
 ·have pre484 : oP p e below (T10.setTop (mkF m 12 #[vR rp, vR rl, vI 2, vR b3, vU, vU, vU, vU, vU, vU, vU, vU, vU] [(.int 3)])) (s₁.setTop (entryFrame m #[(.ref rp), (.ref rl)] 13)) := by
   intro t k
   refine pre14 _ ?_
   rw [hk15]
   exact k
  obtain ⟨_, _, ⟨T485, L485, k485, n485⟩, -, X485, ⟨Lc485, hQ485, l485, y485, z485⟩, st485⟩ := Jvm.LawKit.callS X10 hx (y := mN2) hown (om hZ hw 48 rfl) (om hZ hw 49 rfl) (om hZ hw 32 rfl) (om hZ hw 50 rfl) (by decide) (backOf (W := 0) (rm9m2c3 l Z a0 hw []  T10.heap n0 Z10 ) hZ (ow hw 50 rfl) (ow hw 32 rfl) (by decide) (by decide)) (g := (mkF m 17 #[vR rp, vR rl, vI 2, vR b3, vI 3, vU, vU, vU, vU, vU, vU, vU, vU] [(.int 3), (.int 2)])) rfl (by rw [hml]; rfl) (argsL := [(.int 2), (.int 3)]) (rest := []) (lenOf pd_2 rfl) rfl (oz rfl) (q d5_17) (fun _ _ => ⟨rfl, rfl, (by decide : 2 + 0 ≤ _), (by decide : 260 + 0 ≤ _)⟩)
  dsimp only [Pt.U, Pt.locs, Pt.cells, Pt.slots] at X485 l485 y485 z485 st485 hQ485
  subst y485 z485
  obtain ⟨rfl, N485q, e485⟩ := hQ485
  have N485 := oF l485 N10 N485q
  obtain ⟨T486, h486, k486, X486, e486, E486, A486, st486⟩ := newP X485 hx hZ (ow hw 2 rfl) e485 (g := (mkF m 35 #[vR rp, vR rl, vI 2, vR b3, vI 3, vI 4, vU, vU, vU, vU, vU, vU, vU] [(.int 9)])) rfl (q d5_35) rfl (by decide) (cap := 9) (by decide) (by decide) (by decide) (by decide)
  obtain ⟨b486, g486⟩ : ∃ z, z = T10.heap.size := ⟨_, rfl⟩
  rw [← g486] at A486 st486
  have ne487 := oN f13.lt g486
  have ne488 := oN f12.lt g486
  have ne489 := oN f11.lt g486
  have gg486 := oL Z10 g486
  have sz486 := oL K10.1 g486
  have f490 := f11.ext E486
  have f491 := f12.ext E486
  have f492 := f13.ext E486
  have Z486 := Nat.le_trans Z10 E486.1
  have K486 := K10.ext E486
  have f493 : AI Z h486 b486 .int 9 zI := AF.new A486 (by decide)
  obtain ⟨cl494, Arcl494, Szcl494⟩ := AF.len f493
  obtain ⟨T495, h495, k495, X495, e495, E495, A495, st495⟩ := newP X486 hx hZ (ow hw 2 rfl) e486 (g := (mkF m 42 #[vR rp, vR rl, vI 2, vR b3, vI 3, vI 4, vR b486, vU, vU, vU, vU, vU, vU] [(.int 9)])) rfl (q d5_42) rfl (by decide) (cap := 9) (by decide) (by decide) (by decide) (by decide)
  obtain ⟨b495, g495⟩ : ∃ z, z = h486.size := ⟨_, rfl⟩
  rw [← g495] at A495 st495
  have ne496 := oN f492.lt g495
  have ne497 := oN f493.lt g495
  have ne498 := oN f491.lt g495
  have ne499 := oN f490.lt g495
  have gg495 := oL Z486 g495
  have sz495 := oL K486.1 g495
  have f500 := f490.ext E495
  have f501 := f491.ext E495
  have f502 := f492.ext E495
  have f503 := f493.ext E495
  have Z495 := Nat.le_trans Z486 E495.1
  have K495 := K486.ext E495
  have f504 : AI Z h495 b495 .int 9 zI := AF.new A495 (by decide)
  obtain ⟨T505, h505, L505, so505, qa505, qb505, qc505, qd505, fn505, fc505, X505, e505, N505, Kl505, An505, ok505, Ac505, st505⟩ := ofO rp rl (2 : Int32) b3 (3 : Int32) (4 : Int32) b486 b495 2 3 9 fp fl gx4 hx hZ hw hby hml hown (by decide) (by decide) (by decide) (by decide) (by decide) hfl gg486 gg495 ne497 ne489 ne499 ne488 ne498 ne487 ne496 2 T495 _ h495 (0 : Int32) 0 none none none none zI zI (by decide) rfl X495 e495 N485 f500 f501 f502 f503 (fun j _ => ⟨0, rfl, Nat.zero_le _⟩) f504
  have Z505 := Nat.le_trans Z495 Kl505.1
  have K505 := K495.trans Kl505 (allS (Or.inr sz486) (allS (Or.inr sz495) all0))
  have f507 := f501.keep Kl505 (ninS ne488 (ninS ne498 nin0))
  have f508 := f502.keep Kl505 (ninS ne487 (ninS ne496 nin0))
  obtain ⟨cl509, Arcl509, hincl509, hatcl509⟩ := AF.at f507 (j := (1 : Int32)) 1 (by decide) (by decide)
  obtain ⟨kl510, hkl510, hkm510⟩ := hfl 1 (by decide)
  obtain ⟨hsp510, hsq510⟩ := own_spm (cc := (3 : Int32)) (cn := 3) hkl510 (by decide) (Nat.le_trans hkm510 (by decide : 1 ≤ 2)) (by decide)
  obtain ⟨T510, h510, L510, fy510, X510, e510, N510, Kl510, Ay510, py510, st510⟩ := own_cp X505 hx hZ hown (ow hw 68 rfl) (ow hw 71 rfl) (ow hw 69 rfl) (ow hw 70 rfl) e505 An505 (by decide) hsp510 (by decide : (6 : Int32).toInt = ((6 : Nat) : Int)) (by decide : (3 : Int32).toInt = ((3 : Nat) : Int)) hsq510 (by decide) N505 gg486 (g := (mkF m 233 #[vR rp, vR rl, vI 2, vR b3, vI 3, vI 4, vR b486, vR b495, vI 6, (own_s qa505), (own_s qb505), (own_s qc505), (own_s qd505)] [(.int 3), (.int 6), (.ref b486), (.int ((fl 1) * (3 : Int32))), (.ref b486)])) rfl (by rw [hml]; rfl) rfl (q d5_233) (by decide) (W := 0) (oz rfl) (by decide)
  have Z510 := Nat.le_trans Z505 Kl510.1
  have K510 := K505.trans Kl510 (allS (Or.inr sz486) all0)
  have f512 := f507.keep Kl510 (ninS ne488 nin0)
  have f513 := f508.keep Kl510 (ninS ne487 nin0)
  have f514 := Ac505.keep Kl510 (ninS (Ne.symm ne497) nin0)
  have okc510 := py510 _ ok505
  obtain ⟨cl515, Arcl515, hincl515, hatcl515⟩ := AF.at f512 (j := (1 : Int32)) 1 (by decide) (by decide)
  obtain ⟨kl516, hkl516, hkm516⟩ := hfl 1 (by decide)
  obtain ⟨hsp516, hsq516⟩ := own_spm (cc := (3 : Int32)) (cn := 3) hkl516 (by decide) (Nat.le_trans hkm516 (by decide : 1 ≤ 2)) (by decide)
  obtain ⟨T516, h516, L516, fy516, X516, e516, N516, Kl516, Ay516, py516, st516⟩ := own_cp X510 hx hZ hown (ow hw 68 rfl) (ow hw 71 rfl) (ow hw 69 rfl) (ow hw 70 rfl) e510 f514 (by decide) hsp516 (by decide : (6 : Int32).toInt = ((6 : Nat) : Int)) (by decide : (3 : Int32).toInt = ((3 : Nat) : Int)) hsq516 (by decide) N510 gg495 (g := (mkF m 252 #[vR rp, vR rl, vI 2, vR b3, vI 3, vI 4, vR b486, vR b495, vI 6, (own_s qa505), (own_s qb505), (own_s qc505), (own_s qd505)] [(.int 3), (.int 6), (.ref b495), (.int ((fl 1) * (3 : Int32))), (.ref b495)])) rfl (by rw [hml]; rfl) rfl (q d5_252) (by decide) (W := 0) (oz rfl) (by decide)
  have Z516 := Nat.le_trans Z510 Kl516.1
  have K516 := K510.trans Kl516 (allS (Or.inr sz495) all0)
  have f519 := f513.keep Kl516 (ninS ne496 nin0)
  have f520 := Ay510.keep Kl516 (ninS ne497 nin0)
  obtain ⟨T521, h521, X521, e521, E521, A521, D521, -, st521⟩ := newO X516 hx hZ hown (ow hw 72 rfl) (ow hw 73 rfl) (ow hw 74 rfl) e516 (g := (mkF m 255 #[vR rp, vR rl, vI 2, vR b3, vI 3, vI 4, vR b486, vR b495, vI 6, (own_s qa505), (own_s qb505), (own_s qc505), (own_s qd505)] [])) rfl (q d5_255) (by decide) (by decide)
  obtain ⟨b521, g521⟩ : ∃ z, z = h516.size := ⟨_, rfl⟩
  rw [← g521] at A521 D521 st521
  have ne522 := oN f519.lt g521
  have ne523 := oN f520.lt g521
  have ne524 := oN Ay516.lt g521
  have gg521 := oL Z516 g521
  have sz521 := oL K516.1 g521
  have f529 := f519.ext E521
  have f530 := f520.ext E521
  have f531 := Ay516.ext E521
  have Z521 := Nat.le_trans Z516 E521.1
  have K521 := K516.ext E521
  have f532 : Fld Z h521 b521 cS3 "width" "I" (.int 0) := D521 (Or.inr (ow hw 85 rfl)) (ty := .int) (by decide)
  have f533 : Fld Z h521 b521 cS3 "columns" "I" (.int 0) := D521 (Or.inr (ow hw 87 rfl)) (ty := .int) (by decide)
  have f534 : Fld Z h521 b521 cS3 "next" "[I" .null := D521 (Or.inr (ow hw 89 rfl)) (ty := (.array .int)) (by decide)
  have f535 : Fld Z h521 b521 cS3 "comparisons" "[I" .null := D521 (Or.inr (ow hw 91 rfl)) (ty := (.array .int)) (by decide)
  obtain ⟨_, _, ⟨T536, L536, k536, n536⟩, -, X536, ⟨Lc536, hQ536, l536, y536, z536⟩, st536⟩ := X521.specialBack hx (y := mN11) rfl hown (om hZ hw 75 rfl) (om hZ hw 76 rfl) (om hZ hw 77 rfl) (by decide) (backOf (W := 1) (rm14 l Z a0 hw [] b521 (1 : Int32) (3 : Int32) b486 b495 h521 n0 Z521 A521 f532 f533 f534 f535 gg521) hZ (ow hw 77 rfl) (ow hw 74 rfl) (by decide) (by decide)) (g := (mkF m 266 #[vR rp, vR rl, vI 2, vR b3, vI 3, vI 4, vR b486, vR b495, vI 6, (own_s qa505), (own_s qb505), (own_s qc505), (own_s qd505)] [(.ref b495), (.ref b486), (.int 3), (.int 1), (.ref b521), (.ref b521)])) rfl (by rw [hml]; rfl) (Steps.refl _) (a := b521) (argsL := [(.int 1), (.int 3), (.ref b486), (.ref b495)]) (rest := [(.ref b521)]) (lenOf pd_7 rfl) rfl (oz rfl) (q d5_266) (fun _ _ => ⟨rfl, e521, (by decide : 5 + 0 ≤ _), (by decide : 282 + 0 ≤ _)⟩)
  dsimp only [Pt.U, Pt.locs, Pt.cells, Pt.slots] at X536 l536 y536 z536 st536 hQ536
  subst y536 z536
  obtain ⟨rfl, N536q, K536c, f537, f538, f539, f540⟩ := hQ536
  have N536 := oF l536 N516 N536q
  have f543 := f529.keep K536c (ninS ne522 nin0)
  have f544 := f530.keep K536c (ninS ne523 nin0)
  have f545 := f531.keep K536c (ninS ne524 nin0)
  have f546 := A521.keep K536c
  have Z536 := Nat.le_trans Z521 K536c.1
  have K536 := K521.trans K536c (allS (Or.inr sz521) all0)
  obtain ⟨cq547, kq547, q547a, q547b, q547c⟩ := isOf hZ rfl f546
  obtain ⟨_, _, ⟨T547, L547, k547, n547⟩, -, X547, ⟨Lc547, hQ547, l547, y547, z547⟩, st547⟩ := X536.virtualBack hx (y := mN12) (z := mN12) hown (om hZ hw 92 rfl) (om hZ hw 93 rfl) (notFace_of_selects (args := #[]) (om hZ hw 95 rfl)) (om hZ hw 95 rfl) (om hZ hw 94 rfl) (by decide) (backOf (W := 0) (rm16 l Z a0 hw [] b521 (1 : Int32) T536.heap n0 Z536 f537) hZ (ow hw 96 rfl) (ow hw 74 rfl) (by decide) (by decide)) q547a q547c (g := (mkF m 280 #[vR rp, vR rl, vI 2, vR b3, vI 3, vI 4, vR b486, vR b495, vI 6, vR b521, .val .null, vR b521, (own_s qd505)] [(.ref b521)])) rfl (by rw [hml]; rfl) (Steps.refl _) (argsL := []) (rest := []) (lenOf pd_5 rfl) rfl (oz rfl) (q d5_280) (fun _ _ => ⟨rfl, rfl, (by decide : 5 + 0 ≤ _), (by decide : 282 + 0 ≤ _)⟩)
  dsimp only [Pt.U, Pt.locs, Pt.cells, Pt.slots] at X547 l547 y547 z547 st547 hQ547
  subst y547 z547
  obtain ⟨rfl, N547q, e547⟩ := hQ547
  have N547 := oF l547 N536 N547q
  obtain ⟨_, _, ⟨T548, L548, k548, n548⟩, -, X548, ⟨Lc548, hQ548, l548, y548, z548⟩, st548⟩ := Jvm.LawKit.callS X547 hx (y := mN16) hown (om hZ hw 97 rfl) (om hZ hw 98 rfl) (om hZ hw 32 rfl) (om hZ hw 99 rfl) (by decide) (backOf (W := 0) (rm17a l Z a0 hw [] b521 (6 : Int32) (3 : Int32) b486 b495 9 3 fy510 fy516 T536.heap n0 Z536 f546 f537 f538 f539 f540 f544 f545 (by decide) (by decide) (by decide) (by decide) (fun j hj => own_okt (okc510 j hj) (by decide))) hZ (ow hw 99 rfl) (ow hw 32 rfl) (by decide) (by decide)) (g := (mkF m 303 #[vR rp, vR rl, vI 2, vR b3, vI 3, vI 4, vR b486, vR b495, vI 6, vR b521, .val .null, vR b521, (own_s qd505)] [(.int 6), (.ref b521)])) rfl (by rw [hml]; rfl) (argsL := [(.ref b521), (.int 6)]) (rest := []) (lenOf pd_9 rfl) rfl (oz rfl) (q d5_303) (fun _ _ => ⟨rfl, e547, (by decide : 5 + 3 ≤ _), (by decide : 282 + 2052 ≤ _)⟩)
  dsimp only [Pt.U, Pt.locs, Pt.cells, Pt.slots] at X548 l548 y548 z548 st548 hQ548
  subst y548 z548
  obtain ⟨b549, b550, b551, gx552, gx553, ggb549, szb549, ggb550, szb550, ggb551, szb551, ne548_0, ne548_1, ne548_2, rfl, N548q, K548c, f554, f555, f556, f557, f558, f559, f560, okw3⟩ := hQ548
  have N548 := oF l548 N547 N548q
  have ne564 := oM f546.lt szb549
  have f581 := f543.keep K548c nin0
  have f584 := f546.keep K548c
  have f586 := f538.keep K548c nin0
  have Z548 := Nat.le_trans Z536 K548c.1
  have K548 := K536.trans K548c all0
  obtain ⟨cq589, kq589, q589a, q589b, q589c⟩ := isOf hZ rfl f554
  obtain ⟨_, _, ⟨T589, L589, k589, n589⟩, -, X589, ⟨Lc589, hQ589, l589, y589, z589⟩, st589⟩ := X548.virtualBack hx (y := mN12) (z := mN12) hown (om hZ hw 92 rfl) (om hZ hw 93 rfl) (notFace_of_selects (args := #[]) (om hZ hw 95 rfl)) (om hZ hw 95 rfl) (om hZ hw 94 rfl) (by decide) (backOf (W := 0) (rm16 l Z a0 hw [] b549 (2 : Int32) T548.heap n0 Z548 f555) hZ (ow hw 96 rfl) (ow hw 74 rfl) (by decide) (by decide)) q589a q589c (g := (mkF m 280 #[vR rp, vR rl, vI 2, vR b3, vI 3, vI 4, vR b486, vR b495, vI 6, vR b521, vR b549, vR b549, (own_s qd505)] [(.ref b549)])) rfl (by rw [hml]; rfl) (Steps.refl _) (argsL := []) (rest := []) (lenOf pd_5 rfl) rfl (oz rfl) (q d5_280) (fun _ _ => ⟨rfl, rfl, (by decide : 8 + 0 ≤ _), (by decide : 2334 + 0 ≤ _)⟩)
  dsimp only [Pt.U, Pt.locs, Pt.cells, Pt.slots] at X589 l589 y589 z589 st589 hQ589
  subst y589 z589
  obtain ⟨rfl, N589q, e589⟩ := hQ589
  have N589 := oF l589 N548 N589q
  obtain ⟨_, _, ⟨T590, L590, k590, n590⟩, -, X590, ⟨Lc590, hQ590, l590, y590, z590⟩, st590⟩ := Jvm.LawKit.callS X589 hx (y := mN16) hown (om hZ hw 97 rfl) (om hZ hw 98 rfl) (om hZ hw 32 rfl) (om hZ hw 99 rfl) (by decide) (backOf (W := 0) (rm17b l Z a0 hw [] b549 (-1 : Int32) ((3 : Int32) * (3 : Int32)) b550 b551 (9 * 3) (3 * 3) gx552 gx553 T548.heap n0 Z548 f554 f555 f556 f557 f558 f559 f560 (by decide) (by decide) (by decide) (by decide) (okw3)) hZ (ow hw 99 rfl) (ow hw 32 rfl) (by decide) (by decide)) (g := (mkF m 303 #[vR rp, vR rl, vI 2, vR b3, vI 3, vI 4, vR b486, vR b495, vI 6, vR b521, vR b549, vR b549, (own_s qd505)] [(.int (-1 : Int32)), (.ref b549)])) rfl (by rw [hml]; rfl) (argsL := [(.ref b549), (.int (-1 : Int32))]) (rest := []) (lenOf pd_9 rfl) rfl (oz rfl) (q d5_303) (fun _ _ => ⟨rfl, e589, (by decide : 8 + 3 ≤ _), (by decide : 2334 + 2052 ≤ _)⟩)
  dsimp only [Pt.U, Pt.locs, Pt.cells, Pt.slots] at X590 l590 y590 z590 st590 hQ590
  subst y590 z590
  obtain ⟨b591, b592, b593, gx594, gx595, ggb591, szb591, ggb592, szb592, ggb593, szb593, ne590_0, ne590_1, ne590_2, rfl, N590q, K590c, f596, f597, f598, f599, f600, f601, f602, hq603⟩ := hQ590
  have N590 := oF l590 N589 N590q
  have f633 := f581.keep K590c nin0
  have f636 := f584.keep K590c
  have f638 := f586.keep K590c nin0
  have Z590 := Nat.le_trans Z548 K590c.1
  have K590 := K548.trans K590c all0
  obtain ⟨cq648, kq648, q648a, q648b, q648c⟩ := isOf hZ rfl f596
  obtain ⟨_, _, ⟨T648, L648, k648, n648⟩, -, X648, ⟨Lc648, hQ648, l648, y648, z648⟩, st648⟩ := X590.virtualBack hx (y := mN12) (z := mN12) hown (om hZ hw 92 rfl) (om hZ hw 93 rfl) (notFace_of_selects (args := #[]) (om hZ hw 95 rfl)) (om hZ hw 95 rfl) (om hZ hw 94 rfl) (by decide) (backOf (W := 0) (rm16 l Z a0 hw [] b591 (4 : Int32) T590.heap n0 Z590 f597) hZ (ow hw 96 rfl) (ow hw 74 rfl) (by decide) (by decide)) q648a q648c (g := (mkF m 280 #[vR rp, vR rl, vI 2, vR b3, vI 3, vI 4, vR b486, vR b495, vI 6, vR b521, vR b591, vR b591, (own_s qd505)] [(.ref b591)])) rfl (by rw [hml]; rfl) (Steps.refl _) (argsL := []) (rest := []) (lenOf pd_5 rfl) rfl (oz rfl) (q d5_280) (fun _ _ => ⟨rfl, rfl, (by decide : 11 + 0 ≤ _), (by decide : 4386 + 0 ≤ _)⟩)
  dsimp only [Pt.U, Pt.locs, Pt.cells, Pt.slots] at X648 l648 y648 z648 st648 hQ648
  subst y648 z648
  obtain ⟨rfl, N648q, e648⟩ := hQ648
  have N648 := oF l648 N590 N648q
  obtain ⟨T649, h649, X649, e649, E649, A649, D649, -, st649⟩ := newO X648 hx hZ hown (ow hw 115 rfl) (ow hw 116 rfl) (ow hw 32 rfl) e648 (g := (mkF m 315 #[vR rp, vR rl, vI 2, vR b3, vI 3, vI 4, vR b486, vR b495, vI 6, vR b521, vR b591, vR b591, (own_s qd505)] [])) rfl (q d5_315) (by decide) (by decide)
  obtain ⟨b649, g649⟩ : ∃ z, z = T590.heap.size := ⟨_, rfl⟩
  rw [← g649] at A649 D649 st649
  have ne650 := oN f633.lt g649
  have ne653 := oN f636.lt g649
  have ne657 := oN f596.lt g649
  have gg649 := oL Z590 g649
  have sz649 := oL K590.1 g649
  have f664 := f633.ext E649
  have f667 := f636.ext E649
  have f669 := f638.ext E649
  have f679 := f596.ext E649
  have f680 := f597.ext E649
  have f681 := f598.ext E649
  have Z649 := Nat.le_trans Z590 E649.1
  have K649 := K590.ext E649
  have f686 : Fld Z h649 b649 cS0 "column" "[I" .null := D649 (Or.inr (ow hw 122 rfl)) (ty := (.array .int)) (by decide)
  have f687 : Fld Z h649 b649 cS0 "occurrenceRow" "I" (.int 0) := D649 (Or.inr (ow hw 124 rfl)) (ty := .int) (by decide)
  have f688 : Fld Z h649 b649 cS0 "single" cS4 .null := D649 (Or.inr (ow hw 126 rfl)) (ty := (.object cS3)) (by decide)
  have f689 : Fld Z h649 b649 cS0 "block" cS4 .null := D649 (Or.inr (ow hw 128 rfl)) (ty := (.object cS3)) (by decide)
  have f690 : Fld Z h649 b649 cS0 "blockColumn" "[[I" .null := D649 (Or.inr (ow hw 132 rfl)) (ty := (.array (.array .int))) (by decide)
  have f691 : Fld Z h649 b649 cS0 "blockFactor" "I" (.int 0) := D649 (Or.inr (ow hw 134 rfl)) (ty := .int) (by decide)
  obtain ⟨_, _, ⟨T692, L692, k692, n692⟩, -, X692, ⟨Lc692, hQ692, l692, y692, z692⟩, st692⟩ := X649.specialBack hx (y := mN17) rfl hown (om hZ hw 117 rfl) (om hZ hw 118 rfl) (om hZ hw 119 rfl) (by decide) (backOf (W := 1) (rm21 l Z a0 hw [] b649 b3 (6 : Int32) b521 b591 (3 : Int32) (((3 : Int32) * (3 : Int32)) * ((3 : Int32) * (3 : Int32))) gx4 h649 n0 Z649 A649 f686 f687 f688 f689 f690 f691 f667 f679 f669 f681 f680 f664 ne650 ne653 ne657 (by decide) gg649) hZ (ow hw 119 rfl) (ow hw 32 rfl) (by decide) (by decide)) (g := (mkF m 326 #[vR rp, vR rl, vI 2, vR b3, vI 3, vI 4, vR b486, vR b495, vI 6, vR b521, vR b591, vR b591, (own_s qd505)] [(.ref b591), (.ref b521), (.int 6), (.ref b3), (.ref b649), (.ref b649)])) rfl (by rw [hml]; rfl) (Steps.refl _) (a := b649) (argsL := [(.ref b3), (.int 6), (.ref b521), (.ref b591)]) (rest := [(.ref b649)]) (lenOf pd_10 rfl) rfl (oz rfl) (q d5_326) (fun _ _ => ⟨rfl, e649, (by decide : 12 + 5 ≤ _), (by decide : 4392 + 1028 ≤ _)⟩)
  dsimp only [Pt.U, Pt.locs, Pt.cells, Pt.slots] at X692 l692 y692 z692 st692 hQ692
  subst y692 z692
  obtain ⟨rfl, N692q, K692c⟩ := hQ692
  have N692 := oF l692 N648 N692q
  have K692 := K649.trans K692c (allS (Or.inr sz649) all0)
  obtain ⟨fs, hr, hrun, hended, hW, hsame⟩ := X692.leave (v := some (.ref b649)) (oR Bd.returns) (hlocks := Bd.notSynchronized)
  refine ⟨_, _, pre484 _ ?_, hrun, hended, _, _, rfl, ?_, ⟨_, rfl⟩, hW, hsame.mono (by decide) (by decide)⟩
  ·show Steps p.tables e below (T10.setTop (mkF m 12 #[vR rp, vR rl, vI 2, vR b3, vU, vU, vU, vU, vU, vU, vU, vU, vU] [(.int 3)])) _
   refine XS.istore X10.here hx rfl (q d5_12) rfl (l' := #[vR rp, vR rl, vI 2, vR b3, vI 3, vU, vU, vU, vU, vU, vU, vU, vU]) rfl ?_
   refine XS.iloadN X10.here hx rfl (q d5_14) rfl ?_
   refine XS.iload X10.here hx rfl (q d5_15) rfl ?_
   refine st485 _ ?_
   refine XS.istore X485.here hx rfl (q d5_20) rfl (l' := #[vR rp, vR rl, vI 2, vR b3, vI 3, vI 4, vU, vU, vU, vU, vU, vU, vU]) rfl ?_
   refine XS.iload X485.here hx rfl (q d5_22) rfl ?_
   refine XS.ifYes X485.here hx rfl (pc0 := 24) (pc' := 29) rfl (q d5_24) rfl ((if0 _ _).trans (feq (by decide : ¬ ((4 : Int32) = (0 : Int32)))).2) (by decide) (by decide) ?_
   refine XS.iloadN X485.here hx rfl (q d5_29) rfl ?_
   refine XS.iconst X485.here hx rfl (q d5_30) ?_
   refine XS.iadd X485.here hx rfl (q d5_31) rfl ?_
   refine XS.iload X485.here hx rfl (q d5_32) rfl ?_
   refine XS.imul X485.here hx rfl (q d5_34) rfl ?_
   refine st486 _ ?_
   refine XS.astore X486.here hx rfl (q d5_37) rfl rfl (l' := #[vR rp, vR rl, vI 2, vR b3, vI 3, vI 4, vR b486, vU, vU, vU, vU, vU, vU]) rfl ?_
   refine XS.aload X486.here hx rfl (q d5_39) rfl rfl ?_
   refine X486.arraylength hx (by rw [e486]; exact Arcl494.1) (State.isArrayOf_alike hZ.alike Arcl494.2.1) (g := (mkF m 41 #[vR rp, vR rl, vI 2, vR b3, vI 3, vI 4, vR b486, vU, vU, vU, vU, vU, vU] [(.ref b486)])) rfl rfl (q d5_41) _ ?_
   rw [Szcl494]
   refine st495 _ ?_
   refine XS.astore X495.here hx rfl (q d5_44) rfl rfl (l' := #[vR rp, vR rl, vI 2, vR b3, vI 3, vI 4, vR b486, vR b495, vU, vU, vU, vU, vU]) rfl ?_
   refine XS.iconst X495.here hx rfl (q d5_46) ?_
   refine XS.istore X495.here hx rfl (q d5_47) rfl (l' := #[vR rp, vR rl, vI 2, vR b3, vI 3, vI 4, vR b486, vR b495, vI 0, vU, vU, vU, vU]) rfl ?_
   refine st505 _ ?_
   refine XS.iloadN X505.here hx rfl (q d5_211) rfl ?_
   refine XS.iload X505.here hx rfl (q d5_212) rfl ?_
   refine XS.imul X505.here hx rfl (q d5_214) rfl ?_
   refine XS.istore X505.here hx rfl (q d5_215) rfl (l' := #[vR rp, vR rl, vI 2, vR b3, vI 3, vI 4, vR b486, vR b495, vI 6, (own_s qa505), (own_s qb505), (own_s qc505), (own_s qd505)]) rfl ?_
   refine XS.aload X505.here hx rfl (q d5_217) rfl rfl ?_
   refine XS.aloadN X505.here hx rfl (q d5_219) rfl rfl ?_
   refine XS.iloadN X505.here hx rfl (q d5_220) rfl ?_
   refine XS.iconst X505.here hx rfl (q d5_221) ?_
   refine XS.isub X505.here hx rfl (q d5_222) rfl ?_
   refine X505.iaload hx (j := (1 : Int32)) (v := (.int (fl 1))) (by rw [e505]; exact Arcl509.1) (State.isArrayOf_alike hZ.alike Arcl509.2.1) Arcl509.2.2 hincl509 hatcl509 (g := (mkF m 223 #[vR rp, vR rl, vI 2, vR b3, vI 3, vI 4, vR b486, vR b495, vI 6, (own_s qa505), (own_s qb505), (own_s qc505), (own_s qd505)] [(.int 1), (.ref rl), (.ref b486)])) rfl rfl (q d5_223) _ ?_
   refine XS.iload X505.here hx rfl (q d5_224) rfl ?_
   refine XS.imul X505.here hx rfl (q d5_226) rfl ?_
   refine XS.aload X505.here hx rfl (q d5_227) rfl rfl ?_
   refine XS.iload X505.here hx rfl (q d5_229) rfl ?_
   refine XS.iload X505.here hx rfl (q d5_231) rfl ?_
   refine st510 _ ?_
   refine XS.aload X510.here hx rfl (q d5_236) rfl rfl ?_
   refine XS.aloadN X510.here hx rfl (q d5_238) rfl rfl ?_
   refine XS.iloadN X510.here hx rfl (q d5_239) rfl ?_
   refine XS.iconst X510.here hx rfl (q d5_240) ?_
   refine XS.isub X510.here hx rfl (q d5_241) rfl ?_
   refine X510.iaload hx (j := (1 : Int32)) (v := (.int (fl 1))) (by rw [e510]; exact Arcl515.1) (State.isArrayOf_alike hZ.alike Arcl515.2.1) Arcl515.2.2 hincl515 hatcl515 (g := (mkF m 242 #[vR rp, vR rl, vI 2, vR b3, vI 3, vI 4, vR b486, vR b495, vI 6, (own_s qa505), (own_s qb505), (own_s qc505), (own_s qd505)] [(.int 1), (.ref rl), (.ref b495)])) rfl rfl (q d5_242) _ ?_
   refine XS.iload X510.here hx rfl (q d5_243) rfl ?_
   refine XS.imul X510.here hx rfl (q d5_245) rfl ?_
   refine XS.aload X510.here hx rfl (q d5_246) rfl rfl ?_
   refine XS.iload X510.here hx rfl (q d5_248) rfl ?_
   refine XS.iload X510.here hx rfl (q d5_250) rfl ?_
   refine st516 _ ?_
   refine st521 _ ?_
   refine XS.dup X521.here hx rfl (q d5_258) rfl rfl ?_
   refine XS.iconst X521.here hx rfl (q d5_259) ?_
   refine XS.iload X521.here hx rfl (q d5_260) rfl ?_
   refine XS.aload X521.here hx rfl (q d5_262) rfl rfl ?_
   refine XS.aload X521.here hx rfl (q d5_264) rfl rfl ?_
   refine st536.trans ?_
   refine XS.astore X536.here hx rfl (q d5_269) rfl rfl (l' := #[vR rp, vR rl, vI 2, vR b3, vI 3, vI 4, vR b486, vR b495, vI 6, vR b521, (own_s qb505), (own_s qc505), (own_s qd505)]) (by cases qa505 <;> rfl) ?_
   refine XS.aconstNull X536.here hx rfl (q d5_271) ?_
   refine XS.astore X536.here hx rfl (q d5_272) rfl rfl (l' := #[vR rp, vR rl, vI 2, vR b3, vI 3, vI 4, vR b486, vR b495, vI 6, vR b521, .val .null, (own_s qc505), (own_s qd505)]) (by cases qb505 <;> rfl) ?_
   refine XS.aload X536.here hx rfl (q d5_274) rfl rfl ?_
   refine XS.astore X536.here hx rfl (q d5_276) rfl rfl (l' := #[vR rp, vR rl, vI 2, vR b3, vI 3, vI 4, vR b486, vR b495, vI 6, vR b521, .val .null, vR b521, (own_s qd505)]) (by cases qc505 <;> rfl) ?_
   refine XS.aload X536.here hx rfl (q d5_278) rfl rfl ?_
   refine st547.trans ?_
   refine XS.iload X547.here hx rfl (q d5_283) rfl ?_
   refine XS.icmpNo X547.here hx rfl (q d5_285) rfl (tlt (by decide : ((1 : Int32) < (4 : Int32)))).2.1 ?_
   refine XS.aload X547.here hx rfl (q d5_288) rfl rfl ?_
   refine XS.aload X547.here hx rfl (q d5_290) rfl rfl ?_
   refine XS.aload X547.here hx rfl (q d5_292) rfl rfl ?_
   refine Jvm.RoadKit.acmp (g := (mkF m 294 #[vR rp, vR rl, vI 2, vR b3, vI 3, vI 4, vR b486, vR b495, vI 6, vR b521, .val .null, vR b521, (own_s qd505)] [(.ref b521), (.ref b521), (.ref b521)])) X547 hx rfl rfl rfl (pc0 := 294) (pc' := 297) (same := true) rfl (q d5_294) rfl (decide_eq_true rfl) (by decide) (by decide) ?_
   refine XS.iload X547.here hx rfl (q d5_297) rfl ?_
   refine XS.goto X547.here hx rfl (pc0 := 299) (pc' := 303) rfl (q d5_299) (by decide) (by decide) ?_
   refine st548 _ ?_
   refine XS.astore X548.here hx rfl (q d5_306) rfl rfl (l' := #[vR rp, vR rl, vI 2, vR b3, vI 3, vI 4, vR b486, vR b495, vI 6, vR b521, vR b549, vR b521, (own_s qd505)]) rfl ?_
   refine XS.aload X548.here hx rfl (q d5_308) rfl rfl ?_
   refine XS.astore X548.here hx rfl (q d5_310) rfl rfl (l' := #[vR rp, vR rl, vI 2, vR b3, vI 3, vI 4, vR b486, vR b495, vI 6, vR b521, vR b549, vR b549, (own_s qd505)]) rfl ?_
   refine XS.goto X548.here hx rfl (pc0 := 312) (pc' := 278) rfl (q d5_312) (by decide) (by decide) ?_
   refine XS.aload X548.here hx rfl (q d5_278) rfl rfl ?_
   refine st589.trans ?_
   refine XS.iload X589.here hx rfl (q d5_283) rfl ?_
   refine XS.icmpNo X589.here hx rfl (q d5_285) rfl (tlt (by decide : ((2 : Int32) < (4 : Int32)))).2.1 ?_
   refine XS.aload X589.here hx rfl (q d5_288) rfl rfl ?_
   refine XS.aload X589.here hx rfl (q d5_290) rfl rfl ?_
   refine XS.aload X589.here hx rfl (q d5_292) rfl rfl ?_
   refine Jvm.RoadKit.acmp (g := (mkF m 294 #[vR rp, vR rl, vI 2, vR b3, vI 3, vI 4, vR b486, vR b495, vI 6, vR b521, vR b549, vR b549, (own_s qd505)] [(.ref b521), (.ref b549), (.ref b549)])) X589 hx rfl rfl rfl (pc0 := 294) (pc' := 302) (same := false) rfl (q d5_294) rfl (decide_eq_false fun q => (Ne.symm ne564) (Value.ref.inj q)) (by decide) (by decide) ?_
   refine XS.iconst X589.here hx rfl (q d5_302) ?_
   refine st590 _ ?_
   refine XS.astore X590.here hx rfl (q d5_306) rfl rfl (l' := #[vR rp, vR rl, vI 2, vR b3, vI 3, vI 4, vR b486, vR b495, vI 6, vR b521, vR b591, vR b549, (own_s qd505)]) rfl ?_
   refine XS.aload X590.here hx rfl (q d5_308) rfl rfl ?_
   refine XS.astore X590.here hx rfl (q d5_310) rfl rfl (l' := #[vR rp, vR rl, vI 2, vR b3, vI 3, vI 4, vR b486, vR b495, vI 6, vR b521, vR b591, vR b591, (own_s qd505)]) rfl ?_
   refine XS.goto X590.here hx rfl (pc0 := 312) (pc' := 278) rfl (q d5_312) (by decide) (by decide) ?_
   refine XS.aload X590.here hx rfl (q d5_278) rfl rfl ?_
   refine st648.trans ?_
   refine XS.iload X648.here hx rfl (q d5_283) rfl ?_
   refine XS.icmpYes X648.here hx rfl (pc0 := 285) (pc' := 315) rfl (q d5_285) rfl (flt (by decide : ¬ ((4 : Int32) < (4 : Int32)))).2.1 (by decide) (by decide) ?_
   refine st649 _ ?_
   refine XS.dup X649.here hx rfl (q d5_318) rfl rfl ?_
   refine XS.aloadN X649.here hx rfl (q d5_319) rfl rfl ?_
   refine XS.iload X649.here hx rfl (q d5_320) rfl ?_
   refine XS.aload X649.here hx rfl (q d5_322) rfl rfl ?_
   refine XS.aload X649.here hx rfl (q d5_324) rfl rfl ?_
   refine st692.trans ?_
   exact retOut X692 hx Bd.returns rfl (Or.inr (Or.inr (Or.inr (Or.inr ⟨rfl, rfl, rfl⟩)))) (q d5_329) hr
  ·show Q5k2 Z rp rl fp fl h0 n0 _ T692.heap _
   exact ⟨b649, gg649, sz649, rfl, N692, K692⟩
 ·have pre718 : oP p e below (T10.setTop (mkF m 12 #[vR rp, vR rl, vI 2, vR b3, vU, vU, vU, vU, vU, vU, vU, vU, vU] [(.int 4)])) (s₁.setTop (entryFrame m #[(.ref rp), (.ref rl)] 13)) := by
   intro t k
   refine pre14 _ ?_
   rw [hk15]
   exact k
  obtain ⟨_, _, ⟨T719, L719, k719, n719⟩, -, X719, ⟨Lc719, hQ719, l719, y719, z719⟩, st719⟩ := Jvm.LawKit.callS X10 hx (y := mN2) hown (om hZ hw 48 rfl) (om hZ hw 49 rfl) (om hZ hw 32 rfl) (om hZ hw 50 rfl) (by decide) (backOf (W := 0) (rm9m2c4 l Z a0 hw []  T10.heap n0 Z10 ) hZ (ow hw 50 rfl) (ow hw 32 rfl) (by decide) (by decide)) (g := (mkF m 17 #[vR rp, vR rl, vI 2, vR b3, vI 4, vU, vU, vU, vU, vU, vU, vU, vU] [(.int 4), (.int 2)])) rfl (by rw [hml]; rfl) (argsL := [(.int 2), (.int 4)]) (rest := []) (lenOf pd_2 rfl) rfl (oz rfl) (q d5_17) (fun _ _ => ⟨rfl, rfl, (by decide : 2 + 0 ≤ _), (by decide : 260 + 0 ≤ _)⟩)
  dsimp only [Pt.U, Pt.locs, Pt.cells, Pt.slots] at X719 l719 y719 z719 st719 hQ719
  subst y719 z719
  obtain ⟨rfl, N719q, e719⟩ := hQ719
  have N719 := oF l719 N10 N719q
  obtain ⟨T720, h720, k720, X720, e720, E720, A720, st720⟩ := newP X719 hx hZ (ow hw 2 rfl) e719 (g := (mkF m 35 #[vR rp, vR rl, vI 2, vR b3, vI 4, vI 4, vU, vU, vU, vU, vU, vU, vU] [(.int 12)])) rfl (q d5_35) rfl (by decide) (cap := 12) (by decide) (by decide) (by decide) (by decide)
  obtain ⟨b720, g720⟩ : ∃ z, z = T10.heap.size := ⟨_, rfl⟩
  rw [← g720] at A720 st720
  have ne721 := oN f13.lt g720
  have ne722 := oN f12.lt g720
  have ne723 := oN f11.lt g720
  have gg720 := oL Z10 g720
  have sz720 := oL K10.1 g720
  have f724 := f11.ext E720
  have f725 := f12.ext E720
  have f726 := f13.ext E720
  have Z720 := Nat.le_trans Z10 E720.1
  have K720 := K10.ext E720
  have f727 : AI Z h720 b720 .int 12 zI := AF.new A720 (by decide)
  obtain ⟨cl728, Arcl728, Szcl728⟩ := AF.len f727
  obtain ⟨T729, h729, k729, X729, e729, E729, A729, st729⟩ := newP X720 hx hZ (ow hw 2 rfl) e720 (g := (mkF m 42 #[vR rp, vR rl, vI 2, vR b3, vI 4, vI 4, vR b720, vU, vU, vU, vU, vU, vU] [(.int 12)])) rfl (q d5_42) rfl (by decide) (cap := 12) (by decide) (by decide) (by decide) (by decide)
  obtain ⟨b729, g729⟩ : ∃ z, z = h720.size := ⟨_, rfl⟩
  rw [← g729] at A729 st729
  have ne730 := oN f726.lt g729
  have ne731 := oN f727.lt g729
  have ne732 := oN f725.lt g729
  have ne733 := oN f724.lt g729
  have gg729 := oL Z720 g729
  have sz729 := oL K720.1 g729
  have f734 := f724.ext E729
  have f735 := f725.ext E729
  have f736 := f726.ext E729
  have f737 := f727.ext E729
  have Z729 := Nat.le_trans Z720 E729.1
  have K729 := K720.ext E729
  have f738 : AI Z h729 b729 .int 12 zI := AF.new A729 (by decide)
  obtain ⟨T739, h739, L739, so739, qa739, qb739, qc739, qd739, fn739, fc739, X739, e739, N739, Kl739, An739, ok739, Ac739, st739⟩ := ofO rp rl (2 : Int32) b3 (4 : Int32) (4 : Int32) b720 b729 2 4 12 fp fl gx4 hx hZ hw hby hml hown (by decide) (by decide) (by decide) (by decide) (by decide) hfl gg720 gg729 ne731 ne723 ne733 ne722 ne732 ne721 ne730 2 T729 _ h729 (0 : Int32) 0 none none none none zI zI (by decide) rfl X729 e729 N719 f734 f735 f736 f737 (fun j _ => ⟨0, rfl, Nat.zero_le _⟩) f738
  have Z739 := Nat.le_trans Z729 Kl739.1
  have K739 := K729.trans Kl739 (allS (Or.inr sz720) (allS (Or.inr sz729) all0))
  have f741 := f735.keep Kl739 (ninS ne722 (ninS ne732 nin0))
  have f742 := f736.keep Kl739 (ninS ne721 (ninS ne730 nin0))
  obtain ⟨cl743, Arcl743, hincl743, hatcl743⟩ := AF.at f741 (j := (1 : Int32)) 1 (by decide) (by decide)
  obtain ⟨kl744, hkl744, hkm744⟩ := hfl 1 (by decide)
  obtain ⟨hsp744, hsq744⟩ := own_spm (cc := (4 : Int32)) (cn := 4) hkl744 (by decide) (Nat.le_trans hkm744 (by decide : 1 ≤ 2)) (by decide)
  obtain ⟨T744, h744, L744, fy744, X744, e744, N744, Kl744, Ay744, py744, st744⟩ := own_cp X739 hx hZ hown (ow hw 68 rfl) (ow hw 71 rfl) (ow hw 69 rfl) (ow hw 70 rfl) e739 An739 (by decide) hsp744 (by decide : (8 : Int32).toInt = ((8 : Nat) : Int)) (by decide : (4 : Int32).toInt = ((4 : Nat) : Int)) hsq744 (by decide) N739 gg720 (g := (mkF m 233 #[vR rp, vR rl, vI 2, vR b3, vI 4, vI 4, vR b720, vR b729, vI 8, (own_s qa739), (own_s qb739), (own_s qc739), (own_s qd739)] [(.int 4), (.int 8), (.ref b720), (.int ((fl 1) * (4 : Int32))), (.ref b720)])) rfl (by rw [hml]; rfl) rfl (q d5_233) (by decide) (W := 0) (oz rfl) (by decide)
  have Z744 := Nat.le_trans Z739 Kl744.1
  have K744 := K739.trans Kl744 (allS (Or.inr sz720) all0)
  have f746 := f741.keep Kl744 (ninS ne722 nin0)
  have f747 := f742.keep Kl744 (ninS ne721 nin0)
  have f748 := Ac739.keep Kl744 (ninS (Ne.symm ne731) nin0)
  have okc744 := py744 _ ok739
  obtain ⟨cl749, Arcl749, hincl749, hatcl749⟩ := AF.at f746 (j := (1 : Int32)) 1 (by decide) (by decide)
  obtain ⟨kl750, hkl750, hkm750⟩ := hfl 1 (by decide)
  obtain ⟨hsp750, hsq750⟩ := own_spm (cc := (4 : Int32)) (cn := 4) hkl750 (by decide) (Nat.le_trans hkm750 (by decide : 1 ≤ 2)) (by decide)
  obtain ⟨T750, h750, L750, fy750, X750, e750, N750, Kl750, Ay750, py750, st750⟩ := own_cp X744 hx hZ hown (ow hw 68 rfl) (ow hw 71 rfl) (ow hw 69 rfl) (ow hw 70 rfl) e744 f748 (by decide) hsp750 (by decide : (8 : Int32).toInt = ((8 : Nat) : Int)) (by decide : (4 : Int32).toInt = ((4 : Nat) : Int)) hsq750 (by decide) N744 gg729 (g := (mkF m 252 #[vR rp, vR rl, vI 2, vR b3, vI 4, vI 4, vR b720, vR b729, vI 8, (own_s qa739), (own_s qb739), (own_s qc739), (own_s qd739)] [(.int 4), (.int 8), (.ref b729), (.int ((fl 1) * (4 : Int32))), (.ref b729)])) rfl (by rw [hml]; rfl) rfl (q d5_252) (by decide) (W := 0) (oz rfl) (by decide)
  have Z750 := Nat.le_trans Z744 Kl750.1
  have K750 := K744.trans Kl750 (allS (Or.inr sz729) all0)
  have f753 := f747.keep Kl750 (ninS ne730 nin0)
  have f754 := Ay744.keep Kl750 (ninS ne731 nin0)
  obtain ⟨T755, h755, X755, e755, E755, A755, D755, -, st755⟩ := newO X750 hx hZ hown (ow hw 72 rfl) (ow hw 73 rfl) (ow hw 74 rfl) e750 (g := (mkF m 255 #[vR rp, vR rl, vI 2, vR b3, vI 4, vI 4, vR b720, vR b729, vI 8, (own_s qa739), (own_s qb739), (own_s qc739), (own_s qd739)] [])) rfl (q d5_255) (by decide) (by decide)
  obtain ⟨b755, g755⟩ : ∃ z, z = h750.size := ⟨_, rfl⟩
  rw [← g755] at A755 D755 st755
  have ne756 := oN f753.lt g755
  have ne757 := oN f754.lt g755
  have ne758 := oN Ay750.lt g755
  have gg755 := oL Z750 g755
  have sz755 := oL K750.1 g755
  have f763 := f753.ext E755
  have f764 := f754.ext E755
  have f765 := Ay750.ext E755
  have Z755 := Nat.le_trans Z750 E755.1
  have K755 := K750.ext E755
  have f766 : Fld Z h755 b755 cS3 "width" "I" (.int 0) := D755 (Or.inr (ow hw 85 rfl)) (ty := .int) (by decide)
  have f767 : Fld Z h755 b755 cS3 "columns" "I" (.int 0) := D755 (Or.inr (ow hw 87 rfl)) (ty := .int) (by decide)
  have f768 : Fld Z h755 b755 cS3 "next" "[I" .null := D755 (Or.inr (ow hw 89 rfl)) (ty := (.array .int)) (by decide)
  have f769 : Fld Z h755 b755 cS3 "comparisons" "[I" .null := D755 (Or.inr (ow hw 91 rfl)) (ty := (.array .int)) (by decide)
  obtain ⟨_, _, ⟨T770, L770, k770, n770⟩, -, X770, ⟨Lc770, hQ770, l770, y770, z770⟩, st770⟩ := X755.specialBack hx (y := mN11) rfl hown (om hZ hw 75 rfl) (om hZ hw 76 rfl) (om hZ hw 77 rfl) (by decide) (backOf (W := 1) (rm14 l Z a0 hw [] b755 (1 : Int32) (4 : Int32) b720 b729 h755 n0 Z755 A755 f766 f767 f768 f769 gg755) hZ (ow hw 77 rfl) (ow hw 74 rfl) (by decide) (by decide)) (g := (mkF m 266 #[vR rp, vR rl, vI 2, vR b3, vI 4, vI 4, vR b720, vR b729, vI 8, (own_s qa739), (own_s qb739), (own_s qc739), (own_s qd739)] [(.ref b729), (.ref b720), (.int 4), (.int 1), (.ref b755), (.ref b755)])) rfl (by rw [hml]; rfl) (Steps.refl _) (a := b755) (argsL := [(.int 1), (.int 4), (.ref b720), (.ref b729)]) (rest := [(.ref b755)]) (lenOf pd_7 rfl) rfl (oz rfl) (q d5_266) (fun _ _ => ⟨rfl, e755, (by decide : 5 + 0 ≤ _), (by decide : 288 + 0 ≤ _)⟩)
  dsimp only [Pt.U, Pt.locs, Pt.cells, Pt.slots] at X770 l770 y770 z770 st770 hQ770
  subst y770 z770
  obtain ⟨rfl, N770q, K770c, f771, f772, f773, f774⟩ := hQ770
  have N770 := oF l770 N750 N770q
  have f777 := f763.keep K770c (ninS ne756 nin0)
  have f778 := f764.keep K770c (ninS ne757 nin0)
  have f779 := f765.keep K770c (ninS ne758 nin0)
  have f780 := A755.keep K770c
  have Z770 := Nat.le_trans Z755 K770c.1
  have K770 := K755.trans K770c (allS (Or.inr sz755) all0)
  obtain ⟨cq781, kq781, q781a, q781b, q781c⟩ := isOf hZ rfl f780
  obtain ⟨_, _, ⟨T781, L781, k781, n781⟩, -, X781, ⟨Lc781, hQ781, l781, y781, z781⟩, st781⟩ := X770.virtualBack hx (y := mN12) (z := mN12) hown (om hZ hw 92 rfl) (om hZ hw 93 rfl) (notFace_of_selects (args := #[]) (om hZ hw 95 rfl)) (om hZ hw 95 rfl) (om hZ hw 94 rfl) (by decide) (backOf (W := 0) (rm16 l Z a0 hw [] b755 (1 : Int32) T770.heap n0 Z770 f771) hZ (ow hw 96 rfl) (ow hw 74 rfl) (by decide) (by decide)) q781a q781c (g := (mkF m 280 #[vR rp, vR rl, vI 2, vR b3, vI 4, vI 4, vR b720, vR b729, vI 8, vR b755, .val .null, vR b755, (own_s qd739)] [(.ref b755)])) rfl (by rw [hml]; rfl) (Steps.refl _) (argsL := []) (rest := []) (lenOf pd_5 rfl) rfl (oz rfl) (q d5_280) (fun _ _ => ⟨rfl, rfl, (by decide : 5 + 0 ≤ _), (by decide : 288 + 0 ≤ _)⟩)
  dsimp only [Pt.U, Pt.locs, Pt.cells, Pt.slots] at X781 l781 y781 z781 st781 hQ781
  subst y781 z781
  obtain ⟨rfl, N781q, e781⟩ := hQ781
  have N781 := oF l781 N770 N781q
  obtain ⟨_, _, ⟨T782, L782, k782, n782⟩, -, X782, ⟨Lc782, hQ782, l782, y782, z782⟩, st782⟩ := Jvm.LawKit.callS X781 hx (y := mN16) hown (om hZ hw 97 rfl) (om hZ hw 98 rfl) (om hZ hw 32 rfl) (om hZ hw 99 rfl) (by decide) (backOf (W := 0) (rm17a l Z a0 hw [] b755 (8 : Int32) (4 : Int32) b720 b729 12 4 fy744 fy750 T770.heap n0 Z770 f780 f771 f772 f773 f774 f778 f779 (by decide) (by decide) (by decide) (by decide) (fun j hj => own_okt (okc744 j hj) (by decide))) hZ (ow hw 99 rfl) (ow hw 32 rfl) (by decide) (by decide)) (g := (mkF m 303 #[vR rp, vR rl, vI 2, vR b3, vI 4, vI 4, vR b720, vR b729, vI 8, vR b755, .val .null, vR b755, (own_s qd739)] [(.int 8), (.ref b755)])) rfl (by rw [hml]; rfl) (argsL := [(.ref b755), (.int 8)]) (rest := []) (lenOf pd_9 rfl) rfl (oz rfl) (q d5_303) (fun _ _ => ⟨rfl, e781, (by decide : 5 + 3 ≤ _), (by decide : 288 + 2052 ≤ _)⟩)
  dsimp only [Pt.U, Pt.locs, Pt.cells, Pt.slots] at X782 l782 y782 z782 st782 hQ782
  subst y782 z782
  obtain ⟨b783, b784, b785, gx786, gx787, ggb783, szb783, ggb784, szb784, ggb785, szb785, ne782_0, ne782_1, ne782_2, rfl, N782q, K782c, f788, f789, f790, f791, f792, f793, f794, okw4⟩ := hQ782
  have N782 := oF l782 N781 N782q
  have ne798 := oM f780.lt szb783
  have f815 := f777.keep K782c nin0
  have f818 := f780.keep K782c
  have f820 := f772.keep K782c nin0
  have Z782 := Nat.le_trans Z770 K782c.1
  have K782 := K770.trans K782c all0
  obtain ⟨cq823, kq823, q823a, q823b, q823c⟩ := isOf hZ rfl f788
  obtain ⟨_, _, ⟨T823, L823, k823, n823⟩, -, X823, ⟨Lc823, hQ823, l823, y823, z823⟩, st823⟩ := X782.virtualBack hx (y := mN12) (z := mN12) hown (om hZ hw 92 rfl) (om hZ hw 93 rfl) (notFace_of_selects (args := #[]) (om hZ hw 95 rfl)) (om hZ hw 95 rfl) (om hZ hw 94 rfl) (by decide) (backOf (W := 0) (rm16 l Z a0 hw [] b783 (2 : Int32) T782.heap n0 Z782 f789) hZ (ow hw 96 rfl) (ow hw 74 rfl) (by decide) (by decide)) q823a q823c (g := (mkF m 280 #[vR rp, vR rl, vI 2, vR b3, vI 4, vI 4, vR b720, vR b729, vI 8, vR b755, vR b783, vR b783, (own_s qd739)] [(.ref b783)])) rfl (by rw [hml]; rfl) (Steps.refl _) (argsL := []) (rest := []) (lenOf pd_5 rfl) rfl (oz rfl) (q d5_280) (fun _ _ => ⟨rfl, rfl, (by decide : 8 + 0 ≤ _), (by decide : 2340 + 0 ≤ _)⟩)
  dsimp only [Pt.U, Pt.locs, Pt.cells, Pt.slots] at X823 l823 y823 z823 st823 hQ823
  subst y823 z823
  obtain ⟨rfl, N823q, e823⟩ := hQ823
  have N823 := oF l823 N782 N823q
  obtain ⟨_, _, ⟨T824, L824, k824, n824⟩, -, X824, ⟨Lc824, hQ824, l824, y824, z824⟩, st824⟩ := Jvm.LawKit.callS X823 hx (y := mN16) hown (om hZ hw 97 rfl) (om hZ hw 98 rfl) (om hZ hw 32 rfl) (om hZ hw 99 rfl) (by decide) (backOf (W := 0) (rm17b l Z a0 hw [] b783 (-1 : Int32) ((4 : Int32) * (4 : Int32)) b784 b785 (12 * 4) (4 * 4) gx786 gx787 T782.heap n0 Z782 f788 f789 f790 f791 f792 f793 f794 (by decide) (by decide) (by decide) (by decide) (okw4)) hZ (ow hw 99 rfl) (ow hw 32 rfl) (by decide) (by decide)) (g := (mkF m 303 #[vR rp, vR rl, vI 2, vR b3, vI 4, vI 4, vR b720, vR b729, vI 8, vR b755, vR b783, vR b783, (own_s qd739)] [(.int (-1 : Int32)), (.ref b783)])) rfl (by rw [hml]; rfl) (argsL := [(.ref b783), (.int (-1 : Int32))]) (rest := []) (lenOf pd_9 rfl) rfl (oz rfl) (q d5_303) (fun _ _ => ⟨rfl, e823, (by decide : 8 + 3 ≤ _), (by decide : 2340 + 2052 ≤ _)⟩)
  dsimp only [Pt.U, Pt.locs, Pt.cells, Pt.slots] at X824 l824 y824 z824 st824 hQ824
  subst y824 z824
  obtain ⟨b825, b826, b827, gx828, gx829, ggb825, szb825, ggb826, szb826, ggb827, szb827, ne824_0, ne824_1, ne824_2, rfl, N824q, K824c, f830, f831, f832, f833, f834, f835, f836, hq837⟩ := hQ824
  have N824 := oF l824 N823 N824q
  have f867 := f815.keep K824c nin0
  have f870 := f818.keep K824c
  have f872 := f820.keep K824c nin0
  have Z824 := Nat.le_trans Z782 K824c.1
  have K824 := K782.trans K824c all0
  obtain ⟨cq882, kq882, q882a, q882b, q882c⟩ := isOf hZ rfl f830
  obtain ⟨_, _, ⟨T882, L882, k882, n882⟩, -, X882, ⟨Lc882, hQ882, l882, y882, z882⟩, st882⟩ := X824.virtualBack hx (y := mN12) (z := mN12) hown (om hZ hw 92 rfl) (om hZ hw 93 rfl) (notFace_of_selects (args := #[]) (om hZ hw 95 rfl)) (om hZ hw 95 rfl) (om hZ hw 94 rfl) (by decide) (backOf (W := 0) (rm16 l Z a0 hw [] b825 (4 : Int32) T824.heap n0 Z824 f831) hZ (ow hw 96 rfl) (ow hw 74 rfl) (by decide) (by decide)) q882a q882c (g := (mkF m 280 #[vR rp, vR rl, vI 2, vR b3, vI 4, vI 4, vR b720, vR b729, vI 8, vR b755, vR b825, vR b825, (own_s qd739)] [(.ref b825)])) rfl (by rw [hml]; rfl) (Steps.refl _) (argsL := []) (rest := []) (lenOf pd_5 rfl) rfl (oz rfl) (q d5_280) (fun _ _ => ⟨rfl, rfl, (by decide : 11 + 0 ≤ _), (by decide : 4392 + 0 ≤ _)⟩)
  dsimp only [Pt.U, Pt.locs, Pt.cells, Pt.slots] at X882 l882 y882 z882 st882 hQ882
  subst y882 z882
  obtain ⟨rfl, N882q, e882⟩ := hQ882
  have N882 := oF l882 N824 N882q
  obtain ⟨T883, h883, X883, e883, E883, A883, D883, -, st883⟩ := newO X882 hx hZ hown (ow hw 115 rfl) (ow hw 116 rfl) (ow hw 32 rfl) e882 (g := (mkF m 315 #[vR rp, vR rl, vI 2, vR b3, vI 4, vI 4, vR b720, vR b729, vI 8, vR b755, vR b825, vR b825, (own_s qd739)] [])) rfl (q d5_315) (by decide) (by decide)
  obtain ⟨b883, g883⟩ : ∃ z, z = T824.heap.size := ⟨_, rfl⟩
  rw [← g883] at A883 D883 st883
  have ne884 := oN f867.lt g883
  have ne887 := oN f870.lt g883
  have ne891 := oN f830.lt g883
  have gg883 := oL Z824 g883
  have sz883 := oL K824.1 g883
  have f898 := f867.ext E883
  have f901 := f870.ext E883
  have f903 := f872.ext E883
  have f913 := f830.ext E883
  have f914 := f831.ext E883
  have f915 := f832.ext E883
  have Z883 := Nat.le_trans Z824 E883.1
  have K883 := K824.ext E883
  have f920 : Fld Z h883 b883 cS0 "column" "[I" .null := D883 (Or.inr (ow hw 122 rfl)) (ty := (.array .int)) (by decide)
  have f921 : Fld Z h883 b883 cS0 "occurrenceRow" "I" (.int 0) := D883 (Or.inr (ow hw 124 rfl)) (ty := .int) (by decide)
  have f922 : Fld Z h883 b883 cS0 "single" cS4 .null := D883 (Or.inr (ow hw 126 rfl)) (ty := (.object cS3)) (by decide)
  have f923 : Fld Z h883 b883 cS0 "block" cS4 .null := D883 (Or.inr (ow hw 128 rfl)) (ty := (.object cS3)) (by decide)
  have f924 : Fld Z h883 b883 cS0 "blockColumn" "[[I" .null := D883 (Or.inr (ow hw 132 rfl)) (ty := (.array (.array .int))) (by decide)
  have f925 : Fld Z h883 b883 cS0 "blockFactor" "I" (.int 0) := D883 (Or.inr (ow hw 134 rfl)) (ty := .int) (by decide)
  obtain ⟨_, _, ⟨T926, L926, k926, n926⟩, -, X926, ⟨Lc926, hQ926, l926, y926, z926⟩, st926⟩ := X883.specialBack hx (y := mN17) rfl hown (om hZ hw 117 rfl) (om hZ hw 118 rfl) (om hZ hw 119 rfl) (by decide) (backOf (W := 1) (rm21 l Z a0 hw [] b883 b3 (8 : Int32) b755 b825 (4 : Int32) (((4 : Int32) * (4 : Int32)) * ((4 : Int32) * (4 : Int32))) gx4 h883 n0 Z883 A883 f920 f921 f922 f923 f924 f925 f901 f913 f903 f915 f914 f898 ne884 ne887 ne891 (by decide) gg883) hZ (ow hw 119 rfl) (ow hw 32 rfl) (by decide) (by decide)) (g := (mkF m 326 #[vR rp, vR rl, vI 2, vR b3, vI 4, vI 4, vR b720, vR b729, vI 8, vR b755, vR b825, vR b825, (own_s qd739)] [(.ref b825), (.ref b755), (.int 8), (.ref b3), (.ref b883), (.ref b883)])) rfl (by rw [hml]; rfl) (Steps.refl _) (a := b883) (argsL := [(.ref b3), (.int 8), (.ref b755), (.ref b825)]) (rest := [(.ref b883)]) (lenOf pd_10 rfl) rfl (oz rfl) (q d5_326) (fun _ _ => ⟨rfl, e883, (by decide : 12 + 5 ≤ _), (by decide : 4398 + 1028 ≤ _)⟩)
  dsimp only [Pt.U, Pt.locs, Pt.cells, Pt.slots] at X926 l926 y926 z926 st926 hQ926
  subst y926 z926
  obtain ⟨rfl, N926q, K926c⟩ := hQ926
  have N926 := oF l926 N882 N926q
  have K926 := K883.trans K926c (allS (Or.inr sz883) all0)
  obtain ⟨fs, hr, hrun, hended, hW, hsame⟩ := X926.leave (v := some (.ref b883)) (oR Bd.returns) (hlocks := Bd.notSynchronized)
  refine ⟨_, _, pre718 _ ?_, hrun, hended, _, _, rfl, ?_, ⟨_, rfl⟩, hW, hsame.mono (by decide) (by decide)⟩
  ·show Steps p.tables e below (T10.setTop (mkF m 12 #[vR rp, vR rl, vI 2, vR b3, vU, vU, vU, vU, vU, vU, vU, vU, vU] [(.int 4)])) _
   refine XS.istore X10.here hx rfl (q d5_12) rfl (l' := #[vR rp, vR rl, vI 2, vR b3, vI 4, vU, vU, vU, vU, vU, vU, vU, vU]) rfl ?_
   refine XS.iloadN X10.here hx rfl (q d5_14) rfl ?_
   refine XS.iload X10.here hx rfl (q d5_15) rfl ?_
   refine st719 _ ?_
   refine XS.istore X719.here hx rfl (q d5_20) rfl (l' := #[vR rp, vR rl, vI 2, vR b3, vI 4, vI 4, vU, vU, vU, vU, vU, vU, vU]) rfl ?_
   refine XS.iload X719.here hx rfl (q d5_22) rfl ?_
   refine XS.ifYes X719.here hx rfl (pc0 := 24) (pc' := 29) rfl (q d5_24) rfl ((if0 _ _).trans (feq (by decide : ¬ ((4 : Int32) = (0 : Int32)))).2) (by decide) (by decide) ?_
   refine XS.iloadN X719.here hx rfl (q d5_29) rfl ?_
   refine XS.iconst X719.here hx rfl (q d5_30) ?_
   refine XS.iadd X719.here hx rfl (q d5_31) rfl ?_
   refine XS.iload X719.here hx rfl (q d5_32) rfl ?_
   refine XS.imul X719.here hx rfl (q d5_34) rfl ?_
   refine st720 _ ?_
   refine XS.astore X720.here hx rfl (q d5_37) rfl rfl (l' := #[vR rp, vR rl, vI 2, vR b3, vI 4, vI 4, vR b720, vU, vU, vU, vU, vU, vU]) rfl ?_
   refine XS.aload X720.here hx rfl (q d5_39) rfl rfl ?_
   refine X720.arraylength hx (by rw [e720]; exact Arcl728.1) (State.isArrayOf_alike hZ.alike Arcl728.2.1) (g := (mkF m 41 #[vR rp, vR rl, vI 2, vR b3, vI 4, vI 4, vR b720, vU, vU, vU, vU, vU, vU] [(.ref b720)])) rfl rfl (q d5_41) _ ?_
   rw [Szcl728]
   refine st729 _ ?_
   refine XS.astore X729.here hx rfl (q d5_44) rfl rfl (l' := #[vR rp, vR rl, vI 2, vR b3, vI 4, vI 4, vR b720, vR b729, vU, vU, vU, vU, vU]) rfl ?_
   refine XS.iconst X729.here hx rfl (q d5_46) ?_
   refine XS.istore X729.here hx rfl (q d5_47) rfl (l' := #[vR rp, vR rl, vI 2, vR b3, vI 4, vI 4, vR b720, vR b729, vI 0, vU, vU, vU, vU]) rfl ?_
   refine st739 _ ?_
   refine XS.iloadN X739.here hx rfl (q d5_211) rfl ?_
   refine XS.iload X739.here hx rfl (q d5_212) rfl ?_
   refine XS.imul X739.here hx rfl (q d5_214) rfl ?_
   refine XS.istore X739.here hx rfl (q d5_215) rfl (l' := #[vR rp, vR rl, vI 2, vR b3, vI 4, vI 4, vR b720, vR b729, vI 8, (own_s qa739), (own_s qb739), (own_s qc739), (own_s qd739)]) rfl ?_
   refine XS.aload X739.here hx rfl (q d5_217) rfl rfl ?_
   refine XS.aloadN X739.here hx rfl (q d5_219) rfl rfl ?_
   refine XS.iloadN X739.here hx rfl (q d5_220) rfl ?_
   refine XS.iconst X739.here hx rfl (q d5_221) ?_
   refine XS.isub X739.here hx rfl (q d5_222) rfl ?_
   refine X739.iaload hx (j := (1 : Int32)) (v := (.int (fl 1))) (by rw [e739]; exact Arcl743.1) (State.isArrayOf_alike hZ.alike Arcl743.2.1) Arcl743.2.2 hincl743 hatcl743 (g := (mkF m 223 #[vR rp, vR rl, vI 2, vR b3, vI 4, vI 4, vR b720, vR b729, vI 8, (own_s qa739), (own_s qb739), (own_s qc739), (own_s qd739)] [(.int 1), (.ref rl), (.ref b720)])) rfl rfl (q d5_223) _ ?_
   refine XS.iload X739.here hx rfl (q d5_224) rfl ?_
   refine XS.imul X739.here hx rfl (q d5_226) rfl ?_
   refine XS.aload X739.here hx rfl (q d5_227) rfl rfl ?_
   refine XS.iload X739.here hx rfl (q d5_229) rfl ?_
   refine XS.iload X739.here hx rfl (q d5_231) rfl ?_
   refine st744 _ ?_
   refine XS.aload X744.here hx rfl (q d5_236) rfl rfl ?_
   refine XS.aloadN X744.here hx rfl (q d5_238) rfl rfl ?_
   refine XS.iloadN X744.here hx rfl (q d5_239) rfl ?_
   refine XS.iconst X744.here hx rfl (q d5_240) ?_
   refine XS.isub X744.here hx rfl (q d5_241) rfl ?_
   refine X744.iaload hx (j := (1 : Int32)) (v := (.int (fl 1))) (by rw [e744]; exact Arcl749.1) (State.isArrayOf_alike hZ.alike Arcl749.2.1) Arcl749.2.2 hincl749 hatcl749 (g := (mkF m 242 #[vR rp, vR rl, vI 2, vR b3, vI 4, vI 4, vR b720, vR b729, vI 8, (own_s qa739), (own_s qb739), (own_s qc739), (own_s qd739)] [(.int 1), (.ref rl), (.ref b729)])) rfl rfl (q d5_242) _ ?_
   refine XS.iload X744.here hx rfl (q d5_243) rfl ?_
   refine XS.imul X744.here hx rfl (q d5_245) rfl ?_
   refine XS.aload X744.here hx rfl (q d5_246) rfl rfl ?_
   refine XS.iload X744.here hx rfl (q d5_248) rfl ?_
   refine XS.iload X744.here hx rfl (q d5_250) rfl ?_
   refine st750 _ ?_
   refine st755 _ ?_
   refine XS.dup X755.here hx rfl (q d5_258) rfl rfl ?_
   refine XS.iconst X755.here hx rfl (q d5_259) ?_
   refine XS.iload X755.here hx rfl (q d5_260) rfl ?_
   refine XS.aload X755.here hx rfl (q d5_262) rfl rfl ?_
   refine XS.aload X755.here hx rfl (q d5_264) rfl rfl ?_
   refine st770.trans ?_
   refine XS.astore X770.here hx rfl (q d5_269) rfl rfl (l' := #[vR rp, vR rl, vI 2, vR b3, vI 4, vI 4, vR b720, vR b729, vI 8, vR b755, (own_s qb739), (own_s qc739), (own_s qd739)]) (by cases qa739 <;> rfl) ?_
   refine XS.aconstNull X770.here hx rfl (q d5_271) ?_
   refine XS.astore X770.here hx rfl (q d5_272) rfl rfl (l' := #[vR rp, vR rl, vI 2, vR b3, vI 4, vI 4, vR b720, vR b729, vI 8, vR b755, .val .null, (own_s qc739), (own_s qd739)]) (by cases qb739 <;> rfl) ?_
   refine XS.aload X770.here hx rfl (q d5_274) rfl rfl ?_
   refine XS.astore X770.here hx rfl (q d5_276) rfl rfl (l' := #[vR rp, vR rl, vI 2, vR b3, vI 4, vI 4, vR b720, vR b729, vI 8, vR b755, .val .null, vR b755, (own_s qd739)]) (by cases qc739 <;> rfl) ?_
   refine XS.aload X770.here hx rfl (q d5_278) rfl rfl ?_
   refine st781.trans ?_
   refine XS.iload X781.here hx rfl (q d5_283) rfl ?_
   refine XS.icmpNo X781.here hx rfl (q d5_285) rfl (tlt (by decide : ((1 : Int32) < (4 : Int32)))).2.1 ?_
   refine XS.aload X781.here hx rfl (q d5_288) rfl rfl ?_
   refine XS.aload X781.here hx rfl (q d5_290) rfl rfl ?_
   refine XS.aload X781.here hx rfl (q d5_292) rfl rfl ?_
   refine Jvm.RoadKit.acmp (g := (mkF m 294 #[vR rp, vR rl, vI 2, vR b3, vI 4, vI 4, vR b720, vR b729, vI 8, vR b755, .val .null, vR b755, (own_s qd739)] [(.ref b755), (.ref b755), (.ref b755)])) X781 hx rfl rfl rfl (pc0 := 294) (pc' := 297) (same := true) rfl (q d5_294) rfl (decide_eq_true rfl) (by decide) (by decide) ?_
   refine XS.iload X781.here hx rfl (q d5_297) rfl ?_
   refine XS.goto X781.here hx rfl (pc0 := 299) (pc' := 303) rfl (q d5_299) (by decide) (by decide) ?_
   refine st782 _ ?_
   refine XS.astore X782.here hx rfl (q d5_306) rfl rfl (l' := #[vR rp, vR rl, vI 2, vR b3, vI 4, vI 4, vR b720, vR b729, vI 8, vR b755, vR b783, vR b755, (own_s qd739)]) rfl ?_
   refine XS.aload X782.here hx rfl (q d5_308) rfl rfl ?_
   refine XS.astore X782.here hx rfl (q d5_310) rfl rfl (l' := #[vR rp, vR rl, vI 2, vR b3, vI 4, vI 4, vR b720, vR b729, vI 8, vR b755, vR b783, vR b783, (own_s qd739)]) rfl ?_
   refine XS.goto X782.here hx rfl (pc0 := 312) (pc' := 278) rfl (q d5_312) (by decide) (by decide) ?_
   refine XS.aload X782.here hx rfl (q d5_278) rfl rfl ?_
   refine st823.trans ?_
   refine XS.iload X823.here hx rfl (q d5_283) rfl ?_
   refine XS.icmpNo X823.here hx rfl (q d5_285) rfl (tlt (by decide : ((2 : Int32) < (4 : Int32)))).2.1 ?_
   refine XS.aload X823.here hx rfl (q d5_288) rfl rfl ?_
   refine XS.aload X823.here hx rfl (q d5_290) rfl rfl ?_
   refine XS.aload X823.here hx rfl (q d5_292) rfl rfl ?_
   refine Jvm.RoadKit.acmp (g := (mkF m 294 #[vR rp, vR rl, vI 2, vR b3, vI 4, vI 4, vR b720, vR b729, vI 8, vR b755, vR b783, vR b783, (own_s qd739)] [(.ref b755), (.ref b783), (.ref b783)])) X823 hx rfl rfl rfl (pc0 := 294) (pc' := 302) (same := false) rfl (q d5_294) rfl (decide_eq_false fun q => (Ne.symm ne798) (Value.ref.inj q)) (by decide) (by decide) ?_
   refine XS.iconst X823.here hx rfl (q d5_302) ?_
   refine st824 _ ?_
   refine XS.astore X824.here hx rfl (q d5_306) rfl rfl (l' := #[vR rp, vR rl, vI 2, vR b3, vI 4, vI 4, vR b720, vR b729, vI 8, vR b755, vR b825, vR b783, (own_s qd739)]) rfl ?_
   refine XS.aload X824.here hx rfl (q d5_308) rfl rfl ?_
   refine XS.astore X824.here hx rfl (q d5_310) rfl rfl (l' := #[vR rp, vR rl, vI 2, vR b3, vI 4, vI 4, vR b720, vR b729, vI 8, vR b755, vR b825, vR b825, (own_s qd739)]) rfl ?_
   refine XS.goto X824.here hx rfl (pc0 := 312) (pc' := 278) rfl (q d5_312) (by decide) (by decide) ?_
   refine XS.aload X824.here hx rfl (q d5_278) rfl rfl ?_
   refine st882.trans ?_
   refine XS.iload X882.here hx rfl (q d5_283) rfl ?_
   refine XS.icmpYes X882.here hx rfl (pc0 := 285) (pc' := 315) rfl (q d5_285) rfl (flt (by decide : ¬ ((4 : Int32) < (4 : Int32)))).2.1 (by decide) (by decide) ?_
   refine st883 _ ?_
   refine XS.dup X883.here hx rfl (q d5_318) rfl rfl ?_
   refine XS.aloadN X883.here hx rfl (q d5_319) rfl rfl ?_
   refine XS.iload X883.here hx rfl (q d5_320) rfl ?_
   refine XS.aload X883.here hx rfl (q d5_322) rfl rfl ?_
   refine XS.aload X883.here hx rfl (q d5_324) rfl rfl ?_
   refine st926.trans ?_
   exact retOut X926 hx Bd.returns rfl (Or.inr (Or.inr (Or.inr (Or.inr ⟨rfl, rfl, rfl⟩)))) (q d5_329) hr
  ·show Q5k2 Z rp rl fp fl h0 n0 _ T926.heap _
   exact ⟨b883, gg883, sz883, rfl, N926, K926⟩
theorem ef_5k3 (m : MethodId) (rp : Addr) (rl : Addr) : entryFrame m #[(.ref rp), (.ref rl)] 13 = mkF m 0 #[vR rp, vR rl, .unset, .unset, .unset, .unset, .unset, .unset, .unset, .unset, .unset, .unset, .unset] [] := by first | (simp [entryFrame, mkF, argsToLocals, Value.category]; done) | rfl
def Q5k3 (Z : State) (rp : Addr) (rl : Addr) (fp : Nat → Int32) (fl : Nat → Int32) (h0 : Heap) (n0 : Nat) (v : Option Value) (h : Heap) (L : List Loc) : Prop := ∃ fr0 : Addr, n0 ≤ fr0 ∧ h0.size ≤ fr0 ∧ v = some (.ref fr0) ∧ Fr n0 L ∧ Keep h0 h []
set_option maxRecDepth 65536 in
set_option maxHeartbeats 40000000 in
theorem rm5k3 (l : Launch) (Z : State) (a0 : Array Value) (hw : ∀ d ∈ tables_1, d.before a0 Z = true) (ws : List Jvm.Cond) (rp : Addr) (rl : Addr) (fp : Nat → Int32) (fl : Nat → Int32) (h0 : Heap) (n0 : Nat) (Z0 : n0 ≤ h0.size) (A_rp : AI Z h0 rp .byte 3 fp) (A_rl : AI Z h0 rl .int 3 fl) (hfl : ∀ j, j < 3 → ∃ k : Nat, (fl j).toInt = (k : Int) ∧ k ≤ j) :
  MetFree l mN18 (head1 (Jvm.Cond.code mN18 prog_23_method_2_code 13 (some (.object cS0)) :: ws) ({ frames := 4, cells := 17, slots := 5434, locals := 64 } : Room)) (fun a U => a = #[(.ref rp), (.ref rl)] ∧ Z.Warmed39 U.vm ∧ U.heap = h0) (fun _ _ _ _ _ => True) (fun _ U o U' => ∃ v L, o = .returned v ∧ Q5k3 Z rp rl fp fl h0 n0 v U'.heap L ∧ FrameEnd U o U' L ({ frames := 4, cells := 17, slots := 5434, locals := 64 } : Room).cells ({ frames := 4, cells := 17, slots := 5434, locals := 64 } : Room).slots) := by
 refine MetFree.of_bodySF (plainFor_of_name pn_skipstitch_search_Automaton) hisR ?_
 intro p e s m args below meth c s₁ Bd hml0 hP hK
 obtain ⟨rfl, hZ, hh⟩ := hP
 have hx := Bd.exec
 have hby := Bd.bytes
 have q {i : Nat} {r : _} (h : decode _ i = r) := hb hby h
 have hml : c.maxLocals = 13 := hml0
 have hown : s.vm.findClass cS0 = some m.cls := findClass_of_methodNamed Bd.named
 have hnm := (name_of_methodNamed Bd.named Bd.method).1
 have X0 : Stand p l e ({ frames := 4, cells := 17, slots := 5434, locals := 64 } : Room) s m #[(.ref rp), (.ref rl)] below meth c s₁ [] 0 0 := Stand.of_body Bd
 have e0 : s₁.heap = h0 := by rw [← hh, Bd.state]; rfl
 have N0 := Fr.nil n0
 have K0 : Keep h0 h0 [] := Keep.refl h0 _
 have pre0 : oP p e below (s₁.setTop (mkF m 0 #[vR rp, vR rl, vU, vU, vU, vU, vU, vU, vU, vU, vU, vU, vU] [])) (s₁.setTop (entryFrame m #[(.ref rp), (.ref rl)] 13)) := fun t k => castTop (ef_5k3 m rp rl) k
 obtain ⟨cl1, Arcl1, Szcl1⟩ := AF.len A_rp
 obtain ⟨_, _, ⟨T2, L2, k2, n2⟩, -, X2, ⟨Lc2, hQ2, l2, y2, z2⟩, st2⟩ := Jvm.LawKit.callS X0 hx (y := mN3) hown (om hZ hw 34 rfl) (om hZ hw 35 rfl) (om hZ hw 32 rfl) (om hZ hw 36 rfl) (by decide) (backOf (W := 0) (rm6k3 l Z a0 hw [] rp fp h0 n0 Z0 A_rp) hZ (ow hw 36 rfl) (ow hw 32 rfl) (by decide) (by decide)) (g := (mkF m 4 #[vR rp, vR rl, vI 3, vU, vU, vU, vU, vU, vU, vU, vU, vU, vU] [(.ref rp)])) rfl (by rw [hml]; rfl) (argsL := [(.ref rp)]) (rest := []) (lenOf pd_8 rfl) rfl (oz rfl) (q d5_4) (fun _ _ => ⟨rfl, e0, (by decide : 0 + 1 ≤ _), (by decide : 0 + 256 ≤ _)⟩)
 dsimp only [Pt.U, Pt.locs, Pt.cells, Pt.slots] at X2 l2 y2 z2 st2 hQ2
 subst y2 z2
 obtain ⟨b3, gx4, ggb3, szb3, rfl, N2q, K2c, f5⟩ := hQ2
 have N2 := oF l2 N0 N2q
 have f8 := A_rp.keep K2c nin0
 have f9 := A_rl.keep K2c nin0
 have Z2 := Nat.le_trans Z0 K2c.1
 have K2 := K0.trans K2c all0
 obtain ⟨_, _, ⟨T10, L10, k10, n10⟩, -, X10, ⟨Lc10, hQ10, l10, y10, z10⟩, st10⟩ := Jvm.LawKit.callS X2 hx (y := mN1) hown (om hZ hw 37 rfl) (om hZ hw 38 rfl) (om hZ hw 32 rfl) (om hZ hw 39 rfl) (by decide) (backOf (W := 0) (rm7k3 l Z a0 hw [] rp fp T2.heap n0 Z2 f8) hZ (ow hw 39 rfl) (ow hw 32 rfl) (by decide) (by decide)) (g := (mkF m 9 #[vR rp, vR rl, vI 3, vR b3, vU, vU, vU, vU, vU, vU, vU, vU, vU] [(.ref rp)])) rfl (by rw [hml]; rfl) (argsL := [(.ref rp)]) (rest := []) (lenOf pd_1 rfl) rfl (oz rfl) (q d5_9) (fun _ _ => ⟨rfl, rfl, (by decide : 1 + 1 ≤ _), (by decide : 256 + 4 ≤ _)⟩)
 dsimp only [Pt.U, Pt.locs, Pt.cells, Pt.slots] at X10 l10 y10 z10 st10 hQ10
 subst y10 z10
 obtain ⟨rfl, N10q, K10c⟩ := hQ10
 have N10 := oF l10 N2 N10q
 have f11 := f8.keep K10c nin0
 have f12 := f9.keep K10c nin0
 have f13 := f5.keep K10c nin0
 have Z10 := Nat.le_trans Z2 K10c.1
 have K10 := K2.trans K10c all0
 have pre14 : oP p e below (T10.setTop (mkF m 12 #[vR rp, vR rl, vI 3, vR b3, vU, vU, vU, vU, vU, vU, vU, vU, vU] [(.int (r7k3_v fp))])) (s₁.setTop (entryFrame m #[(.ref rp), (.ref rl)] 13)) := by
  intro t k
  refine pre0 _ ?_
  refine XS.aloadN X0.here hx rfl (q d5_0) rfl rfl ?_
  refine X0.arraylength hx (by rw [e0]; exact Arcl1.1) (State.isArrayOf_alike hZ.alike Arcl1.2.1) (g := (mkF m 1 #[vR rp, vR rl, vU, vU, vU, vU, vU, vU, vU, vU, vU, vU, vU] [(.ref rp)])) rfl rfl (q d5_1) _ ?_
  rw [Szcl1]
  refine XS.istoreN X0.here hx rfl (q d5_2) rfl (l' := #[vR rp, vR rl, vI 3, vU, vU, vU, vU, vU, vU, vU, vU, vU, vU]) rfl ?_
  refine XS.aloadN X0.here hx rfl (q d5_3) rfl rfl ?_
  refine st2 _ ?_
  refine XS.astoreN X2.here hx rfl (q d5_7) rfl rfl (l' := #[vR rp, vR rl, vI 3, vR b3, vU, vU, vU, vU, vU, vU, vU, vU, vU]) rfl ?_
  refine XS.aloadN X2.here hx rfl (q d5_8) rfl rfl ?_
  refine st10 _ ?_
  exact k
 rcases own_cc3 fp with hk15 | hk15 | hk15 | hk15
 ·have pre16 : oP p e below (T10.setTop (mkF m 12 #[vR rp, vR rl, vI 3, vR b3, vU, vU, vU, vU, vU, vU, vU, vU, vU] [(.int 1)])) (s₁.setTop (entryFrame m #[(.ref rp), (.ref rl)] 13)) := by
   intro t k
   refine pre14 _ ?_
   rw [hk15]
   exact k
  obtain ⟨_, _, ⟨T17, L17, k17, n17⟩, -, X17, ⟨Lc17, hQ17, l17, y17, z17⟩, st17⟩ := Jvm.LawKit.callS X10 hx (y := mN2) hown (om hZ hw 48 rfl) (om hZ hw 49 rfl) (om hZ hw 32 rfl) (om hZ hw 50 rfl) (by decide) (backOf (W := 0) (rm9m3c1 l Z a0 hw []  T10.heap n0 Z10 ) hZ (ow hw 50 rfl) (ow hw 32 rfl) (by decide) (by decide)) (g := (mkF m 17 #[vR rp, vR rl, vI 3, vR b3, vI 1, vU, vU, vU, vU, vU, vU, vU, vU] [(.int 1), (.int 3)])) rfl (by rw [hml]; rfl) (argsL := [(.int 3), (.int 1)]) (rest := []) (lenOf pd_2 rfl) rfl (oz rfl) (q d5_17) (fun _ _ => ⟨rfl, rfl, (by decide : 2 + 0 ≤ _), (by decide : 260 + 0 ≤ _)⟩)
  dsimp only [Pt.U, Pt.locs, Pt.cells, Pt.slots] at X17 l17 y17 z17 st17 hQ17
  subst y17 z17
  obtain ⟨rfl, N17q, e17⟩ := hQ17
  have N17 := oF l17 N10 N17q
  obtain ⟨T18, h18, k18, X18, e18, E18, A18, st18⟩ := newP X17 hx hZ (ow hw 2 rfl) e17 (g := (mkF m 35 #[vR rp, vR rl, vI 3, vR b3, vI 1, vI 4, vU, vU, vU, vU, vU, vU, vU] [(.int 4)])) rfl (q d5_35) rfl (by decide) (cap := 4) (by decide) (by decide) (by decide) (by decide)
  obtain ⟨b18, g18⟩ : ∃ z, z = T10.heap.size := ⟨_, rfl⟩
  rw [← g18] at A18 st18
  have ne19 := oN f13.lt g18
  have ne20 := oN f12.lt g18
  have ne21 := oN f11.lt g18
  have gg18 := oL Z10 g18
  have sz18 := oL K10.1 g18
  have f22 := f11.ext E18
  have f23 := f12.ext E18
  have f24 := f13.ext E18
  have Z18 := Nat.le_trans Z10 E18.1
  have K18 := K10.ext E18
  have f25 : AI Z h18 b18 .int 4 zI := AF.new A18 (by decide)
  obtain ⟨cl26, Arcl26, Szcl26⟩ := AF.len f25
  obtain ⟨T27, h27, k27, X27, e27, E27, A27, st27⟩ := newP X18 hx hZ (ow hw 2 rfl) e18 (g := (mkF m 42 #[vR rp, vR rl, vI 3, vR b3, vI 1, vI 4, vR b18, vU, vU, vU, vU, vU, vU] [(.int 4)])) rfl (q d5_42) rfl (by decide) (cap := 4) (by decide) (by decide) (by decide) (by decide)
  obtain ⟨b27, g27⟩ : ∃ z, z = h18.size := ⟨_, rfl⟩
  rw [← g27] at A27 st27
  have ne28 := oN f25.lt g27
  have ne29 := oN f24.lt g27
  have ne30 := oN f23.lt g27
  have ne31 := oN f22.lt g27
  have gg27 := oL Z18 g27
  have sz27 := oL K18.1 g27
  have f32 := f22.ext E27
  have f33 := f23.ext E27
  have f34 := f24.ext E27
  have f35 := f25.ext E27
  have Z27 := Nat.le_trans Z18 E27.1
  have K27 := K18.ext E27
  have f36 : AI Z h27 b27 .int 4 zI := AF.new A27 (by decide)
  obtain ⟨T37, h37, L37, so37, qa37, qb37, qc37, qd37, fn37, fc37, X37, e37, N37, Kl37, An37, ok37, Ac37, st37⟩ := ofO rp rl (3 : Int32) b3 (1 : Int32) (4 : Int32) b18 b27 3 1 4 fp fl gx4 hx hZ hw hby hml hown (by decide) (by decide) (by decide) (by decide) (by decide) hfl gg18 gg27 ne28 ne21 ne31 ne20 ne30 ne19 ne29 3 T27 _ h27 (0 : Int32) 0 none none none none zI zI (by decide) rfl X27 e27 N17 f32 f33 f34 f35 (fun j _ => ⟨0, rfl, Nat.zero_le _⟩) f36
  have Z37 := Nat.le_trans Z27 Kl37.1
  have K37 := K27.trans Kl37 (allS (Or.inr sz18) (allS (Or.inr sz27) all0))
  have f39 := f33.keep Kl37 (ninS ne20 (ninS ne30 nin0))
  have f40 := f34.keep Kl37 (ninS ne19 (ninS ne29 nin0))
  obtain ⟨cl41, Arcl41, hincl41, hatcl41⟩ := AF.at f39 (j := (2 : Int32)) 2 (by decide) (by decide)
  obtain ⟨kl42, hkl42, hkm42⟩ := hfl 2 (by decide)
  obtain ⟨hsp42, hsq42⟩ := own_spm (cc := (1 : Int32)) (cn := 1) hkl42 (by decide) (Nat.le_trans hkm42 (by decide : 2 ≤ 3)) (by decide)
  obtain ⟨T42, h42, L42, fy42, X42, e42, N42, Kl42, Ay42, py42, st42⟩ := own_cp X37 hx hZ hown (ow hw 68 rfl) (ow hw 71 rfl) (ow hw 69 rfl) (ow hw 70 rfl) e37 An37 (by decide) hsp42 (by decide : (3 : Int32).toInt = ((3 : Nat) : Int)) (by decide : (1 : Int32).toInt = ((1 : Nat) : Int)) hsq42 (by decide) N37 gg18 (g := (mkF m 233 #[vR rp, vR rl, vI 3, vR b3, vI 1, vI 4, vR b18, vR b27, vI 3, (own_s qa37), (own_s qb37), (own_s qc37), (own_s qd37)] [(.int 1), (.int 3), (.ref b18), (.int ((fl 2) * (1 : Int32))), (.ref b18)])) rfl (by rw [hml]; rfl) rfl (q d5_233) (by decide) (W := 0) (oz rfl) (by decide)
  have Z42 := Nat.le_trans Z37 Kl42.1
  have K42 := K37.trans Kl42 (allS (Or.inr sz18) all0)
  have f44 := f39.keep Kl42 (ninS ne20 nin0)
  have f45 := f40.keep Kl42 (ninS ne19 nin0)
  have f46 := Ac37.keep Kl42 (ninS (Ne.symm ne28) nin0)
  have okc42 := py42 _ ok37
  obtain ⟨cl47, Arcl47, hincl47, hatcl47⟩ := AF.at f44 (j := (2 : Int32)) 2 (by decide) (by decide)
  obtain ⟨kl48, hkl48, hkm48⟩ := hfl 2 (by decide)
  obtain ⟨hsp48, hsq48⟩ := own_spm (cc := (1 : Int32)) (cn := 1) hkl48 (by decide) (Nat.le_trans hkm48 (by decide : 2 ≤ 3)) (by decide)
  obtain ⟨T48, h48, L48, fy48, X48, e48, N48, Kl48, Ay48, py48, st48⟩ := own_cp X42 hx hZ hown (ow hw 68 rfl) (ow hw 71 rfl) (ow hw 69 rfl) (ow hw 70 rfl) e42 f46 (by decide) hsp48 (by decide : (3 : Int32).toInt = ((3 : Nat) : Int)) (by decide : (1 : Int32).toInt = ((1 : Nat) : Int)) hsq48 (by decide) N42 gg27 (g := (mkF m 252 #[vR rp, vR rl, vI 3, vR b3, vI 1, vI 4, vR b18, vR b27, vI 3, (own_s qa37), (own_s qb37), (own_s qc37), (own_s qd37)] [(.int 1), (.int 3), (.ref b27), (.int ((fl 2) * (1 : Int32))), (.ref b27)])) rfl (by rw [hml]; rfl) rfl (q d5_252) (by decide) (W := 0) (oz rfl) (by decide)
  have Z48 := Nat.le_trans Z42 Kl48.1
  have K48 := K42.trans Kl48 (allS (Or.inr sz27) all0)
  have f51 := f45.keep Kl48 (ninS ne29 nin0)
  have f52 := Ay42.keep Kl48 (ninS ne28 nin0)
  obtain ⟨T53, h53, X53, e53, E53, A53, D53, -, st53⟩ := newO X48 hx hZ hown (ow hw 72 rfl) (ow hw 73 rfl) (ow hw 74 rfl) e48 (g := (mkF m 255 #[vR rp, vR rl, vI 3, vR b3, vI 1, vI 4, vR b18, vR b27, vI 3, (own_s qa37), (own_s qb37), (own_s qc37), (own_s qd37)] [])) rfl (q d5_255) (by decide) (by decide)
  obtain ⟨b53, g53⟩ : ∃ z, z = h48.size := ⟨_, rfl⟩
  rw [← g53] at A53 D53 st53
  have ne54 := oN f52.lt g53
  have ne55 := oN Ay48.lt g53
  have ne56 := oN f51.lt g53
  have gg53 := oL Z48 g53
  have sz53 := oL K48.1 g53
  have f61 := f51.ext E53
  have f62 := f52.ext E53
  have f63 := Ay48.ext E53
  have Z53 := Nat.le_trans Z48 E53.1
  have K53 := K48.ext E53
  have f64 : Fld Z h53 b53 cS3 "width" "I" (.int 0) := D53 (Or.inr (ow hw 85 rfl)) (ty := .int) (by decide)
  have f65 : Fld Z h53 b53 cS3 "columns" "I" (.int 0) := D53 (Or.inr (ow hw 87 rfl)) (ty := .int) (by decide)
  have f66 : Fld Z h53 b53 cS3 "next" "[I" .null := D53 (Or.inr (ow hw 89 rfl)) (ty := (.array .int)) (by decide)
  have f67 : Fld Z h53 b53 cS3 "comparisons" "[I" .null := D53 (Or.inr (ow hw 91 rfl)) (ty := (.array .int)) (by decide)
  obtain ⟨_, _, ⟨T68, L68, k68, n68⟩, -, X68, ⟨Lc68, hQ68, l68, y68, z68⟩, st68⟩ := X53.specialBack hx (y := mN11) rfl hown (om hZ hw 75 rfl) (om hZ hw 76 rfl) (om hZ hw 77 rfl) (by decide) (backOf (W := 1) (rm14 l Z a0 hw [] b53 (1 : Int32) (1 : Int32) b18 b27 h53 n0 Z53 A53 f64 f65 f66 f67 gg53) hZ (ow hw 77 rfl) (ow hw 74 rfl) (by decide) (by decide)) (g := (mkF m 266 #[vR rp, vR rl, vI 3, vR b3, vI 1, vI 4, vR b18, vR b27, vI 3, (own_s qa37), (own_s qb37), (own_s qc37), (own_s qd37)] [(.ref b27), (.ref b18), (.int 1), (.int 1), (.ref b53), (.ref b53)])) rfl (by rw [hml]; rfl) (Steps.refl _) (a := b53) (argsL := [(.int 1), (.int 1), (.ref b18), (.ref b27)]) (rest := [(.ref b53)]) (lenOf pd_7 rfl) rfl (oz rfl) (q d5_266) (fun _ _ => ⟨rfl, e53, (by decide : 5 + 0 ≤ _), (by decide : 272 + 0 ≤ _)⟩)
  dsimp only [Pt.U, Pt.locs, Pt.cells, Pt.slots] at X68 l68 y68 z68 st68 hQ68
  subst y68 z68
  obtain ⟨rfl, N68q, K68c, f69, f70, f71, f72⟩ := hQ68
  have N68 := oF l68 N48 N68q
  have f75 := f61.keep K68c (ninS ne56 nin0)
  have f76 := f62.keep K68c (ninS ne54 nin0)
  have f77 := f63.keep K68c (ninS ne55 nin0)
  have f78 := A53.keep K68c
  have Z68 := Nat.le_trans Z53 K68c.1
  have K68 := K53.trans K68c (allS (Or.inr sz53) all0)
  obtain ⟨cq79, kq79, q79a, q79b, q79c⟩ := isOf hZ rfl f78
  obtain ⟨_, _, ⟨T79, L79, k79, n79⟩, -, X79, ⟨Lc79, hQ79, l79, y79, z79⟩, st79⟩ := X68.virtualBack hx (y := mN12) (z := mN12) hown (om hZ hw 92 rfl) (om hZ hw 93 rfl) (notFace_of_selects (args := #[]) (om hZ hw 95 rfl)) (om hZ hw 95 rfl) (om hZ hw 94 rfl) (by decide) (backOf (W := 0) (rm16 l Z a0 hw [] b53 (1 : Int32) T68.heap n0 Z68 f69) hZ (ow hw 96 rfl) (ow hw 74 rfl) (by decide) (by decide)) q79a q79c (g := (mkF m 280 #[vR rp, vR rl, vI 3, vR b3, vI 1, vI 4, vR b18, vR b27, vI 3, vR b53, .val .null, vR b53, (own_s qd37)] [(.ref b53)])) rfl (by rw [hml]; rfl) (Steps.refl _) (argsL := []) (rest := []) (lenOf pd_5 rfl) rfl (oz rfl) (q d5_280) (fun _ _ => ⟨rfl, rfl, (by decide : 5 + 0 ≤ _), (by decide : 272 + 0 ≤ _)⟩)
  dsimp only [Pt.U, Pt.locs, Pt.cells, Pt.slots] at X79 l79 y79 z79 st79 hQ79
  subst y79 z79
  obtain ⟨rfl, N79q, e79⟩ := hQ79
  have N79 := oF l79 N68 N79q
  obtain ⟨_, _, ⟨T80, L80, k80, n80⟩, -, X80, ⟨Lc80, hQ80, l80, y80, z80⟩, st80⟩ := Jvm.LawKit.callS X79 hx (y := mN16) hown (om hZ hw 97 rfl) (om hZ hw 98 rfl) (om hZ hw 32 rfl) (om hZ hw 99 rfl) (by decide) (backOf (W := 0) (rm17a l Z a0 hw [] b53 (3 : Int32) (1 : Int32) b18 b27 4 1 fy42 fy48 T68.heap n0 Z68 f78 f69 f70 f71 f72 f76 f77 (by decide) (by decide) (by decide) (by decide) (fun j hj => own_okt (okc42 j hj) (by decide))) hZ (ow hw 99 rfl) (ow hw 32 rfl) (by decide) (by decide)) (g := (mkF m 303 #[vR rp, vR rl, vI 3, vR b3, vI 1, vI 4, vR b18, vR b27, vI 3, vR b53, .val .null, vR b53, (own_s qd37)] [(.int 3), (.ref b53)])) rfl (by rw [hml]; rfl) (argsL := [(.ref b53), (.int 3)]) (rest := []) (lenOf pd_9 rfl) rfl (oz rfl) (q d5_303) (fun _ _ => ⟨rfl, e79, (by decide : 5 + 3 ≤ _), (by decide : 272 + 2052 ≤ _)⟩)
  dsimp only [Pt.U, Pt.locs, Pt.cells, Pt.slots] at X80 l80 y80 z80 st80 hQ80
  subst y80 z80
  obtain ⟨b81, b82, b83, gx84, gx85, ggb81, szb81, ggb82, szb82, ggb83, szb83, ne80_0, ne80_1, ne80_2, rfl, N80q, K80c, f86, f87, f88, f89, f90, f91, f92, okw1⟩ := hQ80
  have N80 := oF l80 N79 N80q
  have ne96 := oM f78.lt szb81
  have f113 := f75.keep K80c nin0
  have f116 := f78.keep K80c
  have f118 := f70.keep K80c nin0
  have Z80 := Nat.le_trans Z68 K80c.1
  have K80 := K68.trans K80c all0
  obtain ⟨cq121, kq121, q121a, q121b, q121c⟩ := isOf hZ rfl f86
  obtain ⟨_, _, ⟨T121, L121, k121, n121⟩, -, X121, ⟨Lc121, hQ121, l121, y121, z121⟩, st121⟩ := X80.virtualBack hx (y := mN12) (z := mN12) hown (om hZ hw 92 rfl) (om hZ hw 93 rfl) (notFace_of_selects (args := #[]) (om hZ hw 95 rfl)) (om hZ hw 95 rfl) (om hZ hw 94 rfl) (by decide) (backOf (W := 0) (rm16 l Z a0 hw [] b81 (2 : Int32) T80.heap n0 Z80 f87) hZ (ow hw 96 rfl) (ow hw 74 rfl) (by decide) (by decide)) q121a q121c (g := (mkF m 280 #[vR rp, vR rl, vI 3, vR b3, vI 1, vI 4, vR b18, vR b27, vI 3, vR b53, vR b81, vR b81, (own_s qd37)] [(.ref b81)])) rfl (by rw [hml]; rfl) (Steps.refl _) (argsL := []) (rest := []) (lenOf pd_5 rfl) rfl (oz rfl) (q d5_280) (fun _ _ => ⟨rfl, rfl, (by decide : 8 + 0 ≤ _), (by decide : 2324 + 0 ≤ _)⟩)
  dsimp only [Pt.U, Pt.locs, Pt.cells, Pt.slots] at X121 l121 y121 z121 st121 hQ121
  subst y121 z121
  obtain ⟨rfl, N121q, e121⟩ := hQ121
  have N121 := oF l121 N80 N121q
  obtain ⟨_, _, ⟨T122, L122, k122, n122⟩, -, X122, ⟨Lc122, hQ122, l122, y122, z122⟩, st122⟩ := Jvm.LawKit.callS X121 hx (y := mN16) hown (om hZ hw 97 rfl) (om hZ hw 98 rfl) (om hZ hw 32 rfl) (om hZ hw 99 rfl) (by decide) (backOf (W := 0) (rm17b l Z a0 hw [] b81 (-1 : Int32) ((1 : Int32) * (1 : Int32)) b82 b83 (4 * 1) (1 * 1) gx84 gx85 T80.heap n0 Z80 f86 f87 f88 f89 f90 f91 f92 (by decide) (by decide) (by decide) (by decide) (okw1)) hZ (ow hw 99 rfl) (ow hw 32 rfl) (by decide) (by decide)) (g := (mkF m 303 #[vR rp, vR rl, vI 3, vR b3, vI 1, vI 4, vR b18, vR b27, vI 3, vR b53, vR b81, vR b81, (own_s qd37)] [(.int (-1 : Int32)), (.ref b81)])) rfl (by rw [hml]; rfl) (argsL := [(.ref b81), (.int (-1 : Int32))]) (rest := []) (lenOf pd_9 rfl) rfl (oz rfl) (q d5_303) (fun _ _ => ⟨rfl, e121, (by decide : 8 + 3 ≤ _), (by decide : 2324 + 2052 ≤ _)⟩)
  dsimp only [Pt.U, Pt.locs, Pt.cells, Pt.slots] at X122 l122 y122 z122 st122 hQ122
  subst y122 z122
  obtain ⟨b123, b124, b125, gx126, gx127, ggb123, szb123, ggb124, szb124, ggb125, szb125, ne122_0, ne122_1, ne122_2, rfl, N122q, K122c, f128, f129, f130, f131, f132, f133, f134, hq135⟩ := hQ122
  have N122 := oF l122 N121 N122q
  have f165 := f113.keep K122c nin0
  have f168 := f116.keep K122c
  have f170 := f118.keep K122c nin0
  have Z122 := Nat.le_trans Z80 K122c.1
  have K122 := K80.trans K122c all0
  obtain ⟨cq180, kq180, q180a, q180b, q180c⟩ := isOf hZ rfl f128
  obtain ⟨_, _, ⟨T180, L180, k180, n180⟩, -, X180, ⟨Lc180, hQ180, l180, y180, z180⟩, st180⟩ := X122.virtualBack hx (y := mN12) (z := mN12) hown (om hZ hw 92 rfl) (om hZ hw 93 rfl) (notFace_of_selects (args := #[]) (om hZ hw 95 rfl)) (om hZ hw 95 rfl) (om hZ hw 94 rfl) (by decide) (backOf (W := 0) (rm16 l Z a0 hw [] b123 (4 : Int32) T122.heap n0 Z122 f129) hZ (ow hw 96 rfl) (ow hw 74 rfl) (by decide) (by decide)) q180a q180c (g := (mkF m 280 #[vR rp, vR rl, vI 3, vR b3, vI 1, vI 4, vR b18, vR b27, vI 3, vR b53, vR b123, vR b123, (own_s qd37)] [(.ref b123)])) rfl (by rw [hml]; rfl) (Steps.refl _) (argsL := []) (rest := []) (lenOf pd_5 rfl) rfl (oz rfl) (q d5_280) (fun _ _ => ⟨rfl, rfl, (by decide : 11 + 0 ≤ _), (by decide : 4376 + 0 ≤ _)⟩)
  dsimp only [Pt.U, Pt.locs, Pt.cells, Pt.slots] at X180 l180 y180 z180 st180 hQ180
  subst y180 z180
  obtain ⟨rfl, N180q, e180⟩ := hQ180
  have N180 := oF l180 N122 N180q
  obtain ⟨T181, h181, X181, e181, E181, A181, D181, -, st181⟩ := newO X180 hx hZ hown (ow hw 115 rfl) (ow hw 116 rfl) (ow hw 32 rfl) e180 (g := (mkF m 315 #[vR rp, vR rl, vI 3, vR b3, vI 1, vI 4, vR b18, vR b27, vI 3, vR b53, vR b123, vR b123, (own_s qd37)] [])) rfl (q d5_315) (by decide) (by decide)
  obtain ⟨b181, g181⟩ : ∃ z, z = T122.heap.size := ⟨_, rfl⟩
  rw [← g181] at A181 D181 st181
  have ne182 := oN f128.lt g181
  have ne187 := oN f165.lt g181
  have ne188 := oN f168.lt g181
  have gg181 := oL Z122 g181
  have sz181 := oL K122.1 g181
  have f196 := f165.ext E181
  have f199 := f168.ext E181
  have f201 := f170.ext E181
  have f211 := f128.ext E181
  have f212 := f129.ext E181
  have f213 := f130.ext E181
  have Z181 := Nat.le_trans Z122 E181.1
  have K181 := K122.ext E181
  have f218 : Fld Z h181 b181 cS0 "column" "[I" .null := D181 (Or.inr (ow hw 122 rfl)) (ty := (.array .int)) (by decide)
  have f219 : Fld Z h181 b181 cS0 "occurrenceRow" "I" (.int 0) := D181 (Or.inr (ow hw 124 rfl)) (ty := .int) (by decide)
  have f220 : Fld Z h181 b181 cS0 "single" cS4 .null := D181 (Or.inr (ow hw 126 rfl)) (ty := (.object cS3)) (by decide)
  have f221 : Fld Z h181 b181 cS0 "block" cS4 .null := D181 (Or.inr (ow hw 128 rfl)) (ty := (.object cS3)) (by decide)
  have f222 : Fld Z h181 b181 cS0 "blockColumn" "[[I" .null := D181 (Or.inr (ow hw 132 rfl)) (ty := (.array (.array .int))) (by decide)
  have f223 : Fld Z h181 b181 cS0 "blockFactor" "I" (.int 0) := D181 (Or.inr (ow hw 134 rfl)) (ty := .int) (by decide)
  obtain ⟨_, _, ⟨T224, L224, k224, n224⟩, -, X224, ⟨Lc224, hQ224, l224, y224, z224⟩, st224⟩ := X181.specialBack hx (y := mN17) rfl hown (om hZ hw 117 rfl) (om hZ hw 118 rfl) (om hZ hw 119 rfl) (by decide) (backOf (W := 1) (rm21 l Z a0 hw [] b181 b3 (3 : Int32) b53 b123 (1 : Int32) (((1 : Int32) * (1 : Int32)) * ((1 : Int32) * (1 : Int32))) gx4 h181 n0 Z181 A181 f218 f219 f220 f221 f222 f223 f199 f211 f201 f213 f212 f196 ne187 ne188 ne182 (by decide) gg181) hZ (ow hw 119 rfl) (ow hw 32 rfl) (by decide) (by decide)) (g := (mkF m 326 #[vR rp, vR rl, vI 3, vR b3, vI 1, vI 4, vR b18, vR b27, vI 3, vR b53, vR b123, vR b123, (own_s qd37)] [(.ref b123), (.ref b53), (.int 3), (.ref b3), (.ref b181), (.ref b181)])) rfl (by rw [hml]; rfl) (Steps.refl _) (a := b181) (argsL := [(.ref b3), (.int 3), (.ref b53), (.ref b123)]) (rest := [(.ref b181)]) (lenOf pd_10 rfl) rfl (oz rfl) (q d5_326) (fun _ _ => ⟨rfl, e181, (by decide : 12 + 5 ≤ _), (by decide : 4382 + 1028 ≤ _)⟩)
  dsimp only [Pt.U, Pt.locs, Pt.cells, Pt.slots] at X224 l224 y224 z224 st224 hQ224
  subst y224 z224
  obtain ⟨rfl, N224q, K224c⟩ := hQ224
  have N224 := oF l224 N180 N224q
  have K224 := K181.trans K224c (allS (Or.inr sz181) all0)
  obtain ⟨fs, hr, hrun, hended, hW, hsame⟩ := X224.leave (v := some (.ref b181)) (oR Bd.returns) (hlocks := Bd.notSynchronized)
  refine ⟨_, _, pre16 _ ?_, hrun, hended, _, _, rfl, ?_, ⟨_, rfl⟩, hW, hsame.mono (by decide) (by decide)⟩
  ·show Steps p.tables e below (T10.setTop (mkF m 12 #[vR rp, vR rl, vI 3, vR b3, vU, vU, vU, vU, vU, vU, vU, vU, vU] [(.int 1)])) _
   refine XS.istore X10.here hx rfl (q d5_12) rfl (l' := #[vR rp, vR rl, vI 3, vR b3, vI 1, vU, vU, vU, vU, vU, vU, vU, vU]) rfl ?_
   refine XS.iloadN X10.here hx rfl (q d5_14) rfl ?_
   refine XS.iload X10.here hx rfl (q d5_15) rfl ?_
   refine st17 _ ?_
   refine XS.istore X17.here hx rfl (q d5_20) rfl (l' := #[vR rp, vR rl, vI 3, vR b3, vI 1, vI 4, vU, vU, vU, vU, vU, vU, vU]) rfl ?_
   refine XS.iload X17.here hx rfl (q d5_22) rfl ?_
   refine XS.ifYes X17.here hx rfl (pc0 := 24) (pc' := 29) rfl (q d5_24) rfl ((if0 _ _).trans (feq (by decide : ¬ ((4 : Int32) = (0 : Int32)))).2) (by decide) (by decide) ?_
   refine XS.iloadN X17.here hx rfl (q d5_29) rfl ?_
   refine XS.iconst X17.here hx rfl (q d5_30) ?_
   refine XS.iadd X17.here hx rfl (q d5_31) rfl ?_
   refine XS.iload X17.here hx rfl (q d5_32) rfl ?_
   refine XS.imul X17.here hx rfl (q d5_34) rfl ?_
   refine st18 _ ?_
   refine XS.astore X18.here hx rfl (q d5_37) rfl rfl (l' := #[vR rp, vR rl, vI 3, vR b3, vI 1, vI 4, vR b18, vU, vU, vU, vU, vU, vU]) rfl ?_
   refine XS.aload X18.here hx rfl (q d5_39) rfl rfl ?_
   refine X18.arraylength hx (by rw [e18]; exact Arcl26.1) (State.isArrayOf_alike hZ.alike Arcl26.2.1) (g := (mkF m 41 #[vR rp, vR rl, vI 3, vR b3, vI 1, vI 4, vR b18, vU, vU, vU, vU, vU, vU] [(.ref b18)])) rfl rfl (q d5_41) _ ?_
   rw [Szcl26]
   refine st27 _ ?_
   refine XS.astore X27.here hx rfl (q d5_44) rfl rfl (l' := #[vR rp, vR rl, vI 3, vR b3, vI 1, vI 4, vR b18, vR b27, vU, vU, vU, vU, vU]) rfl ?_
   refine XS.iconst X27.here hx rfl (q d5_46) ?_
   refine XS.istore X27.here hx rfl (q d5_47) rfl (l' := #[vR rp, vR rl, vI 3, vR b3, vI 1, vI 4, vR b18, vR b27, vI 0, vU, vU, vU, vU]) rfl ?_
   refine st37 _ ?_
   refine XS.iloadN X37.here hx rfl (q d5_211) rfl ?_
   refine XS.iload X37.here hx rfl (q d5_212) rfl ?_
   refine XS.imul X37.here hx rfl (q d5_214) rfl ?_
   refine XS.istore X37.here hx rfl (q d5_215) rfl (l' := #[vR rp, vR rl, vI 3, vR b3, vI 1, vI 4, vR b18, vR b27, vI 3, (own_s qa37), (own_s qb37), (own_s qc37), (own_s qd37)]) rfl ?_
   refine XS.aload X37.here hx rfl (q d5_217) rfl rfl ?_
   refine XS.aloadN X37.here hx rfl (q d5_219) rfl rfl ?_
   refine XS.iloadN X37.here hx rfl (q d5_220) rfl ?_
   refine XS.iconst X37.here hx rfl (q d5_221) ?_
   refine XS.isub X37.here hx rfl (q d5_222) rfl ?_
   refine X37.iaload hx (j := (2 : Int32)) (v := (.int (fl 2))) (by rw [e37]; exact Arcl41.1) (State.isArrayOf_alike hZ.alike Arcl41.2.1) Arcl41.2.2 hincl41 hatcl41 (g := (mkF m 223 #[vR rp, vR rl, vI 3, vR b3, vI 1, vI 4, vR b18, vR b27, vI 3, (own_s qa37), (own_s qb37), (own_s qc37), (own_s qd37)] [(.int 2), (.ref rl), (.ref b18)])) rfl rfl (q d5_223) _ ?_
   refine XS.iload X37.here hx rfl (q d5_224) rfl ?_
   refine XS.imul X37.here hx rfl (q d5_226) rfl ?_
   refine XS.aload X37.here hx rfl (q d5_227) rfl rfl ?_
   refine XS.iload X37.here hx rfl (q d5_229) rfl ?_
   refine XS.iload X37.here hx rfl (q d5_231) rfl ?_
   refine st42 _ ?_
   refine XS.aload X42.here hx rfl (q d5_236) rfl rfl ?_
   refine XS.aloadN X42.here hx rfl (q d5_238) rfl rfl ?_
   refine XS.iloadN X42.here hx rfl (q d5_239) rfl ?_
   refine XS.iconst X42.here hx rfl (q d5_240) ?_
   refine XS.isub X42.here hx rfl (q d5_241) rfl ?_
   refine X42.iaload hx (j := (2 : Int32)) (v := (.int (fl 2))) (by rw [e42]; exact Arcl47.1) (State.isArrayOf_alike hZ.alike Arcl47.2.1) Arcl47.2.2 hincl47 hatcl47 (g := (mkF m 242 #[vR rp, vR rl, vI 3, vR b3, vI 1, vI 4, vR b18, vR b27, vI 3, (own_s qa37), (own_s qb37), (own_s qc37), (own_s qd37)] [(.int 2), (.ref rl), (.ref b27)])) rfl rfl (q d5_242) _ ?_
   refine XS.iload X42.here hx rfl (q d5_243) rfl ?_
   refine XS.imul X42.here hx rfl (q d5_245) rfl ?_
   refine XS.aload X42.here hx rfl (q d5_246) rfl rfl ?_
   refine XS.iload X42.here hx rfl (q d5_248) rfl ?_
   refine XS.iload X42.here hx rfl (q d5_250) rfl ?_
   refine st48 _ ?_
   refine st53 _ ?_
   refine XS.dup X53.here hx rfl (q d5_258) rfl rfl ?_
   refine XS.iconst X53.here hx rfl (q d5_259) ?_
   refine XS.iload X53.here hx rfl (q d5_260) rfl ?_
   refine XS.aload X53.here hx rfl (q d5_262) rfl rfl ?_
   refine XS.aload X53.here hx rfl (q d5_264) rfl rfl ?_
   refine st68.trans ?_
   refine XS.astore X68.here hx rfl (q d5_269) rfl rfl (l' := #[vR rp, vR rl, vI 3, vR b3, vI 1, vI 4, vR b18, vR b27, vI 3, vR b53, (own_s qb37), (own_s qc37), (own_s qd37)]) (by cases qa37 <;> rfl) ?_
   refine XS.aconstNull X68.here hx rfl (q d5_271) ?_
   refine XS.astore X68.here hx rfl (q d5_272) rfl rfl (l' := #[vR rp, vR rl, vI 3, vR b3, vI 1, vI 4, vR b18, vR b27, vI 3, vR b53, .val .null, (own_s qc37), (own_s qd37)]) (by cases qb37 <;> rfl) ?_
   refine XS.aload X68.here hx rfl (q d5_274) rfl rfl ?_
   refine XS.astore X68.here hx rfl (q d5_276) rfl rfl (l' := #[vR rp, vR rl, vI 3, vR b3, vI 1, vI 4, vR b18, vR b27, vI 3, vR b53, .val .null, vR b53, (own_s qd37)]) (by cases qc37 <;> rfl) ?_
   refine XS.aload X68.here hx rfl (q d5_278) rfl rfl ?_
   refine st79.trans ?_
   refine XS.iload X79.here hx rfl (q d5_283) rfl ?_
   refine XS.icmpNo X79.here hx rfl (q d5_285) rfl (tlt (by decide : ((1 : Int32) < (4 : Int32)))).2.1 ?_
   refine XS.aload X79.here hx rfl (q d5_288) rfl rfl ?_
   refine XS.aload X79.here hx rfl (q d5_290) rfl rfl ?_
   refine XS.aload X79.here hx rfl (q d5_292) rfl rfl ?_
   refine Jvm.RoadKit.acmp (g := (mkF m 294 #[vR rp, vR rl, vI 3, vR b3, vI 1, vI 4, vR b18, vR b27, vI 3, vR b53, .val .null, vR b53, (own_s qd37)] [(.ref b53), (.ref b53), (.ref b53)])) X79 hx rfl rfl rfl (pc0 := 294) (pc' := 297) (same := true) rfl (q d5_294) rfl (decide_eq_true rfl) (by decide) (by decide) ?_
   refine XS.iload X79.here hx rfl (q d5_297) rfl ?_
   refine XS.goto X79.here hx rfl (pc0 := 299) (pc' := 303) rfl (q d5_299) (by decide) (by decide) ?_
   refine st80 _ ?_
   refine XS.astore X80.here hx rfl (q d5_306) rfl rfl (l' := #[vR rp, vR rl, vI 3, vR b3, vI 1, vI 4, vR b18, vR b27, vI 3, vR b53, vR b81, vR b53, (own_s qd37)]) rfl ?_
   refine XS.aload X80.here hx rfl (q d5_308) rfl rfl ?_
   refine XS.astore X80.here hx rfl (q d5_310) rfl rfl (l' := #[vR rp, vR rl, vI 3, vR b3, vI 1, vI 4, vR b18, vR b27, vI 3, vR b53, vR b81, vR b81, (own_s qd37)]) rfl ?_
   refine XS.goto X80.here hx rfl (pc0 := 312) (pc' := 278) rfl (q d5_312) (by decide) (by decide) ?_
   refine XS.aload X80.here hx rfl (q d5_278) rfl rfl ?_
   refine st121.trans ?_
   refine XS.iload X121.here hx rfl (q d5_283) rfl ?_
   refine XS.icmpNo X121.here hx rfl (q d5_285) rfl (tlt (by decide : ((2 : Int32) < (4 : Int32)))).2.1 ?_
   refine XS.aload X121.here hx rfl (q d5_288) rfl rfl ?_
   refine XS.aload X121.here hx rfl (q d5_290) rfl rfl ?_
   refine XS.aload X121.here hx rfl (q d5_292) rfl rfl ?_
   refine Jvm.RoadKit.acmp (g := (mkF m 294 #[vR rp, vR rl, vI 3, vR b3, vI 1, vI 4, vR b18, vR b27, vI 3, vR b53, vR b81, vR b81, (own_s qd37)] [(.ref b53), (.ref b81), (.ref b81)])) X121 hx rfl rfl rfl (pc0 := 294) (pc' := 302) (same := false) rfl (q d5_294) rfl (decide_eq_false fun q => (Ne.symm ne96) (Value.ref.inj q)) (by decide) (by decide) ?_
   refine XS.iconst X121.here hx rfl (q d5_302) ?_
   refine st122 _ ?_
   refine XS.astore X122.here hx rfl (q d5_306) rfl rfl (l' := #[vR rp, vR rl, vI 3, vR b3, vI 1, vI 4, vR b18, vR b27, vI 3, vR b53, vR b123, vR b81, (own_s qd37)]) rfl ?_
   refine XS.aload X122.here hx rfl (q d5_308) rfl rfl ?_
   refine XS.astore X122.here hx rfl (q d5_310) rfl rfl (l' := #[vR rp, vR rl, vI 3, vR b3, vI 1, vI 4, vR b18, vR b27, vI 3, vR b53, vR b123, vR b123, (own_s qd37)]) rfl ?_
   refine XS.goto X122.here hx rfl (pc0 := 312) (pc' := 278) rfl (q d5_312) (by decide) (by decide) ?_
   refine XS.aload X122.here hx rfl (q d5_278) rfl rfl ?_
   refine st180.trans ?_
   refine XS.iload X180.here hx rfl (q d5_283) rfl ?_
   refine XS.icmpYes X180.here hx rfl (pc0 := 285) (pc' := 315) rfl (q d5_285) rfl (flt (by decide : ¬ ((4 : Int32) < (4 : Int32)))).2.1 (by decide) (by decide) ?_
   refine st181 _ ?_
   refine XS.dup X181.here hx rfl (q d5_318) rfl rfl ?_
   refine XS.aloadN X181.here hx rfl (q d5_319) rfl rfl ?_
   refine XS.iload X181.here hx rfl (q d5_320) rfl ?_
   refine XS.aload X181.here hx rfl (q d5_322) rfl rfl ?_
   refine XS.aload X181.here hx rfl (q d5_324) rfl rfl ?_
   refine st224.trans ?_
   exact retOut X224 hx Bd.returns rfl (Or.inr (Or.inr (Or.inr (Or.inr ⟨rfl, rfl, rfl⟩)))) (q d5_329) hr
  ·show Q5k3 Z rp rl fp fl h0 n0 _ T224.heap _
   exact ⟨b181, gg181, sz181, rfl, N224, K224⟩
 ·have pre250 : oP p e below (T10.setTop (mkF m 12 #[vR rp, vR rl, vI 3, vR b3, vU, vU, vU, vU, vU, vU, vU, vU, vU] [(.int 2)])) (s₁.setTop (entryFrame m #[(.ref rp), (.ref rl)] 13)) := by
   intro t k
   refine pre14 _ ?_
   rw [hk15]
   exact k
  obtain ⟨_, _, ⟨T251, L251, k251, n251⟩, -, X251, ⟨Lc251, hQ251, l251, y251, z251⟩, st251⟩ := Jvm.LawKit.callS X10 hx (y := mN2) hown (om hZ hw 48 rfl) (om hZ hw 49 rfl) (om hZ hw 32 rfl) (om hZ hw 50 rfl) (by decide) (backOf (W := 0) (rm9m3c2 l Z a0 hw []  T10.heap n0 Z10 ) hZ (ow hw 50 rfl) (ow hw 32 rfl) (by decide) (by decide)) (g := (mkF m 17 #[vR rp, vR rl, vI 3, vR b3, vI 2, vU, vU, vU, vU, vU, vU, vU, vU] [(.int 2), (.int 3)])) rfl (by rw [hml]; rfl) (argsL := [(.int 3), (.int 2)]) (rest := []) (lenOf pd_2 rfl) rfl (oz rfl) (q d5_17) (fun _ _ => ⟨rfl, rfl, (by decide : 2 + 0 ≤ _), (by decide : 260 + 0 ≤ _)⟩)
  dsimp only [Pt.U, Pt.locs, Pt.cells, Pt.slots] at X251 l251 y251 z251 st251 hQ251
  subst y251 z251
  obtain ⟨rfl, N251q, e251⟩ := hQ251
  have N251 := oF l251 N10 N251q
  obtain ⟨T252, h252, k252, X252, e252, E252, A252, st252⟩ := newP X251 hx hZ (ow hw 2 rfl) e251 (g := (mkF m 35 #[vR rp, vR rl, vI 3, vR b3, vI 2, vI 4, vU, vU, vU, vU, vU, vU, vU] [(.int 8)])) rfl (q d5_35) rfl (by decide) (cap := 8) (by decide) (by decide) (by decide) (by decide)
  obtain ⟨b252, g252⟩ : ∃ z, z = T10.heap.size := ⟨_, rfl⟩
  rw [← g252] at A252 st252
  have ne253 := oN f13.lt g252
  have ne254 := oN f12.lt g252
  have ne255 := oN f11.lt g252
  have gg252 := oL Z10 g252
  have sz252 := oL K10.1 g252
  have f256 := f11.ext E252
  have f257 := f12.ext E252
  have f258 := f13.ext E252
  have Z252 := Nat.le_trans Z10 E252.1
  have K252 := K10.ext E252
  have f259 : AI Z h252 b252 .int 8 zI := AF.new A252 (by decide)
  obtain ⟨cl260, Arcl260, Szcl260⟩ := AF.len f259
  obtain ⟨T261, h261, k261, X261, e261, E261, A261, st261⟩ := newP X252 hx hZ (ow hw 2 rfl) e252 (g := (mkF m 42 #[vR rp, vR rl, vI 3, vR b3, vI 2, vI 4, vR b252, vU, vU, vU, vU, vU, vU] [(.int 8)])) rfl (q d5_42) rfl (by decide) (cap := 8) (by decide) (by decide) (by decide) (by decide)
  obtain ⟨b261, g261⟩ : ∃ z, z = h252.size := ⟨_, rfl⟩
  rw [← g261] at A261 st261
  have ne262 := oN f259.lt g261
  have ne263 := oN f258.lt g261
  have ne264 := oN f257.lt g261
  have ne265 := oN f256.lt g261
  have gg261 := oL Z252 g261
  have sz261 := oL K252.1 g261
  have f266 := f256.ext E261
  have f267 := f257.ext E261
  have f268 := f258.ext E261
  have f269 := f259.ext E261
  have Z261 := Nat.le_trans Z252 E261.1
  have K261 := K252.ext E261
  have f270 : AI Z h261 b261 .int 8 zI := AF.new A261 (by decide)
  obtain ⟨T271, h271, L271, so271, qa271, qb271, qc271, qd271, fn271, fc271, X271, e271, N271, Kl271, An271, ok271, Ac271, st271⟩ := ofO rp rl (3 : Int32) b3 (2 : Int32) (4 : Int32) b252 b261 3 2 8 fp fl gx4 hx hZ hw hby hml hown (by decide) (by decide) (by decide) (by decide) (by decide) hfl gg252 gg261 ne262 ne255 ne265 ne254 ne264 ne253 ne263 3 T261 _ h261 (0 : Int32) 0 none none none none zI zI (by decide) rfl X261 e261 N251 f266 f267 f268 f269 (fun j _ => ⟨0, rfl, Nat.zero_le _⟩) f270
  have Z271 := Nat.le_trans Z261 Kl271.1
  have K271 := K261.trans Kl271 (allS (Or.inr sz252) (allS (Or.inr sz261) all0))
  have f273 := f267.keep Kl271 (ninS ne254 (ninS ne264 nin0))
  have f274 := f268.keep Kl271 (ninS ne253 (ninS ne263 nin0))
  obtain ⟨cl275, Arcl275, hincl275, hatcl275⟩ := AF.at f273 (j := (2 : Int32)) 2 (by decide) (by decide)
  obtain ⟨kl276, hkl276, hkm276⟩ := hfl 2 (by decide)
  obtain ⟨hsp276, hsq276⟩ := own_spm (cc := (2 : Int32)) (cn := 2) hkl276 (by decide) (Nat.le_trans hkm276 (by decide : 2 ≤ 3)) (by decide)
  obtain ⟨T276, h276, L276, fy276, X276, e276, N276, Kl276, Ay276, py276, st276⟩ := own_cp X271 hx hZ hown (ow hw 68 rfl) (ow hw 71 rfl) (ow hw 69 rfl) (ow hw 70 rfl) e271 An271 (by decide) hsp276 (by decide : (6 : Int32).toInt = ((6 : Nat) : Int)) (by decide : (2 : Int32).toInt = ((2 : Nat) : Int)) hsq276 (by decide) N271 gg252 (g := (mkF m 233 #[vR rp, vR rl, vI 3, vR b3, vI 2, vI 4, vR b252, vR b261, vI 6, (own_s qa271), (own_s qb271), (own_s qc271), (own_s qd271)] [(.int 2), (.int 6), (.ref b252), (.int ((fl 2) * (2 : Int32))), (.ref b252)])) rfl (by rw [hml]; rfl) rfl (q d5_233) (by decide) (W := 0) (oz rfl) (by decide)
  have Z276 := Nat.le_trans Z271 Kl276.1
  have K276 := K271.trans Kl276 (allS (Or.inr sz252) all0)
  have f278 := f273.keep Kl276 (ninS ne254 nin0)
  have f279 := f274.keep Kl276 (ninS ne253 nin0)
  have f280 := Ac271.keep Kl276 (ninS (Ne.symm ne262) nin0)
  have okc276 := py276 _ ok271
  obtain ⟨cl281, Arcl281, hincl281, hatcl281⟩ := AF.at f278 (j := (2 : Int32)) 2 (by decide) (by decide)
  obtain ⟨kl282, hkl282, hkm282⟩ := hfl 2 (by decide)
  obtain ⟨hsp282, hsq282⟩ := own_spm (cc := (2 : Int32)) (cn := 2) hkl282 (by decide) (Nat.le_trans hkm282 (by decide : 2 ≤ 3)) (by decide)
  obtain ⟨T282, h282, L282, fy282, X282, e282, N282, Kl282, Ay282, py282, st282⟩ := own_cp X276 hx hZ hown (ow hw 68 rfl) (ow hw 71 rfl) (ow hw 69 rfl) (ow hw 70 rfl) e276 f280 (by decide) hsp282 (by decide : (6 : Int32).toInt = ((6 : Nat) : Int)) (by decide : (2 : Int32).toInt = ((2 : Nat) : Int)) hsq282 (by decide) N276 gg261 (g := (mkF m 252 #[vR rp, vR rl, vI 3, vR b3, vI 2, vI 4, vR b252, vR b261, vI 6, (own_s qa271), (own_s qb271), (own_s qc271), (own_s qd271)] [(.int 2), (.int 6), (.ref b261), (.int ((fl 2) * (2 : Int32))), (.ref b261)])) rfl (by rw [hml]; rfl) rfl (q d5_252) (by decide) (W := 0) (oz rfl) (by decide)
  have Z282 := Nat.le_trans Z276 Kl282.1
  have K282 := K276.trans Kl282 (allS (Or.inr sz261) all0)
  have f285 := f279.keep Kl282 (ninS ne263 nin0)
  have f286 := Ay276.keep Kl282 (ninS ne262 nin0)
  obtain ⟨T287, h287, X287, e287, E287, A287, D287, -, st287⟩ := newO X282 hx hZ hown (ow hw 72 rfl) (ow hw 73 rfl) (ow hw 74 rfl) e282 (g := (mkF m 255 #[vR rp, vR rl, vI 3, vR b3, vI 2, vI 4, vR b252, vR b261, vI 6, (own_s qa271), (own_s qb271), (own_s qc271), (own_s qd271)] [])) rfl (q d5_255) (by decide) (by decide)
  obtain ⟨b287, g287⟩ : ∃ z, z = h282.size := ⟨_, rfl⟩
  rw [← g287] at A287 D287 st287
  have ne288 := oN f286.lt g287
  have ne289 := oN Ay282.lt g287
  have ne290 := oN f285.lt g287
  have gg287 := oL Z282 g287
  have sz287 := oL K282.1 g287
  have f295 := f285.ext E287
  have f296 := f286.ext E287
  have f297 := Ay282.ext E287
  have Z287 := Nat.le_trans Z282 E287.1
  have K287 := K282.ext E287
  have f298 : Fld Z h287 b287 cS3 "width" "I" (.int 0) := D287 (Or.inr (ow hw 85 rfl)) (ty := .int) (by decide)
  have f299 : Fld Z h287 b287 cS3 "columns" "I" (.int 0) := D287 (Or.inr (ow hw 87 rfl)) (ty := .int) (by decide)
  have f300 : Fld Z h287 b287 cS3 "next" "[I" .null := D287 (Or.inr (ow hw 89 rfl)) (ty := (.array .int)) (by decide)
  have f301 : Fld Z h287 b287 cS3 "comparisons" "[I" .null := D287 (Or.inr (ow hw 91 rfl)) (ty := (.array .int)) (by decide)
  obtain ⟨_, _, ⟨T302, L302, k302, n302⟩, -, X302, ⟨Lc302, hQ302, l302, y302, z302⟩, st302⟩ := X287.specialBack hx (y := mN11) rfl hown (om hZ hw 75 rfl) (om hZ hw 76 rfl) (om hZ hw 77 rfl) (by decide) (backOf (W := 1) (rm14 l Z a0 hw [] b287 (1 : Int32) (2 : Int32) b252 b261 h287 n0 Z287 A287 f298 f299 f300 f301 gg287) hZ (ow hw 77 rfl) (ow hw 74 rfl) (by decide) (by decide)) (g := (mkF m 266 #[vR rp, vR rl, vI 3, vR b3, vI 2, vI 4, vR b252, vR b261, vI 6, (own_s qa271), (own_s qb271), (own_s qc271), (own_s qd271)] [(.ref b261), (.ref b252), (.int 2), (.int 1), (.ref b287), (.ref b287)])) rfl (by rw [hml]; rfl) (Steps.refl _) (a := b287) (argsL := [(.int 1), (.int 2), (.ref b252), (.ref b261)]) (rest := [(.ref b287)]) (lenOf pd_7 rfl) rfl (oz rfl) (q d5_266) (fun _ _ => ⟨rfl, e287, (by decide : 5 + 0 ≤ _), (by decide : 280 + 0 ≤ _)⟩)
  dsimp only [Pt.U, Pt.locs, Pt.cells, Pt.slots] at X302 l302 y302 z302 st302 hQ302
  subst y302 z302
  obtain ⟨rfl, N302q, K302c, f303, f304, f305, f306⟩ := hQ302
  have N302 := oF l302 N282 N302q
  have f309 := f295.keep K302c (ninS ne290 nin0)
  have f310 := f296.keep K302c (ninS ne288 nin0)
  have f311 := f297.keep K302c (ninS ne289 nin0)
  have f312 := A287.keep K302c
  have Z302 := Nat.le_trans Z287 K302c.1
  have K302 := K287.trans K302c (allS (Or.inr sz287) all0)
  obtain ⟨cq313, kq313, q313a, q313b, q313c⟩ := isOf hZ rfl f312
  obtain ⟨_, _, ⟨T313, L313, k313, n313⟩, -, X313, ⟨Lc313, hQ313, l313, y313, z313⟩, st313⟩ := X302.virtualBack hx (y := mN12) (z := mN12) hown (om hZ hw 92 rfl) (om hZ hw 93 rfl) (notFace_of_selects (args := #[]) (om hZ hw 95 rfl)) (om hZ hw 95 rfl) (om hZ hw 94 rfl) (by decide) (backOf (W := 0) (rm16 l Z a0 hw [] b287 (1 : Int32) T302.heap n0 Z302 f303) hZ (ow hw 96 rfl) (ow hw 74 rfl) (by decide) (by decide)) q313a q313c (g := (mkF m 280 #[vR rp, vR rl, vI 3, vR b3, vI 2, vI 4, vR b252, vR b261, vI 6, vR b287, .val .null, vR b287, (own_s qd271)] [(.ref b287)])) rfl (by rw [hml]; rfl) (Steps.refl _) (argsL := []) (rest := []) (lenOf pd_5 rfl) rfl (oz rfl) (q d5_280) (fun _ _ => ⟨rfl, rfl, (by decide : 5 + 0 ≤ _), (by decide : 280 + 0 ≤ _)⟩)
  dsimp only [Pt.U, Pt.locs, Pt.cells, Pt.slots] at X313 l313 y313 z313 st313 hQ313
  subst y313 z313
  obtain ⟨rfl, N313q, e313⟩ := hQ313
  have N313 := oF l313 N302 N313q
  obtain ⟨_, _, ⟨T314, L314, k314, n314⟩, -, X314, ⟨Lc314, hQ314, l314, y314, z314⟩, st314⟩ := Jvm.LawKit.callS X313 hx (y := mN16) hown (om hZ hw 97 rfl) (om hZ hw 98 rfl) (om hZ hw 32 rfl) (om hZ hw 99 rfl) (by decide) (backOf (W := 0) (rm17a l Z a0 hw [] b287 (6 : Int32) (2 : Int32) b252 b261 8 2 fy276 fy282 T302.heap n0 Z302 f312 f303 f304 f305 f306 f310 f311 (by decide) (by decide) (by decide) (by decide) (fun j hj => own_okt (okc276 j hj) (by decide))) hZ (ow hw 99 rfl) (ow hw 32 rfl) (by decide) (by decide)) (g := (mkF m 303 #[vR rp, vR rl, vI 3, vR b3, vI 2, vI 4, vR b252, vR b261, vI 6, vR b287, .val .null, vR b287, (own_s qd271)] [(.int 6), (.ref b287)])) rfl (by rw [hml]; rfl) (argsL := [(.ref b287), (.int 6)]) (rest := []) (lenOf pd_9 rfl) rfl (oz rfl) (q d5_303) (fun _ _ => ⟨rfl, e313, (by decide : 5 + 3 ≤ _), (by decide : 280 + 2052 ≤ _)⟩)
  dsimp only [Pt.U, Pt.locs, Pt.cells, Pt.slots] at X314 l314 y314 z314 st314 hQ314
  subst y314 z314
  obtain ⟨b315, b316, b317, gx318, gx319, ggb315, szb315, ggb316, szb316, ggb317, szb317, ne314_0, ne314_1, ne314_2, rfl, N314q, K314c, f320, f321, f322, f323, f324, f325, f326, okw2⟩ := hQ314
  have N314 := oF l314 N313 N314q
  have ne329 := oM f312.lt szb315
  have f347 := f309.keep K314c nin0
  have f350 := f312.keep K314c
  have f352 := f304.keep K314c nin0
  have Z314 := Nat.le_trans Z302 K314c.1
  have K314 := K302.trans K314c all0
  obtain ⟨cq355, kq355, q355a, q355b, q355c⟩ := isOf hZ rfl f320
  obtain ⟨_, _, ⟨T355, L355, k355, n355⟩, -, X355, ⟨Lc355, hQ355, l355, y355, z355⟩, st355⟩ := X314.virtualBack hx (y := mN12) (z := mN12) hown (om hZ hw 92 rfl) (om hZ hw 93 rfl) (notFace_of_selects (args := #[]) (om hZ hw 95 rfl)) (om hZ hw 95 rfl) (om hZ hw 94 rfl) (by decide) (backOf (W := 0) (rm16 l Z a0 hw [] b315 (2 : Int32) T314.heap n0 Z314 f321) hZ (ow hw 96 rfl) (ow hw 74 rfl) (by decide) (by decide)) q355a q355c (g := (mkF m 280 #[vR rp, vR rl, vI 3, vR b3, vI 2, vI 4, vR b252, vR b261, vI 6, vR b287, vR b315, vR b315, (own_s qd271)] [(.ref b315)])) rfl (by rw [hml]; rfl) (Steps.refl _) (argsL := []) (rest := []) (lenOf pd_5 rfl) rfl (oz rfl) (q d5_280) (fun _ _ => ⟨rfl, rfl, (by decide : 8 + 0 ≤ _), (by decide : 2332 + 0 ≤ _)⟩)
  dsimp only [Pt.U, Pt.locs, Pt.cells, Pt.slots] at X355 l355 y355 z355 st355 hQ355
  subst y355 z355
  obtain ⟨rfl, N355q, e355⟩ := hQ355
  have N355 := oF l355 N314 N355q
  obtain ⟨_, _, ⟨T356, L356, k356, n356⟩, -, X356, ⟨Lc356, hQ356, l356, y356, z356⟩, st356⟩ := Jvm.LawKit.callS X355 hx (y := mN16) hown (om hZ hw 97 rfl) (om hZ hw 98 rfl) (om hZ hw 32 rfl) (om hZ hw 99 rfl) (by decide) (backOf (W := 0) (rm17b l Z a0 hw [] b315 (-1 : Int32) ((2 : Int32) * (2 : Int32)) b316 b317 (8 * 2) (2 * 2) gx318 gx319 T314.heap n0 Z314 f320 f321 f322 f323 f324 f325 f326 (by decide) (by decide) (by decide) (by decide) (okw2)) hZ (ow hw 99 rfl) (ow hw 32 rfl) (by decide) (by decide)) (g := (mkF m 303 #[vR rp, vR rl, vI 3, vR b3, vI 2, vI 4, vR b252, vR b261, vI 6, vR b287, vR b315, vR b315, (own_s qd271)] [(.int (-1 : Int32)), (.ref b315)])) rfl (by rw [hml]; rfl) (argsL := [(.ref b315), (.int (-1 : Int32))]) (rest := []) (lenOf pd_9 rfl) rfl (oz rfl) (q d5_303) (fun _ _ => ⟨rfl, e355, (by decide : 8 + 3 ≤ _), (by decide : 2332 + 2052 ≤ _)⟩)
  dsimp only [Pt.U, Pt.locs, Pt.cells, Pt.slots] at X356 l356 y356 z356 st356 hQ356
  subst y356 z356
  obtain ⟨b357, b358, b359, gx360, gx361, ggb357, szb357, ggb358, szb358, ggb359, szb359, ne356_0, ne356_1, ne356_2, rfl, N356q, K356c, f362, f363, f364, f365, f366, f367, f368, hq369⟩ := hQ356
  have N356 := oF l356 N355 N356q
  have f399 := f347.keep K356c nin0
  have f402 := f350.keep K356c
  have f404 := f352.keep K356c nin0
  have Z356 := Nat.le_trans Z314 K356c.1
  have K356 := K314.trans K356c all0
  obtain ⟨cq414, kq414, q414a, q414b, q414c⟩ := isOf hZ rfl f362
  obtain ⟨_, _, ⟨T414, L414, k414, n414⟩, -, X414, ⟨Lc414, hQ414, l414, y414, z414⟩, st414⟩ := X356.virtualBack hx (y := mN12) (z := mN12) hown (om hZ hw 92 rfl) (om hZ hw 93 rfl) (notFace_of_selects (args := #[]) (om hZ hw 95 rfl)) (om hZ hw 95 rfl) (om hZ hw 94 rfl) (by decide) (backOf (W := 0) (rm16 l Z a0 hw [] b357 (4 : Int32) T356.heap n0 Z356 f363) hZ (ow hw 96 rfl) (ow hw 74 rfl) (by decide) (by decide)) q414a q414c (g := (mkF m 280 #[vR rp, vR rl, vI 3, vR b3, vI 2, vI 4, vR b252, vR b261, vI 6, vR b287, vR b357, vR b357, (own_s qd271)] [(.ref b357)])) rfl (by rw [hml]; rfl) (Steps.refl _) (argsL := []) (rest := []) (lenOf pd_5 rfl) rfl (oz rfl) (q d5_280) (fun _ _ => ⟨rfl, rfl, (by decide : 11 + 0 ≤ _), (by decide : 4384 + 0 ≤ _)⟩)
  dsimp only [Pt.U, Pt.locs, Pt.cells, Pt.slots] at X414 l414 y414 z414 st414 hQ414
  subst y414 z414
  obtain ⟨rfl, N414q, e414⟩ := hQ414
  have N414 := oF l414 N356 N414q
  obtain ⟨T415, h415, X415, e415, E415, A415, D415, -, st415⟩ := newO X414 hx hZ hown (ow hw 115 rfl) (ow hw 116 rfl) (ow hw 32 rfl) e414 (g := (mkF m 315 #[vR rp, vR rl, vI 3, vR b3, vI 2, vI 4, vR b252, vR b261, vI 6, vR b287, vR b357, vR b357, (own_s qd271)] [])) rfl (q d5_315) (by decide) (by decide)
  obtain ⟨b415, g415⟩ : ∃ z, z = T356.heap.size := ⟨_, rfl⟩
  rw [← g415] at A415 D415 st415
  have ne418 := oN f402.lt g415
  have ne419 := oN f399.lt g415
  have ne423 := oN f362.lt g415
  have gg415 := oL Z356 g415
  have sz415 := oL K356.1 g415
  have f430 := f399.ext E415
  have f433 := f402.ext E415
  have f435 := f404.ext E415
  have f445 := f362.ext E415
  have f446 := f363.ext E415
  have f447 := f364.ext E415
  have Z415 := Nat.le_trans Z356 E415.1
  have K415 := K356.ext E415
  have f452 : Fld Z h415 b415 cS0 "column" "[I" .null := D415 (Or.inr (ow hw 122 rfl)) (ty := (.array .int)) (by decide)
  have f453 : Fld Z h415 b415 cS0 "occurrenceRow" "I" (.int 0) := D415 (Or.inr (ow hw 124 rfl)) (ty := .int) (by decide)
  have f454 : Fld Z h415 b415 cS0 "single" cS4 .null := D415 (Or.inr (ow hw 126 rfl)) (ty := (.object cS3)) (by decide)
  have f455 : Fld Z h415 b415 cS0 "block" cS4 .null := D415 (Or.inr (ow hw 128 rfl)) (ty := (.object cS3)) (by decide)
  have f456 : Fld Z h415 b415 cS0 "blockColumn" "[[I" .null := D415 (Or.inr (ow hw 132 rfl)) (ty := (.array (.array .int))) (by decide)
  have f457 : Fld Z h415 b415 cS0 "blockFactor" "I" (.int 0) := D415 (Or.inr (ow hw 134 rfl)) (ty := .int) (by decide)
  obtain ⟨_, _, ⟨T458, L458, k458, n458⟩, -, X458, ⟨Lc458, hQ458, l458, y458, z458⟩, st458⟩ := X415.specialBack hx (y := mN17) rfl hown (om hZ hw 117 rfl) (om hZ hw 118 rfl) (om hZ hw 119 rfl) (by decide) (backOf (W := 1) (rm21 l Z a0 hw [] b415 b3 (6 : Int32) b287 b357 (2 : Int32) (((2 : Int32) * (2 : Int32)) * ((2 : Int32) * (2 : Int32))) gx4 h415 n0 Z415 A415 f452 f453 f454 f455 f456 f457 f433 f445 f435 f447 f446 f430 ne419 ne418 ne423 (by decide) gg415) hZ (ow hw 119 rfl) (ow hw 32 rfl) (by decide) (by decide)) (g := (mkF m 326 #[vR rp, vR rl, vI 3, vR b3, vI 2, vI 4, vR b252, vR b261, vI 6, vR b287, vR b357, vR b357, (own_s qd271)] [(.ref b357), (.ref b287), (.int 6), (.ref b3), (.ref b415), (.ref b415)])) rfl (by rw [hml]; rfl) (Steps.refl _) (a := b415) (argsL := [(.ref b3), (.int 6), (.ref b287), (.ref b357)]) (rest := [(.ref b415)]) (lenOf pd_10 rfl) rfl (oz rfl) (q d5_326) (fun _ _ => ⟨rfl, e415, (by decide : 12 + 5 ≤ _), (by decide : 4390 + 1028 ≤ _)⟩)
  dsimp only [Pt.U, Pt.locs, Pt.cells, Pt.slots] at X458 l458 y458 z458 st458 hQ458
  subst y458 z458
  obtain ⟨rfl, N458q, K458c⟩ := hQ458
  have N458 := oF l458 N414 N458q
  have K458 := K415.trans K458c (allS (Or.inr sz415) all0)
  obtain ⟨fs, hr, hrun, hended, hW, hsame⟩ := X458.leave (v := some (.ref b415)) (oR Bd.returns) (hlocks := Bd.notSynchronized)
  refine ⟨_, _, pre250 _ ?_, hrun, hended, _, _, rfl, ?_, ⟨_, rfl⟩, hW, hsame.mono (by decide) (by decide)⟩
  ·show Steps p.tables e below (T10.setTop (mkF m 12 #[vR rp, vR rl, vI 3, vR b3, vU, vU, vU, vU, vU, vU, vU, vU, vU] [(.int 2)])) _
   refine XS.istore X10.here hx rfl (q d5_12) rfl (l' := #[vR rp, vR rl, vI 3, vR b3, vI 2, vU, vU, vU, vU, vU, vU, vU, vU]) rfl ?_
   refine XS.iloadN X10.here hx rfl (q d5_14) rfl ?_
   refine XS.iload X10.here hx rfl (q d5_15) rfl ?_
   refine st251 _ ?_
   refine XS.istore X251.here hx rfl (q d5_20) rfl (l' := #[vR rp, vR rl, vI 3, vR b3, vI 2, vI 4, vU, vU, vU, vU, vU, vU, vU]) rfl ?_
   refine XS.iload X251.here hx rfl (q d5_22) rfl ?_
   refine XS.ifYes X251.here hx rfl (pc0 := 24) (pc' := 29) rfl (q d5_24) rfl ((if0 _ _).trans (feq (by decide : ¬ ((4 : Int32) = (0 : Int32)))).2) (by decide) (by decide) ?_
   refine XS.iloadN X251.here hx rfl (q d5_29) rfl ?_
   refine XS.iconst X251.here hx rfl (q d5_30) ?_
   refine XS.iadd X251.here hx rfl (q d5_31) rfl ?_
   refine XS.iload X251.here hx rfl (q d5_32) rfl ?_
   refine XS.imul X251.here hx rfl (q d5_34) rfl ?_
   refine st252 _ ?_
   refine XS.astore X252.here hx rfl (q d5_37) rfl rfl (l' := #[vR rp, vR rl, vI 3, vR b3, vI 2, vI 4, vR b252, vU, vU, vU, vU, vU, vU]) rfl ?_
   refine XS.aload X252.here hx rfl (q d5_39) rfl rfl ?_
   refine X252.arraylength hx (by rw [e252]; exact Arcl260.1) (State.isArrayOf_alike hZ.alike Arcl260.2.1) (g := (mkF m 41 #[vR rp, vR rl, vI 3, vR b3, vI 2, vI 4, vR b252, vU, vU, vU, vU, vU, vU] [(.ref b252)])) rfl rfl (q d5_41) _ ?_
   rw [Szcl260]
   refine st261 _ ?_
   refine XS.astore X261.here hx rfl (q d5_44) rfl rfl (l' := #[vR rp, vR rl, vI 3, vR b3, vI 2, vI 4, vR b252, vR b261, vU, vU, vU, vU, vU]) rfl ?_
   refine XS.iconst X261.here hx rfl (q d5_46) ?_
   refine XS.istore X261.here hx rfl (q d5_47) rfl (l' := #[vR rp, vR rl, vI 3, vR b3, vI 2, vI 4, vR b252, vR b261, vI 0, vU, vU, vU, vU]) rfl ?_
   refine st271 _ ?_
   refine XS.iloadN X271.here hx rfl (q d5_211) rfl ?_
   refine XS.iload X271.here hx rfl (q d5_212) rfl ?_
   refine XS.imul X271.here hx rfl (q d5_214) rfl ?_
   refine XS.istore X271.here hx rfl (q d5_215) rfl (l' := #[vR rp, vR rl, vI 3, vR b3, vI 2, vI 4, vR b252, vR b261, vI 6, (own_s qa271), (own_s qb271), (own_s qc271), (own_s qd271)]) rfl ?_
   refine XS.aload X271.here hx rfl (q d5_217) rfl rfl ?_
   refine XS.aloadN X271.here hx rfl (q d5_219) rfl rfl ?_
   refine XS.iloadN X271.here hx rfl (q d5_220) rfl ?_
   refine XS.iconst X271.here hx rfl (q d5_221) ?_
   refine XS.isub X271.here hx rfl (q d5_222) rfl ?_
   refine X271.iaload hx (j := (2 : Int32)) (v := (.int (fl 2))) (by rw [e271]; exact Arcl275.1) (State.isArrayOf_alike hZ.alike Arcl275.2.1) Arcl275.2.2 hincl275 hatcl275 (g := (mkF m 223 #[vR rp, vR rl, vI 3, vR b3, vI 2, vI 4, vR b252, vR b261, vI 6, (own_s qa271), (own_s qb271), (own_s qc271), (own_s qd271)] [(.int 2), (.ref rl), (.ref b252)])) rfl rfl (q d5_223) _ ?_
   refine XS.iload X271.here hx rfl (q d5_224) rfl ?_
   refine XS.imul X271.here hx rfl (q d5_226) rfl ?_
   refine XS.aload X271.here hx rfl (q d5_227) rfl rfl ?_
   refine XS.iload X271.here hx rfl (q d5_229) rfl ?_
   refine XS.iload X271.here hx rfl (q d5_231) rfl ?_
   refine st276 _ ?_
   refine XS.aload X276.here hx rfl (q d5_236) rfl rfl ?_
   refine XS.aloadN X276.here hx rfl (q d5_238) rfl rfl ?_
   refine XS.iloadN X276.here hx rfl (q d5_239) rfl ?_
   refine XS.iconst X276.here hx rfl (q d5_240) ?_
   refine XS.isub X276.here hx rfl (q d5_241) rfl ?_
   refine X276.iaload hx (j := (2 : Int32)) (v := (.int (fl 2))) (by rw [e276]; exact Arcl281.1) (State.isArrayOf_alike hZ.alike Arcl281.2.1) Arcl281.2.2 hincl281 hatcl281 (g := (mkF m 242 #[vR rp, vR rl, vI 3, vR b3, vI 2, vI 4, vR b252, vR b261, vI 6, (own_s qa271), (own_s qb271), (own_s qc271), (own_s qd271)] [(.int 2), (.ref rl), (.ref b261)])) rfl rfl (q d5_242) _ ?_
   refine XS.iload X276.here hx rfl (q d5_243) rfl ?_
   refine XS.imul X276.here hx rfl (q d5_245) rfl ?_
   refine XS.aload X276.here hx rfl (q d5_246) rfl rfl ?_
   refine XS.iload X276.here hx rfl (q d5_248) rfl ?_
   refine XS.iload X276.here hx rfl (q d5_250) rfl ?_
   refine st282 _ ?_
   refine st287 _ ?_
   refine XS.dup X287.here hx rfl (q d5_258) rfl rfl ?_
   refine XS.iconst X287.here hx rfl (q d5_259) ?_
   refine XS.iload X287.here hx rfl (q d5_260) rfl ?_
   refine XS.aload X287.here hx rfl (q d5_262) rfl rfl ?_
   refine XS.aload X287.here hx rfl (q d5_264) rfl rfl ?_
   refine st302.trans ?_
   refine XS.astore X302.here hx rfl (q d5_269) rfl rfl (l' := #[vR rp, vR rl, vI 3, vR b3, vI 2, vI 4, vR b252, vR b261, vI 6, vR b287, (own_s qb271), (own_s qc271), (own_s qd271)]) (by cases qa271 <;> rfl) ?_
   refine XS.aconstNull X302.here hx rfl (q d5_271) ?_
   refine XS.astore X302.here hx rfl (q d5_272) rfl rfl (l' := #[vR rp, vR rl, vI 3, vR b3, vI 2, vI 4, vR b252, vR b261, vI 6, vR b287, .val .null, (own_s qc271), (own_s qd271)]) (by cases qb271 <;> rfl) ?_
   refine XS.aload X302.here hx rfl (q d5_274) rfl rfl ?_
   refine XS.astore X302.here hx rfl (q d5_276) rfl rfl (l' := #[vR rp, vR rl, vI 3, vR b3, vI 2, vI 4, vR b252, vR b261, vI 6, vR b287, .val .null, vR b287, (own_s qd271)]) (by cases qc271 <;> rfl) ?_
   refine XS.aload X302.here hx rfl (q d5_278) rfl rfl ?_
   refine st313.trans ?_
   refine XS.iload X313.here hx rfl (q d5_283) rfl ?_
   refine XS.icmpNo X313.here hx rfl (q d5_285) rfl (tlt (by decide : ((1 : Int32) < (4 : Int32)))).2.1 ?_
   refine XS.aload X313.here hx rfl (q d5_288) rfl rfl ?_
   refine XS.aload X313.here hx rfl (q d5_290) rfl rfl ?_
   refine XS.aload X313.here hx rfl (q d5_292) rfl rfl ?_
   refine Jvm.RoadKit.acmp (g := (mkF m 294 #[vR rp, vR rl, vI 3, vR b3, vI 2, vI 4, vR b252, vR b261, vI 6, vR b287, .val .null, vR b287, (own_s qd271)] [(.ref b287), (.ref b287), (.ref b287)])) X313 hx rfl rfl rfl (pc0 := 294) (pc' := 297) (same := true) rfl (q d5_294) rfl (decide_eq_true rfl) (by decide) (by decide) ?_
   refine XS.iload X313.here hx rfl (q d5_297) rfl ?_
   refine XS.goto X313.here hx rfl (pc0 := 299) (pc' := 303) rfl (q d5_299) (by decide) (by decide) ?_
   refine st314 _ ?_
   refine XS.astore X314.here hx rfl (q d5_306) rfl rfl (l' := #[vR rp, vR rl, vI 3, vR b3, vI 2, vI 4, vR b252, vR b261, vI 6, vR b287, vR b315, vR b287, (own_s qd271)]) rfl ?_
   refine XS.aload X314.here hx rfl (q d5_308) rfl rfl ?_
   refine XS.astore X314.here hx rfl (q d5_310) rfl rfl (l' := #[vR rp, vR rl, vI 3, vR b3, vI 2, vI 4, vR b252, vR b261, vI 6, vR b287, vR b315, vR b315, (own_s qd271)]) rfl ?_
   refine XS.goto X314.here hx rfl (pc0 := 312) (pc' := 278) rfl (q d5_312) (by decide) (by decide) ?_
   refine XS.aload X314.here hx rfl (q d5_278) rfl rfl ?_
   refine st355.trans ?_
   refine XS.iload X355.here hx rfl (q d5_283) rfl ?_
   refine XS.icmpNo X355.here hx rfl (q d5_285) rfl (tlt (by decide : ((2 : Int32) < (4 : Int32)))).2.1 ?_
   refine XS.aload X355.here hx rfl (q d5_288) rfl rfl ?_
   refine XS.aload X355.here hx rfl (q d5_290) rfl rfl ?_
   refine XS.aload X355.here hx rfl (q d5_292) rfl rfl ?_
   refine Jvm.RoadKit.acmp (g := (mkF m 294 #[vR rp, vR rl, vI 3, vR b3, vI 2, vI 4, vR b252, vR b261, vI 6, vR b287, vR b315, vR b315, (own_s qd271)] [(.ref b287), (.ref b315), (.ref b315)])) X355 hx rfl rfl rfl (pc0 := 294) (pc' := 302) (same := false) rfl (q d5_294) rfl (decide_eq_false fun q => (Ne.symm ne329) (Value.ref.inj q)) (by decide) (by decide) ?_
   refine XS.iconst X355.here hx rfl (q d5_302) ?_
   refine st356 _ ?_
   refine XS.astore X356.here hx rfl (q d5_306) rfl rfl (l' := #[vR rp, vR rl, vI 3, vR b3, vI 2, vI 4, vR b252, vR b261, vI 6, vR b287, vR b357, vR b315, (own_s qd271)]) rfl ?_
   refine XS.aload X356.here hx rfl (q d5_308) rfl rfl ?_
   refine XS.astore X356.here hx rfl (q d5_310) rfl rfl (l' := #[vR rp, vR rl, vI 3, vR b3, vI 2, vI 4, vR b252, vR b261, vI 6, vR b287, vR b357, vR b357, (own_s qd271)]) rfl ?_
   refine XS.goto X356.here hx rfl (pc0 := 312) (pc' := 278) rfl (q d5_312) (by decide) (by decide) ?_
   refine XS.aload X356.here hx rfl (q d5_278) rfl rfl ?_
   refine st414.trans ?_
   refine XS.iload X414.here hx rfl (q d5_283) rfl ?_
   refine XS.icmpYes X414.here hx rfl (pc0 := 285) (pc' := 315) rfl (q d5_285) rfl (flt (by decide : ¬ ((4 : Int32) < (4 : Int32)))).2.1 (by decide) (by decide) ?_
   refine st415 _ ?_
   refine XS.dup X415.here hx rfl (q d5_318) rfl rfl ?_
   refine XS.aloadN X415.here hx rfl (q d5_319) rfl rfl ?_
   refine XS.iload X415.here hx rfl (q d5_320) rfl ?_
   refine XS.aload X415.here hx rfl (q d5_322) rfl rfl ?_
   refine XS.aload X415.here hx rfl (q d5_324) rfl rfl ?_
   refine st458.trans ?_
   exact retOut X458 hx Bd.returns rfl (Or.inr (Or.inr (Or.inr (Or.inr ⟨rfl, rfl, rfl⟩)))) (q d5_329) hr
  ·show Q5k3 Z rp rl fp fl h0 n0 _ T458.heap _
   exact ⟨b415, gg415, sz415, rfl, N458, K458⟩
 ·have pre484 : oP p e below (T10.setTop (mkF m 12 #[vR rp, vR rl, vI 3, vR b3, vU, vU, vU, vU, vU, vU, vU, vU, vU] [(.int 3)])) (s₁.setTop (entryFrame m #[(.ref rp), (.ref rl)] 13)) := by
   intro t k
   refine pre14 _ ?_
   rw [hk15]
   exact k
  obtain ⟨_, _, ⟨T485, L485, k485, n485⟩, -, X485, ⟨Lc485, hQ485, l485, y485, z485⟩, st485⟩ := Jvm.LawKit.callS X10 hx (y := mN2) hown (om hZ hw 48 rfl) (om hZ hw 49 rfl) (om hZ hw 32 rfl) (om hZ hw 50 rfl) (by decide) (backOf (W := 0) (rm9m3c3 l Z a0 hw []  T10.heap n0 Z10 ) hZ (ow hw 50 rfl) (ow hw 32 rfl) (by decide) (by decide)) (g := (mkF m 17 #[vR rp, vR rl, vI 3, vR b3, vI 3, vU, vU, vU, vU, vU, vU, vU, vU] [(.int 3), (.int 3)])) rfl (by rw [hml]; rfl) (argsL := [(.int 3), (.int 3)]) (rest := []) (lenOf pd_2 rfl) rfl (oz rfl) (q d5_17) (fun _ _ => ⟨rfl, rfl, (by decide : 2 + 0 ≤ _), (by decide : 260 + 0 ≤ _)⟩)
  dsimp only [Pt.U, Pt.locs, Pt.cells, Pt.slots] at X485 l485 y485 z485 st485 hQ485
  subst y485 z485
  obtain ⟨rfl, N485q, e485⟩ := hQ485
  have N485 := oF l485 N10 N485q
  obtain ⟨T486, h486, k486, X486, e486, E486, A486, st486⟩ := newP X485 hx hZ (ow hw 2 rfl) e485 (g := (mkF m 35 #[vR rp, vR rl, vI 3, vR b3, vI 3, vI 4, vU, vU, vU, vU, vU, vU, vU] [(.int 12)])) rfl (q d5_35) rfl (by decide) (cap := 12) (by decide) (by decide) (by decide) (by decide)
  obtain ⟨b486, g486⟩ : ∃ z, z = T10.heap.size := ⟨_, rfl⟩
  rw [← g486] at A486 st486
  have ne487 := oN f13.lt g486
  have ne488 := oN f12.lt g486
  have ne489 := oN f11.lt g486
  have gg486 := oL Z10 g486
  have sz486 := oL K10.1 g486
  have f490 := f11.ext E486
  have f491 := f12.ext E486
  have f492 := f13.ext E486
  have Z486 := Nat.le_trans Z10 E486.1
  have K486 := K10.ext E486
  have f493 : AI Z h486 b486 .int 12 zI := AF.new A486 (by decide)
  obtain ⟨cl494, Arcl494, Szcl494⟩ := AF.len f493
  obtain ⟨T495, h495, k495, X495, e495, E495, A495, st495⟩ := newP X486 hx hZ (ow hw 2 rfl) e486 (g := (mkF m 42 #[vR rp, vR rl, vI 3, vR b3, vI 3, vI 4, vR b486, vU, vU, vU, vU, vU, vU] [(.int 12)])) rfl (q d5_42) rfl (by decide) (cap := 12) (by decide) (by decide) (by decide) (by decide)
  obtain ⟨b495, g495⟩ : ∃ z, z = h486.size := ⟨_, rfl⟩
  rw [← g495] at A495 st495
  have ne496 := oN f492.lt g495
  have ne497 := oN f493.lt g495
  have ne498 := oN f491.lt g495
  have ne499 := oN f490.lt g495
  have gg495 := oL Z486 g495
  have sz495 := oL K486.1 g495
  have f500 := f490.ext E495
  have f501 := f491.ext E495
  have f502 := f492.ext E495
  have f503 := f493.ext E495
  have Z495 := Nat.le_trans Z486 E495.1
  have K495 := K486.ext E495
  have f504 : AI Z h495 b495 .int 12 zI := AF.new A495 (by decide)
  obtain ⟨T505, h505, L505, so505, qa505, qb505, qc505, qd505, fn505, fc505, X505, e505, N505, Kl505, An505, ok505, Ac505, st505⟩ := ofO rp rl (3 : Int32) b3 (3 : Int32) (4 : Int32) b486 b495 3 3 12 fp fl gx4 hx hZ hw hby hml hown (by decide) (by decide) (by decide) (by decide) (by decide) hfl gg486 gg495 ne497 ne489 ne499 ne488 ne498 ne487 ne496 3 T495 _ h495 (0 : Int32) 0 none none none none zI zI (by decide) rfl X495 e495 N485 f500 f501 f502 f503 (fun j _ => ⟨0, rfl, Nat.zero_le _⟩) f504
  have Z505 := Nat.le_trans Z495 Kl505.1
  have K505 := K495.trans Kl505 (allS (Or.inr sz486) (allS (Or.inr sz495) all0))
  have f507 := f501.keep Kl505 (ninS ne488 (ninS ne498 nin0))
  have f508 := f502.keep Kl505 (ninS ne487 (ninS ne496 nin0))
  obtain ⟨cl509, Arcl509, hincl509, hatcl509⟩ := AF.at f507 (j := (2 : Int32)) 2 (by decide) (by decide)
  obtain ⟨kl510, hkl510, hkm510⟩ := hfl 2 (by decide)
  obtain ⟨hsp510, hsq510⟩ := own_spm (cc := (3 : Int32)) (cn := 3) hkl510 (by decide) (Nat.le_trans hkm510 (by decide : 2 ≤ 3)) (by decide)
  obtain ⟨T510, h510, L510, fy510, X510, e510, N510, Kl510, Ay510, py510, st510⟩ := own_cp X505 hx hZ hown (ow hw 68 rfl) (ow hw 71 rfl) (ow hw 69 rfl) (ow hw 70 rfl) e505 An505 (by decide) hsp510 (by decide : (9 : Int32).toInt = ((9 : Nat) : Int)) (by decide : (3 : Int32).toInt = ((3 : Nat) : Int)) hsq510 (by decide) N505 gg486 (g := (mkF m 233 #[vR rp, vR rl, vI 3, vR b3, vI 3, vI 4, vR b486, vR b495, vI 9, (own_s qa505), (own_s qb505), (own_s qc505), (own_s qd505)] [(.int 3), (.int 9), (.ref b486), (.int ((fl 2) * (3 : Int32))), (.ref b486)])) rfl (by rw [hml]; rfl) rfl (q d5_233) (by decide) (W := 0) (oz rfl) (by decide)
  have Z510 := Nat.le_trans Z505 Kl510.1
  have K510 := K505.trans Kl510 (allS (Or.inr sz486) all0)
  have f512 := f507.keep Kl510 (ninS ne488 nin0)
  have f513 := f508.keep Kl510 (ninS ne487 nin0)
  have f514 := Ac505.keep Kl510 (ninS (Ne.symm ne497) nin0)
  have okc510 := py510 _ ok505
  obtain ⟨cl515, Arcl515, hincl515, hatcl515⟩ := AF.at f512 (j := (2 : Int32)) 2 (by decide) (by decide)
  obtain ⟨kl516, hkl516, hkm516⟩ := hfl 2 (by decide)
  obtain ⟨hsp516, hsq516⟩ := own_spm (cc := (3 : Int32)) (cn := 3) hkl516 (by decide) (Nat.le_trans hkm516 (by decide : 2 ≤ 3)) (by decide)
  obtain ⟨T516, h516, L516, fy516, X516, e516, N516, Kl516, Ay516, py516, st516⟩ := own_cp X510 hx hZ hown (ow hw 68 rfl) (ow hw 71 rfl) (ow hw 69 rfl) (ow hw 70 rfl) e510 f514 (by decide) hsp516 (by decide : (9 : Int32).toInt = ((9 : Nat) : Int)) (by decide : (3 : Int32).toInt = ((3 : Nat) : Int)) hsq516 (by decide) N510 gg495 (g := (mkF m 252 #[vR rp, vR rl, vI 3, vR b3, vI 3, vI 4, vR b486, vR b495, vI 9, (own_s qa505), (own_s qb505), (own_s qc505), (own_s qd505)] [(.int 3), (.int 9), (.ref b495), (.int ((fl 2) * (3 : Int32))), (.ref b495)])) rfl (by rw [hml]; rfl) rfl (q d5_252) (by decide) (W := 0) (oz rfl) (by decide)
  have Z516 := Nat.le_trans Z510 Kl516.1
  have K516 := K510.trans Kl516 (allS (Or.inr sz495) all0)
  have f519 := f513.keep Kl516 (ninS ne496 nin0)
  have f520 := Ay510.keep Kl516 (ninS ne497 nin0)
  obtain ⟨T521, h521, X521, e521, E521, A521, D521, -, st521⟩ := newO X516 hx hZ hown (ow hw 72 rfl) (ow hw 73 rfl) (ow hw 74 rfl) e516 (g := (mkF m 255 #[vR rp, vR rl, vI 3, vR b3, vI 3, vI 4, vR b486, vR b495, vI 9, (own_s qa505), (own_s qb505), (own_s qc505), (own_s qd505)] [])) rfl (q d5_255) (by decide) (by decide)
  obtain ⟨b521, g521⟩ : ∃ z, z = h516.size := ⟨_, rfl⟩
  rw [← g521] at A521 D521 st521
  have ne522 := oN f519.lt g521
  have ne523 := oN f520.lt g521
  have ne524 := oN Ay516.lt g521
  have gg521 := oL Z516 g521
  have sz521 := oL K516.1 g521
  have f529 := f519.ext E521
  have f530 := f520.ext E521
  have f531 := Ay516.ext E521
  have Z521 := Nat.le_trans Z516 E521.1
  have K521 := K516.ext E521
  have f532 : Fld Z h521 b521 cS3 "width" "I" (.int 0) := D521 (Or.inr (ow hw 85 rfl)) (ty := .int) (by decide)
  have f533 : Fld Z h521 b521 cS3 "columns" "I" (.int 0) := D521 (Or.inr (ow hw 87 rfl)) (ty := .int) (by decide)
  have f534 : Fld Z h521 b521 cS3 "next" "[I" .null := D521 (Or.inr (ow hw 89 rfl)) (ty := (.array .int)) (by decide)
  have f535 : Fld Z h521 b521 cS3 "comparisons" "[I" .null := D521 (Or.inr (ow hw 91 rfl)) (ty := (.array .int)) (by decide)
  obtain ⟨_, _, ⟨T536, L536, k536, n536⟩, -, X536, ⟨Lc536, hQ536, l536, y536, z536⟩, st536⟩ := X521.specialBack hx (y := mN11) rfl hown (om hZ hw 75 rfl) (om hZ hw 76 rfl) (om hZ hw 77 rfl) (by decide) (backOf (W := 1) (rm14 l Z a0 hw [] b521 (1 : Int32) (3 : Int32) b486 b495 h521 n0 Z521 A521 f532 f533 f534 f535 gg521) hZ (ow hw 77 rfl) (ow hw 74 rfl) (by decide) (by decide)) (g := (mkF m 266 #[vR rp, vR rl, vI 3, vR b3, vI 3, vI 4, vR b486, vR b495, vI 9, (own_s qa505), (own_s qb505), (own_s qc505), (own_s qd505)] [(.ref b495), (.ref b486), (.int 3), (.int 1), (.ref b521), (.ref b521)])) rfl (by rw [hml]; rfl) (Steps.refl _) (a := b521) (argsL := [(.int 1), (.int 3), (.ref b486), (.ref b495)]) (rest := [(.ref b521)]) (lenOf pd_7 rfl) rfl (oz rfl) (q d5_266) (fun _ _ => ⟨rfl, e521, (by decide : 5 + 0 ≤ _), (by decide : 288 + 0 ≤ _)⟩)
  dsimp only [Pt.U, Pt.locs, Pt.cells, Pt.slots] at X536 l536 y536 z536 st536 hQ536
  subst y536 z536
  obtain ⟨rfl, N536q, K536c, f537, f538, f539, f540⟩ := hQ536
  have N536 := oF l536 N516 N536q
  have f543 := f529.keep K536c (ninS ne522 nin0)
  have f544 := f530.keep K536c (ninS ne523 nin0)
  have f545 := f531.keep K536c (ninS ne524 nin0)
  have f546 := A521.keep K536c
  have Z536 := Nat.le_trans Z521 K536c.1
  have K536 := K521.trans K536c (allS (Or.inr sz521) all0)
  obtain ⟨cq547, kq547, q547a, q547b, q547c⟩ := isOf hZ rfl f546
  obtain ⟨_, _, ⟨T547, L547, k547, n547⟩, -, X547, ⟨Lc547, hQ547, l547, y547, z547⟩, st547⟩ := X536.virtualBack hx (y := mN12) (z := mN12) hown (om hZ hw 92 rfl) (om hZ hw 93 rfl) (notFace_of_selects (args := #[]) (om hZ hw 95 rfl)) (om hZ hw 95 rfl) (om hZ hw 94 rfl) (by decide) (backOf (W := 0) (rm16 l Z a0 hw [] b521 (1 : Int32) T536.heap n0 Z536 f537) hZ (ow hw 96 rfl) (ow hw 74 rfl) (by decide) (by decide)) q547a q547c (g := (mkF m 280 #[vR rp, vR rl, vI 3, vR b3, vI 3, vI 4, vR b486, vR b495, vI 9, vR b521, .val .null, vR b521, (own_s qd505)] [(.ref b521)])) rfl (by rw [hml]; rfl) (Steps.refl _) (argsL := []) (rest := []) (lenOf pd_5 rfl) rfl (oz rfl) (q d5_280) (fun _ _ => ⟨rfl, rfl, (by decide : 5 + 0 ≤ _), (by decide : 288 + 0 ≤ _)⟩)
  dsimp only [Pt.U, Pt.locs, Pt.cells, Pt.slots] at X547 l547 y547 z547 st547 hQ547
  subst y547 z547
  obtain ⟨rfl, N547q, e547⟩ := hQ547
  have N547 := oF l547 N536 N547q
  obtain ⟨_, _, ⟨T548, L548, k548, n548⟩, -, X548, ⟨Lc548, hQ548, l548, y548, z548⟩, st548⟩ := Jvm.LawKit.callS X547 hx (y := mN16) hown (om hZ hw 97 rfl) (om hZ hw 98 rfl) (om hZ hw 32 rfl) (om hZ hw 99 rfl) (by decide) (backOf (W := 0) (rm17a l Z a0 hw [] b521 (9 : Int32) (3 : Int32) b486 b495 12 3 fy510 fy516 T536.heap n0 Z536 f546 f537 f538 f539 f540 f544 f545 (by decide) (by decide) (by decide) (by decide) (fun j hj => own_okt (okc510 j hj) (by decide))) hZ (ow hw 99 rfl) (ow hw 32 rfl) (by decide) (by decide)) (g := (mkF m 303 #[vR rp, vR rl, vI 3, vR b3, vI 3, vI 4, vR b486, vR b495, vI 9, vR b521, .val .null, vR b521, (own_s qd505)] [(.int 9), (.ref b521)])) rfl (by rw [hml]; rfl) (argsL := [(.ref b521), (.int 9)]) (rest := []) (lenOf pd_9 rfl) rfl (oz rfl) (q d5_303) (fun _ _ => ⟨rfl, e547, (by decide : 5 + 3 ≤ _), (by decide : 288 + 2052 ≤ _)⟩)
  dsimp only [Pt.U, Pt.locs, Pt.cells, Pt.slots] at X548 l548 y548 z548 st548 hQ548
  subst y548 z548
  obtain ⟨b549, b550, b551, gx552, gx553, ggb549, szb549, ggb550, szb550, ggb551, szb551, ne548_0, ne548_1, ne548_2, rfl, N548q, K548c, f554, f555, f556, f557, f558, f559, f560, okw3⟩ := hQ548
  have N548 := oF l548 N547 N548q
  have ne564 := oM f546.lt szb549
  have f581 := f543.keep K548c nin0
  have f584 := f546.keep K548c
  have f586 := f538.keep K548c nin0
  have Z548 := Nat.le_trans Z536 K548c.1
  have K548 := K536.trans K548c all0
  obtain ⟨cq589, kq589, q589a, q589b, q589c⟩ := isOf hZ rfl f554
  obtain ⟨_, _, ⟨T589, L589, k589, n589⟩, -, X589, ⟨Lc589, hQ589, l589, y589, z589⟩, st589⟩ := X548.virtualBack hx (y := mN12) (z := mN12) hown (om hZ hw 92 rfl) (om hZ hw 93 rfl) (notFace_of_selects (args := #[]) (om hZ hw 95 rfl)) (om hZ hw 95 rfl) (om hZ hw 94 rfl) (by decide) (backOf (W := 0) (rm16 l Z a0 hw [] b549 (2 : Int32) T548.heap n0 Z548 f555) hZ (ow hw 96 rfl) (ow hw 74 rfl) (by decide) (by decide)) q589a q589c (g := (mkF m 280 #[vR rp, vR rl, vI 3, vR b3, vI 3, vI 4, vR b486, vR b495, vI 9, vR b521, vR b549, vR b549, (own_s qd505)] [(.ref b549)])) rfl (by rw [hml]; rfl) (Steps.refl _) (argsL := []) (rest := []) (lenOf pd_5 rfl) rfl (oz rfl) (q d5_280) (fun _ _ => ⟨rfl, rfl, (by decide : 8 + 0 ≤ _), (by decide : 2340 + 0 ≤ _)⟩)
  dsimp only [Pt.U, Pt.locs, Pt.cells, Pt.slots] at X589 l589 y589 z589 st589 hQ589
  subst y589 z589
  obtain ⟨rfl, N589q, e589⟩ := hQ589
  have N589 := oF l589 N548 N589q
  obtain ⟨_, _, ⟨T590, L590, k590, n590⟩, -, X590, ⟨Lc590, hQ590, l590, y590, z590⟩, st590⟩ := Jvm.LawKit.callS X589 hx (y := mN16) hown (om hZ hw 97 rfl) (om hZ hw 98 rfl) (om hZ hw 32 rfl) (om hZ hw 99 rfl) (by decide) (backOf (W := 0) (rm17b l Z a0 hw [] b549 (-1 : Int32) ((3 : Int32) * (3 : Int32)) b550 b551 (12 * 3) (3 * 3) gx552 gx553 T548.heap n0 Z548 f554 f555 f556 f557 f558 f559 f560 (by decide) (by decide) (by decide) (by decide) (okw3)) hZ (ow hw 99 rfl) (ow hw 32 rfl) (by decide) (by decide)) (g := (mkF m 303 #[vR rp, vR rl, vI 3, vR b3, vI 3, vI 4, vR b486, vR b495, vI 9, vR b521, vR b549, vR b549, (own_s qd505)] [(.int (-1 : Int32)), (.ref b549)])) rfl (by rw [hml]; rfl) (argsL := [(.ref b549), (.int (-1 : Int32))]) (rest := []) (lenOf pd_9 rfl) rfl (oz rfl) (q d5_303) (fun _ _ => ⟨rfl, e589, (by decide : 8 + 3 ≤ _), (by decide : 2340 + 2052 ≤ _)⟩)
  dsimp only [Pt.U, Pt.locs, Pt.cells, Pt.slots] at X590 l590 y590 z590 st590 hQ590
  subst y590 z590
  obtain ⟨b591, b592, b593, gx594, gx595, ggb591, szb591, ggb592, szb592, ggb593, szb593, ne590_0, ne590_1, ne590_2, rfl, N590q, K590c, f596, f597, f598, f599, f600, f601, f602, hq603⟩ := hQ590
  have N590 := oF l590 N589 N590q
  have f633 := f581.keep K590c nin0
  have f636 := f584.keep K590c
  have f638 := f586.keep K590c nin0
  have Z590 := Nat.le_trans Z548 K590c.1
  have K590 := K548.trans K590c all0
  obtain ⟨cq648, kq648, q648a, q648b, q648c⟩ := isOf hZ rfl f596
  obtain ⟨_, _, ⟨T648, L648, k648, n648⟩, -, X648, ⟨Lc648, hQ648, l648, y648, z648⟩, st648⟩ := X590.virtualBack hx (y := mN12) (z := mN12) hown (om hZ hw 92 rfl) (om hZ hw 93 rfl) (notFace_of_selects (args := #[]) (om hZ hw 95 rfl)) (om hZ hw 95 rfl) (om hZ hw 94 rfl) (by decide) (backOf (W := 0) (rm16 l Z a0 hw [] b591 (4 : Int32) T590.heap n0 Z590 f597) hZ (ow hw 96 rfl) (ow hw 74 rfl) (by decide) (by decide)) q648a q648c (g := (mkF m 280 #[vR rp, vR rl, vI 3, vR b3, vI 3, vI 4, vR b486, vR b495, vI 9, vR b521, vR b591, vR b591, (own_s qd505)] [(.ref b591)])) rfl (by rw [hml]; rfl) (Steps.refl _) (argsL := []) (rest := []) (lenOf pd_5 rfl) rfl (oz rfl) (q d5_280) (fun _ _ => ⟨rfl, rfl, (by decide : 11 + 0 ≤ _), (by decide : 4392 + 0 ≤ _)⟩)
  dsimp only [Pt.U, Pt.locs, Pt.cells, Pt.slots] at X648 l648 y648 z648 st648 hQ648
  subst y648 z648
  obtain ⟨rfl, N648q, e648⟩ := hQ648
  have N648 := oF l648 N590 N648q
  obtain ⟨T649, h649, X649, e649, E649, A649, D649, -, st649⟩ := newO X648 hx hZ hown (ow hw 115 rfl) (ow hw 116 rfl) (ow hw 32 rfl) e648 (g := (mkF m 315 #[vR rp, vR rl, vI 3, vR b3, vI 3, vI 4, vR b486, vR b495, vI 9, vR b521, vR b591, vR b591, (own_s qd505)] [])) rfl (q d5_315) (by decide) (by decide)
  obtain ⟨b649, g649⟩ : ∃ z, z = T590.heap.size := ⟨_, rfl⟩
  rw [← g649] at A649 D649 st649
  have ne650 := oN f633.lt g649
  have ne653 := oN f636.lt g649
  have ne657 := oN f596.lt g649
  have gg649 := oL Z590 g649
  have sz649 := oL K590.1 g649
  have f664 := f633.ext E649
  have f667 := f636.ext E649
  have f669 := f638.ext E649
  have f679 := f596.ext E649
  have f680 := f597.ext E649
  have f681 := f598.ext E649
  have Z649 := Nat.le_trans Z590 E649.1
  have K649 := K590.ext E649
  have f686 : Fld Z h649 b649 cS0 "column" "[I" .null := D649 (Or.inr (ow hw 122 rfl)) (ty := (.array .int)) (by decide)
  have f687 : Fld Z h649 b649 cS0 "occurrenceRow" "I" (.int 0) := D649 (Or.inr (ow hw 124 rfl)) (ty := .int) (by decide)
  have f688 : Fld Z h649 b649 cS0 "single" cS4 .null := D649 (Or.inr (ow hw 126 rfl)) (ty := (.object cS3)) (by decide)
  have f689 : Fld Z h649 b649 cS0 "block" cS4 .null := D649 (Or.inr (ow hw 128 rfl)) (ty := (.object cS3)) (by decide)
  have f690 : Fld Z h649 b649 cS0 "blockColumn" "[[I" .null := D649 (Or.inr (ow hw 132 rfl)) (ty := (.array (.array .int))) (by decide)
  have f691 : Fld Z h649 b649 cS0 "blockFactor" "I" (.int 0) := D649 (Or.inr (ow hw 134 rfl)) (ty := .int) (by decide)
  obtain ⟨_, _, ⟨T692, L692, k692, n692⟩, -, X692, ⟨Lc692, hQ692, l692, y692, z692⟩, st692⟩ := X649.specialBack hx (y := mN17) rfl hown (om hZ hw 117 rfl) (om hZ hw 118 rfl) (om hZ hw 119 rfl) (by decide) (backOf (W := 1) (rm21 l Z a0 hw [] b649 b3 (9 : Int32) b521 b591 (3 : Int32) (((3 : Int32) * (3 : Int32)) * ((3 : Int32) * (3 : Int32))) gx4 h649 n0 Z649 A649 f686 f687 f688 f689 f690 f691 f667 f679 f669 f681 f680 f664 ne650 ne653 ne657 (by decide) gg649) hZ (ow hw 119 rfl) (ow hw 32 rfl) (by decide) (by decide)) (g := (mkF m 326 #[vR rp, vR rl, vI 3, vR b3, vI 3, vI 4, vR b486, vR b495, vI 9, vR b521, vR b591, vR b591, (own_s qd505)] [(.ref b591), (.ref b521), (.int 9), (.ref b3), (.ref b649), (.ref b649)])) rfl (by rw [hml]; rfl) (Steps.refl _) (a := b649) (argsL := [(.ref b3), (.int 9), (.ref b521), (.ref b591)]) (rest := [(.ref b649)]) (lenOf pd_10 rfl) rfl (oz rfl) (q d5_326) (fun _ _ => ⟨rfl, e649, (by decide : 12 + 5 ≤ _), (by decide : 4398 + 1028 ≤ _)⟩)
  dsimp only [Pt.U, Pt.locs, Pt.cells, Pt.slots] at X692 l692 y692 z692 st692 hQ692
  subst y692 z692
  obtain ⟨rfl, N692q, K692c⟩ := hQ692
  have N692 := oF l692 N648 N692q
  have K692 := K649.trans K692c (allS (Or.inr sz649) all0)
  obtain ⟨fs, hr, hrun, hended, hW, hsame⟩ := X692.leave (v := some (.ref b649)) (oR Bd.returns) (hlocks := Bd.notSynchronized)
  refine ⟨_, _, pre484 _ ?_, hrun, hended, _, _, rfl, ?_, ⟨_, rfl⟩, hW, hsame.mono (by decide) (by decide)⟩
  ·show Steps p.tables e below (T10.setTop (mkF m 12 #[vR rp, vR rl, vI 3, vR b3, vU, vU, vU, vU, vU, vU, vU, vU, vU] [(.int 3)])) _
   refine XS.istore X10.here hx rfl (q d5_12) rfl (l' := #[vR rp, vR rl, vI 3, vR b3, vI 3, vU, vU, vU, vU, vU, vU, vU, vU]) rfl ?_
   refine XS.iloadN X10.here hx rfl (q d5_14) rfl ?_
   refine XS.iload X10.here hx rfl (q d5_15) rfl ?_
   refine st485 _ ?_
   refine XS.istore X485.here hx rfl (q d5_20) rfl (l' := #[vR rp, vR rl, vI 3, vR b3, vI 3, vI 4, vU, vU, vU, vU, vU, vU, vU]) rfl ?_
   refine XS.iload X485.here hx rfl (q d5_22) rfl ?_
   refine XS.ifYes X485.here hx rfl (pc0 := 24) (pc' := 29) rfl (q d5_24) rfl ((if0 _ _).trans (feq (by decide : ¬ ((4 : Int32) = (0 : Int32)))).2) (by decide) (by decide) ?_
   refine XS.iloadN X485.here hx rfl (q d5_29) rfl ?_
   refine XS.iconst X485.here hx rfl (q d5_30) ?_
   refine XS.iadd X485.here hx rfl (q d5_31) rfl ?_
   refine XS.iload X485.here hx rfl (q d5_32) rfl ?_
   refine XS.imul X485.here hx rfl (q d5_34) rfl ?_
   refine st486 _ ?_
   refine XS.astore X486.here hx rfl (q d5_37) rfl rfl (l' := #[vR rp, vR rl, vI 3, vR b3, vI 3, vI 4, vR b486, vU, vU, vU, vU, vU, vU]) rfl ?_
   refine XS.aload X486.here hx rfl (q d5_39) rfl rfl ?_
   refine X486.arraylength hx (by rw [e486]; exact Arcl494.1) (State.isArrayOf_alike hZ.alike Arcl494.2.1) (g := (mkF m 41 #[vR rp, vR rl, vI 3, vR b3, vI 3, vI 4, vR b486, vU, vU, vU, vU, vU, vU] [(.ref b486)])) rfl rfl (q d5_41) _ ?_
   rw [Szcl494]
   refine st495 _ ?_
   refine XS.astore X495.here hx rfl (q d5_44) rfl rfl (l' := #[vR rp, vR rl, vI 3, vR b3, vI 3, vI 4, vR b486, vR b495, vU, vU, vU, vU, vU]) rfl ?_
   refine XS.iconst X495.here hx rfl (q d5_46) ?_
   refine XS.istore X495.here hx rfl (q d5_47) rfl (l' := #[vR rp, vR rl, vI 3, vR b3, vI 3, vI 4, vR b486, vR b495, vI 0, vU, vU, vU, vU]) rfl ?_
   refine st505 _ ?_
   refine XS.iloadN X505.here hx rfl (q d5_211) rfl ?_
   refine XS.iload X505.here hx rfl (q d5_212) rfl ?_
   refine XS.imul X505.here hx rfl (q d5_214) rfl ?_
   refine XS.istore X505.here hx rfl (q d5_215) rfl (l' := #[vR rp, vR rl, vI 3, vR b3, vI 3, vI 4, vR b486, vR b495, vI 9, (own_s qa505), (own_s qb505), (own_s qc505), (own_s qd505)]) rfl ?_
   refine XS.aload X505.here hx rfl (q d5_217) rfl rfl ?_
   refine XS.aloadN X505.here hx rfl (q d5_219) rfl rfl ?_
   refine XS.iloadN X505.here hx rfl (q d5_220) rfl ?_
   refine XS.iconst X505.here hx rfl (q d5_221) ?_
   refine XS.isub X505.here hx rfl (q d5_222) rfl ?_
   refine X505.iaload hx (j := (2 : Int32)) (v := (.int (fl 2))) (by rw [e505]; exact Arcl509.1) (State.isArrayOf_alike hZ.alike Arcl509.2.1) Arcl509.2.2 hincl509 hatcl509 (g := (mkF m 223 #[vR rp, vR rl, vI 3, vR b3, vI 3, vI 4, vR b486, vR b495, vI 9, (own_s qa505), (own_s qb505), (own_s qc505), (own_s qd505)] [(.int 2), (.ref rl), (.ref b486)])) rfl rfl (q d5_223) _ ?_
   refine XS.iload X505.here hx rfl (q d5_224) rfl ?_
   refine XS.imul X505.here hx rfl (q d5_226) rfl ?_
   refine XS.aload X505.here hx rfl (q d5_227) rfl rfl ?_
   refine XS.iload X505.here hx rfl (q d5_229) rfl ?_
   refine XS.iload X505.here hx rfl (q d5_231) rfl ?_
   refine st510 _ ?_
   refine XS.aload X510.here hx rfl (q d5_236) rfl rfl ?_
   refine XS.aloadN X510.here hx rfl (q d5_238) rfl rfl ?_
   refine XS.iloadN X510.here hx rfl (q d5_239) rfl ?_
   refine XS.iconst X510.here hx rfl (q d5_240) ?_
   refine XS.isub X510.here hx rfl (q d5_241) rfl ?_
   refine X510.iaload hx (j := (2 : Int32)) (v := (.int (fl 2))) (by rw [e510]; exact Arcl515.1) (State.isArrayOf_alike hZ.alike Arcl515.2.1) Arcl515.2.2 hincl515 hatcl515 (g := (mkF m 242 #[vR rp, vR rl, vI 3, vR b3, vI 3, vI 4, vR b486, vR b495, vI 9, (own_s qa505), (own_s qb505), (own_s qc505), (own_s qd505)] [(.int 2), (.ref rl), (.ref b495)])) rfl rfl (q d5_242) _ ?_
   refine XS.iload X510.here hx rfl (q d5_243) rfl ?_
   refine XS.imul X510.here hx rfl (q d5_245) rfl ?_
   refine XS.aload X510.here hx rfl (q d5_246) rfl rfl ?_
   refine XS.iload X510.here hx rfl (q d5_248) rfl ?_
   refine XS.iload X510.here hx rfl (q d5_250) rfl ?_
   refine st516 _ ?_
   refine st521 _ ?_
   refine XS.dup X521.here hx rfl (q d5_258) rfl rfl ?_
   refine XS.iconst X521.here hx rfl (q d5_259) ?_
   refine XS.iload X521.here hx rfl (q d5_260) rfl ?_
   refine XS.aload X521.here hx rfl (q d5_262) rfl rfl ?_
   refine XS.aload X521.here hx rfl (q d5_264) rfl rfl ?_
   refine st536.trans ?_
   refine XS.astore X536.here hx rfl (q d5_269) rfl rfl (l' := #[vR rp, vR rl, vI 3, vR b3, vI 3, vI 4, vR b486, vR b495, vI 9, vR b521, (own_s qb505), (own_s qc505), (own_s qd505)]) (by cases qa505 <;> rfl) ?_
   refine XS.aconstNull X536.here hx rfl (q d5_271) ?_
   refine XS.astore X536.here hx rfl (q d5_272) rfl rfl (l' := #[vR rp, vR rl, vI 3, vR b3, vI 3, vI 4, vR b486, vR b495, vI 9, vR b521, .val .null, (own_s qc505), (own_s qd505)]) (by cases qb505 <;> rfl) ?_
   refine XS.aload X536.here hx rfl (q d5_274) rfl rfl ?_
   refine XS.astore X536.here hx rfl (q d5_276) rfl rfl (l' := #[vR rp, vR rl, vI 3, vR b3, vI 3, vI 4, vR b486, vR b495, vI 9, vR b521, .val .null, vR b521, (own_s qd505)]) (by cases qc505 <;> rfl) ?_
   refine XS.aload X536.here hx rfl (q d5_278) rfl rfl ?_
   refine st547.trans ?_
   refine XS.iload X547.here hx rfl (q d5_283) rfl ?_
   refine XS.icmpNo X547.here hx rfl (q d5_285) rfl (tlt (by decide : ((1 : Int32) < (4 : Int32)))).2.1 ?_
   refine XS.aload X547.here hx rfl (q d5_288) rfl rfl ?_
   refine XS.aload X547.here hx rfl (q d5_290) rfl rfl ?_
   refine XS.aload X547.here hx rfl (q d5_292) rfl rfl ?_
   refine Jvm.RoadKit.acmp (g := (mkF m 294 #[vR rp, vR rl, vI 3, vR b3, vI 3, vI 4, vR b486, vR b495, vI 9, vR b521, .val .null, vR b521, (own_s qd505)] [(.ref b521), (.ref b521), (.ref b521)])) X547 hx rfl rfl rfl (pc0 := 294) (pc' := 297) (same := true) rfl (q d5_294) rfl (decide_eq_true rfl) (by decide) (by decide) ?_
   refine XS.iload X547.here hx rfl (q d5_297) rfl ?_
   refine XS.goto X547.here hx rfl (pc0 := 299) (pc' := 303) rfl (q d5_299) (by decide) (by decide) ?_
   refine st548 _ ?_
   refine XS.astore X548.here hx rfl (q d5_306) rfl rfl (l' := #[vR rp, vR rl, vI 3, vR b3, vI 3, vI 4, vR b486, vR b495, vI 9, vR b521, vR b549, vR b521, (own_s qd505)]) rfl ?_
   refine XS.aload X548.here hx rfl (q d5_308) rfl rfl ?_
   refine XS.astore X548.here hx rfl (q d5_310) rfl rfl (l' := #[vR rp, vR rl, vI 3, vR b3, vI 3, vI 4, vR b486, vR b495, vI 9, vR b521, vR b549, vR b549, (own_s qd505)]) rfl ?_
   refine XS.goto X548.here hx rfl (pc0 := 312) (pc' := 278) rfl (q d5_312) (by decide) (by decide) ?_
   refine XS.aload X548.here hx rfl (q d5_278) rfl rfl ?_
   refine st589.trans ?_
   refine XS.iload X589.here hx rfl (q d5_283) rfl ?_
   refine XS.icmpNo X589.here hx rfl (q d5_285) rfl (tlt (by decide : ((2 : Int32) < (4 : Int32)))).2.1 ?_
   refine XS.aload X589.here hx rfl (q d5_288) rfl rfl ?_
   refine XS.aload X589.here hx rfl (q d5_290) rfl rfl ?_
   refine XS.aload X589.here hx rfl (q d5_292) rfl rfl ?_
   refine Jvm.RoadKit.acmp (g := (mkF m 294 #[vR rp, vR rl, vI 3, vR b3, vI 3, vI 4, vR b486, vR b495, vI 9, vR b521, vR b549, vR b549, (own_s qd505)] [(.ref b521), (.ref b549), (.ref b549)])) X589 hx rfl rfl rfl (pc0 := 294) (pc' := 302) (same := false) rfl (q d5_294) rfl (decide_eq_false fun q => (Ne.symm ne564) (Value.ref.inj q)) (by decide) (by decide) ?_
   refine XS.iconst X589.here hx rfl (q d5_302) ?_
   refine st590 _ ?_
   refine XS.astore X590.here hx rfl (q d5_306) rfl rfl (l' := #[vR rp, vR rl, vI 3, vR b3, vI 3, vI 4, vR b486, vR b495, vI 9, vR b521, vR b591, vR b549, (own_s qd505)]) rfl ?_
   refine XS.aload X590.here hx rfl (q d5_308) rfl rfl ?_
   refine XS.astore X590.here hx rfl (q d5_310) rfl rfl (l' := #[vR rp, vR rl, vI 3, vR b3, vI 3, vI 4, vR b486, vR b495, vI 9, vR b521, vR b591, vR b591, (own_s qd505)]) rfl ?_
   refine XS.goto X590.here hx rfl (pc0 := 312) (pc' := 278) rfl (q d5_312) (by decide) (by decide) ?_
   refine XS.aload X590.here hx rfl (q d5_278) rfl rfl ?_
   refine st648.trans ?_
   refine XS.iload X648.here hx rfl (q d5_283) rfl ?_
   refine XS.icmpYes X648.here hx rfl (pc0 := 285) (pc' := 315) rfl (q d5_285) rfl (flt (by decide : ¬ ((4 : Int32) < (4 : Int32)))).2.1 (by decide) (by decide) ?_
   refine st649 _ ?_
   refine XS.dup X649.here hx rfl (q d5_318) rfl rfl ?_
   refine XS.aloadN X649.here hx rfl (q d5_319) rfl rfl ?_
   refine XS.iload X649.here hx rfl (q d5_320) rfl ?_
   refine XS.aload X649.here hx rfl (q d5_322) rfl rfl ?_
   refine XS.aload X649.here hx rfl (q d5_324) rfl rfl ?_
   refine st692.trans ?_
   exact retOut X692 hx Bd.returns rfl (Or.inr (Or.inr (Or.inr (Or.inr ⟨rfl, rfl, rfl⟩)))) (q d5_329) hr
  ·show Q5k3 Z rp rl fp fl h0 n0 _ T692.heap _
   exact ⟨b649, gg649, sz649, rfl, N692, K692⟩
 ·have pre718 : oP p e below (T10.setTop (mkF m 12 #[vR rp, vR rl, vI 3, vR b3, vU, vU, vU, vU, vU, vU, vU, vU, vU] [(.int 4)])) (s₁.setTop (entryFrame m #[(.ref rp), (.ref rl)] 13)) := by
   intro t k
   refine pre14 _ ?_
   rw [hk15]
   exact k
  obtain ⟨_, _, ⟨T719, L719, k719, n719⟩, -, X719, ⟨Lc719, hQ719, l719, y719, z719⟩, st719⟩ := Jvm.LawKit.callS X10 hx (y := mN2) hown (om hZ hw 48 rfl) (om hZ hw 49 rfl) (om hZ hw 32 rfl) (om hZ hw 50 rfl) (by decide) (backOf (W := 0) (rm9m3c4 l Z a0 hw []  T10.heap n0 Z10 ) hZ (ow hw 50 rfl) (ow hw 32 rfl) (by decide) (by decide)) (g := (mkF m 17 #[vR rp, vR rl, vI 3, vR b3, vI 4, vU, vU, vU, vU, vU, vU, vU, vU] [(.int 4), (.int 3)])) rfl (by rw [hml]; rfl) (argsL := [(.int 3), (.int 4)]) (rest := []) (lenOf pd_2 rfl) rfl (oz rfl) (q d5_17) (fun _ _ => ⟨rfl, rfl, (by decide : 2 + 0 ≤ _), (by decide : 260 + 0 ≤ _)⟩)
  dsimp only [Pt.U, Pt.locs, Pt.cells, Pt.slots] at X719 l719 y719 z719 st719 hQ719
  subst y719 z719
  obtain ⟨rfl, N719q, e719⟩ := hQ719
  have N719 := oF l719 N10 N719q
  obtain ⟨T720, h720, k720, X720, e720, E720, A720, st720⟩ := newP X719 hx hZ (ow hw 2 rfl) e719 (g := (mkF m 35 #[vR rp, vR rl, vI 3, vR b3, vI 4, vI 4, vU, vU, vU, vU, vU, vU, vU] [(.int 16)])) rfl (q d5_35) rfl (by decide) (cap := 16) (by decide) (by decide) (by decide) (by decide)
  obtain ⟨b720, g720⟩ : ∃ z, z = T10.heap.size := ⟨_, rfl⟩
  rw [← g720] at A720 st720
  have ne721 := oN f13.lt g720
  have ne722 := oN f12.lt g720
  have ne723 := oN f11.lt g720
  have gg720 := oL Z10 g720
  have sz720 := oL K10.1 g720
  have f724 := f11.ext E720
  have f725 := f12.ext E720
  have f726 := f13.ext E720
  have Z720 := Nat.le_trans Z10 E720.1
  have K720 := K10.ext E720
  have f727 : AI Z h720 b720 .int 16 zI := AF.new A720 (by decide)
  obtain ⟨cl728, Arcl728, Szcl728⟩ := AF.len f727
  obtain ⟨T729, h729, k729, X729, e729, E729, A729, st729⟩ := newP X720 hx hZ (ow hw 2 rfl) e720 (g := (mkF m 42 #[vR rp, vR rl, vI 3, vR b3, vI 4, vI 4, vR b720, vU, vU, vU, vU, vU, vU] [(.int 16)])) rfl (q d5_42) rfl (by decide) (cap := 16) (by decide) (by decide) (by decide) (by decide)
  obtain ⟨b729, g729⟩ : ∃ z, z = h720.size := ⟨_, rfl⟩
  rw [← g729] at A729 st729
  have ne730 := oN f726.lt g729
  have ne731 := oN f727.lt g729
  have ne732 := oN f725.lt g729
  have ne733 := oN f724.lt g729
  have gg729 := oL Z720 g729
  have sz729 := oL K720.1 g729
  have f734 := f724.ext E729
  have f735 := f725.ext E729
  have f736 := f726.ext E729
  have f737 := f727.ext E729
  have Z729 := Nat.le_trans Z720 E729.1
  have K729 := K720.ext E729
  have f738 : AI Z h729 b729 .int 16 zI := AF.new A729 (by decide)
  obtain ⟨T739, h739, L739, so739, qa739, qb739, qc739, qd739, fn739, fc739, X739, e739, N739, Kl739, An739, ok739, Ac739, st739⟩ := ofO rp rl (3 : Int32) b3 (4 : Int32) (4 : Int32) b720 b729 3 4 16 fp fl gx4 hx hZ hw hby hml hown (by decide) (by decide) (by decide) (by decide) (by decide) hfl gg720 gg729 ne731 ne723 ne733 ne722 ne732 ne721 ne730 3 T729 _ h729 (0 : Int32) 0 none none none none zI zI (by decide) rfl X729 e729 N719 f734 f735 f736 f737 (fun j _ => ⟨0, rfl, Nat.zero_le _⟩) f738
  have Z739 := Nat.le_trans Z729 Kl739.1
  have K739 := K729.trans Kl739 (allS (Or.inr sz720) (allS (Or.inr sz729) all0))
  have f741 := f735.keep Kl739 (ninS ne722 (ninS ne732 nin0))
  have f742 := f736.keep Kl739 (ninS ne721 (ninS ne730 nin0))
  obtain ⟨cl743, Arcl743, hincl743, hatcl743⟩ := AF.at f741 (j := (2 : Int32)) 2 (by decide) (by decide)
  obtain ⟨kl744, hkl744, hkm744⟩ := hfl 2 (by decide)
  obtain ⟨hsp744, hsq744⟩ := own_spm (cc := (4 : Int32)) (cn := 4) hkl744 (by decide) (Nat.le_trans hkm744 (by decide : 2 ≤ 3)) (by decide)
  obtain ⟨T744, h744, L744, fy744, X744, e744, N744, Kl744, Ay744, py744, st744⟩ := own_cp X739 hx hZ hown (ow hw 68 rfl) (ow hw 71 rfl) (ow hw 69 rfl) (ow hw 70 rfl) e739 An739 (by decide) hsp744 (by decide : (12 : Int32).toInt = ((12 : Nat) : Int)) (by decide : (4 : Int32).toInt = ((4 : Nat) : Int)) hsq744 (by decide) N739 gg720 (g := (mkF m 233 #[vR rp, vR rl, vI 3, vR b3, vI 4, vI 4, vR b720, vR b729, vI 12, (own_s qa739), (own_s qb739), (own_s qc739), (own_s qd739)] [(.int 4), (.int 12), (.ref b720), (.int ((fl 2) * (4 : Int32))), (.ref b720)])) rfl (by rw [hml]; rfl) rfl (q d5_233) (by decide) (W := 0) (oz rfl) (by decide)
  have Z744 := Nat.le_trans Z739 Kl744.1
  have K744 := K739.trans Kl744 (allS (Or.inr sz720) all0)
  have f746 := f741.keep Kl744 (ninS ne722 nin0)
  have f747 := f742.keep Kl744 (ninS ne721 nin0)
  have f748 := Ac739.keep Kl744 (ninS (Ne.symm ne731) nin0)
  have okc744 := py744 _ ok739
  obtain ⟨cl749, Arcl749, hincl749, hatcl749⟩ := AF.at f746 (j := (2 : Int32)) 2 (by decide) (by decide)
  obtain ⟨kl750, hkl750, hkm750⟩ := hfl 2 (by decide)
  obtain ⟨hsp750, hsq750⟩ := own_spm (cc := (4 : Int32)) (cn := 4) hkl750 (by decide) (Nat.le_trans hkm750 (by decide : 2 ≤ 3)) (by decide)
  obtain ⟨T750, h750, L750, fy750, X750, e750, N750, Kl750, Ay750, py750, st750⟩ := own_cp X744 hx hZ hown (ow hw 68 rfl) (ow hw 71 rfl) (ow hw 69 rfl) (ow hw 70 rfl) e744 f748 (by decide) hsp750 (by decide : (12 : Int32).toInt = ((12 : Nat) : Int)) (by decide : (4 : Int32).toInt = ((4 : Nat) : Int)) hsq750 (by decide) N744 gg729 (g := (mkF m 252 #[vR rp, vR rl, vI 3, vR b3, vI 4, vI 4, vR b720, vR b729, vI 12, (own_s qa739), (own_s qb739), (own_s qc739), (own_s qd739)] [(.int 4), (.int 12), (.ref b729), (.int ((fl 2) * (4 : Int32))), (.ref b729)])) rfl (by rw [hml]; rfl) rfl (q d5_252) (by decide) (W := 0) (oz rfl) (by decide)
  have Z750 := Nat.le_trans Z744 Kl750.1
  have K750 := K744.trans Kl750 (allS (Or.inr sz729) all0)
  have f753 := f747.keep Kl750 (ninS ne730 nin0)
  have f754 := Ay744.keep Kl750 (ninS ne731 nin0)
  obtain ⟨T755, h755, X755, e755, E755, A755, D755, -, st755⟩ := newO X750 hx hZ hown (ow hw 72 rfl) (ow hw 73 rfl) (ow hw 74 rfl) e750 (g := (mkF m 255 #[vR rp, vR rl, vI 3, vR b3, vI 4, vI 4, vR b720, vR b729, vI 12, (own_s qa739), (own_s qb739), (own_s qc739), (own_s qd739)] [])) rfl (q d5_255) (by decide) (by decide)
  obtain ⟨b755, g755⟩ : ∃ z, z = h750.size := ⟨_, rfl⟩
  rw [← g755] at A755 D755 st755
  have ne756 := oN f753.lt g755
  have ne757 := oN f754.lt g755
  have ne758 := oN Ay750.lt g755
  have gg755 := oL Z750 g755
  have sz755 := oL K750.1 g755
  have f763 := f753.ext E755
  have f764 := f754.ext E755
  have f765 := Ay750.ext E755
  have Z755 := Nat.le_trans Z750 E755.1
  have K755 := K750.ext E755
  have f766 : Fld Z h755 b755 cS3 "width" "I" (.int 0) := D755 (Or.inr (ow hw 85 rfl)) (ty := .int) (by decide)
  have f767 : Fld Z h755 b755 cS3 "columns" "I" (.int 0) := D755 (Or.inr (ow hw 87 rfl)) (ty := .int) (by decide)
  have f768 : Fld Z h755 b755 cS3 "next" "[I" .null := D755 (Or.inr (ow hw 89 rfl)) (ty := (.array .int)) (by decide)
  have f769 : Fld Z h755 b755 cS3 "comparisons" "[I" .null := D755 (Or.inr (ow hw 91 rfl)) (ty := (.array .int)) (by decide)
  obtain ⟨_, _, ⟨T770, L770, k770, n770⟩, -, X770, ⟨Lc770, hQ770, l770, y770, z770⟩, st770⟩ := X755.specialBack hx (y := mN11) rfl hown (om hZ hw 75 rfl) (om hZ hw 76 rfl) (om hZ hw 77 rfl) (by decide) (backOf (W := 1) (rm14 l Z a0 hw [] b755 (1 : Int32) (4 : Int32) b720 b729 h755 n0 Z755 A755 f766 f767 f768 f769 gg755) hZ (ow hw 77 rfl) (ow hw 74 rfl) (by decide) (by decide)) (g := (mkF m 266 #[vR rp, vR rl, vI 3, vR b3, vI 4, vI 4, vR b720, vR b729, vI 12, (own_s qa739), (own_s qb739), (own_s qc739), (own_s qd739)] [(.ref b729), (.ref b720), (.int 4), (.int 1), (.ref b755), (.ref b755)])) rfl (by rw [hml]; rfl) (Steps.refl _) (a := b755) (argsL := [(.int 1), (.int 4), (.ref b720), (.ref b729)]) (rest := [(.ref b755)]) (lenOf pd_7 rfl) rfl (oz rfl) (q d5_266) (fun _ _ => ⟨rfl, e755, (by decide : 5 + 0 ≤ _), (by decide : 296 + 0 ≤ _)⟩)
  dsimp only [Pt.U, Pt.locs, Pt.cells, Pt.slots] at X770 l770 y770 z770 st770 hQ770
  subst y770 z770
  obtain ⟨rfl, N770q, K770c, f771, f772, f773, f774⟩ := hQ770
  have N770 := oF l770 N750 N770q
  have f777 := f763.keep K770c (ninS ne756 nin0)
  have f778 := f764.keep K770c (ninS ne757 nin0)
  have f779 := f765.keep K770c (ninS ne758 nin0)
  have f780 := A755.keep K770c
  have Z770 := Nat.le_trans Z755 K770c.1
  have K770 := K755.trans K770c (allS (Or.inr sz755) all0)
  obtain ⟨cq781, kq781, q781a, q781b, q781c⟩ := isOf hZ rfl f780
  obtain ⟨_, _, ⟨T781, L781, k781, n781⟩, -, X781, ⟨Lc781, hQ781, l781, y781, z781⟩, st781⟩ := X770.virtualBack hx (y := mN12) (z := mN12) hown (om hZ hw 92 rfl) (om hZ hw 93 rfl) (notFace_of_selects (args := #[]) (om hZ hw 95 rfl)) (om hZ hw 95 rfl) (om hZ hw 94 rfl) (by decide) (backOf (W := 0) (rm16 l Z a0 hw [] b755 (1 : Int32) T770.heap n0 Z770 f771) hZ (ow hw 96 rfl) (ow hw 74 rfl) (by decide) (by decide)) q781a q781c (g := (mkF m 280 #[vR rp, vR rl, vI 3, vR b3, vI 4, vI 4, vR b720, vR b729, vI 12, vR b755, .val .null, vR b755, (own_s qd739)] [(.ref b755)])) rfl (by rw [hml]; rfl) (Steps.refl _) (argsL := []) (rest := []) (lenOf pd_5 rfl) rfl (oz rfl) (q d5_280) (fun _ _ => ⟨rfl, rfl, (by decide : 5 + 0 ≤ _), (by decide : 296 + 0 ≤ _)⟩)
  dsimp only [Pt.U, Pt.locs, Pt.cells, Pt.slots] at X781 l781 y781 z781 st781 hQ781
  subst y781 z781
  obtain ⟨rfl, N781q, e781⟩ := hQ781
  have N781 := oF l781 N770 N781q
  obtain ⟨_, _, ⟨T782, L782, k782, n782⟩, -, X782, ⟨Lc782, hQ782, l782, y782, z782⟩, st782⟩ := Jvm.LawKit.callS X781 hx (y := mN16) hown (om hZ hw 97 rfl) (om hZ hw 98 rfl) (om hZ hw 32 rfl) (om hZ hw 99 rfl) (by decide) (backOf (W := 0) (rm17a l Z a0 hw [] b755 (12 : Int32) (4 : Int32) b720 b729 16 4 fy744 fy750 T770.heap n0 Z770 f780 f771 f772 f773 f774 f778 f779 (by decide) (by decide) (by decide) (by decide) (fun j hj => own_okt (okc744 j hj) (by decide))) hZ (ow hw 99 rfl) (ow hw 32 rfl) (by decide) (by decide)) (g := (mkF m 303 #[vR rp, vR rl, vI 3, vR b3, vI 4, vI 4, vR b720, vR b729, vI 12, vR b755, .val .null, vR b755, (own_s qd739)] [(.int 12), (.ref b755)])) rfl (by rw [hml]; rfl) (argsL := [(.ref b755), (.int 12)]) (rest := []) (lenOf pd_9 rfl) rfl (oz rfl) (q d5_303) (fun _ _ => ⟨rfl, e781, (by decide : 5 + 3 ≤ _), (by decide : 296 + 2052 ≤ _)⟩)
  dsimp only [Pt.U, Pt.locs, Pt.cells, Pt.slots] at X782 l782 y782 z782 st782 hQ782
  subst y782 z782
  obtain ⟨b783, b784, b785, gx786, gx787, ggb783, szb783, ggb784, szb784, ggb785, szb785, ne782_0, ne782_1, ne782_2, rfl, N782q, K782c, f788, f789, f790, f791, f792, f793, f794, okw4⟩ := hQ782
  have N782 := oF l782 N781 N782q
  have ne798 := oM f780.lt szb783
  have f815 := f777.keep K782c nin0
  have f818 := f780.keep K782c
  have f820 := f772.keep K782c nin0
  have Z782 := Nat.le_trans Z770 K782c.1
  have K782 := K770.trans K782c all0
  obtain ⟨cq823, kq823, q823a, q823b, q823c⟩ := isOf hZ rfl f788
  obtain ⟨_, _, ⟨T823, L823, k823, n823⟩, -, X823, ⟨Lc823, hQ823, l823, y823, z823⟩, st823⟩ := X782.virtualBack hx (y := mN12) (z := mN12) hown (om hZ hw 92 rfl) (om hZ hw 93 rfl) (notFace_of_selects (args := #[]) (om hZ hw 95 rfl)) (om hZ hw 95 rfl) (om hZ hw 94 rfl) (by decide) (backOf (W := 0) (rm16 l Z a0 hw [] b783 (2 : Int32) T782.heap n0 Z782 f789) hZ (ow hw 96 rfl) (ow hw 74 rfl) (by decide) (by decide)) q823a q823c (g := (mkF m 280 #[vR rp, vR rl, vI 3, vR b3, vI 4, vI 4, vR b720, vR b729, vI 12, vR b755, vR b783, vR b783, (own_s qd739)] [(.ref b783)])) rfl (by rw [hml]; rfl) (Steps.refl _) (argsL := []) (rest := []) (lenOf pd_5 rfl) rfl (oz rfl) (q d5_280) (fun _ _ => ⟨rfl, rfl, (by decide : 8 + 0 ≤ _), (by decide : 2348 + 0 ≤ _)⟩)
  dsimp only [Pt.U, Pt.locs, Pt.cells, Pt.slots] at X823 l823 y823 z823 st823 hQ823
  subst y823 z823
  obtain ⟨rfl, N823q, e823⟩ := hQ823
  have N823 := oF l823 N782 N823q
  obtain ⟨_, _, ⟨T824, L824, k824, n824⟩, -, X824, ⟨Lc824, hQ824, l824, y824, z824⟩, st824⟩ := Jvm.LawKit.callS X823 hx (y := mN16) hown (om hZ hw 97 rfl) (om hZ hw 98 rfl) (om hZ hw 32 rfl) (om hZ hw 99 rfl) (by decide) (backOf (W := 0) (rm17b l Z a0 hw [] b783 (-1 : Int32) ((4 : Int32) * (4 : Int32)) b784 b785 (16 * 4) (4 * 4) gx786 gx787 T782.heap n0 Z782 f788 f789 f790 f791 f792 f793 f794 (by decide) (by decide) (by decide) (by decide) (okw4)) hZ (ow hw 99 rfl) (ow hw 32 rfl) (by decide) (by decide)) (g := (mkF m 303 #[vR rp, vR rl, vI 3, vR b3, vI 4, vI 4, vR b720, vR b729, vI 12, vR b755, vR b783, vR b783, (own_s qd739)] [(.int (-1 : Int32)), (.ref b783)])) rfl (by rw [hml]; rfl) (argsL := [(.ref b783), (.int (-1 : Int32))]) (rest := []) (lenOf pd_9 rfl) rfl (oz rfl) (q d5_303) (fun _ _ => ⟨rfl, e823, (by decide : 8 + 3 ≤ _), (by decide : 2348 + 2052 ≤ _)⟩)
  dsimp only [Pt.U, Pt.locs, Pt.cells, Pt.slots] at X824 l824 y824 z824 st824 hQ824
  subst y824 z824
  obtain ⟨b825, b826, b827, gx828, gx829, ggb825, szb825, ggb826, szb826, ggb827, szb827, ne824_0, ne824_1, ne824_2, rfl, N824q, K824c, f830, f831, f832, f833, f834, f835, f836, hq837⟩ := hQ824
  have N824 := oF l824 N823 N824q
  have f867 := f815.keep K824c nin0
  have f870 := f818.keep K824c
  have f872 := f820.keep K824c nin0
  have Z824 := Nat.le_trans Z782 K824c.1
  have K824 := K782.trans K824c all0
  obtain ⟨cq882, kq882, q882a, q882b, q882c⟩ := isOf hZ rfl f830
  obtain ⟨_, _, ⟨T882, L882, k882, n882⟩, -, X882, ⟨Lc882, hQ882, l882, y882, z882⟩, st882⟩ := X824.virtualBack hx (y := mN12) (z := mN12) hown (om hZ hw 92 rfl) (om hZ hw 93 rfl) (notFace_of_selects (args := #[]) (om hZ hw 95 rfl)) (om hZ hw 95 rfl) (om hZ hw 94 rfl) (by decide) (backOf (W := 0) (rm16 l Z a0 hw [] b825 (4 : Int32) T824.heap n0 Z824 f831) hZ (ow hw 96 rfl) (ow hw 74 rfl) (by decide) (by decide)) q882a q882c (g := (mkF m 280 #[vR rp, vR rl, vI 3, vR b3, vI 4, vI 4, vR b720, vR b729, vI 12, vR b755, vR b825, vR b825, (own_s qd739)] [(.ref b825)])) rfl (by rw [hml]; rfl) (Steps.refl _) (argsL := []) (rest := []) (lenOf pd_5 rfl) rfl (oz rfl) (q d5_280) (fun _ _ => ⟨rfl, rfl, (by decide : 11 + 0 ≤ _), (by decide : 4400 + 0 ≤ _)⟩)
  dsimp only [Pt.U, Pt.locs, Pt.cells, Pt.slots] at X882 l882 y882 z882 st882 hQ882
  subst y882 z882
  obtain ⟨rfl, N882q, e882⟩ := hQ882
  have N882 := oF l882 N824 N882q
  obtain ⟨T883, h883, X883, e883, E883, A883, D883, -, st883⟩ := newO X882 hx hZ hown (ow hw 115 rfl) (ow hw 116 rfl) (ow hw 32 rfl) e882 (g := (mkF m 315 #[vR rp, vR rl, vI 3, vR b3, vI 4, vI 4, vR b720, vR b729, vI 12, vR b755, vR b825, vR b825, (own_s qd739)] [])) rfl (q d5_315) (by decide) (by decide)
  obtain ⟨b883, g883⟩ : ∃ z, z = T824.heap.size := ⟨_, rfl⟩
  rw [← g883] at A883 D883 st883
  have ne884 := oN f867.lt g883
  have ne887 := oN f870.lt g883
  have ne891 := oN f830.lt g883
  have gg883 := oL Z824 g883
  have sz883 := oL K824.1 g883
  have f898 := f867.ext E883
  have f901 := f870.ext E883
  have f903 := f872.ext E883
  have f913 := f830.ext E883
  have f914 := f831.ext E883
  have f915 := f832.ext E883
  have Z883 := Nat.le_trans Z824 E883.1
  have K883 := K824.ext E883
  have f920 : Fld Z h883 b883 cS0 "column" "[I" .null := D883 (Or.inr (ow hw 122 rfl)) (ty := (.array .int)) (by decide)
  have f921 : Fld Z h883 b883 cS0 "occurrenceRow" "I" (.int 0) := D883 (Or.inr (ow hw 124 rfl)) (ty := .int) (by decide)
  have f922 : Fld Z h883 b883 cS0 "single" cS4 .null := D883 (Or.inr (ow hw 126 rfl)) (ty := (.object cS3)) (by decide)
  have f923 : Fld Z h883 b883 cS0 "block" cS4 .null := D883 (Or.inr (ow hw 128 rfl)) (ty := (.object cS3)) (by decide)
  have f924 : Fld Z h883 b883 cS0 "blockColumn" "[[I" .null := D883 (Or.inr (ow hw 132 rfl)) (ty := (.array (.array .int))) (by decide)
  have f925 : Fld Z h883 b883 cS0 "blockFactor" "I" (.int 0) := D883 (Or.inr (ow hw 134 rfl)) (ty := .int) (by decide)
  obtain ⟨_, _, ⟨T926, L926, k926, n926⟩, -, X926, ⟨Lc926, hQ926, l926, y926, z926⟩, st926⟩ := X883.specialBack hx (y := mN17) rfl hown (om hZ hw 117 rfl) (om hZ hw 118 rfl) (om hZ hw 119 rfl) (by decide) (backOf (W := 1) (rm21 l Z a0 hw [] b883 b3 (12 : Int32) b755 b825 (4 : Int32) (((4 : Int32) * (4 : Int32)) * ((4 : Int32) * (4 : Int32))) gx4 h883 n0 Z883 A883 f920 f921 f922 f923 f924 f925 f901 f913 f903 f915 f914 f898 ne884 ne887 ne891 (by decide) gg883) hZ (ow hw 119 rfl) (ow hw 32 rfl) (by decide) (by decide)) (g := (mkF m 326 #[vR rp, vR rl, vI 3, vR b3, vI 4, vI 4, vR b720, vR b729, vI 12, vR b755, vR b825, vR b825, (own_s qd739)] [(.ref b825), (.ref b755), (.int 12), (.ref b3), (.ref b883), (.ref b883)])) rfl (by rw [hml]; rfl) (Steps.refl _) (a := b883) (argsL := [(.ref b3), (.int 12), (.ref b755), (.ref b825)]) (rest := [(.ref b883)]) (lenOf pd_10 rfl) rfl (oz rfl) (q d5_326) (fun _ _ => ⟨rfl, e883, (by decide : 12 + 5 ≤ _), (by decide : 4406 + 1028 ≤ _)⟩)
  dsimp only [Pt.U, Pt.locs, Pt.cells, Pt.slots] at X926 l926 y926 z926 st926 hQ926
  subst y926 z926
  obtain ⟨rfl, N926q, K926c⟩ := hQ926
  have N926 := oF l926 N882 N926q
  have K926 := K883.trans K926c (allS (Or.inr sz883) all0)
  obtain ⟨fs, hr, hrun, hended, hW, hsame⟩ := X926.leave (v := some (.ref b883)) (oR Bd.returns) (hlocks := Bd.notSynchronized)
  refine ⟨_, _, pre718 _ ?_, hrun, hended, _, _, rfl, ?_, ⟨_, rfl⟩, hW, hsame.mono (by decide) (by decide)⟩
  ·show Steps p.tables e below (T10.setTop (mkF m 12 #[vR rp, vR rl, vI 3, vR b3, vU, vU, vU, vU, vU, vU, vU, vU, vU] [(.int 4)])) _
   refine XS.istore X10.here hx rfl (q d5_12) rfl (l' := #[vR rp, vR rl, vI 3, vR b3, vI 4, vU, vU, vU, vU, vU, vU, vU, vU]) rfl ?_
   refine XS.iloadN X10.here hx rfl (q d5_14) rfl ?_
   refine XS.iload X10.here hx rfl (q d5_15) rfl ?_
   refine st719 _ ?_
   refine XS.istore X719.here hx rfl (q d5_20) rfl (l' := #[vR rp, vR rl, vI 3, vR b3, vI 4, vI 4, vU, vU, vU, vU, vU, vU, vU]) rfl ?_
   refine XS.iload X719.here hx rfl (q d5_22) rfl ?_
   refine XS.ifYes X719.here hx rfl (pc0 := 24) (pc' := 29) rfl (q d5_24) rfl ((if0 _ _).trans (feq (by decide : ¬ ((4 : Int32) = (0 : Int32)))).2) (by decide) (by decide) ?_
   refine XS.iloadN X719.here hx rfl (q d5_29) rfl ?_
   refine XS.iconst X719.here hx rfl (q d5_30) ?_
   refine XS.iadd X719.here hx rfl (q d5_31) rfl ?_
   refine XS.iload X719.here hx rfl (q d5_32) rfl ?_
   refine XS.imul X719.here hx rfl (q d5_34) rfl ?_
   refine st720 _ ?_
   refine XS.astore X720.here hx rfl (q d5_37) rfl rfl (l' := #[vR rp, vR rl, vI 3, vR b3, vI 4, vI 4, vR b720, vU, vU, vU, vU, vU, vU]) rfl ?_
   refine XS.aload X720.here hx rfl (q d5_39) rfl rfl ?_
   refine X720.arraylength hx (by rw [e720]; exact Arcl728.1) (State.isArrayOf_alike hZ.alike Arcl728.2.1) (g := (mkF m 41 #[vR rp, vR rl, vI 3, vR b3, vI 4, vI 4, vR b720, vU, vU, vU, vU, vU, vU] [(.ref b720)])) rfl rfl (q d5_41) _ ?_
   rw [Szcl728]
   refine st729 _ ?_
   refine XS.astore X729.here hx rfl (q d5_44) rfl rfl (l' := #[vR rp, vR rl, vI 3, vR b3, vI 4, vI 4, vR b720, vR b729, vU, vU, vU, vU, vU]) rfl ?_
   refine XS.iconst X729.here hx rfl (q d5_46) ?_
   refine XS.istore X729.here hx rfl (q d5_47) rfl (l' := #[vR rp, vR rl, vI 3, vR b3, vI 4, vI 4, vR b720, vR b729, vI 0, vU, vU, vU, vU]) rfl ?_
   refine st739 _ ?_
   refine XS.iloadN X739.here hx rfl (q d5_211) rfl ?_
   refine XS.iload X739.here hx rfl (q d5_212) rfl ?_
   refine XS.imul X739.here hx rfl (q d5_214) rfl ?_
   refine XS.istore X739.here hx rfl (q d5_215) rfl (l' := #[vR rp, vR rl, vI 3, vR b3, vI 4, vI 4, vR b720, vR b729, vI 12, (own_s qa739), (own_s qb739), (own_s qc739), (own_s qd739)]) rfl ?_
   refine XS.aload X739.here hx rfl (q d5_217) rfl rfl ?_
   refine XS.aloadN X739.here hx rfl (q d5_219) rfl rfl ?_
   refine XS.iloadN X739.here hx rfl (q d5_220) rfl ?_
   refine XS.iconst X739.here hx rfl (q d5_221) ?_
   refine XS.isub X739.here hx rfl (q d5_222) rfl ?_
   refine X739.iaload hx (j := (2 : Int32)) (v := (.int (fl 2))) (by rw [e739]; exact Arcl743.1) (State.isArrayOf_alike hZ.alike Arcl743.2.1) Arcl743.2.2 hincl743 hatcl743 (g := (mkF m 223 #[vR rp, vR rl, vI 3, vR b3, vI 4, vI 4, vR b720, vR b729, vI 12, (own_s qa739), (own_s qb739), (own_s qc739), (own_s qd739)] [(.int 2), (.ref rl), (.ref b720)])) rfl rfl (q d5_223) _ ?_
   refine XS.iload X739.here hx rfl (q d5_224) rfl ?_
   refine XS.imul X739.here hx rfl (q d5_226) rfl ?_
   refine XS.aload X739.here hx rfl (q d5_227) rfl rfl ?_
   refine XS.iload X739.here hx rfl (q d5_229) rfl ?_
   refine XS.iload X739.here hx rfl (q d5_231) rfl ?_
   refine st744 _ ?_
   refine XS.aload X744.here hx rfl (q d5_236) rfl rfl ?_
   refine XS.aloadN X744.here hx rfl (q d5_238) rfl rfl ?_
   refine XS.iloadN X744.here hx rfl (q d5_239) rfl ?_
   refine XS.iconst X744.here hx rfl (q d5_240) ?_
   refine XS.isub X744.here hx rfl (q d5_241) rfl ?_
   refine X744.iaload hx (j := (2 : Int32)) (v := (.int (fl 2))) (by rw [e744]; exact Arcl749.1) (State.isArrayOf_alike hZ.alike Arcl749.2.1) Arcl749.2.2 hincl749 hatcl749 (g := (mkF m 242 #[vR rp, vR rl, vI 3, vR b3, vI 4, vI 4, vR b720, vR b729, vI 12, (own_s qa739), (own_s qb739), (own_s qc739), (own_s qd739)] [(.int 2), (.ref rl), (.ref b729)])) rfl rfl (q d5_242) _ ?_
   refine XS.iload X744.here hx rfl (q d5_243) rfl ?_
   refine XS.imul X744.here hx rfl (q d5_245) rfl ?_
   refine XS.aload X744.here hx rfl (q d5_246) rfl rfl ?_
   refine XS.iload X744.here hx rfl (q d5_248) rfl ?_
   refine XS.iload X744.here hx rfl (q d5_250) rfl ?_
   refine st750 _ ?_
   refine st755 _ ?_
   refine XS.dup X755.here hx rfl (q d5_258) rfl rfl ?_
   refine XS.iconst X755.here hx rfl (q d5_259) ?_
   refine XS.iload X755.here hx rfl (q d5_260) rfl ?_
   refine XS.aload X755.here hx rfl (q d5_262) rfl rfl ?_
   refine XS.aload X755.here hx rfl (q d5_264) rfl rfl ?_
   refine st770.trans ?_
   refine XS.astore X770.here hx rfl (q d5_269) rfl rfl (l' := #[vR rp, vR rl, vI 3, vR b3, vI 4, vI 4, vR b720, vR b729, vI 12, vR b755, (own_s qb739), (own_s qc739), (own_s qd739)]) (by cases qa739 <;> rfl) ?_
   refine XS.aconstNull X770.here hx rfl (q d5_271) ?_
   refine XS.astore X770.here hx rfl (q d5_272) rfl rfl (l' := #[vR rp, vR rl, vI 3, vR b3, vI 4, vI 4, vR b720, vR b729, vI 12, vR b755, .val .null, (own_s qc739), (own_s qd739)]) (by cases qb739 <;> rfl) ?_
   refine XS.aload X770.here hx rfl (q d5_274) rfl rfl ?_
   refine XS.astore X770.here hx rfl (q d5_276) rfl rfl (l' := #[vR rp, vR rl, vI 3, vR b3, vI 4, vI 4, vR b720, vR b729, vI 12, vR b755, .val .null, vR b755, (own_s qd739)]) (by cases qc739 <;> rfl) ?_
   refine XS.aload X770.here hx rfl (q d5_278) rfl rfl ?_
   refine st781.trans ?_
   refine XS.iload X781.here hx rfl (q d5_283) rfl ?_
   refine XS.icmpNo X781.here hx rfl (q d5_285) rfl (tlt (by decide : ((1 : Int32) < (4 : Int32)))).2.1 ?_
   refine XS.aload X781.here hx rfl (q d5_288) rfl rfl ?_
   refine XS.aload X781.here hx rfl (q d5_290) rfl rfl ?_
   refine XS.aload X781.here hx rfl (q d5_292) rfl rfl ?_
   refine Jvm.RoadKit.acmp (g := (mkF m 294 #[vR rp, vR rl, vI 3, vR b3, vI 4, vI 4, vR b720, vR b729, vI 12, vR b755, .val .null, vR b755, (own_s qd739)] [(.ref b755), (.ref b755), (.ref b755)])) X781 hx rfl rfl rfl (pc0 := 294) (pc' := 297) (same := true) rfl (q d5_294) rfl (decide_eq_true rfl) (by decide) (by decide) ?_
   refine XS.iload X781.here hx rfl (q d5_297) rfl ?_
   refine XS.goto X781.here hx rfl (pc0 := 299) (pc' := 303) rfl (q d5_299) (by decide) (by decide) ?_
   refine st782 _ ?_
   refine XS.astore X782.here hx rfl (q d5_306) rfl rfl (l' := #[vR rp, vR rl, vI 3, vR b3, vI 4, vI 4, vR b720, vR b729, vI 12, vR b755, vR b783, vR b755, (own_s qd739)]) rfl ?_
   refine XS.aload X782.here hx rfl (q d5_308) rfl rfl ?_
   refine XS.astore X782.here hx rfl (q d5_310) rfl rfl (l' := #[vR rp, vR rl, vI 3, vR b3, vI 4, vI 4, vR b720, vR b729, vI 12, vR b755, vR b783, vR b783, (own_s qd739)]) rfl ?_
   refine XS.goto X782.here hx rfl (pc0 := 312) (pc' := 278) rfl (q d5_312) (by decide) (by decide) ?_
   refine XS.aload X782.here hx rfl (q d5_278) rfl rfl ?_
   refine st823.trans ?_
   refine XS.iload X823.here hx rfl (q d5_283) rfl ?_
   refine XS.icmpNo X823.here hx rfl (q d5_285) rfl (tlt (by decide : ((2 : Int32) < (4 : Int32)))).2.1 ?_
   refine XS.aload X823.here hx rfl (q d5_288) rfl rfl ?_
   refine XS.aload X823.here hx rfl (q d5_290) rfl rfl ?_
   refine XS.aload X823.here hx rfl (q d5_292) rfl rfl ?_
   refine Jvm.RoadKit.acmp (g := (mkF m 294 #[vR rp, vR rl, vI 3, vR b3, vI 4, vI 4, vR b720, vR b729, vI 12, vR b755, vR b783, vR b783, (own_s qd739)] [(.ref b755), (.ref b783), (.ref b783)])) X823 hx rfl rfl rfl (pc0 := 294) (pc' := 302) (same := false) rfl (q d5_294) rfl (decide_eq_false fun q => (Ne.symm ne798) (Value.ref.inj q)) (by decide) (by decide) ?_
   refine XS.iconst X823.here hx rfl (q d5_302) ?_
   refine st824 _ ?_
   refine XS.astore X824.here hx rfl (q d5_306) rfl rfl (l' := #[vR rp, vR rl, vI 3, vR b3, vI 4, vI 4, vR b720, vR b729, vI 12, vR b755, vR b825, vR b783, (own_s qd739)]) rfl ?_
   refine XS.aload X824.here hx rfl (q d5_308) rfl rfl ?_
   refine XS.astore X824.here hx rfl (q d5_310) rfl rfl (l' := #[vR rp, vR rl, vI 3, vR b3, vI 4, vI 4, vR b720, vR b729, vI 12, vR b755, vR b825, vR b825, (own_s qd739)]) rfl ?_
   refine XS.goto X824.here hx rfl (pc0 := 312) (pc' := 278) rfl (q d5_312) (by decide) (by decide) ?_
   refine XS.aload X824.here hx rfl (q d5_278) rfl rfl ?_
   refine st882.trans ?_
   refine XS.iload X882.here hx rfl (q d5_283) rfl ?_
   refine XS.icmpYes X882.here hx rfl (pc0 := 285) (pc' := 315) rfl (q d5_285) rfl (flt (by decide : ¬ ((4 : Int32) < (4 : Int32)))).2.1 (by decide) (by decide) ?_
   refine st883 _ ?_
   refine XS.dup X883.here hx rfl (q d5_318) rfl rfl ?_
   refine XS.aloadN X883.here hx rfl (q d5_319) rfl rfl ?_
   refine XS.iload X883.here hx rfl (q d5_320) rfl ?_
   refine XS.aload X883.here hx rfl (q d5_322) rfl rfl ?_
   refine XS.aload X883.here hx rfl (q d5_324) rfl rfl ?_
   refine st926.trans ?_
   exact retOut X926 hx Bd.returns rfl (Or.inr (Or.inr (Or.inr (Or.inr ⟨rfl, rfl, rfl⟩)))) (q d5_329) hr
  ·show Q5k3 Z rp rl fp fl h0 n0 _ T926.heap _
   exact ⟨b883, gg883, sz883, rfl, N926, K926⟩
theorem ef_4z1 (m : MethodId) (ra : Addr) : entryFrame m #[(.ref ra)] 2 = mkF m 0 #[vR ra, .unset] [] := by first | (simp [entryFrame, mkF, argsToLocals, Value.category]; done) | rfl
abbrev D_19 (k : Nat) := decode prog_28_method_5_code k
theorem d4_0 : D_19 0 = .ok (.aload_n 0, 1) := by decide +kernel
theorem d4_1 : D_19 1 = .ok (.getfield 30, 3) := by decide +kernel
theorem d4_4 : D_19 4 = .ok (.astore_n 1, 1) := by decide +kernel
theorem d4_5 : D_19 5 = .ok (.aload_n 1, 1) := by decide +kernel
theorem d4_6 : D_19 6 = .ok (.ifnonnull 20, 3) := by decide +kernel
theorem d4_9 : D_19 9 = .ok (.aload_n 0, 1) := by decide +kernel
theorem d4_10 : D_19 10 = .ok (.getfield 13, 3) := by decide +kernel
theorem d4_13 : D_19 13 = .ok (.aload_n 0, 1) := by decide +kernel
theorem d4_14 : D_19 14 = .ok (.getfield 17, 3) := by decide +kernel
theorem pd_11 : parseMethodDescriptor "([B[I)Lskipstitch/search/Automaton;" = some ⟨[(.array .byte), (.array .int)], some (.object cS0)⟩ := by decide +kernel
theorem d4_17 : D_19 17 = .ok (.invokestatic 34, 3) := by decide +kernel
theorem d4_20 : D_19 20 = .ok (.astore_n 1, 1) := by decide +kernel
theorem d4_21 : D_19 21 = .ok (.aload_n 0, 1) := by decide +kernel
theorem d4_22 : D_19 22 = .ok (.aload_n 1, 1) := by decide +kernel
theorem d4_23 : D_19 23 = .ok (.putfield 30, 3) := by decide +kernel
theorem d4_26 : D_19 26 = .ok (.aload_n 1, 1) := by decide +kernel
theorem d4_27 : D_19 27 = .ok (.areturn, 1) := by decide +kernel
def Q4z1 (Z : State) (ra : Addr) (rp : Addr) (rl : Addr) (fp : Nat → Int32) (fl : Nat → Int32) (h0 : Heap) (n0 : Nat) (v : Option Value) (h : Heap) (L : List Loc) : Prop := v = some .null ∧ Fr n0 L ∧ Keep h0 h [ra] ∧ Fld Z h ra cS1 "automaton" cS2 .null ∧ Fld Z h ra cS1 "pattern" "[B" (.ref rp) ∧ Fld Z h ra cS1 "links" "[I" (.ref rl)
set_option maxRecDepth 65536 in
set_option maxHeartbeats 40000000 in
theorem rm4z1 (l : Launch) (Z : State) (a0 : Array Value) (hw : ∀ d ∈ tables_1, d.before a0 Z = true) (ws : List Jvm.Cond) (ra : Addr) (rp : Addr) (rl : Addr) (fp : Nat → Int32) (fl : Nat → Int32) (h0 : Heap) (n0 : Nat) (Z0 : n0 ≤ h0.size) (E_ra : Exa Z h0 ra cS1) (F_automaton_ra : Fld Z h0 ra cS1 "automaton" cS2 .null) (F_pattern_ra : Fld Z h0 ra cS1 "pattern" "[B" (.ref rp)) (F_links_ra : Fld Z h0 ra cS1 "links" "[I" (.ref rl)) (A_rp : AI Z h0 rp .byte 1 fp) (A_rl : AI Z h0 rl .int 1 fl) (ne_rp_ra : rp ≠ ra) (ne_rl_ra : rl ≠ ra) (g_ra : n0 ≤ ra) :
  MetFree l mN19 (head1 (Jvm.Cond.code mN19 prog_28_method_5_code 2 (some (.object cS0)) :: ws) ({ frames := 3, cells := 2, slots := 260, locals := 55 } : Room)) (fun a U => a = #[(.ref ra)] ∧ Z.Warmed39 U.vm ∧ U.heap = h0) (fun _ _ _ _ _ => True) (fun _ U o U' => ∃ v L, o = .returned v ∧ Q4z1 Z ra rp rl fp fl h0 n0 v U'.heap L ∧ FrameEnd U o U' L ({ frames := 3, cells := 2, slots := 260, locals := 55 } : Room).cells ({ frames := 3, cells := 2, slots := 260, locals := 55 } : Room).slots) := by
 refine MetFree.of_bodySF (plainFor_of_name pn_skipstitch_search_LazyAutomaton) hisR ?_
 intro p e s m args below meth c s₁ Bd hml0 hP hK
 obtain ⟨rfl, hZ, hh⟩ := hP
 have hx := Bd.exec
 have hby := Bd.bytes
 have q {i : Nat} {r : _} (h : decode _ i = r) := hb hby h
 have hml : c.maxLocals = 2 := hml0
 have hown : s.vm.findClass cS1 = some m.cls := findClass_of_methodNamed Bd.named
 have hnm := (name_of_methodNamed Bd.named Bd.method).1
 have X0 : Stand p l e ({ frames := 3, cells := 2, slots := 260, locals := 55 } : Room) s m #[(.ref ra)] below meth c s₁ [] 0 0 := Stand.of_body Bd
 have e0 : s₁.heap = h0 := by rw [← hh, Bd.state]; rfl
 have N0 := Fr.nil n0
 have K0 : Keep h0 h0 [ra] := Keep.refl h0 _
 have pre0 : oP p e below (s₁.setTop (mkF m 0 #[vR ra, vU] [])) (s₁.setTop (entryFrame m #[(.ref ra)] 2)) := fun t k => castTop (ef_4z1 m ra) k
 obtain ⟨T1, X1, e1, st1⟩ := getF X0 hx hZ hown (host := "") (Or.inl (ow hw 23 rfl)) Via.refl e0 F_automaton_ra (g := (mkF m 1 #[vR ra, vU] [(.ref ra)])) rfl rfl (q d4_1)
 obtain ⟨T2, X2, e2, st2⟩ := getF X1 hx hZ hown (host := "") (Or.inl (ow hw 14 rfl)) Via.refl e1 F_pattern_ra (g := (mkF m 10 #[vR ra, .val .null] [(.ref ra)])) rfl rfl (q d4_10)
 obtain ⟨T3, X3, e3, st3⟩ := getF X2 hx hZ hown (host := "") (Or.inl (ow hw 16 rfl)) Via.refl e2 F_links_ra (g := (mkF m 14 #[vR ra, .val .null] [(.ref ra), (.ref rp)])) rfl rfl (q d4_14)
 obtain ⟨_, _, ⟨T4, L4, k4, n4⟩, -, X4, ⟨Lc4, hQ4, l4, y4, z4⟩, st4⟩ := Jvm.LawKit.callS X3 hx (y := mN18) hown (om hZ hw 30 rfl) (om hZ hw 31 rfl) (om hZ hw 32 rfl) (om hZ hw 33 rfl) (by decide) (backOf (W := 0) (rm5k1 l Z a0 hw [] rp rl fp fl h0 n0 Z0 A_rp A_rl) hZ (ow hw 33 rfl) (ow hw 32 rfl) (by decide) (by decide)) (g := (mkF m 17 #[vR ra, .val .null] [(.ref rl), (.ref rp)])) rfl (by rw [hml]; rfl) (argsL := [(.ref rp), (.ref rl)]) (rest := []) (lenOf pd_11 rfl) rfl (oz rfl) (q d4_17) (fun _ _ => ⟨rfl, e3, (by decide : 0 + 2 ≤ _), (by decide : 0 + 260 ≤ _)⟩)
 dsimp only [Pt.U, Pt.locs, Pt.cells, Pt.slots] at X4 l4 y4 z4 st4 hQ4
 subst y4 z4
 obtain ⟨rfl, N4q, K4c⟩ := hQ4
 have N4 := oF l4 N0 N4q
 have f5 := E_ra.keep K4c
 have f6 := F_automaton_ra.keep K4c nin0
 have f7 := F_pattern_ra.keep K4c nin0
 have f8 := F_links_ra.keep K4c nin0
 have K4 := K0.trans K4c all0
 obtain ⟨T11, h11, X11, e11, W11, st11⟩ := putF X4 hx hZ hown (host := "") (Or.inl (ow hw 23 rfl)) Via.refl rfl f6 f5 (Or.inl (ow hw 24 rfl)) (ow hw 4 rfl) (ty := (.object cS0)) (by decide) rfl rfl (g := (mkF m 23 #[vR ra, .val .null] [.null, (.ref ra)])) rfl rfl (q d4_23)
 have N11 := Fr.snoc X11 N4 g_ra
 have K11 := K4.wr W11 (Or.inl (List.mem_of_getElem? (i := 0) rfl))
 have f12 : Fld Z h11 ra cS1 "automaton" cS2 .null := f6.same W11
 have f14 := f7.other W11 (Or.inr (slot_ne (Or.inr (ow hw 15 rfl)) (Or.inl (ow hw 24 rfl)) (by decide) (t := (.array .byte)) (t' := (.object cS0)) (by decide) (by decide)))
 have f15 := f8.other W11 (Or.inr (slot_ne (Or.inr (ow hw 17 rfl)) (Or.inl (ow hw 24 rfl)) (by decide) (t := (.array .int)) (t' := (.object cS0)) (by decide) (by decide)))
 obtain ⟨fs, hr, hrun, hended, hW, hsame⟩ := X11.leave (v := some .null) (oR Bd.returns) (hlocks := Bd.notSynchronized)
 refine ⟨_, _, pre0 _ ?_, hrun, hended, _, _, rfl, ?_, ⟨_, rfl⟩, hW, hsame.mono (by decide) (by decide)⟩
 ·show Steps p.tables e below (s₁.setTop (mkF m 0 #[vR ra, vU] [])) _
  refine XS.aloadN X0.here hx rfl (q d4_0) rfl rfl ?_
  refine st1 _ ?_
  refine XS.astoreN X1.here hx rfl (q d4_4) rfl rfl (l' := #[vR ra, .val .null]) rfl ?_
  refine XS.aloadN X1.here hx rfl (q d4_5) rfl rfl ?_
  refine XS.ifnonnullNo X1.here hx rfl (q d4_6) rfl ?_
  refine XS.aloadN X1.here hx rfl (q d4_9) rfl rfl ?_
  refine st2 _ ?_
  refine XS.aloadN X2.here hx rfl (q d4_13) rfl rfl ?_
  refine st3 _ ?_
  refine st4 _ ?_
  refine XS.astoreN X4.here hx rfl (q d4_20) rfl rfl (l' := #[vR ra, .val .null]) rfl ?_
  refine XS.aloadN X4.here hx rfl (q d4_21) rfl rfl ?_
  refine XS.aloadN X4.here hx rfl (q d4_22) rfl rfl ?_
  refine st11 _ ?_
  refine XS.aloadN X11.here hx rfl (q d4_26) rfl rfl ?_
  exact retOut X11 hx Bd.returns rfl (Or.inr (Or.inr (Or.inr (Or.inr ⟨rfl, rfl, rfl⟩)))) (q d4_27) hr
 ·show Q4z1 Z ra rp rl fp fl h0 n0 _ T11.heap _
  rw [e11]
  exact ⟨rfl, N11, K11, f12, f14, f15⟩
theorem ef_4k2 (m : MethodId) (ra : Addr) : entryFrame m #[(.ref ra)] 2 = mkF m 0 #[vR ra, .unset] [] := by first | (simp [entryFrame, mkF, argsToLocals, Value.category]; done) | rfl
def Q4k2 (Z : State) (ra : Addr) (rp : Addr) (rl : Addr) (fp : Nat → Int32) (fl : Nat → Int32) (h0 : Heap) (n0 : Nat) (v : Option Value) (h : Heap) (L : List Loc) : Prop := ∃ fr0 : Addr, n0 ≤ fr0 ∧ h0.size ≤ fr0 ∧ v = some (.ref fr0) ∧ Fr n0 L ∧ Keep h0 h [ra] ∧ Fld Z h ra cS1 "automaton" cS2 (.ref fr0) ∧ Fld Z h ra cS1 "pattern" "[B" (.ref rp) ∧ Fld Z h ra cS1 "links" "[I" (.ref rl)
set_option maxRecDepth 65536 in
set_option maxHeartbeats 40000000 in
theorem rm4k2 (l : Launch) (Z : State) (a0 : Array Value) (hw : ∀ d ∈ tables_1, d.before a0 Z = true) (ws : List Jvm.Cond) (ra : Addr) (rp : Addr) (rl : Addr) (fp : Nat → Int32) (fl : Nat → Int32) (h0 : Heap) (n0 : Nat) (Z0 : n0 ≤ h0.size) (E_ra : Exa Z h0 ra cS1) (F_automaton_ra : Fld Z h0 ra cS1 "automaton" cS2 .null) (F_pattern_ra : Fld Z h0 ra cS1 "pattern" "[B" (.ref rp)) (F_links_ra : Fld Z h0 ra cS1 "links" "[I" (.ref rl)) (A_rp : AI Z h0 rp .byte 2 fp) (A_rl : AI Z h0 rl .int 2 fl) (ne_rp_ra : rp ≠ ra) (ne_rl_ra : rl ≠ ra) (hfl : ∀ j, j < 2 → ∃ k : Nat, (fl j).toInt = (k : Int) ∧ k ≤ j) (g_ra : n0 ≤ ra) :
  MetFree l mN19 (head1 (Jvm.Cond.code mN19 prog_28_method_5_code 2 (some (.object cS0)) :: ws) ({ frames := 5, cells := 17, slots := 5426, locals := 88 } : Room)) (fun a U => a = #[(.ref ra)] ∧ Z.Warmed39 U.vm ∧ U.heap = h0) (fun _ _ _ _ _ => True) (fun _ U o U' => ∃ v L, o = .returned v ∧ Q4k2 Z ra rp rl fp fl h0 n0 v U'.heap L ∧ FrameEnd U o U' L ({ frames := 5, cells := 17, slots := 5426, locals := 88 } : Room).cells ({ frames := 5, cells := 17, slots := 5426, locals := 88 } : Room).slots) := by
 refine MetFree.of_bodySF (plainFor_of_name pn_skipstitch_search_LazyAutomaton) hisR ?_
 intro p e s m args below meth c s₁ Bd hml0 hP hK
 obtain ⟨rfl, hZ, hh⟩ := hP
 have hx := Bd.exec
 have hby := Bd.bytes
 have q {i : Nat} {r : _} (h : decode _ i = r) := hb hby h
 have hml : c.maxLocals = 2 := hml0
 have hown : s.vm.findClass cS1 = some m.cls := findClass_of_methodNamed Bd.named
 have hnm := (name_of_methodNamed Bd.named Bd.method).1
 have X0 : Stand p l e ({ frames := 5, cells := 17, slots := 5426, locals := 88 } : Room) s m #[(.ref ra)] below meth c s₁ [] 0 0 := Stand.of_body Bd
 have e0 : s₁.heap = h0 := by rw [← hh, Bd.state]; rfl
 have N0 := Fr.nil n0
 have K0 : Keep h0 h0 [ra] := Keep.refl h0 _
 have pre0 : oP p e below (s₁.setTop (mkF m 0 #[vR ra, vU] [])) (s₁.setTop (entryFrame m #[(.ref ra)] 2)) := fun t k => castTop (ef_4k2 m ra) k
 obtain ⟨T1, X1, e1, st1⟩ := getF X0 hx hZ hown (host := "") (Or.inl (ow hw 23 rfl)) Via.refl e0 F_automaton_ra (g := (mkF m 1 #[vR ra, vU] [(.ref ra)])) rfl rfl (q d4_1)
 obtain ⟨T2, X2, e2, st2⟩ := getF X1 hx hZ hown (host := "") (Or.inl (ow hw 14 rfl)) Via.refl e1 F_pattern_ra (g := (mkF m 10 #[vR ra, .val .null] [(.ref ra)])) rfl rfl (q d4_10)
 obtain ⟨T3, X3, e3, st3⟩ := getF X2 hx hZ hown (host := "") (Or.inl (ow hw 16 rfl)) Via.refl e2 F_links_ra (g := (mkF m 14 #[vR ra, .val .null] [(.ref ra), (.ref rp)])) rfl rfl (q d4_14)
 obtain ⟨_, _, ⟨T4, L4, k4, n4⟩, -, X4, ⟨Lc4, hQ4, l4, y4, z4⟩, st4⟩ := Jvm.LawKit.callS X3 hx (y := mN18) hown (om hZ hw 30 rfl) (om hZ hw 31 rfl) (om hZ hw 32 rfl) (om hZ hw 33 rfl) (by decide) (backOf (W := 0) (rm5k2 l Z a0 hw [] rp rl fp fl h0 n0 Z0 A_rp A_rl (hfl)) hZ (ow hw 33 rfl) (ow hw 32 rfl) (by decide) (by decide)) (g := (mkF m 17 #[vR ra, .val .null] [(.ref rl), (.ref rp)])) rfl (by rw [hml]; rfl) (argsL := [(.ref rp), (.ref rl)]) (rest := []) (lenOf pd_11 rfl) rfl (oz rfl) (q d4_17) (fun _ _ => ⟨rfl, e3, (by decide : 0 + 17 ≤ _), (by decide : 0 + 5426 ≤ _)⟩)
 dsimp only [Pt.U, Pt.locs, Pt.cells, Pt.slots] at X4 l4 y4 z4 st4 hQ4
 subst y4 z4
 obtain ⟨b5, ggb5, szb5, rfl, N4q, K4c⟩ := hQ4
 have N4 := oF l4 N0 N4q
 have zeb5 := Nat.le_trans K0.1 szb5
 have f9 := E_ra.keep K4c
 have f10 := F_automaton_ra.keep K4c nin0
 have f11 := F_pattern_ra.keep K4c nin0
 have f12 := F_links_ra.keep K4c nin0
 have K4 := K0.trans K4c all0
 obtain ⟨T15, h15, X15, e15, W15, st15⟩ := putF X4 hx hZ hown (host := "") (Or.inl (ow hw 23 rfl)) Via.refl rfl f10 f9 (Or.inl (ow hw 24 rfl)) (ow hw 4 rfl) (ty := (.object cS0)) (by decide) rfl rfl (g := (mkF m 23 #[vR ra, vR b5] [(.ref b5), (.ref ra)])) rfl rfl (q d4_23)
 have N15 := Fr.snoc X15 N4 g_ra
 have K15 := K4.wr W15 (Or.inl (List.mem_of_getElem? (i := 0) rfl))
 have f16 : Fld Z h15 ra cS1 "automaton" cS2 (.ref b5) := f10.same W15
 have f18 := f11.other W15 (Or.inr (slot_ne (Or.inr (ow hw 15 rfl)) (Or.inl (ow hw 24 rfl)) (by decide) (t := (.array .byte)) (t' := (.object cS0)) (by decide) (by decide)))
 have f19 := f12.other W15 (Or.inr (slot_ne (Or.inr (ow hw 17 rfl)) (Or.inl (ow hw 24 rfl)) (by decide) (t := (.array .int)) (t' := (.object cS0)) (by decide) (by decide)))
 obtain ⟨fs, hr, hrun, hended, hW, hsame⟩ := X15.leave (v := some (.ref b5)) (oR Bd.returns) (hlocks := Bd.notSynchronized)
 refine ⟨_, _, pre0 _ ?_, hrun, hended, _, _, rfl, ?_, ⟨_, rfl⟩, hW, hsame.mono (by decide) (by decide)⟩
 ·show Steps p.tables e below (s₁.setTop (mkF m 0 #[vR ra, vU] [])) _
  refine XS.aloadN X0.here hx rfl (q d4_0) rfl rfl ?_
  refine st1 _ ?_
  refine XS.astoreN X1.here hx rfl (q d4_4) rfl rfl (l' := #[vR ra, .val .null]) rfl ?_
  refine XS.aloadN X1.here hx rfl (q d4_5) rfl rfl ?_
  refine XS.ifnonnullNo X1.here hx rfl (q d4_6) rfl ?_
  refine XS.aloadN X1.here hx rfl (q d4_9) rfl rfl ?_
  refine st2 _ ?_
  refine XS.aloadN X2.here hx rfl (q d4_13) rfl rfl ?_
  refine st3 _ ?_
  refine st4 _ ?_
  refine XS.astoreN X4.here hx rfl (q d4_20) rfl rfl (l' := #[vR ra, vR b5]) rfl ?_
  refine XS.aloadN X4.here hx rfl (q d4_21) rfl rfl ?_
  refine XS.aloadN X4.here hx rfl (q d4_22) rfl rfl ?_
  refine st15 _ ?_
  refine XS.aloadN X15.here hx rfl (q d4_26) rfl rfl ?_
  exact retOut X15 hx Bd.returns rfl (Or.inr (Or.inr (Or.inr (Or.inr ⟨rfl, rfl, rfl⟩)))) (q d4_27) hr
 ·show Q4k2 Z ra rp rl fp fl h0 n0 _ T15.heap _
  rw [e15]
  exact ⟨b5, ggb5, zeb5, rfl, N15, K15, f16, f18, f19⟩
theorem ef_4k3 (m : MethodId) (ra : Addr) : entryFrame m #[(.ref ra)] 2 = mkF m 0 #[vR ra, .unset] [] := by first | (simp [entryFrame, mkF, argsToLocals, Value.category]; done) | rfl
def Q4k3 (Z : State) (ra : Addr) (rp : Addr) (rl : Addr) (fp : Nat → Int32) (fl : Nat → Int32) (h0 : Heap) (n0 : Nat) (v : Option Value) (h : Heap) (L : List Loc) : Prop := ∃ fr0 : Addr, n0 ≤ fr0 ∧ h0.size ≤ fr0 ∧ v = some (.ref fr0) ∧ Fr n0 L ∧ Keep h0 h [ra] ∧ Fld Z h ra cS1 "automaton" cS2 (.ref fr0) ∧ Fld Z h ra cS1 "pattern" "[B" (.ref rp) ∧ Fld Z h ra cS1 "links" "[I" (.ref rl)
set_option maxRecDepth 65536 in
set_option maxHeartbeats 40000000 in
theorem rm4k3 (l : Launch) (Z : State) (a0 : Array Value) (hw : ∀ d ∈ tables_1, d.before a0 Z = true) (ws : List Jvm.Cond) (ra : Addr) (rp : Addr) (rl : Addr) (fp : Nat → Int32) (fl : Nat → Int32) (h0 : Heap) (n0 : Nat) (Z0 : n0 ≤ h0.size) (E_ra : Exa Z h0 ra cS1) (F_automaton_ra : Fld Z h0 ra cS1 "automaton" cS2 .null) (F_pattern_ra : Fld Z h0 ra cS1 "pattern" "[B" (.ref rp)) (F_links_ra : Fld Z h0 ra cS1 "links" "[I" (.ref rl)) (A_rp : AI Z h0 rp .byte 3 fp) (A_rl : AI Z h0 rl .int 3 fl) (ne_rp_ra : rp ≠ ra) (ne_rl_ra : rl ≠ ra) (hfl : ∀ j, j < 3 → ∃ k : Nat, (fl j).toInt = (k : Int) ∧ k ≤ j) (g_ra : n0 ≤ ra) :
  MetFree l mN19 (head1 (Jvm.Cond.code mN19 prog_28_method_5_code 2 (some (.object cS0)) :: ws) ({ frames := 5, cells := 17, slots := 5434, locals := 88 } : Room)) (fun a U => a = #[(.ref ra)] ∧ Z.Warmed39 U.vm ∧ U.heap = h0) (fun _ _ _ _ _ => True) (fun _ U o U' => ∃ v L, o = .returned v ∧ Q4k3 Z ra rp rl fp fl h0 n0 v U'.heap L ∧ FrameEnd U o U' L ({ frames := 5, cells := 17, slots := 5434, locals := 88 } : Room).cells ({ frames := 5, cells := 17, slots := 5434, locals := 88 } : Room).slots) := by
 refine MetFree.of_bodySF (plainFor_of_name pn_skipstitch_search_LazyAutomaton) hisR ?_
 intro p e s m args below meth c s₁ Bd hml0 hP hK
 obtain ⟨rfl, hZ, hh⟩ := hP
 have hx := Bd.exec
 have hby := Bd.bytes
 have q {i : Nat} {r : _} (h : decode _ i = r) := hb hby h
 have hml : c.maxLocals = 2 := hml0
 have hown : s.vm.findClass cS1 = some m.cls := findClass_of_methodNamed Bd.named
 have hnm := (name_of_methodNamed Bd.named Bd.method).1
 have X0 : Stand p l e ({ frames := 5, cells := 17, slots := 5434, locals := 88 } : Room) s m #[(.ref ra)] below meth c s₁ [] 0 0 := Stand.of_body Bd
 have e0 : s₁.heap = h0 := by rw [← hh, Bd.state]; rfl
 have N0 := Fr.nil n0
 have K0 : Keep h0 h0 [ra] := Keep.refl h0 _
 have pre0 : oP p e below (s₁.setTop (mkF m 0 #[vR ra, vU] [])) (s₁.setTop (entryFrame m #[(.ref ra)] 2)) := fun t k => castTop (ef_4k3 m ra) k
 obtain ⟨T1, X1, e1, st1⟩ := getF X0 hx hZ hown (host := "") (Or.inl (ow hw 23 rfl)) Via.refl e0 F_automaton_ra (g := (mkF m 1 #[vR ra, vU] [(.ref ra)])) rfl rfl (q d4_1)
 obtain ⟨T2, X2, e2, st2⟩ := getF X1 hx hZ hown (host := "") (Or.inl (ow hw 14 rfl)) Via.refl e1 F_pattern_ra (g := (mkF m 10 #[vR ra, .val .null] [(.ref ra)])) rfl rfl (q d4_10)
 obtain ⟨T3, X3, e3, st3⟩ := getF X2 hx hZ hown (host := "") (Or.inl (ow hw 16 rfl)) Via.refl e2 F_links_ra (g := (mkF m 14 #[vR ra, .val .null] [(.ref ra), (.ref rp)])) rfl rfl (q d4_14)
 obtain ⟨_, _, ⟨T4, L4, k4, n4⟩, -, X4, ⟨Lc4, hQ4, l4, y4, z4⟩, st4⟩ := Jvm.LawKit.callS X3 hx (y := mN18) hown (om hZ hw 30 rfl) (om hZ hw 31 rfl) (om hZ hw 32 rfl) (om hZ hw 33 rfl) (by decide) (backOf (W := 0) (rm5k3 l Z a0 hw [] rp rl fp fl h0 n0 Z0 A_rp A_rl (hfl)) hZ (ow hw 33 rfl) (ow hw 32 rfl) (by decide) (by decide)) (g := (mkF m 17 #[vR ra, .val .null] [(.ref rl), (.ref rp)])) rfl (by rw [hml]; rfl) (argsL := [(.ref rp), (.ref rl)]) (rest := []) (lenOf pd_11 rfl) rfl (oz rfl) (q d4_17) (fun _ _ => ⟨rfl, e3, (by decide : 0 + 17 ≤ _), (by decide : 0 + 5434 ≤ _)⟩)
 dsimp only [Pt.U, Pt.locs, Pt.cells, Pt.slots] at X4 l4 y4 z4 st4 hQ4
 subst y4 z4
 obtain ⟨b5, ggb5, szb5, rfl, N4q, K4c⟩ := hQ4
 have N4 := oF l4 N0 N4q
 have zeb5 := Nat.le_trans K0.1 szb5
 have f9 := E_ra.keep K4c
 have f10 := F_automaton_ra.keep K4c nin0
 have f11 := F_pattern_ra.keep K4c nin0
 have f12 := F_links_ra.keep K4c nin0
 have K4 := K0.trans K4c all0
 obtain ⟨T15, h15, X15, e15, W15, st15⟩ := putF X4 hx hZ hown (host := "") (Or.inl (ow hw 23 rfl)) Via.refl rfl f10 f9 (Or.inl (ow hw 24 rfl)) (ow hw 4 rfl) (ty := (.object cS0)) (by decide) rfl rfl (g := (mkF m 23 #[vR ra, vR b5] [(.ref b5), (.ref ra)])) rfl rfl (q d4_23)
 have N15 := Fr.snoc X15 N4 g_ra
 have K15 := K4.wr W15 (Or.inl (List.mem_of_getElem? (i := 0) rfl))
 have f16 : Fld Z h15 ra cS1 "automaton" cS2 (.ref b5) := f10.same W15
 have f18 := f11.other W15 (Or.inr (slot_ne (Or.inr (ow hw 15 rfl)) (Or.inl (ow hw 24 rfl)) (by decide) (t := (.array .byte)) (t' := (.object cS0)) (by decide) (by decide)))
 have f19 := f12.other W15 (Or.inr (slot_ne (Or.inr (ow hw 17 rfl)) (Or.inl (ow hw 24 rfl)) (by decide) (t := (.array .int)) (t' := (.object cS0)) (by decide) (by decide)))
 obtain ⟨fs, hr, hrun, hended, hW, hsame⟩ := X15.leave (v := some (.ref b5)) (oR Bd.returns) (hlocks := Bd.notSynchronized)
 refine ⟨_, _, pre0 _ ?_, hrun, hended, _, _, rfl, ?_, ⟨_, rfl⟩, hW, hsame.mono (by decide) (by decide)⟩
 ·show Steps p.tables e below (s₁.setTop (mkF m 0 #[vR ra, vU] [])) _
  refine XS.aloadN X0.here hx rfl (q d4_0) rfl rfl ?_
  refine st1 _ ?_
  refine XS.astoreN X1.here hx rfl (q d4_4) rfl rfl (l' := #[vR ra, .val .null]) rfl ?_
  refine XS.aloadN X1.here hx rfl (q d4_5) rfl rfl ?_
  refine XS.ifnonnullNo X1.here hx rfl (q d4_6) rfl ?_
  refine XS.aloadN X1.here hx rfl (q d4_9) rfl rfl ?_
  refine st2 _ ?_
  refine XS.aloadN X2.here hx rfl (q d4_13) rfl rfl ?_
  refine st3 _ ?_
  refine st4 _ ?_
  refine XS.astoreN X4.here hx rfl (q d4_20) rfl rfl (l' := #[vR ra, vR b5]) rfl ?_
  refine XS.aloadN X4.here hx rfl (q d4_21) rfl rfl ?_
  refine XS.aloadN X4.here hx rfl (q d4_22) rfl rfl ?_
  refine st15 _ ?_
  refine XS.aloadN X15.here hx rfl (q d4_26) rfl rfl ?_
  exact retOut X15 hx Bd.returns rfl (Or.inr (Or.inr (Or.inr (Or.inr ⟨rfl, rfl, rfl⟩)))) (q d4_27) hr
 ·show Q4k3 Z ra rp rl fp fl h0 n0 _ T15.heap _
  rw [e15]
  exact ⟨b5, ggb5, zeb5, rfl, N15, K15, f16, f18, f19⟩
theorem ef_4r (m : MethodId) (ra : Addr) : entryFrame m #[(.ref ra)] 2 = mkF m 0 #[vR ra, .unset] [] := by first | (simp [entryFrame, mkF, argsToLocals, Value.category]; done) | rfl
def Q4r (Z : State) (ra : Addr) (rq : Addr) (h0 : Heap) (n0 : Nat) (v : Option Value) (h : Heap) (L : List Loc) : Prop := v = some (.ref rq) ∧ Fr n0 L ∧ h = h0
set_option maxRecDepth 65536 in
set_option maxHeartbeats 40000000 in
theorem rm4r (l : Launch) (Z : State) (a0 : Array Value) (hw : ∀ d ∈ tables_1, d.before a0 Z = true) (ws : List Jvm.Cond) (ra : Addr) (rq : Addr) (h0 : Heap) (n0 : Nat) (Z0 : n0 ≤ h0.size) (F_automaton_ra : Fld Z h0 ra cS1 "automaton" cS2 (.ref rq)) :
  MetFree l mN19 (head1 (Jvm.Cond.code mN19 prog_28_method_5_code 2 (some (.object cS0)) :: ws) ({ frames := 0, cells := 0, slots := 0, locals := 0 } : Room)) (fun a U => a = #[(.ref ra)] ∧ Z.Warmed39 U.vm ∧ U.heap = h0) (fun _ _ _ _ _ => True) (fun _ U o U' => ∃ v L, o = .returned v ∧ Q4r Z ra rq h0 n0 v U'.heap L ∧ FrameEnd U o U' L ({ frames := 0, cells := 0, slots := 0, locals := 0 } : Room).cells ({ frames := 0, cells := 0, slots := 0, locals := 0 } : Room).slots) := by
 refine MetFree.of_bodySF (plainFor_of_name pn_skipstitch_search_LazyAutomaton) hisR ?_
 intro p e s m args below meth c s₁ Bd hml0 hP hK
 obtain ⟨rfl, hZ, hh⟩ := hP
 have hx := Bd.exec
 have hby := Bd.bytes
 have q {i : Nat} {r : _} (h : decode _ i = r) := hb hby h
 have hml : c.maxLocals = 2 := hml0
 have hown : s.vm.findClass cS1 = some m.cls := findClass_of_methodNamed Bd.named
 have hnm := (name_of_methodNamed Bd.named Bd.method).1
 have X0 : Stand p l e ({ frames := 0, cells := 0, slots := 0, locals := 0 } : Room) s m #[(.ref ra)] below meth c s₁ [] 0 0 := Stand.of_body Bd
 have e0 : s₁.heap = h0 := by rw [← hh, Bd.state]; rfl
 have N0 := Fr.nil n0
 have pre0 : oP p e below (s₁.setTop (mkF m 0 #[vR ra, vU] [])) (s₁.setTop (entryFrame m #[(.ref ra)] 2)) := fun t k => castTop (ef_4r m ra) k
 obtain ⟨T1, X1, e1, st1⟩ := getF X0 hx hZ hown (host := "") (Or.inl (ow hw 23 rfl)) Via.refl e0 F_automaton_ra (g := (mkF m 1 #[vR ra, vU] [(.ref ra)])) rfl rfl (q d4_1)
 obtain ⟨fs, hr, hrun, hended, hW, hsame⟩ := X1.leave (v := some (.ref rq)) (oR Bd.returns) (hlocks := Bd.notSynchronized)
 refine ⟨_, _, pre0 _ ?_, hrun, hended, _, _, rfl, ?_, ⟨_, rfl⟩, hW, hsame.mono (by decide) (by decide)⟩
 ·show Steps p.tables e below (s₁.setTop (mkF m 0 #[vR ra, vU] [])) _
  refine XS.aloadN X0.here hx rfl (q d4_0) rfl rfl ?_
  refine st1 _ ?_
  refine XS.astoreN X1.here hx rfl (q d4_4) rfl rfl (l' := #[vR ra, vR rq]) rfl ?_
  refine XS.aloadN X1.here hx rfl (q d4_5) rfl rfl ?_
  refine XS.ifnonnullYes X1.here hx rfl (pc0 := 6) (pc' := 26) rfl (q d4_6) rfl (by decide) (by decide) ?_
  refine XS.aloadN X1.here hx rfl (q d4_26) rfl rfl ?_
  exact retOut X1 hx Bd.returns rfl (Or.inr (Or.inr (Or.inr (Or.inr ⟨rfl, rfl, rfl⟩)))) (q d4_27) hr
 ·show Q4r Z ra rq h0 n0 _ T1.heap _
  rw [e1]
  exact ⟨rfl, N0, rfl⟩
theorem own_n (nv : Int32) : ((1 : Int32) + ((nv &&& (2147483647 : Int32)) % (3 : Int32))) = (1 : Int32) ∨ ((1 : Int32) + ((nv &&& (2147483647 : Int32)) % (3 : Int32))) = (2 : Int32) ∨ ((1 : Int32) + ((nv &&& (2147483647 : Int32)) % (3 : Int32))) = (3 : Int32) := by
 have : 0 ≤ (nv &&& (2147483647 : Int32)).toInt ∧ (nv &&& (2147483647 : Int32)).toInt ≤ 2147483647 := c_and nv (2147483647 : Int32) (by decide)
 generalize (nv &&& (2147483647 : Int32)) = u1_ at *
 first | have : (u1_ % (3 : Int32)).toInt = u1_.toInt % 3 := (c_irem u1_ (3 : Int32) 3 rfl).1 (by omega) | (have := c_irem u1_ (3 : Int32) 3 rfl; have := rng32 (u1_ % (3 : Int32)))
 generalize (u1_ % (3 : Int32)) = u2_ at *
 first | have : ((1 : Int32) + u2_).toInt = 1 + u2_.toInt := own_iadd rfl rfl (by omega) (by omega) | (have := c_iadd (1 : Int32) u2_; simp only [Int32.reduceToInt, Int64.reduceToInt] at this; have := rng32 ((1 : Int32) + u2_))
 generalize ((1 : Int32) + u2_) = u3_ at *
 try simp only [Int32.reduceToInt, Int64.reduceToInt] at *
 simp only [← Int32.toInt_inj, Int32.reduceToInt, Int64.reduceToInt]
 omega
theorem own_l2 {x : Int32} (hx : x = (0 : Int32) ∨ x = (1 : Int32)) : ∀ j, j < 2 → ∃ k : Nat, (up (up zI 0 (0 : Int32)) 1 x j).toInt = (k : Int) ∧ k ≤ j := by
 intro j hj
 have hc : j = 0 ∨ j = 1 := by omega
 rcases hc with rfl | rfl
 ·exact ⟨0, rfl, Nat.le_refl _⟩
 ·rcases hx with rfl | rfl
  ·exact ⟨0, rfl, by decide⟩
  ·exact ⟨1, rfl, by decide⟩
theorem own_l3 {x y : Int32} (hx : x = (0 : Int32) ∨ x = (1 : Int32)) (hy : y = (0 : Int32) ∨ y = (1 : Int32) ∨ y = (2 : Int32)) : ∀ j, j < 3 → ∃ k : Nat, (up (up (up zI 0 (0 : Int32)) 1 x) 2 y j).toInt = (k : Int) ∧ k ≤ j := by
 intro j hj
 have hc : j = 0 ∨ j = 1 ∨ j = 2 := by omega
 rcases hc with rfl | rfl | rfl
 ·exact ⟨0, rfl, Nat.le_refl _⟩
 ·rcases hx with rfl | rfl
  ·exact ⟨0, rfl, by decide⟩
  ·exact ⟨1, rfl, by decide⟩
 ·rcases hy with rfl | rfl | rfl
  ·exact ⟨0, rfl, by decide⟩
  ·exact ⟨1, rfl, by decide⟩
  ·exact ⟨2, rfl, by decide⟩
theorem ef_0 (m : MethodId) (nv : Int32) (va : Int32) (vb : Int32) (vc : Int32) (fg : Int32) : entryFrame m #[(.int nv), (.int va), (.int vb), (.int vc), (.int fg)] maxLocals = mkF m 0 #[vI nv, vI va, vI vb, vI vc, vI fg, .unset, .unset, .unset, .unset, .unset, .unset, .unset, .unset, .unset, .unset, .unset] [] := by first | (simp [entryFrame, mkF, argsToLocals, Value.category, maxLocals]; done) | rfl
theorem pd_12 : parseMethodDescriptor "([B[I)V" = some ⟨[(.array .byte), (.array .int)], none⟩ := by decide +kernel
theorem pd_13 : parseMethodDescriptor "()Z" = some ⟨[], some .boolean⟩ := by decide +kernel
theorem pd_14 : parseMethodDescriptor "()J" = some ⟨[], some .long⟩ := by decide +kernel
theorem pd_15 : parseMethodDescriptor "()Lskipstitch/search/Automaton;" = some ⟨[], some (.object cS0)⟩ := by decide +kernel
def j0_60_s0 (va : Int32) (vb : Int32) : Int32 := (if (va.toInt8.toInt32) = (vb.toInt8.toInt32) then (1 : Int32) else (0 : Int32))
def j0_85_a0 (va : Int32) (vb : Int32) (vc : Int32) : Nat → Int32 := (if (va.toInt8.toInt32) = (vb.toInt8.toInt32) then (if (vb.toInt8.toInt32) = (vc.toInt8.toInt32) then (up (up (up zI 0 (0 : Int32)) 1 (j0_60_s0 va vb)) 2 (2 : Int32)) else (if (vc.toInt8.toInt32) = (va.toInt8.toInt32) then (up (up (up zI 0 (0 : Int32)) 1 (j0_60_s0 va vb)) 2 (1 : Int32)) else (up (up (up zI 0 (0 : Int32)) 1 (j0_60_s0 va vb)) 2 (0 : Int32)))) else (if (vc.toInt8.toInt32) = (va.toInt8.toInt32) then (up (up (up zI 0 (0 : Int32)) 1 (j0_60_s0 va vb)) 2 (1 : Int32)) else (up (up (up zI 0 (0 : Int32)) 1 (j0_60_s0 va vb)) 2 (0 : Int32))))
theorem pn_skipstitch_search_LazyAutomatonWorkedOutPinLaw : plainName "skipstitch/search/LazyAutomatonWorkedOutPinLaw" = true := by first | (simp [plainName, overriddenIn]; done) | decide +kernel
theorem own_j60 (va vb : Int32) : j0_60_s0 va vb = (0 : Int32) ∨ j0_60_s0 va vb = (1 : Int32) := by
 unfold j0_60_s0
 split
 ·exact Or.inr rfl
 ·exact Or.inl rfl
theorem own_l85 (va vb vc : Int32) : ∀ j, j < 3 → ∃ k : Nat, (j0_85_a0 va vb vc j).toInt = (k : Int) ∧ k ≤ j := by
 unfold j0_85_a0
 repeat' split
 all_goals exact own_l3 (own_j60 va vb) (by decide)
def Q0 (Z : State) (nv : Int32) (va : Int32) (vb : Int32) (vc : Int32) (fg : Int32) (h0 : Heap) (n0 : Nat) (v : Option Value) (h : Heap) (L : List Loc) : Prop := v = some (.int 1) ∧ Fr n0 L
set_option maxRecDepth 65536 in
set_option maxHeartbeats 40000000 in
theorem rm0 (l : Launch) (Z : State) (a0 : Array Value) (hw : ∀ d ∈ tables_1, d.before a0 Z = true) (ws : List Jvm.Cond) (nv : Int32) (va : Int32) (vb : Int32) (vc : Int32) (fg : Int32) (h0 : Heap) (n0 : Nat) (Z0 : n0 ≤ h0.size) :
  MetFree l x (head1 (Jvm.Cond.code x code maxLocals ret :: ws) room_1) (fun a U => a = #[(.int nv), (.int va), (.int vb), (.int vc), (.int fg)] ∧ Z.Warmed39 U.vm ∧ U.heap = h0) (fun _ _ _ _ _ => True) (fun _ U o U' => ∃ v L, o = .returned v ∧ Q0 Z nv va vb vc fg h0 n0 v U'.heap L ∧ FrameEnd U o U' L room_1.cells room_1.slots) := by
 refine MetFree.of_bodySF (plainFor_of_name pn_skipstitch_search_LazyAutomatonWorkedOutPinLaw) hisR ?_
 intro p e s m args below meth c s₁ Bd hml0 hP hK
 obtain ⟨rfl, hZ, hh⟩ := hP
 have hx := Bd.exec
 have hby := Bd.bytes
 have q {i : Nat} {r : _} (h : decode _ i = r) := hb hby h
 have hml : c.maxLocals = 16 := hml0
 have hown : s.vm.findClass "skipstitch/search/LazyAutomatonWorkedOutPinLaw" = some m.cls := findClass_of_methodNamed Bd.named
 have hnm := (name_of_methodNamed Bd.named Bd.method).1
 have X0 : Stand p l e room_1 s m #[(.int nv), (.int va), (.int vb), (.int vc), (.int fg)] below meth c s₁ [] 0 0 := Stand.of_body Bd
 have e0 : s₁.heap = h0 := by rw [← hh, Bd.state]; rfl
 have N0 := Fr.nil n0
 have pre0 : oP p e below (s₁.setTop (mkF m 0 #[vI nv, vI va, vI vb, vI vc, vI fg, vU, vU, vU, vU, vU, vU, vU, vU, vU, vU, vU] [])) (s₁.setTop (entryFrame m #[(.int nv), (.int va), (.int vb), (.int vc), (.int fg)] maxLocals)) := fun t k => castTop (ef_0 m nv va vb vc fg) k
 have pre1 : oP p e below (s₁.setTop (mkF m 8 #[vI nv, vI va, vI vb, vI vc, vI fg, vU, vU, vU, vU, vU, vU, vU, vU, vU, vU, vU] [(.int ((1 : Int32) + ((nv &&& (2147483647 : Int32)) % (3 : Int32))))])) (s₁.setTop (entryFrame m #[(.int nv), (.int va), (.int vb), (.int vc), (.int fg)] maxLocals)) := by
  intro t k
  refine pre0 _ ?_
  refine XS.iconst X0.here hx rfl (q at_0) ?_
  refine XS.iloadN X0.here hx rfl (q at_1) rfl ?_
  refine X0.ldcInt hx hown (om hZ hw 0 rfl) (g := (mkF m 2 #[vI nv, vI va, vI vb, vI vc, vI fg, vU, vU, vU, vU, vU, vU, vU, vU, vU, vU, vU] [(.int nv), (.int 1)])) rfl (q at_2) _ ?_
  refine XS.iand X0.here hx rfl (q at_4) rfl ?_
  refine XS.iconst X0.here hx rfl (q at_5) ?_
  refine iremM X0 hx rfl (q at_6) rfl (by decide) ?_
  refine XS.iadd X0.here hx rfl (q at_7) rfl ?_
  exact k
 rcases own_n nv with hk2 | hk2 | hk2
 ·have pre3 : oP p e below (s₁.setTop (mkF m 8 #[vI nv, vI va, vI vb, vI vc, vI fg, vU, vU, vU, vU, vU, vU, vU, vU, vU, vU, vU] [(.int 1)])) (s₁.setTop (entryFrame m #[(.int nv), (.int va), (.int vb), (.int vc), (.int fg)] maxLocals)) := by
   intro t k
   refine pre1 _ ?_
   rw [hk2]
   exact k
  obtain ⟨T4, h4, k4, X4, e4, E4, A4, st4⟩ := newP X0 hx hZ (ow hw 1 rfl) e0 (g := (mkF m 24 #[vI nv, vI va, vI vb, vI vc, vI fg, vI 1, vI (va.toInt8.toInt32), vI (vb.toInt8.toInt32), vI (vc.toInt8.toInt32), vU, vU, vU, vU, vU, vU, vU] [(.int 1)])) rfl (q at_24) rfl (by decide) (cap := 1) (by decide) (by decide) (by decide) (by decide)
  obtain ⟨b4, g4⟩ : ∃ z, z = h0.size := ⟨_, rfl⟩
  rw [← g4] at A4 st4
  have gg4 := oL Z0 g4
  have Z4 := Nat.le_trans Z0 E4.1
  have f5 : AI Z h4 b4 .byte 1 zI := AF.new A4 (by decide)
  obtain ⟨T6, h6, k6, X6, e6, E6, A6, st6⟩ := newP X4 hx hZ (ow hw 2 rfl) e4 (g := (mkF m 30 #[vI nv, vI va, vI vb, vI vc, vI fg, vI 1, vI (va.toInt8.toInt32), vI (vb.toInt8.toInt32), vI (vc.toInt8.toInt32), vR b4, vU, vU, vU, vU, vU, vU] [(.int 1)])) rfl (q at_30) rfl (by decide) (cap := 1) (by decide) (by decide) (by decide) (by decide)
  obtain ⟨b6, g6⟩ : ∃ z, z = h4.size := ⟨_, rfl⟩
  rw [← g6] at A6 st6
  have ne7 := oN f5.lt g6
  have gg6 := oL Z4 g6
  have f8 := f5.ext E6
  have Z6 := Nat.le_trans Z4 E6.1
  have f9 : AI Z h6 b6 .int 1 zI := AF.new A6 (by decide)
  obtain ⟨cl10, Arcl10, hincl10, -⟩ := AF.at f8 (j := (0 : Int32)) 0 (by decide) (by decide)
  obtain ⟨T11, h11, X11, e11, W11, st11⟩ := stB X6 hx hZ e6 Arcl10 (j := (0 : Int32)) hincl10 (g := (mkF m 39 #[vI nv, vI va, vI vb, vI vc, vI fg, vI 1, vI (va.toInt8.toInt32), vI (vb.toInt8.toInt32), vI (vc.toInt8.toInt32), vR b4, vR b6, vU, vU, vU, vU, vU] [(.int (va.toInt8.toInt32)), (.int 0), (.ref b4)])) rfl rfl (q at_39)
  rw [own_nb] at W11
  have N11 := Fr.snoc X11 N0 gg4
  have Z11 := Nat.le_trans Z6 (Keep.of_wr W11).1
  have f12 : AI Z h11 b4 .byte 1 (up zI 0 (va.toInt8.toInt32)) := AF.setI f8 W11 0 (by decide)
  have f13 := f9.other W11 (Ne.symm ne7)
  obtain ⟨cl14, Arcl14, hincl14, -⟩ := AF.at f13 (j := (0 : Int32)) 0 (by decide) (by decide)
  obtain ⟨T15, h15, X15, e15, W15, st15⟩ := stI X11 hx hZ e11 Arcl14 (j := (0 : Int32)) hincl14 (g := (mkF m 44 #[vI nv, vI va, vI vb, vI vc, vI fg, vI 1, vI (va.toInt8.toInt32), vI (vb.toInt8.toInt32), vI (vc.toInt8.toInt32), vR b4, vR b6, vU, vU, vU, vU, vU] [(.int 0), (.int 0), (.ref b6)])) rfl rfl (q at_44)
  have N15 := Fr.snoc X15 N11 gg6
  have Z15 := Nat.le_trans Z11 (Keep.of_wr W15).1
  have f16 : AI Z h15 b6 .int 1 (up zI 0 (0 : Int32)) := AF.setI f13 W15 0 (by decide)
  have f17 := f12.other W15 ne7
  obtain ⟨T18, h18, X18, e18, E18, A18, D18, -, st18⟩ := newO X15 hx hZ hown (ow hw 3 rfl) (ow hw 4 rfl) (ow hw 5 rfl) e15 (g := (mkF m 127 #[vI nv, vI va, vI vb, vI vc, vI fg, vI 1, vI (va.toInt8.toInt32), vI (vb.toInt8.toInt32), vI (vc.toInt8.toInt32), vR b4, vR b6, vU, vU, vU, vU, vU] [])) rfl (q at_127) (by decide) (by decide)
  obtain ⟨b18, g18⟩ : ∃ z, z = h15.size := ⟨_, rfl⟩
  rw [← g18] at A18 D18 st18
  have ne19 := oN f17.lt g18
  have ne20 := oN f16.lt g18
  have gg18 := oL Z15 g18
  have f21 := f17.ext E18
  have f22 := f16.ext E18
  have Z18 := Nat.le_trans Z15 E18.1
  have f23 : Fld Z h18 b18 cS1 "width" "I" (.int 0) := D18 (Or.inl (ow hw 13 rfl)) (ty := .int) (by decide)
  have f24 : Fld Z h18 b18 cS1 "pattern" "[B" .null := D18 (Or.inr (ow hw 15 rfl)) (ty := (.array .byte)) (by decide)
  have f25 : Fld Z h18 b18 cS1 "links" "[I" .null := D18 (Or.inr (ow hw 17 rfl)) (ty := (.array .int)) (by decide)
  have f26 : Fld Z h18 b18 cS1 "automaton" cS2 .null := D18 (Or.inl (ow hw 24 rfl)) (ty := (.object cS0)) (by decide)
  obtain ⟨_, _, ⟨T27, L27, k27, n27⟩, -, X27, ⟨Lc27, hQ27, l27, y27, z27⟩, st27⟩ := X18.specialBack hx (y := mN8) rfl hown (om hZ hw 6 rfl) (om hZ hw 7 rfl) (om hZ hw 8 rfl) (by decide) (backOf (W := 1) (rm1 l Z a0 hw [] b18 b4 b6 h18 n0 Z18 A18 f26 f23 f24 f25 gg18) hZ (ow hw 8 rfl) (ow hw 5 rfl) (by decide) (by decide)) (g := (mkF m 135 #[vI nv, vI va, vI vb, vI vc, vI fg, vI 1, vI (va.toInt8.toInt32), vI (vb.toInt8.toInt32), vI (vc.toInt8.toInt32), vR b4, vR b6, vU, vU, vU, vU, vU] [(.ref b6), (.ref b4), (.ref b18), (.ref b18)])) rfl (by rw [hml]; rfl) (Steps.refl _) (a := b18) (argsL := [(.ref b4), (.ref b6)]) (rest := [(.ref b18)]) (lenOf pd_12 rfl) rfl (oz rfl) (q at_135) (fun _ _ => ⟨rfl, e18, (by decide : 3 + 0 ≤ _), (by decide : 6 + 0 ≤ _)⟩)
  dsimp only [Pt.U, Pt.locs, Pt.cells, Pt.slots] at X27 l27 y27 z27 st27 hQ27
  subst y27 z27
  obtain ⟨rfl, N27q, K27c, f28, f29, f30, f31⟩ := hQ27
  have N27 := oF l27 N15 N27q
  have f32 := f21.keep K27c (ninS ne19 nin0)
  have f33 := f22.keep K27c (ninS ne20 nin0)
  have f34 := A18.keep K27c
  have Z27 := Nat.le_trans Z18 K27c.1
  obtain ⟨cq35, kq35, q35a, q35b, q35c⟩ := isOf hZ rfl f34
  obtain ⟨_, _, ⟨T35, L35, k35, n35⟩, -, X35, ⟨Lc35, hQ35, l35, y35, z35⟩, st35⟩ := X27.virtualBack hx (y := mN9) (z := mN9) hown (om hZ hw 18 rfl) (om hZ hw 19 rfl) (notFace_of_selects (args := #[]) (om hZ hw 21 rfl)) (om hZ hw 21 rfl) (om hZ hw 20 rfl) (by decide) (backOf (W := 0) (rm3z l Z a0 hw [] b18 T27.heap n0 Z27 f28) hZ (ow hw 22 rfl) (ow hw 5 rfl) (by decide) (by decide)) q35a q35c (g := (mkF m 142 #[vI nv, vI va, vI vb, vI vc, vI fg, vI 1, vI (va.toInt8.toInt32), vI (vb.toInt8.toInt32), vI (vc.toInt8.toInt32), vR b4, vR b6, vR b18, vU, vU, vU, vU] [(.ref b18)])) rfl (by rw [hml]; rfl) (Steps.refl _) (argsL := []) (rest := []) (lenOf pd_13 rfl) rfl (oz rfl) (q at_142) (fun _ _ => ⟨rfl, rfl, (by decide : 3 + 0 ≤ _), (by decide : 6 + 0 ≤ _)⟩)
  dsimp only [Pt.U, Pt.locs, Pt.cells, Pt.slots] at X35 l35 y35 z35 st35 hQ35
  subst y35 z35
  obtain ⟨rfl, N35q, e35⟩ := hQ35
  have N35 := oF l35 N27 N35q
  have pre36 : oP p e below (T35.setTop (mkF m 155 #[vI nv, vI va, vI vb, vI vc, vI fg, vI 1, vI (va.toInt8.toInt32), vI (vb.toInt8.toInt32), vI (vc.toInt8.toInt32), vR b4, vR b6, vR b18, vI 1, vU, vU, vU] [])) (s₁.setTop (entryFrame m #[(.int nv), (.int va), (.int vb), (.int vc), (.int fg)] maxLocals)) := by
   intro t k
   refine pre3 _ ?_
   refine XS.istore X0.here hx rfl (q at_8) rfl (l' := #[vI nv, vI va, vI vb, vI vc, vI fg, vI 1, vU, vU, vU, vU, vU, vU, vU, vU, vU, vU]) rfl ?_
   refine XS.iloadN X0.here hx rfl (q at_10) rfl ?_
   refine XS.i2b X0.here hx rfl (q at_11) rfl ?_
   refine XS.istore X0.here hx rfl (q at_12) rfl (l' := #[vI nv, vI va, vI vb, vI vc, vI fg, vI 1, vI (va.toInt8.toInt32), vU, vU, vU, vU, vU, vU, vU, vU, vU]) rfl ?_
   refine XS.iloadN X0.here hx rfl (q at_14) rfl ?_
   refine XS.i2b X0.here hx rfl (q at_15) rfl ?_
   refine XS.istore X0.here hx rfl (q at_16) rfl (l' := #[vI nv, vI va, vI vb, vI vc, vI fg, vI 1, vI (va.toInt8.toInt32), vI (vb.toInt8.toInt32), vU, vU, vU, vU, vU, vU, vU, vU]) rfl ?_
   refine XS.iloadN X0.here hx rfl (q at_18) rfl ?_
   refine XS.i2b X0.here hx rfl (q at_19) rfl ?_
   refine XS.istore X0.here hx rfl (q at_20) rfl (l' := #[vI nv, vI va, vI vb, vI vc, vI fg, vI 1, vI (va.toInt8.toInt32), vI (vb.toInt8.toInt32), vI (vc.toInt8.toInt32), vU, vU, vU, vU, vU, vU, vU]) rfl ?_
   refine XS.iload X0.here hx rfl (q at_22) rfl ?_
   refine st4 _ ?_
   refine XS.astore X4.here hx rfl (q at_26) rfl rfl (l' := #[vI nv, vI va, vI vb, vI vc, vI fg, vI 1, vI (va.toInt8.toInt32), vI (vb.toInt8.toInt32), vI (vc.toInt8.toInt32), vR b4, vU, vU, vU, vU, vU, vU]) rfl ?_
   refine XS.iload X4.here hx rfl (q at_28) rfl ?_
   refine st6 _ ?_
   refine XS.astore X6.here hx rfl (q at_32) rfl rfl (l' := #[vI nv, vI va, vI vb, vI vc, vI fg, vI 1, vI (va.toInt8.toInt32), vI (vb.toInt8.toInt32), vI (vc.toInt8.toInt32), vR b4, vR b6, vU, vU, vU, vU, vU]) rfl ?_
   refine XS.aload X6.here hx rfl (q at_34) rfl rfl ?_
   refine XS.iconst X6.here hx rfl (q at_36) ?_
   refine XS.iload X6.here hx rfl (q at_37) rfl ?_
   refine st11 _ ?_
   refine XS.aload X11.here hx rfl (q at_40) rfl rfl ?_
   refine XS.iconst X11.here hx rfl (q at_42) ?_
   refine XS.iconst X11.here hx rfl (q at_43) ?_
   refine st15 _ ?_
   refine XS.iload X15.here hx rfl (q at_45) rfl ?_
   refine XS.iconst X15.here hx rfl (q at_47) ?_
   refine XS.icmpYes X15.here hx rfl (pc0 := 48) (pc' := 73) rfl (q at_48) rfl (tlt (by decide : ((1 : Int32) < (2 : Int32)))).1 (by decide) (by decide) ?_
   refine XS.iload X15.here hx rfl (q at_73) rfl ?_
   refine XS.iconst X15.here hx rfl (q at_75) ?_
   refine XS.icmpYes X15.here hx rfl (pc0 := 76) (pc' := 127) rfl (q at_76) rfl (tlt (by decide : ((1 : Int32) < (3 : Int32)))).1 (by decide) (by decide) ?_
   refine st18 _ ?_
   refine XS.dup X18.here hx rfl (q at_130) rfl rfl ?_
   refine XS.aload X18.here hx rfl (q at_131) rfl rfl ?_
   refine XS.aload X18.here hx rfl (q at_133) rfl rfl ?_
   refine st27.trans ?_
   refine XS.astore X27.here hx rfl (q at_138) rfl rfl (l' := #[vI nv, vI va, vI vb, vI vc, vI fg, vI 1, vI (va.toInt8.toInt32), vI (vb.toInt8.toInt32), vI (vc.toInt8.toInt32), vR b4, vR b6, vR b18, vU, vU, vU, vU]) rfl ?_
   refine XS.aload X27.here hx rfl (q at_140) rfl rfl ?_
   refine st35.trans ?_
   refine XS.ifNo X35.here hx rfl (q at_145) rfl ((if0 _ _).trans (teq (by decide : ((0 : Int32) = (0 : Int32)))).2) ?_
   refine XS.iconst X35.here hx rfl (q at_148) ?_
   refine XS.goto X35.here hx rfl (pc0 := 149) (pc' := 153) rfl (q at_149) (by decide) (by decide) ?_
   refine XS.istore X35.here hx rfl (q at_153) rfl (l' := #[vI nv, vI va, vI vb, vI vc, vI fg, vI 1, vI (va.toInt8.toInt32), vI (vb.toInt8.toInt32), vI (vc.toInt8.toInt32), vR b4, vR b6, vR b18, vI 1, vU, vU, vU]) rfl ?_
   exact k
  obtain ⟨T51, h51, Lo51, X51, e51, N51, KJ51, fj51_0, fj51_1, fj51_2, pre51⟩ : ∃ (T' : State) (h' : Heap) (lo : List Loc), Stand p l e room_1 s m #[(.int nv), (.int va), (.int vb), (.int vc), (.int fg)] below meth c T' lo 4 10 ∧ T'.heap = h' ∧ Fr n0 lo ∧ Keep T27.heap h' [b18] ∧ Fld Z h' b18 cS1 "automaton" cS2 .null ∧ Fld Z h' b18 cS1 "pattern" "[B" (.ref b4) ∧ Fld Z h' b18 cS1 "links" "[I" (.ref b6) ∧ ∀ t, Steps p.tables e below (T'.setTop (mkF m 188 #[vI nv, vI va, vI vb, vI vc, vI fg, vI 1, vI (va.toInt8.toInt32), vI (vb.toInt8.toInt32), vI (vc.toInt8.toInt32), vR b4, vR b6, vR b18, vI 1, vU, vU, vU] [])) t → Steps p.tables e below (s₁.setTop (entryFrame m #[(.int nv), (.int va), (.int vb), (.int vc), (.int fg)] maxLocals)) t := by
   have pre38 : oP p e below (T35.setTop (mkF m 159 #[vI nv, vI va, vI vb, vI vc, vI fg, vI 1, vI (va.toInt8.toInt32), vI (vb.toInt8.toInt32), vI (vc.toInt8.toInt32), vR b4, vR b6, vR b18, vI 1, vU, vU, vU] [(.int (fg &&& (1 : Int32)))])) (s₁.setTop (entryFrame m #[(.int nv), (.int va), (.int vb), (.int vc), (.int fg)] maxLocals)) := by
    intro t k
    refine pre36 _ ?_
    refine XS.iload X35.here hx rfl (q at_155) rfl ?_
    refine XS.iconst X35.here hx rfl (q at_157) ?_
    refine XS.iand X35.here hx rfl (q at_158) rfl ?_
    exact k
   by_cases hk39 : (fg &&& (1 : Int32)) = (0 : Int32)
   ·have pre40 : oP p e below (T35.setTop (mkF m 188 #[vI nv, vI va, vI vb, vI vc, vI fg, vI 1, vI (va.toInt8.toInt32), vI (vb.toInt8.toInt32), vI (vc.toInt8.toInt32), vR b4, vR b6, vR b18, vI 1, vU, vU, vU] [])) (s₁.setTop (entryFrame m #[(.int nv), (.int va), (.int vb), (.int vc), (.int fg)] maxLocals)) := by
     intro t k
     refine pre38 _ ?_
     refine XS.ifYes X35.here hx rfl (pc0 := 159) (pc' := 188) rfl (q at_159) rfl ((if0 _ _).trans (teq hk39).1) (by decide) (by decide) ?_
     exact k
    exact ⟨_, _, _, X35.mono (by decide) (by decide), e35, N35, (Keep.refl T27.heap _), f28, f30, f31, fun t k => pre40 _ (by exact k)⟩
   ·obtain ⟨cq41, kq41, q41a, q41b, q41c⟩ := isOf hZ e35 f34
    obtain ⟨_, _, ⟨T41, L41, k41, n41⟩, -, X41, ⟨Lc41, hQ41, l41, y41, z41⟩, st41⟩ := X35.virtualBack hx (y := mN6) (z := mN6) hown (om hZ hw 51 rfl) (om hZ hw 52 rfl) (notFace_of_selects (args := #[]) (om hZ hw 54 rfl)) (om hZ hw 54 rfl) (om hZ hw 53 rfl) (by decide) (backOf (W := 0) (rm10k1 l Z a0 hw [] b18 b4 b6 (up zI 0 (va.toInt8.toInt32)) T27.heap n0 Z27 f34 f30 f29 f31 f28 f32 ne19 gg18) hZ (ow hw 55 rfl) (ow hw 5 rfl) (by decide) (by decide)) q41a q41c (g := (mkF m 164 #[vI nv, vI va, vI vb, vI vc, vI fg, vI 1, vI (va.toInt8.toInt32), vI (vb.toInt8.toInt32), vI (vc.toInt8.toInt32), vR b4, vR b6, vR b18, vI 1, vU, vU, vU] [(.ref b18)])) rfl (by rw [hml]; rfl) (Steps.refl _) (argsL := []) (rest := []) (lenOf pd_5 rfl) rfl (oz rfl) (q at_164) (fun _ _ => ⟨rfl, e35, (by decide : 3 + 1 ≤ _), (by decide : 6 + 4 ≤ _)⟩)
    dsimp only [Pt.U, Pt.locs, Pt.cells, Pt.slots] at X41 l41 y41 z41 st41 hQ41
    subst y41 z41
    obtain ⟨rfl, N41q, K41c, f42, f43, f44, f45⟩ := hQ41
    have N41 := oF l41 N35 N41q
    have f48 := f34.keep K41c
    have Z41 := Nat.le_trans Z27 K41c.1
    have KG41 : Keep T27.heap T41.heap [b18] := (Keep.refl T27.heap _).trans K41c (allS (Or.inl (List.mem_of_getElem? (i := 0) rfl)) all0)
    obtain ⟨cq49, kq49, q49a, q49b, q49c⟩ := isOf hZ rfl f48
    obtain ⟨_, _, ⟨T49, L49, k49, n49⟩, -, X49, ⟨Lc49, hQ49, l49, y49, z49⟩, st49⟩ := X41.virtualBack hx (y := mN9) (z := mN9) hown (om hZ hw 18 rfl) (om hZ hw 19 rfl) (notFace_of_selects (args := #[]) (om hZ hw 21 rfl)) (om hZ hw 21 rfl) (om hZ hw 20 rfl) (by decide) (backOf (W := 0) (rm3z l Z a0 hw [] b18 T41.heap n0 Z41 f45) hZ (ow hw 22 rfl) (ow hw 5 rfl) (by decide) (by decide)) q49a q49c (g := (mkF m 175 #[vI nv, vI va, vI vb, vI vc, vI fg, vI 1, vI (va.toInt8.toInt32), vI (vb.toInt8.toInt32), vI (vc.toInt8.toInt32), vR b4, vR b6, vR b18, vI 1, vU, vU, vU] [(.ref b18)])) rfl (by rw [hml]; rfl) (Steps.refl _) (argsL := []) (rest := []) (lenOf pd_13 rfl) rfl (oz rfl) (q at_175) (fun _ _ => ⟨rfl, rfl, (by decide : 4 + 0 ≤ _), (by decide : 10 + 0 ≤ _)⟩)
    dsimp only [Pt.U, Pt.locs, Pt.cells, Pt.slots] at X49 l49 y49 z49 st49 hQ49
    subst y49 z49
    obtain ⟨rfl, N49q, e49⟩ := hQ49
    have N49 := oF l49 N41 N49q
    have pre50 : oP p e below (T49.setTop (mkF m 188 #[vI nv, vI va, vI vb, vI vc, vI fg, vI 1, vI (va.toInt8.toInt32), vI (vb.toInt8.toInt32), vI (vc.toInt8.toInt32), vR b4, vR b6, vR b18, vI 1, vU, vU, vU] [])) (s₁.setTop (entryFrame m #[(.int nv), (.int va), (.int vb), (.int vc), (.int fg)] maxLocals)) := by
     intro t k
     refine pre38 _ ?_
     refine XS.ifNo X35.here hx rfl (q at_159) rfl ((if0 _ _).trans (feq hk39).1) ?_
     refine XS.aload X35.here hx rfl (q at_162) rfl rfl ?_
     refine st41.trans ?_
     refine XS.pop X41.here hx rfl (q at_167) rfl rfl ?_
     refine XS.iload X41.here hx rfl (q at_168) rfl ?_
     refine XS.ifNo X41.here hx rfl (q at_170) rfl ((if0 _ _).trans (feq (by decide : ¬ ((1 : Int32) = (0 : Int32)))).1) ?_
     refine XS.aload X41.here hx rfl (q at_173) rfl rfl ?_
     refine st49.trans ?_
     refine XS.ifNo X49.here hx rfl (q at_178) rfl ((if0 _ _).trans (teq (by decide : ((0 : Int32) = (0 : Int32)))).2) ?_
     refine XS.iconst X49.here hx rfl (q at_181) ?_
     refine XS.goto X49.here hx rfl (pc0 := 182) (pc' := 186) rfl (q at_182) (by decide) (by decide) ?_
     refine XS.istore X49.here hx rfl (q at_186) rfl (l' := #[vI nv, vI va, vI vb, vI vc, vI fg, vI 1, vI (va.toInt8.toInt32), vI (vb.toInt8.toInt32), vI (vc.toInt8.toInt32), vR b4, vR b6, vR b18, vI 1, vU, vU, vU]) rfl ?_
     exact k
    exact ⟨_, _, _, X49.mono (by decide) (by decide), e49, N49, KG41, f45, f42, f44, fun t k => pre50 _ (by exact k)⟩
  have Z51 := Nat.le_trans Z27 KJ51.1
  have f52 := f32.keep KJ51 (ninS ne19 nin0)
  have f53 := f33.keep KJ51 (ninS ne20 nin0)
  have f54 := f34.keep KJ51
  obtain ⟨T69, h69, Lo69, X69, e69, N69, KJ69, pre69⟩ : ∃ (T' : State) (h' : Heap) (lo : List Loc), Stand p l e room_1 s m #[(.int nv), (.int va), (.int vb), (.int vc), (.int fg)] below meth c T' lo 5 14 ∧ T'.heap = h' ∧ Fr n0 lo ∧ Keep h51 h' [] ∧ ∀ t, Steps p.tables e below (T'.setTop (mkF m 221 #[vI nv, vI va, vI vb, vI vc, vI fg, vI 1, vI (va.toInt8.toInt32), vI (vb.toInt8.toInt32), vI (vc.toInt8.toInt32), vR b4, vR b6, vR b18, vI 1, vU, vU, vU] [])) t → Steps p.tables e below (s₁.setTop (entryFrame m #[(.int nv), (.int va), (.int vb), (.int vc), (.int fg)] maxLocals)) t := by
   have pre56 : oP p e below (T51.setTop (mkF m 192 #[vI nv, vI va, vI vb, vI vc, vI fg, vI 1, vI (va.toInt8.toInt32), vI (vb.toInt8.toInt32), vI (vc.toInt8.toInt32), vR b4, vR b6, vR b18, vI 1, vU, vU, vU] [(.int (fg &&& (2 : Int32)))])) (s₁.setTop (entryFrame m #[(.int nv), (.int va), (.int vb), (.int vc), (.int fg)] maxLocals)) := by
    intro t k
    refine pre51 _ ?_
    refine XS.iload X51.here hx rfl (q at_188) rfl ?_
    refine XS.iconst X51.here hx rfl (q at_190) ?_
    refine XS.iand X51.here hx rfl (q at_191) rfl ?_
    exact k
   by_cases hk57 : (fg &&& (2 : Int32)) = (0 : Int32)
   ·have pre58 : oP p e below (T51.setTop (mkF m 221 #[vI nv, vI va, vI vb, vI vc, vI fg, vI 1, vI (va.toInt8.toInt32), vI (vb.toInt8.toInt32), vI (vc.toInt8.toInt32), vR b4, vR b6, vR b18, vI 1, vU, vU, vU] [])) (s₁.setTop (entryFrame m #[(.int nv), (.int va), (.int vb), (.int vc), (.int fg)] maxLocals)) := by
     intro t k
     refine pre56 _ ?_
     refine XS.ifYes X51.here hx rfl (pc0 := 192) (pc' := 221) rfl (q at_192) rfl ((if0 _ _).trans (teq hk57).1) (by decide) (by decide) ?_
     exact k
    exact ⟨_, _, _, X51.mono (by decide) (by decide), e51, N51, (Keep.refl h51 _), fun t k => pre58 _ (by exact k)⟩
   ·obtain ⟨cq59, kq59, q59a, q59b, q59c⟩ := isOf hZ e51 f54
    obtain ⟨_, _, ⟨T59, L59, k59, n59⟩, -, X59, ⟨Lc59, hQ59, l59, y59, z59⟩, st59⟩ := X51.virtualBack hx (y := mN7) (z := mN7) hown (om hZ hw 59 rfl) (om hZ hw 60 rfl) (notFace_of_selects (args := #[]) (om hZ hw 62 rfl)) (om hZ hw 62 rfl) (om hZ hw 61 rfl) (by decide) (backOf (W := 0) (rm12k1 l Z a0 hw [] b18 b4 (up zI 0 (va.toInt8.toInt32)) h51 n0 Z51 f54 fj51_1 f52) hZ (ow hw 63 rfl) (ow hw 5 rfl) (by decide) (by decide)) q59a q59c (g := (mkF m 197 #[vI nv, vI va, vI vb, vI vc, vI fg, vI 1, vI (va.toInt8.toInt32), vI (vb.toInt8.toInt32), vI (vc.toInt8.toInt32), vR b4, vR b6, vR b18, vI 1, vU, vU, vU] [(.ref b18)])) rfl (by rw [hml]; rfl) (Steps.refl _) (argsL := []) (rest := []) (lenOf pd_14 rfl) rfl (oz rfl) (q at_197) (fun _ _ => ⟨rfl, e51, (by decide : 4 + 1 ≤ _), (by decide : 10 + 4 ≤ _)⟩)
    dsimp only [Pt.U, Pt.locs, Pt.cells, Pt.slots] at X59 l59 y59 z59 st59 hQ59
    subst y59 z59
    obtain ⟨gx60, rfl, N59q, K59c⟩ := hQ59
    have N59 := oF l59 N51 N59q
    have f63 := f54.keep K59c
    have f64 := fj51_0.keep K59c nin0
    have Z59 := Nat.le_trans Z51 K59c.1
    have KG59 : Keep h51 T59.heap [] := (Keep.refl h51 _).trans K59c all0
    obtain ⟨cq67, kq67, q67a, q67b, q67c⟩ := isOf hZ rfl f63
    obtain ⟨_, _, ⟨T67, L67, k67, n67⟩, -, X67, ⟨Lc67, hQ67, l67, y67, z67⟩, st67⟩ := X59.virtualBack hx (y := mN9) (z := mN9) hown (om hZ hw 18 rfl) (om hZ hw 19 rfl) (notFace_of_selects (args := #[]) (om hZ hw 21 rfl)) (om hZ hw 21 rfl) (om hZ hw 20 rfl) (by decide) (backOf (W := 0) (rm3z l Z a0 hw [] b18 T59.heap n0 Z59 f64) hZ (ow hw 22 rfl) (ow hw 5 rfl) (by decide) (by decide)) q67a q67c (g := (mkF m 208 #[vI nv, vI va, vI vb, vI vc, vI fg, vI 1, vI (va.toInt8.toInt32), vI (vb.toInt8.toInt32), vI (vc.toInt8.toInt32), vR b4, vR b6, vR b18, vI 1, vU, vU, vU] [(.ref b18)])) rfl (by rw [hml]; rfl) (Steps.refl _) (argsL := []) (rest := []) (lenOf pd_13 rfl) rfl (oz rfl) (q at_208) (fun _ _ => ⟨rfl, rfl, (by decide : 5 + 0 ≤ _), (by decide : 14 + 0 ≤ _)⟩)
    dsimp only [Pt.U, Pt.locs, Pt.cells, Pt.slots] at X67 l67 y67 z67 st67 hQ67
    subst y67 z67
    obtain ⟨rfl, N67q, e67⟩ := hQ67
    have N67 := oF l67 N59 N67q
    have pre68 : oP p e below (T67.setTop (mkF m 221 #[vI nv, vI va, vI vb, vI vc, vI fg, vI 1, vI (va.toInt8.toInt32), vI (vb.toInt8.toInt32), vI (vc.toInt8.toInt32), vR b4, vR b6, vR b18, vI 1, vU, vU, vU] [])) (s₁.setTop (entryFrame m #[(.int nv), (.int va), (.int vb), (.int vc), (.int fg)] maxLocals)) := by
     intro t k
     refine pre56 _ ?_
     refine XS.ifNo X51.here hx rfl (q at_192) rfl ((if0 _ _).trans (feq hk57).1) ?_
     refine XS.aload X51.here hx rfl (q at_195) rfl rfl ?_
     refine st59.trans ?_
     jvm_step X59.here [X59.here.top, hx, (q at_200), Value.category]
     refine XS.iload X59.here hx rfl (q at_201) rfl ?_
     refine XS.ifNo X59.here hx rfl (q at_203) rfl ((if0 _ _).trans (feq (by decide : ¬ ((1 : Int32) = (0 : Int32)))).1) ?_
     refine XS.aload X59.here hx rfl (q at_206) rfl rfl ?_
     refine st67.trans ?_
     refine XS.ifNo X67.here hx rfl (q at_211) rfl ((if0 _ _).trans (teq (by decide : ((0 : Int32) = (0 : Int32)))).2) ?_
     refine XS.iconst X67.here hx rfl (q at_214) ?_
     refine XS.goto X67.here hx rfl (pc0 := 215) (pc' := 219) rfl (q at_215) (by decide) (by decide) ?_
     refine XS.istore X67.here hx rfl (q at_219) rfl (l' := #[vI nv, vI va, vI vb, vI vc, vI fg, vI 1, vI (va.toInt8.toInt32), vI (vb.toInt8.toInt32), vI (vc.toInt8.toInt32), vR b4, vR b6, vR b18, vI 1, vU, vU, vU]) rfl ?_
     exact k
    exact ⟨_, _, _, X67.mono (by decide) (by decide), e67, N67, KG59, fun t k => pre68 _ (by exact k)⟩
  have Z69 := Nat.le_trans Z51 KJ69.1
  have f70 := f52.keep KJ69 nin0
  have f71 := f53.keep KJ69 nin0
  have f72 := f54.keep KJ69
  have f73 := fj51_0.keep KJ69 nin0
  have f74 := fj51_1.keep KJ69 nin0
  have f75 := fj51_2.keep KJ69 nin0
  obtain ⟨cq76, kq76, q76a, q76b, q76c⟩ := isOf hZ e69 f72
  obtain ⟨_, _, ⟨T76, L76, k76, n76⟩, -, X76, ⟨Lc76, hQ76, l76, y76, z76⟩, st76⟩ := X69.virtualBack hx (y := mN19) (z := mN19) hown (om hZ hw 25 rfl) (om hZ hw 26 rfl) (notFace_of_selects (args := #[]) (om hZ hw 28 rfl)) (om hZ hw 28 rfl) (om hZ hw 27 rfl) (by decide) (backOf (W := 0) (rm4z1 l Z a0 hw [] b18 b4 b6 (up zI 0 (va.toInt8.toInt32)) (up zI 0 (0 : Int32)) h69 n0 Z69 f72 f73 f74 f75 f70 f71 ne19 ne20 gg18) hZ (ow hw 29 rfl) (ow hw 5 rfl) (by decide) (by decide)) q76a q76c (g := (mkF m 236 #[vI nv, vI va, vI vb, vI vc, vI fg, vI 1, vI (va.toInt8.toInt32), vI (vb.toInt8.toInt32), vI (vc.toInt8.toInt32), vR b4, vR b6, vR b18, vI 1, vI 0, vU, vU] [(.ref b18)])) rfl (by rw [hml]; rfl) (Steps.refl _) (argsL := []) (rest := []) (lenOf pd_15 rfl) rfl (oz rfl) (q at_236) (fun _ _ => ⟨rfl, e69, (by decide : 5 + 2 ≤ _), (by decide : 14 + 260 ≤ _)⟩)
  dsimp only [Pt.U, Pt.locs, Pt.cells, Pt.slots] at X76 l76 y76 z76 st76 hQ76
  subst y76 z76
  obtain ⟨rfl, N76q, K76c, f77, f78, f79⟩ := hQ76
  have N76 := oF l76 N69 N76q
  have f80 := f70.keep K76c (ninS ne19 nin0)
  have f81 := f71.keep K76c (ninS ne20 nin0)
  have f82 := f72.keep K76c
  have Z76 := Nat.le_trans Z69 K76c.1
  obtain ⟨cq83, kq83, q83a, q83b, q83c⟩ := isOf hZ rfl f82
  obtain ⟨_, _, ⟨T83, L83, k83, n83⟩, -, X83, ⟨Lc83, hQ83, l83, y83, z83⟩, st83⟩ := X76.virtualBack hx (y := mN9) (z := mN9) hown (om hZ hw 18 rfl) (om hZ hw 19 rfl) (notFace_of_selects (args := #[]) (om hZ hw 21 rfl)) (om hZ hw 21 rfl) (om hZ hw 20 rfl) (by decide) (backOf (W := 0) (rm3z l Z a0 hw [] b18 T76.heap n0 Z76 f77) hZ (ow hw 22 rfl) (ow hw 5 rfl) (by decide) (by decide)) q83a q83c (g := (mkF m 275 #[vI nv, vI va, vI vb, vI vc, vI fg, vI 1, vI (va.toInt8.toInt32), vI (vb.toInt8.toInt32), vI (vc.toInt8.toInt32), vR b4, vR b6, vR b18, vI 1, vI 0, .val .null, vU] [(.ref b18)])) rfl (by rw [hml]; rfl) (Steps.refl _) (argsL := []) (rest := []) (lenOf pd_13 rfl) rfl (oz rfl) (q at_275) (fun _ _ => ⟨rfl, rfl, (by decide : 7 + 0 ≤ _), (by decide : 274 + 0 ≤ _)⟩)
  dsimp only [Pt.U, Pt.locs, Pt.cells, Pt.slots] at X83 l83 y83 z83 st83 hQ83
  subst y83 z83
  obtain ⟨rfl, N83q, e83⟩ := hQ83
  have N83 := oF l83 N76 N83q
  obtain ⟨cq84, kq84, q84a, q84b, q84c⟩ := isOf hZ e83 f82
  obtain ⟨_, _, ⟨T84, L84, k84, n84⟩, -, X84, ⟨Lc84, hQ84, l84, y84, z84⟩, st84⟩ := X83.virtualBack hx (y := mN19) (z := mN19) hown (om hZ hw 25 rfl) (om hZ hw 26 rfl) (notFace_of_selects (args := #[]) (om hZ hw 28 rfl)) (om hZ hw 28 rfl) (om hZ hw 27 rfl) (by decide) (backOf (W := 0) (rm4z1 l Z a0 hw [] b18 b4 b6 (up zI 0 (va.toInt8.toInt32)) (up zI 0 (0 : Int32)) T76.heap n0 Z76 f82 f77 f78 f79 f80 f81 ne19 ne20 gg18) hZ (ow hw 29 rfl) (ow hw 5 rfl) (by decide) (by decide)) q84a q84c (g := (mkF m 292 #[vI nv, vI va, vI vb, vI vc, vI fg, vI 1, vI (va.toInt8.toInt32), vI (vb.toInt8.toInt32), vI (vc.toInt8.toInt32), vR b4, vR b6, vR b18, vI 1, vI 0, .val .null, vU] [(.ref b18)])) rfl (by rw [hml]; rfl) (Steps.refl _) (argsL := []) (rest := []) (lenOf pd_15 rfl) rfl (oz rfl) (q at_292) (fun _ _ => ⟨rfl, e83, (by decide : 7 + 2 ≤ _), (by decide : 274 + 260 ≤ _)⟩)
  dsimp only [Pt.U, Pt.locs, Pt.cells, Pt.slots] at X84 l84 y84 z84 st84 hQ84
  subst y84 z84
  obtain ⟨rfl, N84q, K84c, f85, f86, f87⟩ := hQ84
  have N84 := oF l84 N83 N84q
  have f90 := f82.keep K84c
  have Z84 := Nat.le_trans Z76 K84c.1
  obtain ⟨cq91, kq91, q91a, q91b, q91c⟩ := isOf hZ rfl f90
  obtain ⟨_, _, ⟨T91, L91, k91, n91⟩, -, X91, ⟨Lc91, hQ91, l91, y91, z91⟩, st91⟩ := X84.virtualBack hx (y := mN9) (z := mN9) hown (om hZ hw 18 rfl) (om hZ hw 19 rfl) (notFace_of_selects (args := #[]) (om hZ hw 21 rfl)) (om hZ hw 21 rfl) (om hZ hw 20 rfl) (by decide) (backOf (W := 0) (rm3z l Z a0 hw [] b18 T84.heap n0 Z84 f85) hZ (ow hw 22 rfl) (ow hw 5 rfl) (by decide) (by decide)) q91a q91c (g := (mkF m 323 #[vI nv, vI va, vI vb, vI vc, vI fg, vI 1, vI (va.toInt8.toInt32), vI (vb.toInt8.toInt32), vI (vc.toInt8.toInt32), vR b4, vR b6, vR b18, vI 1, vI 0, .val .null, .val .null] [(.ref b18)])) rfl (by rw [hml]; rfl) (Steps.refl _) (argsL := []) (rest := []) (lenOf pd_13 rfl) rfl (oz rfl) (q at_323) (fun _ _ => ⟨rfl, rfl, (by decide : 9 + 0 ≤ _), (by decide : 534 + 0 ≤ _)⟩)
  dsimp only [Pt.U, Pt.locs, Pt.cells, Pt.slots] at X91 l91 y91 z91 st91 hQ91
  subst y91 z91
  obtain ⟨rfl, N91q, e91⟩ := hQ91
  have N91 := oF l91 N84 N91q
  obtain ⟨fs, hr, hrun, hended, hW, hsame⟩ := X91.leave (v := some (.int 1)) (oR Bd.returns) (hlocks := Bd.notSynchronized)
  refine ⟨_, _, pre69 _ ?_, hrun, hended, _, _, rfl, ?_, ⟨_, rfl⟩, hW, hsame.mono (by decide) (by decide)⟩
  ·show Steps p.tables e below (T69.setTop (mkF m 221 #[vI nv, vI va, vI vb, vI vc, vI fg, vI 1, vI (va.toInt8.toInt32), vI (vb.toInt8.toInt32), vI (vc.toInt8.toInt32), vR b4, vR b6, vR b18, vI 1, vU, vU, vU] [])) _
   refine XS.iload X69.here hx rfl (q at_221) rfl ?_
   refine XS.iconst X69.here hx rfl (q at_223) ?_
   refine XS.icmpYes X69.here hx rfl (pc0 := 224) (pc' := 231) rfl (q at_224) rfl (teq (by decide : ((1 : Int32) = (1 : Int32)))).1 (by decide) (by decide) ?_
   refine XS.iconst X69.here hx rfl (q at_231) ?_
   refine XS.istore X69.here hx rfl (q at_232) rfl (l' := #[vI nv, vI va, vI vb, vI vc, vI fg, vI 1, vI (va.toInt8.toInt32), vI (vb.toInt8.toInt32), vI (vc.toInt8.toInt32), vR b4, vR b6, vR b18, vI 1, vI 0, vU, vU]) rfl ?_
   refine XS.aload X69.here hx rfl (q at_234) rfl rfl ?_
   refine st76.trans ?_
   refine XS.astore X76.here hx rfl (q at_239) rfl rfl (l' := #[vI nv, vI va, vI vb, vI vc, vI fg, vI 1, vI (va.toInt8.toInt32), vI (vb.toInt8.toInt32), vI (vc.toInt8.toInt32), vR b4, vR b6, vR b18, vI 1, vI 0, .val .null, vU]) rfl ?_
   refine XS.iload X76.here hx rfl (q at_241) rfl ?_
   refine XS.ifNo X76.here hx rfl (q at_243) rfl ((if0 _ _).trans (feq (by decide : ¬ ((1 : Int32) = (0 : Int32)))).1) ?_
   refine XS.aload X76.here hx rfl (q at_246) rfl rfl ?_
   refine XS.ifnullYes X76.here hx rfl (pc0 := 248) (pc' := 255) rfl (q at_248) rfl (by decide) (by decide) ?_
   refine XS.iconst X76.here hx rfl (q at_255) ?_
   refine XS.iload X76.here hx rfl (q at_256) rfl ?_
   refine XS.icmpNo X76.here hx rfl (q at_258) rfl (teq (by decide : ((0 : Int32) = (0 : Int32)))).2 ?_
   refine XS.iconst X76.here hx rfl (q at_261) ?_
   refine XS.goto X76.here hx rfl (pc0 := 262) (pc' := 266) rfl (q at_262) (by decide) (by decide) ?_
   refine XS.istore X76.here hx rfl (q at_266) rfl (l' := #[vI nv, vI va, vI vb, vI vc, vI fg, vI 1, vI (va.toInt8.toInt32), vI (vb.toInt8.toInt32), vI (vc.toInt8.toInt32), vR b4, vR b6, vR b18, vI 1, vI 0, .val .null, vU]) rfl ?_
   refine XS.iload X76.here hx rfl (q at_268) rfl ?_
   refine XS.ifNo X76.here hx rfl (q at_270) rfl ((if0 _ _).trans (feq (by decide : ¬ ((1 : Int32) = (0 : Int32)))).1) ?_
   refine XS.aload X76.here hx rfl (q at_273) rfl rfl ?_
   refine st83.trans ?_
   refine XS.iload X83.here hx rfl (q at_278) rfl ?_
   refine XS.icmpNo X83.here hx rfl (q at_280) rfl (teq (by decide : ((0 : Int32) = (0 : Int32)))).2 ?_
   refine XS.iconst X83.here hx rfl (q at_283) ?_
   refine XS.goto X83.here hx rfl (pc0 := 284) (pc' := 288) rfl (q at_284) (by decide) (by decide) ?_
   refine XS.istore X83.here hx rfl (q at_288) rfl (l' := #[vI nv, vI va, vI vb, vI vc, vI fg, vI 1, vI (va.toInt8.toInt32), vI (vb.toInt8.toInt32), vI (vc.toInt8.toInt32), vR b4, vR b6, vR b18, vI 1, vI 0, .val .null, vU]) rfl ?_
   refine XS.aload X83.here hx rfl (q at_290) rfl rfl ?_
   refine st84.trans ?_
   refine XS.astore X84.here hx rfl (q at_295) rfl rfl (l' := #[vI nv, vI va, vI vb, vI vc, vI fg, vI 1, vI (va.toInt8.toInt32), vI (vb.toInt8.toInt32), vI (vc.toInt8.toInt32), vR b4, vR b6, vR b18, vI 1, vI 0, .val .null, .val .null]) rfl ?_
   refine XS.iload X84.here hx rfl (q at_297) rfl ?_
   refine XS.ifNo X84.here hx rfl (q at_299) rfl ((if0 _ _).trans (feq (by decide : ¬ ((1 : Int32) = (0 : Int32)))).1) ?_
   refine XS.aload X84.here hx rfl (q at_302) rfl rfl ?_
   refine XS.aload X84.here hx rfl (q at_304) rfl rfl ?_
   refine Jvm.RoadKit.acmp (g := (mkF m 306 #[vI nv, vI va, vI vb, vI vc, vI fg, vI 1, vI (va.toInt8.toInt32), vI (vb.toInt8.toInt32), vI (vc.toInt8.toInt32), vR b4, vR b6, vR b18, vI 1, vI 0, .val .null, .val .null] [.null, .null])) X84 hx rfl rfl rfl (pc0 := 306) (pc' := 309) (same := true) rfl (q at_306) rfl (decide_eq_true rfl) (by decide) (by decide) ?_
   refine XS.iconst X84.here hx rfl (q at_309) ?_
   refine XS.goto X84.here hx rfl (pc0 := 310) (pc' := 314) rfl (q at_310) (by decide) (by decide) ?_
   refine XS.istore X84.here hx rfl (q at_314) rfl (l' := #[vI nv, vI va, vI vb, vI vc, vI fg, vI 1, vI (va.toInt8.toInt32), vI (vb.toInt8.toInt32), vI (vc.toInt8.toInt32), vR b4, vR b6, vR b18, vI 1, vI 0, .val .null, .val .null]) rfl ?_
   refine XS.iload X84.here hx rfl (q at_316) rfl ?_
   refine XS.ifNo X84.here hx rfl (q at_318) rfl ((if0 _ _).trans (feq (by decide : ¬ ((1 : Int32) = (0 : Int32)))).1) ?_
   refine XS.aload X84.here hx rfl (q at_321) rfl rfl ?_
   refine st91.trans ?_
   refine XS.iload X91.here hx rfl (q at_326) rfl ?_
   refine XS.icmpNo X91.here hx rfl (q at_328) rfl (teq (by decide : ((0 : Int32) = (0 : Int32)))).2 ?_
   refine XS.iconst X91.here hx rfl (q at_331) ?_
   refine XS.goto X91.here hx rfl (pc0 := 332) (pc' := 336) rfl (q at_332) (by decide) (by decide) ?_
   refine XS.istore X91.here hx rfl (q at_336) rfl (l' := #[vI nv, vI va, vI vb, vI vc, vI fg, vI 1, vI (va.toInt8.toInt32), vI (vb.toInt8.toInt32), vI (vc.toInt8.toInt32), vR b4, vR b6, vR b18, vI 1, vI 0, .val .null, .val .null]) rfl ?_
   refine XS.iload X91.here hx rfl (q at_338) rfl ?_
   exact retN X91 hx (t := .boolean) Bd.returns (by simp) (q at_340) hr
  ·show Q0 Z nv va vb vc fg h0 n0 _ T91.heap _
   rw [e91]
   exact ⟨rfl, N91⟩
 ·have pre92 : oP p e below (s₁.setTop (mkF m 8 #[vI nv, vI va, vI vb, vI vc, vI fg, vU, vU, vU, vU, vU, vU, vU, vU, vU, vU, vU] [(.int 2)])) (s₁.setTop (entryFrame m #[(.int nv), (.int va), (.int vb), (.int vc), (.int fg)] maxLocals)) := by
   intro t k
   refine pre1 _ ?_
   rw [hk2]
   exact k
  obtain ⟨T93, h93, k93, X93, e93, E93, A93, st93⟩ := newP X0 hx hZ (ow hw 1 rfl) e0 (g := (mkF m 24 #[vI nv, vI va, vI vb, vI vc, vI fg, vI 2, vI (va.toInt8.toInt32), vI (vb.toInt8.toInt32), vI (vc.toInt8.toInt32), vU, vU, vU, vU, vU, vU, vU] [(.int 2)])) rfl (q at_24) rfl (by decide) (cap := 2) (by decide) (by decide) (by decide) (by decide)
  obtain ⟨b93, g93⟩ : ∃ z, z = h0.size := ⟨_, rfl⟩
  rw [← g93] at A93 st93
  have gg93 := oL Z0 g93
  have Z93 := Nat.le_trans Z0 E93.1
  have f94 : AI Z h93 b93 .byte 2 zI := AF.new A93 (by decide)
  obtain ⟨T95, h95, k95, X95, e95, E95, A95, st95⟩ := newP X93 hx hZ (ow hw 2 rfl) e93 (g := (mkF m 30 #[vI nv, vI va, vI vb, vI vc, vI fg, vI 2, vI (va.toInt8.toInt32), vI (vb.toInt8.toInt32), vI (vc.toInt8.toInt32), vR b93, vU, vU, vU, vU, vU, vU] [(.int 2)])) rfl (q at_30) rfl (by decide) (cap := 2) (by decide) (by decide) (by decide) (by decide)
  obtain ⟨b95, g95⟩ : ∃ z, z = h93.size := ⟨_, rfl⟩
  rw [← g95] at A95 st95
  have ne96 := oN f94.lt g95
  have gg95 := oL Z93 g95
  have f97 := f94.ext E95
  have Z95 := Nat.le_trans Z93 E95.1
  have f98 : AI Z h95 b95 .int 2 zI := AF.new A95 (by decide)
  obtain ⟨cl99, Arcl99, hincl99, -⟩ := AF.at f97 (j := (0 : Int32)) 0 (by decide) (by decide)
  obtain ⟨T100, h100, X100, e100, W100, st100⟩ := stB X95 hx hZ e95 Arcl99 (j := (0 : Int32)) hincl99 (g := (mkF m 39 #[vI nv, vI va, vI vb, vI vc, vI fg, vI 2, vI (va.toInt8.toInt32), vI (vb.toInt8.toInt32), vI (vc.toInt8.toInt32), vR b93, vR b95, vU, vU, vU, vU, vU] [(.int (va.toInt8.toInt32)), (.int 0), (.ref b93)])) rfl rfl (q at_39)
  rw [own_nb] at W100
  have N100 := Fr.snoc X100 N0 gg93
  have Z100 := Nat.le_trans Z95 (Keep.of_wr W100).1
  have f101 : AI Z h100 b93 .byte 2 (up zI 0 (va.toInt8.toInt32)) := AF.setI f97 W100 0 (by decide)
  have f102 := f98.other W100 (Ne.symm ne96)
  obtain ⟨cl103, Arcl103, hincl103, -⟩ := AF.at f102 (j := (0 : Int32)) 0 (by decide) (by decide)
  obtain ⟨T104, h104, X104, e104, W104, st104⟩ := stI X100 hx hZ e100 Arcl103 (j := (0 : Int32)) hincl103 (g := (mkF m 44 #[vI nv, vI va, vI vb, vI vc, vI fg, vI 2, vI (va.toInt8.toInt32), vI (vb.toInt8.toInt32), vI (vc.toInt8.toInt32), vR b93, vR b95, vU, vU, vU, vU, vU] [(.int 0), (.int 0), (.ref b95)])) rfl rfl (q at_44)
  have N104 := Fr.snoc X104 N100 gg95
  have Z104 := Nat.le_trans Z100 (Keep.of_wr W104).1
  have f105 : AI Z h104 b95 .int 2 (up zI 0 (0 : Int32)) := AF.setI f102 W104 0 (by decide)
  have f106 := f101.other W104 ne96
  obtain ⟨cl107, Arcl107, hincl107, -⟩ := AF.at f106 (j := (1 : Int32)) 1 (by decide) (by decide)
  obtain ⟨T108, h108, X108, e108, W108, st108⟩ := stB X104 hx hZ e104 Arcl107 (j := (1 : Int32)) hincl107 (g := (mkF m 56 #[vI nv, vI va, vI vb, vI vc, vI fg, vI 2, vI (va.toInt8.toInt32), vI (vb.toInt8.toInt32), vI (vc.toInt8.toInt32), vR b93, vR b95, vU, vU, vU, vU, vU] [(.int (vb.toInt8.toInt32)), (.int 1), (.ref b93)])) rfl rfl (q at_56)
  rw [own_nb] at W108
  have N108 := Fr.snoc X108 N104 gg93
  have Z108 := Nat.le_trans Z104 (Keep.of_wr W108).1
  have f109 : AI Z h108 b93 .byte 2 (up (up zI 0 (va.toInt8.toInt32)) 1 (vb.toInt8.toInt32)) := AF.setI f106 W108 1 (by decide)
  have f110 := f105.other W108 (Ne.symm ne96)
  have pre114 : oP p e below (T108.setTop (mkF m 60 #[vI nv, vI va, vI vb, vI vc, vI fg, vI 2, vI (va.toInt8.toInt32), vI (vb.toInt8.toInt32), vI (vc.toInt8.toInt32), vR b93, vR b95, vU, vU, vU, vU, vU] [(.int 1), (.ref b95)])) (s₁.setTop (entryFrame m #[(.int nv), (.int va), (.int vb), (.int vc), (.int fg)] maxLocals)) := by
   intro t k
   refine pre92 _ ?_
   refine XS.istore X0.here hx rfl (q at_8) rfl (l' := #[vI nv, vI va, vI vb, vI vc, vI fg, vI 2, vU, vU, vU, vU, vU, vU, vU, vU, vU, vU]) rfl ?_
   refine XS.iloadN X0.here hx rfl (q at_10) rfl ?_
   refine XS.i2b X0.here hx rfl (q at_11) rfl ?_
   refine XS.istore X0.here hx rfl (q at_12) rfl (l' := #[vI nv, vI va, vI vb, vI vc, vI fg, vI 2, vI (va.toInt8.toInt32), vU, vU, vU, vU, vU, vU, vU, vU, vU]) rfl ?_
   refine XS.iloadN X0.here hx rfl (q at_14) rfl ?_
   refine XS.i2b X0.here hx rfl (q at_15) rfl ?_
   refine XS.istore X0.here hx rfl (q at_16) rfl (l' := #[vI nv, vI va, vI vb, vI vc, vI fg, vI 2, vI (va.toInt8.toInt32), vI (vb.toInt8.toInt32), vU, vU, vU, vU, vU, vU, vU, vU]) rfl ?_
   refine XS.iloadN X0.here hx rfl (q at_18) rfl ?_
   refine XS.i2b X0.here hx rfl (q at_19) rfl ?_
   refine XS.istore X0.here hx rfl (q at_20) rfl (l' := #[vI nv, vI va, vI vb, vI vc, vI fg, vI 2, vI (va.toInt8.toInt32), vI (vb.toInt8.toInt32), vI (vc.toInt8.toInt32), vU, vU, vU, vU, vU, vU, vU]) rfl ?_
   refine XS.iload X0.here hx rfl (q at_22) rfl ?_
   refine st93 _ ?_
   refine XS.astore X93.here hx rfl (q at_26) rfl rfl (l' := #[vI nv, vI va, vI vb, vI vc, vI fg, vI 2, vI (va.toInt8.toInt32), vI (vb.toInt8.toInt32), vI (vc.toInt8.toInt32), vR b93, vU, vU, vU, vU, vU, vU]) rfl ?_
   refine XS.iload X93.here hx rfl (q at_28) rfl ?_
   refine st95 _ ?_
   refine XS.astore X95.here hx rfl (q at_32) rfl rfl (l' := #[vI nv, vI va, vI vb, vI vc, vI fg, vI 2, vI (va.toInt8.toInt32), vI (vb.toInt8.toInt32), vI (vc.toInt8.toInt32), vR b93, vR b95, vU, vU, vU, vU, vU]) rfl ?_
   refine XS.aload X95.here hx rfl (q at_34) rfl rfl ?_
   refine XS.iconst X95.here hx rfl (q at_36) ?_
   refine XS.iload X95.here hx rfl (q at_37) rfl ?_
   refine st100 _ ?_
   refine XS.aload X100.here hx rfl (q at_40) rfl rfl ?_
   refine XS.iconst X100.here hx rfl (q at_42) ?_
   refine XS.iconst X100.here hx rfl (q at_43) ?_
   refine st104 _ ?_
   refine XS.iload X104.here hx rfl (q at_45) rfl ?_
   refine XS.iconst X104.here hx rfl (q at_47) ?_
   refine XS.icmpNo X104.here hx rfl (q at_48) rfl (flt (by decide : ¬ ((2 : Int32) < (2 : Int32)))).1 ?_
   refine XS.aload X104.here hx rfl (q at_51) rfl rfl ?_
   refine XS.iconst X104.here hx rfl (q at_53) ?_
   refine XS.iload X104.here hx rfl (q at_54) rfl ?_
   refine st108 _ ?_
   refine XS.aload X108.here hx rfl (q at_57) rfl rfl ?_
   refine XS.iconst X108.here hx rfl (q at_59) ?_
   exact k
  have pre115 : oP p e below (T108.setTop (mkF m 72 #[vI nv, vI va, vI vb, vI vc, vI fg, vI 2, vI (va.toInt8.toInt32), vI (vb.toInt8.toInt32), vI (vc.toInt8.toInt32), vR b93, vR b95, vU, vU, vU, vU, vU] [(.int (j0_60_s0 va vb)), (.int 1), (.ref b95)])) (s₁.setTop (entryFrame m #[(.int nv), (.int va), (.int vb), (.int vc), (.int fg)] maxLocals)) := by
   intro t k
   refine pre114 _ ?_
   refine XS.iload X108.here hx rfl (q at_60) rfl ?_
   refine XS.iload X108.here hx rfl (q at_62) rfl ?_
   by_cases hk111 : (va.toInt8.toInt32) = (vb.toInt8.toInt32)
   ·show Steps p.tables e below (T108.setTop (mkF m 64 #[vI nv, vI va, vI vb, vI vc, vI fg, vI 2, vI (va.toInt8.toInt32), vI (vb.toInt8.toInt32), vI (vc.toInt8.toInt32), vR b93, vR b95, vU, vU, vU, vU, vU] [(.int (vb.toInt8.toInt32)), (.int (va.toInt8.toInt32)), (.int 1), (.ref b95)])) _
    refine XS.icmpNo X108.here hx rfl (q at_64) rfl (teq hk111).2 ?_
    refine XS.iconst X108.here hx rfl (q at_67) ?_
    refine XS.goto X108.here hx rfl (pc0 := 68) (pc' := 72) rfl (q at_68) (by decide) (by decide) ?_
    have ev112 : (j0_60_s0 va vb) = (1 : Int32) := by unfold j0_60_s0; rw [if_pos hk111]
    rw [ev112] at k
    exact k
   ·show Steps p.tables e below (T108.setTop (mkF m 64 #[vI nv, vI va, vI vb, vI vc, vI fg, vI 2, vI (va.toInt8.toInt32), vI (vb.toInt8.toInt32), vI (vc.toInt8.toInt32), vR b93, vR b95, vU, vU, vU, vU, vU] [(.int (vb.toInt8.toInt32)), (.int (va.toInt8.toInt32)), (.int 1), (.ref b95)])) _
    refine XS.icmpYes X108.here hx rfl (pc0 := 64) (pc' := 71) rfl (q at_64) rfl (feq hk111).2 (by decide) (by decide) ?_
    refine XS.iconst X108.here hx rfl (q at_71) ?_
    have ev113 : (j0_60_s0 va vb) = (0 : Int32) := by unfold j0_60_s0; rw [if_neg hk111]
    rw [ev113] at k
    exact k
  obtain ⟨cl116, Arcl116, hincl116, -⟩ := AF.at f110 (j := (1 : Int32)) 1 (by decide) (by decide)
  obtain ⟨T117, h117, X117, e117, W117, st117⟩ := stI X108 hx hZ e108 Arcl116 (j := (1 : Int32)) hincl116 (g := (mkF m 72 #[vI nv, vI va, vI vb, vI vc, vI fg, vI 2, vI (va.toInt8.toInt32), vI (vb.toInt8.toInt32), vI (vc.toInt8.toInt32), vR b93, vR b95, vU, vU, vU, vU, vU] [(.int (j0_60_s0 va vb)), (.int 1), (.ref b95)])) rfl rfl (q at_72)
  have N117 := Fr.snoc X117 N108 gg95
  have Z117 := Nat.le_trans Z108 (Keep.of_wr W117).1
  have f118 : AI Z h117 b95 .int 2 (up (up zI 0 (0 : Int32)) 1 (j0_60_s0 va vb)) := AF.setI f110 W117 1 (by decide)
  have f119 := f109.other W117 ne96
  obtain ⟨T120, h120, X120, e120, E120, A120, D120, -, st120⟩ := newO X117 hx hZ hown (ow hw 3 rfl) (ow hw 4 rfl) (ow hw 5 rfl) e117 (g := (mkF m 127 #[vI nv, vI va, vI vb, vI vc, vI fg, vI 2, vI (va.toInt8.toInt32), vI (vb.toInt8.toInt32), vI (vc.toInt8.toInt32), vR b93, vR b95, vU, vU, vU, vU, vU] [])) rfl (q at_127) (by decide) (by decide)
  obtain ⟨b120, g120⟩ : ∃ z, z = h117.size := ⟨_, rfl⟩
  rw [← g120] at A120 D120 st120
  have ne121 := oN f119.lt g120
  have ne122 := oN f118.lt g120
  have gg120 := oL Z117 g120
  have f123 := f119.ext E120
  have f124 := f118.ext E120
  have Z120 := Nat.le_trans Z117 E120.1
  have f125 : Fld Z h120 b120 cS1 "width" "I" (.int 0) := D120 (Or.inl (ow hw 13 rfl)) (ty := .int) (by decide)
  have f126 : Fld Z h120 b120 cS1 "pattern" "[B" .null := D120 (Or.inr (ow hw 15 rfl)) (ty := (.array .byte)) (by decide)
  have f127 : Fld Z h120 b120 cS1 "links" "[I" .null := D120 (Or.inr (ow hw 17 rfl)) (ty := (.array .int)) (by decide)
  have f128 : Fld Z h120 b120 cS1 "automaton" cS2 .null := D120 (Or.inl (ow hw 24 rfl)) (ty := (.object cS0)) (by decide)
  obtain ⟨_, _, ⟨T129, L129, k129, n129⟩, -, X129, ⟨Lc129, hQ129, l129, y129, z129⟩, st129⟩ := X120.specialBack hx (y := mN8) rfl hown (om hZ hw 6 rfl) (om hZ hw 7 rfl) (om hZ hw 8 rfl) (by decide) (backOf (W := 1) (rm1 l Z a0 hw [] b120 b93 b95 h120 n0 Z120 A120 f128 f125 f126 f127 gg120) hZ (ow hw 8 rfl) (ow hw 5 rfl) (by decide) (by decide)) (g := (mkF m 135 #[vI nv, vI va, vI vb, vI vc, vI fg, vI 2, vI (va.toInt8.toInt32), vI (vb.toInt8.toInt32), vI (vc.toInt8.toInt32), vR b93, vR b95, vU, vU, vU, vU, vU] [(.ref b95), (.ref b93), (.ref b120), (.ref b120)])) rfl (by rw [hml]; rfl) (Steps.refl _) (a := b120) (argsL := [(.ref b93), (.ref b95)]) (rest := [(.ref b120)]) (lenOf pd_12 rfl) rfl (oz rfl) (q at_135) (fun _ _ => ⟨rfl, e120, (by decide : 3 + 0 ≤ _), (by decide : 8 + 0 ≤ _)⟩)
  dsimp only [Pt.U, Pt.locs, Pt.cells, Pt.slots] at X129 l129 y129 z129 st129 hQ129
  subst y129 z129
  obtain ⟨rfl, N129q, K129c, f130, f131, f132, f133⟩ := hQ129
  have N129 := oF l129 N117 N129q
  have f134 := f123.keep K129c (ninS ne121 nin0)
  have f135 := f124.keep K129c (ninS ne122 nin0)
  have f136 := A120.keep K129c
  have Z129 := Nat.le_trans Z120 K129c.1
  obtain ⟨cq137, kq137, q137a, q137b, q137c⟩ := isOf hZ rfl f136
  obtain ⟨_, _, ⟨T137, L137, k137, n137⟩, -, X137, ⟨Lc137, hQ137, l137, y137, z137⟩, st137⟩ := X129.virtualBack hx (y := mN9) (z := mN9) hown (om hZ hw 18 rfl) (om hZ hw 19 rfl) (notFace_of_selects (args := #[]) (om hZ hw 21 rfl)) (om hZ hw 21 rfl) (om hZ hw 20 rfl) (by decide) (backOf (W := 0) (rm3z l Z a0 hw [] b120 T129.heap n0 Z129 f130) hZ (ow hw 22 rfl) (ow hw 5 rfl) (by decide) (by decide)) q137a q137c (g := (mkF m 142 #[vI nv, vI va, vI vb, vI vc, vI fg, vI 2, vI (va.toInt8.toInt32), vI (vb.toInt8.toInt32), vI (vc.toInt8.toInt32), vR b93, vR b95, vR b120, vU, vU, vU, vU] [(.ref b120)])) rfl (by rw [hml]; rfl) (Steps.refl _) (argsL := []) (rest := []) (lenOf pd_13 rfl) rfl (oz rfl) (q at_142) (fun _ _ => ⟨rfl, rfl, (by decide : 3 + 0 ≤ _), (by decide : 8 + 0 ≤ _)⟩)
  dsimp only [Pt.U, Pt.locs, Pt.cells, Pt.slots] at X137 l137 y137 z137 st137 hQ137
  subst y137 z137
  obtain ⟨rfl, N137q, e137⟩ := hQ137
  have N137 := oF l137 N129 N137q
  have pre138 : oP p e below (T137.setTop (mkF m 155 #[vI nv, vI va, vI vb, vI vc, vI fg, vI 2, vI (va.toInt8.toInt32), vI (vb.toInt8.toInt32), vI (vc.toInt8.toInt32), vR b93, vR b95, vR b120, vI 1, vU, vU, vU] [])) (s₁.setTop (entryFrame m #[(.int nv), (.int va), (.int vb), (.int vc), (.int fg)] maxLocals)) := by
   intro t k
   refine pre115 _ ?_
   refine st117 _ ?_
   refine XS.iload X117.here hx rfl (q at_73) rfl ?_
   refine XS.iconst X117.here hx rfl (q at_75) ?_
   refine XS.icmpYes X117.here hx rfl (pc0 := 76) (pc' := 127) rfl (q at_76) rfl (tlt (by decide : ((2 : Int32) < (3 : Int32)))).1 (by decide) (by decide) ?_
   refine st120 _ ?_
   refine XS.dup X120.here hx rfl (q at_130) rfl rfl ?_
   refine XS.aload X120.here hx rfl (q at_131) rfl rfl ?_
   refine XS.aload X120.here hx rfl (q at_133) rfl rfl ?_
   refine st129.trans ?_
   refine XS.astore X129.here hx rfl (q at_138) rfl rfl (l' := #[vI nv, vI va, vI vb, vI vc, vI fg, vI 2, vI (va.toInt8.toInt32), vI (vb.toInt8.toInt32), vI (vc.toInt8.toInt32), vR b93, vR b95, vR b120, vU, vU, vU, vU]) rfl ?_
   refine XS.aload X129.here hx rfl (q at_140) rfl rfl ?_
   refine st137.trans ?_
   refine XS.ifNo X137.here hx rfl (q at_145) rfl ((if0 _ _).trans (teq (by decide : ((0 : Int32) = (0 : Int32)))).2) ?_
   refine XS.iconst X137.here hx rfl (q at_148) ?_
   refine XS.goto X137.here hx rfl (pc0 := 149) (pc' := 153) rfl (q at_149) (by decide) (by decide) ?_
   refine XS.istore X137.here hx rfl (q at_153) rfl (l' := #[vI nv, vI va, vI vb, vI vc, vI fg, vI 2, vI (va.toInt8.toInt32), vI (vb.toInt8.toInt32), vI (vc.toInt8.toInt32), vR b93, vR b95, vR b120, vI 1, vU, vU, vU]) rfl ?_
   exact k
  obtain ⟨T153, h153, Lo153, X153, e153, N153, KJ153, fj153_0, fj153_1, fj153_2, pre153⟩ : ∃ (T' : State) (h' : Heap) (lo : List Loc), Stand p l e room_1 s m #[(.int nv), (.int va), (.int vb), (.int vc), (.int fg)] below meth c T' lo 4 12 ∧ T'.heap = h' ∧ Fr n0 lo ∧ Keep T129.heap h' [b120] ∧ Fld Z h' b120 cS1 "automaton" cS2 .null ∧ Fld Z h' b120 cS1 "pattern" "[B" (.ref b93) ∧ Fld Z h' b120 cS1 "links" "[I" (.ref b95) ∧ ∀ t, Steps p.tables e below (T'.setTop (mkF m 188 #[vI nv, vI va, vI vb, vI vc, vI fg, vI 2, vI (va.toInt8.toInt32), vI (vb.toInt8.toInt32), vI (vc.toInt8.toInt32), vR b93, vR b95, vR b120, vI 1, vU, vU, vU] [])) t → Steps p.tables e below (s₁.setTop (entryFrame m #[(.int nv), (.int va), (.int vb), (.int vc), (.int fg)] maxLocals)) t := by
   have pre140 : oP p e below (T137.setTop (mkF m 159 #[vI nv, vI va, vI vb, vI vc, vI fg, vI 2, vI (va.toInt8.toInt32), vI (vb.toInt8.toInt32), vI (vc.toInt8.toInt32), vR b93, vR b95, vR b120, vI 1, vU, vU, vU] [(.int (fg &&& (1 : Int32)))])) (s₁.setTop (entryFrame m #[(.int nv), (.int va), (.int vb), (.int vc), (.int fg)] maxLocals)) := by
    intro t k
    refine pre138 _ ?_
    refine XS.iload X137.here hx rfl (q at_155) rfl ?_
    refine XS.iconst X137.here hx rfl (q at_157) ?_
    refine XS.iand X137.here hx rfl (q at_158) rfl ?_
    exact k
   by_cases hk141 : (fg &&& (1 : Int32)) = (0 : Int32)
   ·have pre142 : oP p e below (T137.setTop (mkF m 188 #[vI nv, vI va, vI vb, vI vc, vI fg, vI 2, vI (va.toInt8.toInt32), vI (vb.toInt8.toInt32), vI (vc.toInt8.toInt32), vR b93, vR b95, vR b120, vI 1, vU, vU, vU] [])) (s₁.setTop (entryFrame m #[(.int nv), (.int va), (.int vb), (.int vc), (.int fg)] maxLocals)) := by
     intro t k
     refine pre140 _ ?_
     refine XS.ifYes X137.here hx rfl (pc0 := 159) (pc' := 188) rfl (q at_159) rfl ((if0 _ _).trans (teq hk141).1) (by decide) (by decide) ?_
     exact k
    exact ⟨_, _, _, X137.mono (by decide) (by decide), e137, N137, (Keep.refl T129.heap _), f130, f132, f133, fun t k => pre142 _ (by exact k)⟩
   ·obtain ⟨cq143, kq143, q143a, q143b, q143c⟩ := isOf hZ e137 f136
    obtain ⟨_, _, ⟨T143, L143, k143, n143⟩, -, X143, ⟨Lc143, hQ143, l143, y143, z143⟩, st143⟩ := X137.virtualBack hx (y := mN6) (z := mN6) hown (om hZ hw 51 rfl) (om hZ hw 52 rfl) (notFace_of_selects (args := #[]) (om hZ hw 54 rfl)) (om hZ hw 54 rfl) (om hZ hw 53 rfl) (by decide) (backOf (W := 0) (rm10k2 l Z a0 hw [] b120 b93 b95 (up (up zI 0 (va.toInt8.toInt32)) 1 (vb.toInt8.toInt32)) T129.heap n0 Z129 f136 f132 f131 f133 f130 f134 ne121 gg120) hZ (ow hw 55 rfl) (ow hw 5 rfl) (by decide) (by decide)) q143a q143c (g := (mkF m 164 #[vI nv, vI va, vI vb, vI vc, vI fg, vI 2, vI (va.toInt8.toInt32), vI (vb.toInt8.toInt32), vI (vc.toInt8.toInt32), vR b93, vR b95, vR b120, vI 1, vU, vU, vU] [(.ref b120)])) rfl (by rw [hml]; rfl) (Steps.refl _) (argsL := []) (rest := []) (lenOf pd_5 rfl) rfl (oz rfl) (q at_164) (fun _ _ => ⟨rfl, e137, (by decide : 3 + 1 ≤ _), (by decide : 8 + 4 ≤ _)⟩)
    dsimp only [Pt.U, Pt.locs, Pt.cells, Pt.slots] at X143 l143 y143 z143 st143 hQ143
    subst y143 z143
    obtain ⟨rfl, N143q, K143c, f144, f145, f146, f147⟩ := hQ143
    have N143 := oF l143 N137 N143q
    have f150 := f136.keep K143c
    have Z143 := Nat.le_trans Z129 K143c.1
    have KG143 : Keep T129.heap T143.heap [b120] := (Keep.refl T129.heap _).trans K143c (allS (Or.inl (List.mem_of_getElem? (i := 0) rfl)) all0)
    obtain ⟨cq151, kq151, q151a, q151b, q151c⟩ := isOf hZ rfl f150
    obtain ⟨_, _, ⟨T151, L151, k151, n151⟩, -, X151, ⟨Lc151, hQ151, l151, y151, z151⟩, st151⟩ := X143.virtualBack hx (y := mN9) (z := mN9) hown (om hZ hw 18 rfl) (om hZ hw 19 rfl) (notFace_of_selects (args := #[]) (om hZ hw 21 rfl)) (om hZ hw 21 rfl) (om hZ hw 20 rfl) (by decide) (backOf (W := 0) (rm3z l Z a0 hw [] b120 T143.heap n0 Z143 f147) hZ (ow hw 22 rfl) (ow hw 5 rfl) (by decide) (by decide)) q151a q151c (g := (mkF m 175 #[vI nv, vI va, vI vb, vI vc, vI fg, vI 2, vI (va.toInt8.toInt32), vI (vb.toInt8.toInt32), vI (vc.toInt8.toInt32), vR b93, vR b95, vR b120, vI 1, vU, vU, vU] [(.ref b120)])) rfl (by rw [hml]; rfl) (Steps.refl _) (argsL := []) (rest := []) (lenOf pd_13 rfl) rfl (oz rfl) (q at_175) (fun _ _ => ⟨rfl, rfl, (by decide : 4 + 0 ≤ _), (by decide : 12 + 0 ≤ _)⟩)
    dsimp only [Pt.U, Pt.locs, Pt.cells, Pt.slots] at X151 l151 y151 z151 st151 hQ151
    subst y151 z151
    obtain ⟨rfl, N151q, e151⟩ := hQ151
    have N151 := oF l151 N143 N151q
    have pre152 : oP p e below (T151.setTop (mkF m 188 #[vI nv, vI va, vI vb, vI vc, vI fg, vI 2, vI (va.toInt8.toInt32), vI (vb.toInt8.toInt32), vI (vc.toInt8.toInt32), vR b93, vR b95, vR b120, vI 1, vU, vU, vU] [])) (s₁.setTop (entryFrame m #[(.int nv), (.int va), (.int vb), (.int vc), (.int fg)] maxLocals)) := by
     intro t k
     refine pre140 _ ?_
     refine XS.ifNo X137.here hx rfl (q at_159) rfl ((if0 _ _).trans (feq hk141).1) ?_
     refine XS.aload X137.here hx rfl (q at_162) rfl rfl ?_
     refine st143.trans ?_
     refine XS.pop X143.here hx rfl (q at_167) rfl rfl ?_
     refine XS.iload X143.here hx rfl (q at_168) rfl ?_
     refine XS.ifNo X143.here hx rfl (q at_170) rfl ((if0 _ _).trans (feq (by decide : ¬ ((1 : Int32) = (0 : Int32)))).1) ?_
     refine XS.aload X143.here hx rfl (q at_173) rfl rfl ?_
     refine st151.trans ?_
     refine XS.ifNo X151.here hx rfl (q at_178) rfl ((if0 _ _).trans (teq (by decide : ((0 : Int32) = (0 : Int32)))).2) ?_
     refine XS.iconst X151.here hx rfl (q at_181) ?_
     refine XS.goto X151.here hx rfl (pc0 := 182) (pc' := 186) rfl (q at_182) (by decide) (by decide) ?_
     refine XS.istore X151.here hx rfl (q at_186) rfl (l' := #[vI nv, vI va, vI vb, vI vc, vI fg, vI 2, vI (va.toInt8.toInt32), vI (vb.toInt8.toInt32), vI (vc.toInt8.toInt32), vR b93, vR b95, vR b120, vI 1, vU, vU, vU]) rfl ?_
     exact k
    exact ⟨_, _, _, X151.mono (by decide) (by decide), e151, N151, KG143, f147, f144, f146, fun t k => pre152 _ (by exact k)⟩
  have Z153 := Nat.le_trans Z129 KJ153.1
  have f154 := f134.keep KJ153 (ninS ne121 nin0)
  have f155 := f135.keep KJ153 (ninS ne122 nin0)
  have f156 := f136.keep KJ153
  obtain ⟨T171, h171, Lo171, X171, e171, N171, KJ171, pre171⟩ : ∃ (T' : State) (h' : Heap) (lo : List Loc), Stand p l e room_1 s m #[(.int nv), (.int va), (.int vb), (.int vc), (.int fg)] below meth c T' lo 5 16 ∧ T'.heap = h' ∧ Fr n0 lo ∧ Keep h153 h' [] ∧ ∀ t, Steps p.tables e below (T'.setTop (mkF m 221 #[vI nv, vI va, vI vb, vI vc, vI fg, vI 2, vI (va.toInt8.toInt32), vI (vb.toInt8.toInt32), vI (vc.toInt8.toInt32), vR b93, vR b95, vR b120, vI 1, vU, vU, vU] [])) t → Steps p.tables e below (s₁.setTop (entryFrame m #[(.int nv), (.int va), (.int vb), (.int vc), (.int fg)] maxLocals)) t := by
   have pre158 : oP p e below (T153.setTop (mkF m 192 #[vI nv, vI va, vI vb, vI vc, vI fg, vI 2, vI (va.toInt8.toInt32), vI (vb.toInt8.toInt32), vI (vc.toInt8.toInt32), vR b93, vR b95, vR b120, vI 1, vU, vU, vU] [(.int (fg &&& (2 : Int32)))])) (s₁.setTop (entryFrame m #[(.int nv), (.int va), (.int vb), (.int vc), (.int fg)] maxLocals)) := by
    intro t k
    refine pre153 _ ?_
    refine XS.iload X153.here hx rfl (q at_188) rfl ?_
    refine XS.iconst X153.here hx rfl (q at_190) ?_
    refine XS.iand X153.here hx rfl (q at_191) rfl ?_
    exact k
   by_cases hk159 : (fg &&& (2 : Int32)) = (0 : Int32)
   ·have pre160 : oP p e below (T153.setTop (mkF m 221 #[vI nv, vI va, vI vb, vI vc, vI fg, vI 2, vI (va.toInt8.toInt32), vI (vb.toInt8.toInt32), vI (vc.toInt8.toInt32), vR b93, vR b95, vR b120, vI 1, vU, vU, vU] [])) (s₁.setTop (entryFrame m #[(.int nv), (.int va), (.int vb), (.int vc), (.int fg)] maxLocals)) := by
     intro t k
     refine pre158 _ ?_
     refine XS.ifYes X153.here hx rfl (pc0 := 192) (pc' := 221) rfl (q at_192) rfl ((if0 _ _).trans (teq hk159).1) (by decide) (by decide) ?_
     exact k
    exact ⟨_, _, _, X153.mono (by decide) (by decide), e153, N153, (Keep.refl h153 _), fun t k => pre160 _ (by exact k)⟩
   ·obtain ⟨cq161, kq161, q161a, q161b, q161c⟩ := isOf hZ e153 f156
    obtain ⟨_, _, ⟨T161, L161, k161, n161⟩, -, X161, ⟨Lc161, hQ161, l161, y161, z161⟩, st161⟩ := X153.virtualBack hx (y := mN7) (z := mN7) hown (om hZ hw 59 rfl) (om hZ hw 60 rfl) (notFace_of_selects (args := #[]) (om hZ hw 62 rfl)) (om hZ hw 62 rfl) (om hZ hw 61 rfl) (by decide) (backOf (W := 0) (rm12k2 l Z a0 hw [] b120 b93 (up (up zI 0 (va.toInt8.toInt32)) 1 (vb.toInt8.toInt32)) h153 n0 Z153 f156 fj153_1 f154) hZ (ow hw 63 rfl) (ow hw 5 rfl) (by decide) (by decide)) q161a q161c (g := (mkF m 197 #[vI nv, vI va, vI vb, vI vc, vI fg, vI 2, vI (va.toInt8.toInt32), vI (vb.toInt8.toInt32), vI (vc.toInt8.toInt32), vR b93, vR b95, vR b120, vI 1, vU, vU, vU] [(.ref b120)])) rfl (by rw [hml]; rfl) (Steps.refl _) (argsL := []) (rest := []) (lenOf pd_14 rfl) rfl (oz rfl) (q at_197) (fun _ _ => ⟨rfl, e153, (by decide : 4 + 1 ≤ _), (by decide : 12 + 4 ≤ _)⟩)
    dsimp only [Pt.U, Pt.locs, Pt.cells, Pt.slots] at X161 l161 y161 z161 st161 hQ161
    subst y161 z161
    obtain ⟨gx162, rfl, N161q, K161c⟩ := hQ161
    have N161 := oF l161 N153 N161q
    have f165 := f156.keep K161c
    have f166 := fj153_0.keep K161c nin0
    have Z161 := Nat.le_trans Z153 K161c.1
    have KG161 : Keep h153 T161.heap [] := (Keep.refl h153 _).trans K161c all0
    obtain ⟨cq169, kq169, q169a, q169b, q169c⟩ := isOf hZ rfl f165
    obtain ⟨_, _, ⟨T169, L169, k169, n169⟩, -, X169, ⟨Lc169, hQ169, l169, y169, z169⟩, st169⟩ := X161.virtualBack hx (y := mN9) (z := mN9) hown (om hZ hw 18 rfl) (om hZ hw 19 rfl) (notFace_of_selects (args := #[]) (om hZ hw 21 rfl)) (om hZ hw 21 rfl) (om hZ hw 20 rfl) (by decide) (backOf (W := 0) (rm3z l Z a0 hw [] b120 T161.heap n0 Z161 f166) hZ (ow hw 22 rfl) (ow hw 5 rfl) (by decide) (by decide)) q169a q169c (g := (mkF m 208 #[vI nv, vI va, vI vb, vI vc, vI fg, vI 2, vI (va.toInt8.toInt32), vI (vb.toInt8.toInt32), vI (vc.toInt8.toInt32), vR b93, vR b95, vR b120, vI 1, vU, vU, vU] [(.ref b120)])) rfl (by rw [hml]; rfl) (Steps.refl _) (argsL := []) (rest := []) (lenOf pd_13 rfl) rfl (oz rfl) (q at_208) (fun _ _ => ⟨rfl, rfl, (by decide : 5 + 0 ≤ _), (by decide : 16 + 0 ≤ _)⟩)
    dsimp only [Pt.U, Pt.locs, Pt.cells, Pt.slots] at X169 l169 y169 z169 st169 hQ169
    subst y169 z169
    obtain ⟨rfl, N169q, e169⟩ := hQ169
    have N169 := oF l169 N161 N169q
    have pre170 : oP p e below (T169.setTop (mkF m 221 #[vI nv, vI va, vI vb, vI vc, vI fg, vI 2, vI (va.toInt8.toInt32), vI (vb.toInt8.toInt32), vI (vc.toInt8.toInt32), vR b93, vR b95, vR b120, vI 1, vU, vU, vU] [])) (s₁.setTop (entryFrame m #[(.int nv), (.int va), (.int vb), (.int vc), (.int fg)] maxLocals)) := by
     intro t k
     refine pre158 _ ?_
     refine XS.ifNo X153.here hx rfl (q at_192) rfl ((if0 _ _).trans (feq hk159).1) ?_
     refine XS.aload X153.here hx rfl (q at_195) rfl rfl ?_
     refine st161.trans ?_
     jvm_step X161.here [X161.here.top, hx, (q at_200), Value.category]
     refine XS.iload X161.here hx rfl (q at_201) rfl ?_
     refine XS.ifNo X161.here hx rfl (q at_203) rfl ((if0 _ _).trans (feq (by decide : ¬ ((1 : Int32) = (0 : Int32)))).1) ?_
     refine XS.aload X161.here hx rfl (q at_206) rfl rfl ?_
     refine st169.trans ?_
     refine XS.ifNo X169.here hx rfl (q at_211) rfl ((if0 _ _).trans (teq (by decide : ((0 : Int32) = (0 : Int32)))).2) ?_
     refine XS.iconst X169.here hx rfl (q at_214) ?_
     refine XS.goto X169.here hx rfl (pc0 := 215) (pc' := 219) rfl (q at_215) (by decide) (by decide) ?_
     refine XS.istore X169.here hx rfl (q at_219) rfl (l' := #[vI nv, vI va, vI vb, vI vc, vI fg, vI 2, vI (va.toInt8.toInt32), vI (vb.toInt8.toInt32), vI (vc.toInt8.toInt32), vR b93, vR b95, vR b120, vI 1, vU, vU, vU]) rfl ?_
     exact k
    exact ⟨_, _, _, X169.mono (by decide) (by decide), e169, N169, KG161, fun t k => pre170 _ (by exact k)⟩
  have Z171 := Nat.le_trans Z153 KJ171.1
  have f172 := f154.keep KJ171 nin0
  have f173 := f155.keep KJ171 nin0
  have f174 := f156.keep KJ171
  have f175 := fj153_0.keep KJ171 nin0
  have f176 := fj153_1.keep KJ171 nin0
  have f177 := fj153_2.keep KJ171 nin0
  obtain ⟨cq178, kq178, q178a, q178b, q178c⟩ := isOf hZ e171 f174
  obtain ⟨_, _, ⟨T178, L178, k178, n178⟩, -, X178, ⟨Lc178, hQ178, l178, y178, z178⟩, st178⟩ := X171.virtualBack hx (y := mN19) (z := mN19) hown (om hZ hw 25 rfl) (om hZ hw 26 rfl) (notFace_of_selects (args := #[]) (om hZ hw 28 rfl)) (om hZ hw 28 rfl) (om hZ hw 27 rfl) (by decide) (backOf (W := 0) (rm4k2 l Z a0 hw [] b120 b93 b95 (up (up zI 0 (va.toInt8.toInt32)) 1 (vb.toInt8.toInt32)) (up (up zI 0 (0 : Int32)) 1 (j0_60_s0 va vb)) h171 n0 Z171 f174 f175 f176 f177 f172 f173 ne121 ne122 (own_l2 (own_j60 va vb)) gg120) hZ (ow hw 29 rfl) (ow hw 5 rfl) (by decide) (by decide)) q178a q178c (g := (mkF m 236 #[vI nv, vI va, vI vb, vI vc, vI fg, vI 2, vI (va.toInt8.toInt32), vI (vb.toInt8.toInt32), vI (vc.toInt8.toInt32), vR b93, vR b95, vR b120, vI 1, vI 1, vU, vU] [(.ref b120)])) rfl (by rw [hml]; rfl) (Steps.refl _) (argsL := []) (rest := []) (lenOf pd_15 rfl) rfl (oz rfl) (q at_236) (fun _ _ => ⟨rfl, e171, (by decide : 5 + 17 ≤ _), (by decide : 16 + 5426 ≤ _)⟩)
  dsimp only [Pt.U, Pt.locs, Pt.cells, Pt.slots] at X178 l178 y178 z178 st178 hQ178
  subst y178 z178
  obtain ⟨b179, ggb179, szb179, rfl, N178q, K178c, f180, f181, f182⟩ := hQ178
  have N178 := oF l178 N171 N178q
  have f188 := f174.keep K178c
  have Z178 := Nat.le_trans Z171 K178c.1
  obtain ⟨cq189, kq189, q189a, q189b, q189c⟩ := isOf hZ rfl f188
  obtain ⟨_, _, ⟨T189, L189, k189, n189⟩, -, X189, ⟨Lc189, hQ189, l189, y189, z189⟩, st189⟩ := X178.virtualBack hx (y := mN9) (z := mN9) hown (om hZ hw 18 rfl) (om hZ hw 19 rfl) (notFace_of_selects (args := #[]) (om hZ hw 21 rfl)) (om hZ hw 21 rfl) (om hZ hw 20 rfl) (by decide) (backOf (W := 0) (rm3r l Z a0 hw [] b120 b179 T178.heap n0 Z178 f180) hZ (ow hw 22 rfl) (ow hw 5 rfl) (by decide) (by decide)) q189a q189c (g := (mkF m 275 #[vI nv, vI va, vI vb, vI vc, vI fg, vI 2, vI (va.toInt8.toInt32), vI (vb.toInt8.toInt32), vI (vc.toInt8.toInt32), vR b93, vR b95, vR b120, vI 1, vI 1, vR b179, vU] [(.ref b120)])) rfl (by rw [hml]; rfl) (Steps.refl _) (argsL := []) (rest := []) (lenOf pd_13 rfl) rfl (oz rfl) (q at_275) (fun _ _ => ⟨rfl, rfl, (by decide : 22 + 0 ≤ _), (by decide : 5442 + 0 ≤ _)⟩)
  dsimp only [Pt.U, Pt.locs, Pt.cells, Pt.slots] at X189 l189 y189 z189 st189 hQ189
  subst y189 z189
  obtain ⟨rfl, N189q, e189⟩ := hQ189
  have N189 := oF l189 N178 N189q
  obtain ⟨cq190, kq190, q190a, q190b, q190c⟩ := isOf hZ e189 f188
  obtain ⟨_, _, ⟨T190, L190, k190, n190⟩, -, X190, ⟨Lc190, hQ190, l190, y190, z190⟩, st190⟩ := X189.virtualBack hx (y := mN19) (z := mN19) hown (om hZ hw 25 rfl) (om hZ hw 26 rfl) (notFace_of_selects (args := #[]) (om hZ hw 28 rfl)) (om hZ hw 28 rfl) (om hZ hw 27 rfl) (by decide) (backOf (W := 0) (rm4r l Z a0 hw [] b120 b179 T178.heap n0 Z178 f180) hZ (ow hw 29 rfl) (ow hw 5 rfl) (by decide) (by decide)) q190a q190c (g := (mkF m 292 #[vI nv, vI va, vI vb, vI vc, vI fg, vI 2, vI (va.toInt8.toInt32), vI (vb.toInt8.toInt32), vI (vc.toInt8.toInt32), vR b93, vR b95, vR b120, vI 1, vI 1, vR b179, vU] [(.ref b120)])) rfl (by rw [hml]; rfl) (Steps.refl _) (argsL := []) (rest := []) (lenOf pd_15 rfl) rfl (oz rfl) (q at_292) (fun _ _ => ⟨rfl, e189, (by decide : 22 + 0 ≤ _), (by decide : 5442 + 0 ≤ _)⟩)
  dsimp only [Pt.U, Pt.locs, Pt.cells, Pt.slots] at X190 l190 y190 z190 st190 hQ190
  subst y190 z190
  obtain ⟨rfl, N190q, e190⟩ := hQ190
  have N190 := oF l190 N189 N190q
  obtain ⟨cq191, kq191, q191a, q191b, q191c⟩ := isOf hZ e190 f188
  obtain ⟨_, _, ⟨T191, L191, k191, n191⟩, -, X191, ⟨Lc191, hQ191, l191, y191, z191⟩, st191⟩ := X190.virtualBack hx (y := mN9) (z := mN9) hown (om hZ hw 18 rfl) (om hZ hw 19 rfl) (notFace_of_selects (args := #[]) (om hZ hw 21 rfl)) (om hZ hw 21 rfl) (om hZ hw 20 rfl) (by decide) (backOf (W := 0) (rm3r l Z a0 hw [] b120 b179 T178.heap n0 Z178 f180) hZ (ow hw 22 rfl) (ow hw 5 rfl) (by decide) (by decide)) q191a q191c (g := (mkF m 323 #[vI nv, vI va, vI vb, vI vc, vI fg, vI 2, vI (va.toInt8.toInt32), vI (vb.toInt8.toInt32), vI (vc.toInt8.toInt32), vR b93, vR b95, vR b120, vI 1, vI 1, vR b179, vR b179] [(.ref b120)])) rfl (by rw [hml]; rfl) (Steps.refl _) (argsL := []) (rest := []) (lenOf pd_13 rfl) rfl (oz rfl) (q at_323) (fun _ _ => ⟨rfl, e190, (by decide : 22 + 0 ≤ _), (by decide : 5442 + 0 ≤ _)⟩)
  dsimp only [Pt.U, Pt.locs, Pt.cells, Pt.slots] at X191 l191 y191 z191 st191 hQ191
  subst y191 z191
  obtain ⟨rfl, N191q, e191⟩ := hQ191
  have N191 := oF l191 N190 N191q
  obtain ⟨fs, hr, hrun, hended, hW, hsame⟩ := X191.leave (v := some (.int 1)) (oR Bd.returns) (hlocks := Bd.notSynchronized)
  refine ⟨_, _, pre171 _ ?_, hrun, hended, _, _, rfl, ?_, ⟨_, rfl⟩, hW, hsame.mono (by decide) (by decide)⟩
  ·show Steps p.tables e below (T171.setTop (mkF m 221 #[vI nv, vI va, vI vb, vI vc, vI fg, vI 2, vI (va.toInt8.toInt32), vI (vb.toInt8.toInt32), vI (vc.toInt8.toInt32), vR b93, vR b95, vR b120, vI 1, vU, vU, vU] [])) _
   refine XS.iload X171.here hx rfl (q at_221) rfl ?_
   refine XS.iconst X171.here hx rfl (q at_223) ?_
   refine XS.icmpNo X171.here hx rfl (q at_224) rfl (feq (by decide : ¬ ((2 : Int32) = (1 : Int32)))).1 ?_
   refine XS.iconst X171.here hx rfl (q at_227) ?_
   refine XS.goto X171.here hx rfl (pc0 := 228) (pc' := 232) rfl (q at_228) (by decide) (by decide) ?_
   refine XS.istore X171.here hx rfl (q at_232) rfl (l' := #[vI nv, vI va, vI vb, vI vc, vI fg, vI 2, vI (va.toInt8.toInt32), vI (vb.toInt8.toInt32), vI (vc.toInt8.toInt32), vR b93, vR b95, vR b120, vI 1, vI 1, vU, vU]) rfl ?_
   refine XS.aload X171.here hx rfl (q at_234) rfl rfl ?_
   refine st178.trans ?_
   refine XS.astore X178.here hx rfl (q at_239) rfl rfl (l' := #[vI nv, vI va, vI vb, vI vc, vI fg, vI 2, vI (va.toInt8.toInt32), vI (vb.toInt8.toInt32), vI (vc.toInt8.toInt32), vR b93, vR b95, vR b120, vI 1, vI 1, vR b179, vU]) rfl ?_
   refine XS.iload X178.here hx rfl (q at_241) rfl ?_
   refine XS.ifNo X178.here hx rfl (q at_243) rfl ((if0 _ _).trans (feq (by decide : ¬ ((1 : Int32) = (0 : Int32)))).1) ?_
   refine XS.aload X178.here hx rfl (q at_246) rfl rfl ?_
   refine XS.ifnullNo X178.here hx rfl (q at_248) rfl ?_
   refine XS.iconst X178.here hx rfl (q at_251) ?_
   refine XS.goto X178.here hx rfl (pc0 := 252) (pc' := 256) rfl (q at_252) (by decide) (by decide) ?_
   refine XS.iload X178.here hx rfl (q at_256) rfl ?_
   refine XS.icmpNo X178.here hx rfl (q at_258) rfl (teq (by decide : ((1 : Int32) = (1 : Int32)))).2 ?_
   refine XS.iconst X178.here hx rfl (q at_261) ?_
   refine XS.goto X178.here hx rfl (pc0 := 262) (pc' := 266) rfl (q at_262) (by decide) (by decide) ?_
   refine XS.istore X178.here hx rfl (q at_266) rfl (l' := #[vI nv, vI va, vI vb, vI vc, vI fg, vI 2, vI (va.toInt8.toInt32), vI (vb.toInt8.toInt32), vI (vc.toInt8.toInt32), vR b93, vR b95, vR b120, vI 1, vI 1, vR b179, vU]) rfl ?_
   refine XS.iload X178.here hx rfl (q at_268) rfl ?_
   refine XS.ifNo X178.here hx rfl (q at_270) rfl ((if0 _ _).trans (feq (by decide : ¬ ((1 : Int32) = (0 : Int32)))).1) ?_
   refine XS.aload X178.here hx rfl (q at_273) rfl rfl ?_
   refine st189.trans ?_
   refine XS.iload X189.here hx rfl (q at_278) rfl ?_
   refine XS.icmpNo X189.here hx rfl (q at_280) rfl (teq (by decide : ((1 : Int32) = (1 : Int32)))).2 ?_
   refine XS.iconst X189.here hx rfl (q at_283) ?_
   refine XS.goto X189.here hx rfl (pc0 := 284) (pc' := 288) rfl (q at_284) (by decide) (by decide) ?_
   refine XS.istore X189.here hx rfl (q at_288) rfl (l' := #[vI nv, vI va, vI vb, vI vc, vI fg, vI 2, vI (va.toInt8.toInt32), vI (vb.toInt8.toInt32), vI (vc.toInt8.toInt32), vR b93, vR b95, vR b120, vI 1, vI 1, vR b179, vU]) rfl ?_
   refine XS.aload X189.here hx rfl (q at_290) rfl rfl ?_
   refine st190.trans ?_
   refine XS.astore X190.here hx rfl (q at_295) rfl rfl (l' := #[vI nv, vI va, vI vb, vI vc, vI fg, vI 2, vI (va.toInt8.toInt32), vI (vb.toInt8.toInt32), vI (vc.toInt8.toInt32), vR b93, vR b95, vR b120, vI 1, vI 1, vR b179, vR b179]) rfl ?_
   refine XS.iload X190.here hx rfl (q at_297) rfl ?_
   refine XS.ifNo X190.here hx rfl (q at_299) rfl ((if0 _ _).trans (feq (by decide : ¬ ((1 : Int32) = (0 : Int32)))).1) ?_
   refine XS.aload X190.here hx rfl (q at_302) rfl rfl ?_
   refine XS.aload X190.here hx rfl (q at_304) rfl rfl ?_
   refine Jvm.RoadKit.acmp (g := (mkF m 306 #[vI nv, vI va, vI vb, vI vc, vI fg, vI 2, vI (va.toInt8.toInt32), vI (vb.toInt8.toInt32), vI (vc.toInt8.toInt32), vR b93, vR b95, vR b120, vI 1, vI 1, vR b179, vR b179] [(.ref b179), (.ref b179)])) X190 hx rfl rfl rfl (pc0 := 306) (pc' := 309) (same := true) rfl (q at_306) rfl (decide_eq_true rfl) (by decide) (by decide) ?_
   refine XS.iconst X190.here hx rfl (q at_309) ?_
   refine XS.goto X190.here hx rfl (pc0 := 310) (pc' := 314) rfl (q at_310) (by decide) (by decide) ?_
   refine XS.istore X190.here hx rfl (q at_314) rfl (l' := #[vI nv, vI va, vI vb, vI vc, vI fg, vI 2, vI (va.toInt8.toInt32), vI (vb.toInt8.toInt32), vI (vc.toInt8.toInt32), vR b93, vR b95, vR b120, vI 1, vI 1, vR b179, vR b179]) rfl ?_
   refine XS.iload X190.here hx rfl (q at_316) rfl ?_
   refine XS.ifNo X190.here hx rfl (q at_318) rfl ((if0 _ _).trans (feq (by decide : ¬ ((1 : Int32) = (0 : Int32)))).1) ?_
   refine XS.aload X190.here hx rfl (q at_321) rfl rfl ?_
   refine st191.trans ?_
   refine XS.iload X191.here hx rfl (q at_326) rfl ?_
   refine XS.icmpNo X191.here hx rfl (q at_328) rfl (teq (by decide : ((1 : Int32) = (1 : Int32)))).2 ?_
   refine XS.iconst X191.here hx rfl (q at_331) ?_
   refine XS.goto X191.here hx rfl (pc0 := 332) (pc' := 336) rfl (q at_332) (by decide) (by decide) ?_
   refine XS.istore X191.here hx rfl (q at_336) rfl (l' := #[vI nv, vI va, vI vb, vI vc, vI fg, vI 2, vI (va.toInt8.toInt32), vI (vb.toInt8.toInt32), vI (vc.toInt8.toInt32), vR b93, vR b95, vR b120, vI 1, vI 1, vR b179, vR b179]) rfl ?_
   refine XS.iload X191.here hx rfl (q at_338) rfl ?_
   exact retN X191 hx (t := .boolean) Bd.returns (by simp) (q at_340) hr
  ·show Q0 Z nv va vb vc fg h0 n0 _ T191.heap _
   rw [e191]
   exact ⟨rfl, N191⟩
 ·have pre192 : oP p e below (s₁.setTop (mkF m 8 #[vI nv, vI va, vI vb, vI vc, vI fg, vU, vU, vU, vU, vU, vU, vU, vU, vU, vU, vU] [(.int 3)])) (s₁.setTop (entryFrame m #[(.int nv), (.int va), (.int vb), (.int vc), (.int fg)] maxLocals)) := by
   intro t k
   refine pre1 _ ?_
   rw [hk2]
   exact k
  obtain ⟨T193, h193, k193, X193, e193, E193, A193, st193⟩ := newP X0 hx hZ (ow hw 1 rfl) e0 (g := (mkF m 24 #[vI nv, vI va, vI vb, vI vc, vI fg, vI 3, vI (va.toInt8.toInt32), vI (vb.toInt8.toInt32), vI (vc.toInt8.toInt32), vU, vU, vU, vU, vU, vU, vU] [(.int 3)])) rfl (q at_24) rfl (by decide) (cap := 3) (by decide) (by decide) (by decide) (by decide)
  obtain ⟨b193, g193⟩ : ∃ z, z = h0.size := ⟨_, rfl⟩
  rw [← g193] at A193 st193
  have gg193 := oL Z0 g193
  have Z193 := Nat.le_trans Z0 E193.1
  have f194 : AI Z h193 b193 .byte 3 zI := AF.new A193 (by decide)
  obtain ⟨T195, h195, k195, X195, e195, E195, A195, st195⟩ := newP X193 hx hZ (ow hw 2 rfl) e193 (g := (mkF m 30 #[vI nv, vI va, vI vb, vI vc, vI fg, vI 3, vI (va.toInt8.toInt32), vI (vb.toInt8.toInt32), vI (vc.toInt8.toInt32), vR b193, vU, vU, vU, vU, vU, vU] [(.int 3)])) rfl (q at_30) rfl (by decide) (cap := 3) (by decide) (by decide) (by decide) (by decide)
  obtain ⟨b195, g195⟩ : ∃ z, z = h193.size := ⟨_, rfl⟩
  rw [← g195] at A195 st195
  have ne196 := oN f194.lt g195
  have gg195 := oL Z193 g195
  have f197 := f194.ext E195
  have Z195 := Nat.le_trans Z193 E195.1
  have f198 : AI Z h195 b195 .int 3 zI := AF.new A195 (by decide)
  obtain ⟨cl199, Arcl199, hincl199, -⟩ := AF.at f197 (j := (0 : Int32)) 0 (by decide) (by decide)
  obtain ⟨T200, h200, X200, e200, W200, st200⟩ := stB X195 hx hZ e195 Arcl199 (j := (0 : Int32)) hincl199 (g := (mkF m 39 #[vI nv, vI va, vI vb, vI vc, vI fg, vI 3, vI (va.toInt8.toInt32), vI (vb.toInt8.toInt32), vI (vc.toInt8.toInt32), vR b193, vR b195, vU, vU, vU, vU, vU] [(.int (va.toInt8.toInt32)), (.int 0), (.ref b193)])) rfl rfl (q at_39)
  rw [own_nb] at W200
  have N200 := Fr.snoc X200 N0 gg193
  have Z200 := Nat.le_trans Z195 (Keep.of_wr W200).1
  have f201 : AI Z h200 b193 .byte 3 (up zI 0 (va.toInt8.toInt32)) := AF.setI f197 W200 0 (by decide)
  have f202 := f198.other W200 (Ne.symm ne196)
  obtain ⟨cl203, Arcl203, hincl203, -⟩ := AF.at f202 (j := (0 : Int32)) 0 (by decide) (by decide)
  obtain ⟨T204, h204, X204, e204, W204, st204⟩ := stI X200 hx hZ e200 Arcl203 (j := (0 : Int32)) hincl203 (g := (mkF m 44 #[vI nv, vI va, vI vb, vI vc, vI fg, vI 3, vI (va.toInt8.toInt32), vI (vb.toInt8.toInt32), vI (vc.toInt8.toInt32), vR b193, vR b195, vU, vU, vU, vU, vU] [(.int 0), (.int 0), (.ref b195)])) rfl rfl (q at_44)
  have N204 := Fr.snoc X204 N200 gg195
  have Z204 := Nat.le_trans Z200 (Keep.of_wr W204).1
  have f205 : AI Z h204 b195 .int 3 (up zI 0 (0 : Int32)) := AF.setI f202 W204 0 (by decide)
  have f206 := f201.other W204 ne196
  obtain ⟨cl207, Arcl207, hincl207, -⟩ := AF.at f206 (j := (1 : Int32)) 1 (by decide) (by decide)
  obtain ⟨T208, h208, X208, e208, W208, st208⟩ := stB X204 hx hZ e204 Arcl207 (j := (1 : Int32)) hincl207 (g := (mkF m 56 #[vI nv, vI va, vI vb, vI vc, vI fg, vI 3, vI (va.toInt8.toInt32), vI (vb.toInt8.toInt32), vI (vc.toInt8.toInt32), vR b193, vR b195, vU, vU, vU, vU, vU] [(.int (vb.toInt8.toInt32)), (.int 1), (.ref b193)])) rfl rfl (q at_56)
  rw [own_nb] at W208
  have N208 := Fr.snoc X208 N204 gg193
  have Z208 := Nat.le_trans Z204 (Keep.of_wr W208).1
  have f209 : AI Z h208 b193 .byte 3 (up (up zI 0 (va.toInt8.toInt32)) 1 (vb.toInt8.toInt32)) := AF.setI f206 W208 1 (by decide)
  have f210 := f205.other W208 (Ne.symm ne196)
  have pre214 : oP p e below (T208.setTop (mkF m 60 #[vI nv, vI va, vI vb, vI vc, vI fg, vI 3, vI (va.toInt8.toInt32), vI (vb.toInt8.toInt32), vI (vc.toInt8.toInt32), vR b193, vR b195, vU, vU, vU, vU, vU] [(.int 1), (.ref b195)])) (s₁.setTop (entryFrame m #[(.int nv), (.int va), (.int vb), (.int vc), (.int fg)] maxLocals)) := by
   intro t k
   refine pre192 _ ?_
   refine XS.istore X0.here hx rfl (q at_8) rfl (l' := #[vI nv, vI va, vI vb, vI vc, vI fg, vI 3, vU, vU, vU, vU, vU, vU, vU, vU, vU, vU]) rfl ?_
   refine XS.iloadN X0.here hx rfl (q at_10) rfl ?_
   refine XS.i2b X0.here hx rfl (q at_11) rfl ?_
   refine XS.istore X0.here hx rfl (q at_12) rfl (l' := #[vI nv, vI va, vI vb, vI vc, vI fg, vI 3, vI (va.toInt8.toInt32), vU, vU, vU, vU, vU, vU, vU, vU, vU]) rfl ?_
   refine XS.iloadN X0.here hx rfl (q at_14) rfl ?_
   refine XS.i2b X0.here hx rfl (q at_15) rfl ?_
   refine XS.istore X0.here hx rfl (q at_16) rfl (l' := #[vI nv, vI va, vI vb, vI vc, vI fg, vI 3, vI (va.toInt8.toInt32), vI (vb.toInt8.toInt32), vU, vU, vU, vU, vU, vU, vU, vU]) rfl ?_
   refine XS.iloadN X0.here hx rfl (q at_18) rfl ?_
   refine XS.i2b X0.here hx rfl (q at_19) rfl ?_
   refine XS.istore X0.here hx rfl (q at_20) rfl (l' := #[vI nv, vI va, vI vb, vI vc, vI fg, vI 3, vI (va.toInt8.toInt32), vI (vb.toInt8.toInt32), vI (vc.toInt8.toInt32), vU, vU, vU, vU, vU, vU, vU]) rfl ?_
   refine XS.iload X0.here hx rfl (q at_22) rfl ?_
   refine st193 _ ?_
   refine XS.astore X193.here hx rfl (q at_26) rfl rfl (l' := #[vI nv, vI va, vI vb, vI vc, vI fg, vI 3, vI (va.toInt8.toInt32), vI (vb.toInt8.toInt32), vI (vc.toInt8.toInt32), vR b193, vU, vU, vU, vU, vU, vU]) rfl ?_
   refine XS.iload X193.here hx rfl (q at_28) rfl ?_
   refine st195 _ ?_
   refine XS.astore X195.here hx rfl (q at_32) rfl rfl (l' := #[vI nv, vI va, vI vb, vI vc, vI fg, vI 3, vI (va.toInt8.toInt32), vI (vb.toInt8.toInt32), vI (vc.toInt8.toInt32), vR b193, vR b195, vU, vU, vU, vU, vU]) rfl ?_
   refine XS.aload X195.here hx rfl (q at_34) rfl rfl ?_
   refine XS.iconst X195.here hx rfl (q at_36) ?_
   refine XS.iload X195.here hx rfl (q at_37) rfl ?_
   refine st200 _ ?_
   refine XS.aload X200.here hx rfl (q at_40) rfl rfl ?_
   refine XS.iconst X200.here hx rfl (q at_42) ?_
   refine XS.iconst X200.here hx rfl (q at_43) ?_
   refine st204 _ ?_
   refine XS.iload X204.here hx rfl (q at_45) rfl ?_
   refine XS.iconst X204.here hx rfl (q at_47) ?_
   refine XS.icmpNo X204.here hx rfl (q at_48) rfl (flt (by decide : ¬ ((3 : Int32) < (2 : Int32)))).1 ?_
   refine XS.aload X204.here hx rfl (q at_51) rfl rfl ?_
   refine XS.iconst X204.here hx rfl (q at_53) ?_
   refine XS.iload X204.here hx rfl (q at_54) rfl ?_
   refine st208 _ ?_
   refine XS.aload X208.here hx rfl (q at_57) rfl rfl ?_
   refine XS.iconst X208.here hx rfl (q at_59) ?_
   exact k
  have pre215 : oP p e below (T208.setTop (mkF m 72 #[vI nv, vI va, vI vb, vI vc, vI fg, vI 3, vI (va.toInt8.toInt32), vI (vb.toInt8.toInt32), vI (vc.toInt8.toInt32), vR b193, vR b195, vU, vU, vU, vU, vU] [(.int (j0_60_s0 va vb)), (.int 1), (.ref b195)])) (s₁.setTop (entryFrame m #[(.int nv), (.int va), (.int vb), (.int vc), (.int fg)] maxLocals)) := by
   intro t k
   refine pre214 _ ?_
   refine XS.iload X208.here hx rfl (q at_60) rfl ?_
   refine XS.iload X208.here hx rfl (q at_62) rfl ?_
   by_cases hk211 : (va.toInt8.toInt32) = (vb.toInt8.toInt32)
   ·show Steps p.tables e below (T208.setTop (mkF m 64 #[vI nv, vI va, vI vb, vI vc, vI fg, vI 3, vI (va.toInt8.toInt32), vI (vb.toInt8.toInt32), vI (vc.toInt8.toInt32), vR b193, vR b195, vU, vU, vU, vU, vU] [(.int (vb.toInt8.toInt32)), (.int (va.toInt8.toInt32)), (.int 1), (.ref b195)])) _
    refine XS.icmpNo X208.here hx rfl (q at_64) rfl (teq hk211).2 ?_
    refine XS.iconst X208.here hx rfl (q at_67) ?_
    refine XS.goto X208.here hx rfl (pc0 := 68) (pc' := 72) rfl (q at_68) (by decide) (by decide) ?_
    have ev212 : (j0_60_s0 va vb) = (1 : Int32) := by unfold j0_60_s0; rw [if_pos hk211]
    rw [ev212] at k
    exact k
   ·show Steps p.tables e below (T208.setTop (mkF m 64 #[vI nv, vI va, vI vb, vI vc, vI fg, vI 3, vI (va.toInt8.toInt32), vI (vb.toInt8.toInt32), vI (vc.toInt8.toInt32), vR b193, vR b195, vU, vU, vU, vU, vU] [(.int (vb.toInt8.toInt32)), (.int (va.toInt8.toInt32)), (.int 1), (.ref b195)])) _
    refine XS.icmpYes X208.here hx rfl (pc0 := 64) (pc' := 71) rfl (q at_64) rfl (feq hk211).2 (by decide) (by decide) ?_
    refine XS.iconst X208.here hx rfl (q at_71) ?_
    have ev213 : (j0_60_s0 va vb) = (0 : Int32) := by unfold j0_60_s0; rw [if_neg hk211]
    rw [ev213] at k
    exact k
  obtain ⟨cl216, Arcl216, hincl216, -⟩ := AF.at f210 (j := (1 : Int32)) 1 (by decide) (by decide)
  obtain ⟨T217, h217, X217, e217, W217, st217⟩ := stI X208 hx hZ e208 Arcl216 (j := (1 : Int32)) hincl216 (g := (mkF m 72 #[vI nv, vI va, vI vb, vI vc, vI fg, vI 3, vI (va.toInt8.toInt32), vI (vb.toInt8.toInt32), vI (vc.toInt8.toInt32), vR b193, vR b195, vU, vU, vU, vU, vU] [(.int (j0_60_s0 va vb)), (.int 1), (.ref b195)])) rfl rfl (q at_72)
  have N217 := Fr.snoc X217 N208 gg195
  have Z217 := Nat.le_trans Z208 (Keep.of_wr W217).1
  have f218 : AI Z h217 b195 .int 3 (up (up zI 0 (0 : Int32)) 1 (j0_60_s0 va vb)) := AF.setI f210 W217 1 (by decide)
  have f219 := f209.other W217 ne196
  obtain ⟨cl220, Arcl220, hincl220, -⟩ := AF.at f219 (j := (2 : Int32)) 2 (by decide) (by decide)
  obtain ⟨T221, h221, X221, e221, W221, st221⟩ := stB X217 hx hZ e217 Arcl220 (j := (2 : Int32)) hincl220 (g := (mkF m 84 #[vI nv, vI va, vI vb, vI vc, vI fg, vI 3, vI (va.toInt8.toInt32), vI (vb.toInt8.toInt32), vI (vc.toInt8.toInt32), vR b193, vR b195, vU, vU, vU, vU, vU] [(.int (vc.toInt8.toInt32)), (.int 2), (.ref b193)])) rfl rfl (q at_84)
  rw [own_nb] at W221
  have N221 := Fr.snoc X221 N217 gg193
  have Z221 := Nat.le_trans Z217 (Keep.of_wr W221).1
  have f222 : AI Z h221 b193 .byte 3 (up (up (up zI 0 (va.toInt8.toInt32)) 1 (vb.toInt8.toInt32)) 2 (vc.toInt8.toInt32)) := AF.setI f219 W221 2 (by decide)
  have f223 := f218.other W221 (Ne.symm ne196)
  have pre224 : oP p e below (T221.setTop (mkF m 85 #[vI nv, vI va, vI vb, vI vc, vI fg, vI 3, vI (va.toInt8.toInt32), vI (vb.toInt8.toInt32), vI (vc.toInt8.toInt32), vR b193, vR b195, vU, vU, vU, vU, vU] [])) (s₁.setTop (entryFrame m #[(.int nv), (.int va), (.int vb), (.int vc), (.int fg)] maxLocals)) := by
   intro t k
   refine pre215 _ ?_
   refine st217 _ ?_
   refine XS.iload X217.here hx rfl (q at_73) rfl ?_
   refine XS.iconst X217.here hx rfl (q at_75) ?_
   refine XS.icmpNo X217.here hx rfl (q at_76) rfl (flt (by decide : ¬ ((3 : Int32) < (3 : Int32)))).1 ?_
   refine XS.aload X217.here hx rfl (q at_79) rfl rfl ?_
   refine XS.iconst X217.here hx rfl (q at_81) ?_
   refine XS.iload X217.here hx rfl (q at_82) rfl ?_
   refine st221 _ ?_
   exact k
  obtain ⟨T259, h259, Lo259, X259, e259, N259, KJ259, fj259_0, pre259⟩ : ∃ (T' : State) (h' : Heap) (lo : List Loc), Stand p l e room_1 s m #[(.int nv), (.int va), (.int vb), (.int vc), (.int fg)] below meth c T' lo 2 6 ∧ T'.heap = h' ∧ Fr n0 lo ∧ Keep h221 h' [b195] ∧ AI Z h' b195 .int 3 (j0_85_a0 va vb vc) ∧ ∀ t, Steps p.tables e below (T'.setTop (mkF m 127 #[vI nv, vI va, vI vb, vI vc, vI fg, vI 3, vI (va.toInt8.toInt32), vI (vb.toInt8.toInt32), vI (vc.toInt8.toInt32), vR b193, vR b195, vU, vU, vU, vU, vU] [])) t → Steps p.tables e below (s₁.setTop (entryFrame m #[(.int nv), (.int va), (.int vb), (.int vc), (.int fg)] maxLocals)) t := by
   have pre226 : oP p e below (T221.setTop (mkF m 89 #[vI nv, vI va, vI vb, vI vc, vI fg, vI 3, vI (va.toInt8.toInt32), vI (vb.toInt8.toInt32), vI (vc.toInt8.toInt32), vR b193, vR b195, vU, vU, vU, vU, vU] [(.int (vb.toInt8.toInt32)), (.int (va.toInt8.toInt32))])) (s₁.setTop (entryFrame m #[(.int nv), (.int va), (.int vb), (.int vc), (.int fg)] maxLocals)) := by
    intro t k
    refine pre224 _ ?_
    refine XS.iload X221.here hx rfl (q at_85) rfl ?_
    refine XS.iload X221.here hx rfl (q at_87) rfl ?_
    exact k
   by_cases hk227 : (va.toInt8.toInt32) = (vb.toInt8.toInt32)
   ·have pre228 : oP p e below (T221.setTop (mkF m 96 #[vI nv, vI va, vI vb, vI vc, vI fg, vI 3, vI (va.toInt8.toInt32), vI (vb.toInt8.toInt32), vI (vc.toInt8.toInt32), vR b193, vR b195, vU, vU, vU, vU, vU] [(.int (vc.toInt8.toInt32)), (.int (vb.toInt8.toInt32))])) (s₁.setTop (entryFrame m #[(.int nv), (.int va), (.int vb), (.int vc), (.int fg)] maxLocals)) := by
     intro t k
     refine pre226 _ ?_
     refine XS.icmpNo X221.here hx rfl (q at_89) rfl (teq hk227).2 ?_
     refine XS.iload X221.here hx rfl (q at_92) rfl ?_
     refine XS.iload X221.here hx rfl (q at_94) rfl ?_
     exact k
    by_cases hk229 : (vb.toInt8.toInt32) = (vc.toInt8.toInt32)
    ·obtain ⟨cl230, Arcl230, hincl230, -⟩ := AF.at f223 (j := (2 : Int32)) 2 (by decide) (by decide)
     obtain ⟨T231, h231, X231, e231, W231, st231⟩ := stI X221 hx hZ e221 Arcl230 (j := (2 : Int32)) hincl230 (g := (mkF m 103 #[vI nv, vI va, vI vb, vI vc, vI fg, vI 3, vI (va.toInt8.toInt32), vI (vb.toInt8.toInt32), vI (vc.toInt8.toInt32), vR b193, vR b195, vU, vU, vU, vU, vU] [(.int 2), (.int 2), (.ref b195)])) rfl rfl (q at_103)
     have N231 := Fr.snoc X231 N221 gg195
     have KG231 : Keep h221 h231 [b195] := (Keep.refl h221 _).wr W231 (Or.inl (List.mem_of_getElem? (i := 0) rfl))
     have f232 : AI Z h231 b195 .int 3 (up (up (up zI 0 (0 : Int32)) 1 (j0_60_s0 va vb)) 2 (2 : Int32)) := AF.setI f223 W231 2 (by decide)
     have pre234 : oP p e below (T231.setTop (mkF m 127 #[vI nv, vI va, vI vb, vI vc, vI fg, vI 3, vI (va.toInt8.toInt32), vI (vb.toInt8.toInt32), vI (vc.toInt8.toInt32), vR b193, vR b195, vU, vU, vU, vU, vU] [])) (s₁.setTop (entryFrame m #[(.int nv), (.int va), (.int vb), (.int vc), (.int fg)] maxLocals)) := by
      intro t k
      refine pre228 _ ?_
      refine XS.icmpNo X221.here hx rfl (q at_96) rfl (teq hk229).2 ?_
      refine XS.aload X221.here hx rfl (q at_99) rfl rfl ?_
      refine XS.iconst X221.here hx rfl (q at_101) ?_
      refine XS.iconst X221.here hx rfl (q at_102) ?_
      refine st231 _ ?_
      refine XS.goto X231.here hx rfl (pc0 := 104) (pc' := 127) rfl (q at_104) (by decide) (by decide) ?_
      exact k
     have ev260 : (j0_85_a0 va vb vc) = (up (up (up zI 0 (0 : Int32)) 1 (j0_60_s0 va vb)) 2 (2 : Int32)) := by unfold j0_85_a0; rw [if_pos hk227, if_pos hk229]
     exact ⟨_, _, _, X231.mono (by decide) (by decide), e231, N231, KG231, (by rw [ev260]; exact f232), fun t k => pre234 _ (by exact k)⟩
    ·have pre235 : oP p e below (T221.setTop (mkF m 111 #[vI nv, vI va, vI vb, vI vc, vI fg, vI 3, vI (va.toInt8.toInt32), vI (vb.toInt8.toInt32), vI (vc.toInt8.toInt32), vR b193, vR b195, vU, vU, vU, vU, vU] [(.int (va.toInt8.toInt32)), (.int (vc.toInt8.toInt32))])) (s₁.setTop (entryFrame m #[(.int nv), (.int va), (.int vb), (.int vc), (.int fg)] maxLocals)) := by
      intro t k
      refine pre228 _ ?_
      refine XS.icmpYes X221.here hx rfl (pc0 := 96) (pc' := 107) rfl (q at_96) rfl (feq hk229).2 (by decide) (by decide) ?_
      refine XS.iload X221.here hx rfl (q at_107) rfl ?_
      refine XS.iload X221.here hx rfl (q at_109) rfl ?_
      exact k
     by_cases hk236 : (vc.toInt8.toInt32) = (va.toInt8.toInt32)
     ·obtain ⟨cl237, Arcl237, hincl237, -⟩ := AF.at f223 (j := (2 : Int32)) 2 (by decide) (by decide)
      obtain ⟨T238, h238, X238, e238, W238, st238⟩ := stI X221 hx hZ e221 Arcl237 (j := (2 : Int32)) hincl237 (g := (mkF m 118 #[vI nv, vI va, vI vb, vI vc, vI fg, vI 3, vI (va.toInt8.toInt32), vI (vb.toInt8.toInt32), vI (vc.toInt8.toInt32), vR b193, vR b195, vU, vU, vU, vU, vU] [(.int 1), (.int 2), (.ref b195)])) rfl rfl (q at_118)
      have N238 := Fr.snoc X238 N221 gg195
      have KG238 : Keep h221 h238 [b195] := (Keep.refl h221 _).wr W238 (Or.inl (List.mem_of_getElem? (i := 0) rfl))
      have f239 : AI Z h238 b195 .int 3 (up (up (up zI 0 (0 : Int32)) 1 (j0_60_s0 va vb)) 2 (1 : Int32)) := AF.setI f223 W238 2 (by decide)
      have pre241 : oP p e below (T238.setTop (mkF m 127 #[vI nv, vI va, vI vb, vI vc, vI fg, vI 3, vI (va.toInt8.toInt32), vI (vb.toInt8.toInt32), vI (vc.toInt8.toInt32), vR b193, vR b195, vU, vU, vU, vU, vU] [])) (s₁.setTop (entryFrame m #[(.int nv), (.int va), (.int vb), (.int vc), (.int fg)] maxLocals)) := by
       intro t k
       refine pre235 _ ?_
       refine XS.icmpNo X221.here hx rfl (q at_111) rfl (teq hk236).2 ?_
       refine XS.aload X221.here hx rfl (q at_114) rfl rfl ?_
       refine XS.iconst X221.here hx rfl (q at_116) ?_
       refine XS.iconst X221.here hx rfl (q at_117) ?_
       refine st238 _ ?_
       refine XS.goto X238.here hx rfl (pc0 := 119) (pc' := 127) rfl (q at_119) (by decide) (by decide) ?_
       exact k
      have ev261 : (j0_85_a0 va vb vc) = (up (up (up zI 0 (0 : Int32)) 1 (j0_60_s0 va vb)) 2 (1 : Int32)) := by unfold j0_85_a0; rw [if_pos hk227, if_neg hk229, if_pos hk236]
      exact ⟨_, _, _, X238.mono (by decide) (by decide), e238, N238, KG238, (by rw [ev261]; exact f239), fun t k => pre241 _ (by exact k)⟩
     ·obtain ⟨cl242, Arcl242, hincl242, -⟩ := AF.at f223 (j := (2 : Int32)) 2 (by decide) (by decide)
      obtain ⟨T243, h243, X243, e243, W243, st243⟩ := stI X221 hx hZ e221 Arcl242 (j := (2 : Int32)) hincl242 (g := (mkF m 126 #[vI nv, vI va, vI vb, vI vc, vI fg, vI 3, vI (va.toInt8.toInt32), vI (vb.toInt8.toInt32), vI (vc.toInt8.toInt32), vR b193, vR b195, vU, vU, vU, vU, vU] [(.int 0), (.int 2), (.ref b195)])) rfl rfl (q at_126)
      have N243 := Fr.snoc X243 N221 gg195
      have KG243 : Keep h221 h243 [b195] := (Keep.refl h221 _).wr W243 (Or.inl (List.mem_of_getElem? (i := 0) rfl))
      have f244 : AI Z h243 b195 .int 3 (up (up (up zI 0 (0 : Int32)) 1 (j0_60_s0 va vb)) 2 (0 : Int32)) := AF.setI f223 W243 2 (by decide)
      have pre246 : oP p e below (T243.setTop (mkF m 127 #[vI nv, vI va, vI vb, vI vc, vI fg, vI 3, vI (va.toInt8.toInt32), vI (vb.toInt8.toInt32), vI (vc.toInt8.toInt32), vR b193, vR b195, vU, vU, vU, vU, vU] [])) (s₁.setTop (entryFrame m #[(.int nv), (.int va), (.int vb), (.int vc), (.int fg)] maxLocals)) := by
       intro t k
       refine pre235 _ ?_
       refine XS.icmpYes X221.here hx rfl (pc0 := 111) (pc' := 122) rfl (q at_111) rfl (feq hk236).2 (by decide) (by decide) ?_
       refine XS.aload X221.here hx rfl (q at_122) rfl rfl ?_
       refine XS.iconst X221.here hx rfl (q at_124) ?_
       refine XS.iconst X221.here hx rfl (q at_125) ?_
       refine st243 _ ?_
       exact k
      have ev262 : (j0_85_a0 va vb vc) = (up (up (up zI 0 (0 : Int32)) 1 (j0_60_s0 va vb)) 2 (0 : Int32)) := by unfold j0_85_a0; rw [if_pos hk227, if_neg hk229, if_neg hk236]
      exact ⟨_, _, _, X243.mono (by decide) (by decide), e243, N243, KG243, (by rw [ev262]; exact f244), fun t k => pre246 _ (by exact k)⟩
   ·have pre247 : oP p e below (T221.setTop (mkF m 111 #[vI nv, vI va, vI vb, vI vc, vI fg, vI 3, vI (va.toInt8.toInt32), vI (vb.toInt8.toInt32), vI (vc.toInt8.toInt32), vR b193, vR b195, vU, vU, vU, vU, vU] [(.int (va.toInt8.toInt32)), (.int (vc.toInt8.toInt32))])) (s₁.setTop (entryFrame m #[(.int nv), (.int va), (.int vb), (.int vc), (.int fg)] maxLocals)) := by
     intro t k
     refine pre226 _ ?_
     refine XS.icmpYes X221.here hx rfl (pc0 := 89) (pc' := 107) rfl (q at_89) rfl (feq hk227).2 (by decide) (by decide) ?_
     refine XS.iload X221.here hx rfl (q at_107) rfl ?_
     refine XS.iload X221.here hx rfl (q at_109) rfl ?_
     exact k
    by_cases hk248 : (vc.toInt8.toInt32) = (va.toInt8.toInt32)
    ·obtain ⟨cl249, Arcl249, hincl249, -⟩ := AF.at f223 (j := (2 : Int32)) 2 (by decide) (by decide)
     obtain ⟨T250, h250, X250, e250, W250, st250⟩ := stI X221 hx hZ e221 Arcl249 (j := (2 : Int32)) hincl249 (g := (mkF m 118 #[vI nv, vI va, vI vb, vI vc, vI fg, vI 3, vI (va.toInt8.toInt32), vI (vb.toInt8.toInt32), vI (vc.toInt8.toInt32), vR b193, vR b195, vU, vU, vU, vU, vU] [(.int 1), (.int 2), (.ref b195)])) rfl rfl (q at_118)
     have N250 := Fr.snoc X250 N221 gg195
     have KG250 : Keep h221 h250 [b195] := (Keep.refl h221 _).wr W250 (Or.inl (List.mem_of_getElem? (i := 0) rfl))
     have f251 : AI Z h250 b195 .int 3 (up (up (up zI 0 (0 : Int32)) 1 (j0_60_s0 va vb)) 2 (1 : Int32)) := AF.setI f223 W250 2 (by decide)
     have pre253 : oP p e below (T250.setTop (mkF m 127 #[vI nv, vI va, vI vb, vI vc, vI fg, vI 3, vI (va.toInt8.toInt32), vI (vb.toInt8.toInt32), vI (vc.toInt8.toInt32), vR b193, vR b195, vU, vU, vU, vU, vU] [])) (s₁.setTop (entryFrame m #[(.int nv), (.int va), (.int vb), (.int vc), (.int fg)] maxLocals)) := by
      intro t k
      refine pre247 _ ?_
      refine XS.icmpNo X221.here hx rfl (q at_111) rfl (teq hk248).2 ?_
      refine XS.aload X221.here hx rfl (q at_114) rfl rfl ?_
      refine XS.iconst X221.here hx rfl (q at_116) ?_
      refine XS.iconst X221.here hx rfl (q at_117) ?_
      refine st250 _ ?_
      refine XS.goto X250.here hx rfl (pc0 := 119) (pc' := 127) rfl (q at_119) (by decide) (by decide) ?_
      exact k
     have ev263 : (j0_85_a0 va vb vc) = (up (up (up zI 0 (0 : Int32)) 1 (j0_60_s0 va vb)) 2 (1 : Int32)) := by unfold j0_85_a0; rw [if_neg hk227, if_pos hk248]
     exact ⟨_, _, _, X250.mono (by decide) (by decide), e250, N250, KG250, (by rw [ev263]; exact f251), fun t k => pre253 _ (by exact k)⟩
    ·obtain ⟨cl254, Arcl254, hincl254, -⟩ := AF.at f223 (j := (2 : Int32)) 2 (by decide) (by decide)
     obtain ⟨T255, h255, X255, e255, W255, st255⟩ := stI X221 hx hZ e221 Arcl254 (j := (2 : Int32)) hincl254 (g := (mkF m 126 #[vI nv, vI va, vI vb, vI vc, vI fg, vI 3, vI (va.toInt8.toInt32), vI (vb.toInt8.toInt32), vI (vc.toInt8.toInt32), vR b193, vR b195, vU, vU, vU, vU, vU] [(.int 0), (.int 2), (.ref b195)])) rfl rfl (q at_126)
     have N255 := Fr.snoc X255 N221 gg195
     have KG255 : Keep h221 h255 [b195] := (Keep.refl h221 _).wr W255 (Or.inl (List.mem_of_getElem? (i := 0) rfl))
     have f256 : AI Z h255 b195 .int 3 (up (up (up zI 0 (0 : Int32)) 1 (j0_60_s0 va vb)) 2 (0 : Int32)) := AF.setI f223 W255 2 (by decide)
     have pre258 : oP p e below (T255.setTop (mkF m 127 #[vI nv, vI va, vI vb, vI vc, vI fg, vI 3, vI (va.toInt8.toInt32), vI (vb.toInt8.toInt32), vI (vc.toInt8.toInt32), vR b193, vR b195, vU, vU, vU, vU, vU] [])) (s₁.setTop (entryFrame m #[(.int nv), (.int va), (.int vb), (.int vc), (.int fg)] maxLocals)) := by
      intro t k
      refine pre247 _ ?_
      refine XS.icmpYes X221.here hx rfl (pc0 := 111) (pc' := 122) rfl (q at_111) rfl (feq hk248).2 (by decide) (by decide) ?_
      refine XS.aload X221.here hx rfl (q at_122) rfl rfl ?_
      refine XS.iconst X221.here hx rfl (q at_124) ?_
      refine XS.iconst X221.here hx rfl (q at_125) ?_
      refine st255 _ ?_
      exact k
     have ev264 : (j0_85_a0 va vb vc) = (up (up (up zI 0 (0 : Int32)) 1 (j0_60_s0 va vb)) 2 (0 : Int32)) := by unfold j0_85_a0; rw [if_neg hk227, if_neg hk248]
     exact ⟨_, _, _, X255.mono (by decide) (by decide), e255, N255, KG255, (by rw [ev264]; exact f256), fun t k => pre258 _ (by exact k)⟩
  have Z259 := Nat.le_trans Z221 KJ259.1
  have f265 := f222.keep KJ259 (ninS ne196 nin0)
  obtain ⟨T266, h266, X266, e266, E266, A266, D266, -, st266⟩ := newO X259 hx hZ hown (ow hw 3 rfl) (ow hw 4 rfl) (ow hw 5 rfl) e259 (g := (mkF m 127 #[vI nv, vI va, vI vb, vI vc, vI fg, vI 3, vI (va.toInt8.toInt32), vI (vb.toInt8.toInt32), vI (vc.toInt8.toInt32), vR b193, vR b195, vU, vU, vU, vU, vU] [])) rfl (q at_127) (by decide) (by decide)
  obtain ⟨b266, g266⟩ : ∃ z, z = h259.size := ⟨_, rfl⟩
  rw [← g266] at A266 D266 st266
  have ne267 := oN f265.lt g266
  have ne268 := oN fj259_0.lt g266
  have gg266 := oL Z259 g266
  have f269 := f265.ext E266
  have f270 := fj259_0.ext E266
  have Z266 := Nat.le_trans Z259 E266.1
  have f271 : Fld Z h266 b266 cS1 "width" "I" (.int 0) := D266 (Or.inl (ow hw 13 rfl)) (ty := .int) (by decide)
  have f272 : Fld Z h266 b266 cS1 "pattern" "[B" .null := D266 (Or.inr (ow hw 15 rfl)) (ty := (.array .byte)) (by decide)
  have f273 : Fld Z h266 b266 cS1 "links" "[I" .null := D266 (Or.inr (ow hw 17 rfl)) (ty := (.array .int)) (by decide)
  have f274 : Fld Z h266 b266 cS1 "automaton" cS2 .null := D266 (Or.inl (ow hw 24 rfl)) (ty := (.object cS0)) (by decide)
  obtain ⟨_, _, ⟨T275, L275, k275, n275⟩, -, X275, ⟨Lc275, hQ275, l275, y275, z275⟩, st275⟩ := X266.specialBack hx (y := mN8) rfl hown (om hZ hw 6 rfl) (om hZ hw 7 rfl) (om hZ hw 8 rfl) (by decide) (backOf (W := 1) (rm1 l Z a0 hw [] b266 b193 b195 h266 n0 Z266 A266 f274 f271 f272 f273 gg266) hZ (ow hw 8 rfl) (ow hw 5 rfl) (by decide) (by decide)) (g := (mkF m 135 #[vI nv, vI va, vI vb, vI vc, vI fg, vI 3, vI (va.toInt8.toInt32), vI (vb.toInt8.toInt32), vI (vc.toInt8.toInt32), vR b193, vR b195, vU, vU, vU, vU, vU] [(.ref b195), (.ref b193), (.ref b266), (.ref b266)])) rfl (by rw [hml]; rfl) (Steps.refl _) (a := b266) (argsL := [(.ref b193), (.ref b195)]) (rest := [(.ref b266)]) (lenOf pd_12 rfl) rfl (oz rfl) (q at_135) (fun _ _ => ⟨rfl, e266, (by decide : 3 + 0 ≤ _), (by decide : 10 + 0 ≤ _)⟩)
  dsimp only [Pt.U, Pt.locs, Pt.cells, Pt.slots] at X275 l275 y275 z275 st275 hQ275
  subst y275 z275
  obtain ⟨rfl, N275q, K275c, f276, f277, f278, f279⟩ := hQ275
  have N275 := oF l275 N259 N275q
  have f280 := f269.keep K275c (ninS ne267 nin0)
  have f281 := f270.keep K275c (ninS ne268 nin0)
  have f282 := A266.keep K275c
  have Z275 := Nat.le_trans Z266 K275c.1
  obtain ⟨cq283, kq283, q283a, q283b, q283c⟩ := isOf hZ rfl f282
  obtain ⟨_, _, ⟨T283, L283, k283, n283⟩, -, X283, ⟨Lc283, hQ283, l283, y283, z283⟩, st283⟩ := X275.virtualBack hx (y := mN9) (z := mN9) hown (om hZ hw 18 rfl) (om hZ hw 19 rfl) (notFace_of_selects (args := #[]) (om hZ hw 21 rfl)) (om hZ hw 21 rfl) (om hZ hw 20 rfl) (by decide) (backOf (W := 0) (rm3z l Z a0 hw [] b266 T275.heap n0 Z275 f276) hZ (ow hw 22 rfl) (ow hw 5 rfl) (by decide) (by decide)) q283a q283c (g := (mkF m 142 #[vI nv, vI va, vI vb, vI vc, vI fg, vI 3, vI (va.toInt8.toInt32), vI (vb.toInt8.toInt32), vI (vc.toInt8.toInt32), vR b193, vR b195, vR b266, vU, vU, vU, vU] [(.ref b266)])) rfl (by rw [hml]; rfl) (Steps.refl _) (argsL := []) (rest := []) (lenOf pd_13 rfl) rfl (oz rfl) (q at_142) (fun _ _ => ⟨rfl, rfl, (by decide : 3 + 0 ≤ _), (by decide : 10 + 0 ≤ _)⟩)
  dsimp only [Pt.U, Pt.locs, Pt.cells, Pt.slots] at X283 l283 y283 z283 st283 hQ283
  subst y283 z283
  obtain ⟨rfl, N283q, e283⟩ := hQ283
  have N283 := oF l283 N275 N283q
  have pre284 : oP p e below (T283.setTop (mkF m 155 #[vI nv, vI va, vI vb, vI vc, vI fg, vI 3, vI (va.toInt8.toInt32), vI (vb.toInt8.toInt32), vI (vc.toInt8.toInt32), vR b193, vR b195, vR b266, vI 1, vU, vU, vU] [])) (s₁.setTop (entryFrame m #[(.int nv), (.int va), (.int vb), (.int vc), (.int fg)] maxLocals)) := by
   intro t k
   refine pre259 _ ?_
   refine st266 _ ?_
   refine XS.dup X266.here hx rfl (q at_130) rfl rfl ?_
   refine XS.aload X266.here hx rfl (q at_131) rfl rfl ?_
   refine XS.aload X266.here hx rfl (q at_133) rfl rfl ?_
   refine st275.trans ?_
   refine XS.astore X275.here hx rfl (q at_138) rfl rfl (l' := #[vI nv, vI va, vI vb, vI vc, vI fg, vI 3, vI (va.toInt8.toInt32), vI (vb.toInt8.toInt32), vI (vc.toInt8.toInt32), vR b193, vR b195, vR b266, vU, vU, vU, vU]) rfl ?_
   refine XS.aload X275.here hx rfl (q at_140) rfl rfl ?_
   refine st283.trans ?_
   refine XS.ifNo X283.here hx rfl (q at_145) rfl ((if0 _ _).trans (teq (by decide : ((0 : Int32) = (0 : Int32)))).2) ?_
   refine XS.iconst X283.here hx rfl (q at_148) ?_
   refine XS.goto X283.here hx rfl (pc0 := 149) (pc' := 153) rfl (q at_149) (by decide) (by decide) ?_
   refine XS.istore X283.here hx rfl (q at_153) rfl (l' := #[vI nv, vI va, vI vb, vI vc, vI fg, vI 3, vI (va.toInt8.toInt32), vI (vb.toInt8.toInt32), vI (vc.toInt8.toInt32), vR b193, vR b195, vR b266, vI 1, vU, vU, vU]) rfl ?_
   exact k
  obtain ⟨T299, h299, Lo299, X299, e299, N299, KJ299, fj299_0, fj299_1, fj299_2, pre299⟩ : ∃ (T' : State) (h' : Heap) (lo : List Loc), Stand p l e room_1 s m #[(.int nv), (.int va), (.int vb), (.int vc), (.int fg)] below meth c T' lo 4 14 ∧ T'.heap = h' ∧ Fr n0 lo ∧ Keep T275.heap h' [b266] ∧ Fld Z h' b266 cS1 "automaton" cS2 .null ∧ Fld Z h' b266 cS1 "pattern" "[B" (.ref b193) ∧ Fld Z h' b266 cS1 "links" "[I" (.ref b195) ∧ ∀ t, Steps p.tables e below (T'.setTop (mkF m 188 #[vI nv, vI va, vI vb, vI vc, vI fg, vI 3, vI (va.toInt8.toInt32), vI (vb.toInt8.toInt32), vI (vc.toInt8.toInt32), vR b193, vR b195, vR b266, vI 1, vU, vU, vU] [])) t → Steps p.tables e below (s₁.setTop (entryFrame m #[(.int nv), (.int va), (.int vb), (.int vc), (.int fg)] maxLocals)) t := by
   have pre286 : oP p e below (T283.setTop (mkF m 159 #[vI nv, vI va, vI vb, vI vc, vI fg, vI 3, vI (va.toInt8.toInt32), vI (vb.toInt8.toInt32), vI (vc.toInt8.toInt32), vR b193, vR b195, vR b266, vI 1, vU, vU, vU] [(.int (fg &&& (1 : Int32)))])) (s₁.setTop (entryFrame m #[(.int nv), (.int va), (.int vb), (.int vc), (.int fg)] maxLocals)) := by
    intro t k
    refine pre284 _ ?_
    refine XS.iload X283.here hx rfl (q at_155) rfl ?_
    refine XS.iconst X283.here hx rfl (q at_157) ?_
    refine XS.iand X283.here hx rfl (q at_158) rfl ?_
    exact k
   by_cases hk287 : (fg &&& (1 : Int32)) = (0 : Int32)
   ·have pre288 : oP p e below (T283.setTop (mkF m 188 #[vI nv, vI va, vI vb, vI vc, vI fg, vI 3, vI (va.toInt8.toInt32), vI (vb.toInt8.toInt32), vI (vc.toInt8.toInt32), vR b193, vR b195, vR b266, vI 1, vU, vU, vU] [])) (s₁.setTop (entryFrame m #[(.int nv), (.int va), (.int vb), (.int vc), (.int fg)] maxLocals)) := by
     intro t k
     refine pre286 _ ?_
     refine XS.ifYes X283.here hx rfl (pc0 := 159) (pc' := 188) rfl (q at_159) rfl ((if0 _ _).trans (teq hk287).1) (by decide) (by decide) ?_
     exact k
    exact ⟨_, _, _, X283.mono (by decide) (by decide), e283, N283, (Keep.refl T275.heap _), f276, f278, f279, fun t k => pre288 _ (by exact k)⟩
   ·obtain ⟨cq289, kq289, q289a, q289b, q289c⟩ := isOf hZ e283 f282
    obtain ⟨_, _, ⟨T289, L289, k289, n289⟩, -, X289, ⟨Lc289, hQ289, l289, y289, z289⟩, st289⟩ := X283.virtualBack hx (y := mN6) (z := mN6) hown (om hZ hw 51 rfl) (om hZ hw 52 rfl) (notFace_of_selects (args := #[]) (om hZ hw 54 rfl)) (om hZ hw 54 rfl) (om hZ hw 53 rfl) (by decide) (backOf (W := 0) (rm10k3 l Z a0 hw [] b266 b193 b195 (up (up (up zI 0 (va.toInt8.toInt32)) 1 (vb.toInt8.toInt32)) 2 (vc.toInt8.toInt32)) T275.heap n0 Z275 f282 f278 f277 f279 f276 f280 ne267 gg266) hZ (ow hw 55 rfl) (ow hw 5 rfl) (by decide) (by decide)) q289a q289c (g := (mkF m 164 #[vI nv, vI va, vI vb, vI vc, vI fg, vI 3, vI (va.toInt8.toInt32), vI (vb.toInt8.toInt32), vI (vc.toInt8.toInt32), vR b193, vR b195, vR b266, vI 1, vU, vU, vU] [(.ref b266)])) rfl (by rw [hml]; rfl) (Steps.refl _) (argsL := []) (rest := []) (lenOf pd_5 rfl) rfl (oz rfl) (q at_164) (fun _ _ => ⟨rfl, e283, (by decide : 3 + 1 ≤ _), (by decide : 10 + 4 ≤ _)⟩)
    dsimp only [Pt.U, Pt.locs, Pt.cells, Pt.slots] at X289 l289 y289 z289 st289 hQ289
    subst y289 z289
    obtain ⟨rfl, N289q, K289c, f290, f291, f292, f293⟩ := hQ289
    have N289 := oF l289 N283 N289q
    have f296 := f282.keep K289c
    have Z289 := Nat.le_trans Z275 K289c.1
    have KG289 : Keep T275.heap T289.heap [b266] := (Keep.refl T275.heap _).trans K289c (allS (Or.inl (List.mem_of_getElem? (i := 0) rfl)) all0)
    obtain ⟨cq297, kq297, q297a, q297b, q297c⟩ := isOf hZ rfl f296
    obtain ⟨_, _, ⟨T297, L297, k297, n297⟩, -, X297, ⟨Lc297, hQ297, l297, y297, z297⟩, st297⟩ := X289.virtualBack hx (y := mN9) (z := mN9) hown (om hZ hw 18 rfl) (om hZ hw 19 rfl) (notFace_of_selects (args := #[]) (om hZ hw 21 rfl)) (om hZ hw 21 rfl) (om hZ hw 20 rfl) (by decide) (backOf (W := 0) (rm3z l Z a0 hw [] b266 T289.heap n0 Z289 f293) hZ (ow hw 22 rfl) (ow hw 5 rfl) (by decide) (by decide)) q297a q297c (g := (mkF m 175 #[vI nv, vI va, vI vb, vI vc, vI fg, vI 3, vI (va.toInt8.toInt32), vI (vb.toInt8.toInt32), vI (vc.toInt8.toInt32), vR b193, vR b195, vR b266, vI 1, vU, vU, vU] [(.ref b266)])) rfl (by rw [hml]; rfl) (Steps.refl _) (argsL := []) (rest := []) (lenOf pd_13 rfl) rfl (oz rfl) (q at_175) (fun _ _ => ⟨rfl, rfl, (by decide : 4 + 0 ≤ _), (by decide : 14 + 0 ≤ _)⟩)
    dsimp only [Pt.U, Pt.locs, Pt.cells, Pt.slots] at X297 l297 y297 z297 st297 hQ297
    subst y297 z297
    obtain ⟨rfl, N297q, e297⟩ := hQ297
    have N297 := oF l297 N289 N297q
    have pre298 : oP p e below (T297.setTop (mkF m 188 #[vI nv, vI va, vI vb, vI vc, vI fg, vI 3, vI (va.toInt8.toInt32), vI (vb.toInt8.toInt32), vI (vc.toInt8.toInt32), vR b193, vR b195, vR b266, vI 1, vU, vU, vU] [])) (s₁.setTop (entryFrame m #[(.int nv), (.int va), (.int vb), (.int vc), (.int fg)] maxLocals)) := by
     intro t k
     refine pre286 _ ?_
     refine XS.ifNo X283.here hx rfl (q at_159) rfl ((if0 _ _).trans (feq hk287).1) ?_
     refine XS.aload X283.here hx rfl (q at_162) rfl rfl ?_
     refine st289.trans ?_
     refine XS.pop X289.here hx rfl (q at_167) rfl rfl ?_
     refine XS.iload X289.here hx rfl (q at_168) rfl ?_
     refine XS.ifNo X289.here hx rfl (q at_170) rfl ((if0 _ _).trans (feq (by decide : ¬ ((1 : Int32) = (0 : Int32)))).1) ?_
     refine XS.aload X289.here hx rfl (q at_173) rfl rfl ?_
     refine st297.trans ?_
     refine XS.ifNo X297.here hx rfl (q at_178) rfl ((if0 _ _).trans (teq (by decide : ((0 : Int32) = (0 : Int32)))).2) ?_
     refine XS.iconst X297.here hx rfl (q at_181) ?_
     refine XS.goto X297.here hx rfl (pc0 := 182) (pc' := 186) rfl (q at_182) (by decide) (by decide) ?_
     refine XS.istore X297.here hx rfl (q at_186) rfl (l' := #[vI nv, vI va, vI vb, vI vc, vI fg, vI 3, vI (va.toInt8.toInt32), vI (vb.toInt8.toInt32), vI (vc.toInt8.toInt32), vR b193, vR b195, vR b266, vI 1, vU, vU, vU]) rfl ?_
     exact k
    exact ⟨_, _, _, X297.mono (by decide) (by decide), e297, N297, KG289, f293, f290, f292, fun t k => pre298 _ (by exact k)⟩
  have Z299 := Nat.le_trans Z275 KJ299.1
  have f300 := f280.keep KJ299 (ninS ne267 nin0)
  have f301 := f281.keep KJ299 (ninS ne268 nin0)
  have f302 := f282.keep KJ299
  obtain ⟨T317, h317, Lo317, X317, e317, N317, KJ317, pre317⟩ : ∃ (T' : State) (h' : Heap) (lo : List Loc), Stand p l e room_1 s m #[(.int nv), (.int va), (.int vb), (.int vc), (.int fg)] below meth c T' lo 5 18 ∧ T'.heap = h' ∧ Fr n0 lo ∧ Keep h299 h' [] ∧ ∀ t, Steps p.tables e below (T'.setTop (mkF m 221 #[vI nv, vI va, vI vb, vI vc, vI fg, vI 3, vI (va.toInt8.toInt32), vI (vb.toInt8.toInt32), vI (vc.toInt8.toInt32), vR b193, vR b195, vR b266, vI 1, vU, vU, vU] [])) t → Steps p.tables e below (s₁.setTop (entryFrame m #[(.int nv), (.int va), (.int vb), (.int vc), (.int fg)] maxLocals)) t := by
   have pre304 : oP p e below (T299.setTop (mkF m 192 #[vI nv, vI va, vI vb, vI vc, vI fg, vI 3, vI (va.toInt8.toInt32), vI (vb.toInt8.toInt32), vI (vc.toInt8.toInt32), vR b193, vR b195, vR b266, vI 1, vU, vU, vU] [(.int (fg &&& (2 : Int32)))])) (s₁.setTop (entryFrame m #[(.int nv), (.int va), (.int vb), (.int vc), (.int fg)] maxLocals)) := by
    intro t k
    refine pre299 _ ?_
    refine XS.iload X299.here hx rfl (q at_188) rfl ?_
    refine XS.iconst X299.here hx rfl (q at_190) ?_
    refine XS.iand X299.here hx rfl (q at_191) rfl ?_
    exact k
   by_cases hk305 : (fg &&& (2 : Int32)) = (0 : Int32)
   ·have pre306 : oP p e below (T299.setTop (mkF m 221 #[vI nv, vI va, vI vb, vI vc, vI fg, vI 3, vI (va.toInt8.toInt32), vI (vb.toInt8.toInt32), vI (vc.toInt8.toInt32), vR b193, vR b195, vR b266, vI 1, vU, vU, vU] [])) (s₁.setTop (entryFrame m #[(.int nv), (.int va), (.int vb), (.int vc), (.int fg)] maxLocals)) := by
     intro t k
     refine pre304 _ ?_
     refine XS.ifYes X299.here hx rfl (pc0 := 192) (pc' := 221) rfl (q at_192) rfl ((if0 _ _).trans (teq hk305).1) (by decide) (by decide) ?_
     exact k
    exact ⟨_, _, _, X299.mono (by decide) (by decide), e299, N299, (Keep.refl h299 _), fun t k => pre306 _ (by exact k)⟩
   ·obtain ⟨cq307, kq307, q307a, q307b, q307c⟩ := isOf hZ e299 f302
    obtain ⟨_, _, ⟨T307, L307, k307, n307⟩, -, X307, ⟨Lc307, hQ307, l307, y307, z307⟩, st307⟩ := X299.virtualBack hx (y := mN7) (z := mN7) hown (om hZ hw 59 rfl) (om hZ hw 60 rfl) (notFace_of_selects (args := #[]) (om hZ hw 62 rfl)) (om hZ hw 62 rfl) (om hZ hw 61 rfl) (by decide) (backOf (W := 0) (rm12k3 l Z a0 hw [] b266 b193 (up (up (up zI 0 (va.toInt8.toInt32)) 1 (vb.toInt8.toInt32)) 2 (vc.toInt8.toInt32)) h299 n0 Z299 f302 fj299_1 f300) hZ (ow hw 63 rfl) (ow hw 5 rfl) (by decide) (by decide)) q307a q307c (g := (mkF m 197 #[vI nv, vI va, vI vb, vI vc, vI fg, vI 3, vI (va.toInt8.toInt32), vI (vb.toInt8.toInt32), vI (vc.toInt8.toInt32), vR b193, vR b195, vR b266, vI 1, vU, vU, vU] [(.ref b266)])) rfl (by rw [hml]; rfl) (Steps.refl _) (argsL := []) (rest := []) (lenOf pd_14 rfl) rfl (oz rfl) (q at_197) (fun _ _ => ⟨rfl, e299, (by decide : 4 + 1 ≤ _), (by decide : 14 + 4 ≤ _)⟩)
    dsimp only [Pt.U, Pt.locs, Pt.cells, Pt.slots] at X307 l307 y307 z307 st307 hQ307
    subst y307 z307
    obtain ⟨gx308, rfl, N307q, K307c⟩ := hQ307
    have N307 := oF l307 N299 N307q
    have f311 := f302.keep K307c
    have f312 := fj299_0.keep K307c nin0
    have Z307 := Nat.le_trans Z299 K307c.1
    have KG307 : Keep h299 T307.heap [] := (Keep.refl h299 _).trans K307c all0
    obtain ⟨cq315, kq315, q315a, q315b, q315c⟩ := isOf hZ rfl f311
    obtain ⟨_, _, ⟨T315, L315, k315, n315⟩, -, X315, ⟨Lc315, hQ315, l315, y315, z315⟩, st315⟩ := X307.virtualBack hx (y := mN9) (z := mN9) hown (om hZ hw 18 rfl) (om hZ hw 19 rfl) (notFace_of_selects (args := #[]) (om hZ hw 21 rfl)) (om hZ hw 21 rfl) (om hZ hw 20 rfl) (by decide) (backOf (W := 0) (rm3z l Z a0 hw [] b266 T307.heap n0 Z307 f312) hZ (ow hw 22 rfl) (ow hw 5 rfl) (by decide) (by decide)) q315a q315c (g := (mkF m 208 #[vI nv, vI va, vI vb, vI vc, vI fg, vI 3, vI (va.toInt8.toInt32), vI (vb.toInt8.toInt32), vI (vc.toInt8.toInt32), vR b193, vR b195, vR b266, vI 1, vU, vU, vU] [(.ref b266)])) rfl (by rw [hml]; rfl) (Steps.refl _) (argsL := []) (rest := []) (lenOf pd_13 rfl) rfl (oz rfl) (q at_208) (fun _ _ => ⟨rfl, rfl, (by decide : 5 + 0 ≤ _), (by decide : 18 + 0 ≤ _)⟩)
    dsimp only [Pt.U, Pt.locs, Pt.cells, Pt.slots] at X315 l315 y315 z315 st315 hQ315
    subst y315 z315
    obtain ⟨rfl, N315q, e315⟩ := hQ315
    have N315 := oF l315 N307 N315q
    have pre316 : oP p e below (T315.setTop (mkF m 221 #[vI nv, vI va, vI vb, vI vc, vI fg, vI 3, vI (va.toInt8.toInt32), vI (vb.toInt8.toInt32), vI (vc.toInt8.toInt32), vR b193, vR b195, vR b266, vI 1, vU, vU, vU] [])) (s₁.setTop (entryFrame m #[(.int nv), (.int va), (.int vb), (.int vc), (.int fg)] maxLocals)) := by
     intro t k
     refine pre304 _ ?_
     refine XS.ifNo X299.here hx rfl (q at_192) rfl ((if0 _ _).trans (feq hk305).1) ?_
     refine XS.aload X299.here hx rfl (q at_195) rfl rfl ?_
     refine st307.trans ?_
     jvm_step X307.here [X307.here.top, hx, (q at_200), Value.category]
     refine XS.iload X307.here hx rfl (q at_201) rfl ?_
     refine XS.ifNo X307.here hx rfl (q at_203) rfl ((if0 _ _).trans (feq (by decide : ¬ ((1 : Int32) = (0 : Int32)))).1) ?_
     refine XS.aload X307.here hx rfl (q at_206) rfl rfl ?_
     refine st315.trans ?_
     refine XS.ifNo X315.here hx rfl (q at_211) rfl ((if0 _ _).trans (teq (by decide : ((0 : Int32) = (0 : Int32)))).2) ?_
     refine XS.iconst X315.here hx rfl (q at_214) ?_
     refine XS.goto X315.here hx rfl (pc0 := 215) (pc' := 219) rfl (q at_215) (by decide) (by decide) ?_
     refine XS.istore X315.here hx rfl (q at_219) rfl (l' := #[vI nv, vI va, vI vb, vI vc, vI fg, vI 3, vI (va.toInt8.toInt32), vI (vb.toInt8.toInt32), vI (vc.toInt8.toInt32), vR b193, vR b195, vR b266, vI 1, vU, vU, vU]) rfl ?_
     exact k
    exact ⟨_, _, _, X315.mono (by decide) (by decide), e315, N315, KG307, fun t k => pre316 _ (by exact k)⟩
  have Z317 := Nat.le_trans Z299 KJ317.1
  have f318 := f300.keep KJ317 nin0
  have f319 := f301.keep KJ317 nin0
  have f320 := f302.keep KJ317
  have f321 := fj299_0.keep KJ317 nin0
  have f322 := fj299_1.keep KJ317 nin0
  have f323 := fj299_2.keep KJ317 nin0
  obtain ⟨cq324, kq324, q324a, q324b, q324c⟩ := isOf hZ e317 f320
  obtain ⟨_, _, ⟨T324, L324, k324, n324⟩, -, X324, ⟨Lc324, hQ324, l324, y324, z324⟩, st324⟩ := X317.virtualBack hx (y := mN19) (z := mN19) hown (om hZ hw 25 rfl) (om hZ hw 26 rfl) (notFace_of_selects (args := #[]) (om hZ hw 28 rfl)) (om hZ hw 28 rfl) (om hZ hw 27 rfl) (by decide) (backOf (W := 0) (rm4k3 l Z a0 hw [] b266 b193 b195 (up (up (up zI 0 (va.toInt8.toInt32)) 1 (vb.toInt8.toInt32)) 2 (vc.toInt8.toInt32)) (j0_85_a0 va vb vc) h317 n0 Z317 f320 f321 f322 f323 f318 f319 ne267 ne268 (own_l85 va vb vc) gg266) hZ (ow hw 29 rfl) (ow hw 5 rfl) (by decide) (by decide)) q324a q324c (g := (mkF m 236 #[vI nv, vI va, vI vb, vI vc, vI fg, vI 3, vI (va.toInt8.toInt32), vI (vb.toInt8.toInt32), vI (vc.toInt8.toInt32), vR b193, vR b195, vR b266, vI 1, vI 1, vU, vU] [(.ref b266)])) rfl (by rw [hml]; rfl) (Steps.refl _) (argsL := []) (rest := []) (lenOf pd_15 rfl) rfl (oz rfl) (q at_236) (fun _ _ => ⟨rfl, e317, (by decide : 5 + 17 ≤ _), (by decide : 18 + 5434 ≤ _)⟩)
  dsimp only [Pt.U, Pt.locs, Pt.cells, Pt.slots] at X324 l324 y324 z324 st324 hQ324
  subst y324 z324
  obtain ⟨b325, ggb325, szb325, rfl, N324q, K324c, f326, f327, f328⟩ := hQ324
  have N324 := oF l324 N317 N324q
  have f334 := f320.keep K324c
  have Z324 := Nat.le_trans Z317 K324c.1
  obtain ⟨cq335, kq335, q335a, q335b, q335c⟩ := isOf hZ rfl f334
  obtain ⟨_, _, ⟨T335, L335, k335, n335⟩, -, X335, ⟨Lc335, hQ335, l335, y335, z335⟩, st335⟩ := X324.virtualBack hx (y := mN9) (z := mN9) hown (om hZ hw 18 rfl) (om hZ hw 19 rfl) (notFace_of_selects (args := #[]) (om hZ hw 21 rfl)) (om hZ hw 21 rfl) (om hZ hw 20 rfl) (by decide) (backOf (W := 0) (rm3r l Z a0 hw [] b266 b325 T324.heap n0 Z324 f326) hZ (ow hw 22 rfl) (ow hw 5 rfl) (by decide) (by decide)) q335a q335c (g := (mkF m 275 #[vI nv, vI va, vI vb, vI vc, vI fg, vI 3, vI (va.toInt8.toInt32), vI (vb.toInt8.toInt32), vI (vc.toInt8.toInt32), vR b193, vR b195, vR b266, vI 1, vI 1, vR b325, vU] [(.ref b266)])) rfl (by rw [hml]; rfl) (Steps.refl _) (argsL := []) (rest := []) (lenOf pd_13 rfl) rfl (oz rfl) (q at_275) (fun _ _ => ⟨rfl, rfl, (by decide : 22 + 0 ≤ _), (by decide : 5452 + 0 ≤ _)⟩)
  dsimp only [Pt.U, Pt.locs, Pt.cells, Pt.slots] at X335 l335 y335 z335 st335 hQ335
  subst y335 z335
  obtain ⟨rfl, N335q, e335⟩ := hQ335
  have N335 := oF l335 N324 N335q
  obtain ⟨cq336, kq336, q336a, q336b, q336c⟩ := isOf hZ e335 f334
  obtain ⟨_, _, ⟨T336, L336, k336, n336⟩, -, X336, ⟨Lc336, hQ336, l336, y336, z336⟩, st336⟩ := X335.virtualBack hx (y := mN19) (z := mN19) hown (om hZ hw 25 rfl) (om hZ hw 26 rfl) (notFace_of_selects (args := #[]) (om hZ hw 28 rfl)) (om hZ hw 28 rfl) (om hZ hw 27 rfl) (by decide) (backOf (W := 0) (rm4r l Z a0 hw [] b266 b325 T324.heap n0 Z324 f326) hZ (ow hw 29 rfl) (ow hw 5 rfl) (by decide) (by decide)) q336a q336c (g := (mkF m 292 #[vI nv, vI va, vI vb, vI vc, vI fg, vI 3, vI (va.toInt8.toInt32), vI (vb.toInt8.toInt32), vI (vc.toInt8.toInt32), vR b193, vR b195, vR b266, vI 1, vI 1, vR b325, vU] [(.ref b266)])) rfl (by rw [hml]; rfl) (Steps.refl _) (argsL := []) (rest := []) (lenOf pd_15 rfl) rfl (oz rfl) (q at_292) (fun _ _ => ⟨rfl, e335, (by decide : 22 + 0 ≤ _), (by decide : 5452 + 0 ≤ _)⟩)
  dsimp only [Pt.U, Pt.locs, Pt.cells, Pt.slots] at X336 l336 y336 z336 st336 hQ336
  subst y336 z336
  obtain ⟨rfl, N336q, e336⟩ := hQ336
  have N336 := oF l336 N335 N336q
  obtain ⟨cq337, kq337, q337a, q337b, q337c⟩ := isOf hZ e336 f334
  obtain ⟨_, _, ⟨T337, L337, k337, n337⟩, -, X337, ⟨Lc337, hQ337, l337, y337, z337⟩, st337⟩ := X336.virtualBack hx (y := mN9) (z := mN9) hown (om hZ hw 18 rfl) (om hZ hw 19 rfl) (notFace_of_selects (args := #[]) (om hZ hw 21 rfl)) (om hZ hw 21 rfl) (om hZ hw 20 rfl) (by decide) (backOf (W := 0) (rm3r l Z a0 hw [] b266 b325 T324.heap n0 Z324 f326) hZ (ow hw 22 rfl) (ow hw 5 rfl) (by decide) (by decide)) q337a q337c (g := (mkF m 323 #[vI nv, vI va, vI vb, vI vc, vI fg, vI 3, vI (va.toInt8.toInt32), vI (vb.toInt8.toInt32), vI (vc.toInt8.toInt32), vR b193, vR b195, vR b266, vI 1, vI 1, vR b325, vR b325] [(.ref b266)])) rfl (by rw [hml]; rfl) (Steps.refl _) (argsL := []) (rest := []) (lenOf pd_13 rfl) rfl (oz rfl) (q at_323) (fun _ _ => ⟨rfl, e336, (by decide : 22 + 0 ≤ _), (by decide : 5452 + 0 ≤ _)⟩)
  dsimp only [Pt.U, Pt.locs, Pt.cells, Pt.slots] at X337 l337 y337 z337 st337 hQ337
  subst y337 z337
  obtain ⟨rfl, N337q, e337⟩ := hQ337
  have N337 := oF l337 N336 N337q
  obtain ⟨fs, hr, hrun, hended, hW, hsame⟩ := X337.leave (v := some (.int 1)) (oR Bd.returns) (hlocks := Bd.notSynchronized)
  refine ⟨_, _, pre317 _ ?_, hrun, hended, _, _, rfl, ?_, ⟨_, rfl⟩, hW, hsame.mono (by decide) (by decide)⟩
  ·show Steps p.tables e below (T317.setTop (mkF m 221 #[vI nv, vI va, vI vb, vI vc, vI fg, vI 3, vI (va.toInt8.toInt32), vI (vb.toInt8.toInt32), vI (vc.toInt8.toInt32), vR b193, vR b195, vR b266, vI 1, vU, vU, vU] [])) _
   refine XS.iload X317.here hx rfl (q at_221) rfl ?_
   refine XS.iconst X317.here hx rfl (q at_223) ?_
   refine XS.icmpNo X317.here hx rfl (q at_224) rfl (feq (by decide : ¬ ((3 : Int32) = (1 : Int32)))).1 ?_
   refine XS.iconst X317.here hx rfl (q at_227) ?_
   refine XS.goto X317.here hx rfl (pc0 := 228) (pc' := 232) rfl (q at_228) (by decide) (by decide) ?_
   refine XS.istore X317.here hx rfl (q at_232) rfl (l' := #[vI nv, vI va, vI vb, vI vc, vI fg, vI 3, vI (va.toInt8.toInt32), vI (vb.toInt8.toInt32), vI (vc.toInt8.toInt32), vR b193, vR b195, vR b266, vI 1, vI 1, vU, vU]) rfl ?_
   refine XS.aload X317.here hx rfl (q at_234) rfl rfl ?_
   refine st324.trans ?_
   refine XS.astore X324.here hx rfl (q at_239) rfl rfl (l' := #[vI nv, vI va, vI vb, vI vc, vI fg, vI 3, vI (va.toInt8.toInt32), vI (vb.toInt8.toInt32), vI (vc.toInt8.toInt32), vR b193, vR b195, vR b266, vI 1, vI 1, vR b325, vU]) rfl ?_
   refine XS.iload X324.here hx rfl (q at_241) rfl ?_
   refine XS.ifNo X324.here hx rfl (q at_243) rfl ((if0 _ _).trans (feq (by decide : ¬ ((1 : Int32) = (0 : Int32)))).1) ?_
   refine XS.aload X324.here hx rfl (q at_246) rfl rfl ?_
   refine XS.ifnullNo X324.here hx rfl (q at_248) rfl ?_
   refine XS.iconst X324.here hx rfl (q at_251) ?_
   refine XS.goto X324.here hx rfl (pc0 := 252) (pc' := 256) rfl (q at_252) (by decide) (by decide) ?_
   refine XS.iload X324.here hx rfl (q at_256) rfl ?_
   refine XS.icmpNo X324.here hx rfl (q at_258) rfl (teq (by decide : ((1 : Int32) = (1 : Int32)))).2 ?_
   refine XS.iconst X324.here hx rfl (q at_261) ?_
   refine XS.goto X324.here hx rfl (pc0 := 262) (pc' := 266) rfl (q at_262) (by decide) (by decide) ?_
   refine XS.istore X324.here hx rfl (q at_266) rfl (l' := #[vI nv, vI va, vI vb, vI vc, vI fg, vI 3, vI (va.toInt8.toInt32), vI (vb.toInt8.toInt32), vI (vc.toInt8.toInt32), vR b193, vR b195, vR b266, vI 1, vI 1, vR b325, vU]) rfl ?_
   refine XS.iload X324.here hx rfl (q at_268) rfl ?_
   refine XS.ifNo X324.here hx rfl (q at_270) rfl ((if0 _ _).trans (feq (by decide : ¬ ((1 : Int32) = (0 : Int32)))).1) ?_
   refine XS.aload X324.here hx rfl (q at_273) rfl rfl ?_
   refine st335.trans ?_
   refine XS.iload X335.here hx rfl (q at_278) rfl ?_
   refine XS.icmpNo X335.here hx rfl (q at_280) rfl (teq (by decide : ((1 : Int32) = (1 : Int32)))).2 ?_
   refine XS.iconst X335.here hx rfl (q at_283) ?_
   refine XS.goto X335.here hx rfl (pc0 := 284) (pc' := 288) rfl (q at_284) (by decide) (by decide) ?_
   refine XS.istore X335.here hx rfl (q at_288) rfl (l' := #[vI nv, vI va, vI vb, vI vc, vI fg, vI 3, vI (va.toInt8.toInt32), vI (vb.toInt8.toInt32), vI (vc.toInt8.toInt32), vR b193, vR b195, vR b266, vI 1, vI 1, vR b325, vU]) rfl ?_
   refine XS.aload X335.here hx rfl (q at_290) rfl rfl ?_
   refine st336.trans ?_
   refine XS.astore X336.here hx rfl (q at_295) rfl rfl (l' := #[vI nv, vI va, vI vb, vI vc, vI fg, vI 3, vI (va.toInt8.toInt32), vI (vb.toInt8.toInt32), vI (vc.toInt8.toInt32), vR b193, vR b195, vR b266, vI 1, vI 1, vR b325, vR b325]) rfl ?_
   refine XS.iload X336.here hx rfl (q at_297) rfl ?_
   refine XS.ifNo X336.here hx rfl (q at_299) rfl ((if0 _ _).trans (feq (by decide : ¬ ((1 : Int32) = (0 : Int32)))).1) ?_
   refine XS.aload X336.here hx rfl (q at_302) rfl rfl ?_
   refine XS.aload X336.here hx rfl (q at_304) rfl rfl ?_
   refine Jvm.RoadKit.acmp (g := (mkF m 306 #[vI nv, vI va, vI vb, vI vc, vI fg, vI 3, vI (va.toInt8.toInt32), vI (vb.toInt8.toInt32), vI (vc.toInt8.toInt32), vR b193, vR b195, vR b266, vI 1, vI 1, vR b325, vR b325] [(.ref b325), (.ref b325)])) X336 hx rfl rfl rfl (pc0 := 306) (pc' := 309) (same := true) rfl (q at_306) rfl (decide_eq_true rfl) (by decide) (by decide) ?_
   refine XS.iconst X336.here hx rfl (q at_309) ?_
   refine XS.goto X336.here hx rfl (pc0 := 310) (pc' := 314) rfl (q at_310) (by decide) (by decide) ?_
   refine XS.istore X336.here hx rfl (q at_314) rfl (l' := #[vI nv, vI va, vI vb, vI vc, vI fg, vI 3, vI (va.toInt8.toInt32), vI (vb.toInt8.toInt32), vI (vc.toInt8.toInt32), vR b193, vR b195, vR b266, vI 1, vI 1, vR b325, vR b325]) rfl ?_
   refine XS.iload X336.here hx rfl (q at_316) rfl ?_
   refine XS.ifNo X336.here hx rfl (q at_318) rfl ((if0 _ _).trans (feq (by decide : ¬ ((1 : Int32) = (0 : Int32)))).1) ?_
   refine XS.aload X336.here hx rfl (q at_321) rfl rfl ?_
   refine st337.trans ?_
   refine XS.iload X337.here hx rfl (q at_326) rfl ?_
   refine XS.icmpNo X337.here hx rfl (q at_328) rfl (teq (by decide : ((1 : Int32) = (1 : Int32)))).2 ?_
   refine XS.iconst X337.here hx rfl (q at_331) ?_
   refine XS.goto X337.here hx rfl (pc0 := 332) (pc' := 336) rfl (q at_332) (by decide) (by decide) ?_
   refine XS.istore X337.here hx rfl (q at_336) rfl (l' := #[vI nv, vI va, vI vb, vI vc, vI fg, vI 3, vI (va.toInt8.toInt32), vI (vb.toInt8.toInt32), vI (vc.toInt8.toInt32), vR b193, vR b195, vR b266, vI 1, vI 1, vR b325, vR b325]) rfl ?_
   refine XS.iload X337.here hx rfl (q at_338) rfl ?_
   exact retN X337 hx (t := .boolean) Bd.returns (by simp) (q at_340) hr
  ·show Q0 Z nv va vb vc fg h0 n0 _ T337.heap _
   rw [e337]
   exact ⟨rfl, N337⟩
set_option maxRecDepth 65536 in
set_option maxHeartbeats 40000000 in
theorem comes_1 {Post : Tables → Env → Array Value → State → Outcome → State → Prop} (hpost : ∀ tb e args s v u, (limb_1_1.after args s (.returned v) u = true ∧ limb_1_2.after args s (.returned v) u = true ∧ True) → FrameEnd s (.returned v) u (Jvm.fieldLocs frame_1_writes args s ++ Jvm.arrayLocs frame_1_arrays args s ++ Jvm.staticLocs frame_1_statics s) 56 7168 → Post tb e args s (.returned v) u) :
  ArmFor flags0 classFile x code maxLocals ret World_1 tables_1 room_1 Calls_1 rest_1 Pre_1 Post := by
 intro l hfl _ _ p e ha hc hk s m args below hf hA hF happ hP
 obtain ⟨hcalls, hrest, hpre⟩ := hP
 obtain ⟨-, -, -, hnamed, -, -, -, hat⟩ := (Spec.applies_iff hf).mp happ
 obtain ⟨hg, hn⟩ := and_e (Cond.before_iff.mp (show (Jvm.Cond.and given_1 narrow_1).before args s = true from hpre))
 obtain ⟨gv1, gv2⟩ := and_e hg
 obtain ⟨gv3, gv4⟩ := and_e gv2
 obtain ⟨gv5, gv6⟩ := and_e gv4
 obtain ⟨gv7, gv8⟩ := and_e gv6
 obtain ⟨gv9, gv10⟩ := and_e gv8
 obtain ⟨w0, w1, w2, w3, w4, rfl⟩ : ∃ w0 w1 w2 w3 w4 : Value, args = #[w0, w1, w2, w3, w4] := by
  have hs : args.size = 5 := by simpa [Cond.value, given_1] using gv1
  obtain ⟨L⟩ := args
  match L, hs with
  | [w0, w1, w2, w3, w4], _ => exact ⟨w0, w1, w2, w3, w4, rfl⟩
 have hw := fun d (hd : d ∈ tables_1) => atoms_spec (ws := Jvm.Cond.code x code maxLocals ret :: tables_1) hat d (List.mem_cons_of_mem _ hd)
 have hfit : Fit s := fun {y c} hc i hi => by
  obtain ⟨ha, rfl⟩ := Array.getElem?_eq_some_iff.mp hc
  have q := List.all_eq_true.mp ((Array.all_eq_true_iff_forall_mem.mp hF) _ (Array.getElem_mem ha)) i (List.mem_range.mpr hi)
  simpa [Array.getElem?_eq_getElem hi] using q
 obtain ⟨i0, ei0⟩ := is_v gv3
 obtain rfl : w0 = (.int i0) := Option.some.inj ei0
 obtain ⟨i1, ei1⟩ := is_v gv5
 obtain rfl : w1 = (.int i1) := Option.some.inj ei1
 obtain ⟨i2, ei2⟩ := is_v gv7
 obtain rfl : w2 = (.int i2) := Option.some.inj ei2
 obtain ⟨i3, ei3⟩ := is_v gv9
 obtain rfl : w3 = (.int i3) := Option.some.inj ei3
 obtain ⟨i4, ei4⟩ := is_v gv10
 obtain rfl : w4 = (.int i4) := Option.some.inj ei4
 obtain ⟨n, o, h1, h2, h3, _, L, rfl, ⟨rfl, N⟩, hq⟩ := rm0 l s _ hw tables_1 i0 i1 i2 i3 i4 s.heap s.heap.size (Nat.le_refl _) p e ha hc hk s m _ below hf ((Spec.applies_iff_loose hf).mp happ).1 ⟨rfl, State.Warmed39.refl s, rfl⟩ trivial
 refine ⟨n, _, h1, h2, h3, hpost _ _ _ _ _ _ ⟨Cond.after_iff.mpr rfl, Cond.after_iff.mpr (eq_i res_at (Term.int_eval (1)) rfl), trivial⟩ ⟨hq.1, hq.2.1, (hq.2.2.sift fun y hy => Or.inr (N y hy)).mono (by decide) (by decide)⟩⟩
theorem main_1_1 : Claimed_1_1 := comes_1 fun _ _ _ _ _ _ h hF => ⟨h.1, hF⟩
theorem main_1_2 : Claimed_1_2 := comes_1 fun _ _ _ _ _ _ h hF => ⟨h.2.1, hF⟩
end Jvm.Pilot.@@N@@
namespace Jvm.Pilot.@@N@@
open Jvm Jvm.ClassFile Sem Op Lib Jvm.Free Jvm.Stand Jvm.Pilot.@@N@@.Jvm.D
/-! MADE BY PROGRAM (witnessworld.py) out of the Statement's table words and the real class files: 21 classes; the members and pool entries that the words name. The judged class is class 1, her method 1. -/
namespace start1
open Jvm.ClassFile
def u (s : String) : CpInfo := .utf8 (stringToUtf16 s)
/-- a pool by its gaps: so many unusable entries, then the entry; so many at the end -/
def gap : Nat → List CpInfo → List CpInfo
  | 0, r => r
  | n + 1, r => .unusable :: gap n r
def poolList (es : List (Nat × CpInfo)) (last : Nat) : List CpInfo := es.foldr (fun e r => gap e.1 (e.2 :: r)) (gap last [])
def pool (es : List (Nat × CpInfo)) (last : Nat) : Array CpInfo := ⟨poolList es last⟩
def fileOf (pool : Array CpInfo) (this : Nat) (attrs : Array Attribute := #[]) (ms : Array MethodInfo := #[]) (fl : Nat := 33) (sup : Nat := 0) (ifs : Array Nat := #[]) (fds : Array FieldInfo := #[]) : ClassFile where
  minorVersion := 0
  majorVersion := 65
  constantPool := pool
  accessFlags := fl
  thisClass := this
  superClass := sup
  interfaces := ifs
  fields := fds
  methods := ms
  attributes := attrs
def plain (name : String) (sup : Option ClassId) : Class where
  name := name
  kind := .ordinary
  loader := none
  accessFlags := 33
  super := sup
  interfaces := #[]
  cf := none
  fields := #[]
  methods := #[]
  instanceTypes := #[]
  staticTypes := #[]
  resolved := #[]
  callSites := []
  init := .initialized
  statics := none
  mirror := none

def pool0 : Array CpInfo := pool [(5, u "<init>"), (0, u "()V"), (1, .class_ 10), (1, u "java/lang/Object")] 113

def k0c0 : Code := { maxStack := 0, maxLocals := 1, code := object_method_1_code, exceptionTable := #[], attributes := #[] }
def k0m0 : Method := { name := "<init>", desc := "()V", sig := { parameters := [], returnType := none }, accessFlags := 1, code := some k0c0 }
/-- java/lang/Object -/
def k0 : Class := { plain "java/lang/Object" none with
  accessFlags := 33
  interfaces := #[]
  cf := some (fileOf pool0 8 #[] #[{ accessFlags := 1, nameIndex := 5, descriptorIndex := 6, attributes := #[] }] 33 0 #[] #[])
  fields := #[]
  methods := #[k0m0]
  instanceTypes := #[]
  staticTypes := #[]
  resolved := Array.replicate 124 none
  statics := none }

def pool1 : Array CpInfo := pool [(2, .class_ 4), (1, u "java/lang/Object"), (0, u "<init>"), (0, u "()V"), (0, .integer 2147483647), (0, .class_ 9), (0, u "skipstitch/search/LazyAutomaton"), (0, .methodref 8 11), (0, .nameAndType 5 12), (0, u "([B[I)V"), (0, .methodref 8 14), (0, .nameAndType 15 16), (0, u "workedOut"), (0, u "()Z"), (0, .methodref 8 18), (0, .nameAndType 19 20), (0, u "width"), (0, u "()I"), (0, .methodref 8 22), (0, .nameAndType 23 24), (0, u "entries"), (0, u "()J"), (0, .methodref 8 26), (0, .nameAndType 27 28), (0, u "get"), (0, u "()Lskipstitch/search/Automaton;"), (0, .class_ 30), (0, u "skipstitch/search/LazyAutomatonWorkedOutPinLaw"), (2, u "law"), (0, u "(IIIII)Z")] 9

def k1m0 : Method := { name := "<init>", desc := "()V", sig := { parameters := [], returnType := none }, accessFlags := 1, code := none }
def k1c1 : Code := { maxStack := 4, maxLocals := 16, code := code, exceptionTable := #[], attributes := #[] }
def k1m1 : Method := { name := "law", desc := "(IIIII)Z", sig := { parameters := [.int, .int, .int, .int, .int], returnType := some .boolean }, accessFlags := 9, code := some k1c1 }
/-- skipstitch/search/LazyAutomatonWorkedOutPinLaw -/
def k1 : Class := { plain "skipstitch/search/LazyAutomatonWorkedOutPinLaw" (some 0) with
  accessFlags := 49
  interfaces := #[]
  cf := some (fileOf pool1 29 #[] #[{ accessFlags := 1, nameIndex := 5, descriptorIndex := 6, attributes := #[] }, { accessFlags := 9, nameIndex := 33, descriptorIndex := 34, attributes := #[] }] 49 2 #[] #[])
  fields := #[]
  methods := #[k1m0, k1m1]
  instanceTypes := #[]
  staticTypes := #[]
  resolved := Array.replicate 44 none
  statics := none }

def pool2 : Array CpInfo := pool [(1, .methodref 2 3), (0, .class_ 4), (0, .nameAndType 5 6), (0, u "java/lang/Object"), (0, u "<init>"), (0, u "()V"), (0, .fieldref 8 9), (0, .class_ 10), (0, .nameAndType 11 12), (0, u "skipstitch/search/LazyAutomaton"), (0, u "width"), (0, u "I"), (0, .fieldref 8 14), (0, .nameAndType 15 16), (0, u "pattern"), (0, u "[B"), (0, .fieldref 8 18), (0, .nameAndType 19 20), (0, u "links"), (0, u "[I"), (0, .methodref 22 23), (0, .class_ 24), (0, .nameAndType 11 25), (0, u "skipstitch/search/Automaton"), (0, u "([B)I"), (0, .methodref 22 27), (0, .nameAndType 28 29), (0, u "entries"), (0, u "([B)J"), (0, .fieldref 8 31), (0, .nameAndType 32 33), (0, u "automaton"), (0, u "Lskipstitch/search/Automaton;"), (0, .methodref 22 35), (0, .nameAndType 36 37), (0, u "of"), (0, u "([B[I)Lskipstitch/search/Automaton;"), (0, u "([B[I)V"), (2, u "()I"), (1, u "()J"), (0, u "workedOut"), (0, u "()Z"), (0, u "get"), (0, u "()Lskipstitch/search/Automaton;")] 2

def k2c0 : Code := { maxStack := 2, maxLocals := 3, code := prog_28_method_1_code, exceptionTable := #[], attributes := #[] }
def k2m0 : Method := { name := "<init>", desc := "([B[I)V", sig := { parameters := [(.array .byte), (.array .int)], returnType := none }, accessFlags := 0, code := some k2c0 }
def k2c1 : Code := { maxStack := 2, maxLocals := 2, code := prog_28_method_2_code, exceptionTable := #[], attributes := #[] }
def k2m1 : Method := { name := "width", desc := "()I", sig := { parameters := [], returnType := some .int }, accessFlags := 0, code := some k2c1 }
def k2c2 : Code := { maxStack := 2, maxLocals := 1, code := prog_28_method_3_code, exceptionTable := #[], attributes := #[] }
def k2m2 : Method := { name := "entries", desc := "()J", sig := { parameters := [], returnType := some .long }, accessFlags := 0, code := some k2c2 }
def k2c3 : Code := { maxStack := 1, maxLocals := 1, code := prog_28_method_4_code, exceptionTable := #[], attributes := #[] }
def k2m3 : Method := { name := "workedOut", desc := "()Z", sig := { parameters := [], returnType := some .boolean }, accessFlags := 0, code := some k2c3 }
def k2c4 : Code := { maxStack := 2, maxLocals := 2, code := prog_28_method_5_code, exceptionTable := #[], attributes := #[] }
def k2m4 : Method := { name := "get", desc := "()Lskipstitch/search/Automaton;", sig := { parameters := [], returnType := some (.object "skipstitch/search/Automaton") }, accessFlags := 0, code := some k2c4 }
/-- skipstitch/search/LazyAutomaton -/
def k2 : Class := { plain "skipstitch/search/LazyAutomaton" (some 0) with
  accessFlags := 48
  interfaces := #[]
  cf := some (fileOf pool2 8 #[] #[{ accessFlags := 0, nameIndex := 5, descriptorIndex := 38, attributes := #[] }, { accessFlags := 0, nameIndex := 11, descriptorIndex := 41, attributes := #[] }, { accessFlags := 0, nameIndex := 28, descriptorIndex := 43, attributes := #[] }, { accessFlags := 0, nameIndex := 44, descriptorIndex := 45, attributes := #[] }, { accessFlags := 0, nameIndex := 46, descriptorIndex := 47, attributes := #[] }] 48 2 #[] #[{ accessFlags := 18, nameIndex := 15, descriptorIndex := 16, attributes := #[] }, { accessFlags := 18, nameIndex := 19, descriptorIndex := 20, attributes := #[] }, { accessFlags := 66, nameIndex := 11, descriptorIndex := 12, attributes := #[] }, { accessFlags := 66, nameIndex := 32, descriptorIndex := 33, attributes := #[] }])
  fields := #[{ name := "pattern", type := (.array .byte), accessFlags := 18, slot := 0, constantValue := 0 }, { name := "links", type := (.array .int), accessFlags := 18, slot := 1, constantValue := 0 }, { name := "width", type := .int, accessFlags := 66, slot := 2, constantValue := 0 }, { name := "automaton", type := (.object "skipstitch/search/Automaton"), accessFlags := 66, slot := 3, constantValue := 0 }]
  methods := #[k2m0, k2m1, k2m2, k2m3, k2m4]
  instanceTypes := #[(.array .byte), (.array .int), .int, (.object "skipstitch/search/Automaton")]
  staticTypes := #[]
  resolved := Array.replicate 50 none
  statics := none }

def pool3 : Array CpInfo := pool [(1, .methodref 2 3), (0, .class_ 4), (0, .nameAndType 5 6), (0, u "java/lang/Object"), (0, u "<init>"), (0, u "()V"), (0, .fieldref 8 9), (0, .class_ 10), (0, .nameAndType 11 12), (0, u "skipstitch/search/Automaton"), (0, u "column"), (0, u "[I"), (0, .fieldref 8 14), (0, .nameAndType 15 16), (0, u "occurrenceRow"), (0, u "I"), (0, .fieldref 8 18), (0, .nameAndType 19 20), (0, u "single"), (0, u "Lskipstitch/search/Automaton$Steps;"), (0, .fieldref 8 22), (0, .nameAndType 23 20), (0, u "block"), (0, .methodref 25 26), (0, .class_ 27), (0, .nameAndType 28 29), (0, u "skipstitch/search/Automaton$Steps"), (0, u "width"), (0, u "()I"), (0, .class_ 31), (0, u "[[I"), (0, .fieldref 8 33), (0, .nameAndType 34 31), (0, u "blockColumn"), (0, .methodref 25 36), (0, .nameAndType 37 29), (0, u "columns"), (0, .fieldref 8 39), (0, .nameAndType 40 16), (0, u "blockFactor"), (0, .methodref 8 42), (0, .nameAndType 37 43), (0, u "([B)[I"), (0, .methodref 8 45), (0, .nameAndType 46 47), (0, u "columnCount"), (0, u "([B)I"), (0, .methodref 8 49), (0, .nameAndType 28 50), (0, u "(II)I"), (0, .methodref 52 53), (0, .class_ 54), (0, .nameAndType 55 56), (0, u "java/lang/System"), (0, u "arraycopy"), (0, u "(Ljava/lang/Object;ILjava/lang/Object;II)V"), (0, .methodref 25 58), (0, .nameAndType 5 59), (0, u "(II[I[I)V"), (0, .methodref 8 61), (0, .nameAndType 62 63), (0, u "twice"), (0, u "(Lskipstitch/search/Automaton$Steps;I)Lskipstitch/search/Automaton$Steps;"), (0, .methodref 8 65), (0, .nameAndType 5 66), (0, u "([IILskipstitch/search/Automaton$Steps;Lskipstitch/search/Automaton$Steps;)V"), (0, .long 131072), (1, .methodref 70 71), (0, .class_ 72), (0, .nameAndType 73 74), (0, u "java/lang/Long"), (0, u "bitCount"), (0, u "(J)I"), (0, .methodref 25 76), (0, .nameAndType 77 78), (0, u "next"), (0, u "()[I"), (0, .methodref 25 80), (0, .nameAndType 81 78), (0, u "comparisons"), (0, u "MOST_ENTRIES"), (0, u "J"), (1, u "WIDEST_BLOCK"), (5, u "of"), (0, u "([B[I)Lskipstitch/search/Automaton;"), (2, u "entries"), (0, u "([B)J")] 7

def k3c0 : Code := { maxStack := 4, maxLocals := 9, code := prog_23_method_1_code, exceptionTable := #[], attributes := #[] }
def k3m0 : Method := { name := "<init>", desc := "([IILskipstitch/search/Automaton$Steps;Lskipstitch/search/Automaton$Steps;)V", sig := { parameters := [(.array .int), .int, (.object "skipstitch/search/Automaton$Steps"), (.object "skipstitch/search/Automaton$Steps")], returnType := none }, accessFlags := 2, code := some k3c0 }
def k3c1 : Code := { maxStack := 6, maxLocals := 13, code := prog_23_method_2_code, exceptionTable := #[], attributes := #[] }
def k3m1 : Method := { name := "of", desc := "([B[I)Lskipstitch/search/Automaton;", sig := { parameters := [(.array .byte), (.array .int)], returnType := some (.object "skipstitch/search/Automaton") }, accessFlags := 8, code := some k3c1 }
def k3c2 : Code := { maxStack := 2, maxLocals := 1, code := prog_23_method_3_code, exceptionTable := #[], attributes := #[] }
def k3m2 : Method := { name := "width", desc := "([B)I", sig := { parameters := [(.array .byte)], returnType := some .int }, accessFlags := 8, code := some k3c2 }
def k3c3 : Code := { maxStack := 4, maxLocals := 7, code := prog_23_method_4_code, exceptionTable := #[], attributes := #[] }
def k3m3 : Method := { name := "width", desc := "(II)I", sig := { parameters := [.int, .int], returnType := some .int }, accessFlags := 10, code := some k3c3 }
def k3c4 : Code := { maxStack := 6, maxLocals := 9, code := prog_23_method_5_code, exceptionTable := #[], attributes := #[] }
def k3m4 : Method := { name := "entries", desc := "([B)J", sig := { parameters := [(.array .byte)], returnType := some .long }, accessFlags := 8, code := some k3c4 }
def k3c5 : Code := { maxStack := 3, maxLocals := 7, code := prog_23_method_6_code, exceptionTable := #[], attributes := #[] }
def k3m5 : Method := { name := "columns", desc := "([B)[I", sig := { parameters := [(.array .byte)], returnType := some (.array .int) }, accessFlags := 10, code := some k3c5 }
def k3c6 : Code := { maxStack := 8, maxLocals := 6, code := prog_23_method_7_code, exceptionTable := #[], attributes := #[] }
def k3m6 : Method := { name := "columnCount", desc := "([B)I", sig := { parameters := [(.array .byte)], returnType := some .int }, accessFlags := 10, code := some k3c6 }
def k3c7 : Code := { maxStack := 6, maxLocals := 12, code := prog_23_method_8_code, exceptionTable := #[], attributes := #[] }
def k3m7 : Method := { name := "twice", desc := "(Lskipstitch/search/Automaton$Steps;I)Lskipstitch/search/Automaton$Steps;", sig := { parameters := [(.object "skipstitch/search/Automaton$Steps"), .int], returnType := some (.object "skipstitch/search/Automaton$Steps") }, accessFlags := 10, code := some k3c7 }
/-- skipstitch/search/Automaton -/
def k3 : Class := { plain "skipstitch/search/Automaton" (some 0) with
  accessFlags := 48
  interfaces := #[]
  cf := some (fileOf pool3 8 #[.nestMembers #[25]] #[{ accessFlags := 2, nameIndex := 5, descriptorIndex := 66, attributes := #[] }, { accessFlags := 8, nameIndex := 91, descriptorIndex := 92, attributes := #[] }, { accessFlags := 8, nameIndex := 28, descriptorIndex := 47, attributes := #[] }, { accessFlags := 10, nameIndex := 28, descriptorIndex := 50, attributes := #[] }, { accessFlags := 8, nameIndex := 95, descriptorIndex := 96, attributes := #[] }, { accessFlags := 10, nameIndex := 37, descriptorIndex := 43, attributes := #[] }, { accessFlags := 10, nameIndex := 46, descriptorIndex := 47, attributes := #[] }, { accessFlags := 10, nameIndex := 62, descriptorIndex := 63, attributes := #[] }] 48 2 #[] #[{ accessFlags := 26, nameIndex := 82, descriptorIndex := 83, attributes := #[] }, { accessFlags := 26, nameIndex := 85, descriptorIndex := 16, attributes := #[] }, { accessFlags := 16, nameIndex := 11, descriptorIndex := 12, attributes := #[] }, { accessFlags := 16, nameIndex := 15, descriptorIndex := 16, attributes := #[] }, { accessFlags := 16, nameIndex := 19, descriptorIndex := 20, attributes := #[] }, { accessFlags := 16, nameIndex := 23, descriptorIndex := 20, attributes := #[] }, { accessFlags := 16, nameIndex := 34, descriptorIndex := 31, attributes := #[] }, { accessFlags := 16, nameIndex := 40, descriptorIndex := 16, attributes := #[] }])
  fields := #[{ name := "MOST_ENTRIES", type := .long, accessFlags := 26, slot := 0, constantValue := 0 }, { name := "WIDEST_BLOCK", type := .int, accessFlags := 26, slot := 1, constantValue := 0 }, { name := "column", type := (.array .int), accessFlags := 16, slot := 0, constantValue := 0 }, { name := "occurrenceRow", type := .int, accessFlags := 16, slot := 1, constantValue := 0 }, { name := "single", type := (.object "skipstitch/search/Automaton$Steps"), accessFlags := 16, slot := 2, constantValue := 0 }, { name := "block", type := (.object "skipstitch/search/Automaton$Steps"), accessFlags := 16, slot := 3, constantValue := 0 }, { name := "blockColumn", type := (.array (.array .int)), accessFlags := 16, slot := 4, constantValue := 0 }, { name := "blockFactor", type := .int, accessFlags := 16, slot := 5, constantValue := 0 }]
  methods := #[k3m0, k3m1, k3m2, k3m3, k3m4, k3m5, k3m6, k3m7]
  instanceTypes := #[(.array .int), .int, (.object "skipstitch/search/Automaton$Steps"), (.object "skipstitch/search/Automaton$Steps"), (.array (.array .int)), .int]
  staticTypes := #[.long, .int]
  resolved := Array.replicate 104 none
  statics := none }

def pool4 : Array CpInfo := pool [(1, .class_ 2), (0, u "java/io/Serializable"), (0, .class_ 4), (0, u "java/lang/Object")] 2

/-- java/io/Serializable -/
def k4 : Class := { plain "java/io/Serializable" (some 0) with
  accessFlags := 1537
  interfaces := #[]
  cf := some (fileOf pool4 1 #[] #[] 1537 3 #[] #[])
  fields := #[]
  methods := #[]
  instanceTypes := #[]
  staticTypes := #[]
  resolved := Array.replicate 7 none
  statics := none }

def pool5 : Array CpInfo := pool [(2, .class_ 4), (1, u "java/lang/Object"), (0, u "<init>"), (0, u "()V"), (1, .class_ 10), (1, u "java/lang/Number"), (2, .class_ 14), (0, u "java/io/Serializable"), (0, u "serialVersionUID"), (0, u "J")] 20

def k5m0 : Method := { name := "<init>", desc := "()V", sig := { parameters := [], returnType := none }, accessFlags := 1, code := none }
/-- java/lang/Number -/
def k5 : Class := { plain "java/lang/Number" (some 0) with
  accessFlags := 1057
  interfaces := #[4]
  cf := some (fileOf pool5 8 #[] #[{ accessFlags := 1, nameIndex := 5, descriptorIndex := 6, attributes := #[] }] 1057 2 #[13] #[{ accessFlags := 26, nameIndex := 15, descriptorIndex := 16, attributes := #[] }])
  fields := #[{ name := "serialVersionUID", type := .long, accessFlags := 26, slot := 0, constantValue := 0 }]
  methods := #[k5m0]
  instanceTypes := #[]
  staticTypes := #[.long]
  resolved := Array.replicate 37 none
  statics := none }

def pool6 : Array CpInfo := pool [(1, .class_ 2), (0, u "java/lang/Comparable"), (0, .class_ 4), (0, u "java/lang/Object")] 7

/-- java/lang/Comparable -/
def k6 : Class := { plain "java/lang/Comparable" (some 0) with
  accessFlags := 1537
  interfaces := #[]
  cf := some (fileOf pool6 1 #[] #[] 1537 3 #[] #[])
  fields := #[]
  methods := #[]
  instanceTypes := #[]
  staticTypes := #[]
  resolved := Array.replicate 12 none
  statics := none }

def pool7 : Array CpInfo := pool [(1, .class_ 2), (0, u "java/lang/constant/Constable"), (0, .class_ 4), (0, u "java/lang/Object")] 6

/-- java/lang/constant/Constable -/
def k7 : Class := { plain "java/lang/constant/Constable" (some 0) with
  accessFlags := 1537
  interfaces := #[]
  cf := some (fileOf pool7 1 #[] #[] 1537 3 #[] #[])
  fields := #[]
  methods := #[]
  instanceTypes := #[]
  staticTypes := #[]
  resolved := Array.replicate 11 none
  statics := none }

def pool8 : Array CpInfo := pool [(1, .class_ 2), (0, u "java/lang/constant/ConstantDesc"), (0, .class_ 4), (0, u "java/lang/Object")] 32

/-- java/lang/constant/ConstantDesc -/
def k8 : Class := { plain "java/lang/constant/ConstantDesc" (some 0) with
  accessFlags := 1537
  interfaces := #[]
  cf := some (fileOf pool8 1 #[] #[] 1537 3 #[] #[])
  fields := #[]
  methods := #[]
  instanceTypes := #[]
  staticTypes := #[]
  resolved := Array.replicate 37 none
  statics := none }

def pool9 : Array CpInfo := pool [(1, .class_ 2), (0, u "java/lang/Long"), (98, u "(J)I"), (133, .class_ 237), (1, u "java/lang/Long$LongCache"), (33, .class_ 272), (0, u "java/lang/Number"), (2, u "value"), (0, u "J"), (37, .long 6148914691236517205), (1, .long 3689348814741910323), (1, .long 1085102592571150095), (42, u "TYPE"), (0, u "Ljava/lang/Class;"), (0, .class_ 364), (0, u "java/lang/Comparable"), (0, .class_ 366), (0, u "java/lang/constant/Constable"), (0, .class_ 368), (0, u "java/lang/constant/ConstantDesc"), (0, u "MIN_VALUE"), (1, u "MAX_VALUE"), (4, u "SIZE"), (0, u "I"), (1, u "BYTES"), (1, u "serialVersionUID"), (94, u "bitCount")] 47

def k9c0 : Code := { maxStack := 6, maxLocals := 2, code := jdk_35_method_50_code, exceptionTable := #[], attributes := #[] }
def k9m0 : Method := { name := "bitCount", desc := "(J)I", sig := { parameters := [.long], returnType := some .int }, accessFlags := 9, code := some k9c0 }
/-- java/lang/Long -/
def k9 : Class := { plain "java/lang/Long" (some 5) with
  accessFlags := 49
  interfaces := #[6, 7, 8]
  cf := some (fileOf pool9 1 #[.nestMembers #[235]] #[{ accessFlags := 9, nameIndex := 476, descriptorIndex := 101, attributes := #[] }] 49 271 #[363, 365, 367] #[{ accessFlags := 25, nameIndex := 369, descriptorIndex := 276, attributes := #[] }, { accessFlags := 25, nameIndex := 371, descriptorIndex := 276, attributes := #[] }, { accessFlags := 25, nameIndex := 361, descriptorIndex := 362, attributes := #[] }, { accessFlags := 18, nameIndex := 275, descriptorIndex := 276, attributes := #[] }, { accessFlags := 25, nameIndex := 376, descriptorIndex := 377, attributes := #[] }, { accessFlags := 25, nameIndex := 379, descriptorIndex := 377, attributes := #[] }, { accessFlags := 26, nameIndex := 381, descriptorIndex := 276, attributes := #[] }])
  fields := #[{ name := "MIN_VALUE", type := .long, accessFlags := 25, slot := 0, constantValue := 0 }, { name := "MAX_VALUE", type := .long, accessFlags := 25, slot := 1, constantValue := 0 }, { name := "TYPE", type := (.object "java/lang/Class"), accessFlags := 25, slot := 2, constantValue := 0 }, { name := "value", type := .long, accessFlags := 18, slot := 0, constantValue := 0 }, { name := "SIZE", type := .int, accessFlags := 25, slot := 3, constantValue := 0 }, { name := "BYTES", type := .int, accessFlags := 25, slot := 4, constantValue := 0 }, { name := "serialVersionUID", type := .long, accessFlags := 26, slot := 5, constantValue := 0 }]
  methods := #[k9m0]
  instanceTypes := #[.long]
  staticTypes := #[.long, .long, (.object "java/lang/Class"), .int, .int, .long]
  resolved := Array.replicate 524 none
  statics := none }

def pool10 : Array CpInfo := pool [(2, .class_ 4), (1, u "java/lang/Object"), (0, u "<init>"), (0, u "()V"), (1, .class_ 10), (1, u "java/lang/System"), (0, u "allowSecurityManager"), (0, u "I"), (16, u "cons"), (0, u "Ljava/io/Console;"), (77, .class_ 110), (1, u "java/lang/System$CallersHolder"), (43, u "initialErrStream"), (0, u "Ljava/io/PrintStream;"), (19, u "security"), (0, u "Ljava/lang/SecurityManager;"), (31, .class_ 209), (0, u "java/lang/System$1"), (7, u "props"), (0, u "Ljava/util/Properties;"), (2, u "lineSeparator"), (0, u "Ljava/lang/String;"), (96, .class_ 321), (1, u "java/lang/System$LoggerFinder"), (5, .class_ 328), (0, u "java/lang/System$Logger"), (67, u "err"), (2, u "out"), (91, u "notSupportedJnuEncoding"), (15, u "in"), (17, u "initialIn"), (0, u "Ljava/io/InputStream;"), (35, u "bootLayer"), (0, u "Ljava/lang/ModuleLayer;"), (99, .class_ 664), (0, u "java/lang/System$2"), (9, u "NEVER"), (2, u "MAYBE"), (49, u "arraycopy"), (0, u "(Ljava/lang/Object;ILjava/lang/Object;II)V"), (72, .class_ 802), (0, u "java/lang/System$Logger$Level")] 31

def k10m0 : Method := { name := "<init>", desc := "()V", sig := { parameters := [], returnType := none }, accessFlags := 2, code := none }
def k10m1 : Method := { name := "arraycopy", desc := "(Ljava/lang/Object;ILjava/lang/Object;II)V", sig := { parameters := [(.object "java/lang/Object"), .int, (.object "java/lang/Object"), .int, .int], returnType := none }, accessFlags := 265, code := none }
/-- java/lang/System -/
def k10 : Class := { plain "java/lang/System" (some 0) with
  accessFlags := 49
  interfaces := #[]
  cf := some (fileOf pool10 8 #[.nestMembers #[319, 327, 801, 108, 663, 208]] #[{ accessFlags := 2, nameIndex := 5, descriptorIndex := 6, attributes := #[] }, { accessFlags := 265, nameIndex := 727, descriptorIndex := 728, attributes := #[] }] 49 2 #[] #[{ accessFlags := 25, nameIndex := 507, descriptorIndex := 526, attributes := #[] }, { accessFlags := 25, nameIndex := 399, descriptorIndex := 155, attributes := #[] }, { accessFlags := 25, nameIndex := 396, descriptorIndex := 155, attributes := #[] }, { accessFlags := 10, nameIndex := 525, descriptorIndex := 526, attributes := #[] }, { accessFlags := 26, nameIndex := 674, descriptorIndex := 12, attributes := #[] }, { accessFlags := 26, nameIndex := 677, descriptorIndex := 12, attributes := #[] }, { accessFlags := 10, nameIndex := 11, descriptorIndex := 12, attributes := #[] }, { accessFlags := 74, nameIndex := 175, descriptorIndex := 176, attributes := #[] }, { accessFlags := 10, nameIndex := 491, descriptorIndex := 222, attributes := #[] }, { accessFlags := 74, nameIndex := 29, descriptorIndex := 30, attributes := #[] }, { accessFlags := 74, nameIndex := 154, descriptorIndex := 155, attributes := #[] }, { accessFlags := 10, nameIndex := 217, descriptorIndex := 218, attributes := #[] }, { accessFlags := 10, nameIndex := 221, descriptorIndex := 222, attributes := #[] }, { accessFlags := 8, nameIndex := 562, descriptorIndex := 563, attributes := #[] }])
  fields := #[{ name := "in", type := (.object "java/io/InputStream"), accessFlags := 25, slot := 0, constantValue := 0 }, { name := "out", type := (.object "java/io/PrintStream"), accessFlags := 25, slot := 1, constantValue := 0 }, { name := "err", type := (.object "java/io/PrintStream"), accessFlags := 25, slot := 2, constantValue := 0 }, { name := "initialIn", type := (.object "java/io/InputStream"), accessFlags := 10, slot := 3, constantValue := 0 }, { name := "NEVER", type := .int, accessFlags := 26, slot := 4, constantValue := 0 }, { name := "MAYBE", type := .int, accessFlags := 26, slot := 5, constantValue := 0 }, { name := "allowSecurityManager", type := .int, accessFlags := 10, slot := 6, constantValue := 0 }, { name := "security", type := (.object "java/lang/SecurityManager"), accessFlags := 74, slot := 7, constantValue := 0 }, { name := "notSupportedJnuEncoding", type := (.object "java/lang/String"), accessFlags := 10, slot := 8, constantValue := 0 }, { name := "cons", type := (.object "java/io/Console"), accessFlags := 74, slot := 9, constantValue := 0 }, { name := "initialErrStream", type := (.object "java/io/PrintStream"), accessFlags := 74, slot := 10, constantValue := 0 }, { name := "props", type := (.object "java/util/Properties"), accessFlags := 10, slot := 11, constantValue := 0 }, { name := "lineSeparator", type := (.object "java/lang/String"), accessFlags := 10, slot := 12, constantValue := 0 }, { name := "bootLayer", type := (.object "java/lang/ModuleLayer"), accessFlags := 8, slot := 13, constantValue := 0 }]
  methods := #[k10m0, k10m1]
  instanceTypes := #[]
  staticTypes := #[(.object "java/io/InputStream"), (.object "java/io/PrintStream"), (.object "java/io/PrintStream"), (.object "java/io/InputStream"), .int, .int, .int, (.object "java/lang/SecurityManager"), (.object "java/lang/String"), (.object "java/io/Console"), (.object "java/io/PrintStream"), (.object "java/util/Properties"), (.object "java/lang/String"), (.object "java/lang/ModuleLayer")]
  resolved := Array.replicate 834 none
  statics := none }

def pool11 : Array CpInfo := pool [(1, .methodref 2 3), (0, .class_ 4), (0, .nameAndType 5 6), (0, u "java/lang/Object"), (0, u "<init>"), (0, u "()V"), (0, .class_ 8), (0, u "java/lang/Record")] 13

def k11c0 : Code := { maxStack := 1, maxLocals := 1, code := jdk_30_method_1_code, exceptionTable := #[], attributes := #[] }
def k11m0 : Method := { name := "<init>", desc := "()V", sig := { parameters := [], returnType := none }, accessFlags := 4, code := some k11c0 }
/-- java/lang/Record -/
def k11 : Class := { plain "java/lang/Record" (some 0) with
  accessFlags := 1057
  interfaces := #[]
  cf := some (fileOf pool11 7 #[] #[{ accessFlags := 4, nameIndex := 5, descriptorIndex := 6, attributes := #[] }] 1057 2 #[] #[])
  fields := #[]
  methods := #[k11m0]
  instanceTypes := #[]
  staticTypes := #[]
  resolved := Array.replicate 22 none
  statics := none }

def pool12 : Array CpInfo := pool [(1, .methodref 2 3), (0, .class_ 4), (0, .nameAndType 5 6), (0, u "java/lang/Record"), (0, u "<init>"), (0, u "()V"), (0, .fieldref 8 9), (0, .class_ 10), (0, .nameAndType 11 12), (0, u "skipstitch/search/Automaton$Steps"), (0, u "width"), (0, u "I"), (0, .fieldref 8 14), (0, .nameAndType 15 12), (0, u "columns"), (0, .fieldref 8 17), (0, .nameAndType 18 19), (0, u "next"), (0, u "[I"), (0, .fieldref 8 21), (0, .nameAndType 22 19), (0, u "comparisons"), (12, u "(II[I[I)V"), (4, u "()I"), (1, u "()[I"), (3, .class_ 47), (0, u "skipstitch/search/Automaton")] 22

def k12c0 : Code := { maxStack := 2, maxLocals := 5, code := prog_24_method_1_code, exceptionTable := #[], attributes := #[] }
def k12m0 : Method := { name := "<init>", desc := "(II[I[I)V", sig := { parameters := [.int, .int, (.array .int), (.array .int)], returnType := none }, accessFlags := 0, code := some k12c0 }
def k12c1 : Code := { maxStack := 1, maxLocals := 1, code := prog_24_method_5_code, exceptionTable := #[], attributes := #[] }
def k12m1 : Method := { name := "width", desc := "()I", sig := { parameters := [], returnType := some .int }, accessFlags := 1, code := some k12c1 }
def k12c2 : Code := { maxStack := 1, maxLocals := 1, code := prog_24_method_6_code, exceptionTable := #[], attributes := #[] }
def k12m2 : Method := { name := "columns", desc := "()I", sig := { parameters := [], returnType := some .int }, accessFlags := 1, code := some k12c2 }
def k12c3 : Code := { maxStack := 1, maxLocals := 1, code := prog_24_method_7_code, exceptionTable := #[], attributes := #[] }
def k12m3 : Method := { name := "next", desc := "()[I", sig := { parameters := [], returnType := some (.array .int) }, accessFlags := 1, code := some k12c3 }
def k12c4 : Code := { maxStack := 1, maxLocals := 1, code := prog_24_method_8_code, exceptionTable := #[], attributes := #[] }
def k12m4 : Method := { name := "comparisons", desc := "()[I", sig := { parameters := [], returnType := some (.array .int) }, accessFlags := 1, code := some k12c4 }
/-- skipstitch/search/Automaton$Steps -/
def k12 : Class := { plain "skipstitch/search/Automaton$Steps" (some 11) with
  accessFlags := 48
  interfaces := #[]
  cf := some (fileOf pool12 8 #[.nestHost 46] #[{ accessFlags := 0, nameIndex := 5, descriptorIndex := 35, attributes := #[] }, { accessFlags := 1, nameIndex := 11, descriptorIndex := 40, attributes := #[] }, { accessFlags := 1, nameIndex := 15, descriptorIndex := 40, attributes := #[] }, { accessFlags := 1, nameIndex := 18, descriptorIndex := 42, attributes := #[] }, { accessFlags := 1, nameIndex := 22, descriptorIndex := 42, attributes := #[] }] 48 2 #[] #[{ accessFlags := 18, nameIndex := 11, descriptorIndex := 12, attributes := #[] }, { accessFlags := 18, nameIndex := 15, descriptorIndex := 12, attributes := #[] }, { accessFlags := 18, nameIndex := 18, descriptorIndex := 19, attributes := #[] }, { accessFlags := 18, nameIndex := 22, descriptorIndex := 19, attributes := #[] }])
  fields := #[{ name := "width", type := .int, accessFlags := 18, slot := 0, constantValue := 0 }, { name := "columns", type := .int, accessFlags := 18, slot := 1, constantValue := 0 }, { name := "next", type := (.array .int), accessFlags := 18, slot := 2, constantValue := 0 }, { name := "comparisons", type := (.array .int), accessFlags := 18, slot := 3, constantValue := 0 }]
  methods := #[k12m0, k12m1, k12m2, k12m3, k12m4]
  instanceTypes := #[.int, .int, (.array .int), (.array .int)]
  staticTypes := #[]
  resolved := Array.replicate 70 none
  statics := none }

def pool13 : Array CpInfo := pool [(1, u "java/lang/Cloneable"), (0, .class_ 1), (0, u "java/lang/Object"), (0, .class_ 3)] 3

/-- java/lang/Cloneable -/
def k13 : Class := { plain "java/lang/Cloneable" (some 0) with
  accessFlags := 1537
  interfaces := #[]
  cf := some (fileOf pool13 2 #[] #[] 1537 4 #[] #[])
  fields := #[]
  methods := #[]
  instanceTypes := #[]
  staticTypes := #[]
  resolved := Array.replicate 8 none
  statics := none }

/-- the primitive byte -/
def k14 : Class := { plain "byte" none with kind := .primitive 'B', accessFlags := 0x411 }
/-- [B -/
def k15 : Class := { plain "[B" (some 0) with kind := .array 14 .byte, interfaces := #[13, 4], accessFlags := 1041 }

/-- the primitive int -/
def k16 : Class := { plain "int" none with kind := .primitive 'I', accessFlags := 0x411 }
/-- [I -/
def k17 : Class := { plain "[I" (some 0) with kind := .array 16 .int, interfaces := #[13, 4], accessFlags := 1041 }

/-- the primitive long -/
def k18 : Class := { plain "long" none with kind := .primitive 'J', accessFlags := 0x411 }
/-- [J -/
def k19 : Class := { plain "[J" (some 0) with kind := .array 18 .long, interfaces := #[13, 4], accessFlags := 1041 }

/-- [[I -/
def k20 : Class := { plain "[[I" (some 0) with kind := .array 17 (.array .int), interfaces := #[13, 4], accessFlags := 1041 }

def heap : Heap := #[]
def classes : Array Class := #[k0, k1, k2, k3, k4, k5, k6, k7, k8, k9, k10, k11, k12, k13, k14, k15, k16, k17, k18, k19, k20]
def interned : List (Array UInt16 × Addr) := []
def slotsUsed : Nat := 0
def theMethod : MethodId := ⟨1, 1⟩
def args0 : Array Value := #[.int 5, .int 27, .int 1234, .int 3, .int 3]
def aboutOver (below : List Frame) : State where
  vm := { classes := classes, interned := interned.toArray }
  heap := heap
  slotsUsed := slotsUsed
  threads := #[{ frames := .invoking theMethod args0 :: below }]
def below0 : List Frame := [.native { method := ⟨0, 0⟩, args := #[] }]
def about1 : State := aboutOver below0
def p0 : Program := .bare "" "" ""
def e0 : Env := launch0.env 0 0 0
theorem w_frames : about1.frames = Frame.invoking theMethod args0 :: below0 := rfl
set_option maxRecDepth 65536 in
theorem w_args : argsFit about1.vm theMethod args0 = true := by decide +kernel
set_option maxRecDepth 65536 in
theorem w_heap : heapFits about1 = true := by decide +kernel
set_option maxRecDepth 65536 in
theorem w_runnable : about1.curStatus? = some .runnable := by decide +kernel
set_option maxRecDepth 65536 in
theorem w_alone : about1.alone = true := by decide +kernel
set_option maxRecDepth 65536 in
theorem w_named : about1.methodNamed? x = some theMethod := by decide +kernel
set_option maxRecDepth 65536 in
theorem w_hears : about1.hears theMethod below0 = true := by decide +kernel
set_option maxRecDepth 65536 in
theorem w_ripe : about1.ripe theMethod args0 below0 = true := by decide +kernel
theorem w_running : about1.status = .running := rfl
set_option maxRecDepth 65536 in
theorem w_room : about1.hasRoom e0.platform room_1 = true :=
  launch0.hasRoom_least _ room_1 (by decide +kernel) (by decide +kernel) (by decide +kernel) (by decide +kernel) (by decide +kernel) (by decide +kernel)
theorem allAtoms_all (ts : List Jvm.Cond) (a : Array Jvm.Value) (st : Jvm.State) : (allAtoms ts).before a st = ts.all (fun c => c.before a st) := by
  induction ts with
  | nil => rfl
  | cons c t ih =>
    show (Jvm.Cond.and c (allAtoms t)).before a st = _
    rw [Jvm.Cond.before_and, ih, List.all_cons]
def words1 : List Jvm.Cond := Jvm.Cond.code x code maxLocals ret :: tables_1
/-- a 'code' word, met by the world's own term for the bytes: nothing is compared byte by byte -/
theorem code_word {y : MethodName} {bytes : ByteArray} {mx : Nat} {rt : Option FieldType} {a : Array Value} {s : State} {m : MethodId} {meth : Method} {c : Code} (h1 : s.methodNamed? y = some m) (h2 : s.vm.method? m = some meth) (h3 : meth.code = some c) (h4 : c.code = bytes)
    (h5 : (c.maxLocals == mx && c.exceptionTable.isEmpty && decide (c.maxStack ≤ mostOperands) && decide (meth.sig.returnType = rt) && !meth.locks && decide (parseMethodDescriptor y.desc = some meth.sig)) = true) : (Jvm.Cond.code y bytes mx rt).before a s = true := by
  simp only [Bool.and_eq_true, beq_iff_eq, Bool.not_eq_true', decide_eq_true_eq] at h5
  obtain ⟨⟨⟨⟨⟨g1, g2⟩, g3⟩, g4⟩, g5⟩, g6⟩ := h5
  simp [Cond.before, Cond.holds, Cond.value, h1, h2, h3, h4, g1, g2, g3, g4, g5, g6]
def isCode : Jvm.Cond → Bool
  | .code _ _ _ _ => true
  | _ => false
theorem all_split {L : List Jvm.Cond} {P : Jvm.Cond → Bool} (h1 : L.all (fun c => isCode c || P c) = true) (h2 : ∀ c ∈ L.filter isCode, P c = true) : L.all P = true := by
  refine List.all_eq_true.mpr fun c hc => ?_
  have h := List.all_eq_true.mp h1 c hc
  rcases Bool.eq_false_or_eq_true (isCode c) with hi | hi
  · exact h2 c (List.mem_filter.mpr ⟨hc, hi⟩)
  · simpa [hi] using h
set_option maxRecDepth 65536 in
theorem w_c0 : (Jvm.Cond.code x code maxLocals ret).before args0 about1 = true := code_word (m := ⟨1, 1⟩) (meth := k1m1) (c := k1c1) (by decide +kernel) rfl rfl rfl (by decide +kernel)
set_option maxRecDepth 65536 in
theorem w_c1 : (Jvm.Cond.code ({ cls := "skipstitch/search/LazyAutomaton", name := "<init>", desc := "([B[I)V" } : Jvm.MethodName) prog_28_method_1_code (3 : Nat) (Option.none : Option Jvm.ClassFile.FieldType)).before args0 about1 = true := code_word (m := ⟨2, 0⟩) (meth := k2m0) (c := k2c0) (by decide +kernel) rfl rfl rfl (by decide +kernel)
set_option maxRecDepth 65536 in
theorem w_c2 : (Jvm.Cond.code ({ cls := "java/lang/Object", name := "<init>", desc := "()V" } : Jvm.MethodName) object_method_1_code (1 : Nat) (Option.none : Option Jvm.ClassFile.FieldType)).before args0 about1 = true := code_word (m := ⟨0, 0⟩) (meth := k0m0) (c := k0c0) (by decide +kernel) rfl rfl rfl (by decide +kernel)
set_option maxRecDepth 65536 in
theorem w_c3 : (Jvm.Cond.code ({ cls := "skipstitch/search/LazyAutomaton", name := "workedOut", desc := "()Z" } : Jvm.MethodName) prog_28_method_4_code (1 : Nat) (Option.some Jvm.ClassFile.FieldType.boolean)).before args0 about1 = true := code_word (m := ⟨2, 3⟩) (meth := k2m3) (c := k2c3) (by decide +kernel) rfl rfl rfl (by decide +kernel)
set_option maxRecDepth 65536 in
theorem w_c4 : (Jvm.Cond.code ({ cls := "skipstitch/search/LazyAutomaton", name := "get", desc := "()Lskipstitch/search/Automaton;" } : Jvm.MethodName) prog_28_method_5_code (2 : Nat) (Option.some (Jvm.ClassFile.FieldType.object "skipstitch/search/Automaton"))).before args0 about1 = true := code_word (m := ⟨2, 4⟩) (meth := k2m4) (c := k2c4) (by decide +kernel) rfl rfl rfl (by decide +kernel)
set_option maxRecDepth 65536 in
theorem w_c5 : (Jvm.Cond.code ({ cls := "skipstitch/search/Automaton", name := "of", desc := "([B[I)Lskipstitch/search/Automaton;" } : Jvm.MethodName) prog_23_method_2_code (13 : Nat) (Option.some (Jvm.ClassFile.FieldType.object "skipstitch/search/Automaton"))).before args0 about1 = true := code_word (m := ⟨3, 1⟩) (meth := k3m1) (c := k3c1) (by decide +kernel) rfl rfl rfl (by decide +kernel)
set_option maxRecDepth 65536 in
theorem w_c6 : (Jvm.Cond.code ({ cls := "skipstitch/search/Automaton", name := "columns", desc := "([B)[I" } : Jvm.MethodName) prog_23_method_6_code (7 : Nat) (Option.some (Jvm.ClassFile.FieldType.array Jvm.ClassFile.FieldType.int))).before args0 about1 = true := code_word (m := ⟨3, 5⟩) (meth := k3m5) (c := k3c5) (by decide +kernel) rfl rfl rfl (by decide +kernel)
set_option maxRecDepth 65536 in
theorem w_c7 : (Jvm.Cond.code ({ cls := "skipstitch/search/Automaton", name := "columnCount", desc := "([B)I" } : Jvm.MethodName) prog_23_method_7_code (6 : Nat) (Option.some Jvm.ClassFile.FieldType.int)).before args0 about1 = true := code_word (m := ⟨3, 6⟩) (meth := k3m6) (c := k3c6) (by decide +kernel) rfl rfl rfl (by decide +kernel)
set_option maxRecDepth 65536 in
theorem w_c8 : (Jvm.Cond.code ({ cls := "java/lang/Long", name := "bitCount", desc := "(J)I" } : Jvm.MethodName) jdk_35_method_50_code (2 : Nat) (Option.some Jvm.ClassFile.FieldType.int)).before args0 about1 = true := code_word (m := ⟨9, 0⟩) (meth := k9m0) (c := k9c0) (by decide +kernel) rfl rfl rfl (by decide +kernel)
set_option maxRecDepth 65536 in
theorem w_c9 : (Jvm.Cond.code ({ cls := "skipstitch/search/Automaton", name := "width", desc := "(II)I" } : Jvm.MethodName) prog_23_method_4_code (7 : Nat) (Option.some Jvm.ClassFile.FieldType.int)).before args0 about1 = true := code_word (m := ⟨3, 3⟩) (meth := k3m3) (c := k3c3) (by decide +kernel) rfl rfl rfl (by decide +kernel)
set_option maxRecDepth 65536 in
theorem w_c10 : (Jvm.Cond.code ({ cls := "skipstitch/search/LazyAutomaton", name := "width", desc := "()I" } : Jvm.MethodName) prog_28_method_2_code (2 : Nat) (Option.some Jvm.ClassFile.FieldType.int)).before args0 about1 = true := code_word (m := ⟨2, 1⟩) (meth := k2m1) (c := k2c1) (by decide +kernel) rfl rfl rfl (by decide +kernel)
set_option maxRecDepth 65536 in
theorem w_c11 : (Jvm.Cond.code ({ cls := "skipstitch/search/Automaton", name := "width", desc := "([B)I" } : Jvm.MethodName) prog_23_method_3_code (1 : Nat) (Option.some Jvm.ClassFile.FieldType.int)).before args0 about1 = true := code_word (m := ⟨3, 2⟩) (meth := k3m2) (c := k3c2) (by decide +kernel) rfl rfl rfl (by decide +kernel)
set_option maxRecDepth 65536 in
theorem w_c12 : (Jvm.Cond.code ({ cls := "skipstitch/search/LazyAutomaton", name := "entries", desc := "()J" } : Jvm.MethodName) prog_28_method_3_code (1 : Nat) (Option.some Jvm.ClassFile.FieldType.long)).before args0 about1 = true := code_word (m := ⟨2, 2⟩) (meth := k2m2) (c := k2c2) (by decide +kernel) rfl rfl rfl (by decide +kernel)
set_option maxRecDepth 65536 in
theorem w_c13 : (Jvm.Cond.code ({ cls := "skipstitch/search/Automaton", name := "entries", desc := "([B)J" } : Jvm.MethodName) prog_23_method_5_code (9 : Nat) (Option.some Jvm.ClassFile.FieldType.long)).before args0 about1 = true := code_word (m := ⟨3, 4⟩) (meth := k3m4) (c := k3c4) (by decide +kernel) rfl rfl rfl (by decide +kernel)
set_option maxRecDepth 65536 in
theorem w_c14 : (Jvm.Cond.code ({ cls := "skipstitch/search/Automaton$Steps", name := "<init>", desc := "(II[I[I)V" } : Jvm.MethodName) prog_24_method_1_code (5 : Nat) (Option.none : Option Jvm.ClassFile.FieldType)).before args0 about1 = true := code_word (m := ⟨12, 0⟩) (meth := k12m0) (c := k12c0) (by decide +kernel) rfl rfl rfl (by decide +kernel)
set_option maxRecDepth 65536 in
theorem w_c15 : (Jvm.Cond.code ({ cls := "java/lang/Record", name := "<init>", desc := "()V" } : Jvm.MethodName) jdk_30_method_1_code (1 : Nat) (Option.none : Option Jvm.ClassFile.FieldType)).before args0 about1 = true := code_word (m := ⟨11, 0⟩) (meth := k11m0) (c := k11c0) (by decide +kernel) rfl rfl rfl (by decide +kernel)
set_option maxRecDepth 65536 in
theorem w_c16 : (Jvm.Cond.code ({ cls := "skipstitch/search/Automaton$Steps", name := "width", desc := "()I" } : Jvm.MethodName) prog_24_method_5_code (1 : Nat) (Option.some Jvm.ClassFile.FieldType.int)).before args0 about1 = true := code_word (m := ⟨12, 1⟩) (meth := k12m1) (c := k12c1) (by decide +kernel) rfl rfl rfl (by decide +kernel)
set_option maxRecDepth 65536 in
theorem w_c17 : (Jvm.Cond.code ({ cls := "skipstitch/search/Automaton", name := "twice", desc := "(Lskipstitch/search/Automaton$Steps;I)Lskipstitch/search/Automaton$Steps;" } : Jvm.MethodName) prog_23_method_8_code (12 : Nat) (Option.some (Jvm.ClassFile.FieldType.object "skipstitch/search/Automaton$Steps"))).before args0 about1 = true := code_word (m := ⟨3, 7⟩) (meth := k3m7) (c := k3c7) (by decide +kernel) rfl rfl rfl (by decide +kernel)
set_option maxRecDepth 65536 in
theorem w_c18 : (Jvm.Cond.code ({ cls := "skipstitch/search/Automaton$Steps", name := "columns", desc := "()I" } : Jvm.MethodName) prog_24_method_6_code (1 : Nat) (Option.some Jvm.ClassFile.FieldType.int)).before args0 about1 = true := code_word (m := ⟨12, 2⟩) (meth := k12m2) (c := k12c2) (by decide +kernel) rfl rfl rfl (by decide +kernel)
set_option maxRecDepth 65536 in
theorem w_c19 : (Jvm.Cond.code ({ cls := "skipstitch/search/Automaton$Steps", name := "next", desc := "()[I" } : Jvm.MethodName) prog_24_method_7_code (1 : Nat) (Option.some (Jvm.ClassFile.FieldType.array Jvm.ClassFile.FieldType.int))).before args0 about1 = true := code_word (m := ⟨12, 3⟩) (meth := k12m3) (c := k12c3) (by decide +kernel) rfl rfl rfl (by decide +kernel)
set_option maxRecDepth 65536 in
theorem w_c20 : (Jvm.Cond.code ({ cls := "skipstitch/search/Automaton$Steps", name := "comparisons", desc := "()[I" } : Jvm.MethodName) prog_24_method_8_code (1 : Nat) (Option.some (Jvm.ClassFile.FieldType.array Jvm.ClassFile.FieldType.int))).before args0 about1 = true := code_word (m := ⟨12, 4⟩) (meth := k12m4) (c := k12c4) (by decide +kernel) rfl rfl rfl (by decide +kernel)
set_option maxRecDepth 65536 in
theorem w_c21 : (Jvm.Cond.code ({ cls := "skipstitch/search/Automaton", name := "<init>", desc := "([IILskipstitch/search/Automaton$Steps;Lskipstitch/search/Automaton$Steps;)V" } : Jvm.MethodName) prog_23_method_1_code (9 : Nat) (Option.none : Option Jvm.ClassFile.FieldType)).before args0 about1 = true := code_word (m := ⟨3, 0⟩) (meth := k3m0) (c := k3c0) (by decide +kernel) rfl rfl rfl (by decide +kernel)
def codes1 : List Jvm.Cond := [Jvm.Cond.code x code maxLocals ret, Jvm.Cond.code ({ cls := "skipstitch/search/LazyAutomaton", name := "<init>", desc := "([B[I)V" } : Jvm.MethodName) prog_28_method_1_code (3 : Nat) (Option.none : Option Jvm.ClassFile.FieldType), Jvm.Cond.code ({ cls := "java/lang/Object", name := "<init>", desc := "()V" } : Jvm.MethodName) object_method_1_code (1 : Nat) (Option.none : Option Jvm.ClassFile.FieldType), Jvm.Cond.code ({ cls := "skipstitch/search/LazyAutomaton", name := "workedOut", desc := "()Z" } : Jvm.MethodName) prog_28_method_4_code (1 : Nat) (Option.some Jvm.ClassFile.FieldType.boolean), Jvm.Cond.code ({ cls := "skipstitch/search/LazyAutomaton", name := "get", desc := "()Lskipstitch/search/Automaton;" } : Jvm.MethodName) prog_28_method_5_code (2 : Nat) (Option.some (Jvm.ClassFile.FieldType.object "skipstitch/search/Automaton")), Jvm.Cond.code ({ cls := "skipstitch/search/Automaton", name := "of", desc := "([B[I)Lskipstitch/search/Automaton;" } : Jvm.MethodName) prog_23_method_2_code (13 : Nat) (Option.some (Jvm.ClassFile.FieldType.object "skipstitch/search/Automaton")), Jvm.Cond.code ({ cls := "skipstitch/search/Automaton", name := "columns", desc := "([B)[I" } : Jvm.MethodName) prog_23_method_6_code (7 : Nat) (Option.some (Jvm.ClassFile.FieldType.array Jvm.ClassFile.FieldType.int)), Jvm.Cond.code ({ cls := "skipstitch/search/Automaton", name := "columnCount", desc := "([B)I" } : Jvm.MethodName) prog_23_method_7_code (6 : Nat) (Option.some Jvm.ClassFile.FieldType.int), Jvm.Cond.code ({ cls := "java/lang/Long", name := "bitCount", desc := "(J)I" } : Jvm.MethodName) jdk_35_method_50_code (2 : Nat) (Option.some Jvm.ClassFile.FieldType.int), Jvm.Cond.code ({ cls := "skipstitch/search/Automaton", name := "width", desc := "(II)I" } : Jvm.MethodName) prog_23_method_4_code (7 : Nat) (Option.some Jvm.ClassFile.FieldType.int), Jvm.Cond.code ({ cls := "skipstitch/search/LazyAutomaton", name := "width", desc := "()I" } : Jvm.MethodName) prog_28_method_2_code (2 : Nat) (Option.some Jvm.ClassFile.FieldType.int), Jvm.Cond.code ({ cls := "skipstitch/search/Automaton", name := "width", desc := "([B)I" } : Jvm.MethodName) prog_23_method_3_code (1 : Nat) (Option.some Jvm.ClassFile.FieldType.int), Jvm.Cond.code ({ cls := "skipstitch/search/LazyAutomaton", name := "entries", desc := "()J" } : Jvm.MethodName) prog_28_method_3_code (1 : Nat) (Option.some Jvm.ClassFile.FieldType.long), Jvm.Cond.code ({ cls := "skipstitch/search/Automaton", name := "entries", desc := "([B)J" } : Jvm.MethodName) prog_23_method_5_code (9 : Nat) (Option.some Jvm.ClassFile.FieldType.long), Jvm.Cond.code ({ cls := "skipstitch/search/Automaton$Steps", name := "<init>", desc := "(II[I[I)V" } : Jvm.MethodName) prog_24_method_1_code (5 : Nat) (Option.none : Option Jvm.ClassFile.FieldType), Jvm.Cond.code ({ cls := "java/lang/Record", name := "<init>", desc := "()V" } : Jvm.MethodName) jdk_30_method_1_code (1 : Nat) (Option.none : Option Jvm.ClassFile.FieldType), Jvm.Cond.code ({ cls := "skipstitch/search/Automaton$Steps", name := "width", desc := "()I" } : Jvm.MethodName) prog_24_method_5_code (1 : Nat) (Option.some Jvm.ClassFile.FieldType.int), Jvm.Cond.code ({ cls := "skipstitch/search/Automaton", name := "twice", desc := "(Lskipstitch/search/Automaton$Steps;I)Lskipstitch/search/Automaton$Steps;" } : Jvm.MethodName) prog_23_method_8_code (12 : Nat) (Option.some (Jvm.ClassFile.FieldType.object "skipstitch/search/Automaton$Steps")), Jvm.Cond.code ({ cls := "skipstitch/search/Automaton$Steps", name := "columns", desc := "()I" } : Jvm.MethodName) prog_24_method_6_code (1 : Nat) (Option.some Jvm.ClassFile.FieldType.int), Jvm.Cond.code ({ cls := "skipstitch/search/Automaton$Steps", name := "next", desc := "()[I" } : Jvm.MethodName) prog_24_method_7_code (1 : Nat) (Option.some (Jvm.ClassFile.FieldType.array Jvm.ClassFile.FieldType.int)), Jvm.Cond.code ({ cls := "skipstitch/search/Automaton$Steps", name := "comparisons", desc := "()[I" } : Jvm.MethodName) prog_24_method_8_code (1 : Nat) (Option.some (Jvm.ClassFile.FieldType.array Jvm.ClassFile.FieldType.int)), Jvm.Cond.code ({ cls := "skipstitch/search/Automaton", name := "<init>", desc := "([IILskipstitch/search/Automaton$Steps;Lskipstitch/search/Automaton$Steps;)V" } : Jvm.MethodName) prog_23_method_1_code (9 : Nat) (Option.none : Option Jvm.ClassFile.FieldType)]
set_option maxRecDepth 65536 in
theorem codes_eq : words1.filter isCode = codes1 := rfl
theorem w_codes : ∀ c ∈ words1.filter isCode, c.before args0 about1 = true := by
  rw [codes_eq]
  intro c hc
  simp only [codes1, List.mem_cons, List.not_mem_nil, or_false] at hc
  rcases hc with rfl | rfl | rfl | rfl | rfl | rfl | rfl | rfl | rfl | rfl | rfl | rfl | rfl | rfl | rfl | rfl | rfl | rfl | rfl | rfl | rfl | rfl
  · exact w_c0
  · exact w_c1
  · exact w_c2
  · exact w_c3
  · exact w_c4
  · exact w_c5
  · exact w_c6
  · exact w_c7
  · exact w_c8
  · exact w_c9
  · exact w_c10
  · exact w_c11
  · exact w_c12
  · exact w_c13
  · exact w_c14
  · exact w_c15
  · exact w_c16
  · exact w_c17
  · exact w_c18
  · exact w_c19
  · exact w_c20
  · exact w_c21
set_option maxRecDepth 65536 in
theorem w_t1 : (words1.take 24).all (fun c => isCode c || c.before args0 about1) = true := by decide +kernel
set_option maxRecDepth 65536 in
theorem w_t2 : ((words1.drop 24).take 24).all (fun c => isCode c || c.before args0 about1) = true := by decide +kernel
set_option maxRecDepth 65536 in
theorem w_t3 : (((words1.drop 24).drop 24).take 24).all (fun c => isCode c || c.before args0 about1) = true := by decide +kernel
set_option maxRecDepth 65536 in
theorem w_t4 : ((((words1.drop 24).drop 24).drop 24).take 24).all (fun c => isCode c || c.before args0 about1) = true := by decide +kernel
set_option maxRecDepth 65536 in
theorem w_t5 : (((((words1.drop 24).drop 24).drop 24).drop 24).take 24).all (fun c => isCode c || c.before args0 about1) = true := by decide +kernel
set_option maxRecDepth 65536 in
theorem w_t6 : (((((words1.drop 24).drop 24).drop 24).drop 24).drop 24).all (fun c => isCode c || c.before args0 about1) = true := by decide +kernel
theorem w_tables : (allAtoms (Jvm.Cond.code x code maxLocals ret :: tables_1)).before args0 about1 = true := by
  rw [allAtoms_all]
  show words1.all (fun c => c.before args0 about1) = true
  refine all_split ?_ w_codes
  rw [← List.take_append_drop 24 words1, List.all_append, w_t1, ← List.take_append_drop 24 (words1.drop 24), List.all_append, w_t2, ← List.take_append_drop 24 ((words1.drop 24).drop 24), List.all_append, w_t3, ← List.take_append_drop 24 (((words1.drop 24).drop 24).drop 24), List.all_append, w_t4, ← List.take_append_drop 24 ((((words1.drop 24).drop 24).drop 24).drop 24), List.all_append, w_t5, w_t6]
  rfl
set_option maxRecDepth 65536 in
theorem w_case : (Jvm.Cond.and given_1 narrow_1).before args0 about1 = true := by decide +kernel
theorem w_applies : (headSpec (Jvm.Cond.code x code maxLocals ret :: tables_1) room_1).applies x e0.platform about1 = true :=
  (Spec.applies_iff w_frames).mpr ⟨w_running, w_runnable, w_alone, w_named, w_hears, w_ripe, w_room, w_tables⟩
theorem atStart : AtStart classFile x code maxLocals ret World_1 tables_1 room_1 Calls_1 rest_1 Pre_1 launch0 p0 e0 about1 theMethod args0 below0 :=
  ⟨lists_1, trivial, launch0.admits_env _ _ _, launch0.least_env, fairChoices_fair.cas, fairChoices_fair.clock, w_frames, w_args, w_heap, w_applies, trivial, trivial, w_case⟩
end start1
theorem witness_1 : WitnessClaimed_1 := ⟨start1.p0, start1.e0, start1.about1, start1.theMethod, start1.args0, start1.below0, start1.atStart⟩
end Jvm.Pilot.@@N@@
