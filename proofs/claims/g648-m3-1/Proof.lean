import JvmDerived
import JvmDerived.Pilot.@@N@@Statement
import JvmDerived.Pilot.@@N@@Code
set_option linter.unusedVariables false
set_option linter.unusedSimpArgs false
namespace Jvm.RoadKit
open Sem ClassFile Op Lib Jvm.Stand Jvm.Free Jvm.LawKit
section New
variable {p : Program} {l : Launch} {e : Env} {R : Room} {s : State} {m : MethodId} {args : Array Value} {below : List Frame} {meth : Method} {c : Code} {T : State} {locs : List Loc} {cells slots : Nat}
theorem retI (X : Stand p l e R s m args below meth c T locs cells slots) (hx : p.tables.exec = Jvm.exec) {pc : Nat} {Ls : Array Slot} {z : Int32} {rest : List Value} (hret : meth.sig.returnType = some .int) (hd : decode c.code pc = .ok (.ireturn, 1)) {fs : List Frame}
    (hl : ∀ (f : JFrame) (acts : List Action), f.method = m → f.locked = none → f.entered = [] → (doReturn e (T.setTop f) acts (some (.int z))).1 = T.setFrames fs) : Steps p.tables e below (T.setTop (mkF m pc Ls (.int z :: rest))) (T.setFrames fs) := by
  have hm' : T.vm.method? m = some meth := X.method'
  have hn : narrow .int (.int z) = .int z := rfl
  show Steps p.tables e below (T.setTop { method := m, pc := pc, locals := Ls, stack := _ :: rest, locked := none }) _
  jvm_step X.here [X.here.top, hx, hd, hm', hret, hn]
  first | (intro acts; rw [hl _ acts rfl rfl rfl]) | rw [hl _ _ rfl rfl rfl]
  exact Steps.refl _
end New
/-! own: a long's comparison, an array by a function -/
theorem own_tltL {x y : Int64} (h : x < y) : ifCond.holds .lt (lcmpW x y) = true ∧ ifCond.holds .ge (lcmpW x y) = false ∧ ifCond.holds .gt (lcmpW y x) = true ∧ ifCond.holds .le (lcmpW y x) = false := by
  have h1 := (lc_lt x y).mpr h
  have h2 := (lc_gt y x).mpr h
  rw [← lcW] at h1 h2
  simp only [if0]
  exact ⟨(tlt h1).1, (tlt h1).2.1, (tlt h2).2.2.1, (tlt h2).2.2.2⟩
theorem own_fltL {x y : Int64} (h : ¬ x < y) : ifCond.holds .lt (lcmpW x y) = false ∧ ifCond.holds .ge (lcmpW x y) = true ∧ ifCond.holds .gt (lcmpW y x) = false ∧ ifCond.holds .le (lcmpW y x) = true := by
  have h1 := mt (lc_lt x y).mp h
  have h2 := mt (lc_gt y x).mp h
  rw [← lcW] at h1 h2
  simp only [if0]
  exact ⟨(flt h1).1, (flt h1).2.1, (flt h2).2.2.1, (flt h2).2.2.2⟩
theorem own_teqL {x y : Int64} (h : x = y) : ifCond.holds .eq (lcmpW x y) = true ∧ ifCond.holds .ne (lcmpW x y) = false := by
  have h1 := (lc_eq x y).mpr h
  rw [← lcW] at h1
  simp only [if0]
  exact teq h1
theorem own_feqL {x y : Int64} (h : ¬ x = y) : ifCond.holds .eq (lcmpW x y) = false ∧ ifCond.holds .ne (lcmpW x y) = true := by
  have h1 := mt (lc_eq x y).mp h
  rw [← lcW] at h1
  simp only [if0]
  exact feq h1
theorem own_nb (x : Int32) : nar .byte (x.toInt8.toInt32) = x.toInt8.toInt32 := by
  show (x.toInt8.toInt32).toInt8.toInt32 = _
  simp
theorem own_sel {args : Array Value} {s : State} {y z : MethodName} (hi : (Cond.instanceMethod y).before args s = true) (hp : (Cond.privateMethod y).before args s = true) (h2 : (Cond.selects y.cls z z).before args s = true) (hc : z.cls = y.cls)
    (hy : y.cls ≠ "java/lang/invoke/MethodHandle" ∧ y.cls ≠ "java/lang/invoke/VarHandle") : (Cond.selects y.cls y y).before args s = true := by
  obtain ⟨mk, meth, hn, hm, -, -⟩ := Cond.instanceMethod_spec hi
  obtain ⟨c, r, m2, -, -, f3, -, k, f4, f5⟩ := Cond.selects_spec h2
  have e1 := findClass_of_methodNamed hn
  have e2 := findClass_of_methodNamed f3
  rw [hc, e1] at e2
  have e3 : m2.cls = mk.cls := (Option.some.inj e2).symm
  have e4 := State.methodFound?_of_named hn hy
  have e5 := selectMethod_private (p := {}) (c := mk.cls) hm (Cond.privateMethod_at hp mk meth hn hm)
  rw [e3] at f4
  simp [Cond.before, Cond.holds, Cond.value, e1, e4, hn, e5, f4, f5]
def AF (Z : State) (h : Heap) (a : Addr) (ty : FieldType) (n : Nat) (g : Nat → Value) : Prop := ∃ c : Cell, Arr Z h a c ty ∧ c.slots.size = n ∧ ∀ j, j < n → c.slots[j]? = some (g j)
abbrev AI (Z : State) (h : Heap) (a : Addr) (ty : FieldType) (n : Nat) (f : Nat → Int32) : Prop := AF Z h a ty n (fun j => .int (f j))
abbrev AJ (Z : State) (h : Heap) (a : Addr) (ty : FieldType) (n : Nat) (f : Nat → Int64) : Prop := AF Z h a ty n (fun j => .long (f j))
abbrev AD (Z : State) (h : Heap) (a : Addr) (ty : FieldType) (n : Nat) (f : Nat → UInt64) : Prop := AF Z h a ty n (fun j => .double (f j))
def up {α : Type} (f : Nat → α) (i : Nat) (v : α) : Nat → α := fun j => if j = i then v else f j
def zI : Nat → Int32 := fun _ => 0
def zJ : Nat → Int64 := fun _ => 0
section Arrs
variable {Z : State} {h h' : Heap} {a b : Addr} {ty : FieldType} {n : Nat} {g g' : Nat → Value}
theorem AF.lt (F : AF Z h a ty n g) : a < h.size := by obtain ⟨c, A, -⟩ := F; exact A.lt
theorem AF.ext (F : AF Z h a ty n g) (E : Ext h h') : AF Z h' a ty n g := by obtain ⟨c, A, r⟩ := F; exact ⟨c, A.ext E, r⟩
theorem AF.other {sl : Nat} {v : Value} (F : AF Z h b ty n g) (W : Wr h h' a sl v) (q : b ≠ a) : AF Z h' b ty n g := by obtain ⟨c, A, r⟩ := F; exact ⟨c, A.other W q, r⟩
theorem AF.keep {ws : List Addr} (F : AF Z h a ty n g) (K : Keep h h' ws) (q : a ∉ ws) : AF Z h' a ty n g := by obtain ⟨c, A, r⟩ := F; exact ⟨c, ⟨K.2.1 a c A.1 q, A.2⟩, r⟩
theorem AF.re (F : AF Z h a ty n g) (q : ∀ j, j < n → g j = g' j) : AF Z h a ty n g' := by obtain ⟨c, A, S, H⟩ := F; exact ⟨c, A, S, fun j hj => by rw [H j hj, q j hj]⟩
theorem AF.at (F : AF Z h a ty n g) {j : Int32} (i : Nat) (hj : j.toInt = i) (hi : i < n) : ∃ c : Cell, Arr Z h a c ty ∧ ¬ (j < 0 ∨ c.slots.size ≤ j.toNatClampNeg) ∧ c.slots[j.toNatClampNeg]? = some (g i) := by
  obtain ⟨c, A, S, H⟩ := F
  have e : j.toNatClampNeg = i := by simp only [Int32.toNatClampNeg, hj]; omega
  refine ⟨c, A, ?_, by rw [e]; exact H i hi⟩
  rw [e, S, Int32.lt_iff_toInt_lt, hj]
  have : (0 : Int32).toInt = 0 := rfl
  omega
theorem AF.len (F : AF Z h a ty n g) : ∃ c : Cell, Arr Z h a c ty ∧ c.slots.size = n := by obtain ⟨c, A, S, -⟩ := F; exact ⟨c, A, S⟩
theorem AF.set {k : Nat} {v : Value} (F : AF Z h a ty n g) (W : Wr h h' a k v) : AF Z h' a ty n (fun j => if j = k then v else g j) := by
  obtain ⟨c, A, S, H⟩ := F
  refine ⟨_, A.same W, by rw [sz_set]; exact S, fun j hj => ?_⟩
  by_cases q : j = k
  · subst q; simp [Cell.setSlot, S, hj]
  · show _ = some (if j = k then v else g j)
    rw [if_neg q]; have := H j hj; simp only [Cell.setSlot] at this ⊢; rw [Array.getElem?_setIfInBounds_ne (Ne.symm q)]; exact this
theorem own_tn {j : Int32} {i : Nat} (hj : j.toInt = i) : j.toNatClampNeg = i := by simp only [Int32.toNatClampNeg, hj]; omega
theorem AF.setI {f : Nat → Int32} {j : Int32} {v : Int32} (F : AI Z h a ty n f) (W : Wr h h' a j.toNatClampNeg (.int v)) (i : Nat) (hj : j.toInt = i) : AI Z h' a ty n (up f i v) := by
  rw [own_tn hj] at W
  exact (AF.set F W).re fun k _ => by by_cases q : k = i <;> simp [up, q]
theorem AF.setJ {f : Nat → Int64} {j : Int32} {v : Int64} (F : AJ Z h a ty n f) (W : Wr h h' a j.toNatClampNeg (.long v)) (i : Nat) (hj : j.toInt = i) : AJ Z h' a ty n (up f i v) := by
  rw [own_tn hj] at W
  exact (AF.set F W).re fun k _ => by by_cases q : k = i <;> simp [up, q]
theorem AF.setD {f : Nat → UInt64} {j : Int32} {v : UInt64} (F : AD Z h a ty n f) (W : Wr h h' a j.toNatClampNeg (.double v)) (i : Nat) (hj : j.toInt = i) : AD Z h' a ty n (up f i v) := by
  rw [own_tn hj] at W
  exact (AF.set F W).re fun k _ => by by_cases q : k = i <;> simp [up, q]
theorem AF.new {k : ClassId} {z : Int32} (A : Arr Z h a (newA k ty z) ty) (hz : z.toInt = n) : AF Z h a ty n (fun _ => defaultValue ty) :=
  ⟨_, A, by rw [sz_new]; exact own_tn hz, fun j hj => by simp [newA, own_tn hz, hj]⟩
end Arrs
end Jvm.RoadKit
namespace Jvm.Pilot.@@N@@
open Jvm Jvm.ClassFile Sem Op Lib Jvm.Free Jvm.Stand Jvm.LawKit Jvm.RoadKit Bundle Jvm.Pilot.@@N@@.Jvm.D
theorem ef_1 (m : MethodId) (ra : Addr) (bb : Int32) : entryFrame m #[(.ref ra), (.int bb)] 2 = mkF m 0 #[.val (.ref ra), .val (.int bb)] [] := by first | (simp [entryFrame, mkF, argsToLocals, Value.category]; done) | rfl
theorem d1_0 : decode prog_12_method_5_code 0 = .ok (.iload_n 1, 1) := by decide +kernel
theorem d1_1 : decode prog_12_method_5_code 1 = .ok (.sipush 255, 3) := by decide +kernel
theorem d1_4 : decode prog_12_method_5_code 4 = .ok (.iand, 1) := by decide +kernel
theorem d1_5 : decode prog_12_method_5_code 5 = .ok (.aload_n 0, 1) := by decide +kernel
theorem d1_6 : decode prog_12_method_5_code 6 = .ok (.getfield 40, 3) := by decide +kernel
theorem d1_9 : decode prog_12_method_5_code 9 = .ok (.if_icmp .lt 19, 3) := by decide +kernel
theorem d1_28 : decode prog_12_method_5_code 28 = .ok (.iconst 0, 1) := by decide +kernel
theorem d1_29 : decode prog_12_method_5_code 29 = .ok (.ireturn, 1) := by decide +kernel
theorem d1_12 : decode prog_12_method_5_code 12 = .ok (.iload_n 1, 1) := by decide +kernel
theorem d1_13 : decode prog_12_method_5_code 13 = .ok (.sipush 255, 3) := by decide +kernel
theorem d1_16 : decode prog_12_method_5_code 16 = .ok (.iand, 1) := by decide +kernel
theorem d1_17 : decode prog_12_method_5_code 17 = .ok (.aload_n 0, 1) := by decide +kernel
theorem d1_18 : decode prog_12_method_5_code 18 = .ok (.getfield 44, 3) := by decide +kernel
theorem d1_21 : decode prog_12_method_5_code 21 = .ok (.if_icmp .gt 7, 3) := by decide +kernel
theorem d1_24 : decode prog_12_method_5_code 24 = .ok (.iconst 1, 1) := by decide +kernel
theorem d1_25 : decode prog_12_method_5_code 25 = .ok (.goto 4, 3) := by decide +kernel
def r1_v (bb : Int32) (w_lowest : Int32) (w_highest : Int32) : Int32 := (if (bb &&& (255 : Int32)) < w_lowest then (0 : Int32) else (if w_highest < (bb &&& (255 : Int32)) then (0 : Int32) else (1 : Int32)))
theorem pn_com_example_tillwire_tillwire_core_card_Track : plainName "com/example/tillwire/tillwire/core/card/Track" = true := by first | (simp [plainName, overriddenIn]; done) | decide +kernel
def Q1 (Z : State) (ra : Addr) (bb : Int32) (w_lowest : Int32) (w_highest : Int32) (h0 : Heap) (n0 : Nat) (v : Option Value) (h : Heap) (L : List Loc) : Prop := v = some (.int (r1_v bb w_lowest w_highest)) ∧ Fr n0 L ∧ h = h0
set_option maxRecDepth 65536 in
set_option maxHeartbeats 40000000 in
theorem rm1 (l : Launch) (Z : State) (a0 : Array Value) (hw : ∀ d ∈ tables_1, d.before a0 Z = true) (ws : List Jvm.Cond) (ra : Addr) (bb : Int32) (w_lowest : Int32) (w_highest : Int32) (h0 : Heap) (n0 : Nat) (Z0 : n0 ≤ h0.size) (F_lowest_ra : Fld Z h0 ra "com/example/tillwire/tillwire/core/card/Track" "lowest" "I" (.int w_lowest)) (F_highest_ra : Fld Z h0 ra "com/example/tillwire/tillwire/core/card/Track" "highest" "I" (.int w_highest)) :
    MetFree l (⟨"com/example/tillwire/tillwire/core/card/Track", "holds", "(B)Z"⟩ : MethodName) (head1 (Jvm.Cond.code (⟨"com/example/tillwire/tillwire/core/card/Track", "holds", "(B)Z"⟩ : MethodName) prog_12_method_5_code 2 (some .boolean) :: ws) ({ frames := 0, cells := 0, slots := 0, locals := 0 } : Room)) (fun a U => a = #[(.ref ra), (.int bb)] ∧ Z.Warmed39 U.vm ∧ U.heap = h0) (fun _ _ _ _ _ => True) (fun _ U o U' => ∃ v L, o = .returned v ∧ Q1 Z ra bb w_lowest w_highest h0 n0 v U'.heap L ∧ FrameEnd U o U' L ({ frames := 0, cells := 0, slots := 0, locals := 0 } : Room).cells ({ frames := 0, cells := 0, slots := 0, locals := 0 } : Room).slots) := by
  refine MetFree.of_bodySF (plainFor_of_name pn_com_example_tillwire_tillwire_core_card_Track) hisR ?_
  intro p e s m args below meth c s₁ Bd hml0 hP hK
  obtain ⟨rfl, hZ, hh⟩ := hP
  have hx := Bd.exec
  have hby := Bd.bytes
  have hml : c.maxLocals = 2 := hml0
  have hown : s.vm.findClass "com/example/tillwire/tillwire/core/card/Track" = some m.cls := findClass_of_methodNamed Bd.named
  have hnm := (name_of_methodNamed Bd.named Bd.method).1
  have X0 : Stand p l e ({ frames := 0, cells := 0, slots := 0, locals := 0 } : Room) s m #[(.ref ra), (.int bb)] below meth c s₁ [] 0 0 := Stand.of_body Bd
  have e0 : s₁.heap = h0 := by rw [← hh, Bd.state]; rfl
  have N0 := Fr.nil n0
  have K0 : Keep h0 h0 [] := Keep.refl h0 _
  have pre0 : ∀ t, Steps p.tables e below (s₁.setTop (mkF m 0 #[.val (.ref ra), .val (.int bb)] [])) t → Steps p.tables e below (s₁.setTop (entryFrame m #[(.ref ra), (.int bb)] 2)) t := fun t k => castTop (ef_1 m ra bb) k
  obtain ⟨T1, X1, e1, st1⟩ := getF X0 hx hZ hown (host := "") (Or.inl (hw _ (List.mem_of_getElem? (i := 8) rfl))) Via.refl e0 F_lowest_ra (g := (mkF m 6 #[.val (.ref ra), .val (.int bb)] [(.ref ra), (.int (bb &&& (255 : Int32)))])) rfl rfl (hb hby d1_6)
  have pre2 : ∀ t, Steps p.tables e below (T1.setTop (mkF m 9 #[.val (.ref ra), .val (.int bb)] [(.int w_lowest), (.int (bb &&& (255 : Int32)))])) t → Steps p.tables e below (s₁.setTop (entryFrame m #[(.ref ra), (.int bb)] 2)) t := by
    intro t k
    refine pre0 _ ?_
    show Steps p.tables e below (s₁.setTop (mkF m 0 #[.val (.ref ra), .val (.int bb)] [])) _
    refine XS.iloadN X0.here hx rfl (hb hby d1_0) rfl ?_
    show Steps p.tables e below (s₁.setTop (mkF m 1 #[.val (.ref ra), .val (.int bb)] [(.int bb)])) _
    refine XS.sipush X0.here hx rfl (hb hby d1_1) ?_
    show Steps p.tables e below (s₁.setTop (mkF m 4 #[.val (.ref ra), .val (.int bb)] [(.int (255 : Int32)), (.int bb)])) _
    refine XS.iand X0.here hx rfl (hb hby d1_4) rfl ?_
    show Steps p.tables e below (s₁.setTop (mkF m 5 #[.val (.ref ra), .val (.int bb)] [(.int (bb &&& (255 : Int32)))])) _
    refine XS.aloadN X0.here hx rfl (hb hby d1_5) rfl rfl ?_
    show Steps p.tables e below (s₁.setTop (mkF m 6 #[.val (.ref ra), .val (.int bb)] [(.ref ra), (.int (bb &&& (255 : Int32)))])) _
    refine st1 _ ?_
    exact k
  by_cases hk3 : (bb &&& (255 : Int32)) < w_lowest
  · obtain ⟨fs, hr, hrun, hended, hW, hsame⟩ := X1.leave (v := some (.int (0 : Int32))) (fun h => by rw [Bd.returns] at h; cases h)
    refine ⟨_, _, pre2 _ ?_, hrun, hended, _, _, rfl, ?_, ⟨_, rfl⟩, hW, hsame.mono (by decide) (by decide)⟩
    · show Steps p.tables e below (T1.setTop (mkF m 9 #[.val (.ref ra), .val (.int bb)] [(.int w_lowest), (.int (bb &&& (255 : Int32)))])) _
      refine XS.icmpYes X1.here hx rfl (pc0 := 9) (pc' := 28) rfl (hb hby d1_9) rfl (tlt hk3).1 (by decide) (by decide) ?_
      show Steps p.tables e below (T1.setTop (mkF m 28 #[.val (.ref ra), .val (.int bb)] [])) _
      refine XS.iconst X1.here hx rfl (hb hby d1_28) ?_
      show Steps p.tables e below (T1.setTop (mkF m 29 #[.val (.ref ra), .val (.int bb)] [(.int (0 : Int32))])) _
      exact retN X1 hx (t := .boolean) Bd.returns (by simp) (hb hby d1_29) hr
    · show Q1 Z ra bb w_lowest w_highest h0 n0 _ T1.heap _
      rw [e1]
      have ev7 : (r1_v bb w_lowest w_highest) = (0 : Int32) := by unfold r1_v; rw [if_pos hk3]
      exact ⟨(congrArg (fun z => some (Value.int z)) ev7.symm), N0, rfl⟩
  · obtain ⟨T4, X4, e4, st4⟩ := getF X1 hx hZ hown (host := "") (Or.inl (hw _ (List.mem_of_getElem? (i := 10) rfl))) Via.refl e1 F_highest_ra (g := (mkF m 18 #[.val (.ref ra), .val (.int bb)] [(.ref ra), (.int (bb &&& (255 : Int32)))])) rfl rfl (hb hby d1_18)
    have pre5 : ∀ t, Steps p.tables e below (T4.setTop (mkF m 21 #[.val (.ref ra), .val (.int bb)] [(.int w_highest), (.int (bb &&& (255 : Int32)))])) t → Steps p.tables e below (s₁.setTop (entryFrame m #[(.ref ra), (.int bb)] 2)) t := by
      intro t k
      refine pre2 _ ?_
      show Steps p.tables e below (T1.setTop (mkF m 9 #[.val (.ref ra), .val (.int bb)] [(.int w_lowest), (.int (bb &&& (255 : Int32)))])) _
      refine XS.icmpNo X1.here hx rfl (hb hby d1_9) rfl (flt hk3).1 ?_
      show Steps p.tables e below (T1.setTop (mkF m 12 #[.val (.ref ra), .val (.int bb)] [])) _
      refine XS.iloadN X1.here hx rfl (hb hby d1_12) rfl ?_
      show Steps p.tables e below (T1.setTop (mkF m 13 #[.val (.ref ra), .val (.int bb)] [(.int bb)])) _
      refine XS.sipush X1.here hx rfl (hb hby d1_13) ?_
      show Steps p.tables e below (T1.setTop (mkF m 16 #[.val (.ref ra), .val (.int bb)] [(.int (255 : Int32)), (.int bb)])) _
      refine XS.iand X1.here hx rfl (hb hby d1_16) rfl ?_
      show Steps p.tables e below (T1.setTop (mkF m 17 #[.val (.ref ra), .val (.int bb)] [(.int (bb &&& (255 : Int32)))])) _
      refine XS.aloadN X1.here hx rfl (hb hby d1_17) rfl rfl ?_
      show Steps p.tables e below (T1.setTop (mkF m 18 #[.val (.ref ra), .val (.int bb)] [(.ref ra), (.int (bb &&& (255 : Int32)))])) _
      refine st4 _ ?_
      exact k
    by_cases hk6 : w_highest < (bb &&& (255 : Int32))
    · obtain ⟨fs, hr, hrun, hended, hW, hsame⟩ := X4.leave (v := some (.int (0 : Int32))) (fun h => by rw [Bd.returns] at h; cases h)
      refine ⟨_, _, pre5 _ ?_, hrun, hended, _, _, rfl, ?_, ⟨_, rfl⟩, hW, hsame.mono (by decide) (by decide)⟩
      · show Steps p.tables e below (T4.setTop (mkF m 21 #[.val (.ref ra), .val (.int bb)] [(.int w_highest), (.int (bb &&& (255 : Int32)))])) _
        refine XS.icmpYes X4.here hx rfl (pc0 := 21) (pc' := 28) rfl (hb hby d1_21) rfl (tlt hk6).2.2.1 (by decide) (by decide) ?_
        show Steps p.tables e below (T4.setTop (mkF m 28 #[.val (.ref ra), .val (.int bb)] [])) _
        refine XS.iconst X4.here hx rfl (hb hby d1_28) ?_
        show Steps p.tables e below (T4.setTop (mkF m 29 #[.val (.ref ra), .val (.int bb)] [(.int (0 : Int32))])) _
        exact retN X4 hx (t := .boolean) Bd.returns (by simp) (hb hby d1_29) hr
      · show Q1 Z ra bb w_lowest w_highest h0 n0 _ T4.heap _
        rw [e4]
        have ev8 : (r1_v bb w_lowest w_highest) = (0 : Int32) := by unfold r1_v; rw [if_neg hk3, if_pos hk6]
        exact ⟨(congrArg (fun z => some (Value.int z)) ev8.symm), N0, rfl⟩
    · obtain ⟨fs, hr, hrun, hended, hW, hsame⟩ := X4.leave (v := some (.int (1 : Int32))) (fun h => by rw [Bd.returns] at h; cases h)
      refine ⟨_, _, pre5 _ ?_, hrun, hended, _, _, rfl, ?_, ⟨_, rfl⟩, hW, hsame.mono (by decide) (by decide)⟩
      · show Steps p.tables e below (T4.setTop (mkF m 21 #[.val (.ref ra), .val (.int bb)] [(.int w_highest), (.int (bb &&& (255 : Int32)))])) _
        refine XS.icmpNo X4.here hx rfl (hb hby d1_21) rfl (flt hk6).2.2.1 ?_
        show Steps p.tables e below (T4.setTop (mkF m 24 #[.val (.ref ra), .val (.int bb)] [])) _
        refine XS.iconst X4.here hx rfl (hb hby d1_24) ?_
        show Steps p.tables e below (T4.setTop (mkF m 25 #[.val (.ref ra), .val (.int bb)] [(.int (1 : Int32))])) _
        refine XS.goto X4.here hx rfl (pc0 := 25) (pc' := 29) rfl (hb hby d1_25) (by decide) (by decide) ?_
        show Steps p.tables e below (T4.setTop (mkF m 29 #[.val (.ref ra), .val (.int bb)] [(.int (1 : Int32))])) _
        exact retN X4 hx (t := .boolean) Bd.returns (by simp) (hb hby d1_29) hr
      · show Q1 Z ra bb w_lowest w_highest h0 n0 _ T4.heap _
        rw [e4]
        have ev9 : (r1_v bb w_lowest w_highest) = (1 : Int32) := by unfold r1_v; rw [if_neg hk3, if_neg hk6]
        exact ⟨(congrArg (fun z => some (Value.int z)) ev9.symm), N0, rfl⟩
theorem ef_0 (m : MethodId) (xx : Int32) (wh : Int32) : entryFrame m #[(.int xx), (.int wh)] maxLocals = mkF m 0 #[.val (.int xx), .val (.int wh), .unset, .unset, .unset, .unset] [] := by first | (simp [entryFrame, mkF, argsToLocals, Value.category, maxLocals]; done) | rfl
theorem pd_0 : parseMethodDescriptor "(B)Z" = some ⟨[.byte], some .boolean⟩ := by decide +kernel
def j0_3_l3 (wh : Int32) : Int32 := (if (wh &&& (1 : Int32)) = (0 : Int32) then (1 : Int32) else (0 : Int32))
def j0_56_l5 (xx : Int32) : Int32 := (if (xx.toInt8.toInt32) < (48 : Int32) then (0 : Int32) else (if (63 : Int32) < (xx.toInt8.toInt32) then (0 : Int32) else (1 : Int32)))
def j0_34_l5 (xx : Int32) : Int32 := (if (xx.toInt8.toInt32) < (32 : Int32) then (0 : Int32) else (if (95 : Int32) < (xx.toInt8.toInt32) then (0 : Int32) else (1 : Int32)))
theorem pn_com_example_tillwire_tillwire_core_card_TrackHoldsPinLaw : plainName "com/example/tillwire/tillwire/core/card/TrackHoldsPinLaw" = true := by first | (simp [plainName, overriddenIn]; done) | decide +kernel
theorem own_fin1 (xx : Int32) : (r1_v (xx.toInt8.toInt32) (32 : Int32) (95 : Int32)) = (j0_34_l5 xx) := by
  unfold r1_v j0_34_l5
  have := c_i2b xx
  have : (255 : Int32).toInt = 255 := rfl
  have := c_mask (xx.toInt8.toInt32) (255 : Int32) 8 (by decide) (by decide)
  have : (32 : Int32).toInt = 32 := rfl
  have : (95 : Int32).toInt = 95 := rfl
  have : (48 : Int32).toInt = 48 := rfl
  have : (63 : Int32).toInt = 63 := rfl
  simp only [Int32.lt_iff_toInt_lt, ← Int32.toInt_inj]
  repeat' split
  all_goals first | rfl | (exfalso; omega)
theorem own_fin2 (xx : Int32) : (r1_v (xx.toInt8.toInt32) (48 : Int32) (63 : Int32)) = (j0_56_l5 xx) := by
  unfold r1_v j0_56_l5
  have := c_i2b xx
  have : (255 : Int32).toInt = 255 := rfl
  have := c_mask (xx.toInt8.toInt32) (255 : Int32) 8 (by decide) (by decide)
  have : (32 : Int32).toInt = 32 := rfl
  have : (95 : Int32).toInt = 95 := rfl
  have : (48 : Int32).toInt = 48 := rfl
  have : (63 : Int32).toInt = 63 := rfl
  simp only [Int32.lt_iff_toInt_lt, ← Int32.toInt_inj]
  repeat' split
  all_goals first | rfl | (exfalso; omega)
def Q0 (Z : State) (xx : Int32) (wh : Int32) (ron : Addr) (rtw : Addr) (h0 : Heap) (n0 : Nat) (v : Option Value) (h : Heap) (L : List Loc) : Prop := v = some (.int (1 : Int32)) ∧ Fr n0 L
set_option maxRecDepth 65536 in
set_option maxHeartbeats 40000000 in
theorem rm0 (l : Launch) (Z : State) (a0 : Array Value) (hw : ∀ d ∈ tables_1, d.before a0 Z = true) (ws : List Jvm.Cond) (xx : Int32) (wh : Int32) (ron : Addr) (rtw : Addr) (h0 : Heap) (n0 : Nat) (Z0 : n0 ≤ h0.size) (S_ONE : Sta Z h0 "com/example/tillwire/tillwire/core/card/Track" "ONE" "Lcom/example/tillwire/tillwire/core/card/Track;" (.ref ron)) (S_TWO : Sta Z h0 "com/example/tillwire/tillwire/core/card/Track" "TWO" "Lcom/example/tillwire/tillwire/core/card/Track;" (.ref rtw)) (E_ron : Exa Z h0 ron "com/example/tillwire/tillwire/core/card/Track") (E_rtw : Exa Z h0 rtw "com/example/tillwire/tillwire/core/card/Track") (F_lowest_ron : Fld Z h0 ron "com/example/tillwire/tillwire/core/card/Track" "lowest" "I" (.int (32 : Int32))) (F_highest_ron : Fld Z h0 ron "com/example/tillwire/tillwire/core/card/Track" "highest" "I" (.int (95 : Int32))) (F_lowest_rtw : Fld Z h0 rtw "com/example/tillwire/tillwire/core/card/Track" "lowest" "I" (.int (48 : Int32))) (F_highest_rtw : Fld Z h0 rtw "com/example/tillwire/tillwire/core/card/Track" "highest" "I" (.int (63 : Int32))) :
    MetFree l x (head1 (Jvm.Cond.code x code maxLocals ret :: ws) room_1) (fun a U => a = #[(.int xx), (.int wh)] ∧ Z.Warmed39 U.vm ∧ U.heap = h0) (fun _ _ _ _ _ => True) (fun _ U o U' => ∃ v L, o = .returned v ∧ Q0 Z xx wh ron rtw h0 n0 v U'.heap L ∧ FrameEnd U o U' L room_1.cells room_1.slots) := by
  refine MetFree.of_bodySF (plainFor_of_name pn_com_example_tillwire_tillwire_core_card_TrackHoldsPinLaw) hisR ?_
  intro p e s m args below meth c s₁ Bd hml0 hP hK
  obtain ⟨rfl, hZ, hh⟩ := hP
  have hx := Bd.exec
  have hby := Bd.bytes
  have hml : c.maxLocals = 6 := hml0
  have hown : s.vm.findClass "com/example/tillwire/tillwire/core/card/TrackHoldsPinLaw" = some m.cls := findClass_of_methodNamed Bd.named
  have hnm := (name_of_methodNamed Bd.named Bd.method).1
  have X0 : Stand p l e room_1 s m #[(.int xx), (.int wh)] below meth c s₁ [] 0 0 := Stand.of_body Bd
  have e0 : s₁.heap = h0 := by rw [← hh, Bd.state]; rfl
  have N0 := Fr.nil n0
  have K0 : Keep h0 h0 [] := Keep.refl h0 _
  have pre0 : ∀ t, Steps p.tables e below (s₁.setTop (mkF m 0 #[.val (.int xx), .val (.int wh), .unset, .unset, .unset, .unset] [])) t → Steps p.tables e below (s₁.setTop (entryFrame m #[(.int xx), (.int wh)] maxLocals)) t := fun t k => castTop (ef_0 m xx wh) k
  have pre4 : ∀ t, Steps p.tables e below (s₁.setTop (mkF m 3 #[.val (.int xx), .val (.int wh), .val (.int (xx.toInt8.toInt32)), .unset, .unset, .unset] [])) t → Steps p.tables e below (s₁.setTop (entryFrame m #[(.int xx), (.int wh)] maxLocals)) t := by
    intro t k
    refine pre0 _ ?_
    show Steps p.tables e below (s₁.setTop (mkF m 0 #[.val (.int xx), .val (.int wh), .unset, .unset, .unset, .unset] [])) _
    refine XS.iloadN X0.here hx rfl (hb hby at_0) rfl ?_
    show Steps p.tables e below (s₁.setTop (mkF m 1 #[.val (.int xx), .val (.int wh), .unset, .unset, .unset, .unset] [(.int xx)])) _
    refine XS.i2b X0.here hx rfl (hb hby at_1) rfl ?_
    show Steps p.tables e below (s₁.setTop (mkF m 2 #[.val (.int xx), .val (.int wh), .unset, .unset, .unset, .unset] [(.int (xx.toInt8.toInt32))])) _
    refine XS.istoreN X0.here hx rfl (hb hby at_2) rfl (l' := #[.val (.int xx), .val (.int wh), .val (.int (xx.toInt8.toInt32)), .unset, .unset, .unset]) rfl ?_
    exact k
  have pre5 : ∀ t, Steps p.tables e below (s₁.setTop (mkF m 15 #[.val (.int xx), .val (.int wh), .val (.int (xx.toInt8.toInt32)), .val (.int (j0_3_l3 wh)), .unset, .unset] [])) t → Steps p.tables e below (s₁.setTop (entryFrame m #[(.int xx), (.int wh)] maxLocals)) t := by
    intro t k
    refine pre4 _ ?_
    show Steps p.tables e below (s₁.setTop (mkF m 3 #[.val (.int xx), .val (.int wh), .val (.int (xx.toInt8.toInt32)), .unset, .unset, .unset] [])) _
    refine XS.iloadN X0.here hx rfl (hb hby at_3) rfl ?_
    show Steps p.tables e below (s₁.setTop (mkF m 4 #[.val (.int xx), .val (.int wh), .val (.int (xx.toInt8.toInt32)), .unset, .unset, .unset] [(.int wh)])) _
    refine XS.iconst X0.here hx rfl (hb hby at_4) ?_
    show Steps p.tables e below (s₁.setTop (mkF m 5 #[.val (.int xx), .val (.int wh), .val (.int (xx.toInt8.toInt32)), .unset, .unset, .unset] [(.int (1 : Int32)), (.int wh)])) _
    refine XS.iand X0.here hx rfl (hb hby at_5) rfl ?_
    by_cases hk1 : (wh &&& (1 : Int32)) = (0 : Int32)
    · show Steps p.tables e below (s₁.setTop (mkF m 6 #[.val (.int xx), .val (.int wh), .val (.int (xx.toInt8.toInt32)), .unset, .unset, .unset] [(.int (wh &&& (1 : Int32)))])) _
      refine XS.ifNo X0.here hx rfl (hb hby at_6) rfl ((if0 _ _).trans (teq hk1).2) ?_
      show Steps p.tables e below (s₁.setTop (mkF m 9 #[.val (.int xx), .val (.int wh), .val (.int (xx.toInt8.toInt32)), .unset, .unset, .unset] [])) _
      refine XS.iconst X0.here hx rfl (hb hby at_9) ?_
      show Steps p.tables e below (s₁.setTop (mkF m 10 #[.val (.int xx), .val (.int wh), .val (.int (xx.toInt8.toInt32)), .unset, .unset, .unset] [(.int (1 : Int32))])) _
      refine XS.goto X0.here hx rfl (pc0 := 10) (pc' := 14) rfl (hb hby at_10) (by decide) (by decide) ?_
      show Steps p.tables e below (s₁.setTop (mkF m 14 #[.val (.int xx), .val (.int wh), .val (.int (xx.toInt8.toInt32)), .unset, .unset, .unset] [(.int (1 : Int32))])) _
      refine XS.istoreN X0.here hx rfl (hb hby at_14) rfl (l' := #[.val (.int xx), .val (.int wh), .val (.int (xx.toInt8.toInt32)), .val (.int (1 : Int32)), .unset, .unset]) rfl ?_
      have ev2 : (j0_3_l3 wh) = (1 : Int32) := by unfold j0_3_l3; rw [if_pos hk1]
      rw [ev2] at k
      exact k
    · show Steps p.tables e below (s₁.setTop (mkF m 6 #[.val (.int xx), .val (.int wh), .val (.int (xx.toInt8.toInt32)), .unset, .unset, .unset] [(.int (wh &&& (1 : Int32)))])) _
      refine XS.ifYes X0.here hx rfl (pc0 := 6) (pc' := 13) rfl (hb hby at_6) rfl ((if0 _ _).trans (feq hk1).2) (by decide) (by decide) ?_
      show Steps p.tables e below (s₁.setTop (mkF m 13 #[.val (.int xx), .val (.int wh), .val (.int (xx.toInt8.toInt32)), .unset, .unset, .unset] [])) _
      refine XS.iconst X0.here hx rfl (hb hby at_13) ?_
      show Steps p.tables e below (s₁.setTop (mkF m 14 #[.val (.int xx), .val (.int wh), .val (.int (xx.toInt8.toInt32)), .unset, .unset, .unset] [(.int (0 : Int32))])) _
      refine XS.istoreN X0.here hx rfl (hb hby at_14) rfl (l' := #[.val (.int xx), .val (.int wh), .val (.int (xx.toInt8.toInt32)), .val (.int (0 : Int32)), .unset, .unset]) rfl ?_
      have ev3 : (j0_3_l3 wh) = (0 : Int32) := by unfold j0_3_l3; rw [if_neg hk1]
      rw [ev3] at k
      exact k
  have pre6 : ∀ t, Steps p.tables e below (s₁.setTop (mkF m 16 #[.val (.int xx), .val (.int wh), .val (.int (xx.toInt8.toInt32)), .val (.int (j0_3_l3 wh)), .unset, .unset] [(.int (j0_3_l3 wh))])) t → Steps p.tables e below (s₁.setTop (entryFrame m #[(.int xx), (.int wh)] maxLocals)) t := by
    intro t k
    refine pre5 _ ?_
    show Steps p.tables e below (s₁.setTop (mkF m 15 #[.val (.int xx), .val (.int wh), .val (.int (xx.toInt8.toInt32)), .val (.int (j0_3_l3 wh)), .unset, .unset] [])) _
    refine XS.iloadN X0.here hx rfl (hb hby at_15) rfl ?_
    exact k
  by_cases hk7 : (j0_3_l3 wh) = (0 : Int32)
  · obtain ⟨T8, X8, e8, st8⟩ := getS2 X0 hx hZ hown (host := "") (Or.inl (hw _ (List.mem_of_getElem? (i := 0) rfl))) Via.refl e0 S_TWO (g := (mkF m 25 #[.val (.int xx), .val (.int wh), .val (.int (xx.toInt8.toInt32)), .val (.int (j0_3_l3 wh)), .unset, .unset] [])) rfl (hb hby at_25)
    have pre14 : ∀ t, Steps p.tables e below (T8.setTop (mkF m 56 #[.val (.int xx), .val (.int wh), .val (.int (xx.toInt8.toInt32)), .val (.int (j0_3_l3 wh)), .val (.ref rtw), .unset] [])) t → Steps p.tables e below (s₁.setTop (entryFrame m #[(.int xx), (.int wh)] maxLocals)) t := by
      intro t k
      refine pre6 _ ?_
      show Steps p.tables e below (s₁.setTop (mkF m 16 #[.val (.int xx), .val (.int wh), .val (.int (xx.toInt8.toInt32)), .val (.int (j0_3_l3 wh)), .unset, .unset] [(.int (j0_3_l3 wh))])) _
      refine XS.ifYes X0.here hx rfl (pc0 := 16) (pc' := 25) rfl (hb hby at_16) rfl ((if0 _ _).trans (teq hk7).1) (by decide) (by decide) ?_
      show Steps p.tables e below (s₁.setTop (mkF m 25 #[.val (.int xx), .val (.int wh), .val (.int (xx.toInt8.toInt32)), .val (.int (j0_3_l3 wh)), .unset, .unset] [])) _
      refine st8 _ ?_
      show Steps p.tables e below (T8.setTop (mkF m 28 #[.val (.int xx), .val (.int wh), .val (.int (xx.toInt8.toInt32)), .val (.int (j0_3_l3 wh)), .unset, .unset] [(.ref rtw)])) _
      refine XS.astore X8.here hx rfl (hb hby at_28) rfl rfl (l' := #[.val (.int xx), .val (.int wh), .val (.int (xx.toInt8.toInt32)), .val (.int (j0_3_l3 wh)), .val (.ref rtw), .unset]) rfl ?_
      show Steps p.tables e below (T8.setTop (mkF m 30 #[.val (.int xx), .val (.int wh), .val (.int (xx.toInt8.toInt32)), .val (.int (j0_3_l3 wh)), .val (.ref rtw), .unset] [])) _
      refine XS.iloadN X8.here hx rfl (hb hby at_30) rfl ?_
      show Steps p.tables e below (T8.setTop (mkF m 31 #[.val (.int xx), .val (.int wh), .val (.int (xx.toInt8.toInt32)), .val (.int (j0_3_l3 wh)), .val (.ref rtw), .unset] [(.int (j0_3_l3 wh))])) _
      refine XS.ifYes X8.here hx rfl (pc0 := 31) (pc' := 56) rfl (hb hby at_31) rfl ((if0 _ _).trans (teq hk7).1) (by decide) (by decide) ?_
      exact k
    have pre15 : ∀ t, Steps p.tables e below (T8.setTop (mkF m 75 #[.val (.int xx), .val (.int wh), .val (.int (xx.toInt8.toInt32)), .val (.int (j0_3_l3 wh)), .val (.ref rtw), .val (.int (j0_56_l5 xx))] [])) t → Steps p.tables e below (s₁.setTop (entryFrame m #[(.int xx), (.int wh)] maxLocals)) t := by
      intro t k
      refine pre14 _ ?_
      show Steps p.tables e below (T8.setTop (mkF m 56 #[.val (.int xx), .val (.int wh), .val (.int (xx.toInt8.toInt32)), .val (.int (j0_3_l3 wh)), .val (.ref rtw), .unset] [])) _
      refine XS.iloadN X8.here hx rfl (hb hby at_56) rfl ?_
      show Steps p.tables e below (T8.setTop (mkF m 57 #[.val (.int xx), .val (.int wh), .val (.int (xx.toInt8.toInt32)), .val (.int (j0_3_l3 wh)), .val (.ref rtw), .unset] [(.int (xx.toInt8.toInt32))])) _
      refine XS.bipush X8.here hx rfl (hb hby at_57) ?_
      by_cases hk9 : (xx.toInt8.toInt32) < (48 : Int32)
      · show Steps p.tables e below (T8.setTop (mkF m 59 #[.val (.int xx), .val (.int wh), .val (.int (xx.toInt8.toInt32)), .val (.int (j0_3_l3 wh)), .val (.ref rtw), .unset] [(.int (48 : Int32)), (.int (xx.toInt8.toInt32))])) _
        refine XS.icmpYes X8.here hx rfl (pc0 := 59) (pc' := 72) rfl (hb hby at_59) rfl (tlt hk9).1 (by decide) (by decide) ?_
        show Steps p.tables e below (T8.setTop (mkF m 72 #[.val (.int xx), .val (.int wh), .val (.int (xx.toInt8.toInt32)), .val (.int (j0_3_l3 wh)), .val (.ref rtw), .unset] [])) _
        refine XS.iconst X8.here hx rfl (hb hby at_72) ?_
        show Steps p.tables e below (T8.setTop (mkF m 73 #[.val (.int xx), .val (.int wh), .val (.int (xx.toInt8.toInt32)), .val (.int (j0_3_l3 wh)), .val (.ref rtw), .unset] [(.int (0 : Int32))])) _
        refine XS.istore X8.here hx rfl (hb hby at_73) rfl (l' := #[.val (.int xx), .val (.int wh), .val (.int (xx.toInt8.toInt32)), .val (.int (j0_3_l3 wh)), .val (.ref rtw), .val (.int (0 : Int32))]) rfl ?_
        have ev11 : (j0_56_l5 xx) = (0 : Int32) := by unfold j0_56_l5; rw [if_pos hk9]
        rw [ev11] at k
        exact k
      · show Steps p.tables e below (T8.setTop (mkF m 59 #[.val (.int xx), .val (.int wh), .val (.int (xx.toInt8.toInt32)), .val (.int (j0_3_l3 wh)), .val (.ref rtw), .unset] [(.int (48 : Int32)), (.int (xx.toInt8.toInt32))])) _
        refine XS.icmpNo X8.here hx rfl (hb hby at_59) rfl (flt hk9).1 ?_
        show Steps p.tables e below (T8.setTop (mkF m 62 #[.val (.int xx), .val (.int wh), .val (.int (xx.toInt8.toInt32)), .val (.int (j0_3_l3 wh)), .val (.ref rtw), .unset] [])) _
        refine XS.iloadN X8.here hx rfl (hb hby at_62) rfl ?_
        show Steps p.tables e below (T8.setTop (mkF m 63 #[.val (.int xx), .val (.int wh), .val (.int (xx.toInt8.toInt32)), .val (.int (j0_3_l3 wh)), .val (.ref rtw), .unset] [(.int (xx.toInt8.toInt32))])) _
        refine XS.bipush X8.here hx rfl (hb hby at_63) ?_
        by_cases hk10 : (63 : Int32) < (xx.toInt8.toInt32)
        · show Steps p.tables e below (T8.setTop (mkF m 65 #[.val (.int xx), .val (.int wh), .val (.int (xx.toInt8.toInt32)), .val (.int (j0_3_l3 wh)), .val (.ref rtw), .unset] [(.int (63 : Int32)), (.int (xx.toInt8.toInt32))])) _
          refine XS.icmpYes X8.here hx rfl (pc0 := 65) (pc' := 72) rfl (hb hby at_65) rfl (tlt hk10).2.2.1 (by decide) (by decide) ?_
          show Steps p.tables e below (T8.setTop (mkF m 72 #[.val (.int xx), .val (.int wh), .val (.int (xx.toInt8.toInt32)), .val (.int (j0_3_l3 wh)), .val (.ref rtw), .unset] [])) _
          refine XS.iconst X8.here hx rfl (hb hby at_72) ?_
          show Steps p.tables e below (T8.setTop (mkF m 73 #[.val (.int xx), .val (.int wh), .val (.int (xx.toInt8.toInt32)), .val (.int (j0_3_l3 wh)), .val (.ref rtw), .unset] [(.int (0 : Int32))])) _
          refine XS.istore X8.here hx rfl (hb hby at_73) rfl (l' := #[.val (.int xx), .val (.int wh), .val (.int (xx.toInt8.toInt32)), .val (.int (j0_3_l3 wh)), .val (.ref rtw), .val (.int (0 : Int32))]) rfl ?_
          have ev12 : (j0_56_l5 xx) = (0 : Int32) := by unfold j0_56_l5; rw [if_neg hk9, if_pos hk10]
          rw [ev12] at k
          exact k
        · show Steps p.tables e below (T8.setTop (mkF m 65 #[.val (.int xx), .val (.int wh), .val (.int (xx.toInt8.toInt32)), .val (.int (j0_3_l3 wh)), .val (.ref rtw), .unset] [(.int (63 : Int32)), (.int (xx.toInt8.toInt32))])) _
          refine XS.icmpNo X8.here hx rfl (hb hby at_65) rfl (flt hk10).2.2.1 ?_
          show Steps p.tables e below (T8.setTop (mkF m 68 #[.val (.int xx), .val (.int wh), .val (.int (xx.toInt8.toInt32)), .val (.int (j0_3_l3 wh)), .val (.ref rtw), .unset] [])) _
          refine XS.iconst X8.here hx rfl (hb hby at_68) ?_
          show Steps p.tables e below (T8.setTop (mkF m 69 #[.val (.int xx), .val (.int wh), .val (.int (xx.toInt8.toInt32)), .val (.int (j0_3_l3 wh)), .val (.ref rtw), .unset] [(.int (1 : Int32))])) _
          refine XS.goto X8.here hx rfl (pc0 := 69) (pc' := 73) rfl (hb hby at_69) (by decide) (by decide) ?_
          show Steps p.tables e below (T8.setTop (mkF m 73 #[.val (.int xx), .val (.int wh), .val (.int (xx.toInt8.toInt32)), .val (.int (j0_3_l3 wh)), .val (.ref rtw), .unset] [(.int (1 : Int32))])) _
          refine XS.istore X8.here hx rfl (hb hby at_73) rfl (l' := #[.val (.int xx), .val (.int wh), .val (.int (xx.toInt8.toInt32)), .val (.int (j0_3_l3 wh)), .val (.ref rtw), .val (.int (1 : Int32))]) rfl ?_
          have ev13 : (j0_56_l5 xx) = (1 : Int32) := by unfold j0_56_l5; rw [if_neg hk9, if_neg hk10]
          rw [ev13] at k
          exact k
    obtain ⟨cq16, kq16, q16a, q16b, q16c⟩ := isOf hZ e8 E_rtw
    obtain ⟨_, _, ⟨T16, L16, k16, n16⟩, -, X16, ⟨Lc16, hQ16, l16, y16, z16⟩, st16⟩ := X8.virtualBack hx (y := (⟨"com/example/tillwire/tillwire/core/card/Track", "holds", "(B)Z"⟩ : MethodName)) (z := (⟨"com/example/tillwire/tillwire/core/card/Track", "holds", "(B)Z"⟩ : MethodName)) hown (mvT hZ (hw _ (List.mem_of_getElem? (i := 3) rfl))) (mvT hZ (hw _ (List.mem_of_getElem? (i := 4) rfl))) (notFace_of_selects (args := #[]) (mvT hZ (hw _ (List.mem_of_getElem? (i := 6) rfl)))) (mvT hZ (hw _ (List.mem_of_getElem? (i := 6) rfl))) (mvT hZ (hw _ (List.mem_of_getElem? (i := 5) rfl))) (by decide) (backOf (W := 0) (rm1 l Z a0 hw [] rtw (xx.toInt8.toInt32) (48 : Int32) (63 : Int32) h0 n0 Z0 F_lowest_rtw F_highest_rtw) hZ (hw _ (List.mem_of_getElem? (i := 7) rfl)) (hw _ (List.mem_of_getElem? (i := 1) rfl)) (by decide) (by decide)) q16a q16c (g := (mkF m 78 #[.val (.int xx), .val (.int wh), .val (.int (xx.toInt8.toInt32)), .val (.int (j0_3_l3 wh)), .val (.ref rtw), .val (.int (j0_56_l5 xx))] [(.int (xx.toInt8.toInt32)), (.ref rtw)])) rfl (by rw [hml]; rfl) (Steps.refl _) (argsL := [(.int (xx.toInt8.toInt32))]) (rest := []) (lenOf pd_0 rfl) rfl (by show 2 * 0 + _ ≤ _; exact Nat.le_of_eq rfl) (hb hby at_78) (fun _ _ => ⟨rfl, e8, (by decide : 0 + 0 ≤ _), (by decide : 0 + 0 ≤ _)⟩)
    dsimp only [Pt.U, Pt.locs, Pt.cells, Pt.slots] at X16 l16 y16 z16 st16 hQ16
    subst l16 y16 z16
    obtain ⟨rfl, N16q, e16⟩ := hQ16
    have N16 := Fr.app N0 N16q
    obtain ⟨fs, hr, hrun, hended, hW, hsame⟩ := X16.leave (v := some (.int (1 : Int32))) (fun h => by rw [Bd.returns] at h; cases h)
    refine ⟨_, _, pre15 _ ?_, hrun, hended, _, _, rfl, ?_, ⟨_, rfl⟩, hW, hsame.mono (by decide) (by decide)⟩
    · show Steps p.tables e below (T8.setTop (mkF m 75 #[.val (.int xx), .val (.int wh), .val (.int (xx.toInt8.toInt32)), .val (.int (j0_3_l3 wh)), .val (.ref rtw), .val (.int (j0_56_l5 xx))] [])) _
      refine XS.aload X8.here hx rfl (hb hby at_75) rfl rfl ?_
      show Steps p.tables e below (T8.setTop (mkF m 77 #[.val (.int xx), .val (.int wh), .val (.int (xx.toInt8.toInt32)), .val (.int (j0_3_l3 wh)), .val (.ref rtw), .val (.int (j0_56_l5 xx))] [(.ref rtw)])) _
      refine XS.iloadN X8.here hx rfl (hb hby at_77) rfl ?_
      show Steps p.tables e below (T8.setTop (mkF m 78 #[.val (.int xx), .val (.int wh), .val (.int (xx.toInt8.toInt32)), .val (.int (j0_3_l3 wh)), .val (.ref rtw), .val (.int (j0_56_l5 xx))] [(.int (xx.toInt8.toInt32)), (.ref rtw)])) _
      refine st16.trans ?_
      show Steps p.tables e below (T16.setTop (mkF m 81 #[.val (.int xx), .val (.int wh), .val (.int (xx.toInt8.toInt32)), .val (.int (j0_3_l3 wh)), .val (.ref rtw), .val (.int (j0_56_l5 xx))] [(.int (r1_v (xx.toInt8.toInt32) (48 : Int32) (63 : Int32)))])) _
      refine XS.iload X16.here hx rfl (hb hby at_81) rfl ?_
      show Steps p.tables e below (T16.setTop (mkF m 83 #[.val (.int xx), .val (.int wh), .val (.int (xx.toInt8.toInt32)), .val (.int (j0_3_l3 wh)), .val (.ref rtw), .val (.int (j0_56_l5 xx))] [(.int (j0_56_l5 xx)), (.int (r1_v (xx.toInt8.toInt32) (48 : Int32) (63 : Int32)))])) _
      refine XS.icmpNo X16.here hx rfl (hb hby at_83) rfl (teq (own_fin2 xx : ((r1_v (xx.toInt8.toInt32) (48 : Int32) (63 : Int32)) = (j0_56_l5 xx)))).2 ?_
      show Steps p.tables e below (T16.setTop (mkF m 86 #[.val (.int xx), .val (.int wh), .val (.int (xx.toInt8.toInt32)), .val (.int (j0_3_l3 wh)), .val (.ref rtw), .val (.int (j0_56_l5 xx))] [])) _
      refine XS.iconst X16.here hx rfl (hb hby at_86) ?_
      show Steps p.tables e below (T16.setTop (mkF m 87 #[.val (.int xx), .val (.int wh), .val (.int (xx.toInt8.toInt32)), .val (.int (j0_3_l3 wh)), .val (.ref rtw), .val (.int (j0_56_l5 xx))] [(.int (1 : Int32))])) _
      refine XS.goto X16.here hx rfl (pc0 := 87) (pc' := 91) rfl (hb hby at_87) (by decide) (by decide) ?_
      show Steps p.tables e below (T16.setTop (mkF m 91 #[.val (.int xx), .val (.int wh), .val (.int (xx.toInt8.toInt32)), .val (.int (j0_3_l3 wh)), .val (.ref rtw), .val (.int (j0_56_l5 xx))] [(.int (1 : Int32))])) _
      exact retN X16 hx (t := .boolean) Bd.returns (by simp) (hb hby at_91) hr
    · show Q0 Z xx wh ron rtw h0 n0 _ T16.heap _
      rw [e16]
      exact ⟨rfl, N16⟩
  · obtain ⟨T17, X17, e17, st17⟩ := getS2 X0 hx hZ hown (host := "") (Or.inl (hw _ (List.mem_of_getElem? (i := 12) rfl))) Via.refl e0 S_ONE (g := (mkF m 19 #[.val (.int xx), .val (.int wh), .val (.int (xx.toInt8.toInt32)), .val (.int (j0_3_l3 wh)), .unset, .unset] [])) rfl (hb hby at_19)
    have pre23 : ∀ t, Steps p.tables e below (T17.setTop (mkF m 34 #[.val (.int xx), .val (.int wh), .val (.int (xx.toInt8.toInt32)), .val (.int (j0_3_l3 wh)), .val (.ref ron), .unset] [])) t → Steps p.tables e below (s₁.setTop (entryFrame m #[(.int xx), (.int wh)] maxLocals)) t := by
      intro t k
      refine pre6 _ ?_
      show Steps p.tables e below (s₁.setTop (mkF m 16 #[.val (.int xx), .val (.int wh), .val (.int (xx.toInt8.toInt32)), .val (.int (j0_3_l3 wh)), .unset, .unset] [(.int (j0_3_l3 wh))])) _
      refine XS.ifNo X0.here hx rfl (hb hby at_16) rfl ((if0 _ _).trans (feq hk7).1) ?_
      show Steps p.tables e below (s₁.setTop (mkF m 19 #[.val (.int xx), .val (.int wh), .val (.int (xx.toInt8.toInt32)), .val (.int (j0_3_l3 wh)), .unset, .unset] [])) _
      refine st17 _ ?_
      show Steps p.tables e below (T17.setTop (mkF m 22 #[.val (.int xx), .val (.int wh), .val (.int (xx.toInt8.toInt32)), .val (.int (j0_3_l3 wh)), .unset, .unset] [(.ref ron)])) _
      refine XS.goto X17.here hx rfl (pc0 := 22) (pc' := 28) rfl (hb hby at_22) (by decide) (by decide) ?_
      show Steps p.tables e below (T17.setTop (mkF m 28 #[.val (.int xx), .val (.int wh), .val (.int (xx.toInt8.toInt32)), .val (.int (j0_3_l3 wh)), .unset, .unset] [(.ref ron)])) _
      refine XS.astore X17.here hx rfl (hb hby at_28) rfl rfl (l' := #[.val (.int xx), .val (.int wh), .val (.int (xx.toInt8.toInt32)), .val (.int (j0_3_l3 wh)), .val (.ref ron), .unset]) rfl ?_
      show Steps p.tables e below (T17.setTop (mkF m 30 #[.val (.int xx), .val (.int wh), .val (.int (xx.toInt8.toInt32)), .val (.int (j0_3_l3 wh)), .val (.ref ron), .unset] [])) _
      refine XS.iloadN X17.here hx rfl (hb hby at_30) rfl ?_
      show Steps p.tables e below (T17.setTop (mkF m 31 #[.val (.int xx), .val (.int wh), .val (.int (xx.toInt8.toInt32)), .val (.int (j0_3_l3 wh)), .val (.ref ron), .unset] [(.int (j0_3_l3 wh))])) _
      refine XS.ifNo X17.here hx rfl (hb hby at_31) rfl ((if0 _ _).trans (feq hk7).1) ?_
      exact k
    have pre24 : ∀ t, Steps p.tables e below (T17.setTop (mkF m 53 #[.val (.int xx), .val (.int wh), .val (.int (xx.toInt8.toInt32)), .val (.int (j0_3_l3 wh)), .val (.ref ron), .val (.int (j0_34_l5 xx))] [])) t → Steps p.tables e below (s₁.setTop (entryFrame m #[(.int xx), (.int wh)] maxLocals)) t := by
      intro t k
      refine pre23 _ ?_
      show Steps p.tables e below (T17.setTop (mkF m 34 #[.val (.int xx), .val (.int wh), .val (.int (xx.toInt8.toInt32)), .val (.int (j0_3_l3 wh)), .val (.ref ron), .unset] [])) _
      refine XS.iloadN X17.here hx rfl (hb hby at_34) rfl ?_
      show Steps p.tables e below (T17.setTop (mkF m 35 #[.val (.int xx), .val (.int wh), .val (.int (xx.toInt8.toInt32)), .val (.int (j0_3_l3 wh)), .val (.ref ron), .unset] [(.int (xx.toInt8.toInt32))])) _
      refine XS.bipush X17.here hx rfl (hb hby at_35) ?_
      by_cases hk18 : (xx.toInt8.toInt32) < (32 : Int32)
      · show Steps p.tables e below (T17.setTop (mkF m 37 #[.val (.int xx), .val (.int wh), .val (.int (xx.toInt8.toInt32)), .val (.int (j0_3_l3 wh)), .val (.ref ron), .unset] [(.int (32 : Int32)), (.int (xx.toInt8.toInt32))])) _
        refine XS.icmpYes X17.here hx rfl (pc0 := 37) (pc' := 50) rfl (hb hby at_37) rfl (tlt hk18).1 (by decide) (by decide) ?_
        show Steps p.tables e below (T17.setTop (mkF m 50 #[.val (.int xx), .val (.int wh), .val (.int (xx.toInt8.toInt32)), .val (.int (j0_3_l3 wh)), .val (.ref ron), .unset] [])) _
        refine XS.iconst X17.here hx rfl (hb hby at_50) ?_
        show Steps p.tables e below (T17.setTop (mkF m 51 #[.val (.int xx), .val (.int wh), .val (.int (xx.toInt8.toInt32)), .val (.int (j0_3_l3 wh)), .val (.ref ron), .unset] [(.int (0 : Int32))])) _
        refine XS.istore X17.here hx rfl (hb hby at_51) rfl (l' := #[.val (.int xx), .val (.int wh), .val (.int (xx.toInt8.toInt32)), .val (.int (j0_3_l3 wh)), .val (.ref ron), .val (.int (0 : Int32))]) rfl ?_
        have ev20 : (j0_34_l5 xx) = (0 : Int32) := by unfold j0_34_l5; rw [if_pos hk18]
        rw [ev20] at k
        exact k
      · show Steps p.tables e below (T17.setTop (mkF m 37 #[.val (.int xx), .val (.int wh), .val (.int (xx.toInt8.toInt32)), .val (.int (j0_3_l3 wh)), .val (.ref ron), .unset] [(.int (32 : Int32)), (.int (xx.toInt8.toInt32))])) _
        refine XS.icmpNo X17.here hx rfl (hb hby at_37) rfl (flt hk18).1 ?_
        show Steps p.tables e below (T17.setTop (mkF m 40 #[.val (.int xx), .val (.int wh), .val (.int (xx.toInt8.toInt32)), .val (.int (j0_3_l3 wh)), .val (.ref ron), .unset] [])) _
        refine XS.iloadN X17.here hx rfl (hb hby at_40) rfl ?_
        show Steps p.tables e below (T17.setTop (mkF m 41 #[.val (.int xx), .val (.int wh), .val (.int (xx.toInt8.toInt32)), .val (.int (j0_3_l3 wh)), .val (.ref ron), .unset] [(.int (xx.toInt8.toInt32))])) _
        refine XS.bipush X17.here hx rfl (hb hby at_41) ?_
        by_cases hk19 : (95 : Int32) < (xx.toInt8.toInt32)
        · show Steps p.tables e below (T17.setTop (mkF m 43 #[.val (.int xx), .val (.int wh), .val (.int (xx.toInt8.toInt32)), .val (.int (j0_3_l3 wh)), .val (.ref ron), .unset] [(.int (95 : Int32)), (.int (xx.toInt8.toInt32))])) _
          refine XS.icmpYes X17.here hx rfl (pc0 := 43) (pc' := 50) rfl (hb hby at_43) rfl (tlt hk19).2.2.1 (by decide) (by decide) ?_
          show Steps p.tables e below (T17.setTop (mkF m 50 #[.val (.int xx), .val (.int wh), .val (.int (xx.toInt8.toInt32)), .val (.int (j0_3_l3 wh)), .val (.ref ron), .unset] [])) _
          refine XS.iconst X17.here hx rfl (hb hby at_50) ?_
          show Steps p.tables e below (T17.setTop (mkF m 51 #[.val (.int xx), .val (.int wh), .val (.int (xx.toInt8.toInt32)), .val (.int (j0_3_l3 wh)), .val (.ref ron), .unset] [(.int (0 : Int32))])) _
          refine XS.istore X17.here hx rfl (hb hby at_51) rfl (l' := #[.val (.int xx), .val (.int wh), .val (.int (xx.toInt8.toInt32)), .val (.int (j0_3_l3 wh)), .val (.ref ron), .val (.int (0 : Int32))]) rfl ?_
          have ev21 : (j0_34_l5 xx) = (0 : Int32) := by unfold j0_34_l5; rw [if_neg hk18, if_pos hk19]
          rw [ev21] at k
          exact k
        · show Steps p.tables e below (T17.setTop (mkF m 43 #[.val (.int xx), .val (.int wh), .val (.int (xx.toInt8.toInt32)), .val (.int (j0_3_l3 wh)), .val (.ref ron), .unset] [(.int (95 : Int32)), (.int (xx.toInt8.toInt32))])) _
          refine XS.icmpNo X17.here hx rfl (hb hby at_43) rfl (flt hk19).2.2.1 ?_
          show Steps p.tables e below (T17.setTop (mkF m 46 #[.val (.int xx), .val (.int wh), .val (.int (xx.toInt8.toInt32)), .val (.int (j0_3_l3 wh)), .val (.ref ron), .unset] [])) _
          refine XS.iconst X17.here hx rfl (hb hby at_46) ?_
          show Steps p.tables e below (T17.setTop (mkF m 47 #[.val (.int xx), .val (.int wh), .val (.int (xx.toInt8.toInt32)), .val (.int (j0_3_l3 wh)), .val (.ref ron), .unset] [(.int (1 : Int32))])) _
          refine XS.goto X17.here hx rfl (pc0 := 47) (pc' := 51) rfl (hb hby at_47) (by decide) (by decide) ?_
          show Steps p.tables e below (T17.setTop (mkF m 51 #[.val (.int xx), .val (.int wh), .val (.int (xx.toInt8.toInt32)), .val (.int (j0_3_l3 wh)), .val (.ref ron), .unset] [(.int (1 : Int32))])) _
          refine XS.istore X17.here hx rfl (hb hby at_51) rfl (l' := #[.val (.int xx), .val (.int wh), .val (.int (xx.toInt8.toInt32)), .val (.int (j0_3_l3 wh)), .val (.ref ron), .val (.int (1 : Int32))]) rfl ?_
          have ev22 : (j0_34_l5 xx) = (1 : Int32) := by unfold j0_34_l5; rw [if_neg hk18, if_neg hk19]
          rw [ev22] at k
          exact k
    obtain ⟨cq25, kq25, q25a, q25b, q25c⟩ := isOf hZ e17 E_ron
    obtain ⟨_, _, ⟨T25, L25, k25, n25⟩, -, X25, ⟨Lc25, hQ25, l25, y25, z25⟩, st25⟩ := X17.virtualBack hx (y := (⟨"com/example/tillwire/tillwire/core/card/Track", "holds", "(B)Z"⟩ : MethodName)) (z := (⟨"com/example/tillwire/tillwire/core/card/Track", "holds", "(B)Z"⟩ : MethodName)) hown (mvT hZ (hw _ (List.mem_of_getElem? (i := 3) rfl))) (mvT hZ (hw _ (List.mem_of_getElem? (i := 4) rfl))) (notFace_of_selects (args := #[]) (mvT hZ (hw _ (List.mem_of_getElem? (i := 6) rfl)))) (mvT hZ (hw _ (List.mem_of_getElem? (i := 6) rfl))) (mvT hZ (hw _ (List.mem_of_getElem? (i := 5) rfl))) (by decide) (backOf (W := 0) (rm1 l Z a0 hw [] ron (xx.toInt8.toInt32) (32 : Int32) (95 : Int32) h0 n0 Z0 F_lowest_ron F_highest_ron) hZ (hw _ (List.mem_of_getElem? (i := 7) rfl)) (hw _ (List.mem_of_getElem? (i := 1) rfl)) (by decide) (by decide)) q25a q25c (g := (mkF m 78 #[.val (.int xx), .val (.int wh), .val (.int (xx.toInt8.toInt32)), .val (.int (j0_3_l3 wh)), .val (.ref ron), .val (.int (j0_34_l5 xx))] [(.int (xx.toInt8.toInt32)), (.ref ron)])) rfl (by rw [hml]; rfl) (Steps.refl _) (argsL := [(.int (xx.toInt8.toInt32))]) (rest := []) (lenOf pd_0 rfl) rfl (by show 2 * 0 + _ ≤ _; exact Nat.le_of_eq rfl) (hb hby at_78) (fun _ _ => ⟨rfl, e17, (by decide : 0 + 0 ≤ _), (by decide : 0 + 0 ≤ _)⟩)
    dsimp only [Pt.U, Pt.locs, Pt.cells, Pt.slots] at X25 l25 y25 z25 st25 hQ25
    subst l25 y25 z25
    obtain ⟨rfl, N25q, e25⟩ := hQ25
    have N25 := Fr.app N0 N25q
    obtain ⟨fs, hr, hrun, hended, hW, hsame⟩ := X25.leave (v := some (.int (1 : Int32))) (fun h => by rw [Bd.returns] at h; cases h)
    refine ⟨_, _, pre24 _ ?_, hrun, hended, _, _, rfl, ?_, ⟨_, rfl⟩, hW, hsame.mono (by decide) (by decide)⟩
    · show Steps p.tables e below (T17.setTop (mkF m 53 #[.val (.int xx), .val (.int wh), .val (.int (xx.toInt8.toInt32)), .val (.int (j0_3_l3 wh)), .val (.ref ron), .val (.int (j0_34_l5 xx))] [])) _
      refine XS.goto X17.here hx rfl (pc0 := 53) (pc' := 75) rfl (hb hby at_53) (by decide) (by decide) ?_
      show Steps p.tables e below (T17.setTop (mkF m 75 #[.val (.int xx), .val (.int wh), .val (.int (xx.toInt8.toInt32)), .val (.int (j0_3_l3 wh)), .val (.ref ron), .val (.int (j0_34_l5 xx))] [])) _
      refine XS.aload X17.here hx rfl (hb hby at_75) rfl rfl ?_
      show Steps p.tables e below (T17.setTop (mkF m 77 #[.val (.int xx), .val (.int wh), .val (.int (xx.toInt8.toInt32)), .val (.int (j0_3_l3 wh)), .val (.ref ron), .val (.int (j0_34_l5 xx))] [(.ref ron)])) _
      refine XS.iloadN X17.here hx rfl (hb hby at_77) rfl ?_
      show Steps p.tables e below (T17.setTop (mkF m 78 #[.val (.int xx), .val (.int wh), .val (.int (xx.toInt8.toInt32)), .val (.int (j0_3_l3 wh)), .val (.ref ron), .val (.int (j0_34_l5 xx))] [(.int (xx.toInt8.toInt32)), (.ref ron)])) _
      refine st25.trans ?_
      show Steps p.tables e below (T25.setTop (mkF m 81 #[.val (.int xx), .val (.int wh), .val (.int (xx.toInt8.toInt32)), .val (.int (j0_3_l3 wh)), .val (.ref ron), .val (.int (j0_34_l5 xx))] [(.int (r1_v (xx.toInt8.toInt32) (32 : Int32) (95 : Int32)))])) _
      refine XS.iload X25.here hx rfl (hb hby at_81) rfl ?_
      show Steps p.tables e below (T25.setTop (mkF m 83 #[.val (.int xx), .val (.int wh), .val (.int (xx.toInt8.toInt32)), .val (.int (j0_3_l3 wh)), .val (.ref ron), .val (.int (j0_34_l5 xx))] [(.int (j0_34_l5 xx)), (.int (r1_v (xx.toInt8.toInt32) (32 : Int32) (95 : Int32)))])) _
      refine XS.icmpNo X25.here hx rfl (hb hby at_83) rfl (teq (own_fin1 xx : ((r1_v (xx.toInt8.toInt32) (32 : Int32) (95 : Int32)) = (j0_34_l5 xx)))).2 ?_
      show Steps p.tables e below (T25.setTop (mkF m 86 #[.val (.int xx), .val (.int wh), .val (.int (xx.toInt8.toInt32)), .val (.int (j0_3_l3 wh)), .val (.ref ron), .val (.int (j0_34_l5 xx))] [])) _
      refine XS.iconst X25.here hx rfl (hb hby at_86) ?_
      show Steps p.tables e below (T25.setTop (mkF m 87 #[.val (.int xx), .val (.int wh), .val (.int (xx.toInt8.toInt32)), .val (.int (j0_3_l3 wh)), .val (.ref ron), .val (.int (j0_34_l5 xx))] [(.int (1 : Int32))])) _
      refine XS.goto X25.here hx rfl (pc0 := 87) (pc' := 91) rfl (hb hby at_87) (by decide) (by decide) ?_
      show Steps p.tables e below (T25.setTop (mkF m 91 #[.val (.int xx), .val (.int wh), .val (.int (xx.toInt8.toInt32)), .val (.int (j0_3_l3 wh)), .val (.ref ron), .val (.int (j0_34_l5 xx))] [(.int (1 : Int32))])) _
      exact retN X25 hx (t := .boolean) Bd.returns (by simp) (hb hby at_91) hr
    · show Q0 Z xx wh ron rtw h0 n0 _ T25.heap _
      rw [e25]
      exact ⟨rfl, N25⟩
theorem own_feq {args : Array Value} {s : State} {t : Term} {a : Addr} {C n d : String} {k : Int32} (h : (Jvm.Cond.eq (.field t C n d) (.int k)).value args s none s [] = some true) (ev : t.eval args s none [] s = some (.ref a)) : Fld s s.heap a C n d (.int k) := by
  refine Fld.start ?_
  cases hf : s.fieldOf? a C n d with
  | none => simp [Cond.value, Term.eval, ev, hf] at h
  | some x => cases x <;> simp [Cond.value, Term.eval, ev, hf] at h ⊢; exact h
set_option maxRecDepth 65536 in
set_option maxHeartbeats 40000000 in
theorem comes_1 {Post : Tables → Env → Array Value → State → Outcome → State → Prop} (hpost : ∀ tb e args s v u, (limb_1_1.after args s (.returned v) u = true ∧ limb_1_2.after args s (.returned v) u = true ∧ True) → FrameEnd s (.returned v) u (Jvm.fieldLocs frame_1_writes args s ++ Jvm.arrayLocs frame_1_arrays args s ++ Jvm.staticLocs frame_1_statics s) 0 0 → Post tb e args s (.returned v) u) :
    ArmFor flags0 classFile x code maxLocals ret World_1 tables_1 room_1 Calls_1 rest_1 Pre_1 Post := by
  intro l hfl _ _ p e ha hc hk s m args below hf hA hF happ hP
  obtain ⟨hcalls, hrest, hpre⟩ := hP
  obtain ⟨-, -, -, hnamed, -, -, -, hat⟩ := (Spec.applies_iff hf).mp happ
  obtain ⟨hg, hn⟩ := and_e (Cond.before_iff.mp (show (Jvm.Cond.and given_1 narrow_1).before args s = true from hpre))
  obtain ⟨gv1, gv2⟩ := and_e hg
  obtain ⟨gv3, gv4⟩ := and_e gv2
  obtain ⟨w0, w1, rfl⟩ : ∃ w0 w1 : Value, args = #[w0, w1] := by
    have hs : args.size = 2 := by simpa [Cond.value, given_1] using gv1
    obtain ⟨L⟩ := args
    match L, hs with
    | [w0, w1], _ => exact ⟨w0, w1, rfl⟩
  have hw := fun d (hd : d ∈ tables_1) => atoms_spec (ws := Jvm.Cond.code x code maxLocals ret :: tables_1) hat d (List.mem_cons_of_mem _ hd)
  have hfit : Fit s := fun {y c} hc i hi => by
    obtain ⟨ha, rfl⟩ := Array.getElem?_eq_some_iff.mp hc
    have q := List.all_eq_true.mp ((Array.all_eq_true_iff_forall_mem.mp hF) _ (Array.getElem_mem ha)) i (List.mem_range.mpr hi)
    simpa [Array.getElem?_eq_getElem hi] using q
  obtain ⟨i0, ei0⟩ := is_v gv3
  obtain rfl : w0 = (.int i0) := Option.some.inj ei0
  obtain ⟨i1, ei1⟩ := is_v gv4
  obtain rfl : w1 = (.int i1) := Option.some.inj ei1
  obtain ⟨q1, q2⟩ := and_e hn
  obtain ⟨q3, q4⟩ := and_e q2
  obtain ⟨q5, q6⟩ := and_e q4
  obtain ⟨q7, q8⟩ := and_e q6
  obtain ⟨q9, q10⟩ := and_e q8
  obtain ⟨rtw, etw⟩ := exa_v q1
  obtain ⟨ron, eon⟩ := exa_v q7
  obtain ⟨n, o, h1, h2, h3, _, L, rfl, ⟨rfl, N⟩, hq⟩ := rm0 l s _ hw tables_1 i0 i1 _ _ s.heap s.heap.size (Nat.le_refl _) (Sta.start eon (Or.inr ⟨hw _ (List.mem_of_getElem? (i := 1) rfl), hw _ (List.mem_of_getElem? (i := 13) rfl)⟩)) (Sta.start etw (Or.inr ⟨hw _ (List.mem_of_getElem? (i := 1) rfl), hw _ (List.mem_of_getElem? (i := 2) rfl)⟩)) (Exa.start eon q7) (Exa.start etw q1) (own_feq q9 eon) (own_feq q10 eon) (own_feq q3 etw) (own_feq q5 etw) p e ha hc hk s m _ below hf ((Spec.applies_iff_loose hf).mp happ).1 ⟨rfl, State.Warmed39.refl s, rfl⟩ trivial
  refine ⟨n, _, h1, h2, h3, hpost _ _ _ _ _ _ ⟨Cond.after_iff.mpr rfl, Cond.after_iff.mpr (eq_i res_at (Term.int_eval (1)) rfl), trivial⟩ ⟨hq.1, hq.2.1, (hq.2.2.sift fun y hy => Or.inr (N y hy)).mono (by decide) (by decide)⟩⟩
theorem main_1_1 : Claimed_1_1 := comes_1 fun _ _ _ _ _ _ h hF => ⟨h.1, hF⟩
theorem main_1_2 : Claimed_1_2 := comes_1 fun _ _ _ _ _ _ h hF => ⟨h.2.1, hF⟩
end Jvm.Pilot.@@N@@
namespace Jvm.Pilot.@@N@@
open Jvm Jvm.ClassFile Sem Op Lib Jvm.Free Jvm.Stand Jvm.Pilot.@@N@@.Jvm.D
/-! MADE BY PROGRAM (witnessworld.py) out of the Statement's table words and the real class files: 12 classes; the members and pool entries that the words name. The judged class is class 1, her method 1. -/
namespace start1
open Jvm.ClassFile
def u (s : String) : CpInfo := .utf8 (stringToUtf16 s)
/-- a pool by its gaps: so many unusable entries, then the entry; so many at the end -/
def gap : Nat → List CpInfo → List CpInfo
  | 0, r => r
  | n + 1, r => .unusable :: gap n r
def poolList (es : List (Nat × CpInfo)) (last : Nat) : List CpInfo := es.foldr (fun e r => gap e.1 (e.2 :: r)) (gap last [])
def pool (es : List (Nat × CpInfo)) (last : Nat) : Array CpInfo := ⟨poolList es last⟩
def fileOf (pool : Array CpInfo) (this : Nat) (attrs : Array Attribute := #[]) (ms : Array MethodInfo := #[]) (fl : Nat := 33) (sup : Nat := 0) (ifs : Array Nat := #[]) (fds : Array FieldInfo := #[]) : ClassFile where
  minorVersion := 0
  majorVersion := 65
  constantPool := pool
  accessFlags := fl
  thisClass := this
  superClass := sup
  interfaces := ifs
  fields := fds
  methods := ms
  attributes := attrs
def plain (name : String) (sup : Option ClassId) : Class where
  name := name
  kind := .ordinary
  loader := none
  accessFlags := 33
  super := sup
  interfaces := #[]
  cf := none
  fields := #[]
  methods := #[]
  instanceTypes := #[]
  staticTypes := #[]
  resolved := #[]
  callSites := []
  init := .initialized
  statics := none
  mirror := none

def pool0 : Array CpInfo := pool [(5, u "<init>"), (0, u "()V"), (1, .class_ 10), (1, u "java/lang/Object")] 113

def k0m0 : Method := { name := "<init>", desc := "()V", sig := { parameters := [], returnType := none }, accessFlags := 1, code := none }
/-- java/lang/Object -/
def k0 : Class := { plain "java/lang/Object" none with
  accessFlags := 33
  interfaces := #[]
  cf := some (fileOf pool0 8 #[] #[{ accessFlags := 1, nameIndex := 5, descriptorIndex := 6, attributes := #[] }] 33 0 #[] #[])
  fields := #[]
  methods := #[k0m0]
  instanceTypes := #[]
  staticTypes := #[]
  resolved := Array.replicate 124 none
  statics := none }

def pool1 : Array CpInfo := pool [(2, .class_ 4), (1, u "java/lang/Object"), (0, u "<init>"), (0, u "()V"), (0, .fieldref 8 9), (0, .class_ 10), (0, .nameAndType 11 12), (0, u "com/example/tillwire/tillwire/core/card/Track"), (0, u "ONE"), (0, u "Lcom/example/tillwire/tillwire/core/card/Track;"), (0, .fieldref 8 14), (0, .nameAndType 15 12), (0, u "TWO"), (0, .methodref 8 17), (0, .nameAndType 18 19), (0, u "holds"), (0, u "(B)Z"), (0, .class_ 21), (0, u "com/example/tillwire/tillwire/core/card/TrackHoldsPinLaw"), (2, u "law"), (0, u "(II)Z")] 3

def k1m0 : Method := { name := "<init>", desc := "()V", sig := { parameters := [], returnType := none }, accessFlags := 1, code := none }
def k1c1 : Code := { maxStack := 2, maxLocals := 6, code := code, exceptionTable := #[], attributes := #[] }
def k1m1 : Method := { name := "law", desc := "(II)Z", sig := { parameters := [.int, .int], returnType := some .boolean }, accessFlags := 9, code := some k1c1 }
/-- com/example/tillwire/tillwire/core/card/TrackHoldsPinLaw -/
def k1 : Class := { plain "com/example/tillwire/tillwire/core/card/TrackHoldsPinLaw" (some 0) with
  accessFlags := 49
  interfaces := #[]
  cf := some (fileOf pool1 20 #[] #[{ accessFlags := 1, nameIndex := 5, descriptorIndex := 6, attributes := #[] }, { accessFlags := 9, nameIndex := 24, descriptorIndex := 25, attributes := #[] }] 49 2 #[] #[])
  fields := #[]
  methods := #[k1m0, k1m1]
  instanceTypes := #[]
  staticTypes := #[]
  resolved := Array.replicate 29 none
  statics := none }

def pool2 : Array CpInfo := pool [(1, .class_ 2), (0, u "java/lang/constant/Constable"), (0, .class_ 4), (0, u "java/lang/Object")] 6

/-- java/lang/constant/Constable -/
def k2 : Class := { plain "java/lang/constant/Constable" (some 0) with
  accessFlags := 1537
  interfaces := #[]
  cf := some (fileOf pool2 1 #[] #[] 1537 3 #[] #[])
  fields := #[]
  methods := #[]
  instanceTypes := #[]
  staticTypes := #[]
  resolved := Array.replicate 11 none
  statics := none }

def pool3 : Array CpInfo := pool [(1, .class_ 2), (0, u "java/lang/Comparable"), (0, .class_ 4), (0, u "java/lang/Object")] 7

/-- java/lang/Comparable -/
def k3 : Class := { plain "java/lang/Comparable" (some 0) with
  accessFlags := 1537
  interfaces := #[]
  cf := some (fileOf pool3 1 #[] #[] 1537 3 #[] #[])
  fields := #[]
  methods := #[]
  instanceTypes := #[]
  staticTypes := #[]
  resolved := Array.replicate 12 none
  statics := none }

def pool4 : Array CpInfo := pool [(1, .class_ 2), (0, u "java/io/Serializable"), (0, .class_ 4), (0, u "java/lang/Object")] 2

/-- java/io/Serializable -/
def k4 : Class := { plain "java/io/Serializable" (some 0) with
  accessFlags := 1537
  interfaces := #[]
  cf := some (fileOf pool4 1 #[] #[] 1537 3 #[] #[])
  fields := #[]
  methods := #[]
  instanceTypes := #[]
  staticTypes := #[]
  resolved := Array.replicate 7 none
  statics := none }

def pool5 : Array CpInfo := pool [(2, .class_ 4), (1, u "java/lang/Enum"), (0, u "name"), (0, u "Ljava/lang/String;"), (2, u "ordinal"), (0, u "I"), (1, .class_ 14), (1, u "java/lang/Object"), (4, u "hash"), (86, .class_ 108), (1, u "java/lang/Enum$EnumDesc"), (2, .class_ 112), (0, u "java/lang/constant/Constable"), (0, .class_ 114), (0, u "java/lang/Comparable"), (0, .class_ 116), (0, u "java/io/Serializable")] 87

/-- java/lang/Enum -/
def k5 : Class := { plain "java/lang/Enum" (some 0) with
  accessFlags := 1057
  interfaces := #[2, 3, 4]
  cf := some (fileOf pool5 2 #[.nestMembers #[106]] #[] 1057 12 #[111, 113, 115] #[{ accessFlags := 18, nameIndex := 5, descriptorIndex := 6, attributes := #[] }, { accessFlags := 18, nameIndex := 9, descriptorIndex := 10, attributes := #[] }, { accessFlags := 2, nameIndex := 19, descriptorIndex := 10, attributes := #[] }])
  fields := #[{ name := "name", type := (.object "java/lang/String"), accessFlags := 18, slot := 0, constantValue := 0 }, { name := "ordinal", type := .int, accessFlags := 18, slot := 1, constantValue := 0 }, { name := "hash", type := .int, accessFlags := 2, slot := 2, constantValue := 0 }]
  methods := #[]
  instanceTypes := #[(.object "java/lang/String"), .int, .int]
  staticTypes := #[]
  resolved := Array.replicate 204 none
  statics := none }

def pool6 : Array CpInfo := pool [(1, .class_ 2), (0, u "com/example/tillwire/tillwire/core/card/Track"), (2, u "ONE"), (0, u "Lcom/example/tillwire/tillwire/core/card/Track;"), (2, u "TWO"), (2, u "$VALUES"), (0, u "[Lcom/example/tillwire/tillwire/core/card/Track;"), (6, .class_ 22), (1, u "java/lang/Enum"), (8, u "startSentinel"), (0, u "C"), (2, u "formatCode"), (0, u "Ljava/lang/String;"), (2, u "separator"), (0, .fieldref 1 41), (0, .nameAndType 42 43), (0, u "lowest"), (0, u "I"), (0, .fieldref 1 45), (0, .nameAndType 46 43), (0, u "highest"), (2, u "longest"), (37, u "pattern"), (0, u "Ljava/util/regex/Pattern;"), (12, u "beforePan"), (0, u "[B"), (16, u "(B)Z"), (23, u "END_SENTINEL"), (9, u "holds")] 27

def k6c0 : Code := { maxStack := 2, maxLocals := 2, code := prog_12_method_5_code, exceptionTable := #[], attributes := #[] }
def k6m0 : Method := { name := "holds", desc := "(B)Z", sig := { parameters := [.byte], returnType := some .boolean }, accessFlags := 0, code := some k6c0 }
/-- com/example/tillwire/tillwire/core/card/Track -/
def k6 : Class := { plain "com/example/tillwire/tillwire/core/card/Track" (some 5) with
  accessFlags := 16433
  interfaces := #[]
  cf := some (fileOf pool6 1 #[] #[{ accessFlags := 0, nameIndex := 153, descriptorIndex := 119, attributes := #[] }] 16433 20 #[] #[{ accessFlags := 16409, nameIndex := 5, descriptorIndex := 6, attributes := #[] }, { accessFlags := 16409, nameIndex := 9, descriptorIndex := 6, attributes := #[] }, { accessFlags := 25, nameIndex := 143, descriptorIndex := 32, attributes := #[] }, { accessFlags := 16, nameIndex := 31, descriptorIndex := 32, attributes := #[] }, { accessFlags := 16, nameIndex := 35, descriptorIndex := 36, attributes := #[] }, { accessFlags := 16, nameIndex := 39, descriptorIndex := 32, attributes := #[] }, { accessFlags := 16, nameIndex := 49, descriptorIndex := 43, attributes := #[] }, { accessFlags := 18, nameIndex := 42, descriptorIndex := 43, attributes := #[] }, { accessFlags := 18, nameIndex := 46, descriptorIndex := 43, attributes := #[] }, { accessFlags := 16, nameIndex := 87, descriptorIndex := 88, attributes := #[] }, { accessFlags := 18, nameIndex := 101, descriptorIndex := 102, attributes := #[] }, { accessFlags := 4122, nameIndex := 12, descriptorIndex := 13, attributes := #[] }])
  fields := #[{ name := "ONE", type := (.object "com/example/tillwire/tillwire/core/card/Track"), accessFlags := 16409, slot := 0, constantValue := 0 }, { name := "TWO", type := (.object "com/example/tillwire/tillwire/core/card/Track"), accessFlags := 16409, slot := 1, constantValue := 0 }, { name := "END_SENTINEL", type := .char, accessFlags := 25, slot := 2, constantValue := 0 }, { name := "startSentinel", type := .char, accessFlags := 16, slot := 3, constantValue := 0 }, { name := "formatCode", type := (.object "java/lang/String"), accessFlags := 16, slot := 4, constantValue := 0 }, { name := "separator", type := .char, accessFlags := 16, slot := 5, constantValue := 0 }, { name := "longest", type := .int, accessFlags := 16, slot := 6, constantValue := 0 }, { name := "lowest", type := .int, accessFlags := 18, slot := 7, constantValue := 0 }, { name := "highest", type := .int, accessFlags := 18, slot := 8, constantValue := 0 }, { name := "pattern", type := (.object "java/util/regex/Pattern"), accessFlags := 16, slot := 9, constantValue := 0 }, { name := "beforePan", type := (.array .byte), accessFlags := 18, slot := 10, constantValue := 0 }, { name := "$VALUES", type := (.array (.object "com/example/tillwire/tillwire/core/card/Track")), accessFlags := 4122, slot := 3, constantValue := 0 }]
  methods := #[k6m0]
  instanceTypes := #[(.object "java/lang/String"), .int, .int, .char, (.object "java/lang/String"), .char, .int, .int, .int, (.object "java/util/regex/Pattern"), (.array .byte)]
  staticTypes := #[(.object "com/example/tillwire/tillwire/core/card/Track"), (.object "com/example/tillwire/tillwire/core/card/Track"), .char, (.array (.object "com/example/tillwire/tillwire/core/card/Track"))]
  resolved := Array.replicate 181 none
  statics := some 0 }

def pool7 : Array CpInfo := pool [(1, u "java/lang/Cloneable"), (0, .class_ 1), (0, u "java/lang/Object"), (0, .class_ 3)] 3

/-- java/lang/Cloneable -/
def k7 : Class := { plain "java/lang/Cloneable" (some 0) with
  accessFlags := 1537
  interfaces := #[]
  cf := some (fileOf pool7 2 #[] #[] 1537 4 #[] #[])
  fields := #[]
  methods := #[]
  instanceTypes := #[]
  staticTypes := #[]
  resolved := Array.replicate 8 none
  statics := none }

/-- the primitive byte -/
def k8 : Class := { plain "byte" none with kind := .primitive 'B', accessFlags := 0x411 }
/-- [B -/
def k9 : Class := { plain "[B" (some 0) with kind := .array 8 .byte, interfaces := #[7, 4], accessFlags := 1041 }

/-- the primitive int -/
def k10 : Class := { plain "int" none with kind := .primitive 'I', accessFlags := 0x411 }
/-- [I -/
def k11 : Class := { plain "[I" (some 0) with kind := .array 10 .int, interfaces := #[7, 4], accessFlags := 1041 }

def heap : Heap := #[{ cls := 6, slots := #[.ref 1, .ref 2, .int 0, .null], vm := .statics 6 },
  { cls := 6, slots := #[.null, .int 0, .int 0, .int 37, .null, .int 94, .int 79, .int 32, .int 95, .null, .null], vm := .none },
  { cls := 6, slots := #[.null, .int 1, .int 0, .int 59, .null, .int 61, .int 40, .int 48, .int 63, .null, .null], vm := .none }]
def classes : Array Class := #[k0, k1, k2, k3, k4, k5, k6, k7, k8, k9, k10, k11]
def interned : List (Array UInt16 × Addr) := []
def slotsUsed : Nat := 26
def theMethod : MethodId := ⟨1, 1⟩
def args0 : Array Value := #[.int 65, .int 0]
def aboutOver (below : List Frame) : State where
  vm := { classes := classes, interned := interned.toArray }
  heap := heap
  slotsUsed := slotsUsed
  threads := #[{ frames := .invoking theMethod args0 :: below }]
def below0 : List Frame := [.native { method := ⟨0, 0⟩, args := #[] }]
def about1 : State := aboutOver below0
def p0 : Program := .bare "" "" ""
def e0 : Env := launch0.env 0 0 0
theorem w_frames : about1.frames = Frame.invoking theMethod args0 :: below0 := rfl
set_option maxRecDepth 65536 in
theorem w_args : argsFit about1.vm theMethod args0 = true := by decide +kernel
set_option maxRecDepth 65536 in
theorem w_heap : heapFits about1 = true := by decide +kernel
set_option maxRecDepth 65536 in
theorem w_runnable : about1.curStatus? = some .runnable := by decide +kernel
set_option maxRecDepth 65536 in
theorem w_alone : about1.alone = true := by decide +kernel
set_option maxRecDepth 65536 in
theorem w_named : about1.methodNamed? x = some theMethod := by decide +kernel
set_option maxRecDepth 65536 in
theorem w_hears : about1.hears theMethod below0 = true := by decide +kernel
set_option maxRecDepth 65536 in
theorem w_ripe : about1.ripe theMethod args0 below0 = true := by decide +kernel
theorem w_running : about1.status = .running := rfl
set_option maxRecDepth 65536 in
theorem w_room : about1.hasRoom e0.platform room_1 = true :=
  launch0.hasRoom_least _ room_1 (by decide +kernel) (by decide +kernel) (by decide +kernel) (by decide +kernel) (by decide +kernel) (by decide +kernel)
theorem allAtoms_all (ts : List Jvm.Cond) (a : Array Jvm.Value) (st : Jvm.State) : (allAtoms ts).before a st = ts.all (fun c => c.before a st) := by
  induction ts with
  | nil => rfl
  | cons c t ih =>
    show (Jvm.Cond.and c (allAtoms t)).before a st = _
    rw [Jvm.Cond.before_and, ih, List.all_cons]
def words1 : List Jvm.Cond := Jvm.Cond.code x code maxLocals ret :: tables_1
/-- a 'code' word, met by the world's own term for the bytes: nothing is compared byte by byte -/
theorem code_word {y : MethodName} {bytes : ByteArray} {mx : Nat} {rt : Option FieldType} {a : Array Value} {s : State} {m : MethodId} {meth : Method} {c : Code} (h1 : s.methodNamed? y = some m) (h2 : s.vm.method? m = some meth) (h3 : meth.code = some c) (h4 : c.code = bytes)
    (h5 : (c.maxLocals == mx && c.exceptionTable.isEmpty && decide (c.maxStack ≤ mostOperands) && decide (meth.sig.returnType = rt) && !meth.locks && decide (parseMethodDescriptor y.desc = some meth.sig)) = true) : (Jvm.Cond.code y bytes mx rt).before a s = true := by
  simp only [Bool.and_eq_true, beq_iff_eq, Bool.not_eq_true', decide_eq_true_eq] at h5
  obtain ⟨⟨⟨⟨⟨g1, g2⟩, g3⟩, g4⟩, g5⟩, g6⟩ := h5
  simp [Cond.before, Cond.holds, Cond.value, h1, h2, h3, h4, g1, g2, g3, g4, g5, g6]
def isCode : Jvm.Cond → Bool
  | .code _ _ _ _ => true
  | _ => false
theorem all_split {L : List Jvm.Cond} {P : Jvm.Cond → Bool} (h1 : L.all (fun c => isCode c || P c) = true) (h2 : ∀ c ∈ L.filter isCode, P c = true) : L.all P = true := by
  refine List.all_eq_true.mpr fun c hc => ?_
  have h := List.all_eq_true.mp h1 c hc
  rcases Bool.eq_false_or_eq_true (isCode c) with hi | hi
  · exact h2 c (List.mem_filter.mpr ⟨hc, hi⟩)
  · simpa [hi] using h
set_option maxRecDepth 65536 in
theorem w_c0 : (Jvm.Cond.code x code maxLocals ret).before args0 about1 = true := code_word (m := ⟨1, 1⟩) (meth := k1m1) (c := k1c1) (by decide +kernel) rfl rfl rfl (by decide +kernel)
set_option maxRecDepth 65536 in
theorem w_c1 : (Jvm.Cond.code ({ cls := "com/example/tillwire/tillwire/core/card/Track", name := "holds", desc := "(B)Z" } : Jvm.MethodName) prog_12_method_5_code (2 : Nat) (Option.some Jvm.ClassFile.FieldType.boolean)).before args0 about1 = true := code_word (m := ⟨6, 0⟩) (meth := k6m0) (c := k6c0) (by decide +kernel) rfl rfl rfl (by decide +kernel)
def codes1 : List Jvm.Cond := [Jvm.Cond.code x code maxLocals ret, Jvm.Cond.code ({ cls := "com/example/tillwire/tillwire/core/card/Track", name := "holds", desc := "(B)Z" } : Jvm.MethodName) prog_12_method_5_code (2 : Nat) (Option.some Jvm.ClassFile.FieldType.boolean)]
set_option maxRecDepth 65536 in
theorem codes_eq : words1.filter isCode = codes1 := rfl
theorem w_codes : ∀ c ∈ words1.filter isCode, c.before args0 about1 = true := by
  rw [codes_eq]
  intro c hc
  simp only [codes1, List.mem_cons, List.not_mem_nil, or_false] at hc
  rcases hc with rfl | rfl
  · exact w_c0
  · exact w_c1
set_option maxRecDepth 65536 in
theorem w_t1 : words1.all (fun c => isCode c || c.before args0 about1) = true := by decide +kernel
theorem w_tables : (allAtoms (Jvm.Cond.code x code maxLocals ret :: tables_1)).before args0 about1 = true := by
  rw [allAtoms_all]
  show words1.all (fun c => c.before args0 about1) = true
  refine all_split ?_ w_codes
  rw [w_t1]
set_option maxRecDepth 65536 in
theorem w_case : (Jvm.Cond.and given_1 narrow_1).before args0 about1 = true := by decide +kernel
theorem w_applies : (headSpec (Jvm.Cond.code x code maxLocals ret :: tables_1) room_1).applies x e0.platform about1 = true :=
  (Spec.applies_iff w_frames).mpr ⟨w_running, w_runnable, w_alone, w_named, w_hears, w_ripe, w_room, w_tables⟩
theorem atStart : AtStart classFile x code maxLocals ret World_1 tables_1 room_1 Calls_1 rest_1 Pre_1 launch0 p0 e0 about1 theMethod args0 below0 :=
  ⟨lists_1, trivial, launch0.admits_env _ _ _, launch0.least_env, fairChoices_fair.cas, fairChoices_fair.clock, w_frames, w_args, w_heap, w_applies, trivial, trivial, w_case⟩
end start1
theorem witness_1 : WitnessClaimed_1 := ⟨start1.p0, start1.e0, start1.about1, start1.theMethod, start1.args0, start1.below0, start1.atStart⟩
end Jvm.Pilot.@@N@@
