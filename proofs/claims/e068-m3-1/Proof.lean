import JvmDerived
import JvmDerived.Pilot.@@N@@Statement
import JvmDerived.Pilot.@@N@@Code
set_option linter.unusedVariables false
set_option linter.unusedSimpArgs false
namespace Jvm.RoadKit
open Sem ClassFile Op Lib Jvm.Stand Jvm.Free Jvm.LawKit
section New
variable {p : Program} {l : Launch} {e : Env} {R : Room} {s : State} {m : MethodId} {args : Array Value} {below : List Frame} {meth : Method} {c : Code} {T : State} {locs : List Loc} {cells slots : Nat}
theorem retI (X : Stand p l e R s m args below meth c T locs cells slots) (hx : p.tables.exec = Jvm.exec) {pc : Nat} {Ls : Array Slot} {z : Int32} {rest : List Value} (hret : meth.sig.returnType = some .int) (hd : decode c.code pc = .ok (.ireturn, 1)) {fs : List Frame}
    (hl : ∀ (f : JFrame) (acts : List Action), f.method = m → f.locked = none → f.entered = [] → (doReturn e (T.setTop f) acts (some (.int z))).1 = T.setFrames fs) : Steps p.tables e below (T.setTop (mkF m pc Ls (.int z :: rest))) (T.setFrames fs) := by
  have hm' : T.vm.method? m = some meth := X.method'
  have hn : narrow .int (.int z) = .int z := rfl
  show Steps p.tables e below (T.setTop { method := m, pc := pc, locals := Ls, stack := _ :: rest, locked := none }) _
  jvm_step X.here [X.here.top, hx, hd, hm', hret, hn]
  first | (intro acts; rw [hl _ acts rfl rfl rfl]) | rw [hl _ _ rfl rfl rfl]
  exact Steps.refl _
end New
end Jvm.RoadKit
namespace Jvm.Pilot.@@N@@
open Jvm Jvm.ClassFile Sem Op Lib Jvm.Free Jvm.Stand Jvm.LawKit Jvm.RoadKit Bundle Jvm.Pilot.@@N@@.Jvm.D
theorem own_lt_t {x y : Int64} (h : x < y) : ifCond.holds .lt (lcmpW x y) = true ∧ ifCond.holds .ge (lcmpW x y) = false := by
  rw [if0, if0]; exact ⟨(tlt ((lw_lt x y).mpr h)).1, (tlt ((lw_lt x y).mpr h)).2.1⟩
theorem own_lt_f {x y : Int64} (h : ¬ x < y) : ifCond.holds .lt (lcmpW x y) = false ∧ ifCond.holds .ge (lcmpW x y) = true := by
  have h2 : ¬ lcmpW x y < 0 := fun q => h ((lw_lt x y).mp q)
  rw [if0, if0]; exact ⟨(flt h2).1, (flt h2).2.1⟩
theorem own_gt_t {x y : Int64} (h : y < x) : ifCond.holds .gt (lcmpW x y) = true ∧ ifCond.holds .le (lcmpW x y) = false := by
  have h2 : 0 < lcmpW x y := (lw_gt x y).mpr h
  rw [if0, if0]; exact ⟨(tlt h2).2.2.1, (tlt h2).2.2.2⟩
theorem own_gt_f {x y : Int64} (h : ¬ y < x) : ifCond.holds .gt (lcmpW x y) = false ∧ ifCond.holds .le (lcmpW x y) = true := by
  have h2 : ¬ 0 < lcmpW x y := fun q => h ((lw_gt x y).mp q)
  rw [if0, if0]; exact ⟨(flt h2).2.2.1, (flt h2).2.2.2⟩
theorem own_eq_t {x y : Int64} (h : x = y) : ifCond.holds .eq (lcmpW x y) = true ∧ ifCond.holds .ne (lcmpW x y) = false := by
  have h2 : lcmpW x y = 0 := (lw_eq x y).mpr h
  rw [if0, if0]; exact ⟨(teq h2).1, (teq h2).2⟩
theorem own_eq_f {x y : Int64} (h : ¬ x = y) : ifCond.holds .eq (lcmpW x y) = false ∧ ifCond.holds .ne (lcmpW x y) = true := by
  have h2 : ¬ lcmpW x y = 0 := fun q => h ((lw_eq x y).mp q)
  rw [if0, if0]; exact ⟨(feq h2).1, (feq h2).2⟩
theorem d1_0 : decode prog_123_method_1_code 0 = .ok (.aload_n 0, 1) := by decide +kernel
theorem d1_1 : decode prog_123_method_1_code 1 = .ok (.invokespecial 1, 3) := by decide +kernel
theorem d1_4 : decode prog_123_method_1_code 4 = .ok (.return_, 1) := by decide +kernel
theorem pn_1 : plainName "com/example/xylem/xylem/expr/Stacks" = true := by first | (simp [plainName, overriddenIn]; done) | decide +kernel
theorem pd_1 : parseMethodDescriptor "()V" = some ⟨[], none⟩ := by decide +kernel
theorem ef_1 (m : MethodId) (x0 : Addr) : entryFrame m #[(.ref x0)] 1 = mkF m 0 #[.val (.ref x0)] [] := by first | (simp [entryFrame, mkF, argsToLocals, Value.category, maxLocals]; done) | rfl
theorem d3_0 : decode prog_123_method_3_code 0 = .ok (.aload_n 0, 1) := by decide +kernel
theorem d3_1 : decode prog_123_method_3_code 1 = .ok (.dup, 1) := by decide +kernel
theorem d3_2 : decode prog_123_method_3_code 2 = .ok (.getfield 12, 3) := by decide +kernel
theorem d3_5 : decode prog_123_method_3_code 5 = .ok (.lconst 1, 1) := by decide +kernel
theorem d3_6 : decode prog_123_method_3_code 6 = .ok (.ladd, 1) := by decide +kernel
theorem d3_7 : decode prog_123_method_3_code 7 = .ok (.putfield 12, 3) := by decide +kernel
theorem d3_10 : decode prog_123_method_3_code 10 = .ok (.aload_n 0, 1) := by decide +kernel
theorem d3_11 : decode prog_123_method_3_code 11 = .ok (.getfield 12, 3) := by decide +kernel
theorem d3_14 : decode prog_123_method_3_code 14 = .ok (.aload_n 0, 1) := by decide +kernel
theorem d3_15 : decode prog_123_method_3_code 15 = .ok (.getfield 18, 3) := by decide +kernel
theorem d3_18 : decode prog_123_method_3_code 18 = .ok (.lcmp, 1) := by decide +kernel
theorem d3_19 : decode prog_123_method_3_code 19 = .ok (.ifCond .le 7, 3) := by decide +kernel
theorem d3_22 : decode prog_123_method_3_code 22 = .ok (.iconst 1, 1) := by decide +kernel
theorem d3_23 : decode prog_123_method_3_code 23 = .ok (.goto 4, 3) := by decide +kernel
theorem d3_26 : decode prog_123_method_3_code 26 = .ok (.iconst 0, 1) := by decide +kernel
theorem d3_27 : decode prog_123_method_3_code 27 = .ok (.istore_n 1, 1) := by decide +kernel
theorem d3_28 : decode prog_123_method_3_code 28 = .ok (.iload_n 1, 1) := by decide +kernel
theorem d3_29 : decode prog_123_method_3_code 29 = .ok (.ifCond .eq 13, 3) := by decide +kernel
theorem d3_32 : decode prog_123_method_3_code 32 = .ok (.aload_n 0, 1) := by decide +kernel
theorem d3_33 : decode prog_123_method_3_code 33 = .ok (.dup, 1) := by decide +kernel
theorem d3_34 : decode prog_123_method_3_code 34 = .ok (.getfield 18, 3) := by decide +kernel
theorem d3_37 : decode prog_123_method_3_code 37 = .ok (.lconst 1, 1) := by decide +kernel
theorem d3_38 : decode prog_123_method_3_code 38 = .ok (.ladd, 1) := by decide +kernel
theorem d3_39 : decode prog_123_method_3_code 39 = .ok (.putfield 18, 3) := by decide +kernel
theorem d3_42 : decode prog_123_method_3_code 42 = .ok (.iload_n 1, 1) := by decide +kernel
theorem d3_43 : decode prog_123_method_3_code 43 = .ok (.ireturn, 1) := by decide +kernel
theorem pn_3 : plainName "com/example/xylem/xylem/expr/Stacks" = true := by first | (simp [plainName, overriddenIn]; done) | decide +kernel
theorem pd_3 : parseMethodDescriptor "()Z" = some ⟨[], some .boolean⟩ := by decide +kernel
theorem ef_3 (m : MethodId) (x0 : Addr) : entryFrame m #[(.ref x0)] 2 = mkF m 0 #[.val (.ref x0), .unset] [] := by first | (simp [entryFrame, mkF, argsToLocals, Value.category, maxLocals]; done) | rfl
theorem pn_0 : plainName "com/example/xylem/xylem/expr/StacksIsNewTraceLinePinLaw" = true := by first | (simp [plainName, overriddenIn]; done) | decide +kernel
theorem pd_0 : parseMethodDescriptor "(I)Z" = some ⟨[.int], some .boolean⟩ := by decide +kernel
theorem ef_0 (m : MethodId) (x0 : Int32) : entryFrame m #[(.int x0)] maxLocals = mkF m 0 #[.val (.int x0), .unset, .unset, .unset] [] := by first | (simp [entryFrame, mkF, argsToLocals, Value.category, maxLocals]; done) | rfl
def Q1 (h0 : Heap) (n0 : Nat) (v : Option Value) (h : Heap) (L : List Loc) : Prop := v = none ∧ Fr n0 L ∧ h = h0
set_option maxRecDepth 65536 in
set_option maxHeartbeats 40000000 in
theorem rm1 (l : Launch) (Z : State) (a0 : Array Value) (hw : ∀ d ∈ tables_1, d.before a0 Z = true) (ws : List Jvm.Cond) (a : Addr) (h0 : Heap) (n0 : Nat) (Z0 : n0 ≤ h0.size)  :
    MetFree l (⟨"com/example/xylem/xylem/expr/Stacks", "<init>", "()V"⟩ : MethodName) (head1 (Jvm.Cond.code (⟨"com/example/xylem/xylem/expr/Stacks", "<init>", "()V"⟩ : MethodName) prog_123_method_1_code 1 none :: ws) ({ frames := 1, cells := 0, slots := 0, locals := 12 } : Room)) (fun as_ U => as_ = #[(.ref a)] ∧ Z.Warmed39 U.vm ∧ U.heap = h0) (fun _ _ _ _ _ => True) (fun _ U o U' => ∃ v L, o = .returned v ∧ Q1 h0 n0 v U'.heap L ∧ FrameEnd U o U' L ({ frames := 1, cells := 0, slots := 0, locals := 12 } : Room).cells ({ frames := 1, cells := 0, slots := 0, locals := 12 } : Room).slots) := by
  refine MetFree.of_bodySF (plainFor_of_name pn_1) hisR ?_
  intro p e s m args below meth c s₁ Bd hml0 hP hK
  obtain ⟨rfl, hZ, hh⟩ := hP
  have hx := Bd.exec
  have hby := Bd.bytes
  have hml : c.maxLocals = 1 := hml0
  have hown : s.vm.findClass "com/example/xylem/xylem/expr/Stacks" = some m.cls := findClass_of_methodNamed Bd.named
  have hnm := (name_of_methodNamed Bd.named Bd.method).1
  have X0 : Stand p l e ({ frames := 1, cells := 0, slots := 0, locals := 12 } : Room) s m #[(.ref a)] below meth c s₁ [] 0 0 := Stand.of_body Bd
  have e0 : s₁.heap = h0 := by rw [← hh, Bd.state]; rfl
  have N0 := Fr.nil n0
  have pre0 : ∀ t, Steps p.tables e below (s₁.setTop (mkF m 0 #[.val (.ref a)] [])) t → Steps p.tables e below (s₁.setTop (entryFrame m #[(.ref a)] 1)) t := fun t k => castTop (ef_1 m a) k
  obtain ⟨T1, X1, e1, st1⟩ := initO X0 hx hZ hown (hw _ (List.mem_of_getElem? (i := 6) rfl)) (hw _ (List.mem_of_getElem? (i := 7) rfl)) (hw _ (List.mem_of_getElem? (i := 8) rfl)) e0 (g := (mkF m 1 #[.val (.ref a)] [(.ref a)])) rfl (by rw [hml]; rfl) rfl (hb hby d1_1) (by decide) (W := 0) (by show 2 * 0 + _ ≤ _; exact Nat.le_of_eq rfl) (by decide)
  obtain ⟨fs, hr, hrun, hended, hW, hsame⟩ := X1.leave (v := none) (fun _ => rfl)
  refine ⟨_, _, pre0 _ ?_, hrun, hended, _, _, rfl, ?_, ⟨_, rfl⟩, hW, hsame.mono (by decide) (by decide)⟩
  · show Steps p.tables e below (s₁.setTop (mkF m 0 #[.val (.ref a)] [])) _
    refine XS.aloadN X0.here hx rfl (hb hby d1_0) rfl rfl ?_
    refine st1 _ ?_
    show Steps p.tables e below (T1.setTop (mkF m 4 #[.val (.ref a)] [])) _
    exact X1.returnOut hx Bd.returns (hb hby d1_4) hr
  · show Q1 h0 n0 _ T1.heap _
    rw [e1]
    exact ⟨rfl, N0, rfl⟩
def Q3 (Z : State) (a : Addr) (z : Int64) (h0 : Heap) (n0 : Nat) (v : Option Value) (h : Heap) (L : List Loc) : Prop := v = some (.int (1 : Int32)) ∧ Fr n0 L ∧ n0 ≤ h.size ∧ Exa Z h a "com/example/xylem/xylem/expr/Stacks" ∧ Fld Z h a "com/example/xylem/xylem/expr/Stacks" "traceLinesMade" "J" (.long (z + (1 : Int64))) ∧ Fld Z h a "com/example/xylem/xylem/expr/Stacks" "traceLinesWritten" "J" (.long (z + (1 : Int64)))
theorem own_more {z : Int64} (h : 0 ≤ z.toInt ∧ z.toInt ≤ 1000) : z < (z + (1 : Int64)) := by
  have a := c_ladd z (1 : Int64)
  have b := rng64 (z + (1 : Int64))
  rw [show (1 : Int64).toInt = 1 from by decide] at a
  rw [Int64.lt_iff_toInt_lt]
  omega
theorem own_next {z : Int64} {k : Int} (h : 0 ≤ z.toInt ∧ z.toInt ≤ k) (hk : k ≤ 1000) : 0 ≤ (z + (1 : Int64)).toInt ∧ (z + (1 : Int64)).toInt ≤ k + 1 := by
  have a := c_ladd z (1 : Int64)
  have b := rng64 (z + (1 : Int64))
  rw [show (1 : Int64).toInt = 1 from by decide] at a
  omega
set_option maxRecDepth 65536 in
set_option maxHeartbeats 40000000 in
theorem rm3 (l : Launch) (Z : State) (a0 : Array Value) (hw : ∀ d ∈ tables_1, d.before a0 Z = true) (ws : List Jvm.Cond) (a : Addr) (z : Int64) (h0 : Heap) (n0 : Nat) (Z0 : n0 ≤ h0.size) (ga : n0 ≤ a) (Ex : Exa Z h0 a "com/example/xylem/xylem/expr/Stacks") (Fm : Fld Z h0 a "com/example/xylem/xylem/expr/Stacks" "traceLinesMade" "J" (.long z)) (Fw : Fld Z h0 a "com/example/xylem/xylem/expr/Stacks" "traceLinesWritten" "J" (.long z)) (hz : 0 ≤ z.toInt ∧ z.toInt ≤ 1000) :
    MetFree l (⟨"com/example/xylem/xylem/expr/Stacks", "isNewTraceLine", "()Z"⟩ : MethodName) (head1 (Jvm.Cond.code (⟨"com/example/xylem/xylem/expr/Stacks", "isNewTraceLine", "()Z"⟩ : MethodName) prog_123_method_3_code 2 (some .boolean) :: ws) ({ frames := 0, cells := 0, slots := 0, locals := 0 } : Room)) (fun as_ U => as_ = #[(.ref a)] ∧ Z.Warmed39 U.vm ∧ U.heap = h0) (fun _ _ _ _ _ => True) (fun _ U o U' => ∃ v L, o = .returned v ∧ Q3 Z a z h0 n0 v U'.heap L ∧ FrameEnd U o U' L ({ frames := 0, cells := 0, slots := 0, locals := 0 } : Room).cells ({ frames := 0, cells := 0, slots := 0, locals := 0 } : Room).slots) := by
  refine MetFree.of_bodySF (plainFor_of_name pn_3) hisR ?_
  intro p e s m args below meth c s₁ Bd hml0 hP hK
  obtain ⟨rfl, hZ, hh⟩ := hP
  have hx := Bd.exec
  have hby := Bd.bytes
  have hml : c.maxLocals = 2 := hml0
  have hown : s.vm.findClass "com/example/xylem/xylem/expr/Stacks" = some m.cls := findClass_of_methodNamed Bd.named
  have hnm := (name_of_methodNamed Bd.named Bd.method).1
  have X0 : Stand p l e ({ frames := 0, cells := 0, slots := 0, locals := 0 } : Room) s m #[(.ref a)] below meth c s₁ [] 0 0 := Stand.of_body Bd
  have e0 : s₁.heap = h0 := by rw [← hh, Bd.state]; rfl
  have N0 := Fr.nil n0
  have pre0 : ∀ t, Steps p.tables e below (s₁.setTop (mkF m 0 #[.val (.ref a), .unset] [])) t → Steps p.tables e below (s₁.setTop (entryFrame m #[(.ref a)] 2)) t := fun t k => castTop (ef_3 m a) k
  have hm := own_more hz
  obtain ⟨T1, X1, e1, st1⟩ := getF X0 hx hZ hown (host := "") (Or.inl (hw _ (List.mem_of_getElem? (i := 14) rfl))) Via.refl e0 Fm (g := (mkF m 2 #[.val (.ref a), .unset] [(.ref a), (.ref a)])) rfl rfl (hb hby d3_2)
  obtain ⟨T2, h2, X2, e2, W2, st2⟩ := putF X1 hx hZ hown (host := "") (Or.inl (hw _ (List.mem_of_getElem? (i := 14) rfl))) Via.refl e1 Fm Ex (Or.inl (hw _ (List.mem_of_getElem? (i := 15) rfl))) (hw _ (List.mem_of_getElem? (i := 1) rfl)) (ty := .long) (by decide) rfl rfl (g := (mkF m 7 #[.val (.ref a), .unset] [(.long (z + (1 : Int64))), (.ref a)])) rfl rfl (hb hby d3_7)
  have N2 := Fr.snoc X2 N0 ga
  have Z2 : n0 ≤ h2.size := by rw [W2.size]; exact Z0
  have F2_a_traceLinesMade := Fm.same W2
  have F2_a_traceLinesWritten := Fw.other W2 (Or.inr (slot_ne (Or.inl (hw _ (List.mem_of_getElem? (i := 17) rfl))) (Or.inl (hw _ (List.mem_of_getElem? (i := 15) rfl))) (by decide) (t := .long) (t' := .long) (by decide) (by decide)))
  have Ex2_a := Ex.wr W2
  obtain ⟨T3, X3, e3, st3⟩ := getF X2 hx hZ hown (host := "") (Or.inl (hw _ (List.mem_of_getElem? (i := 14) rfl))) Via.refl e2 F2_a_traceLinesMade (g := (mkF m 11 #[.val (.ref a), .unset] [(.ref a)])) rfl rfl (hb hby d3_11)
  obtain ⟨T4, X4, e4, st4⟩ := getF X3 hx hZ hown (host := "") (Or.inl (hw _ (List.mem_of_getElem? (i := 16) rfl))) Via.refl e3 F2_a_traceLinesWritten (g := (mkF m 15 #[.val (.ref a), .unset] [(.ref a), (.long (z + (1 : Int64)))])) rfl rfl (hb hby d3_15)
  obtain ⟨T5, X5, e5, st5⟩ := getF X4 hx hZ hown (host := "") (Or.inl (hw _ (List.mem_of_getElem? (i := 16) rfl))) Via.refl e4 F2_a_traceLinesWritten (g := (mkF m 34 #[.val (.ref a), .val (.int (1 : Int32))] [(.ref a), (.ref a)])) rfl rfl (hb hby d3_34)
  obtain ⟨T6, h6, X6, e6, W6, st6⟩ := putF X5 hx hZ hown (host := "") (Or.inl (hw _ (List.mem_of_getElem? (i := 16) rfl))) Via.refl e5 F2_a_traceLinesWritten Ex2_a (Or.inl (hw _ (List.mem_of_getElem? (i := 17) rfl))) (hw _ (List.mem_of_getElem? (i := 1) rfl)) (ty := .long) (by decide) rfl rfl (g := (mkF m 39 #[.val (.ref a), .val (.int (1 : Int32))] [(.long (z + (1 : Int64))), (.ref a)])) rfl rfl (hb hby d3_39)
  have N6 := Fr.snoc X6 N2 ga
  have Z6 : n0 ≤ h6.size := by rw [W6.size]; exact Z2
  have F6_a_traceLinesMade := F2_a_traceLinesMade.other W6 (Or.inr (slot_ne (Or.inl (hw _ (List.mem_of_getElem? (i := 15) rfl))) (Or.inl (hw _ (List.mem_of_getElem? (i := 17) rfl))) (by decide) (t := .long) (t' := .long) (by decide) (by decide)))
  have F6_a_traceLinesWritten := F2_a_traceLinesWritten.same W6
  have Ex6_a := Ex2_a.wr W6
  obtain ⟨fs, hr, hrun, hended, hW, hsame⟩ := X6.leave (v := some (.int (1 : Int32))) (fun h => by rw [Bd.returns] at h; cases h)
  refine ⟨_, _, pre0 _ ?_, hrun, hended, _, _, rfl, ?_, ⟨_, rfl⟩, hW, hsame.mono (by decide) (by decide)⟩
  · show Steps p.tables e below (s₁.setTop (mkF m 0 #[.val (.ref a), .unset] [])) _
    refine XS.aloadN X0.here hx rfl (hb hby d3_0) rfl rfl ?_
    show Steps p.tables e below (s₁.setTop (mkF m 1 #[.val (.ref a), .unset] [(.ref a)])) _
    refine XS.dup X0.here hx rfl (hb hby d3_1) rfl rfl ?_
    show Steps p.tables e below (s₁.setTop (mkF m 2 #[.val (.ref a), .unset] [(.ref a), (.ref a)])) _
    refine st1 _ ?_
    show Steps p.tables e below (T1.setTop (mkF m 5 #[.val (.ref a), .unset] [(.long z), (.ref a)])) _
    refine XS.lconst X1.here hx rfl (hb hby d3_5) ?_
    show Steps p.tables e below (T1.setTop (mkF m 6 #[.val (.ref a), .unset] [(.long (1 : Int64)), (.long z), (.ref a)])) _
    refine XS.ladd X1.here hx rfl (hb hby d3_6) rfl ?_
    show Steps p.tables e below (T1.setTop (mkF m 7 #[.val (.ref a), .unset] [(.long (z + (1 : Int64))), (.ref a)])) _
    refine st2 _ ?_
    show Steps p.tables e below (T2.setTop (mkF m 10 #[.val (.ref a), .unset] [])) _
    refine XS.aloadN X2.here hx rfl (hb hby d3_10) rfl rfl ?_
    show Steps p.tables e below (T2.setTop (mkF m 11 #[.val (.ref a), .unset] [(.ref a)])) _
    refine st3 _ ?_
    show Steps p.tables e below (T3.setTop (mkF m 14 #[.val (.ref a), .unset] [(.long (z + (1 : Int64)))])) _
    refine XS.aloadN X3.here hx rfl (hb hby d3_14) rfl rfl ?_
    show Steps p.tables e below (T3.setTop (mkF m 15 #[.val (.ref a), .unset] [(.ref a), (.long (z + (1 : Int64)))])) _
    refine st4 _ ?_
    show Steps p.tables e below (T4.setTop (mkF m 18 #[.val (.ref a), .unset] [(.long z), (.long (z + (1 : Int64)))])) _
    refine XS.lcmp X4.here hx rfl (hb hby d3_18) rfl ?_
    show Steps p.tables e below (T4.setTop (mkF m 19 #[.val (.ref a), .unset] [(.int (lcmpW (z + (1 : Int64)) z))])) _
    refine XS.ifNo X4.here hx rfl (hb hby d3_19) rfl (own_gt_t hm).2 ?_
    show Steps p.tables e below (T4.setTop (mkF m 22 #[.val (.ref a), .unset] [])) _
    refine XS.iconst X4.here hx rfl (hb hby d3_22) ?_
    show Steps p.tables e below (T4.setTop (mkF m 23 #[.val (.ref a), .unset] [(.int (1 : Int32))])) _
    refine XS.goto X4.here hx rfl (pc0 := 23) (pc' := 27) rfl (hb hby d3_23) (by decide) (by decide) ?_
    show Steps p.tables e below (T4.setTop (mkF m 27 #[.val (.ref a), .unset] [(.int (1 : Int32))])) _
    refine XS.istoreN X4.here hx rfl (hb hby d3_27) rfl (l' := #[.val (.ref a), .val (.int (1 : Int32))]) rfl ?_
    show Steps p.tables e below (T4.setTop (mkF m 28 #[.val (.ref a), .val (.int (1 : Int32))] [])) _
    refine XS.iloadN X4.here hx rfl (hb hby d3_28) rfl ?_
    show Steps p.tables e below (T4.setTop (mkF m 29 #[.val (.ref a), .val (.int (1 : Int32))] [(.int (1 : Int32))])) _
    refine XS.ifNo X4.here hx rfl (hb hby d3_29) rfl ((if0 _ _).trans (feq (by decide : ¬ ((1 : Int32) = (0 : Int32)))).1) ?_
    show Steps p.tables e below (T4.setTop (mkF m 32 #[.val (.ref a), .val (.int (1 : Int32))] [])) _
    refine XS.aloadN X4.here hx rfl (hb hby d3_32) rfl rfl ?_
    show Steps p.tables e below (T4.setTop (mkF m 33 #[.val (.ref a), .val (.int (1 : Int32))] [(.ref a)])) _
    refine XS.dup X4.here hx rfl (hb hby d3_33) rfl rfl ?_
    show Steps p.tables e below (T4.setTop (mkF m 34 #[.val (.ref a), .val (.int (1 : Int32))] [(.ref a), (.ref a)])) _
    refine st5 _ ?_
    show Steps p.tables e below (T5.setTop (mkF m 37 #[.val (.ref a), .val (.int (1 : Int32))] [(.long z), (.ref a)])) _
    refine XS.lconst X5.here hx rfl (hb hby d3_37) ?_
    show Steps p.tables e below (T5.setTop (mkF m 38 #[.val (.ref a), .val (.int (1 : Int32))] [(.long (1 : Int64)), (.long z), (.ref a)])) _
    refine XS.ladd X5.here hx rfl (hb hby d3_38) rfl ?_
    show Steps p.tables e below (T5.setTop (mkF m 39 #[.val (.ref a), .val (.int (1 : Int32))] [(.long (z + (1 : Int64))), (.ref a)])) _
    refine st6 _ ?_
    show Steps p.tables e below (T6.setTop (mkF m 42 #[.val (.ref a), .val (.int (1 : Int32))] [])) _
    refine XS.iloadN X6.here hx rfl (hb hby d3_42) rfl ?_
    show Steps p.tables e below (T6.setTop (mkF m 43 #[.val (.ref a), .val (.int (1 : Int32))] [(.int (1 : Int32))])) _
    exact retN X6 hx (t := .boolean) Bd.returns (by simp) (hb hby d3_43) hr
  · show Q3 Z a z h0 n0 _ T6.heap _
    rw [e6]
    exact ⟨rfl, N6, Z6, Ex6_a, F6_a_traceLinesMade, F6_a_traceLinesWritten⟩
set_option maxRecDepth 65536 in
set_option maxHeartbeats 40000000 in
theorem bl_0 {p : Program} {l : Launch} {e : Env} {s : State} {m : MethodId} {args : Array Value} {below : List Frame} {meth : Method} {c : Code} {T0 : State} {locs : List Loc} {Z : State} {a0 : Array Value} {h0 : Heap} {n0 : Nat} (i0 cn : Int32) (a : Addr) (z : Int64) (X0 : Stand p l e room_1 s m args below meth c T0 locs 1 5) (hx : p.tables.exec = Jvm.exec) (hZ : Z.Warmed39 s.vm) (hw : ∀ d ∈ tables_1, d.before a0 Z = true) (hby : c.code = code) (hml : c.maxLocals = 4) (hown : s.vm.findClass "com/example/xylem/xylem/expr/StacksIsNewTraceLinePinLaw" = some m.cls) (e0 : T0.heap = h0) (N0 : Fr n0 locs) (Z0 : n0 ≤ h0.size) (ga : n0 ≤ a) (Ex : Exa Z h0 a "com/example/xylem/xylem/expr/Stacks") (Fm : Fld Z h0 a "com/example/xylem/xylem/expr/Stacks" "traceLinesMade" "J" (.long z)) (Fw : Fld Z h0 a "com/example/xylem/xylem/expr/Stacks" "traceLinesWritten" "J" (.long z)) (hz : 0 ≤ z.toInt ∧ z.toInt ≤ 0) :
    ∃ (T1 : State) (locs1 : List Loc) (z1 : Int64), Stand p l e room_1 s m args below meth c T1 locs1 1 5 ∧ Fr n0 locs1 ∧ n0 ≤ T1.heap.size ∧ Exa Z T1.heap a "com/example/xylem/xylem/expr/Stacks" ∧ Fld Z T1.heap a "com/example/xylem/xylem/expr/Stacks" "traceLinesMade" "J" (.long z1) ∧ Fld Z T1.heap a "com/example/xylem/xylem/expr/Stacks" "traceLinesWritten" "J" (.long z1) ∧ (0 ≤ z1.toInt ∧ z1.toInt ≤ 1) ∧
      ∀ target, Steps p.tables e below (T1.setTop (mkF m 36 #[.val (.int i0), .val (.int cn), .val (.ref a), .val (.int (1 : Int32))] [])) target → Steps p.tables e below (T0.setTop (mkF m 15 #[.val (.int i0), .val (.int cn), .val (.ref a), .val (.int (1 : Int32))] [])) target := by
  by_cases hP : (0 : Int32) < cn
  · obtain ⟨cq1, kq1, q1a, q1b, q1c⟩ := isOf hZ e0 Ex
    obtain ⟨_, _, ⟨T1, L1, k1, n1⟩, -, X1, ⟨Lc1, hQ1, l1, y1, z1⟩, st1⟩ := X0.virtualBack hx (y := (⟨"com/example/xylem/xylem/expr/Stacks", "isNewTraceLine", "()Z"⟩ : MethodName)) (z := (⟨"com/example/xylem/xylem/expr/Stacks", "isNewTraceLine", "()Z"⟩ : MethodName)) hown (mvT hZ (hw _ (List.mem_of_getElem? (i := 9) rfl))) (mvT hZ (hw _ (List.mem_of_getElem? (i := 10) rfl))) (notFace_of_selects (args := #[]) (mvT hZ (hw _ (List.mem_of_getElem? (i := 12) rfl)))) (mvT hZ (hw _ (List.mem_of_getElem? (i := 12) rfl))) (mvT hZ (hw _ (List.mem_of_getElem? (i := 11) rfl))) (by decide) (backOf (W := 0) (rm3 l Z a0 hw [] a z h0 n0 Z0 ga Ex Fm Fw ⟨hz.1, by omega⟩) hZ (hw _ (List.mem_of_getElem? (i := 13) rfl)) (hw _ (List.mem_of_getElem? (i := 2) rfl)) (by decide) (by decide)) q1a q1c (g := (mkF m 24 #[.val (.int i0), .val (.int cn), .val (.ref a), .val (.int (1 : Int32))] [(.ref a)])) rfl (by rw [hml]; rfl) (Steps.refl _) (argsL := []) (rest := []) (lenOf pd_3 rfl) rfl (by show 2 * 0 + _ ≤ _; exact Nat.le_of_eq rfl) (hb hby at_24) (fun _ _ => ⟨rfl, e0, (by decide : 1 + 0 ≤ _), (by decide : 5 + 0 ≤ _)⟩)
    dsimp only [Pt.U, Pt.locs, Pt.cells, Pt.slots] at X1 l1 y1 z1 st1 hQ1
    subst l1 y1 z1
    obtain ⟨rfl, N1q, Z1, Ex1, Fm1, Fw1⟩ := hQ1
    have N1 := Fr.app N0 N1q
    refine ⟨T1, _, z + (1 : Int64), X1, N1, Z1, Ex1, Fm1, Fw1, own_next hz (by decide), fun target kt => ?_⟩
    show Steps p.tables e below (T0.setTop (mkF m 15 #[.val (.int i0), .val (.int cn), .val (.ref a), .val (.int (1 : Int32))] [])) _
    refine XS.iloadN X0.here hx rfl (hb hby at_15) rfl ?_
    show Steps p.tables e below (T0.setTop (mkF m 16 #[.val (.int i0), .val (.int cn), .val (.ref a), .val (.int (1 : Int32))] [(.int cn)])) _
    refine XS.ifNo X0.here hx rfl (hb hby at_16) rfl ((if0 _ _).trans (tlt hP).2.2.2) ?_
    show Steps p.tables e below (T0.setTop (mkF m 19 #[.val (.int i0), .val (.int cn), .val (.ref a), .val (.int (1 : Int32))] [])) _
    refine XS.iloadN X0.here hx rfl (hb hby at_19) rfl ?_
    show Steps p.tables e below (T0.setTop (mkF m 20 #[.val (.int i0), .val (.int cn), .val (.ref a), .val (.int (1 : Int32))] [(.int (1 : Int32))])) _
    refine XS.ifNo X0.here hx rfl (hb hby at_20) rfl ((if0 _ _).trans (feq (by decide : ¬ ((1 : Int32) = (0 : Int32)))).1) ?_
    show Steps p.tables e below (T0.setTop (mkF m 23 #[.val (.int i0), .val (.int cn), .val (.ref a), .val (.int (1 : Int32))] [])) _
    refine XS.aloadN X0.here hx rfl (hb hby at_23) rfl rfl ?_
    refine st1.trans ?_
    show Steps p.tables e below (T1.setTop (mkF m 27 #[.val (.int i0), .val (.int cn), .val (.ref a), .val (.int (1 : Int32))] [(.int (1 : Int32))])) _
    refine XS.ifNo X1.here hx rfl (hb hby at_27) rfl ((if0 _ _).trans (feq (by decide : ¬ ((1 : Int32) = (0 : Int32)))).1) ?_
    show Steps p.tables e below (T1.setTop (mkF m 30 #[.val (.int i0), .val (.int cn), .val (.ref a), .val (.int (1 : Int32))] [])) _
    refine XS.iconst X1.here hx rfl (hb hby at_30) ?_
    show Steps p.tables e below (T1.setTop (mkF m 31 #[.val (.int i0), .val (.int cn), .val (.ref a), .val (.int (1 : Int32))] [(.int (1 : Int32))])) _
    refine XS.goto X1.here hx rfl (pc0 := 31) (pc' := 35) rfl (hb hby at_31) (by decide) (by decide) ?_
    show Steps p.tables e below (T1.setTop (mkF m 35 #[.val (.int i0), .val (.int cn), .val (.ref a), .val (.int (1 : Int32))] [(.int (1 : Int32))])) _
    refine XS.istoreN X1.here hx rfl (hb hby at_35) rfl (l' := #[.val (.int i0), .val (.int cn), .val (.ref a), .val (.int (1 : Int32))]) rfl ?_
    exact kt
  · refine ⟨T0, _, z, X0, N0, by rw [e0]; exact Z0, by rw [e0]; exact Ex, by rw [e0]; exact Fm, by rw [e0]; exact Fw, ⟨hz.1, by omega⟩, fun target kt => ?_⟩
    show Steps p.tables e below (T0.setTop (mkF m 15 #[.val (.int i0), .val (.int cn), .val (.ref a), .val (.int (1 : Int32))] [])) _
    refine XS.iloadN X0.here hx rfl (hb hby at_15) rfl ?_
    show Steps p.tables e below (T0.setTop (mkF m 16 #[.val (.int i0), .val (.int cn), .val (.ref a), .val (.int (1 : Int32))] [(.int cn)])) _
    refine XS.ifYes X0.here hx rfl (pc0 := 16) (pc' := 36) rfl (hb hby at_16) rfl ((if0 _ _).trans (flt hP).2.2.2) (by decide) (by decide) ?_
    exact kt
set_option maxRecDepth 65536 in
set_option maxHeartbeats 40000000 in
theorem bl_1 {p : Program} {l : Launch} {e : Env} {s : State} {m : MethodId} {args : Array Value} {below : List Frame} {meth : Method} {c : Code} {T0 : State} {locs : List Loc} {Z : State} {a0 : Array Value} {h0 : Heap} {n0 : Nat} (i0 cn : Int32) (a : Addr) (z : Int64) (X0 : Stand p l e room_1 s m args below meth c T0 locs 1 5) (hx : p.tables.exec = Jvm.exec) (hZ : Z.Warmed39 s.vm) (hw : ∀ d ∈ tables_1, d.before a0 Z = true) (hby : c.code = code) (hml : c.maxLocals = 4) (hown : s.vm.findClass "com/example/xylem/xylem/expr/StacksIsNewTraceLinePinLaw" = some m.cls) (e0 : T0.heap = h0) (N0 : Fr n0 locs) (Z0 : n0 ≤ h0.size) (ga : n0 ≤ a) (Ex : Exa Z h0 a "com/example/xylem/xylem/expr/Stacks") (Fm : Fld Z h0 a "com/example/xylem/xylem/expr/Stacks" "traceLinesMade" "J" (.long z)) (Fw : Fld Z h0 a "com/example/xylem/xylem/expr/Stacks" "traceLinesWritten" "J" (.long z)) (hz : 0 ≤ z.toInt ∧ z.toInt ≤ 1) :
    ∃ (T1 : State) (locs1 : List Loc) (z1 : Int64), Stand p l e room_1 s m args below meth c T1 locs1 1 5 ∧ Fr n0 locs1 ∧ n0 ≤ T1.heap.size ∧ Exa Z T1.heap a "com/example/xylem/xylem/expr/Stacks" ∧ Fld Z T1.heap a "com/example/xylem/xylem/expr/Stacks" "traceLinesMade" "J" (.long z1) ∧ Fld Z T1.heap a "com/example/xylem/xylem/expr/Stacks" "traceLinesWritten" "J" (.long z1) ∧ (0 ≤ z1.toInt ∧ z1.toInt ≤ 2) ∧
      ∀ target, Steps p.tables e below (T1.setTop (mkF m 58 #[.val (.int i0), .val (.int cn), .val (.ref a), .val (.int (1 : Int32))] [])) target → Steps p.tables e below (T0.setTop (mkF m 36 #[.val (.int i0), .val (.int cn), .val (.ref a), .val (.int (1 : Int32))] [])) target := by
  by_cases hP : (1 : Int32) < cn
  · obtain ⟨cq1, kq1, q1a, q1b, q1c⟩ := isOf hZ e0 Ex
    obtain ⟨_, _, ⟨T1, L1, k1, n1⟩, -, X1, ⟨Lc1, hQ1, l1, y1, z1⟩, st1⟩ := X0.virtualBack hx (y := (⟨"com/example/xylem/xylem/expr/Stacks", "isNewTraceLine", "()Z"⟩ : MethodName)) (z := (⟨"com/example/xylem/xylem/expr/Stacks", "isNewTraceLine", "()Z"⟩ : MethodName)) hown (mvT hZ (hw _ (List.mem_of_getElem? (i := 9) rfl))) (mvT hZ (hw _ (List.mem_of_getElem? (i := 10) rfl))) (notFace_of_selects (args := #[]) (mvT hZ (hw _ (List.mem_of_getElem? (i := 12) rfl)))) (mvT hZ (hw _ (List.mem_of_getElem? (i := 12) rfl))) (mvT hZ (hw _ (List.mem_of_getElem? (i := 11) rfl))) (by decide) (backOf (W := 0) (rm3 l Z a0 hw [] a z h0 n0 Z0 ga Ex Fm Fw ⟨hz.1, by omega⟩) hZ (hw _ (List.mem_of_getElem? (i := 13) rfl)) (hw _ (List.mem_of_getElem? (i := 2) rfl)) (by decide) (by decide)) q1a q1c (g := (mkF m 46 #[.val (.int i0), .val (.int cn), .val (.ref a), .val (.int (1 : Int32))] [(.ref a)])) rfl (by rw [hml]; rfl) (Steps.refl _) (argsL := []) (rest := []) (lenOf pd_3 rfl) rfl (by show 2 * 0 + _ ≤ _; exact Nat.le_of_eq rfl) (hb hby at_46) (fun _ _ => ⟨rfl, e0, (by decide : 1 + 0 ≤ _), (by decide : 5 + 0 ≤ _)⟩)
    dsimp only [Pt.U, Pt.locs, Pt.cells, Pt.slots] at X1 l1 y1 z1 st1 hQ1
    subst l1 y1 z1
    obtain ⟨rfl, N1q, Z1, Ex1, Fm1, Fw1⟩ := hQ1
    have N1 := Fr.app N0 N1q
    refine ⟨T1, _, z + (1 : Int64), X1, N1, Z1, Ex1, Fm1, Fw1, own_next hz (by decide), fun target kt => ?_⟩
    show Steps p.tables e below (T0.setTop (mkF m 36 #[.val (.int i0), .val (.int cn), .val (.ref a), .val (.int (1 : Int32))] [])) _
    refine XS.iloadN X0.here hx rfl (hb hby at_36) rfl ?_
    show Steps p.tables e below (T0.setTop (mkF m 37 #[.val (.int i0), .val (.int cn), .val (.ref a), .val (.int (1 : Int32))] [(.int cn)])) _
    refine XS.iconst X0.here hx rfl (hb hby at_37) ?_
    show Steps p.tables e below (T0.setTop (mkF m 38 #[.val (.int i0), .val (.int cn), .val (.ref a), .val (.int (1 : Int32))] [(.int (1 : Int32)), (.int cn)])) _
    refine XS.icmpNo X0.here hx rfl (hb hby at_38) rfl (tlt hP).2.2.2 ?_
    show Steps p.tables e below (T0.setTop (mkF m 41 #[.val (.int i0), .val (.int cn), .val (.ref a), .val (.int (1 : Int32))] [])) _
    refine XS.iloadN X0.here hx rfl (hb hby at_41) rfl ?_
    show Steps p.tables e below (T0.setTop (mkF m 42 #[.val (.int i0), .val (.int cn), .val (.ref a), .val (.int (1 : Int32))] [(.int (1 : Int32))])) _
    refine XS.ifNo X0.here hx rfl (hb hby at_42) rfl ((if0 _ _).trans (feq (by decide : ¬ ((1 : Int32) = (0 : Int32)))).1) ?_
    show Steps p.tables e below (T0.setTop (mkF m 45 #[.val (.int i0), .val (.int cn), .val (.ref a), .val (.int (1 : Int32))] [])) _
    refine XS.aloadN X0.here hx rfl (hb hby at_45) rfl rfl ?_
    refine st1.trans ?_
    show Steps p.tables e below (T1.setTop (mkF m 49 #[.val (.int i0), .val (.int cn), .val (.ref a), .val (.int (1 : Int32))] [(.int (1 : Int32))])) _
    refine XS.ifNo X1.here hx rfl (hb hby at_49) rfl ((if0 _ _).trans (feq (by decide : ¬ ((1 : Int32) = (0 : Int32)))).1) ?_
    show Steps p.tables e below (T1.setTop (mkF m 52 #[.val (.int i0), .val (.int cn), .val (.ref a), .val (.int (1 : Int32))] [])) _
    refine XS.iconst X1.here hx rfl (hb hby at_52) ?_
    show Steps p.tables e below (T1.setTop (mkF m 53 #[.val (.int i0), .val (.int cn), .val (.ref a), .val (.int (1 : Int32))] [(.int (1 : Int32))])) _
    refine XS.goto X1.here hx rfl (pc0 := 53) (pc' := 57) rfl (hb hby at_53) (by decide) (by decide) ?_
    show Steps p.tables e below (T1.setTop (mkF m 57 #[.val (.int i0), .val (.int cn), .val (.ref a), .val (.int (1 : Int32))] [(.int (1 : Int32))])) _
    refine XS.istoreN X1.here hx rfl (hb hby at_57) rfl (l' := #[.val (.int i0), .val (.int cn), .val (.ref a), .val (.int (1 : Int32))]) rfl ?_
    exact kt
  · refine ⟨T0, _, z, X0, N0, by rw [e0]; exact Z0, by rw [e0]; exact Ex, by rw [e0]; exact Fm, by rw [e0]; exact Fw, ⟨hz.1, by omega⟩, fun target kt => ?_⟩
    show Steps p.tables e below (T0.setTop (mkF m 36 #[.val (.int i0), .val (.int cn), .val (.ref a), .val (.int (1 : Int32))] [])) _
    refine XS.iloadN X0.here hx rfl (hb hby at_36) rfl ?_
    show Steps p.tables e below (T0.setTop (mkF m 37 #[.val (.int i0), .val (.int cn), .val (.ref a), .val (.int (1 : Int32))] [(.int cn)])) _
    refine XS.iconst X0.here hx rfl (hb hby at_37) ?_
    show Steps p.tables e below (T0.setTop (mkF m 38 #[.val (.int i0), .val (.int cn), .val (.ref a), .val (.int (1 : Int32))] [(.int (1 : Int32)), (.int cn)])) _
    refine XS.icmpYes X0.here hx rfl (pc0 := 38) (pc' := 58) rfl (hb hby at_38) rfl (flt hP).2.2.2 (by decide) (by decide) ?_
    exact kt
set_option maxRecDepth 65536 in
set_option maxHeartbeats 40000000 in
theorem bl_2 {p : Program} {l : Launch} {e : Env} {s : State} {m : MethodId} {args : Array Value} {below : List Frame} {meth : Method} {c : Code} {T0 : State} {locs : List Loc} {Z : State} {a0 : Array Value} {h0 : Heap} {n0 : Nat} (i0 cn : Int32) (a : Addr) (z : Int64) (X0 : Stand p l e room_1 s m args below meth c T0 locs 1 5) (hx : p.tables.exec = Jvm.exec) (hZ : Z.Warmed39 s.vm) (hw : ∀ d ∈ tables_1, d.before a0 Z = true) (hby : c.code = code) (hml : c.maxLocals = 4) (hown : s.vm.findClass "com/example/xylem/xylem/expr/StacksIsNewTraceLinePinLaw" = some m.cls) (e0 : T0.heap = h0) (N0 : Fr n0 locs) (Z0 : n0 ≤ h0.size) (ga : n0 ≤ a) (Ex : Exa Z h0 a "com/example/xylem/xylem/expr/Stacks") (Fm : Fld Z h0 a "com/example/xylem/xylem/expr/Stacks" "traceLinesMade" "J" (.long z)) (Fw : Fld Z h0 a "com/example/xylem/xylem/expr/Stacks" "traceLinesWritten" "J" (.long z)) (hz : 0 ≤ z.toInt ∧ z.toInt ≤ 2) :
    ∃ (T1 : State) (locs1 : List Loc) (z1 : Int64), Stand p l e room_1 s m args below meth c T1 locs1 1 5 ∧ Fr n0 locs1 ∧ n0 ≤ T1.heap.size ∧ Exa Z T1.heap a "com/example/xylem/xylem/expr/Stacks" ∧ Fld Z T1.heap a "com/example/xylem/xylem/expr/Stacks" "traceLinesMade" "J" (.long z1) ∧ Fld Z T1.heap a "com/example/xylem/xylem/expr/Stacks" "traceLinesWritten" "J" (.long z1) ∧ (0 ≤ z1.toInt ∧ z1.toInt ≤ 3) ∧
      ∀ target, Steps p.tables e below (T1.setTop (mkF m 80 #[.val (.int i0), .val (.int cn), .val (.ref a), .val (.int (1 : Int32))] [])) target → Steps p.tables e below (T0.setTop (mkF m 58 #[.val (.int i0), .val (.int cn), .val (.ref a), .val (.int (1 : Int32))] [])) target := by
  by_cases hP : (2 : Int32) < cn
  · obtain ⟨cq1, kq1, q1a, q1b, q1c⟩ := isOf hZ e0 Ex
    obtain ⟨_, _, ⟨T1, L1, k1, n1⟩, -, X1, ⟨Lc1, hQ1, l1, y1, z1⟩, st1⟩ := X0.virtualBack hx (y := (⟨"com/example/xylem/xylem/expr/Stacks", "isNewTraceLine", "()Z"⟩ : MethodName)) (z := (⟨"com/example/xylem/xylem/expr/Stacks", "isNewTraceLine", "()Z"⟩ : MethodName)) hown (mvT hZ (hw _ (List.mem_of_getElem? (i := 9) rfl))) (mvT hZ (hw _ (List.mem_of_getElem? (i := 10) rfl))) (notFace_of_selects (args := #[]) (mvT hZ (hw _ (List.mem_of_getElem? (i := 12) rfl)))) (mvT hZ (hw _ (List.mem_of_getElem? (i := 12) rfl))) (mvT hZ (hw _ (List.mem_of_getElem? (i := 11) rfl))) (by decide) (backOf (W := 0) (rm3 l Z a0 hw [] a z h0 n0 Z0 ga Ex Fm Fw ⟨hz.1, by omega⟩) hZ (hw _ (List.mem_of_getElem? (i := 13) rfl)) (hw _ (List.mem_of_getElem? (i := 2) rfl)) (by decide) (by decide)) q1a q1c (g := (mkF m 68 #[.val (.int i0), .val (.int cn), .val (.ref a), .val (.int (1 : Int32))] [(.ref a)])) rfl (by rw [hml]; rfl) (Steps.refl _) (argsL := []) (rest := []) (lenOf pd_3 rfl) rfl (by show 2 * 0 + _ ≤ _; exact Nat.le_of_eq rfl) (hb hby at_68) (fun _ _ => ⟨rfl, e0, (by decide : 1 + 0 ≤ _), (by decide : 5 + 0 ≤ _)⟩)
    dsimp only [Pt.U, Pt.locs, Pt.cells, Pt.slots] at X1 l1 y1 z1 st1 hQ1
    subst l1 y1 z1
    obtain ⟨rfl, N1q, Z1, Ex1, Fm1, Fw1⟩ := hQ1
    have N1 := Fr.app N0 N1q
    refine ⟨T1, _, z + (1 : Int64), X1, N1, Z1, Ex1, Fm1, Fw1, own_next hz (by decide), fun target kt => ?_⟩
    show Steps p.tables e below (T0.setTop (mkF m 58 #[.val (.int i0), .val (.int cn), .val (.ref a), .val (.int (1 : Int32))] [])) _
    refine XS.iloadN X0.here hx rfl (hb hby at_58) rfl ?_
    show Steps p.tables e below (T0.setTop (mkF m 59 #[.val (.int i0), .val (.int cn), .val (.ref a), .val (.int (1 : Int32))] [(.int cn)])) _
    refine XS.iconst X0.here hx rfl (hb hby at_59) ?_
    show Steps p.tables e below (T0.setTop (mkF m 60 #[.val (.int i0), .val (.int cn), .val (.ref a), .val (.int (1 : Int32))] [(.int (2 : Int32)), (.int cn)])) _
    refine XS.icmpNo X0.here hx rfl (hb hby at_60) rfl (tlt hP).2.2.2 ?_
    show Steps p.tables e below (T0.setTop (mkF m 63 #[.val (.int i0), .val (.int cn), .val (.ref a), .val (.int (1 : Int32))] [])) _
    refine XS.iloadN X0.here hx rfl (hb hby at_63) rfl ?_
    show Steps p.tables e below (T0.setTop (mkF m 64 #[.val (.int i0), .val (.int cn), .val (.ref a), .val (.int (1 : Int32))] [(.int (1 : Int32))])) _
    refine XS.ifNo X0.here hx rfl (hb hby at_64) rfl ((if0 _ _).trans (feq (by decide : ¬ ((1 : Int32) = (0 : Int32)))).1) ?_
    show Steps p.tables e below (T0.setTop (mkF m 67 #[.val (.int i0), .val (.int cn), .val (.ref a), .val (.int (1 : Int32))] [])) _
    refine XS.aloadN X0.here hx rfl (hb hby at_67) rfl rfl ?_
    refine st1.trans ?_
    show Steps p.tables e below (T1.setTop (mkF m 71 #[.val (.int i0), .val (.int cn), .val (.ref a), .val (.int (1 : Int32))] [(.int (1 : Int32))])) _
    refine XS.ifNo X1.here hx rfl (hb hby at_71) rfl ((if0 _ _).trans (feq (by decide : ¬ ((1 : Int32) = (0 : Int32)))).1) ?_
    show Steps p.tables e below (T1.setTop (mkF m 74 #[.val (.int i0), .val (.int cn), .val (.ref a), .val (.int (1 : Int32))] [])) _
    refine XS.iconst X1.here hx rfl (hb hby at_74) ?_
    show Steps p.tables e below (T1.setTop (mkF m 75 #[.val (.int i0), .val (.int cn), .val (.ref a), .val (.int (1 : Int32))] [(.int (1 : Int32))])) _
    refine XS.goto X1.here hx rfl (pc0 := 75) (pc' := 79) rfl (hb hby at_75) (by decide) (by decide) ?_
    show Steps p.tables e below (T1.setTop (mkF m 79 #[.val (.int i0), .val (.int cn), .val (.ref a), .val (.int (1 : Int32))] [(.int (1 : Int32))])) _
    refine XS.istoreN X1.here hx rfl (hb hby at_79) rfl (l' := #[.val (.int i0), .val (.int cn), .val (.ref a), .val (.int (1 : Int32))]) rfl ?_
    exact kt
  · refine ⟨T0, _, z, X0, N0, by rw [e0]; exact Z0, by rw [e0]; exact Ex, by rw [e0]; exact Fm, by rw [e0]; exact Fw, ⟨hz.1, by omega⟩, fun target kt => ?_⟩
    show Steps p.tables e below (T0.setTop (mkF m 58 #[.val (.int i0), .val (.int cn), .val (.ref a), .val (.int (1 : Int32))] [])) _
    refine XS.iloadN X0.here hx rfl (hb hby at_58) rfl ?_
    show Steps p.tables e below (T0.setTop (mkF m 59 #[.val (.int i0), .val (.int cn), .val (.ref a), .val (.int (1 : Int32))] [(.int cn)])) _
    refine XS.iconst X0.here hx rfl (hb hby at_59) ?_
    show Steps p.tables e below (T0.setTop (mkF m 60 #[.val (.int i0), .val (.int cn), .val (.ref a), .val (.int (1 : Int32))] [(.int (2 : Int32)), (.int cn)])) _
    refine XS.icmpYes X0.here hx rfl (pc0 := 60) (pc' := 80) rfl (hb hby at_60) rfl (flt hP).2.2.2 (by decide) (by decide) ?_
    exact kt
set_option maxRecDepth 65536 in
set_option maxHeartbeats 40000000 in
theorem bl_3 {p : Program} {l : Launch} {e : Env} {s : State} {m : MethodId} {args : Array Value} {below : List Frame} {meth : Method} {c : Code} {T0 : State} {locs : List Loc} {Z : State} {a0 : Array Value} {h0 : Heap} {n0 : Nat} (i0 cn : Int32) (a : Addr) (z : Int64) (X0 : Stand p l e room_1 s m args below meth c T0 locs 1 5) (hx : p.tables.exec = Jvm.exec) (hZ : Z.Warmed39 s.vm) (hw : ∀ d ∈ tables_1, d.before a0 Z = true) (hby : c.code = code) (hml : c.maxLocals = 4) (hown : s.vm.findClass "com/example/xylem/xylem/expr/StacksIsNewTraceLinePinLaw" = some m.cls) (e0 : T0.heap = h0) (N0 : Fr n0 locs) (Z0 : n0 ≤ h0.size) (ga : n0 ≤ a) (Ex : Exa Z h0 a "com/example/xylem/xylem/expr/Stacks") (Fm : Fld Z h0 a "com/example/xylem/xylem/expr/Stacks" "traceLinesMade" "J" (.long z)) (Fw : Fld Z h0 a "com/example/xylem/xylem/expr/Stacks" "traceLinesWritten" "J" (.long z)) (hz : 0 ≤ z.toInt ∧ z.toInt ≤ 3) :
    ∃ (T1 : State) (locs1 : List Loc) (z1 : Int64), Stand p l e room_1 s m args below meth c T1 locs1 1 5 ∧ Fr n0 locs1 ∧ n0 ≤ T1.heap.size ∧ Exa Z T1.heap a "com/example/xylem/xylem/expr/Stacks" ∧ Fld Z T1.heap a "com/example/xylem/xylem/expr/Stacks" "traceLinesMade" "J" (.long z1) ∧ Fld Z T1.heap a "com/example/xylem/xylem/expr/Stacks" "traceLinesWritten" "J" (.long z1) ∧ (0 ≤ z1.toInt ∧ z1.toInt ≤ 4) ∧
      ∀ target, Steps p.tables e below (T1.setTop (mkF m 102 #[.val (.int i0), .val (.int cn), .val (.ref a), .val (.int (1 : Int32))] [])) target → Steps p.tables e below (T0.setTop (mkF m 80 #[.val (.int i0), .val (.int cn), .val (.ref a), .val (.int (1 : Int32))] [])) target := by
  by_cases hP : (3 : Int32) < cn
  · obtain ⟨cq1, kq1, q1a, q1b, q1c⟩ := isOf hZ e0 Ex
    obtain ⟨_, _, ⟨T1, L1, k1, n1⟩, -, X1, ⟨Lc1, hQ1, l1, y1, z1⟩, st1⟩ := X0.virtualBack hx (y := (⟨"com/example/xylem/xylem/expr/Stacks", "isNewTraceLine", "()Z"⟩ : MethodName)) (z := (⟨"com/example/xylem/xylem/expr/Stacks", "isNewTraceLine", "()Z"⟩ : MethodName)) hown (mvT hZ (hw _ (List.mem_of_getElem? (i := 9) rfl))) (mvT hZ (hw _ (List.mem_of_getElem? (i := 10) rfl))) (notFace_of_selects (args := #[]) (mvT hZ (hw _ (List.mem_of_getElem? (i := 12) rfl)))) (mvT hZ (hw _ (List.mem_of_getElem? (i := 12) rfl))) (mvT hZ (hw _ (List.mem_of_getElem? (i := 11) rfl))) (by decide) (backOf (W := 0) (rm3 l Z a0 hw [] a z h0 n0 Z0 ga Ex Fm Fw ⟨hz.1, by omega⟩) hZ (hw _ (List.mem_of_getElem? (i := 13) rfl)) (hw _ (List.mem_of_getElem? (i := 2) rfl)) (by decide) (by decide)) q1a q1c (g := (mkF m 90 #[.val (.int i0), .val (.int cn), .val (.ref a), .val (.int (1 : Int32))] [(.ref a)])) rfl (by rw [hml]; rfl) (Steps.refl _) (argsL := []) (rest := []) (lenOf pd_3 rfl) rfl (by show 2 * 0 + _ ≤ _; exact Nat.le_of_eq rfl) (hb hby at_90) (fun _ _ => ⟨rfl, e0, (by decide : 1 + 0 ≤ _), (by decide : 5 + 0 ≤ _)⟩)
    dsimp only [Pt.U, Pt.locs, Pt.cells, Pt.slots] at X1 l1 y1 z1 st1 hQ1
    subst l1 y1 z1
    obtain ⟨rfl, N1q, Z1, Ex1, Fm1, Fw1⟩ := hQ1
    have N1 := Fr.app N0 N1q
    refine ⟨T1, _, z + (1 : Int64), X1, N1, Z1, Ex1, Fm1, Fw1, own_next hz (by decide), fun target kt => ?_⟩
    show Steps p.tables e below (T0.setTop (mkF m 80 #[.val (.int i0), .val (.int cn), .val (.ref a), .val (.int (1 : Int32))] [])) _
    refine XS.iloadN X0.here hx rfl (hb hby at_80) rfl ?_
    show Steps p.tables e below (T0.setTop (mkF m 81 #[.val (.int i0), .val (.int cn), .val (.ref a), .val (.int (1 : Int32))] [(.int cn)])) _
    refine XS.iconst X0.here hx rfl (hb hby at_81) ?_
    show Steps p.tables e below (T0.setTop (mkF m 82 #[.val (.int i0), .val (.int cn), .val (.ref a), .val (.int (1 : Int32))] [(.int (3 : Int32)), (.int cn)])) _
    refine XS.icmpNo X0.here hx rfl (hb hby at_82) rfl (tlt hP).2.2.2 ?_
    show Steps p.tables e below (T0.setTop (mkF m 85 #[.val (.int i0), .val (.int cn), .val (.ref a), .val (.int (1 : Int32))] [])) _
    refine XS.iloadN X0.here hx rfl (hb hby at_85) rfl ?_
    show Steps p.tables e below (T0.setTop (mkF m 86 #[.val (.int i0), .val (.int cn), .val (.ref a), .val (.int (1 : Int32))] [(.int (1 : Int32))])) _
    refine XS.ifNo X0.here hx rfl (hb hby at_86) rfl ((if0 _ _).trans (feq (by decide : ¬ ((1 : Int32) = (0 : Int32)))).1) ?_
    show Steps p.tables e below (T0.setTop (mkF m 89 #[.val (.int i0), .val (.int cn), .val (.ref a), .val (.int (1 : Int32))] [])) _
    refine XS.aloadN X0.here hx rfl (hb hby at_89) rfl rfl ?_
    refine st1.trans ?_
    show Steps p.tables e below (T1.setTop (mkF m 93 #[.val (.int i0), .val (.int cn), .val (.ref a), .val (.int (1 : Int32))] [(.int (1 : Int32))])) _
    refine XS.ifNo X1.here hx rfl (hb hby at_93) rfl ((if0 _ _).trans (feq (by decide : ¬ ((1 : Int32) = (0 : Int32)))).1) ?_
    show Steps p.tables e below (T1.setTop (mkF m 96 #[.val (.int i0), .val (.int cn), .val (.ref a), .val (.int (1 : Int32))] [])) _
    refine XS.iconst X1.here hx rfl (hb hby at_96) ?_
    show Steps p.tables e below (T1.setTop (mkF m 97 #[.val (.int i0), .val (.int cn), .val (.ref a), .val (.int (1 : Int32))] [(.int (1 : Int32))])) _
    refine XS.goto X1.here hx rfl (pc0 := 97) (pc' := 101) rfl (hb hby at_97) (by decide) (by decide) ?_
    show Steps p.tables e below (T1.setTop (mkF m 101 #[.val (.int i0), .val (.int cn), .val (.ref a), .val (.int (1 : Int32))] [(.int (1 : Int32))])) _
    refine XS.istoreN X1.here hx rfl (hb hby at_101) rfl (l' := #[.val (.int i0), .val (.int cn), .val (.ref a), .val (.int (1 : Int32))]) rfl ?_
    exact kt
  · refine ⟨T0, _, z, X0, N0, by rw [e0]; exact Z0, by rw [e0]; exact Ex, by rw [e0]; exact Fm, by rw [e0]; exact Fw, ⟨hz.1, by omega⟩, fun target kt => ?_⟩
    show Steps p.tables e below (T0.setTop (mkF m 80 #[.val (.int i0), .val (.int cn), .val (.ref a), .val (.int (1 : Int32))] [])) _
    refine XS.iloadN X0.here hx rfl (hb hby at_80) rfl ?_
    show Steps p.tables e below (T0.setTop (mkF m 81 #[.val (.int i0), .val (.int cn), .val (.ref a), .val (.int (1 : Int32))] [(.int cn)])) _
    refine XS.iconst X0.here hx rfl (hb hby at_81) ?_
    show Steps p.tables e below (T0.setTop (mkF m 82 #[.val (.int i0), .val (.int cn), .val (.ref a), .val (.int (1 : Int32))] [(.int (3 : Int32)), (.int cn)])) _
    refine XS.icmpYes X0.here hx rfl (pc0 := 82) (pc' := 102) rfl (hb hby at_82) rfl (flt hP).2.2.2 (by decide) (by decide) ?_
    exact kt
set_option maxRecDepth 65536 in
set_option maxHeartbeats 40000000 in
theorem bl_4 {p : Program} {l : Launch} {e : Env} {s : State} {m : MethodId} {args : Array Value} {below : List Frame} {meth : Method} {c : Code} {T0 : State} {locs : List Loc} {Z : State} {a0 : Array Value} {h0 : Heap} {n0 : Nat} (i0 cn : Int32) (a : Addr) (z : Int64) (X0 : Stand p l e room_1 s m args below meth c T0 locs 1 5) (hx : p.tables.exec = Jvm.exec) (hZ : Z.Warmed39 s.vm) (hw : ∀ d ∈ tables_1, d.before a0 Z = true) (hby : c.code = code) (hml : c.maxLocals = 4) (hown : s.vm.findClass "com/example/xylem/xylem/expr/StacksIsNewTraceLinePinLaw" = some m.cls) (e0 : T0.heap = h0) (N0 : Fr n0 locs) (Z0 : n0 ≤ h0.size) (ga : n0 ≤ a) (Ex : Exa Z h0 a "com/example/xylem/xylem/expr/Stacks") (Fm : Fld Z h0 a "com/example/xylem/xylem/expr/Stacks" "traceLinesMade" "J" (.long z)) (Fw : Fld Z h0 a "com/example/xylem/xylem/expr/Stacks" "traceLinesWritten" "J" (.long z)) (hz : 0 ≤ z.toInt ∧ z.toInt ≤ 4) :
    ∃ (T1 : State) (locs1 : List Loc) (z1 : Int64), Stand p l e room_1 s m args below meth c T1 locs1 1 5 ∧ Fr n0 locs1 ∧ n0 ≤ T1.heap.size ∧ Exa Z T1.heap a "com/example/xylem/xylem/expr/Stacks" ∧ Fld Z T1.heap a "com/example/xylem/xylem/expr/Stacks" "traceLinesMade" "J" (.long z1) ∧ Fld Z T1.heap a "com/example/xylem/xylem/expr/Stacks" "traceLinesWritten" "J" (.long z1) ∧ (0 ≤ z1.toInt ∧ z1.toInt ≤ 5) ∧
      ∀ target, Steps p.tables e below (T1.setTop (mkF m 124 #[.val (.int i0), .val (.int cn), .val (.ref a), .val (.int (1 : Int32))] [])) target → Steps p.tables e below (T0.setTop (mkF m 102 #[.val (.int i0), .val (.int cn), .val (.ref a), .val (.int (1 : Int32))] [])) target := by
  by_cases hP : (4 : Int32) < cn
  · obtain ⟨cq1, kq1, q1a, q1b, q1c⟩ := isOf hZ e0 Ex
    obtain ⟨_, _, ⟨T1, L1, k1, n1⟩, -, X1, ⟨Lc1, hQ1, l1, y1, z1⟩, st1⟩ := X0.virtualBack hx (y := (⟨"com/example/xylem/xylem/expr/Stacks", "isNewTraceLine", "()Z"⟩ : MethodName)) (z := (⟨"com/example/xylem/xylem/expr/Stacks", "isNewTraceLine", "()Z"⟩ : MethodName)) hown (mvT hZ (hw _ (List.mem_of_getElem? (i := 9) rfl))) (mvT hZ (hw _ (List.mem_of_getElem? (i := 10) rfl))) (notFace_of_selects (args := #[]) (mvT hZ (hw _ (List.mem_of_getElem? (i := 12) rfl)))) (mvT hZ (hw _ (List.mem_of_getElem? (i := 12) rfl))) (mvT hZ (hw _ (List.mem_of_getElem? (i := 11) rfl))) (by decide) (backOf (W := 0) (rm3 l Z a0 hw [] a z h0 n0 Z0 ga Ex Fm Fw ⟨hz.1, by omega⟩) hZ (hw _ (List.mem_of_getElem? (i := 13) rfl)) (hw _ (List.mem_of_getElem? (i := 2) rfl)) (by decide) (by decide)) q1a q1c (g := (mkF m 112 #[.val (.int i0), .val (.int cn), .val (.ref a), .val (.int (1 : Int32))] [(.ref a)])) rfl (by rw [hml]; rfl) (Steps.refl _) (argsL := []) (rest := []) (lenOf pd_3 rfl) rfl (by show 2 * 0 + _ ≤ _; exact Nat.le_of_eq rfl) (hb hby at_112) (fun _ _ => ⟨rfl, e0, (by decide : 1 + 0 ≤ _), (by decide : 5 + 0 ≤ _)⟩)
    dsimp only [Pt.U, Pt.locs, Pt.cells, Pt.slots] at X1 l1 y1 z1 st1 hQ1
    subst l1 y1 z1
    obtain ⟨rfl, N1q, Z1, Ex1, Fm1, Fw1⟩ := hQ1
    have N1 := Fr.app N0 N1q
    refine ⟨T1, _, z + (1 : Int64), X1, N1, Z1, Ex1, Fm1, Fw1, own_next hz (by decide), fun target kt => ?_⟩
    show Steps p.tables e below (T0.setTop (mkF m 102 #[.val (.int i0), .val (.int cn), .val (.ref a), .val (.int (1 : Int32))] [])) _
    refine XS.iloadN X0.here hx rfl (hb hby at_102) rfl ?_
    show Steps p.tables e below (T0.setTop (mkF m 103 #[.val (.int i0), .val (.int cn), .val (.ref a), .val (.int (1 : Int32))] [(.int cn)])) _
    refine XS.iconst X0.here hx rfl (hb hby at_103) ?_
    show Steps p.tables e below (T0.setTop (mkF m 104 #[.val (.int i0), .val (.int cn), .val (.ref a), .val (.int (1 : Int32))] [(.int (4 : Int32)), (.int cn)])) _
    refine XS.icmpNo X0.here hx rfl (hb hby at_104) rfl (tlt hP).2.2.2 ?_
    show Steps p.tables e below (T0.setTop (mkF m 107 #[.val (.int i0), .val (.int cn), .val (.ref a), .val (.int (1 : Int32))] [])) _
    refine XS.iloadN X0.here hx rfl (hb hby at_107) rfl ?_
    show Steps p.tables e below (T0.setTop (mkF m 108 #[.val (.int i0), .val (.int cn), .val (.ref a), .val (.int (1 : Int32))] [(.int (1 : Int32))])) _
    refine XS.ifNo X0.here hx rfl (hb hby at_108) rfl ((if0 _ _).trans (feq (by decide : ¬ ((1 : Int32) = (0 : Int32)))).1) ?_
    show Steps p.tables e below (T0.setTop (mkF m 111 #[.val (.int i0), .val (.int cn), .val (.ref a), .val (.int (1 : Int32))] [])) _
    refine XS.aloadN X0.here hx rfl (hb hby at_111) rfl rfl ?_
    refine st1.trans ?_
    show Steps p.tables e below (T1.setTop (mkF m 115 #[.val (.int i0), .val (.int cn), .val (.ref a), .val (.int (1 : Int32))] [(.int (1 : Int32))])) _
    refine XS.ifNo X1.here hx rfl (hb hby at_115) rfl ((if0 _ _).trans (feq (by decide : ¬ ((1 : Int32) = (0 : Int32)))).1) ?_
    show Steps p.tables e below (T1.setTop (mkF m 118 #[.val (.int i0), .val (.int cn), .val (.ref a), .val (.int (1 : Int32))] [])) _
    refine XS.iconst X1.here hx rfl (hb hby at_118) ?_
    show Steps p.tables e below (T1.setTop (mkF m 119 #[.val (.int i0), .val (.int cn), .val (.ref a), .val (.int (1 : Int32))] [(.int (1 : Int32))])) _
    refine XS.goto X1.here hx rfl (pc0 := 119) (pc' := 123) rfl (hb hby at_119) (by decide) (by decide) ?_
    show Steps p.tables e below (T1.setTop (mkF m 123 #[.val (.int i0), .val (.int cn), .val (.ref a), .val (.int (1 : Int32))] [(.int (1 : Int32))])) _
    refine XS.istoreN X1.here hx rfl (hb hby at_123) rfl (l' := #[.val (.int i0), .val (.int cn), .val (.ref a), .val (.int (1 : Int32))]) rfl ?_
    exact kt
  · refine ⟨T0, _, z, X0, N0, by rw [e0]; exact Z0, by rw [e0]; exact Ex, by rw [e0]; exact Fm, by rw [e0]; exact Fw, ⟨hz.1, by omega⟩, fun target kt => ?_⟩
    show Steps p.tables e below (T0.setTop (mkF m 102 #[.val (.int i0), .val (.int cn), .val (.ref a), .val (.int (1 : Int32))] [])) _
    refine XS.iloadN X0.here hx rfl (hb hby at_102) rfl ?_
    show Steps p.tables e below (T0.setTop (mkF m 103 #[.val (.int i0), .val (.int cn), .val (.ref a), .val (.int (1 : Int32))] [(.int cn)])) _
    refine XS.iconst X0.here hx rfl (hb hby at_103) ?_
    show Steps p.tables e below (T0.setTop (mkF m 104 #[.val (.int i0), .val (.int cn), .val (.ref a), .val (.int (1 : Int32))] [(.int (4 : Int32)), (.int cn)])) _
    refine XS.icmpYes X0.here hx rfl (pc0 := 104) (pc' := 124) rfl (hb hby at_104) rfl (flt hP).2.2.2 (by decide) (by decide) ?_
    exact kt
set_option maxRecDepth 65536 in
set_option maxHeartbeats 40000000 in
theorem bl_5 {p : Program} {l : Launch} {e : Env} {s : State} {m : MethodId} {args : Array Value} {below : List Frame} {meth : Method} {c : Code} {T0 : State} {locs : List Loc} {Z : State} {a0 : Array Value} {h0 : Heap} {n0 : Nat} (i0 cn : Int32) (a : Addr) (z : Int64) (X0 : Stand p l e room_1 s m args below meth c T0 locs 1 5) (hx : p.tables.exec = Jvm.exec) (hZ : Z.Warmed39 s.vm) (hw : ∀ d ∈ tables_1, d.before a0 Z = true) (hby : c.code = code) (hml : c.maxLocals = 4) (hown : s.vm.findClass "com/example/xylem/xylem/expr/StacksIsNewTraceLinePinLaw" = some m.cls) (e0 : T0.heap = h0) (N0 : Fr n0 locs) (Z0 : n0 ≤ h0.size) (ga : n0 ≤ a) (Ex : Exa Z h0 a "com/example/xylem/xylem/expr/Stacks") (Fm : Fld Z h0 a "com/example/xylem/xylem/expr/Stacks" "traceLinesMade" "J" (.long z)) (Fw : Fld Z h0 a "com/example/xylem/xylem/expr/Stacks" "traceLinesWritten" "J" (.long z)) (hz : 0 ≤ z.toInt ∧ z.toInt ≤ 5) :
    ∃ (T1 : State) (locs1 : List Loc) (z1 : Int64), Stand p l e room_1 s m args below meth c T1 locs1 1 5 ∧ Fr n0 locs1 ∧ n0 ≤ T1.heap.size ∧ Exa Z T1.heap a "com/example/xylem/xylem/expr/Stacks" ∧ Fld Z T1.heap a "com/example/xylem/xylem/expr/Stacks" "traceLinesMade" "J" (.long z1) ∧ Fld Z T1.heap a "com/example/xylem/xylem/expr/Stacks" "traceLinesWritten" "J" (.long z1) ∧ (0 ≤ z1.toInt ∧ z1.toInt ≤ 6) ∧
      ∀ target, Steps p.tables e below (T1.setTop (mkF m 146 #[.val (.int i0), .val (.int cn), .val (.ref a), .val (.int (1 : Int32))] [])) target → Steps p.tables e below (T0.setTop (mkF m 124 #[.val (.int i0), .val (.int cn), .val (.ref a), .val (.int (1 : Int32))] [])) target := by
  by_cases hP : (5 : Int32) < cn
  · obtain ⟨cq1, kq1, q1a, q1b, q1c⟩ := isOf hZ e0 Ex
    obtain ⟨_, _, ⟨T1, L1, k1, n1⟩, -, X1, ⟨Lc1, hQ1, l1, y1, z1⟩, st1⟩ := X0.virtualBack hx (y := (⟨"com/example/xylem/xylem/expr/Stacks", "isNewTraceLine", "()Z"⟩ : MethodName)) (z := (⟨"com/example/xylem/xylem/expr/Stacks", "isNewTraceLine", "()Z"⟩ : MethodName)) hown (mvT hZ (hw _ (List.mem_of_getElem? (i := 9) rfl))) (mvT hZ (hw _ (List.mem_of_getElem? (i := 10) rfl))) (notFace_of_selects (args := #[]) (mvT hZ (hw _ (List.mem_of_getElem? (i := 12) rfl)))) (mvT hZ (hw _ (List.mem_of_getElem? (i := 12) rfl))) (mvT hZ (hw _ (List.mem_of_getElem? (i := 11) rfl))) (by decide) (backOf (W := 0) (rm3 l Z a0 hw [] a z h0 n0 Z0 ga Ex Fm Fw ⟨hz.1, by omega⟩) hZ (hw _ (List.mem_of_getElem? (i := 13) rfl)) (hw _ (List.mem_of_getElem? (i := 2) rfl)) (by decide) (by decide)) q1a q1c (g := (mkF m 134 #[.val (.int i0), .val (.int cn), .val (.ref a), .val (.int (1 : Int32))] [(.ref a)])) rfl (by rw [hml]; rfl) (Steps.refl _) (argsL := []) (rest := []) (lenOf pd_3 rfl) rfl (by show 2 * 0 + _ ≤ _; exact Nat.le_of_eq rfl) (hb hby at_134) (fun _ _ => ⟨rfl, e0, (by decide : 1 + 0 ≤ _), (by decide : 5 + 0 ≤ _)⟩)
    dsimp only [Pt.U, Pt.locs, Pt.cells, Pt.slots] at X1 l1 y1 z1 st1 hQ1
    subst l1 y1 z1
    obtain ⟨rfl, N1q, Z1, Ex1, Fm1, Fw1⟩ := hQ1
    have N1 := Fr.app N0 N1q
    refine ⟨T1, _, z + (1 : Int64), X1, N1, Z1, Ex1, Fm1, Fw1, own_next hz (by decide), fun target kt => ?_⟩
    show Steps p.tables e below (T0.setTop (mkF m 124 #[.val (.int i0), .val (.int cn), .val (.ref a), .val (.int (1 : Int32))] [])) _
    refine XS.iloadN X0.here hx rfl (hb hby at_124) rfl ?_
    show Steps p.tables e below (T0.setTop (mkF m 125 #[.val (.int i0), .val (.int cn), .val (.ref a), .val (.int (1 : Int32))] [(.int cn)])) _
    refine XS.iconst X0.here hx rfl (hb hby at_125) ?_
    show Steps p.tables e below (T0.setTop (mkF m 126 #[.val (.int i0), .val (.int cn), .val (.ref a), .val (.int (1 : Int32))] [(.int (5 : Int32)), (.int cn)])) _
    refine XS.icmpNo X0.here hx rfl (hb hby at_126) rfl (tlt hP).2.2.2 ?_
    show Steps p.tables e below (T0.setTop (mkF m 129 #[.val (.int i0), .val (.int cn), .val (.ref a), .val (.int (1 : Int32))] [])) _
    refine XS.iloadN X0.here hx rfl (hb hby at_129) rfl ?_
    show Steps p.tables e below (T0.setTop (mkF m 130 #[.val (.int i0), .val (.int cn), .val (.ref a), .val (.int (1 : Int32))] [(.int (1 : Int32))])) _
    refine XS.ifNo X0.here hx rfl (hb hby at_130) rfl ((if0 _ _).trans (feq (by decide : ¬ ((1 : Int32) = (0 : Int32)))).1) ?_
    show Steps p.tables e below (T0.setTop (mkF m 133 #[.val (.int i0), .val (.int cn), .val (.ref a), .val (.int (1 : Int32))] [])) _
    refine XS.aloadN X0.here hx rfl (hb hby at_133) rfl rfl ?_
    refine st1.trans ?_
    show Steps p.tables e below (T1.setTop (mkF m 137 #[.val (.int i0), .val (.int cn), .val (.ref a), .val (.int (1 : Int32))] [(.int (1 : Int32))])) _
    refine XS.ifNo X1.here hx rfl (hb hby at_137) rfl ((if0 _ _).trans (feq (by decide : ¬ ((1 : Int32) = (0 : Int32)))).1) ?_
    show Steps p.tables e below (T1.setTop (mkF m 140 #[.val (.int i0), .val (.int cn), .val (.ref a), .val (.int (1 : Int32))] [])) _
    refine XS.iconst X1.here hx rfl (hb hby at_140) ?_
    show Steps p.tables e below (T1.setTop (mkF m 141 #[.val (.int i0), .val (.int cn), .val (.ref a), .val (.int (1 : Int32))] [(.int (1 : Int32))])) _
    refine XS.goto X1.here hx rfl (pc0 := 141) (pc' := 145) rfl (hb hby at_141) (by decide) (by decide) ?_
    show Steps p.tables e below (T1.setTop (mkF m 145 #[.val (.int i0), .val (.int cn), .val (.ref a), .val (.int (1 : Int32))] [(.int (1 : Int32))])) _
    refine XS.istoreN X1.here hx rfl (hb hby at_145) rfl (l' := #[.val (.int i0), .val (.int cn), .val (.ref a), .val (.int (1 : Int32))]) rfl ?_
    exact kt
  · refine ⟨T0, _, z, X0, N0, by rw [e0]; exact Z0, by rw [e0]; exact Ex, by rw [e0]; exact Fm, by rw [e0]; exact Fw, ⟨hz.1, by omega⟩, fun target kt => ?_⟩
    show Steps p.tables e below (T0.setTop (mkF m 124 #[.val (.int i0), .val (.int cn), .val (.ref a), .val (.int (1 : Int32))] [])) _
    refine XS.iloadN X0.here hx rfl (hb hby at_124) rfl ?_
    show Steps p.tables e below (T0.setTop (mkF m 125 #[.val (.int i0), .val (.int cn), .val (.ref a), .val (.int (1 : Int32))] [(.int cn)])) _
    refine XS.iconst X0.here hx rfl (hb hby at_125) ?_
    show Steps p.tables e below (T0.setTop (mkF m 126 #[.val (.int i0), .val (.int cn), .val (.ref a), .val (.int (1 : Int32))] [(.int (5 : Int32)), (.int cn)])) _
    refine XS.icmpYes X0.here hx rfl (pc0 := 126) (pc' := 146) rfl (hb hby at_126) rfl (flt hP).2.2.2 (by decide) (by decide) ?_
    exact kt
set_option maxRecDepth 65536 in
set_option maxHeartbeats 40000000 in
theorem bl_6 {p : Program} {l : Launch} {e : Env} {s : State} {m : MethodId} {args : Array Value} {below : List Frame} {meth : Method} {c : Code} {T0 : State} {locs : List Loc} {Z : State} {a0 : Array Value} {h0 : Heap} {n0 : Nat} (i0 cn : Int32) (a : Addr) (z : Int64) (X0 : Stand p l e room_1 s m args below meth c T0 locs 1 5) (hx : p.tables.exec = Jvm.exec) (hZ : Z.Warmed39 s.vm) (hw : ∀ d ∈ tables_1, d.before a0 Z = true) (hby : c.code = code) (hml : c.maxLocals = 4) (hown : s.vm.findClass "com/example/xylem/xylem/expr/StacksIsNewTraceLinePinLaw" = some m.cls) (e0 : T0.heap = h0) (N0 : Fr n0 locs) (Z0 : n0 ≤ h0.size) (ga : n0 ≤ a) (Ex : Exa Z h0 a "com/example/xylem/xylem/expr/Stacks") (Fm : Fld Z h0 a "com/example/xylem/xylem/expr/Stacks" "traceLinesMade" "J" (.long z)) (Fw : Fld Z h0 a "com/example/xylem/xylem/expr/Stacks" "traceLinesWritten" "J" (.long z)) (hz : 0 ≤ z.toInt ∧ z.toInt ≤ 6) :
    ∃ (T1 : State) (locs1 : List Loc) (z1 : Int64), Stand p l e room_1 s m args below meth c T1 locs1 1 5 ∧ Fr n0 locs1 ∧ n0 ≤ T1.heap.size ∧ Exa Z T1.heap a "com/example/xylem/xylem/expr/Stacks" ∧ Fld Z T1.heap a "com/example/xylem/xylem/expr/Stacks" "traceLinesMade" "J" (.long z1) ∧ Fld Z T1.heap a "com/example/xylem/xylem/expr/Stacks" "traceLinesWritten" "J" (.long z1) ∧ (0 ≤ z1.toInt ∧ z1.toInt ≤ 7) ∧
      ∀ target, Steps p.tables e below (T1.setTop (mkF m 169 #[.val (.int i0), .val (.int cn), .val (.ref a), .val (.int (1 : Int32))] [])) target → Steps p.tables e below (T0.setTop (mkF m 146 #[.val (.int i0), .val (.int cn), .val (.ref a), .val (.int (1 : Int32))] [])) target := by
  by_cases hP : (6 : Int32) < cn
  · obtain ⟨cq1, kq1, q1a, q1b, q1c⟩ := isOf hZ e0 Ex
    obtain ⟨_, _, ⟨T1, L1, k1, n1⟩, -, X1, ⟨Lc1, hQ1, l1, y1, z1⟩, st1⟩ := X0.virtualBack hx (y := (⟨"com/example/xylem/xylem/expr/Stacks", "isNewTraceLine", "()Z"⟩ : MethodName)) (z := (⟨"com/example/xylem/xylem/expr/Stacks", "isNewTraceLine", "()Z"⟩ : MethodName)) hown (mvT hZ (hw _ (List.mem_of_getElem? (i := 9) rfl))) (mvT hZ (hw _ (List.mem_of_getElem? (i := 10) rfl))) (notFace_of_selects (args := #[]) (mvT hZ (hw _ (List.mem_of_getElem? (i := 12) rfl)))) (mvT hZ (hw _ (List.mem_of_getElem? (i := 12) rfl))) (mvT hZ (hw _ (List.mem_of_getElem? (i := 11) rfl))) (by decide) (backOf (W := 0) (rm3 l Z a0 hw [] a z h0 n0 Z0 ga Ex Fm Fw ⟨hz.1, by omega⟩) hZ (hw _ (List.mem_of_getElem? (i := 13) rfl)) (hw _ (List.mem_of_getElem? (i := 2) rfl)) (by decide) (by decide)) q1a q1c (g := (mkF m 157 #[.val (.int i0), .val (.int cn), .val (.ref a), .val (.int (1 : Int32))] [(.ref a)])) rfl (by rw [hml]; rfl) (Steps.refl _) (argsL := []) (rest := []) (lenOf pd_3 rfl) rfl (by show 2 * 0 + _ ≤ _; exact Nat.le_of_eq rfl) (hb hby at_157) (fun _ _ => ⟨rfl, e0, (by decide : 1 + 0 ≤ _), (by decide : 5 + 0 ≤ _)⟩)
    dsimp only [Pt.U, Pt.locs, Pt.cells, Pt.slots] at X1 l1 y1 z1 st1 hQ1
    subst l1 y1 z1
    obtain ⟨rfl, N1q, Z1, Ex1, Fm1, Fw1⟩ := hQ1
    have N1 := Fr.app N0 N1q
    refine ⟨T1, _, z + (1 : Int64), X1, N1, Z1, Ex1, Fm1, Fw1, own_next hz (by decide), fun target kt => ?_⟩
    show Steps p.tables e below (T0.setTop (mkF m 146 #[.val (.int i0), .val (.int cn), .val (.ref a), .val (.int (1 : Int32))] [])) _
    refine XS.iloadN X0.here hx rfl (hb hby at_146) rfl ?_
    show Steps p.tables e below (T0.setTop (mkF m 147 #[.val (.int i0), .val (.int cn), .val (.ref a), .val (.int (1 : Int32))] [(.int cn)])) _
    refine XS.bipush X0.here hx rfl (hb hby at_147) ?_
    show Steps p.tables e below (T0.setTop (mkF m 149 #[.val (.int i0), .val (.int cn), .val (.ref a), .val (.int (1 : Int32))] [(.int (6 : Int32)), (.int cn)])) _
    refine XS.icmpNo X0.here hx rfl (hb hby at_149) rfl (tlt hP).2.2.2 ?_
    show Steps p.tables e below (T0.setTop (mkF m 152 #[.val (.int i0), .val (.int cn), .val (.ref a), .val (.int (1 : Int32))] [])) _
    refine XS.iloadN X0.here hx rfl (hb hby at_152) rfl ?_
    show Steps p.tables e below (T0.setTop (mkF m 153 #[.val (.int i0), .val (.int cn), .val (.ref a), .val (.int (1 : Int32))] [(.int (1 : Int32))])) _
    refine XS.ifNo X0.here hx rfl (hb hby at_153) rfl ((if0 _ _).trans (feq (by decide : ¬ ((1 : Int32) = (0 : Int32)))).1) ?_
    show Steps p.tables e below (T0.setTop (mkF m 156 #[.val (.int i0), .val (.int cn), .val (.ref a), .val (.int (1 : Int32))] [])) _
    refine XS.aloadN X0.here hx rfl (hb hby at_156) rfl rfl ?_
    refine st1.trans ?_
    show Steps p.tables e below (T1.setTop (mkF m 160 #[.val (.int i0), .val (.int cn), .val (.ref a), .val (.int (1 : Int32))] [(.int (1 : Int32))])) _
    refine XS.ifNo X1.here hx rfl (hb hby at_160) rfl ((if0 _ _).trans (feq (by decide : ¬ ((1 : Int32) = (0 : Int32)))).1) ?_
    show Steps p.tables e below (T1.setTop (mkF m 163 #[.val (.int i0), .val (.int cn), .val (.ref a), .val (.int (1 : Int32))] [])) _
    refine XS.iconst X1.here hx rfl (hb hby at_163) ?_
    show Steps p.tables e below (T1.setTop (mkF m 164 #[.val (.int i0), .val (.int cn), .val (.ref a), .val (.int (1 : Int32))] [(.int (1 : Int32))])) _
    refine XS.goto X1.here hx rfl (pc0 := 164) (pc' := 168) rfl (hb hby at_164) (by decide) (by decide) ?_
    show Steps p.tables e below (T1.setTop (mkF m 168 #[.val (.int i0), .val (.int cn), .val (.ref a), .val (.int (1 : Int32))] [(.int (1 : Int32))])) _
    refine XS.istoreN X1.here hx rfl (hb hby at_168) rfl (l' := #[.val (.int i0), .val (.int cn), .val (.ref a), .val (.int (1 : Int32))]) rfl ?_
    exact kt
  · refine ⟨T0, _, z, X0, N0, by rw [e0]; exact Z0, by rw [e0]; exact Ex, by rw [e0]; exact Fm, by rw [e0]; exact Fw, ⟨hz.1, by omega⟩, fun target kt => ?_⟩
    show Steps p.tables e below (T0.setTop (mkF m 146 #[.val (.int i0), .val (.int cn), .val (.ref a), .val (.int (1 : Int32))] [])) _
    refine XS.iloadN X0.here hx rfl (hb hby at_146) rfl ?_
    show Steps p.tables e below (T0.setTop (mkF m 147 #[.val (.int i0), .val (.int cn), .val (.ref a), .val (.int (1 : Int32))] [(.int cn)])) _
    refine XS.bipush X0.here hx rfl (hb hby at_147) ?_
    show Steps p.tables e below (T0.setTop (mkF m 149 #[.val (.int i0), .val (.int cn), .val (.ref a), .val (.int (1 : Int32))] [(.int (6 : Int32)), (.int cn)])) _
    refine XS.icmpYes X0.here hx rfl (pc0 := 149) (pc' := 169) rfl (hb hby at_149) rfl (flt hP).2.2.2 (by decide) (by decide) ?_
    exact kt
def Q0 (h0 : Heap) (n0 : Nat) (v : Option Value) (h : Heap) (L : List Loc) : Prop := v = some (.int 1) ∧ Fr n0 L
set_option maxRecDepth 65536 in
set_option maxHeartbeats 40000000 in
theorem rm0 (l : Launch) (Z : State) (a0 : Array Value) (hw : ∀ d ∈ tables_1, d.before a0 Z = true) (ws : List Jvm.Cond) (i0 : Int32) (h0 : Heap) (n0 : Nat) (Z0 : n0 ≤ h0.size)  :
    MetFree l x (head1 (Jvm.Cond.code x code maxLocals ret :: ws) room_1) (fun as_ U => as_ = #[(.int i0)] ∧ Z.Warmed39 U.vm ∧ U.heap = h0) (fun _ _ _ _ _ => True) (fun _ U o U' => ∃ v L, o = .returned v ∧ Q0 h0 n0 v U'.heap L ∧ FrameEnd U o U' L 1 5) := by
  refine MetFree.of_bodySF (plainFor_of_name pn_0) hisR ?_
  intro p e s m args below meth c s₁ Bd hml0 hP hK
  obtain ⟨rfl, hZ, hh⟩ := hP
  have hx := Bd.exec
  have hby := Bd.bytes
  have hml : c.maxLocals = 4 := hml0
  have hown : s.vm.findClass "com/example/xylem/xylem/expr/StacksIsNewTraceLinePinLaw" = some m.cls := findClass_of_methodNamed Bd.named
  have hnm := (name_of_methodNamed Bd.named Bd.method).1
  have X0 : Stand p l e room_1 s m #[(.int i0)] below meth c s₁ [] 0 0 := Stand.of_body Bd
  have e0 : s₁.heap = h0 := by rw [← hh, Bd.state]; rfl
  have N0 := Fr.nil n0
  have pre0 : ∀ t, Steps p.tables e below (s₁.setTop (mkF m 0 #[.val (.int i0), .unset, .unset, .unset] [])) t → Steps p.tables e below (s₁.setTop (entryFrame m #[(.int i0)] maxLocals)) t := fun t k => castTop (ef_0 m i0) k
  obtain ⟨T1, h1, X1, e1, E1, A1, D1, -, st1⟩ := newO X0 hx hZ hown (hw _ (List.mem_of_getElem? (i := 0) rfl)) (hw _ (List.mem_of_getElem? (i := 1) rfl)) (hw _ (List.mem_of_getElem? (i := 2) rfl)) e0 (g := (mkF m 5 #[.val (.int i0), .val (.int (i0 &&& (7 : Int32))), .unset, .unset] [])) rfl (hb hby at_5) (by decide) (by decide)
  obtain ⟨b1, g1⟩ : ∃ z, z = h0.size := ⟨_, rfl⟩
  rw [← g1] at A1 D1 st1
  have gb1 : n0 ≤ b1 := Nat.le_trans Z0 (Nat.le_of_eq g1.symm)
  have Z1 : n0 ≤ h1.size := Nat.le_trans Z0 E1.1
  have F1_b1_traceLinesMade : Fld Z h1 b1 "com/example/xylem/xylem/expr/Stacks" "traceLinesMade" "J" (.long (0 : Int64)) := D1 (Or.inl (hw _ (List.mem_of_getElem? (i := 15) rfl))) (ty := .long) (by decide)
  have F1_b1_traceLinesWritten : Fld Z h1 b1 "com/example/xylem/xylem/expr/Stacks" "traceLinesWritten" "J" (.long (0 : Int64)) := D1 (Or.inl (hw _ (List.mem_of_getElem? (i := 17) rfl))) (ty := .long) (by decide)
  obtain ⟨_, _, ⟨T2, L2, k2, n2⟩, -, X2, ⟨Lc2, hQ2, l2, y2, z2⟩, st2⟩ := X1.specialBack hx (y := (⟨"com/example/xylem/xylem/expr/Stacks", "<init>", "()V"⟩ : MethodName)) rfl hown (mvT hZ (hw _ (List.mem_of_getElem? (i := 3) rfl))) (mvT hZ (hw _ (List.mem_of_getElem? (i := 4) rfl))) (mvT hZ (hw _ (List.mem_of_getElem? (i := 5) rfl))) (by decide) (backOf (W := 1) (rm1 l Z a0 hw [] b1 h1 n0 Z1) hZ (hw _ (List.mem_of_getElem? (i := 5) rfl)) (hw _ (List.mem_of_getElem? (i := 2) rfl)) (by decide) (by decide)) (g := (mkF m 9 #[.val (.int i0), .val (.int (i0 &&& (7 : Int32))), .unset, .unset] [(.ref b1), (.ref b1)])) rfl (by rw [hml]; rfl) (Steps.refl _) (a := b1) (argsL := []) (rest := [(.ref b1)]) (lenOf pd_1 rfl) rfl (by show 2 * 0 + _ ≤ _; exact Nat.le_of_eq rfl) (hb hby at_9) (fun _ _ => ⟨rfl, e1, (by decide : 1 + 0 ≤ _), (by decide : 5 + 0 ≤ _)⟩)
  dsimp only [Pt.U, Pt.locs, Pt.cells, Pt.slots] at X2 l2 y2 z2 st2 hQ2
  subst l2 y2 z2
  obtain ⟨rfl, N2q, eh2⟩ := hQ2
  have N2 := Fr.app N0 N2q
  have Zc : n0 ≤ T2.heap.size := by rw [eh2]; exact Z1
  have traceLinesM_c : Fld Z T2.heap b1 "com/example/xylem/xylem/expr/Stacks" "traceLinesMade" "J" (.long (0 : Int64)) := by rw [eh2]; exact F1_b1_traceLinesMade
  have traceLinesW_c : Fld Z T2.heap b1 "com/example/xylem/xylem/expr/Stacks" "traceLinesWritten" "J" (.long (0 : Int64)) := by rw [eh2]; exact F1_b1_traceLinesWritten
  have Exc : Exa Z T2.heap b1 "com/example/xylem/xylem/expr/Stacks" := by rw [eh2]; exact A1
  obtain ⟨T3, lc3, z3, X3, N3, Z3, Ex3, Fm3, Fw3, hz3, st3⟩ := bl_0 i0 (i0 &&& (7 : Int32)) b1 (0 : Int64) X2 hx hZ hw hby hml hown rfl N2 Zc gb1 Exc traceLinesM_c traceLinesW_c (by decide)
  obtain ⟨T4, lc4, z4, X4, N4, Z4, Ex4, Fm4, Fw4, hz4, st4⟩ := bl_1 i0 (i0 &&& (7 : Int32)) b1 z3 X3 hx hZ hw hby hml hown rfl N3 Z3 gb1 Ex3 Fm3 Fw3 hz3
  obtain ⟨T5, lc5, z5, X5, N5, Z5, Ex5, Fm5, Fw5, hz5, st5⟩ := bl_2 i0 (i0 &&& (7 : Int32)) b1 z4 X4 hx hZ hw hby hml hown rfl N4 Z4 gb1 Ex4 Fm4 Fw4 hz4
  obtain ⟨T6, lc6, z6, X6, N6, Z6, Ex6, Fm6, Fw6, hz6, st6⟩ := bl_3 i0 (i0 &&& (7 : Int32)) b1 z5 X5 hx hZ hw hby hml hown rfl N5 Z5 gb1 Ex5 Fm5 Fw5 hz5
  obtain ⟨T7, lc7, z7, X7, N7, Z7, Ex7, Fm7, Fw7, hz7, st7⟩ := bl_4 i0 (i0 &&& (7 : Int32)) b1 z6 X6 hx hZ hw hby hml hown rfl N6 Z6 gb1 Ex6 Fm6 Fw6 hz6
  obtain ⟨T8, lc8, z8, X8, N8, Z8, Ex8, Fm8, Fw8, hz8, st8⟩ := bl_5 i0 (i0 &&& (7 : Int32)) b1 z7 X7 hx hZ hw hby hml hown rfl N7 Z7 gb1 Ex7 Fm7 Fw7 hz7
  obtain ⟨T9, lc9, z9, X9, N9, Z9, Ex9, Fm9, Fw9, hz9, st9⟩ := bl_6 i0 (i0 &&& (7 : Int32)) b1 z8 X8 hx hZ hw hby hml hown rfl N8 Z8 gb1 Ex8 Fm8 Fw8 hz8
  obtain ⟨fs, hr, hrun, hended, hW, hsame⟩ := X9.leave (v := some (.int (1 : Int32))) (fun h => by rw [Bd.returns] at h; cases h)
  refine ⟨_, _, pre0 _ ?_, hrun, hended, _, _, rfl, ?_, ⟨_, rfl⟩, hW, hsame.mono (by decide) (by decide)⟩
  · show Steps p.tables e below (s₁.setTop (mkF m 0 #[.val (.int i0), .unset, .unset, .unset] [])) _
    refine XS.iloadN X0.here hx rfl (hb hby at_0) rfl ?_
    show Steps p.tables e below (s₁.setTop (mkF m 1 #[.val (.int i0), .unset, .unset, .unset] [(.int i0)])) _
    refine XS.bipush X0.here hx rfl (hb hby at_1) ?_
    show Steps p.tables e below (s₁.setTop (mkF m 3 #[.val (.int i0), .unset, .unset, .unset] [(.int (7 : Int32)), (.int i0)])) _
    refine XS.iand X0.here hx rfl (hb hby at_3) rfl ?_
    show Steps p.tables e below (s₁.setTop (mkF m 4 #[.val (.int i0), .unset, .unset, .unset] [(.int (i0 &&& (7 : Int32)))])) _
    refine XS.istoreN X0.here hx rfl (hb hby at_4) rfl (l' := #[.val (.int i0), .val (.int (i0 &&& (7 : Int32))), .unset, .unset]) rfl ?_
    refine st1 _ ?_
    show Steps p.tables e below (T1.setTop (mkF m 8 #[.val (.int i0), .val (.int (i0 &&& (7 : Int32))), .unset, .unset] [(.ref b1)])) _
    refine XS.dup X1.here hx rfl (hb hby at_8) rfl rfl ?_
    refine st2.trans ?_
    show Steps p.tables e below (T2.setTop (mkF m 12 #[.val (.int i0), .val (.int (i0 &&& (7 : Int32))), .unset, .unset] [(.ref b1)])) _
    refine XS.astoreN X2.here hx rfl (hb hby at_12) rfl rfl (l' := #[.val (.int i0), .val (.int (i0 &&& (7 : Int32))), .val (.ref b1), .unset]) rfl ?_
    show Steps p.tables e below (T2.setTop (mkF m 13 #[.val (.int i0), .val (.int (i0 &&& (7 : Int32))), .val (.ref b1), .unset] [])) _
    refine XS.iconst X2.here hx rfl (hb hby at_13) ?_
    show Steps p.tables e below (T2.setTop (mkF m 14 #[.val (.int i0), .val (.int (i0 &&& (7 : Int32))), .val (.ref b1), .unset] [(.int (1 : Int32))])) _
    refine XS.istoreN X2.here hx rfl (hb hby at_14) rfl (l' := #[.val (.int i0), .val (.int (i0 &&& (7 : Int32))), .val (.ref b1), .val (.int (1 : Int32))]) rfl ?_
    show Steps p.tables e below (T2.setTop (mkF m 15 #[.val (.int i0), .val (.int (i0 &&& (7 : Int32))), .val (.ref b1), .val (.int (1 : Int32))] [])) _
    refine st3 _ ?_
    refine st4 _ ?_
    refine st5 _ ?_
    refine st6 _ ?_
    refine st7 _ ?_
    refine st8 _ ?_
    refine st9 _ ?_
    show Steps p.tables e below (T9.setTop (mkF m 169 #[.val (.int i0), .val (.int (i0 &&& (7 : Int32))), .val (.ref b1), .val (.int (1 : Int32))] [])) _
    refine XS.iloadN X9.here hx rfl (hb hby at_169) rfl ?_
    show Steps p.tables e below (T9.setTop (mkF m 170 #[.val (.int i0), .val (.int (i0 &&& (7 : Int32))), .val (.ref b1), .val (.int (1 : Int32))] [(.int (1 : Int32))])) _
    exact retN X9 hx (t := .boolean) Bd.returns (by simp) (hb hby at_170) hr
  · show Q0 h0 n0 _ T9.heap _
    exact ⟨rfl, N9⟩
set_option maxRecDepth 65536 in
set_option maxHeartbeats 40000000 in
theorem comes_1 {Post : Tables → Env → Array Value → State → Outcome → State → Prop} (hpost : ∀ tb e args s v u, (limb_1_1.after args s (.returned v) u = true ∧ limb_1_2.after args s (.returned v) u = true ∧ True) → FrameEnd s (.returned v) u (Jvm.fieldLocs frame_1_writes args s ++ Jvm.arrayLocs frame_1_arrays args s ++ Jvm.staticLocs frame_1_statics s) 16 128 → Post tb e args s (.returned v) u) :
    ArmFor flags0 classFile x code maxLocals ret World_1 tables_1 room_1 Calls_1 rest_1 Pre_1 Post := by
  intro l hfl _ _ p e ha hc hk s m args below hf hA hF happ hP
  obtain ⟨hcalls, hrest, hpre⟩ := hP
  obtain ⟨-, -, -, hnamed, -, -, -, hat⟩ := (Spec.applies_iff hf).mp happ
  obtain ⟨hg, hn⟩ := and_e (Cond.before_iff.mp (show (Jvm.Cond.and given_1 narrow_1).before args s = true from hpre))
  obtain ⟨hv0, hu0⟩ := and_e hg
  obtain ⟨w0, rfl⟩ : ∃ w0 : Value, args = #[w0] := by
    have hs : args.size = 1 := by simpa [Cond.value, given_1] using hv0
    obtain ⟨L⟩ := args
    match L, hs with
    | [w0], _ => exact ⟨w0, rfl⟩
  have hw := fun d (hd : d ∈ tables_1) => atoms_spec (ws := Jvm.Cond.code x code maxLocals ret :: tables_1) hat d (List.mem_cons_of_mem _ hd)
  obtain ⟨i0, ei0⟩ := is_v hu0
  obtain rfl : w0 = (.int i0) := Option.some.inj ei0
  obtain ⟨n, o, h1, h2, h3, _, L, rfl, ⟨rfl, N⟩, hq⟩ := rm0 l s _ hw tables_1 i0 s.heap s.heap.size (Nat.le_refl _)  p e ha hc hk s m _ below hf ((Spec.applies_iff_loose hf).mp happ).1 ⟨rfl, State.Warmed39.refl s, rfl⟩ trivial
  refine ⟨n, _, h1, h2, h3, hpost _ _ _ _ _ _ ⟨Cond.after_iff.mpr rfl, Cond.after_iff.mpr (eq_i res_at (Term.int_eval (1)) rfl), trivial⟩ ⟨hq.1, hq.2.1, (hq.2.2.sift fun y hy => Or.inr (N y hy)).mono (by decide) (by decide)⟩⟩
theorem main_1_1 : Claimed_1_1 := comes_1 fun _ _ _ _ _ _ h hF => ⟨h.1, hF⟩
theorem main_1_2 : Claimed_1_2 := comes_1 fun _ _ _ _ _ _ h hF => ⟨h.2.1, hF⟩
end Jvm.Pilot.@@N@@
namespace Jvm.Pilot.@@N@@
open Jvm Jvm.ClassFile Sem Op Lib Jvm.Free Jvm.Stand Jvm.Pilot.@@N@@.Jvm.D
/-! MADE BY PROGRAM (witnessworld.py) out of the Statement's table words and the real class files: 9 classes; the members and pool entries that the words name. The judged class is class 1, her method 1. -/
namespace start1
open Jvm.ClassFile
def u (s : String) : CpInfo := .utf8 (stringToUtf16 s)
/-- a pool by its gaps: so many unusable entries, then the entry; so many at the end -/
def gap : Nat → List CpInfo → List CpInfo
  | 0, r => r
  | n + 1, r => .unusable :: gap n r
def poolList (es : List (Nat × CpInfo)) (last : Nat) : List CpInfo := es.foldr (fun e r => gap e.1 (e.2 :: r)) (gap last [])
def pool (es : List (Nat × CpInfo)) (last : Nat) : Array CpInfo := ⟨poolList es last⟩
def fileOf (pool : Array CpInfo) (this : Nat) (attrs : Array Attribute := #[]) (ms : Array MethodInfo := #[]) (fl : Nat := 33) (sup : Nat := 0) (ifs : Array Nat := #[]) (fds : Array FieldInfo := #[]) : ClassFile where
  minorVersion := 0
  majorVersion := 65
  constantPool := pool
  accessFlags := fl
  thisClass := this
  superClass := sup
  interfaces := ifs
  fields := fds
  methods := ms
  attributes := attrs
def plain (name : String) (sup : Option ClassId) : Class where
  name := name
  kind := .ordinary
  loader := none
  accessFlags := 33
  super := sup
  interfaces := #[]
  cf := none
  fields := #[]
  methods := #[]
  instanceTypes := #[]
  staticTypes := #[]
  resolved := #[]
  callSites := []
  init := .initialized
  statics := none
  mirror := none

def pool0 : Array CpInfo := pool [(5, u "<init>"), (0, u "()V"), (1, .class_ 10), (1, u "java/lang/Object")] 113

def k0c0 : Code := { maxStack := 0, maxLocals := 1, code := object_method_1_code, exceptionTable := #[], attributes := #[] }
def k0m0 : Method := { name := "<init>", desc := "()V", sig := { parameters := [], returnType := none }, accessFlags := 1, code := some k0c0 }
/-- java/lang/Object -/
def k0 : Class := { plain "java/lang/Object" none with
  accessFlags := 33
  interfaces := #[]
  cf := some (fileOf pool0 8 #[] #[{ accessFlags := 1, nameIndex := 5, descriptorIndex := 6, attributes := #[] }] 33 0 #[] #[])
  fields := #[]
  methods := #[k0m0]
  instanceTypes := #[]
  staticTypes := #[]
  resolved := Array.replicate 124 none
  statics := none }

def pool1 : Array CpInfo := pool [(2, .class_ 4), (0, .nameAndType 5 6), (0, u "java/lang/Object"), (0, u "<init>"), (0, u "()V"), (0, .class_ 8), (0, u "com/example/xylem/xylem/expr/Stacks"), (0, .methodref 7 3), (0, .methodref 7 11), (0, .nameAndType 12 13), (0, u "isNewTraceLine"), (0, u "()Z"), (0, .class_ 15), (0, u "com/example/xylem/xylem/expr/StacksIsNewTraceLinePinLaw"), (2, u "law"), (0, u "(I)Z")] 3

def k1m0 : Method := { name := "<init>", desc := "()V", sig := { parameters := [], returnType := none }, accessFlags := 2, code := none }
def k1c1 : Code := { maxStack := 2, maxLocals := 4, code := code, exceptionTable := #[], attributes := #[] }
def k1m1 : Method := { name := "law", desc := "(I)Z", sig := { parameters := [.int], returnType := some .boolean }, accessFlags := 9, code := some k1c1 }
/-- com/example/xylem/xylem/expr/StacksIsNewTraceLinePinLaw -/
def k1 : Class := { plain "com/example/xylem/xylem/expr/StacksIsNewTraceLinePinLaw" (some 0) with
  accessFlags := 49
  interfaces := #[]
  cf := some (fileOf pool1 14 #[] #[{ accessFlags := 2, nameIndex := 5, descriptorIndex := 6, attributes := #[] }, { accessFlags := 9, nameIndex := 18, descriptorIndex := 19, attributes := #[] }] 49 2 #[] #[])
  fields := #[]
  methods := #[k1m0, k1m1]
  instanceTypes := #[]
  staticTypes := #[]
  resolved := Array.replicate 23 none
  statics := none }

def pool2 : Array CpInfo := pool [(1, .methodref 2 3), (0, .class_ 4), (0, .nameAndType 5 6), (0, u "java/lang/Object"), (0, u "<init>"), (0, u "()V"), (0, .class_ 8), (0, u "com/example/xylem/xylem/expr/Stacks$Result"), (3, .fieldref 13 14), (0, .class_ 15), (0, .nameAndType 16 17), (0, u "com/example/xylem/xylem/expr/Stacks"), (0, u "traceLinesMade"), (0, u "J"), (0, .fieldref 13 19), (0, .nameAndType 20 17), (0, u "traceLinesWritten"), (3, u "()Z"), (13, .class_ 39), (0, u "com/example/xylem/xylem/expr/Stacks$LevelResult"), (17, u "levelsHere"), (0, u "I"), (2, u "onDeepStack"), (0, u "Z"), (7, u "levels"), (23, u "CALLER_LEVELS"), (2, u "DEEP_LEVELS"), (1, u "MAX_LEVELS"), (5, u "isNewTraceLine")] 35

def k2c0 : Code := { maxStack := 1, maxLocals := 1, code := prog_123_method_1_code, exceptionTable := #[], attributes := #[] }
def k2m0 : Method := { name := "<init>", desc := "()V", sig := { parameters := [], returnType := none }, accessFlags := 0, code := some k2c0 }
def k2c1 : Code := { maxStack := 5, maxLocals := 2, code := prog_123_method_3_code, exceptionTable := #[], attributes := #[] }
def k2m1 : Method := { name := "isNewTraceLine", desc := "()Z", sig := { parameters := [], returnType := some .boolean }, accessFlags := 0, code := some k2c1 }
/-- com/example/xylem/xylem/expr/Stacks -/
def k2 : Class := { plain "com/example/xylem/xylem/expr/Stacks" (some 0) with
  accessFlags := 48
  interfaces := #[]
  cf := some (fileOf pool2 13 #[.nestMembers #[7, 38]] #[{ accessFlags := 0, nameIndex := 5, descriptorIndex := 6, attributes := #[] }, { accessFlags := 0, nameIndex := 105, descriptorIndex := 24, attributes := #[] }] 48 2 #[] #[{ accessFlags := 24, nameIndex := 94, descriptorIndex := 58, attributes := #[] }, { accessFlags := 24, nameIndex := 97, descriptorIndex := 58, attributes := #[] }, { accessFlags := 24, nameIndex := 99, descriptorIndex := 58, attributes := #[] }, { accessFlags := 2, nameIndex := 70, descriptorIndex := 58, attributes := #[] }, { accessFlags := 2, nameIndex := 57, descriptorIndex := 58, attributes := #[] }, { accessFlags := 2, nameIndex := 61, descriptorIndex := 62, attributes := #[] }, { accessFlags := 2, nameIndex := 20, descriptorIndex := 17, attributes := #[] }, { accessFlags := 2, nameIndex := 16, descriptorIndex := 17, attributes := #[] }])
  fields := #[{ name := "CALLER_LEVELS", type := .int, accessFlags := 24, slot := 0, constantValue := 0 }, { name := "DEEP_LEVELS", type := .int, accessFlags := 24, slot := 1, constantValue := 0 }, { name := "MAX_LEVELS", type := .int, accessFlags := 24, slot := 2, constantValue := 0 }, { name := "levels", type := .int, accessFlags := 2, slot := 0, constantValue := 0 }, { name := "levelsHere", type := .int, accessFlags := 2, slot := 1, constantValue := 0 }, { name := "onDeepStack", type := .boolean, accessFlags := 2, slot := 2, constantValue := 0 }, { name := "traceLinesWritten", type := .long, accessFlags := 2, slot := 3, constantValue := 0 }, { name := "traceLinesMade", type := .long, accessFlags := 2, slot := 4, constantValue := 0 }]
  methods := #[k2m0, k2m1]
  instanceTypes := #[.int, .int, .boolean, .long, .long]
  staticTypes := #[.int, .int, .int]
  resolved := Array.replicate 141 none
  statics := none }

def pool3 : Array CpInfo := pool [(1, u "java/lang/Cloneable"), (0, .class_ 1), (0, u "java/lang/Object"), (0, .class_ 3)] 3

/-- java/lang/Cloneable -/
def k3 : Class := { plain "java/lang/Cloneable" (some 0) with
  accessFlags := 1537
  interfaces := #[]
  cf := some (fileOf pool3 2 #[] #[] 1537 4 #[] #[])
  fields := #[]
  methods := #[]
  instanceTypes := #[]
  staticTypes := #[]
  resolved := Array.replicate 8 none
  statics := none }

def pool4 : Array CpInfo := pool [(1, u "java/io/Serializable"), (0, .class_ 1), (0, u "java/lang/Object"), (0, .class_ 3)] 3

/-- java/io/Serializable -/
def k4 : Class := { plain "java/io/Serializable" (some 0) with
  accessFlags := 1537
  interfaces := #[]
  cf := some (fileOf pool4 2 #[] #[] 1537 4 #[] #[])
  fields := #[]
  methods := #[]
  instanceTypes := #[]
  staticTypes := #[]
  resolved := Array.replicate 8 none
  statics := none }

/-- the primitive byte -/
def k5 : Class := { plain "byte" none with kind := .primitive 'B', accessFlags := 0x411 }
/-- [B -/
def k6 : Class := { plain "[B" (some 0) with kind := .array 5 .byte, interfaces := #[3, 4], accessFlags := 1041 }

/-- the primitive int -/
def k7 : Class := { plain "int" none with kind := .primitive 'I', accessFlags := 0x411 }
/-- [I -/
def k8 : Class := { plain "[I" (some 0) with kind := .array 7 .int, interfaces := #[3, 4], accessFlags := 1041 }

def heap : Heap := #[]
def classes : Array Class := #[k0, k1, k2, k3, k4, k5, k6, k7, k8]
def interned : List (Array UInt16 × Addr) := []
def slotsUsed : Nat := 0
def theMethod : MethodId := ⟨1, 1⟩
def args0 : Array Value := #[.int 5]
def aboutOver (below : List Frame) : State where
  vm := { classes := classes, interned := interned.toArray }
  heap := heap
  slotsUsed := slotsUsed
  threads := #[{ frames := .invoking theMethod args0 :: below }]
def below0 : List Frame := [.native { method := ⟨0, 0⟩, args := #[] }]
def about1 : State := aboutOver below0
def p0 : Program := .bare "" "" ""
def e0 : Env := launch0.env 0 0 0
theorem w_frames : about1.frames = Frame.invoking theMethod args0 :: below0 := rfl
set_option maxRecDepth 65536 in
theorem w_args : argsFit about1.vm theMethod args0 = true := by decide +kernel
set_option maxRecDepth 65536 in
theorem w_heap : heapFits about1 = true := by decide +kernel
set_option maxRecDepth 65536 in
theorem w_runnable : about1.curStatus? = some .runnable := by decide +kernel
set_option maxRecDepth 65536 in
theorem w_alone : about1.alone = true := by decide +kernel
set_option maxRecDepth 65536 in
theorem w_named : about1.methodNamed? x = some theMethod := by decide +kernel
set_option maxRecDepth 65536 in
theorem w_hears : about1.hears theMethod below0 = true := by decide +kernel
set_option maxRecDepth 65536 in
theorem w_ripe : about1.ripe theMethod args0 below0 = true := by decide +kernel
theorem w_running : about1.status = .running := rfl
set_option maxRecDepth 65536 in
theorem w_room : about1.hasRoom e0.platform room_1 = true :=
  launch0.hasRoom_least _ room_1 (by decide +kernel) (by decide +kernel) (by decide +kernel) (by decide +kernel) (by decide +kernel) (by decide +kernel)
theorem allAtoms_all (ts : List Jvm.Cond) (a : Array Jvm.Value) (st : Jvm.State) : (allAtoms ts).before a st = ts.all (fun c => c.before a st) := by
  induction ts with
  | nil => rfl
  | cons c t ih =>
    show (Jvm.Cond.and c (allAtoms t)).before a st = _
    rw [Jvm.Cond.before_and, ih, List.all_cons]
def words1 : List Jvm.Cond := Jvm.Cond.code x code maxLocals ret :: tables_1
/-- a 'code' word, met by the world's own term for the bytes: nothing is compared byte by byte -/
theorem code_word {y : MethodName} {bytes : ByteArray} {mx : Nat} {rt : Option FieldType} {a : Array Value} {s : State} {m : MethodId} {meth : Method} {c : Code} (h1 : s.methodNamed? y = some m) (h2 : s.vm.method? m = some meth) (h3 : meth.code = some c) (h4 : c.code = bytes)
    (h5 : (c.maxLocals == mx && c.exceptionTable.isEmpty && decide (c.maxStack ≤ mostOperands) && decide (meth.sig.returnType = rt) && !meth.locks && decide (parseMethodDescriptor y.desc = some meth.sig)) = true) : (Jvm.Cond.code y bytes mx rt).before a s = true := by
  simp only [Bool.and_eq_true, beq_iff_eq, Bool.not_eq_true', decide_eq_true_eq] at h5
  obtain ⟨⟨⟨⟨⟨g1, g2⟩, g3⟩, g4⟩, g5⟩, g6⟩ := h5
  simp [Cond.before, Cond.holds, Cond.value, h1, h2, h3, h4, g1, g2, g3, g4, g5, g6]
def isCode : Jvm.Cond → Bool
  | .code _ _ _ _ => true
  | _ => false
theorem all_split {L : List Jvm.Cond} {P : Jvm.Cond → Bool} (h1 : L.all (fun c => isCode c || P c) = true) (h2 : ∀ c ∈ L.filter isCode, P c = true) : L.all P = true := by
  refine List.all_eq_true.mpr fun c hc => ?_
  have h := List.all_eq_true.mp h1 c hc
  rcases Bool.eq_false_or_eq_true (isCode c) with hi | hi
  · exact h2 c (List.mem_filter.mpr ⟨hc, hi⟩)
  · simpa [hi] using h
set_option maxRecDepth 65536 in
theorem w_c0 : (Jvm.Cond.code x code maxLocals ret).before args0 about1 = true := code_word (m := ⟨1, 1⟩) (meth := k1m1) (c := k1c1) (by decide +kernel) rfl rfl rfl (by decide +kernel)
set_option maxRecDepth 65536 in
theorem w_c1 : (Jvm.Cond.code ({ cls := "com/example/xylem/xylem/expr/Stacks", name := "<init>", desc := "()V" } : Jvm.MethodName) prog_123_method_1_code (1 : Nat) (Option.none : Option Jvm.ClassFile.FieldType)).before args0 about1 = true := code_word (m := ⟨2, 0⟩) (meth := k2m0) (c := k2c0) (by decide +kernel) rfl rfl rfl (by decide +kernel)
set_option maxRecDepth 65536 in
theorem w_c2 : (Jvm.Cond.code ({ cls := "java/lang/Object", name := "<init>", desc := "()V" } : Jvm.MethodName) object_method_1_code (1 : Nat) (Option.none : Option Jvm.ClassFile.FieldType)).before args0 about1 = true := code_word (m := ⟨0, 0⟩) (meth := k0m0) (c := k0c0) (by decide +kernel) rfl rfl rfl (by decide +kernel)
set_option maxRecDepth 65536 in
theorem w_c3 : (Jvm.Cond.code ({ cls := "com/example/xylem/xylem/expr/Stacks", name := "isNewTraceLine", desc := "()Z" } : Jvm.MethodName) prog_123_method_3_code (2 : Nat) (Option.some Jvm.ClassFile.FieldType.boolean)).before args0 about1 = true := code_word (m := ⟨2, 1⟩) (meth := k2m1) (c := k2c1) (by decide +kernel) rfl rfl rfl (by decide +kernel)
def codes1 : List Jvm.Cond := [Jvm.Cond.code x code maxLocals ret, Jvm.Cond.code ({ cls := "com/example/xylem/xylem/expr/Stacks", name := "<init>", desc := "()V" } : Jvm.MethodName) prog_123_method_1_code (1 : Nat) (Option.none : Option Jvm.ClassFile.FieldType), Jvm.Cond.code ({ cls := "java/lang/Object", name := "<init>", desc := "()V" } : Jvm.MethodName) object_method_1_code (1 : Nat) (Option.none : Option Jvm.ClassFile.FieldType), Jvm.Cond.code ({ cls := "com/example/xylem/xylem/expr/Stacks", name := "isNewTraceLine", desc := "()Z" } : Jvm.MethodName) prog_123_method_3_code (2 : Nat) (Option.some Jvm.ClassFile.FieldType.boolean)]
set_option maxRecDepth 65536 in
theorem codes_eq : words1.filter isCode = codes1 := rfl
theorem w_codes : ∀ c ∈ words1.filter isCode, c.before args0 about1 = true := by
  rw [codes_eq]
  intro c hc
  simp only [codes1, List.mem_cons, List.not_mem_nil, or_false] at hc
  rcases hc with rfl | rfl | rfl | rfl
  · exact w_c0
  · exact w_c1
  · exact w_c2
  · exact w_c3
set_option maxRecDepth 65536 in
theorem w_t1 : words1.all (fun c => isCode c || c.before args0 about1) = true := by decide +kernel
theorem w_tables : (allAtoms (Jvm.Cond.code x code maxLocals ret :: tables_1)).before args0 about1 = true := by
  rw [allAtoms_all]
  show words1.all (fun c => c.before args0 about1) = true
  refine all_split ?_ w_codes
  rw [w_t1]
set_option maxRecDepth 65536 in
theorem w_case : (Jvm.Cond.and given_1 narrow_1).before args0 about1 = true := by decide +kernel
theorem w_applies : (headSpec (Jvm.Cond.code x code maxLocals ret :: tables_1) room_1).applies x e0.platform about1 = true :=
  (Spec.applies_iff w_frames).mpr ⟨w_running, w_runnable, w_alone, w_named, w_hears, w_ripe, w_room, w_tables⟩
theorem atStart : AtStart classFile x code maxLocals ret World_1 tables_1 room_1 Calls_1 rest_1 Pre_1 launch0 p0 e0 about1 theMethod args0 below0 :=
  ⟨lists_1, trivial, launch0.admits_env _ _ _, launch0.least_env, fairChoices_fair.cas, fairChoices_fair.clock, w_frames, w_args, w_heap, w_applies, trivial, trivial, w_case⟩
end start1
theorem witness_1 : WitnessClaimed_1 := ⟨start1.p0, start1.e0, start1.about1, start1.theMethod, start1.args0, start1.below0, start1.atStart⟩
end Jvm.Pilot.@@N@@
