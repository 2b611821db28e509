import JvmDerived
import JvmDerived.Pilot.@@N@@Statement
import JvmDerived.Pilot.@@N@@Code
set_option linter.unusedVariables false
set_option linter.unusedSimpArgs false
namespace Jvm.RoadKit
open Sem ClassFile Op Lib Jvm.Stand Jvm.Free Jvm.LawKit
section New
variable {p : Program} {l : Launch} {e : Env} {R : Room} {s : State} {m : MethodId} {args : Array Value} {below : List Frame} {meth : Method} {c : Code} {T : State} {locs : List Loc} {cells slots : Nat}
theorem retI (X : Stand p l e R s m args below meth c T locs cells slots) (hx : p.tables.exec = Jvm.exec) {pc : Nat} {Ls : Array Slot} {z : Int32} {rest : List Value} (hret : meth.sig.returnType = some .int) (hd : decode c.code pc = .ok (.ireturn, 1)) {fs : List Frame}
    (hl : ∀ (f : JFrame) (acts : List Action), f.method = m → f.locked = none → f.entered = [] → (doReturn e (T.setTop f) acts (some (.int z))).1 = T.setFrames fs) : Steps p.tables e below (T.setTop (mkF m pc Ls (.int z :: rest))) (T.setFrames fs) := by
  have hm' : T.vm.method? m = some meth := X.method'
  have hn : narrow .int (.int z) = .int z := rfl
  show Steps p.tables e below (T.setTop { method := m, pc := pc, locals := Ls, stack := _ :: rest, locked := none }) _
  jvm_step X.here [X.here.top, hx, hd, hm', hret, hn]
  first | (intro acts; rw [hl _ acts rfl rfl rfl]) | rw [hl _ _ rfl rfl rfl]
  exact Steps.refl _
end New
end Jvm.RoadKit
namespace Jvm.Pilot.@@N@@
open Jvm Jvm.ClassFile Sem Op Lib Jvm.Free Jvm.Stand Jvm.LawKit Jvm.RoadKit Bundle Jvm.Pilot.@@N@@.Jvm.D
theorem own_lt_t {x y : Int64} (h : x < y) : ifCond.holds .lt (lcmpW x y) = true ∧ ifCond.holds .ge (lcmpW x y) = false := by
  rw [if0, if0]; exact ⟨(tlt ((lw_lt x y).mpr h)).1, (tlt ((lw_lt x y).mpr h)).2.1⟩
theorem own_lt_f {x y : Int64} (h : ¬ x < y) : ifCond.holds .lt (lcmpW x y) = false ∧ ifCond.holds .ge (lcmpW x y) = true := by
  have h2 : ¬ lcmpW x y < 0 := fun q => h ((lw_lt x y).mp q)
  rw [if0, if0]; exact ⟨(flt h2).1, (flt h2).2.1⟩
theorem own_gt_t {x y : Int64} (h : y < x) : ifCond.holds .gt (lcmpW x y) = true ∧ ifCond.holds .le (lcmpW x y) = false := by
  have h2 : 0 < lcmpW x y := (lw_gt x y).mpr h
  rw [if0, if0]; exact ⟨(tlt h2).2.2.1, (tlt h2).2.2.2⟩
theorem own_gt_f {x y : Int64} (h : ¬ y < x) : ifCond.holds .gt (lcmpW x y) = false ∧ ifCond.holds .le (lcmpW x y) = true := by
  have h2 : ¬ 0 < lcmpW x y := fun q => h ((lw_gt x y).mp q)
  rw [if0, if0]; exact ⟨(flt h2).2.2.1, (flt h2).2.2.2⟩
theorem own_eq_t {x y : Int64} (h : x = y) : ifCond.holds .eq (lcmpW x y) = true ∧ ifCond.holds .ne (lcmpW x y) = false := by
  have h2 : lcmpW x y = 0 := (lw_eq x y).mpr h
  rw [if0, if0]; exact ⟨(teq h2).1, (teq h2).2⟩
theorem own_eq_f {x y : Int64} (h : ¬ x = y) : ifCond.holds .eq (lcmpW x y) = false ∧ ifCond.holds .ne (lcmpW x y) = true := by
  have h2 : ¬ lcmpW x y = 0 := fun q => h ((lw_eq x y).mp q)
  rw [if0, if0]; exact ⟨(feq h2).1, (feq h2).2⟩
def own_ia (Z : State) (h : Heap) (a : Addr) (N : Int32) : Prop := ∃ cl : Cell, Arr Z h a cl .int ∧ cl.slots.size = N.toNatClampNeg ∧ ∀ j, j < cl.slots.size → ∃ w : Int32, cl.slots[j]? = some (.int w)
theorem own_ia_new {Z : State} {h : Heap} {a : Addr} {k : ClassId} {N : Int32} (A : Arr Z h a (newA k .int N) .int) : own_ia Z h a N := by
  have hs : (newA k .int N).slots.size = N.toNatClampNeg := Array.size_replicate
  refine ⟨_, A, hs, fun j hj => ⟨0, ?_⟩⟩
  rw [hs] at hj
  show (Array.replicate N.toNatClampNeg (defaultValue .int))[j]? = some (.int 0)
  rw [Array.getElem?_replicate, if_pos hj]; rfl
theorem own_ia_wr {Z : State} {h h' : Heap} {a : Addr} {N x : Int32} {j : Nat} (W : Wr h h' a j (.int x)) (I : own_ia Z h a N) : own_ia Z h' a N := by
  obtain ⟨cl, A, S, H⟩ := I
  refine ⟨cl.setSlot j (.int x), A.same W, by rw [sz_set]; exact S, fun i hi => ?_⟩
  rw [sz_set] at hi
  show ∃ w : Int32, (cl.slots.setIfInBounds j (.int x))[i]? = some (.int w)
  rw [Array.getElem?_setIfInBounds]
  by_cases q : j = i
  · rw [if_pos q, if_pos (by omega)]; exact ⟨x, rfl⟩
  · rw [if_neg q]; exact H i hi
theorem own_fill {p : Program} {l : Launch} {e : Env} {R : Room} {s : State} {m : MethodId} {args : Array Value} {below : List Frame} {meth : Method} {c : Code} {T : State} {locs : List Loc} {cells slots : Nat} {Z : State} {h : Heap} (X : Stand p l e R s m args below meth c T locs cells slots) (hx : p.tables.exec = Jvm.exec) (hZ : Z.Warmed39 s.vm) (eT : T.heap = h) {a : Addr} {N : Int32} (I : own_ia Z h a N) {n0 : Nat} (Nf : Fr n0 locs) (ga : n0 ≤ a) (Zs : n0 ≤ h.size) (j x : Int32) (hj : ¬ j < 0 ∧ j < N) {g : JFrame} (hg : g.method = m) {rest : List Value} (hs : g.stack = .int x :: .int j :: .ref a :: rest) (hd : decode c.code g.pc = .ok (.iastore, 1)) :
    ∃ (T' : State) (h' : Heap) (locs' : List Loc), Stand p l e R s m args below meth c T' locs' cells slots ∧ T'.heap = h' ∧ own_ia Z h' a N ∧ Fr n0 locs' ∧ n0 ≤ h'.size ∧ ∀ target, Steps p.tables e below (T'.setTop { g with pc := g.pc + 1, stack := rest }) target → Steps p.tables e below (T.setTop g) target := by
  have I' := I
  obtain ⟨cl, A, S, H⟩ := I
  obtain ⟨T', h', X', e', W, st⟩ := stI X hx hZ eT A (inb_of S hj) hg hs hd
  exact ⟨T', h', _, X', e', own_ia_wr W I', Fr.snoc X' Nf ga, by rw [W.size]; exact Zs, st⟩
theorem own_lt_iff {a b : Int32} {A B : Int} (ha : a.toInt = A) (hb : b.toInt = B) : a < b ↔ A < B := by rw [Int32.lt_iff_toInt_lt, ha, hb]
theorem own_eq_iff {a b : Int32} {A B : Int} (ha : a.toInt = A) (hb : b.toInt = B) : a = b ↔ A = B := by rw [← Int32.toInt_inj, ha, hb]
theorem own_k9 : (9 : Int32).toInt = 9 := by decide
theorem own_k10 : (10 : Int32).toInt = 10 := by decide
theorem own_k13 : (13 : Int32).toInt = 13 := by decide
theorem own_k32 : (32 : Int32).toInt = 32 := by decide
theorem own_k57344 : (57344 : Int32).toInt = 57344 := by decide
theorem own_k65536 : (65536 : Int32).toInt = 65536 := by decide
theorem own_k1114111 : (1114111 : Int32).toInt = 1114111 := by decide
theorem own_k65533 : (65533 : Int32).toInt = 65533 := by decide
theorem own_k55295 : (55295 : Int32).toInt = 55295 := by decide
theorem own_k0 : (0 : Int32).toInt = 0 := by decide
theorem own_k55296 : (55296 : Int32).toInt = 55296 := by decide
theorem own_k65534 : (65534 : Int32).toInt = 65534 := by decide
theorem own_k65535 : (65535 : Int32).toInt = 65535 := by decide
theorem own_k57343 : (57343 : Int32).toInt = 57343 := by decide
theorem d1_0 : decode prog_304_method_12_code 0 = .ok (.iload_n 0, 1) := by decide +kernel
theorem d1_1 : decode prog_304_method_12_code 1 = .ok (.bipush 9, 2) := by decide +kernel
theorem d1_3 : decode prog_304_method_12_code 3 = .ok (.if_icmp .eq 51, 3) := by decide +kernel
theorem d1_6 : decode prog_304_method_12_code 6 = .ok (.iload_n 0, 1) := by decide +kernel
theorem d1_7 : decode prog_304_method_12_code 7 = .ok (.bipush 10, 2) := by decide +kernel
theorem d1_9 : decode prog_304_method_12_code 9 = .ok (.if_icmp .eq 45, 3) := by decide +kernel
theorem d1_12 : decode prog_304_method_12_code 12 = .ok (.iload_n 0, 1) := by decide +kernel
theorem d1_13 : decode prog_304_method_12_code 13 = .ok (.bipush 13, 2) := by decide +kernel
theorem d1_15 : decode prog_304_method_12_code 15 = .ok (.if_icmp .eq 39, 3) := by decide +kernel
theorem d1_18 : decode prog_304_method_12_code 18 = .ok (.iload_n 0, 1) := by decide +kernel
theorem d1_19 : decode prog_304_method_12_code 19 = .ok (.bipush 32, 2) := by decide +kernel
theorem d1_21 : decode prog_304_method_12_code 21 = .ok (.if_icmp .lt 9, 3) := by decide +kernel
theorem d1_24 : decode prog_304_method_12_code 24 = .ok (.iload_n 0, 1) := by decide +kernel
theorem d1_25 : decode prog_304_method_12_code 25 = .ok (.ldc 95, 2) := by decide +kernel
theorem d1_27 : decode prog_304_method_12_code 27 = .ok (.if_icmp .le 27, 3) := by decide +kernel
theorem d1_30 : decode prog_304_method_12_code 30 = .ok (.iload_n 0, 1) := by decide +kernel
theorem d1_31 : decode prog_304_method_12_code 31 = .ok (.ldc 96, 2) := by decide +kernel
theorem d1_33 : decode prog_304_method_12_code 33 = .ok (.if_icmp .lt 9, 3) := by decide +kernel
theorem d1_36 : decode prog_304_method_12_code 36 = .ok (.iload_n 0, 1) := by decide +kernel
theorem d1_37 : decode prog_304_method_12_code 37 = .ok (.ldc 97, 2) := by decide +kernel
theorem d1_39 : decode prog_304_method_12_code 39 = .ok (.if_icmp .le 15, 3) := by decide +kernel
theorem d1_42 : decode prog_304_method_12_code 42 = .ok (.iload_n 0, 1) := by decide +kernel
theorem d1_43 : decode prog_304_method_12_code 43 = .ok (.ldc 98, 2) := by decide +kernel
theorem d1_45 : decode prog_304_method_12_code 45 = .ok (.if_icmp .lt 13, 3) := by decide +kernel
theorem d1_48 : decode prog_304_method_12_code 48 = .ok (.iload_n 0, 1) := by decide +kernel
theorem d1_49 : decode prog_304_method_12_code 49 = .ok (.ldc 99, 2) := by decide +kernel
theorem d1_51 : decode prog_304_method_12_code 51 = .ok (.if_icmp .gt 7, 3) := by decide +kernel
theorem d1_54 : decode prog_304_method_12_code 54 = .ok (.iconst 1, 1) := by decide +kernel
theorem d1_55 : decode prog_304_method_12_code 55 = .ok (.goto 4, 3) := by decide +kernel
theorem d1_58 : decode prog_304_method_12_code 58 = .ok (.iconst 0, 1) := by decide +kernel
theorem d1_59 : decode prog_304_method_12_code 59 = .ok (.ireturn, 1) := by decide +kernel
theorem pn_1 : plainName "com/example/xylem/xylem/model/QName" = true := by first | (simp [plainName, overriddenIn]; done) | decide +kernel
theorem pd_1 : parseMethodDescriptor "(I)Z" = some ⟨[.int], some .boolean⟩ := by decide +kernel
theorem ef_1 (m : MethodId) (x0 : Int32) : entryFrame m #[(.int x0)] 1 = mkF m 0 #[.val (.int x0)] [] := by first | (simp [entryFrame, mkF, argsToLocals, Value.category, maxLocals]; done) | rfl
theorem d2_0 : decode method_2_code 0 = .ok (.iload_n 0, 1) := by decide +kernel
theorem d2_1 : decode method_2_code 1 = .ok (.ifCond .lt 9, 3) := by decide +kernel
theorem d2_4 : decode method_2_code 4 = .ok (.iload_n 0, 1) := by decide +kernel
theorem d2_5 : decode method_2_code 5 = .ok (.ldc 7, 2) := by decide +kernel
theorem d2_7 : decode method_2_code 7 = .ok (.if_icmp .le 5, 3) := by decide +kernel
theorem d2_10 : decode method_2_code 10 = .ok (.iconst 0, 1) := by decide +kernel
theorem d2_11 : decode method_2_code 11 = .ok (.ireturn, 1) := by decide +kernel
theorem d2_12 : decode method_2_code 12 = .ok (.iload_n 0, 1) := by decide +kernel
theorem d2_13 : decode method_2_code 13 = .ok (.bipush 32, 2) := by decide +kernel
theorem d2_15 : decode method_2_code 15 = .ok (.if_icmp .ge 27, 3) := by decide +kernel
theorem d2_18 : decode method_2_code 18 = .ok (.iload_n 0, 1) := by decide +kernel
theorem d2_19 : decode method_2_code 19 = .ok (.bipush 9, 2) := by decide +kernel
theorem d2_21 : decode method_2_code 21 = .ok (.if_icmp .eq 15, 3) := by decide +kernel
theorem d2_24 : decode method_2_code 24 = .ok (.iload_n 0, 1) := by decide +kernel
theorem d2_25 : decode method_2_code 25 = .ok (.bipush 10, 2) := by decide +kernel
theorem d2_27 : decode method_2_code 27 = .ok (.if_icmp .eq 9, 3) := by decide +kernel
theorem d2_30 : decode method_2_code 30 = .ok (.iload_n 0, 1) := by decide +kernel
theorem d2_31 : decode method_2_code 31 = .ok (.bipush 13, 2) := by decide +kernel
theorem d2_33 : decode method_2_code 33 = .ok (.if_icmp .ne 7, 3) := by decide +kernel
theorem d2_36 : decode method_2_code 36 = .ok (.iconst 1, 1) := by decide +kernel
theorem d2_37 : decode method_2_code 37 = .ok (.goto 4, 3) := by decide +kernel
theorem d2_40 : decode method_2_code 40 = .ok (.iconst 0, 1) := by decide +kernel
theorem d2_41 : decode method_2_code 41 = .ok (.ireturn, 1) := by decide +kernel
theorem d2_42 : decode method_2_code 42 = .ok (.iload_n 0, 1) := by decide +kernel
theorem d2_43 : decode method_2_code 43 = .ok (.ldc 8, 2) := by decide +kernel
theorem d2_45 : decode method_2_code 45 = .ok (.if_icmp .lt 11, 3) := by decide +kernel
theorem d2_48 : decode method_2_code 48 = .ok (.iload_n 0, 1) := by decide +kernel
theorem d2_49 : decode method_2_code 49 = .ok (.ldc 9, 2) := by decide +kernel
theorem d2_51 : decode method_2_code 51 = .ok (.if_icmp .gt 5, 3) := by decide +kernel
theorem d2_54 : decode method_2_code 54 = .ok (.iconst 0, 1) := by decide +kernel
theorem d2_55 : decode method_2_code 55 = .ok (.ireturn, 1) := by decide +kernel
theorem d2_56 : decode method_2_code 56 = .ok (.iload_n 0, 1) := by decide +kernel
theorem d2_57 : decode method_2_code 57 = .ok (.ldc 10, 2) := by decide +kernel
theorem d2_59 : decode method_2_code 59 = .ok (.if_icmp .eq 9, 3) := by decide +kernel
theorem d2_62 : decode method_2_code 62 = .ok (.iload_n 0, 1) := by decide +kernel
theorem d2_63 : decode method_2_code 63 = .ok (.ldc 11, 2) := by decide +kernel
theorem d2_65 : decode method_2_code 65 = .ok (.if_icmp .ne 5, 3) := by decide +kernel
theorem d2_68 : decode method_2_code 68 = .ok (.iconst 0, 1) := by decide +kernel
theorem d2_69 : decode method_2_code 69 = .ok (.ireturn, 1) := by decide +kernel
theorem d2_70 : decode method_2_code 70 = .ok (.iconst 1, 1) := by decide +kernel
theorem d2_71 : decode method_2_code 71 = .ok (.ireturn, 1) := by decide +kernel
theorem pn_2 : plainName "com/example/xylem/xylem/model/QNameIsXmlCharPinLaw" = true := by first | (simp [plainName, overriddenIn]; done) | decide +kernel
theorem pd_2 : parseMethodDescriptor "(I)Z" = some ⟨[.int], some .boolean⟩ := by decide +kernel
theorem ef_2 (m : MethodId) (x0 : Int32) : entryFrame m #[(.int x0)] 1 = mkF m 0 #[.val (.int x0)] [] := by first | (simp [entryFrame, mkF, argsToLocals, Value.category, maxLocals]; done) | rfl
theorem pn_0 : plainName "com/example/xylem/xylem/model/QNameIsXmlCharPinLaw" = true := by first | (simp [plainName, overriddenIn]; done) | decide +kernel
theorem pd_0 : parseMethodDescriptor "(III)Z" = some ⟨[.int, .int, .int], some .boolean⟩ := by decide +kernel
theorem ef_0 (m : MethodId) (x0 : Int32) (x1 : Int32) (x2 : Int32) : entryFrame m #[(.int x0), (.int x1), (.int x2)] maxLocals = mkF m 0 #[.val (.int x0), .val (.int x1), .val (.int x2), .unset, .unset] [] := by first | (simp [entryFrame, mkF, argsToLocals, Value.category, maxLocals]; done) | rfl
def own_xml (x : Int32) : Int32 := if (x.toInt = 9 ∨ x.toInt = 10 ∨ x.toInt = 13 ∨ (32 ≤ x.toInt ∧ x.toInt ≤ 55295) ∨ (57344 ≤ x.toInt ∧ x.toInt ≤ 65533) ∨ (65536 ≤ x.toInt ∧ x.toInt ≤ 1114111)) then (1 : Int32) else (0 : Int32)
set_option maxRecDepth 65536 in
set_option maxHeartbeats 40000000 in
theorem wk1 {p : Program} {l : Launch} {e : Env} {R : Room} {s : State} {m : MethodId} {args : Array Value} {below : List Frame} {meth : Method} {c : Code} {T : State} {locs : List Loc} {cells slots : Nat} {Z : State} {a0 : Array Value} (X : Stand p l e R s m args below meth c T locs cells slots) (hx : p.tables.exec = Jvm.exec) (hZ : Z.Warmed39 s.vm) (hw : ∀ d ∈ tables_1, d.before a0 Z = true) (hby : c.code = prog_304_method_12_code) (hown : s.vm.findClass "com/example/xylem/xylem/model/QName" = some m.cls) (hret : meth.sig.returnType = some .boolean) {fs : List Frame} (x0 : Int32) (hr : ∀ (f : JFrame) (acts : List Action), f.method = m → f.locked = none → f.entered = [] → (doReturn e (T.setTop f) acts (some (.int (own_xml x0)))).1 = T.setFrames fs) : Steps p.tables e below (T.setTop (mkF m 0 #[.val (.int x0)] [])) (T.setFrames fs) := by
  show Steps p.tables e below (T.setTop (mkF m 0 #[.val (.int x0)] [])) _
  refine XS.iloadN X.here hx rfl (hb hby d1_0) rfl ?_
  show Steps p.tables e below (T.setTop (mkF m 1 #[.val (.int x0)] [(.int x0)])) _
  refine XS.bipush X.here hx rfl (hb hby d1_1) ?_
  show Steps p.tables e below (T.setTop (mkF m 3 #[.val (.int x0)] [(.int (9 : Int32)), (.int x0)])) _
  by_cases hc3 : x0 = (9 : Int32)
  · refine XS.icmpYes X.here hx rfl (pc0 := 3) (pc' := 54) rfl (hb hby d1_3) rfl (teq hc3).1 (by decide) (by decide) ?_
    show Steps p.tables e below (T.setTop (mkF m 54 #[.val (.int x0)] [])) _
    refine XS.iconst X.here hx rfl (hb hby d1_54) ?_
    show Steps p.tables e below (T.setTop (mkF m 55 #[.val (.int x0)] [(.int (1 : Int32))])) _
    refine XS.goto X.here hx rfl (pc0 := 55) (pc' := 59) rfl (hb hby d1_55) (by decide) (by decide) ?_
    show Steps p.tables e below (T.setTop (mkF m 59 #[.val (.int x0)] [(.int (1 : Int32))])) _
    have q_hc3 := (own_eq_iff rfl own_k9).mp hc3
    have hv : own_xml x0 = (1 : Int32) := by unfold own_xml; exact if_pos (by omega)
    rw [hv] at hr
    exact retN X hx (t := .boolean) hret (by simp) (hb hby d1_59) hr
  · refine XS.icmpNo X.here hx rfl (hb hby d1_3) rfl (feq hc3).1 ?_
    show Steps p.tables e below (T.setTop (mkF m 6 #[.val (.int x0)] [])) _
    refine XS.iloadN X.here hx rfl (hb hby d1_6) rfl ?_
    show Steps p.tables e below (T.setTop (mkF m 7 #[.val (.int x0)] [(.int x0)])) _
    refine XS.bipush X.here hx rfl (hb hby d1_7) ?_
    show Steps p.tables e below (T.setTop (mkF m 9 #[.val (.int x0)] [(.int (10 : Int32)), (.int x0)])) _
    by_cases hc9 : x0 = (10 : Int32)
    · refine XS.icmpYes X.here hx rfl (pc0 := 9) (pc' := 54) rfl (hb hby d1_9) rfl (teq hc9).1 (by decide) (by decide) ?_
      show Steps p.tables e below (T.setTop (mkF m 54 #[.val (.int x0)] [])) _
      refine XS.iconst X.here hx rfl (hb hby d1_54) ?_
      show Steps p.tables e below (T.setTop (mkF m 55 #[.val (.int x0)] [(.int (1 : Int32))])) _
      refine XS.goto X.here hx rfl (pc0 := 55) (pc' := 59) rfl (hb hby d1_55) (by decide) (by decide) ?_
      show Steps p.tables e below (T.setTop (mkF m 59 #[.val (.int x0)] [(.int (1 : Int32))])) _
      have q_hc3 := mt (own_eq_iff rfl own_k9).mpr hc3
      have q_hc9 := (own_eq_iff rfl own_k10).mp hc9
      have hv : own_xml x0 = (1 : Int32) := by unfold own_xml; exact if_pos (by omega)
      rw [hv] at hr
      exact retN X hx (t := .boolean) hret (by simp) (hb hby d1_59) hr
    · refine XS.icmpNo X.here hx rfl (hb hby d1_9) rfl (feq hc9).1 ?_
      show Steps p.tables e below (T.setTop (mkF m 12 #[.val (.int x0)] [])) _
      refine XS.iloadN X.here hx rfl (hb hby d1_12) rfl ?_
      show Steps p.tables e below (T.setTop (mkF m 13 #[.val (.int x0)] [(.int x0)])) _
      refine XS.bipush X.here hx rfl (hb hby d1_13) ?_
      show Steps p.tables e below (T.setTop (mkF m 15 #[.val (.int x0)] [(.int (13 : Int32)), (.int x0)])) _
      by_cases hc15 : x0 = (13 : Int32)
      · refine XS.icmpYes X.here hx rfl (pc0 := 15) (pc' := 54) rfl (hb hby d1_15) rfl (teq hc15).1 (by decide) (by decide) ?_
        show Steps p.tables e below (T.setTop (mkF m 54 #[.val (.int x0)] [])) _
        refine XS.iconst X.here hx rfl (hb hby d1_54) ?_
        show Steps p.tables e below (T.setTop (mkF m 55 #[.val (.int x0)] [(.int (1 : Int32))])) _
        refine XS.goto X.here hx rfl (pc0 := 55) (pc' := 59) rfl (hb hby d1_55) (by decide) (by decide) ?_
        show Steps p.tables e below (T.setTop (mkF m 59 #[.val (.int x0)] [(.int (1 : Int32))])) _
        have q_hc3 := mt (own_eq_iff rfl own_k9).mpr hc3
        have q_hc9 := mt (own_eq_iff rfl own_k10).mpr hc9
        have q_hc15 := (own_eq_iff rfl own_k13).mp hc15
        have hv : own_xml x0 = (1 : Int32) := by unfold own_xml; exact if_pos (by omega)
        rw [hv] at hr
        exact retN X hx (t := .boolean) hret (by simp) (hb hby d1_59) hr
      · refine XS.icmpNo X.here hx rfl (hb hby d1_15) rfl (feq hc15).1 ?_
        show Steps p.tables e below (T.setTop (mkF m 18 #[.val (.int x0)] [])) _
        refine XS.iloadN X.here hx rfl (hb hby d1_18) rfl ?_
        show Steps p.tables e below (T.setTop (mkF m 19 #[.val (.int x0)] [(.int x0)])) _
        refine XS.bipush X.here hx rfl (hb hby d1_19) ?_
        show Steps p.tables e below (T.setTop (mkF m 21 #[.val (.int x0)] [(.int (32 : Int32)), (.int x0)])) _
        by_cases hc21 : x0 < (32 : Int32)
        · refine XS.icmpYes X.here hx rfl (pc0 := 21) (pc' := 30) rfl (hb hby d1_21) rfl (tlt hc21).1 (by decide) (by decide) ?_
          show Steps p.tables e below (T.setTop (mkF m 30 #[.val (.int x0)] [])) _
          refine XS.iloadN X.here hx rfl (hb hby d1_30) rfl ?_
          show Steps p.tables e below (T.setTop (mkF m 31 #[.val (.int x0)] [(.int x0)])) _
          refine X.ldcInt hx hown (mvT hZ (hw _ (List.mem_of_getElem? (i := 15) rfl))) (g := (mkF m 31 #[.val (.int x0)] [(.int x0)])) rfl (hb hby d1_31) _ ?_
          show Steps p.tables e below (T.setTop (mkF m 33 #[.val (.int x0)] [(.int (57344 : Int32)), (.int x0)])) _
          by_cases hc33 : x0 < (57344 : Int32)
          · refine XS.icmpYes X.here hx rfl (pc0 := 33) (pc' := 42) rfl (hb hby d1_33) rfl (tlt hc33).1 (by decide) (by decide) ?_
            show Steps p.tables e below (T.setTop (mkF m 42 #[.val (.int x0)] [])) _
            refine XS.iloadN X.here hx rfl (hb hby d1_42) rfl ?_
            show Steps p.tables e below (T.setTop (mkF m 43 #[.val (.int x0)] [(.int x0)])) _
            refine X.ldcInt hx hown (mvT hZ (hw _ (List.mem_of_getElem? (i := 16) rfl))) (g := (mkF m 43 #[.val (.int x0)] [(.int x0)])) rfl (hb hby d1_43) _ ?_
            show Steps p.tables e below (T.setTop (mkF m 45 #[.val (.int x0)] [(.int (65536 : Int32)), (.int x0)])) _
            by_cases hc45 : x0 < (65536 : Int32)
            · refine XS.icmpYes X.here hx rfl (pc0 := 45) (pc' := 58) rfl (hb hby d1_45) rfl (tlt hc45).1 (by decide) (by decide) ?_
              show Steps p.tables e below (T.setTop (mkF m 58 #[.val (.int x0)] [])) _
              refine XS.iconst X.here hx rfl (hb hby d1_58) ?_
              show Steps p.tables e below (T.setTop (mkF m 59 #[.val (.int x0)] [(.int (0 : Int32))])) _
              have q_hc3 := mt (own_eq_iff rfl own_k9).mpr hc3
              have q_hc9 := mt (own_eq_iff rfl own_k10).mpr hc9
              have q_hc15 := mt (own_eq_iff rfl own_k13).mpr hc15
              have q_hc21 := (own_lt_iff rfl own_k32).mp hc21
              have q_hc33 := (own_lt_iff rfl own_k57344).mp hc33
              have q_hc45 := (own_lt_iff rfl own_k65536).mp hc45
              have hv : own_xml x0 = (0 : Int32) := by unfold own_xml; exact if_neg (by omega)
              rw [hv] at hr
              exact retN X hx (t := .boolean) hret (by simp) (hb hby d1_59) hr
            · refine XS.icmpNo X.here hx rfl (hb hby d1_45) rfl (flt hc45).1 ?_
              show Steps p.tables e below (T.setTop (mkF m 48 #[.val (.int x0)] [])) _
              refine XS.iloadN X.here hx rfl (hb hby d1_48) rfl ?_
              show Steps p.tables e below (T.setTop (mkF m 49 #[.val (.int x0)] [(.int x0)])) _
              refine X.ldcInt hx hown (mvT hZ (hw _ (List.mem_of_getElem? (i := 24) rfl))) (g := (mkF m 49 #[.val (.int x0)] [(.int x0)])) rfl (hb hby d1_49) _ ?_
              show Steps p.tables e below (T.setTop (mkF m 51 #[.val (.int x0)] [(.int (1114111 : Int32)), (.int x0)])) _
              by_cases hc51 : (1114111 : Int32) < x0
              · refine XS.icmpYes X.here hx rfl (pc0 := 51) (pc' := 58) rfl (hb hby d1_51) rfl (tlt hc51).2.2.1 (by decide) (by decide) ?_
                show Steps p.tables e below (T.setTop (mkF m 58 #[.val (.int x0)] [])) _
                refine XS.iconst X.here hx rfl (hb hby d1_58) ?_
                show Steps p.tables e below (T.setTop (mkF m 59 #[.val (.int x0)] [(.int (0 : Int32))])) _
                have q_hc3 := mt (own_eq_iff rfl own_k9).mpr hc3
                have q_hc9 := mt (own_eq_iff rfl own_k10).mpr hc9
                have q_hc15 := mt (own_eq_iff rfl own_k13).mpr hc15
                have q_hc21 := (own_lt_iff rfl own_k32).mp hc21
                have q_hc33 := (own_lt_iff rfl own_k57344).mp hc33
                have q_hc45 := mt (own_lt_iff rfl own_k65536).mpr hc45
                have q_hc51 := (own_lt_iff own_k1114111 rfl).mp hc51
                have hv : own_xml x0 = (0 : Int32) := by unfold own_xml; exact if_neg (by omega)
                rw [hv] at hr
                exact retN X hx (t := .boolean) hret (by simp) (hb hby d1_59) hr
              · refine XS.icmpNo X.here hx rfl (hb hby d1_51) rfl (flt hc51).2.2.1 ?_
                show Steps p.tables e below (T.setTop (mkF m 54 #[.val (.int x0)] [])) _
                refine XS.iconst X.here hx rfl (hb hby d1_54) ?_
                show Steps p.tables e below (T.setTop (mkF m 55 #[.val (.int x0)] [(.int (1 : Int32))])) _
                refine XS.goto X.here hx rfl (pc0 := 55) (pc' := 59) rfl (hb hby d1_55) (by decide) (by decide) ?_
                show Steps p.tables e below (T.setTop (mkF m 59 #[.val (.int x0)] [(.int (1 : Int32))])) _
                have q_hc3 := mt (own_eq_iff rfl own_k9).mpr hc3
                have q_hc9 := mt (own_eq_iff rfl own_k10).mpr hc9
                have q_hc15 := mt (own_eq_iff rfl own_k13).mpr hc15
                have q_hc21 := (own_lt_iff rfl own_k32).mp hc21
                have q_hc33 := (own_lt_iff rfl own_k57344).mp hc33
                have q_hc45 := mt (own_lt_iff rfl own_k65536).mpr hc45
                have q_hc51 := mt (own_lt_iff own_k1114111 rfl).mpr hc51
                have hv : own_xml x0 = (1 : Int32) := by unfold own_xml; exact if_pos (by omega)
                rw [hv] at hr
                exact retN X hx (t := .boolean) hret (by simp) (hb hby d1_59) hr
          · refine XS.icmpNo X.here hx rfl (hb hby d1_33) rfl (flt hc33).1 ?_
            show Steps p.tables e below (T.setTop (mkF m 36 #[.val (.int x0)] [])) _
            refine XS.iloadN X.here hx rfl (hb hby d1_36) rfl ?_
            show Steps p.tables e below (T.setTop (mkF m 37 #[.val (.int x0)] [(.int x0)])) _
            refine X.ldcInt hx hown (mvT hZ (hw _ (List.mem_of_getElem? (i := 22) rfl))) (g := (mkF m 37 #[.val (.int x0)] [(.int x0)])) rfl (hb hby d1_37) _ ?_
            show Steps p.tables e below (T.setTop (mkF m 39 #[.val (.int x0)] [(.int (65533 : Int32)), (.int x0)])) _
            by_cases hc39 : (65533 : Int32) < x0
            · refine XS.icmpNo X.here hx rfl (hb hby d1_39) rfl (tlt hc39).2.2.2 ?_
              show Steps p.tables e below (T.setTop (mkF m 42 #[.val (.int x0)] [])) _
              refine XS.iloadN X.here hx rfl (hb hby d1_42) rfl ?_
              show Steps p.tables e below (T.setTop (mkF m 43 #[.val (.int x0)] [(.int x0)])) _
              refine X.ldcInt hx hown (mvT hZ (hw _ (List.mem_of_getElem? (i := 16) rfl))) (g := (mkF m 43 #[.val (.int x0)] [(.int x0)])) rfl (hb hby d1_43) _ ?_
              show Steps p.tables e below (T.setTop (mkF m 45 #[.val (.int x0)] [(.int (65536 : Int32)), (.int x0)])) _
              by_cases hc45 : x0 < (65536 : Int32)
              · refine XS.icmpYes X.here hx rfl (pc0 := 45) (pc' := 58) rfl (hb hby d1_45) rfl (tlt hc45).1 (by decide) (by decide) ?_
                show Steps p.tables e below (T.setTop (mkF m 58 #[.val (.int x0)] [])) _
                refine XS.iconst X.here hx rfl (hb hby d1_58) ?_
                show Steps p.tables e below (T.setTop (mkF m 59 #[.val (.int x0)] [(.int (0 : Int32))])) _
                have q_hc3 := mt (own_eq_iff rfl own_k9).mpr hc3
                have q_hc9 := mt (own_eq_iff rfl own_k10).mpr hc9
                have q_hc15 := mt (own_eq_iff rfl own_k13).mpr hc15
                have q_hc21 := (own_lt_iff rfl own_k32).mp hc21
                have q_hc33 := mt (own_lt_iff rfl own_k57344).mpr hc33
                have q_hc39 := (own_lt_iff own_k65533 rfl).mp hc39
                have q_hc45 := (own_lt_iff rfl own_k65536).mp hc45
                have hv : own_xml x0 = (0 : Int32) := by unfold own_xml; exact if_neg (by omega)
                rw [hv] at hr
                exact retN X hx (t := .boolean) hret (by simp) (hb hby d1_59) hr
              · refine XS.icmpNo X.here hx rfl (hb hby d1_45) rfl (flt hc45).1 ?_
                show Steps p.tables e below (T.setTop (mkF m 48 #[.val (.int x0)] [])) _
                refine XS.iloadN X.here hx rfl (hb hby d1_48) rfl ?_
                show Steps p.tables e below (T.setTop (mkF m 49 #[.val (.int x0)] [(.int x0)])) _
                refine X.ldcInt hx hown (mvT hZ (hw _ (List.mem_of_getElem? (i := 24) rfl))) (g := (mkF m 49 #[.val (.int x0)] [(.int x0)])) rfl (hb hby d1_49) _ ?_
                show Steps p.tables e below (T.setTop (mkF m 51 #[.val (.int x0)] [(.int (1114111 : Int32)), (.int x0)])) _
                by_cases hc51 : (1114111 : Int32) < x0
                · refine XS.icmpYes X.here hx rfl (pc0 := 51) (pc' := 58) rfl (hb hby d1_51) rfl (tlt hc51).2.2.1 (by decide) (by decide) ?_
                  show Steps p.tables e below (T.setTop (mkF m 58 #[.val (.int x0)] [])) _
                  refine XS.iconst X.here hx rfl (hb hby d1_58) ?_
                  show Steps p.tables e below (T.setTop (mkF m 59 #[.val (.int x0)] [(.int (0 : Int32))])) _
                  have q_hc3 := mt (own_eq_iff rfl own_k9).mpr hc3
                  have q_hc9 := mt (own_eq_iff rfl own_k10).mpr hc9
                  have q_hc15 := mt (own_eq_iff rfl own_k13).mpr hc15
                  have q_hc21 := (own_lt_iff rfl own_k32).mp hc21
                  have q_hc33 := mt (own_lt_iff rfl own_k57344).mpr hc33
                  have q_hc39 := (own_lt_iff own_k65533 rfl).mp hc39
                  have q_hc45 := mt (own_lt_iff rfl own_k65536).mpr hc45
                  have q_hc51 := (own_lt_iff own_k1114111 rfl).mp hc51
                  have hv : own_xml x0 = (0 : Int32) := by unfold own_xml; exact if_neg (by omega)
                  rw [hv] at hr
                  exact retN X hx (t := .boolean) hret (by simp) (hb hby d1_59) hr
                · refine XS.icmpNo X.here hx rfl (hb hby d1_51) rfl (flt hc51).2.2.1 ?_
                  show Steps p.tables e below (T.setTop (mkF m 54 #[.val (.int x0)] [])) _
                  refine XS.iconst X.here hx rfl (hb hby d1_54) ?_
                  show Steps p.tables e below (T.setTop (mkF m 55 #[.val (.int x0)] [(.int (1 : Int32))])) _
                  refine XS.goto X.here hx rfl (pc0 := 55) (pc' := 59) rfl (hb hby d1_55) (by decide) (by decide) ?_
                  show Steps p.tables e below (T.setTop (mkF m 59 #[.val (.int x0)] [(.int (1 : Int32))])) _
                  have q_hc3 := mt (own_eq_iff rfl own_k9).mpr hc3
                  have q_hc9 := mt (own_eq_iff rfl own_k10).mpr hc9
                  have q_hc15 := mt (own_eq_iff rfl own_k13).mpr hc15
                  have q_hc21 := (own_lt_iff rfl own_k32).mp hc21
                  have q_hc33 := mt (own_lt_iff rfl own_k57344).mpr hc33
                  have q_hc39 := (own_lt_iff own_k65533 rfl).mp hc39
                  have q_hc45 := mt (own_lt_iff rfl own_k65536).mpr hc45
                  have q_hc51 := mt (own_lt_iff own_k1114111 rfl).mpr hc51
                  have hv : own_xml x0 = (1 : Int32) := by unfold own_xml; exact if_pos (by omega)
                  rw [hv] at hr
                  exact retN X hx (t := .boolean) hret (by simp) (hb hby d1_59) hr
            · refine XS.icmpYes X.here hx rfl (pc0 := 39) (pc' := 54) rfl (hb hby d1_39) rfl (flt hc39).2.2.2 (by decide) (by decide) ?_
              show Steps p.tables e below (T.setTop (mkF m 54 #[.val (.int x0)] [])) _
              refine XS.iconst X.here hx rfl (hb hby d1_54) ?_
              show Steps p.tables e below (T.setTop (mkF m 55 #[.val (.int x0)] [(.int (1 : Int32))])) _
              refine XS.goto X.here hx rfl (pc0 := 55) (pc' := 59) rfl (hb hby d1_55) (by decide) (by decide) ?_
              show Steps p.tables e below (T.setTop (mkF m 59 #[.val (.int x0)] [(.int (1 : Int32))])) _
              have q_hc3 := mt (own_eq_iff rfl own_k9).mpr hc3
              have q_hc9 := mt (own_eq_iff rfl own_k10).mpr hc9
              have q_hc15 := mt (own_eq_iff rfl own_k13).mpr hc15
              have q_hc21 := (own_lt_iff rfl own_k32).mp hc21
              have q_hc33 := mt (own_lt_iff rfl own_k57344).mpr hc33
              have q_hc39 := mt (own_lt_iff own_k65533 rfl).mpr hc39
              have hv : own_xml x0 = (1 : Int32) := by unfold own_xml; exact if_pos (by omega)
              rw [hv] at hr
              exact retN X hx (t := .boolean) hret (by simp) (hb hby d1_59) hr
        · refine XS.icmpNo X.here hx rfl (hb hby d1_21) rfl (flt hc21).1 ?_
          show Steps p.tables e below (T.setTop (mkF m 24 #[.val (.int x0)] [])) _
          refine XS.iloadN X.here hx rfl (hb hby d1_24) rfl ?_
          show Steps p.tables e below (T.setTop (mkF m 25 #[.val (.int x0)] [(.int x0)])) _
          refine X.ldcInt hx hown (mvT hZ (hw _ (List.mem_of_getElem? (i := 21) rfl))) (g := (mkF m 25 #[.val (.int x0)] [(.int x0)])) rfl (hb hby d1_25) _ ?_
          show Steps p.tables e below (T.setTop (mkF m 27 #[.val (.int x0)] [(.int (55295 : Int32)), (.int x0)])) _
          by_cases hc27 : (55295 : Int32) < x0
          · refine XS.icmpNo X.here hx rfl (hb hby d1_27) rfl (tlt hc27).2.2.2 ?_
            show Steps p.tables e below (T.setTop (mkF m 30 #[.val (.int x0)] [])) _
            refine XS.iloadN X.here hx rfl (hb hby d1_30) rfl ?_
            show Steps p.tables e below (T.setTop (mkF m 31 #[.val (.int x0)] [(.int x0)])) _
            refine X.ldcInt hx hown (mvT hZ (hw _ (List.mem_of_getElem? (i := 15) rfl))) (g := (mkF m 31 #[.val (.int x0)] [(.int x0)])) rfl (hb hby d1_31) _ ?_
            show Steps p.tables e below (T.setTop (mkF m 33 #[.val (.int x0)] [(.int (57344 : Int32)), (.int x0)])) _
            by_cases hc33 : x0 < (57344 : Int32)
            · refine XS.icmpYes X.here hx rfl (pc0 := 33) (pc' := 42) rfl (hb hby d1_33) rfl (tlt hc33).1 (by decide) (by decide) ?_
              show Steps p.tables e below (T.setTop (mkF m 42 #[.val (.int x0)] [])) _
              refine XS.iloadN X.here hx rfl (hb hby d1_42) rfl ?_
              show Steps p.tables e below (T.setTop (mkF m 43 #[.val (.int x0)] [(.int x0)])) _
              refine X.ldcInt hx hown (mvT hZ (hw _ (List.mem_of_getElem? (i := 16) rfl))) (g := (mkF m 43 #[.val (.int x0)] [(.int x0)])) rfl (hb hby d1_43) _ ?_
              show Steps p.tables e below (T.setTop (mkF m 45 #[.val (.int x0)] [(.int (65536 : Int32)), (.int x0)])) _
              by_cases hc45 : x0 < (65536 : Int32)
              · refine XS.icmpYes X.here hx rfl (pc0 := 45) (pc' := 58) rfl (hb hby d1_45) rfl (tlt hc45).1 (by decide) (by decide) ?_
                show Steps p.tables e below (T.setTop (mkF m 58 #[.val (.int x0)] [])) _
                refine XS.iconst X.here hx rfl (hb hby d1_58) ?_
                show Steps p.tables e below (T.setTop (mkF m 59 #[.val (.int x0)] [(.int (0 : Int32))])) _
                have q_hc3 := mt (own_eq_iff rfl own_k9).mpr hc3
                have q_hc9 := mt (own_eq_iff rfl own_k10).mpr hc9
                have q_hc15 := mt (own_eq_iff rfl own_k13).mpr hc15
                have q_hc21 := mt (own_lt_iff rfl own_k32).mpr hc21
                have q_hc27 := (own_lt_iff own_k55295 rfl).mp hc27
                have q_hc33 := (own_lt_iff rfl own_k57344).mp hc33
                have q_hc45 := (own_lt_iff rfl own_k65536).mp hc45
                have hv : own_xml x0 = (0 : Int32) := by unfold own_xml; exact if_neg (by omega)
                rw [hv] at hr
                exact retN X hx (t := .boolean) hret (by simp) (hb hby d1_59) hr
              · refine XS.icmpNo X.here hx rfl (hb hby d1_45) rfl (flt hc45).1 ?_
                show Steps p.tables e below (T.setTop (mkF m 48 #[.val (.int x0)] [])) _
                refine XS.iloadN X.here hx rfl (hb hby d1_48) rfl ?_
                show Steps p.tables e below (T.setTop (mkF m 49 #[.val (.int x0)] [(.int x0)])) _
                refine X.ldcInt hx hown (mvT hZ (hw _ (List.mem_of_getElem? (i := 24) rfl))) (g := (mkF m 49 #[.val (.int x0)] [(.int x0)])) rfl (hb hby d1_49) _ ?_
                show Steps p.tables e below (T.setTop (mkF m 51 #[.val (.int x0)] [(.int (1114111 : Int32)), (.int x0)])) _
                by_cases hc51 : (1114111 : Int32) < x0
                · refine XS.icmpYes X.here hx rfl (pc0 := 51) (pc' := 58) rfl (hb hby d1_51) rfl (tlt hc51).2.2.1 (by decide) (by decide) ?_
                  show Steps p.tables e below (T.setTop (mkF m 58 #[.val (.int x0)] [])) _
                  refine XS.iconst X.here hx rfl (hb hby d1_58) ?_
                  show Steps p.tables e below (T.setTop (mkF m 59 #[.val (.int x0)] [(.int (0 : Int32))])) _
                  have q_hc3 := mt (own_eq_iff rfl own_k9).mpr hc3
                  have q_hc9 := mt (own_eq_iff rfl own_k10).mpr hc9
                  have q_hc15 := mt (own_eq_iff rfl own_k13).mpr hc15
                  have q_hc21 := mt (own_lt_iff rfl own_k32).mpr hc21
                  have q_hc27 := (own_lt_iff own_k55295 rfl).mp hc27
                  have q_hc33 := (own_lt_iff rfl own_k57344).mp hc33
                  have q_hc45 := mt (own_lt_iff rfl own_k65536).mpr hc45
                  have q_hc51 := (own_lt_iff own_k1114111 rfl).mp hc51
                  have hv : own_xml x0 = (0 : Int32) := by unfold own_xml; exact if_neg (by omega)
                  rw [hv] at hr
                  exact retN X hx (t := .boolean) hret (by simp) (hb hby d1_59) hr
                · refine XS.icmpNo X.here hx rfl (hb hby d1_51) rfl (flt hc51).2.2.1 ?_
                  show Steps p.tables e below (T.setTop (mkF m 54 #[.val (.int x0)] [])) _
                  refine XS.iconst X.here hx rfl (hb hby d1_54) ?_
                  show Steps p.tables e below (T.setTop (mkF m 55 #[.val (.int x0)] [(.int (1 : Int32))])) _
                  refine XS.goto X.here hx rfl (pc0 := 55) (pc' := 59) rfl (hb hby d1_55) (by decide) (by decide) ?_
                  show Steps p.tables e below (T.setTop (mkF m 59 #[.val (.int x0)] [(.int (1 : Int32))])) _
                  have q_hc3 := mt (own_eq_iff rfl own_k9).mpr hc3
                  have q_hc9 := mt (own_eq_iff rfl own_k10).mpr hc9
                  have q_hc15 := mt (own_eq_iff rfl own_k13).mpr hc15
                  have q_hc21 := mt (own_lt_iff rfl own_k32).mpr hc21
                  have q_hc27 := (own_lt_iff own_k55295 rfl).mp hc27
                  have q_hc33 := (own_lt_iff rfl own_k57344).mp hc33
                  have q_hc45 := mt (own_lt_iff rfl own_k65536).mpr hc45
                  have q_hc51 := mt (own_lt_iff own_k1114111 rfl).mpr hc51
                  have hv : own_xml x0 = (1 : Int32) := by unfold own_xml; exact if_pos (by omega)
                  rw [hv] at hr
                  exact retN X hx (t := .boolean) hret (by simp) (hb hby d1_59) hr
            · refine XS.icmpNo X.here hx rfl (hb hby d1_33) rfl (flt hc33).1 ?_
              show Steps p.tables e below (T.setTop (mkF m 36 #[.val (.int x0)] [])) _
              refine XS.iloadN X.here hx rfl (hb hby d1_36) rfl ?_
              show Steps p.tables e below (T.setTop (mkF m 37 #[.val (.int x0)] [(.int x0)])) _
              refine X.ldcInt hx hown (mvT hZ (hw _ (List.mem_of_getElem? (i := 22) rfl))) (g := (mkF m 37 #[.val (.int x0)] [(.int x0)])) rfl (hb hby d1_37) _ ?_
              show Steps p.tables e below (T.setTop (mkF m 39 #[.val (.int x0)] [(.int (65533 : Int32)), (.int x0)])) _
              by_cases hc39 : (65533 : Int32) < x0
              · refine XS.icmpNo X.here hx rfl (hb hby d1_39) rfl (tlt hc39).2.2.2 ?_
                show Steps p.tables e below (T.setTop (mkF m 42 #[.val (.int x0)] [])) _
                refine XS.iloadN X.here hx rfl (hb hby d1_42) rfl ?_
                show Steps p.tables e below (T.setTop (mkF m 43 #[.val (.int x0)] [(.int x0)])) _
                refine X.ldcInt hx hown (mvT hZ (hw _ (List.mem_of_getElem? (i := 16) rfl))) (g := (mkF m 43 #[.val (.int x0)] [(.int x0)])) rfl (hb hby d1_43) _ ?_
                show Steps p.tables e below (T.setTop (mkF m 45 #[.val (.int x0)] [(.int (65536 : Int32)), (.int x0)])) _
                by_cases hc45 : x0 < (65536 : Int32)
                · refine XS.icmpYes X.here hx rfl (pc0 := 45) (pc' := 58) rfl (hb hby d1_45) rfl (tlt hc45).1 (by decide) (by decide) ?_
                  show Steps p.tables e below (T.setTop (mkF m 58 #[.val (.int x0)] [])) _
                  refine XS.iconst X.here hx rfl (hb hby d1_58) ?_
                  show Steps p.tables e below (T.setTop (mkF m 59 #[.val (.int x0)] [(.int (0 : Int32))])) _
                  have q_hc3 := mt (own_eq_iff rfl own_k9).mpr hc3
                  have q_hc9 := mt (own_eq_iff rfl own_k10).mpr hc9
                  have q_hc15 := mt (own_eq_iff rfl own_k13).mpr hc15
                  have q_hc21 := mt (own_lt_iff rfl own_k32).mpr hc21
                  have q_hc27 := (own_lt_iff own_k55295 rfl).mp hc27
                  have q_hc33 := mt (own_lt_iff rfl own_k57344).mpr hc33
                  have q_hc39 := (own_lt_iff own_k65533 rfl).mp hc39
                  have q_hc45 := (own_lt_iff rfl own_k65536).mp hc45
                  have hv : own_xml x0 = (0 : Int32) := by unfold own_xml; exact if_neg (by omega)
                  rw [hv] at hr
                  exact retN X hx (t := .boolean) hret (by simp) (hb hby d1_59) hr
                · refine XS.icmpNo X.here hx rfl (hb hby d1_45) rfl (flt hc45).1 ?_
                  show Steps p.tables e below (T.setTop (mkF m 48 #[.val (.int x0)] [])) _
                  refine XS.iloadN X.here hx rfl (hb hby d1_48) rfl ?_
                  show Steps p.tables e below (T.setTop (mkF m 49 #[.val (.int x0)] [(.int x0)])) _
                  refine X.ldcInt hx hown (mvT hZ (hw _ (List.mem_of_getElem? (i := 24) rfl))) (g := (mkF m 49 #[.val (.int x0)] [(.int x0)])) rfl (hb hby d1_49) _ ?_
                  show Steps p.tables e below (T.setTop (mkF m 51 #[.val (.int x0)] [(.int (1114111 : Int32)), (.int x0)])) _
                  by_cases hc51 : (1114111 : Int32) < x0
                  · refine XS.icmpYes X.here hx rfl (pc0 := 51) (pc' := 58) rfl (hb hby d1_51) rfl (tlt hc51).2.2.1 (by decide) (by decide) ?_
                    show Steps p.tables e below (T.setTop (mkF m 58 #[.val (.int x0)] [])) _
                    refine XS.iconst X.here hx rfl (hb hby d1_58) ?_
                    show Steps p.tables e below (T.setTop (mkF m 59 #[.val (.int x0)] [(.int (0 : Int32))])) _
                    have q_hc3 := mt (own_eq_iff rfl own_k9).mpr hc3
                    have q_hc9 := mt (own_eq_iff rfl own_k10).mpr hc9
                    have q_hc15 := mt (own_eq_iff rfl own_k13).mpr hc15
                    have q_hc21 := mt (own_lt_iff rfl own_k32).mpr hc21
                    have q_hc27 := (own_lt_iff own_k55295 rfl).mp hc27
                    have q_hc33 := mt (own_lt_iff rfl own_k57344).mpr hc33
                    have q_hc39 := (own_lt_iff own_k65533 rfl).mp hc39
                    have q_hc45 := mt (own_lt_iff rfl own_k65536).mpr hc45
                    have q_hc51 := (own_lt_iff own_k1114111 rfl).mp hc51
                    have hv : own_xml x0 = (0 : Int32) := by unfold own_xml; exact if_neg (by omega)
                    rw [hv] at hr
                    exact retN X hx (t := .boolean) hret (by simp) (hb hby d1_59) hr
                  · refine XS.icmpNo X.here hx rfl (hb hby d1_51) rfl (flt hc51).2.2.1 ?_
                    show Steps p.tables e below (T.setTop (mkF m 54 #[.val (.int x0)] [])) _
                    refine XS.iconst X.here hx rfl (hb hby d1_54) ?_
                    show Steps p.tables e below (T.setTop (mkF m 55 #[.val (.int x0)] [(.int (1 : Int32))])) _
                    refine XS.goto X.here hx rfl (pc0 := 55) (pc' := 59) rfl (hb hby d1_55) (by decide) (by decide) ?_
                    show Steps p.tables e below (T.setTop (mkF m 59 #[.val (.int x0)] [(.int (1 : Int32))])) _
                    have q_hc3 := mt (own_eq_iff rfl own_k9).mpr hc3
                    have q_hc9 := mt (own_eq_iff rfl own_k10).mpr hc9
                    have q_hc15 := mt (own_eq_iff rfl own_k13).mpr hc15
                    have q_hc21 := mt (own_lt_iff rfl own_k32).mpr hc21
                    have q_hc27 := (own_lt_iff own_k55295 rfl).mp hc27
                    have q_hc33 := mt (own_lt_iff rfl own_k57344).mpr hc33
                    have q_hc39 := (own_lt_iff own_k65533 rfl).mp hc39
                    have q_hc45 := mt (own_lt_iff rfl own_k65536).mpr hc45
                    have q_hc51 := mt (own_lt_iff own_k1114111 rfl).mpr hc51
                    have hv : own_xml x0 = (1 : Int32) := by unfold own_xml; exact if_pos (by omega)
                    rw [hv] at hr
                    exact retN X hx (t := .boolean) hret (by simp) (hb hby d1_59) hr
              · refine XS.icmpYes X.here hx rfl (pc0 := 39) (pc' := 54) rfl (hb hby d1_39) rfl (flt hc39).2.2.2 (by decide) (by decide) ?_
                show Steps p.tables e below (T.setTop (mkF m 54 #[.val (.int x0)] [])) _
                refine XS.iconst X.here hx rfl (hb hby d1_54) ?_
                show Steps p.tables e below (T.setTop (mkF m 55 #[.val (.int x0)] [(.int (1 : Int32))])) _
                refine XS.goto X.here hx rfl (pc0 := 55) (pc' := 59) rfl (hb hby d1_55) (by decide) (by decide) ?_
                show Steps p.tables e below (T.setTop (mkF m 59 #[.val (.int x0)] [(.int (1 : Int32))])) _
                have q_hc3 := mt (own_eq_iff rfl own_k9).mpr hc3
                have q_hc9 := mt (own_eq_iff rfl own_k10).mpr hc9
                have q_hc15 := mt (own_eq_iff rfl own_k13).mpr hc15
                have q_hc21 := mt (own_lt_iff rfl own_k32).mpr hc21
                have q_hc27 := (own_lt_iff own_k55295 rfl).mp hc27
                have q_hc33 := mt (own_lt_iff rfl own_k57344).mpr hc33
                have q_hc39 := mt (own_lt_iff own_k65533 rfl).mpr hc39
                have hv : own_xml x0 = (1 : Int32) := by unfold own_xml; exact if_pos (by omega)
                rw [hv] at hr
                exact retN X hx (t := .boolean) hret (by simp) (hb hby d1_59) hr
          · refine XS.icmpYes X.here hx rfl (pc0 := 27) (pc' := 54) rfl (hb hby d1_27) rfl (flt hc27).2.2.2 (by decide) (by decide) ?_
            show Steps p.tables e below (T.setTop (mkF m 54 #[.val (.int x0)] [])) _
            refine XS.iconst X.here hx rfl (hb hby d1_54) ?_
            show Steps p.tables e below (T.setTop (mkF m 55 #[.val (.int x0)] [(.int (1 : Int32))])) _
            refine XS.goto X.here hx rfl (pc0 := 55) (pc' := 59) rfl (hb hby d1_55) (by decide) (by decide) ?_
            show Steps p.tables e below (T.setTop (mkF m 59 #[.val (.int x0)] [(.int (1 : Int32))])) _
            have q_hc3 := mt (own_eq_iff rfl own_k9).mpr hc3
            have q_hc9 := mt (own_eq_iff rfl own_k10).mpr hc9
            have q_hc15 := mt (own_eq_iff rfl own_k13).mpr hc15
            have q_hc21 := mt (own_lt_iff rfl own_k32).mpr hc21
            have q_hc27 := mt (own_lt_iff own_k55295 rfl).mpr hc27
            have hv : own_xml x0 = (1 : Int32) := by unfold own_xml; exact if_pos (by omega)
            rw [hv] at hr
            exact retN X hx (t := .boolean) hret (by simp) (hb hby d1_59) hr
def Q1 (x0 : Int32) (h0 : Heap) (n0 : Nat) (v : Option Value) (h : Heap) (L : List Loc) : Prop := v = some (.int (own_xml x0)) ∧ Fr n0 L ∧ h = h0
set_option maxRecDepth 65536 in
set_option maxHeartbeats 40000000 in
theorem rm1 (l : Launch) (Z : State) (a0 : Array Value) (hw : ∀ d ∈ tables_1, d.before a0 Z = true) (ws : List Jvm.Cond) (x0 : Int32) (h0 : Heap) (n0 : Nat) (Z0 : n0 ≤ h0.size)  :
    MetFree l (⟨"com/example/xylem/xylem/model/QName", "isXmlChar", "(I)Z"⟩ : MethodName) (head1 (Jvm.Cond.code (⟨"com/example/xylem/xylem/model/QName", "isXmlChar", "(I)Z"⟩ : MethodName) prog_304_method_12_code 1 (some .boolean) :: ws) ({ frames := 0, cells := 0, slots := 0, locals := 0 } : Room)) (fun as_ U => as_ = #[(.int x0)] ∧ Z.Warmed39 U.vm ∧ U.heap = h0) (fun _ _ _ _ _ => True) (fun _ U o U' => ∃ v L, o = .returned v ∧ Q1 x0 h0 n0 v U'.heap L ∧ FrameEnd U o U' L ({ frames := 0, cells := 0, slots := 0, locals := 0 } : Room).cells ({ frames := 0, cells := 0, slots := 0, locals := 0 } : Room).slots) := by
  refine MetFree.of_bodySF (plainFor_of_name pn_1) hisR ?_
  intro p e s m args below meth c s₁ Bd hml0 hP hK
  obtain ⟨rfl, hZ, hh⟩ := hP
  have hx := Bd.exec
  have hby := Bd.bytes
  have hml : c.maxLocals = 1 := hml0
  have hown : s.vm.findClass "com/example/xylem/xylem/model/QName" = some m.cls := findClass_of_methodNamed Bd.named
  have hnm := (name_of_methodNamed Bd.named Bd.method).1
  have X0 : Stand p l e ({ frames := 0, cells := 0, slots := 0, locals := 0 } : Room) s m #[(.int x0)] below meth c s₁ [] 0 0 := Stand.of_body Bd
  have e0 : s₁.heap = h0 := by rw [← hh, Bd.state]; rfl
  have N0 := Fr.nil n0
  have pre0 : ∀ t, Steps p.tables e below (s₁.setTop (mkF m 0 #[.val (.int x0)] [])) t → Steps p.tables e below (s₁.setTop (entryFrame m #[(.int x0)] 1)) t := fun t k => castTop (ef_1 m x0) k
  obtain ⟨fs, hr, hrun, hended, hW, hsame⟩ := X0.leave (v := some (.int (own_xml x0))) (fun h => by rw [Bd.returns] at h; cases h)
  refine ⟨_, _, pre0 _ ?_, hrun, hended, _, _, rfl, ?_, ⟨_, rfl⟩, hW, hsame.mono (by decide) (by decide)⟩
  · exact wk1 X0 hx hZ hw hby hown Bd.returns x0 hr
  · show Q1 x0 h0 n0 _ s₁.heap _
    rw [e0]
    exact ⟨rfl, N0, rfl⟩
set_option maxRecDepth 65536 in
set_option maxHeartbeats 40000000 in
theorem wk2 {p : Program} {l : Launch} {e : Env} {R : Room} {s : State} {m : MethodId} {args : Array Value} {below : List Frame} {meth : Method} {c : Code} {T : State} {locs : List Loc} {cells slots : Nat} {Z : State} {a0 : Array Value} (X : Stand p l e R s m args below meth c T locs cells slots) (hx : p.tables.exec = Jvm.exec) (hZ : Z.Warmed39 s.vm) (hw : ∀ d ∈ tables_1, d.before a0 Z = true) (hby : c.code = method_2_code) (hown : s.vm.findClass "com/example/xylem/xylem/model/QNameIsXmlCharPinLaw" = some m.cls) (hret : meth.sig.returnType = some .boolean) {fs : List Frame} (x0 : Int32) (hr : ∀ (f : JFrame) (acts : List Action), f.method = m → f.locked = none → f.entered = [] → (doReturn e (T.setTop f) acts (some (.int (own_xml x0)))).1 = T.setFrames fs) : Steps p.tables e below (T.setTop (mkF m 0 #[.val (.int x0)] [])) (T.setFrames fs) := by
  show Steps p.tables e below (T.setTop (mkF m 0 #[.val (.int x0)] [])) _
  refine XS.iloadN X.here hx rfl (hb hby d2_0) rfl ?_
  show Steps p.tables e below (T.setTop (mkF m 1 #[.val (.int x0)] [(.int x0)])) _
  by_cases hc1 : x0 < (0 : Int32)
  · refine XS.ifYes X.here hx rfl (pc0 := 1) (pc' := 10) rfl (hb hby d2_1) rfl ((if0 _ _).trans (tlt hc1).1) (by decide) (by decide) ?_
    show Steps p.tables e below (T.setTop (mkF m 10 #[.val (.int x0)] [])) _
    refine XS.iconst X.here hx rfl (hb hby d2_10) ?_
    show Steps p.tables e below (T.setTop (mkF m 11 #[.val (.int x0)] [(.int (0 : Int32))])) _
    have q_hc1 := (own_lt_iff rfl own_k0).mp hc1
    have hv : own_xml x0 = (0 : Int32) := by unfold own_xml; exact if_neg (by omega)
    rw [hv] at hr
    exact retN X hx (t := .boolean) hret (by simp) (hb hby d2_11) hr
  · refine XS.ifNo X.here hx rfl (hb hby d2_1) rfl ((if0 _ _).trans (flt hc1).1) ?_
    show Steps p.tables e below (T.setTop (mkF m 4 #[.val (.int x0)] [])) _
    refine XS.iloadN X.here hx rfl (hb hby d2_4) rfl ?_
    show Steps p.tables e below (T.setTop (mkF m 5 #[.val (.int x0)] [(.int x0)])) _
    refine X.ldcInt hx hown (mvT hZ (hw _ (List.mem_of_getElem? (i := 8) rfl))) (g := (mkF m 5 #[.val (.int x0)] [(.int x0)])) rfl (hb hby d2_5) _ ?_
    show Steps p.tables e below (T.setTop (mkF m 7 #[.val (.int x0)] [(.int (1114111 : Int32)), (.int x0)])) _
    by_cases hc7 : (1114111 : Int32) < x0
    · refine XS.icmpNo X.here hx rfl (hb hby d2_7) rfl (tlt hc7).2.2.2 ?_
      show Steps p.tables e below (T.setTop (mkF m 10 #[.val (.int x0)] [])) _
      refine XS.iconst X.here hx rfl (hb hby d2_10) ?_
      show Steps p.tables e below (T.setTop (mkF m 11 #[.val (.int x0)] [(.int (0 : Int32))])) _
      have q_hc1 := mt (own_lt_iff rfl own_k0).mpr hc1
      have q_hc7 := (own_lt_iff own_k1114111 rfl).mp hc7
      have hv : own_xml x0 = (0 : Int32) := by unfold own_xml; exact if_neg (by omega)
      rw [hv] at hr
      exact retN X hx (t := .boolean) hret (by simp) (hb hby d2_11) hr
    · refine XS.icmpYes X.here hx rfl (pc0 := 7) (pc' := 12) rfl (hb hby d2_7) rfl (flt hc7).2.2.2 (by decide) (by decide) ?_
      show Steps p.tables e below (T.setTop (mkF m 12 #[.val (.int x0)] [])) _
      refine XS.iloadN X.here hx rfl (hb hby d2_12) rfl ?_
      show Steps p.tables e below (T.setTop (mkF m 13 #[.val (.int x0)] [(.int x0)])) _
      refine XS.bipush X.here hx rfl (hb hby d2_13) ?_
      show Steps p.tables e below (T.setTop (mkF m 15 #[.val (.int x0)] [(.int (32 : Int32)), (.int x0)])) _
      by_cases hc15 : x0 < (32 : Int32)
      · refine XS.icmpNo X.here hx rfl (hb hby d2_15) rfl (tlt hc15).2.1 ?_
        show Steps p.tables e below (T.setTop (mkF m 18 #[.val (.int x0)] [])) _
        refine XS.iloadN X.here hx rfl (hb hby d2_18) rfl ?_
        show Steps p.tables e below (T.setTop (mkF m 19 #[.val (.int x0)] [(.int x0)])) _
        refine XS.bipush X.here hx rfl (hb hby d2_19) ?_
        show Steps p.tables e below (T.setTop (mkF m 21 #[.val (.int x0)] [(.int (9 : Int32)), (.int x0)])) _
        by_cases hc21 : x0 = (9 : Int32)
        · refine XS.icmpYes X.here hx rfl (pc0 := 21) (pc' := 36) rfl (hb hby d2_21) rfl (teq hc21).1 (by decide) (by decide) ?_
          show Steps p.tables e below (T.setTop (mkF m 36 #[.val (.int x0)] [])) _
          refine XS.iconst X.here hx rfl (hb hby d2_36) ?_
          show Steps p.tables e below (T.setTop (mkF m 37 #[.val (.int x0)] [(.int (1 : Int32))])) _
          refine XS.goto X.here hx rfl (pc0 := 37) (pc' := 41) rfl (hb hby d2_37) (by decide) (by decide) ?_
          show Steps p.tables e below (T.setTop (mkF m 41 #[.val (.int x0)] [(.int (1 : Int32))])) _
          have q_hc1 := mt (own_lt_iff rfl own_k0).mpr hc1
          have q_hc7 := mt (own_lt_iff own_k1114111 rfl).mpr hc7
          have q_hc15 := (own_lt_iff rfl own_k32).mp hc15
          have q_hc21 := (own_eq_iff rfl own_k9).mp hc21
          have hv : own_xml x0 = (1 : Int32) := by unfold own_xml; exact if_pos (by omega)
          rw [hv] at hr
          exact retN X hx (t := .boolean) hret (by simp) (hb hby d2_41) hr
        · refine XS.icmpNo X.here hx rfl (hb hby d2_21) rfl (feq hc21).1 ?_
          show Steps p.tables e below (T.setTop (mkF m 24 #[.val (.int x0)] [])) _
          refine XS.iloadN X.here hx rfl (hb hby d2_24) rfl ?_
          show Steps p.tables e below (T.setTop (mkF m 25 #[.val (.int x0)] [(.int x0)])) _
          refine XS.bipush X.here hx rfl (hb hby d2_25) ?_
          show Steps p.tables e below (T.setTop (mkF m 27 #[.val (.int x0)] [(.int (10 : Int32)), (.int x0)])) _
          by_cases hc27 : x0 = (10 : Int32)
          · refine XS.icmpYes X.here hx rfl (pc0 := 27) (pc' := 36) rfl (hb hby d2_27) rfl (teq hc27).1 (by decide) (by decide) ?_
            show Steps p.tables e below (T.setTop (mkF m 36 #[.val (.int x0)] [])) _
            refine XS.iconst X.here hx rfl (hb hby d2_36) ?_
            show Steps p.tables e below (T.setTop (mkF m 37 #[.val (.int x0)] [(.int (1 : Int32))])) _
            refine XS.goto X.here hx rfl (pc0 := 37) (pc' := 41) rfl (hb hby d2_37) (by decide) (by decide) ?_
            show Steps p.tables e below (T.setTop (mkF m 41 #[.val (.int x0)] [(.int (1 : Int32))])) _
            have q_hc1 := mt (own_lt_iff rfl own_k0).mpr hc1
            have q_hc7 := mt (own_lt_iff own_k1114111 rfl).mpr hc7
            have q_hc15 := (own_lt_iff rfl own_k32).mp hc15
            have q_hc21 := mt (own_eq_iff rfl own_k9).mpr hc21
            have q_hc27 := (own_eq_iff rfl own_k10).mp hc27
            have hv : own_xml x0 = (1 : Int32) := by unfold own_xml; exact if_pos (by omega)
            rw [hv] at hr
            exact retN X hx (t := .boolean) hret (by simp) (hb hby d2_41) hr
          · refine XS.icmpNo X.here hx rfl (hb hby d2_27) rfl (feq hc27).1 ?_
            show Steps p.tables e below (T.setTop (mkF m 30 #[.val (.int x0)] [])) _
            refine XS.iloadN X.here hx rfl (hb hby d2_30) rfl ?_
            show Steps p.tables e below (T.setTop (mkF m 31 #[.val (.int x0)] [(.int x0)])) _
            refine XS.bipush X.here hx rfl (hb hby d2_31) ?_
            show Steps p.tables e below (T.setTop (mkF m 33 #[.val (.int x0)] [(.int (13 : Int32)), (.int x0)])) _
            by_cases hc33 : x0 = (13 : Int32)
            · refine XS.icmpNo X.here hx rfl (hb hby d2_33) rfl (teq hc33).2 ?_
              show Steps p.tables e below (T.setTop (mkF m 36 #[.val (.int x0)] [])) _
              refine XS.iconst X.here hx rfl (hb hby d2_36) ?_
              show Steps p.tables e below (T.setTop (mkF m 37 #[.val (.int x0)] [(.int (1 : Int32))])) _
              refine XS.goto X.here hx rfl (pc0 := 37) (pc' := 41) rfl (hb hby d2_37) (by decide) (by decide) ?_
              show Steps p.tables e below (T.setTop (mkF m 41 #[.val (.int x0)] [(.int (1 : Int32))])) _
              have q_hc1 := mt (own_lt_iff rfl own_k0).mpr hc1
              have q_hc7 := mt (own_lt_iff own_k1114111 rfl).mpr hc7
              have q_hc15 := (own_lt_iff rfl own_k32).mp hc15
              have q_hc21 := mt (own_eq_iff rfl own_k9).mpr hc21
              have q_hc27 := mt (own_eq_iff rfl own_k10).mpr hc27
              have q_hc33 := (own_eq_iff rfl own_k13).mp hc33
              have hv : own_xml x0 = (1 : Int32) := by unfold own_xml; exact if_pos (by omega)
              rw [hv] at hr
              exact retN X hx (t := .boolean) hret (by simp) (hb hby d2_41) hr
            · refine XS.icmpYes X.here hx rfl (pc0 := 33) (pc' := 40) rfl (hb hby d2_33) rfl (feq hc33).2 (by decide) (by decide) ?_
              show Steps p.tables e below (T.setTop (mkF m 40 #[.val (.int x0)] [])) _
              refine XS.iconst X.here hx rfl (hb hby d2_40) ?_
              show Steps p.tables e below (T.setTop (mkF m 41 #[.val (.int x0)] [(.int (0 : Int32))])) _
              have q_hc1 := mt (own_lt_iff rfl own_k0).mpr hc1
              have q_hc7 := mt (own_lt_iff own_k1114111 rfl).mpr hc7
              have q_hc15 := (own_lt_iff rfl own_k32).mp hc15
              have q_hc21 := mt (own_eq_iff rfl own_k9).mpr hc21
              have q_hc27 := mt (own_eq_iff rfl own_k10).mpr hc27
              have q_hc33 := mt (own_eq_iff rfl own_k13).mpr hc33
              have hv : own_xml x0 = (0 : Int32) := by unfold own_xml; exact if_neg (by omega)
              rw [hv] at hr
              exact retN X hx (t := .boolean) hret (by simp) (hb hby d2_41) hr
      · refine XS.icmpYes X.here hx rfl (pc0 := 15) (pc' := 42) rfl (hb hby d2_15) rfl (flt hc15).2.1 (by decide) (by decide) ?_
        show Steps p.tables e below (T.setTop (mkF m 42 #[.val (.int x0)] [])) _
        refine XS.iloadN X.here hx rfl (hb hby d2_42) rfl ?_
        show Steps p.tables e below (T.setTop (mkF m 43 #[.val (.int x0)] [(.int x0)])) _
        refine X.ldcInt hx hown (mvT hZ (hw _ (List.mem_of_getElem? (i := 2) rfl))) (g := (mkF m 43 #[.val (.int x0)] [(.int x0)])) rfl (hb hby d2_43) _ ?_
        show Steps p.tables e below (T.setTop (mkF m 45 #[.val (.int x0)] [(.int (55296 : Int32)), (.int x0)])) _
        by_cases hc45 : x0 < (55296 : Int32)
        · refine XS.icmpYes X.here hx rfl (pc0 := 45) (pc' := 56) rfl (hb hby d2_45) rfl (tlt hc45).1 (by decide) (by decide) ?_
          show Steps p.tables e below (T.setTop (mkF m 56 #[.val (.int x0)] [])) _
          refine XS.iloadN X.here hx rfl (hb hby d2_56) rfl ?_
          show Steps p.tables e below (T.setTop (mkF m 57 #[.val (.int x0)] [(.int x0)])) _
          refine X.ldcInt hx hown (mvT hZ (hw _ (List.mem_of_getElem? (i := 23) rfl))) (g := (mkF m 57 #[.val (.int x0)] [(.int x0)])) rfl (hb hby d2_57) _ ?_
          show Steps p.tables e below (T.setTop (mkF m 59 #[.val (.int x0)] [(.int (65534 : Int32)), (.int x0)])) _
          by_cases hc59 : x0 = (65534 : Int32)
          · refine XS.icmpYes X.here hx rfl (pc0 := 59) (pc' := 68) rfl (hb hby d2_59) rfl (teq hc59).1 (by decide) (by decide) ?_
            show Steps p.tables e below (T.setTop (mkF m 68 #[.val (.int x0)] [])) _
            refine XS.iconst X.here hx rfl (hb hby d2_68) ?_
            show Steps p.tables e below (T.setTop (mkF m 69 #[.val (.int x0)] [(.int (0 : Int32))])) _
            have q_hc1 := mt (own_lt_iff rfl own_k0).mpr hc1
            have q_hc7 := mt (own_lt_iff own_k1114111 rfl).mpr hc7
            have q_hc15 := mt (own_lt_iff rfl own_k32).mpr hc15
            have q_hc45 := (own_lt_iff rfl own_k55296).mp hc45
            have q_hc59 := (own_eq_iff rfl own_k65534).mp hc59
            have hv : own_xml x0 = (0 : Int32) := by unfold own_xml; exact if_neg (by omega)
            rw [hv] at hr
            exact retN X hx (t := .boolean) hret (by simp) (hb hby d2_69) hr
          · refine XS.icmpNo X.here hx rfl (hb hby d2_59) rfl (feq hc59).1 ?_
            show Steps p.tables e below (T.setTop (mkF m 62 #[.val (.int x0)] [])) _
            refine XS.iloadN X.here hx rfl (hb hby d2_62) rfl ?_
            show Steps p.tables e below (T.setTop (mkF m 63 #[.val (.int x0)] [(.int x0)])) _
            refine X.ldcInt hx hown (mvT hZ (hw _ (List.mem_of_getElem? (i := 6) rfl))) (g := (mkF m 63 #[.val (.int x0)] [(.int x0)])) rfl (hb hby d2_63) _ ?_
            show Steps p.tables e below (T.setTop (mkF m 65 #[.val (.int x0)] [(.int (65535 : Int32)), (.int x0)])) _
            by_cases hc65 : x0 = (65535 : Int32)
            · refine XS.icmpNo X.here hx rfl (hb hby d2_65) rfl (teq hc65).2 ?_
              show Steps p.tables e below (T.setTop (mkF m 68 #[.val (.int x0)] [])) _
              refine XS.iconst X.here hx rfl (hb hby d2_68) ?_
              show Steps p.tables e below (T.setTop (mkF m 69 #[.val (.int x0)] [(.int (0 : Int32))])) _
              have q_hc1 := mt (own_lt_iff rfl own_k0).mpr hc1
              have q_hc7 := mt (own_lt_iff own_k1114111 rfl).mpr hc7
              have q_hc15 := mt (own_lt_iff rfl own_k32).mpr hc15
              have q_hc45 := (own_lt_iff rfl own_k55296).mp hc45
              have q_hc59 := mt (own_eq_iff rfl own_k65534).mpr hc59
              have q_hc65 := (own_eq_iff rfl own_k65535).mp hc65
              have hv : own_xml x0 = (0 : Int32) := by unfold own_xml; exact if_neg (by omega)
              rw [hv] at hr
              exact retN X hx (t := .boolean) hret (by simp) (hb hby d2_69) hr
            · refine XS.icmpYes X.here hx rfl (pc0 := 65) (pc' := 70) rfl (hb hby d2_65) rfl (feq hc65).2 (by decide) (by decide) ?_
              show Steps p.tables e below (T.setTop (mkF m 70 #[.val (.int x0)] [])) _
              refine XS.iconst X.here hx rfl (hb hby d2_70) ?_
              show Steps p.tables e below (T.setTop (mkF m 71 #[.val (.int x0)] [(.int (1 : Int32))])) _
              have q_hc1 := mt (own_lt_iff rfl own_k0).mpr hc1
              have q_hc7 := mt (own_lt_iff own_k1114111 rfl).mpr hc7
              have q_hc15 := mt (own_lt_iff rfl own_k32).mpr hc15
              have q_hc45 := (own_lt_iff rfl own_k55296).mp hc45
              have q_hc59 := mt (own_eq_iff rfl own_k65534).mpr hc59
              have q_hc65 := mt (own_eq_iff rfl own_k65535).mpr hc65
              have hv : own_xml x0 = (1 : Int32) := by unfold own_xml; exact if_pos (by omega)
              rw [hv] at hr
              exact retN X hx (t := .boolean) hret (by simp) (hb hby d2_71) hr
        · refine XS.icmpNo X.here hx rfl (hb hby d2_45) rfl (flt hc45).1 ?_
          show Steps p.tables e below (T.setTop (mkF m 48 #[.val (.int x0)] [])) _
          refine XS.iloadN X.here hx rfl (hb hby d2_48) rfl ?_
          show Steps p.tables e below (T.setTop (mkF m 49 #[.val (.int x0)] [(.int x0)])) _
          refine X.ldcInt hx hown (mvT hZ (hw _ (List.mem_of_getElem? (i := 3) rfl))) (g := (mkF m 49 #[.val (.int x0)] [(.int x0)])) rfl (hb hby d2_49) _ ?_
          show Steps p.tables e below (T.setTop (mkF m 51 #[.val (.int x0)] [(.int (57343 : Int32)), (.int x0)])) _
          by_cases hc51 : (57343 : Int32) < x0
          · refine XS.icmpYes X.here hx rfl (pc0 := 51) (pc' := 56) rfl (hb hby d2_51) rfl (tlt hc51).2.2.1 (by decide) (by decide) ?_
            show Steps p.tables e below (T.setTop (mkF m 56 #[.val (.int x0)] [])) _
            refine XS.iloadN X.here hx rfl (hb hby d2_56) rfl ?_
            show Steps p.tables e below (T.setTop (mkF m 57 #[.val (.int x0)] [(.int x0)])) _
            refine X.ldcInt hx hown (mvT hZ (hw _ (List.mem_of_getElem? (i := 23) rfl))) (g := (mkF m 57 #[.val (.int x0)] [(.int x0)])) rfl (hb hby d2_57) _ ?_
            show Steps p.tables e below (T.setTop (mkF m 59 #[.val (.int x0)] [(.int (65534 : Int32)), (.int x0)])) _
            by_cases hc59 : x0 = (65534 : Int32)
            · refine XS.icmpYes X.here hx rfl (pc0 := 59) (pc' := 68) rfl (hb hby d2_59) rfl (teq hc59).1 (by decide) (by decide) ?_
              show Steps p.tables e below (T.setTop (mkF m 68 #[.val (.int x0)] [])) _
              refine XS.iconst X.here hx rfl (hb hby d2_68) ?_
              show Steps p.tables e below (T.setTop (mkF m 69 #[.val (.int x0)] [(.int (0 : Int32))])) _
              have q_hc1 := mt (own_lt_iff rfl own_k0).mpr hc1
              have q_hc7 := mt (own_lt_iff own_k1114111 rfl).mpr hc7
              have q_hc15 := mt (own_lt_iff rfl own_k32).mpr hc15
              have q_hc45 := mt (own_lt_iff rfl own_k55296).mpr hc45
              have q_hc51 := (own_lt_iff own_k57343 rfl).mp hc51
              have q_hc59 := (own_eq_iff rfl own_k65534).mp hc59
              have hv : own_xml x0 = (0 : Int32) := by unfold own_xml; exact if_neg (by omega)
              rw [hv] at hr
              exact retN X hx (t := .boolean) hret (by simp) (hb hby d2_69) hr
            · refine XS.icmpNo X.here hx rfl (hb hby d2_59) rfl (feq hc59).1 ?_
              show Steps p.tables e below (T.setTop (mkF m 62 #[.val (.int x0)] [])) _
              refine XS.iloadN X.here hx rfl (hb hby d2_62) rfl ?_
              show Steps p.tables e below (T.setTop (mkF m 63 #[.val (.int x0)] [(.int x0)])) _
              refine X.ldcInt hx hown (mvT hZ (hw _ (List.mem_of_getElem? (i := 6) rfl))) (g := (mkF m 63 #[.val (.int x0)] [(.int x0)])) rfl (hb hby d2_63) _ ?_
              show Steps p.tables e below (T.setTop (mkF m 65 #[.val (.int x0)] [(.int (65535 : Int32)), (.int x0)])) _
              by_cases hc65 : x0 = (65535 : Int32)
              · refine XS.icmpNo X.here hx rfl (hb hby d2_65) rfl (teq hc65).2 ?_
                show Steps p.tables e below (T.setTop (mkF m 68 #[.val (.int x0)] [])) _
                refine XS.iconst X.here hx rfl (hb hby d2_68) ?_
                show Steps p.tables e below (T.setTop (mkF m 69 #[.val (.int x0)] [(.int (0 : Int32))])) _
                have q_hc1 := mt (own_lt_iff rfl own_k0).mpr hc1
                have q_hc7 := mt (own_lt_iff own_k1114111 rfl).mpr hc7
                have q_hc15 := mt (own_lt_iff rfl own_k32).mpr hc15
                have q_hc45 := mt (own_lt_iff rfl own_k55296).mpr hc45
                have q_hc51 := (own_lt_iff own_k57343 rfl).mp hc51
                have q_hc59 := mt (own_eq_iff rfl own_k65534).mpr hc59
                have q_hc65 := (own_eq_iff rfl own_k65535).mp hc65
                have hv : own_xml x0 = (0 : Int32) := by unfold own_xml; exact if_neg (by omega)
                rw [hv] at hr
                exact retN X hx (t := .boolean) hret (by simp) (hb hby d2_69) hr
              · refine XS.icmpYes X.here hx rfl (pc0 := 65) (pc' := 70) rfl (hb hby d2_65) rfl (feq hc65).2 (by decide) (by decide) ?_
                show Steps p.tables e below (T.setTop (mkF m 70 #[.val (.int x0)] [])) _
                refine XS.iconst X.here hx rfl (hb hby d2_70) ?_
                show Steps p.tables e below (T.setTop (mkF m 71 #[.val (.int x0)] [(.int (1 : Int32))])) _
                have q_hc1 := mt (own_lt_iff rfl own_k0).mpr hc1
                have q_hc7 := mt (own_lt_iff own_k1114111 rfl).mpr hc7
                have q_hc15 := mt (own_lt_iff rfl own_k32).mpr hc15
                have q_hc45 := mt (own_lt_iff rfl own_k55296).mpr hc45
                have q_hc51 := (own_lt_iff own_k57343 rfl).mp hc51
                have q_hc59 := mt (own_eq_iff rfl own_k65534).mpr hc59
                have q_hc65 := mt (own_eq_iff rfl own_k65535).mpr hc65
                have hv : own_xml x0 = (1 : Int32) := by unfold own_xml; exact if_pos (by omega)
                rw [hv] at hr
                exact retN X hx (t := .boolean) hret (by simp) (hb hby d2_71) hr
          · refine XS.icmpNo X.here hx rfl (hb hby d2_51) rfl (flt hc51).2.2.1 ?_
            show Steps p.tables e below (T.setTop (mkF m 54 #[.val (.int x0)] [])) _
            refine XS.iconst X.here hx rfl (hb hby d2_54) ?_
            show Steps p.tables e below (T.setTop (mkF m 55 #[.val (.int x0)] [(.int (0 : Int32))])) _
            have q_hc1 := mt (own_lt_iff rfl own_k0).mpr hc1
            have q_hc7 := mt (own_lt_iff own_k1114111 rfl).mpr hc7
            have q_hc15 := mt (own_lt_iff rfl own_k32).mpr hc15
            have q_hc45 := mt (own_lt_iff rfl own_k55296).mpr hc45
            have q_hc51 := mt (own_lt_iff own_k57343 rfl).mpr hc51
            have hv : own_xml x0 = (0 : Int32) := by unfold own_xml; exact if_neg (by omega)
            rw [hv] at hr
            exact retN X hx (t := .boolean) hret (by simp) (hb hby d2_55) hr
def Q2 (x0 : Int32) (h0 : Heap) (n0 : Nat) (v : Option Value) (h : Heap) (L : List Loc) : Prop := v = some (.int (own_xml x0)) ∧ Fr n0 L ∧ h = h0
set_option maxRecDepth 65536 in
set_option maxHeartbeats 40000000 in
theorem rm2 (l : Launch) (Z : State) (a0 : Array Value) (hw : ∀ d ∈ tables_1, d.before a0 Z = true) (ws : List Jvm.Cond) (x0 : Int32) (h0 : Heap) (n0 : Nat) (Z0 : n0 ≤ h0.size)  :
    MetFree l (⟨"com/example/xylem/xylem/model/QNameIsXmlCharPinLaw", "reference", "(I)Z"⟩ : MethodName) (head1 (Jvm.Cond.code (⟨"com/example/xylem/xylem/model/QNameIsXmlCharPinLaw", "reference", "(I)Z"⟩ : MethodName) method_2_code 1 (some .boolean) :: ws) ({ frames := 0, cells := 0, slots := 0, locals := 0 } : Room)) (fun as_ U => as_ = #[(.int x0)] ∧ Z.Warmed39 U.vm ∧ U.heap = h0) (fun _ _ _ _ _ => True) (fun _ U o U' => ∃ v L, o = .returned v ∧ Q2 x0 h0 n0 v U'.heap L ∧ FrameEnd U o U' L ({ frames := 0, cells := 0, slots := 0, locals := 0 } : Room).cells ({ frames := 0, cells := 0, slots := 0, locals := 0 } : Room).slots) := by
  refine MetFree.of_bodySF (plainFor_of_name pn_2) hisR ?_
  intro p e s m args below meth c s₁ Bd hml0 hP hK
  obtain ⟨rfl, hZ, hh⟩ := hP
  have hx := Bd.exec
  have hby := Bd.bytes
  have hml : c.maxLocals = 1 := hml0
  have hown : s.vm.findClass "com/example/xylem/xylem/model/QNameIsXmlCharPinLaw" = some m.cls := findClass_of_methodNamed Bd.named
  have hnm := (name_of_methodNamed Bd.named Bd.method).1
  have X0 : Stand p l e ({ frames := 0, cells := 0, slots := 0, locals := 0 } : Room) s m #[(.int x0)] below meth c s₁ [] 0 0 := Stand.of_body Bd
  have e0 : s₁.heap = h0 := by rw [← hh, Bd.state]; rfl
  have N0 := Fr.nil n0
  have pre0 : ∀ t, Steps p.tables e below (s₁.setTop (mkF m 0 #[.val (.int x0)] [])) t → Steps p.tables e below (s₁.setTop (entryFrame m #[(.int x0)] 1)) t := fun t k => castTop (ef_2 m x0) k
  obtain ⟨fs, hr, hrun, hended, hW, hsame⟩ := X0.leave (v := some (.int (own_xml x0))) (fun h => by rw [Bd.returns] at h; cases h)
  refine ⟨_, _, pre0 _ ?_, hrun, hended, _, _, rfl, ?_, ⟨_, rfl⟩, hW, hsame.mono (by decide) (by decide)⟩
  · exact wk2 X0 hx hZ hw hby hown Bd.returns x0 hr
  · show Q2 x0 h0 n0 _ s₁.heap _
    rw [e0]
    exact ⟨rfl, N0, rfl⟩
theorem own_idx (i1 : Int32) : ¬ (((i1.toUInt32 >>> ((1 : Int32) &&& 31).toUInt32).toInt32) - ((((i1.toUInt32 >>> ((1 : Int32) &&& 31).toUInt32).toInt32) / (15 : Int32)) * (15 : Int32))) < 0 ∧ (((i1.toUInt32 >>> ((1 : Int32) &&& 31).toUInt32).toInt32) - ((((i1.toUInt32 >>> ((1 : Int32) &&& 31).toUInt32).toInt32) / (15 : Int32)) * (15 : Int32))) < (15 : Int32) := by
  have h1 := c_iushr i1 (1 : Int32) 1 (by decide) (by decide)
  generalize ((i1.toUInt32 >>> ((1 : Int32) &&& 31).toUInt32).toInt32) = z at *
  have h2 : z.toInt = (i1.toInt % 4294967296) / 2 := h1
  have hd := (c_idiv z (15 : Int32) 15 (by decide) (by decide)).1 (by omega)
  have hm := c_imul (z / (15 : Int32)) (15 : Int32)
  rw [show (15 : Int32).toInt = 15 from by decide] at hm
  have hs := c_isub z ((z / (15 : Int32)) * (15 : Int32))
  have r1 := rng32 ((z / (15 : Int32)) * (15 : Int32))
  have r2 := rng32 (z - (z / (15 : Int32)) * (15 : Int32))
  have r3 := rng32 z
  rw [Int32.lt_iff_toInt_lt, Int32.lt_iff_toInt_lt, show (15 : Int32).toInt = 15 from by decide, show (0 : Int32).toInt = 0 from by decide]
  omega
set_option maxRecDepth 65536 in
set_option maxHeartbeats 40000000 in
theorem sg0 {p : Program} {l : Launch} {e : Env} {R : Room} {s : State} {m : MethodId} {args : Array Value} {below : List Frame} {meth : Method} {c : Code} {T : State} {locs : List Loc} {cells slots : Nat} {Z : State} {a0 : Array Value} (X : Stand p l e R s m args below meth c T locs cells slots) (hx : p.tables.exec = Jvm.exec) (hZ : Z.Warmed39 s.vm) (hw : ∀ d ∈ tables_1, d.before a0 Z = true) (hby : c.code = code) (hown : s.vm.findClass "com/example/xylem/xylem/model/QNameIsXmlCharPinLaw" = some m.cls) (i0 i1 i2 : Int32) (b1 : Addr) {h : Heap} (eT : T.heap = h) (cl : Cell) (Ar : Arr Z h b1 cl .int) (Sz : cl.slots.size = (15 : Int32).toNatClampNeg) (w : Int32) (hin : ¬ ((((i1.toUInt32 >>> ((1 : Int32) &&& 31).toUInt32).toInt32) - ((((i1.toUInt32 >>> ((1 : Int32) &&& 31).toUInt32).toInt32) / (15 : Int32)) * (15 : Int32))) < 0 ∨ cl.slots.size ≤ ((((i1.toUInt32 >>> ((1 : Int32) &&& 31).toUInt32).toInt32) - ((((i1.toUInt32 >>> ((1 : Int32) &&& 31).toUInt32).toInt32) / (15 : Int32)) * (15 : Int32)))).toNatClampNeg)) (hat : cl.slots[((((i1.toUInt32 >>> ((1 : Int32) &&& 31).toUInt32).toInt32) - ((((i1.toUInt32 >>> ((1 : Int32) &&& 31).toUInt32).toInt32) / (15 : Int32)) * (15 : Int32)))).toNatClampNeg]? = some (.int w)) (cc : Int32) (ec : cc = if (i1 &&& (1 : Int32)) = (0 : Int32) then (w + ((i2 &&& (7 : Int32)) - (3 : Int32))) else i0) {target : State} (kt : Steps p.tables e below (T.setTop (mkF m 113 #[.val (.int i0), .val (.int i1), .val (.int i2), .val (.ref b1), .unset] [(.int cc)])) target) : Steps p.tables e below (T.setTop (mkF m 88 #[.val (.int i0), .val (.int i1), .val (.int i2), .val (.ref b1), .unset] [])) target := by
  show Steps p.tables e below (T.setTop (mkF m 88 #[.val (.int i0), .val (.int i1), .val (.int i2), .val (.ref b1), .unset] [])) _
  refine XS.iloadN X.here hx rfl (hb hby at_88) rfl ?_
  show Steps p.tables e below (T.setTop (mkF m 89 #[.val (.int i0), .val (.int i1), .val (.int i2), .val (.ref b1), .unset] [(.int i1)])) _
  refine XS.iconst X.here hx rfl (hb hby at_89) ?_
  show Steps p.tables e below (T.setTop (mkF m 90 #[.val (.int i0), .val (.int i1), .val (.int i2), .val (.ref b1), .unset] [(.int (1 : Int32)), (.int i1)])) _
  refine XS.iand X.here hx rfl (hb hby at_90) rfl ?_
  show Steps p.tables e below (T.setTop (mkF m 91 #[.val (.int i0), .val (.int i1), .val (.int i2), .val (.ref b1), .unset] [(.int (i1 &&& (1 : Int32)))])) _
  by_cases hc91 : (i1 &&& (1 : Int32)) = (0 : Int32)
  · refine XS.ifYes X.here hx rfl (pc0 := 91) (pc' := 98) rfl (hb hby at_91) rfl ((if0 _ _).trans (teq hc91).1) (by decide) (by decide) ?_
    show Steps p.tables e below (T.setTop (mkF m 98 #[.val (.int i0), .val (.int i1), .val (.int i2), .val (.ref b1), .unset] [])) _
    refine XS.aloadN X.here hx rfl (hb hby at_98) rfl rfl ?_
    show Steps p.tables e below (T.setTop (mkF m 99 #[.val (.int i0), .val (.int i1), .val (.int i2), .val (.ref b1), .unset] [(.ref b1)])) _
    refine XS.iloadN X.here hx rfl (hb hby at_99) rfl ?_
    show Steps p.tables e below (T.setTop (mkF m 100 #[.val (.int i0), .val (.int i1), .val (.int i2), .val (.ref b1), .unset] [(.int i1), (.ref b1)])) _
    refine XS.iconst X.here hx rfl (hb hby at_100) ?_
    show Steps p.tables e below (T.setTop (mkF m 101 #[.val (.int i0), .val (.int i1), .val (.int i2), .val (.ref b1), .unset] [(.int (1 : Int32)), (.int i1), (.ref b1)])) _
    refine XS.iushr X.here hx rfl (hb hby at_101) rfl ?_
    show Steps p.tables e below (T.setTop (mkF m 102 #[.val (.int i0), .val (.int i1), .val (.int i2), .val (.ref b1), .unset] [(.int ((i1.toUInt32 >>> ((1 : Int32) &&& 31).toUInt32).toInt32)), (.ref b1)])) _
    refine XS.aloadN X.here hx rfl (hb hby at_102) rfl rfl ?_
    show Steps p.tables e below (T.setTop (mkF m 103 #[.val (.int i0), .val (.int i1), .val (.int i2), .val (.ref b1), .unset] [(.ref b1), (.int ((i1.toUInt32 >>> ((1 : Int32) &&& 31).toUInt32).toInt32)), (.ref b1)])) _
    refine X.arraylength hx (cell := cl) (by rw [eT]; exact Ar.1) (State.isArrayOf_alike hZ.alike Ar.2.1) (g := (mkF m 103 #[.val (.int i0), .val (.int i1), .val (.int i2), .val (.ref b1), .unset] [(.ref b1), (.int ((i1.toUInt32 >>> ((1 : Int32) &&& 31).toUInt32).toInt32)), (.ref b1)])) rfl (rest := [(.int ((i1.toUInt32 >>> ((1 : Int32) &&& 31).toUInt32).toInt32)), (.ref b1)]) rfl (hb hby at_103) _ ?_
    rw [len_of Sz (by decide)]
    show Steps p.tables e below (T.setTop (mkF m 104 #[.val (.int i0), .val (.int i1), .val (.int i2), .val (.ref b1), .unset] [(.int (15 : Int32)), (.int ((i1.toUInt32 >>> ((1 : Int32) &&& 31).toUInt32).toInt32)), (.ref b1)])) _
    refine XS.irem X.here hx rfl (hb hby at_104) rfl (by decide) ?_
    show Steps p.tables e below (T.setTop (mkF m 105 #[.val (.int i0), .val (.int i1), .val (.int i2), .val (.ref b1), .unset] [(.int (((i1.toUInt32 >>> ((1 : Int32) &&& 31).toUInt32).toInt32) - ((((i1.toUInt32 >>> ((1 : Int32) &&& 31).toUInt32).toInt32) / (15 : Int32)) * (15 : Int32)))), (.ref b1)])) _
    refine X.iaload hx (j := (((i1.toUInt32 >>> ((1 : Int32) &&& 31).toUInt32).toInt32) - ((((i1.toUInt32 >>> ((1 : Int32) &&& 31).toUInt32).toInt32) / (15 : Int32)) * (15 : Int32)))) (v := (.int w)) (by rw [eT]; exact Ar.1) (State.isArrayOf_alike hZ.alike Ar.2.1) Ar.2.2 hin hat (g := (mkF m 105 #[.val (.int i0), .val (.int i1), .val (.int i2), .val (.ref b1), .unset] [(.int (((i1.toUInt32 >>> ((1 : Int32) &&& 31).toUInt32).toInt32) - ((((i1.toUInt32 >>> ((1 : Int32) &&& 31).toUInt32).toInt32) / (15 : Int32)) * (15 : Int32)))), (.ref b1)])) rfl rfl (hb hby at_105) _ ?_
    show Steps p.tables e below (T.setTop (mkF m 106 #[.val (.int i0), .val (.int i1), .val (.int i2), .val (.ref b1), .unset] [(.int w)])) _
    refine XS.iloadN X.here hx rfl (hb hby at_106) rfl ?_
    show Steps p.tables e below (T.setTop (mkF m 107 #[.val (.int i0), .val (.int i1), .val (.int i2), .val (.ref b1), .unset] [(.int i2), (.int w)])) _
    refine XS.bipush X.here hx rfl (hb hby at_107) ?_
    show Steps p.tables e below (T.setTop (mkF m 109 #[.val (.int i0), .val (.int i1), .val (.int i2), .val (.ref b1), .unset] [(.int (7 : Int32)), (.int i2), (.int w)])) _
    refine XS.iand X.here hx rfl (hb hby at_109) rfl ?_
    show Steps p.tables e below (T.setTop (mkF m 110 #[.val (.int i0), .val (.int i1), .val (.int i2), .val (.ref b1), .unset] [(.int (i2 &&& (7 : Int32))), (.int w)])) _
    refine XS.iconst X.here hx rfl (hb hby at_110) ?_
    show Steps p.tables e below (T.setTop (mkF m 111 #[.val (.int i0), .val (.int i1), .val (.int i2), .val (.ref b1), .unset] [(.int (3 : Int32)), (.int (i2 &&& (7 : Int32))), (.int w)])) _
    refine XS.isub X.here hx rfl (hb hby at_111) rfl ?_
    show Steps p.tables e below (T.setTop (mkF m 112 #[.val (.int i0), .val (.int i1), .val (.int i2), .val (.ref b1), .unset] [(.int ((i2 &&& (7 : Int32)) - (3 : Int32))), (.int w)])) _
    refine XS.iadd X.here hx rfl (hb hby at_112) rfl ?_
    obtain rfl : cc = (w + ((i2 &&& (7 : Int32)) - (3 : Int32))) := ec.trans (by first | exact if_pos hc91 | rfl | simp only [hc91, ↓reduceIte, eq_self])
    exact kt
  · refine XS.ifNo X.here hx rfl (hb hby at_91) rfl ((if0 _ _).trans (feq hc91).1) ?_
    show Steps p.tables e below (T.setTop (mkF m 94 #[.val (.int i0), .val (.int i1), .val (.int i2), .val (.ref b1), .unset] [])) _
    refine XS.iloadN X.here hx rfl (hb hby at_94) rfl ?_
    show Steps p.tables e below (T.setTop (mkF m 95 #[.val (.int i0), .val (.int i1), .val (.int i2), .val (.ref b1), .unset] [(.int i0)])) _
    refine XS.goto X.here hx rfl (pc0 := 95) (pc' := 113) rfl (hb hby at_95) (by decide) (by decide) ?_
    obtain rfl : cc = i0 := ec.trans (by first | exact if_neg hc91 | rfl | simp only [hc91, ↓reduceIte, eq_self])
    exact kt
def Q0 (h0 : Heap) (n0 : Nat) (v : Option Value) (h : Heap) (L : List Loc) : Prop := v = some (.int 1) ∧ Fr n0 L
set_option maxRecDepth 65536 in
set_option maxHeartbeats 40000000 in
theorem rm0 (l : Launch) (Z : State) (a0 : Array Value) (hw : ∀ d ∈ tables_1, d.before a0 Z = true) (ws : List Jvm.Cond) (i0 i1 i2 : Int32) (h0 : Heap) (n0 : Nat) (Z0 : n0 ≤ h0.size)  :
    MetFree l x (head1 (Jvm.Cond.code x code maxLocals ret :: ws) room_1) (fun as_ U => as_ = #[(.int i0), (.int i1), (.int i2)] ∧ Z.Warmed39 U.vm ∧ U.heap = h0) (fun _ _ _ _ _ => True) (fun _ U o U' => ∃ v L, o = .returned v ∧ Q0 h0 n0 v U'.heap L ∧ FrameEnd U o U' L 1 15) := by
  refine MetFree.of_bodySF (plainFor_of_name pn_0) hisR ?_
  intro p e s m args below meth c s₁ Bd hml0 hP hK
  obtain ⟨rfl, hZ, hh⟩ := hP
  have hx := Bd.exec
  have hby := Bd.bytes
  have hml : c.maxLocals = 5 := hml0
  have hown : s.vm.findClass "com/example/xylem/xylem/model/QNameIsXmlCharPinLaw" = some m.cls := findClass_of_methodNamed Bd.named
  have hnm := (name_of_methodNamed Bd.named Bd.method).1
  have X0 : Stand p l e room_1 s m #[(.int i0), (.int i1), (.int i2)] below meth c s₁ [] 0 0 := Stand.of_body Bd
  have e0 : s₁.heap = h0 := by rw [← hh, Bd.state]; rfl
  have N0 := Fr.nil n0
  have pre0 : ∀ t, Steps p.tables e below (s₁.setTop (mkF m 0 #[.val (.int i0), .val (.int i1), .val (.int i2), .unset, .unset] [])) t → Steps p.tables e below (s₁.setTop (entryFrame m #[(.int i0), (.int i1), (.int i2)] maxLocals)) t := fun t k => castTop (ef_0 m i0 i1 i2) k
  obtain ⟨T1, h1, k1, X1, e1, E1, A1, st1⟩ := newP X0 hx hZ (hw _ (List.mem_of_getElem? (i := 0) rfl)) e0 (g := (mkF m 2 #[.val (.int i0), .val (.int i1), .val (.int i2), .unset, .unset] [(.int (15 : Int32))])) rfl (hb hby at_2) rfl (by decide) (cap := 15) (by decide) (by decide) (by decide) (by decide)
  obtain ⟨b1, g1⟩ : ∃ z, z = h0.size := ⟨_, rfl⟩
  rw [← g1] at A1 st1
  have I1 : own_ia Z h1 b1 (15 : Int32) := own_ia_new A1
  have gb1 : n0 ≤ b1 := Nat.le_trans Z0 (Nat.le_of_eq g1.symm)
  have Z1 : n0 ≤ h1.size := Nat.le_trans Z0 E1.1
  obtain ⟨T2, h2, lc2, X2, e2, I2, N2, Z2, st2⟩ := own_fill X1 hx hZ e1 I1 N0 gb1 Z1 (0 : Int32) (0 : Int32) (by decide) (g := (mkF m 7 #[.val (.int i0), .val (.int i1), .val (.int i2), .unset, .unset] [(.int (0 : Int32)), (.int (0 : Int32)), (.ref b1), (.ref b1)])) rfl rfl (hb hby at_7)
  obtain ⟨T3, h3, lc3, X3, e3, I3, N3, Z3, st3⟩ := own_fill X2 hx hZ e2 I2 N2 gb1 Z2 (1 : Int32) (9 : Int32) (by decide) (g := (mkF m 12 #[.val (.int i0), .val (.int i1), .val (.int i2), .unset, .unset] [(.int (9 : Int32)), (.int (1 : Int32)), (.ref b1), (.ref b1)])) rfl rfl (hb hby at_12)
  obtain ⟨T4, h4, lc4, X4, e4, I4, N4, Z4, st4⟩ := own_fill X3 hx hZ e3 I3 N3 gb1 Z3 (2 : Int32) (10 : Int32) (by decide) (g := (mkF m 17 #[.val (.int i0), .val (.int i1), .val (.int i2), .unset, .unset] [(.int (10 : Int32)), (.int (2 : Int32)), (.ref b1), (.ref b1)])) rfl rfl (hb hby at_17)
  obtain ⟨T5, h5, lc5, X5, e5, I5, N5, Z5, st5⟩ := own_fill X4 hx hZ e4 I4 N4 gb1 Z4 (3 : Int32) (13 : Int32) (by decide) (g := (mkF m 22 #[.val (.int i0), .val (.int i1), .val (.int i2), .unset, .unset] [(.int (13 : Int32)), (.int (3 : Int32)), (.ref b1), (.ref b1)])) rfl rfl (hb hby at_22)
  obtain ⟨T6, h6, lc6, X6, e6, I6, N6, Z6, st6⟩ := own_fill X5 hx hZ e5 I5 N5 gb1 Z5 (4 : Int32) (32 : Int32) (by decide) (g := (mkF m 27 #[.val (.int i0), .val (.int i1), .val (.int i2), .unset, .unset] [(.int (32 : Int32)), (.int (4 : Int32)), (.ref b1), (.ref b1)])) rfl rfl (hb hby at_27)
  obtain ⟨T7, h7, lc7, X7, e7, I7, N7, Z7, st7⟩ := own_fill X6 hx hZ e6 I6 N6 gb1 Z6 (5 : Int32) (55295 : Int32) (by decide) (g := (mkF m 32 #[.val (.int i0), .val (.int i1), .val (.int i2), .unset, .unset] [(.int (55295 : Int32)), (.int (5 : Int32)), (.ref b1), (.ref b1)])) rfl rfl (hb hby at_32)
  obtain ⟨T8, h8, lc8, X8, e8, I8, N8, Z8, st8⟩ := own_fill X7 hx hZ e7 I7 N7 gb1 Z7 (6 : Int32) (55296 : Int32) (by decide) (g := (mkF m 38 #[.val (.int i0), .val (.int i1), .val (.int i2), .unset, .unset] [(.int (55296 : Int32)), (.int (6 : Int32)), (.ref b1), (.ref b1)])) rfl rfl (hb hby at_38)
  obtain ⟨T9, h9, lc9, X9, e9, I9, N9, Z9, st9⟩ := own_fill X8 hx hZ e8 I8 N8 gb1 Z8 (7 : Int32) (57343 : Int32) (by decide) (g := (mkF m 44 #[.val (.int i0), .val (.int i1), .val (.int i2), .unset, .unset] [(.int (57343 : Int32)), (.int (7 : Int32)), (.ref b1), (.ref b1)])) rfl rfl (hb hby at_44)
  obtain ⟨T10, h10, lc10, X10, e10, I10, N10, Z10, st10⟩ := own_fill X9 hx hZ e9 I9 N9 gb1 Z9 (8 : Int32) (57344 : Int32) (by decide) (g := (mkF m 50 #[.val (.int i0), .val (.int i1), .val (.int i2), .unset, .unset] [(.int (57344 : Int32)), (.int (8 : Int32)), (.ref b1), (.ref b1)])) rfl rfl (hb hby at_50)
  obtain ⟨T11, h11, lc11, X11, e11, I11, N11, Z11, st11⟩ := own_fill X10 hx hZ e10 I10 N10 gb1 Z10 (9 : Int32) (65533 : Int32) (by decide) (g := (mkF m 56 #[.val (.int i0), .val (.int i1), .val (.int i2), .unset, .unset] [(.int (65533 : Int32)), (.int (9 : Int32)), (.ref b1), (.ref b1)])) rfl rfl (hb hby at_56)
  obtain ⟨T12, h12, lc12, X12, e12, I12, N12, Z12, st12⟩ := own_fill X11 hx hZ e11 I11 N11 gb1 Z11 (10 : Int32) (65535 : Int32) (by decide) (g := (mkF m 62 #[.val (.int i0), .val (.int i1), .val (.int i2), .unset, .unset] [(.int (65535 : Int32)), (.int (10 : Int32)), (.ref b1), (.ref b1)])) rfl rfl (hb hby at_62)
  obtain ⟨T13, h13, lc13, X13, e13, I13, N13, Z13, st13⟩ := own_fill X12 hx hZ e12 I12 N12 gb1 Z12 (11 : Int32) (65536 : Int32) (by decide) (g := (mkF m 68 #[.val (.int i0), .val (.int i1), .val (.int i2), .unset, .unset] [(.int (65536 : Int32)), (.int (11 : Int32)), (.ref b1), (.ref b1)])) rfl rfl (hb hby at_68)
  obtain ⟨T14, h14, lc14, X14, e14, I14, N14, Z14, st14⟩ := own_fill X13 hx hZ e13 I13 N13 gb1 Z13 (12 : Int32) (1114111 : Int32) (by decide) (g := (mkF m 74 #[.val (.int i0), .val (.int i1), .val (.int i2), .unset, .unset] [(.int (1114111 : Int32)), (.int (12 : Int32)), (.ref b1), (.ref b1)])) rfl rfl (hb hby at_74)
  obtain ⟨T15, h15, lc15, X15, e15, I15, N15, Z15, st15⟩ := own_fill X14 hx hZ e14 I14 N14 gb1 Z14 (13 : Int32) (-2147483648 : Int32) (by decide) (g := (mkF m 80 #[.val (.int i0), .val (.int i1), .val (.int i2), .unset, .unset] [(.int (-2147483648 : Int32)), (.int (13 : Int32)), (.ref b1), (.ref b1)])) rfl rfl (hb hby at_80)
  obtain ⟨T16, h16, lc16, X16, e16, I16, N16, Z16, st16⟩ := own_fill X15 hx hZ e15 I15 N15 gb1 Z15 (14 : Int32) (2147483647 : Int32) (by decide) (g := (mkF m 86 #[.val (.int i0), .val (.int i1), .val (.int i2), .unset, .unset] [(.int (2147483647 : Int32)), (.int (14 : Int32)), (.ref b1), (.ref b1)])) rfl rfl (hb hby at_86)
  obtain ⟨cl, Ar, Sz, Hz⟩ := I16
  have hin := inb_of Sz (own_idx i1)
  obtain ⟨w, hat⟩ := Hz ((((i1.toUInt32 >>> ((1 : Int32) &&& 31).toUInt32).toInt32) - ((((i1.toUInt32 >>> ((1 : Int32) &&& 31).toUInt32).toInt32) / (15 : Int32)) * (15 : Int32)))).toNatClampNeg (Nat.lt_of_not_le fun q => hin (Or.inr q))
  obtain ⟨cc, ec⟩ : ∃ z, z = if (i1 &&& (1 : Int32)) = (0 : Int32) then (w + ((i2 &&& (7 : Int32)) - (3 : Int32))) else i0 := ⟨_, rfl⟩
  obtain ⟨_, _, ⟨T17, L17, k17, n17⟩, -, X17, ⟨Lc17, hQ17, l17, y17, z17⟩, st17⟩ := Jvm.LawKit.callS X16 hx (y := (⟨"com/example/xylem/xylem/model/QName", "isXmlChar", "(I)Z"⟩ : MethodName)) hown (mvT hZ (hw _ (List.mem_of_getElem? (i := 11) rfl))) (mvT hZ (hw _ (List.mem_of_getElem? (i := 12) rfl))) (mvT hZ (hw _ (List.mem_of_getElem? (i := 13) rfl))) (mvT hZ (hw _ (List.mem_of_getElem? (i := 14) rfl))) (by decide) (backOf (W := 0) (rm1 l Z a0 hw [] cc h16 n0 Z16) hZ (hw _ (List.mem_of_getElem? (i := 14) rfl)) (hw _ (List.mem_of_getElem? (i := 13) rfl)) (by decide) (by decide)) (g := (mkF m 117 #[.val (.int i0), .val (.int i1), .val (.int i2), .val (.ref b1), .val (.int cc)] [(.int cc)])) rfl (by rw [hml]; rfl) (argsL := [(.int cc)]) (rest := []) (lenOf pd_1 rfl) rfl (by show 2 * 0 + _ ≤ _; exact Nat.le_of_eq rfl) (hb hby at_117) (fun _ _ => ⟨rfl, e16, (by decide : 1 + 0 ≤ _), (by decide : 15 + 0 ≤ _)⟩)
  dsimp only [Pt.U, Pt.locs, Pt.cells, Pt.slots] at X17 l17 y17 z17 st17 hQ17
  subst l17 y17 z17
  obtain ⟨rfl, N17q, eh17⟩ := hQ17
  have Z17 : n0 ≤ T17.heap.size := by rw [eh17]; exact Z16
  have N17 := Fr.app N16 N17q
  obtain ⟨_, _, ⟨T18, L18, k18, n18⟩, -, X18, ⟨Lc18, hQ18, l18, y18, z18⟩, st18⟩ := Jvm.LawKit.callS X17 hx (y := (⟨"com/example/xylem/xylem/model/QNameIsXmlCharPinLaw", "reference", "(I)Z"⟩ : MethodName)) hown (mvT hZ (hw _ (List.mem_of_getElem? (i := 17) rfl))) (mvT hZ (hw _ (List.mem_of_getElem? (i := 18) rfl))) (mvT hZ (hw _ (List.mem_of_getElem? (i := 19) rfl))) (mvT hZ (hw _ (List.mem_of_getElem? (i := 20) rfl))) (by decide) (backOf (W := 1) (rm2 l Z a0 hw [] cc T17.heap n0 Z17) hZ (hw _ (List.mem_of_getElem? (i := 20) rfl)) (hw _ (List.mem_of_getElem? (i := 19) rfl)) (by decide) (by decide)) (g := (mkF m 122 #[.val (.int i0), .val (.int i1), .val (.int i2), .val (.ref b1), .val (.int cc)] [(.int cc), (.int (own_xml cc))])) rfl (by rw [hml]; rfl) (argsL := [(.int cc)]) (rest := [(.int (own_xml cc))]) (lenOf pd_2 rfl) rfl (by show 2 * 0 + _ ≤ _; exact Nat.le_of_eq rfl) (hb hby at_122) (fun _ _ => ⟨rfl, rfl, (by decide : 1 + 0 ≤ _), (by decide : 15 + 0 ≤ _)⟩)
  dsimp only [Pt.U, Pt.locs, Pt.cells, Pt.slots] at X18 l18 y18 z18 st18 hQ18
  subst l18 y18 z18
  obtain ⟨rfl, N18q, eh18⟩ := hQ18
  have N18 := Fr.app N17 N18q
  obtain ⟨fs, hr, hrun, hended, hW, hsame⟩ := X18.leave (v := some (.int (1 : Int32))) (fun h => by rw [Bd.returns] at h; cases h)
  refine ⟨_, _, pre0 _ ?_, hrun, hended, _, _, rfl, ?_, ⟨_, rfl⟩, hW, hsame.mono (by decide) (by decide)⟩
  · show Steps p.tables e below (s₁.setTop (mkF m 0 #[.val (.int i0), .val (.int i1), .val (.int i2), .unset, .unset] [])) _
    refine XS.bipush X0.here hx rfl (hb hby at_0) ?_
    show Steps p.tables e below (s₁.setTop (mkF m 2 #[.val (.int i0), .val (.int i1), .val (.int i2), .unset, .unset] [(.int (15 : Int32))])) _
    refine st1 _ ?_
    show Steps p.tables e below (T1.setTop (mkF m 4 #[.val (.int i0), .val (.int i1), .val (.int i2), .unset, .unset] [(.ref b1)])) _
    refine XS.dup X1.here hx rfl (hb hby at_4) rfl rfl ?_
    show Steps p.tables e below (T1.setTop (mkF m 5 #[.val (.int i0), .val (.int i1), .val (.int i2), .unset, .unset] [(.ref b1), (.ref b1)])) _
    refine XS.iconst X1.here hx rfl (hb hby at_5) ?_
    show Steps p.tables e below (T1.setTop (mkF m 6 #[.val (.int i0), .val (.int i1), .val (.int i2), .unset, .unset] [(.int (0 : Int32)), (.ref b1), (.ref b1)])) _
    refine XS.iconst X1.here hx rfl (hb hby at_6) ?_
    show Steps p.tables e below (T1.setTop (mkF m 7 #[.val (.int i0), .val (.int i1), .val (.int i2), .unset, .unset] [(.int (0 : Int32)), (.int (0 : Int32)), (.ref b1), (.ref b1)])) _
    refine st2 _ ?_
    show Steps p.tables e below (T2.setTop (mkF m 8 #[.val (.int i0), .val (.int i1), .val (.int i2), .unset, .unset] [(.ref b1)])) _
    refine XS.dup X2.here hx rfl (hb hby at_8) rfl rfl ?_
    show Steps p.tables e below (T2.setTop (mkF m 9 #[.val (.int i0), .val (.int i1), .val (.int i2), .unset, .unset] [(.ref b1), (.ref b1)])) _
    refine XS.iconst X2.here hx rfl (hb hby at_9) ?_
    show Steps p.tables e below (T2.setTop (mkF m 10 #[.val (.int i0), .val (.int i1), .val (.int i2), .unset, .unset] [(.int (1 : Int32)), (.ref b1), (.ref b1)])) _
    refine XS.bipush X2.here hx rfl (hb hby at_10) ?_
    show Steps p.tables e below (T2.setTop (mkF m 12 #[.val (.int i0), .val (.int i1), .val (.int i2), .unset, .unset] [(.int (9 : Int32)), (.int (1 : Int32)), (.ref b1), (.ref b1)])) _
    refine st3 _ ?_
    show Steps p.tables e below (T3.setTop (mkF m 13 #[.val (.int i0), .val (.int i1), .val (.int i2), .unset, .unset] [(.ref b1)])) _
    refine XS.dup X3.here hx rfl (hb hby at_13) rfl rfl ?_
    show Steps p.tables e below (T3.setTop (mkF m 14 #[.val (.int i0), .val (.int i1), .val (.int i2), .unset, .unset] [(.ref b1), (.ref b1)])) _
    refine XS.iconst X3.here hx rfl (hb hby at_14) ?_
    show Steps p.tables e below (T3.setTop (mkF m 15 #[.val (.int i0), .val (.int i1), .val (.int i2), .unset, .unset] [(.int (2 : Int32)), (.ref b1), (.ref b1)])) _
    refine XS.bipush X3.here hx rfl (hb hby at_15) ?_
    show Steps p.tables e below (T3.setTop (mkF m 17 #[.val (.int i0), .val (.int i1), .val (.int i2), .unset, .unset] [(.int (10 : Int32)), (.int (2 : Int32)), (.ref b1), (.ref b1)])) _
    refine st4 _ ?_
    show Steps p.tables e below (T4.setTop (mkF m 18 #[.val (.int i0), .val (.int i1), .val (.int i2), .unset, .unset] [(.ref b1)])) _
    refine XS.dup X4.here hx rfl (hb hby at_18) rfl rfl ?_
    show Steps p.tables e below (T4.setTop (mkF m 19 #[.val (.int i0), .val (.int i1), .val (.int i2), .unset, .unset] [(.ref b1), (.ref b1)])) _
    refine XS.iconst X4.here hx rfl (hb hby at_19) ?_
    show Steps p.tables e below (T4.setTop (mkF m 20 #[.val (.int i0), .val (.int i1), .val (.int i2), .unset, .unset] [(.int (3 : Int32)), (.ref b1), (.ref b1)])) _
    refine XS.bipush X4.here hx rfl (hb hby at_20) ?_
    show Steps p.tables e below (T4.setTop (mkF m 22 #[.val (.int i0), .val (.int i1), .val (.int i2), .unset, .unset] [(.int (13 : Int32)), (.int (3 : Int32)), (.ref b1), (.ref b1)])) _
    refine st5 _ ?_
    show Steps p.tables e below (T5.setTop (mkF m 23 #[.val (.int i0), .val (.int i1), .val (.int i2), .unset, .unset] [(.ref b1)])) _
    refine XS.dup X5.here hx rfl (hb hby at_23) rfl rfl ?_
    show Steps p.tables e below (T5.setTop (mkF m 24 #[.val (.int i0), .val (.int i1), .val (.int i2), .unset, .unset] [(.ref b1), (.ref b1)])) _
    refine XS.iconst X5.here hx rfl (hb hby at_24) ?_
    show Steps p.tables e below (T5.setTop (mkF m 25 #[.val (.int i0), .val (.int i1), .val (.int i2), .unset, .unset] [(.int (4 : Int32)), (.ref b1), (.ref b1)])) _
    refine XS.bipush X5.here hx rfl (hb hby at_25) ?_
    show Steps p.tables e below (T5.setTop (mkF m 27 #[.val (.int i0), .val (.int i1), .val (.int i2), .unset, .unset] [(.int (32 : Int32)), (.int (4 : Int32)), (.ref b1), (.ref b1)])) _
    refine st6 _ ?_
    show Steps p.tables e below (T6.setTop (mkF m 28 #[.val (.int i0), .val (.int i1), .val (.int i2), .unset, .unset] [(.ref b1)])) _
    refine XS.dup X6.here hx rfl (hb hby at_28) rfl rfl ?_
    show Steps p.tables e below (T6.setTop (mkF m 29 #[.val (.int i0), .val (.int i1), .val (.int i2), .unset, .unset] [(.ref b1), (.ref b1)])) _
    refine XS.iconst X6.here hx rfl (hb hby at_29) ?_
    show Steps p.tables e below (T6.setTop (mkF m 30 #[.val (.int i0), .val (.int i1), .val (.int i2), .unset, .unset] [(.int (5 : Int32)), (.ref b1), (.ref b1)])) _
    refine X6.ldcInt hx hown (mvT hZ (hw _ (List.mem_of_getElem? (i := 1) rfl))) (g := (mkF m 30 #[.val (.int i0), .val (.int i1), .val (.int i2), .unset, .unset] [(.int (5 : Int32)), (.ref b1), (.ref b1)])) rfl (hb hby at_30) _ ?_
    show Steps p.tables e below (T6.setTop (mkF m 32 #[.val (.int i0), .val (.int i1), .val (.int i2), .unset, .unset] [(.int (55295 : Int32)), (.int (5 : Int32)), (.ref b1), (.ref b1)])) _
    refine st7 _ ?_
    show Steps p.tables e below (T7.setTop (mkF m 33 #[.val (.int i0), .val (.int i1), .val (.int i2), .unset, .unset] [(.ref b1)])) _
    refine XS.dup X7.here hx rfl (hb hby at_33) rfl rfl ?_
    show Steps p.tables e below (T7.setTop (mkF m 34 #[.val (.int i0), .val (.int i1), .val (.int i2), .unset, .unset] [(.ref b1), (.ref b1)])) _
    refine XS.bipush X7.here hx rfl (hb hby at_34) ?_
    show Steps p.tables e below (T7.setTop (mkF m 36 #[.val (.int i0), .val (.int i1), .val (.int i2), .unset, .unset] [(.int (6 : Int32)), (.ref b1), (.ref b1)])) _
    refine X7.ldcInt hx hown (mvT hZ (hw _ (List.mem_of_getElem? (i := 2) rfl))) (g := (mkF m 36 #[.val (.int i0), .val (.int i1), .val (.int i2), .unset, .unset] [(.int (6 : Int32)), (.ref b1), (.ref b1)])) rfl (hb hby at_36) _ ?_
    show Steps p.tables e below (T7.setTop (mkF m 38 #[.val (.int i0), .val (.int i1), .val (.int i2), .unset, .unset] [(.int (55296 : Int32)), (.int (6 : Int32)), (.ref b1), (.ref b1)])) _
    refine st8 _ ?_
    show Steps p.tables e below (T8.setTop (mkF m 39 #[.val (.int i0), .val (.int i1), .val (.int i2), .unset, .unset] [(.ref b1)])) _
    refine XS.dup X8.here hx rfl (hb hby at_39) rfl rfl ?_
    show Steps p.tables e below (T8.setTop (mkF m 40 #[.val (.int i0), .val (.int i1), .val (.int i2), .unset, .unset] [(.ref b1), (.ref b1)])) _
    refine XS.bipush X8.here hx rfl (hb hby at_40) ?_
    show Steps p.tables e below (T8.setTop (mkF m 42 #[.val (.int i0), .val (.int i1), .val (.int i2), .unset, .unset] [(.int (7 : Int32)), (.ref b1), (.ref b1)])) _
    refine X8.ldcInt hx hown (mvT hZ (hw _ (List.mem_of_getElem? (i := 3) rfl))) (g := (mkF m 42 #[.val (.int i0), .val (.int i1), .val (.int i2), .unset, .unset] [(.int (7 : Int32)), (.ref b1), (.ref b1)])) rfl (hb hby at_42) _ ?_
    show Steps p.tables e below (T8.setTop (mkF m 44 #[.val (.int i0), .val (.int i1), .val (.int i2), .unset, .unset] [(.int (57343 : Int32)), (.int (7 : Int32)), (.ref b1), (.ref b1)])) _
    refine st9 _ ?_
    show Steps p.tables e below (T9.setTop (mkF m 45 #[.val (.int i0), .val (.int i1), .val (.int i2), .unset, .unset] [(.ref b1)])) _
    refine XS.dup X9.here hx rfl (hb hby at_45) rfl rfl ?_
    show Steps p.tables e below (T9.setTop (mkF m 46 #[.val (.int i0), .val (.int i1), .val (.int i2), .unset, .unset] [(.ref b1), (.ref b1)])) _
    refine XS.bipush X9.here hx rfl (hb hby at_46) ?_
    show Steps p.tables e below (T9.setTop (mkF m 48 #[.val (.int i0), .val (.int i1), .val (.int i2), .unset, .unset] [(.int (8 : Int32)), (.ref b1), (.ref b1)])) _
    refine X9.ldcInt hx hown (mvT hZ (hw _ (List.mem_of_getElem? (i := 4) rfl))) (g := (mkF m 48 #[.val (.int i0), .val (.int i1), .val (.int i2), .unset, .unset] [(.int (8 : Int32)), (.ref b1), (.ref b1)])) rfl (hb hby at_48) _ ?_
    show Steps p.tables e below (T9.setTop (mkF m 50 #[.val (.int i0), .val (.int i1), .val (.int i2), .unset, .unset] [(.int (57344 : Int32)), (.int (8 : Int32)), (.ref b1), (.ref b1)])) _
    refine st10 _ ?_
    show Steps p.tables e below (T10.setTop (mkF m 51 #[.val (.int i0), .val (.int i1), .val (.int i2), .unset, .unset] [(.ref b1)])) _
    refine XS.dup X10.here hx rfl (hb hby at_51) rfl rfl ?_
    show Steps p.tables e below (T10.setTop (mkF m 52 #[.val (.int i0), .val (.int i1), .val (.int i2), .unset, .unset] [(.ref b1), (.ref b1)])) _
    refine XS.bipush X10.here hx rfl (hb hby at_52) ?_
    show Steps p.tables e below (T10.setTop (mkF m 54 #[.val (.int i0), .val (.int i1), .val (.int i2), .unset, .unset] [(.int (9 : Int32)), (.ref b1), (.ref b1)])) _
    refine X10.ldcInt hx hown (mvT hZ (hw _ (List.mem_of_getElem? (i := 5) rfl))) (g := (mkF m 54 #[.val (.int i0), .val (.int i1), .val (.int i2), .unset, .unset] [(.int (9 : Int32)), (.ref b1), (.ref b1)])) rfl (hb hby at_54) _ ?_
    show Steps p.tables e below (T10.setTop (mkF m 56 #[.val (.int i0), .val (.int i1), .val (.int i2), .unset, .unset] [(.int (65533 : Int32)), (.int (9 : Int32)), (.ref b1), (.ref b1)])) _
    refine st11 _ ?_
    show Steps p.tables e below (T11.setTop (mkF m 57 #[.val (.int i0), .val (.int i1), .val (.int i2), .unset, .unset] [(.ref b1)])) _
    refine XS.dup X11.here hx rfl (hb hby at_57) rfl rfl ?_
    show Steps p.tables e below (T11.setTop (mkF m 58 #[.val (.int i0), .val (.int i1), .val (.int i2), .unset, .unset] [(.ref b1), (.ref b1)])) _
    refine XS.bipush X11.here hx rfl (hb hby at_58) ?_
    show Steps p.tables e below (T11.setTop (mkF m 60 #[.val (.int i0), .val (.int i1), .val (.int i2), .unset, .unset] [(.int (10 : Int32)), (.ref b1), (.ref b1)])) _
    refine X11.ldcInt hx hown (mvT hZ (hw _ (List.mem_of_getElem? (i := 6) rfl))) (g := (mkF m 60 #[.val (.int i0), .val (.int i1), .val (.int i2), .unset, .unset] [(.int (10 : Int32)), (.ref b1), (.ref b1)])) rfl (hb hby at_60) _ ?_
    show Steps p.tables e below (T11.setTop (mkF m 62 #[.val (.int i0), .val (.int i1), .val (.int i2), .unset, .unset] [(.int (65535 : Int32)), (.int (10 : Int32)), (.ref b1), (.ref b1)])) _
    refine st12 _ ?_
    show Steps p.tables e below (T12.setTop (mkF m 63 #[.val (.int i0), .val (.int i1), .val (.int i2), .unset, .unset] [(.ref b1)])) _
    refine XS.dup X12.here hx rfl (hb hby at_63) rfl rfl ?_
    show Steps p.tables e below (T12.setTop (mkF m 64 #[.val (.int i0), .val (.int i1), .val (.int i2), .unset, .unset] [(.ref b1), (.ref b1)])) _
    refine XS.bipush X12.here hx rfl (hb hby at_64) ?_
    show Steps p.tables e below (T12.setTop (mkF m 66 #[.val (.int i0), .val (.int i1), .val (.int i2), .unset, .unset] [(.int (11 : Int32)), (.ref b1), (.ref b1)])) _
    refine X12.ldcInt hx hown (mvT hZ (hw _ (List.mem_of_getElem? (i := 7) rfl))) (g := (mkF m 66 #[.val (.int i0), .val (.int i1), .val (.int i2), .unset, .unset] [(.int (11 : Int32)), (.ref b1), (.ref b1)])) rfl (hb hby at_66) _ ?_
    show Steps p.tables e below (T12.setTop (mkF m 68 #[.val (.int i0), .val (.int i1), .val (.int i2), .unset, .unset] [(.int (65536 : Int32)), (.int (11 : Int32)), (.ref b1), (.ref b1)])) _
    refine st13 _ ?_
    show Steps p.tables e below (T13.setTop (mkF m 69 #[.val (.int i0), .val (.int i1), .val (.int i2), .unset, .unset] [(.ref b1)])) _
    refine XS.dup X13.here hx rfl (hb hby at_69) rfl rfl ?_
    show Steps p.tables e below (T13.setTop (mkF m 70 #[.val (.int i0), .val (.int i1), .val (.int i2), .unset, .unset] [(.ref b1), (.ref b1)])) _
    refine XS.bipush X13.here hx rfl (hb hby at_70) ?_
    show Steps p.tables e below (T13.setTop (mkF m 72 #[.val (.int i0), .val (.int i1), .val (.int i2), .unset, .unset] [(.int (12 : Int32)), (.ref b1), (.ref b1)])) _
    refine X13.ldcInt hx hown (mvT hZ (hw _ (List.mem_of_getElem? (i := 8) rfl))) (g := (mkF m 72 #[.val (.int i0), .val (.int i1), .val (.int i2), .unset, .unset] [(.int (12 : Int32)), (.ref b1), (.ref b1)])) rfl (hb hby at_72) _ ?_
    show Steps p.tables e below (T13.setTop (mkF m 74 #[.val (.int i0), .val (.int i1), .val (.int i2), .unset, .unset] [(.int (1114111 : Int32)), (.int (12 : Int32)), (.ref b1), (.ref b1)])) _
    refine st14 _ ?_
    show Steps p.tables e below (T14.setTop (mkF m 75 #[.val (.int i0), .val (.int i1), .val (.int i2), .unset, .unset] [(.ref b1)])) _
    refine XS.dup X14.here hx rfl (hb hby at_75) rfl rfl ?_
    show Steps p.tables e below (T14.setTop (mkF m 76 #[.val (.int i0), .val (.int i1), .val (.int i2), .unset, .unset] [(.ref b1), (.ref b1)])) _
    refine XS.bipush X14.here hx rfl (hb hby at_76) ?_
    show Steps p.tables e below (T14.setTop (mkF m 78 #[.val (.int i0), .val (.int i1), .val (.int i2), .unset, .unset] [(.int (13 : Int32)), (.ref b1), (.ref b1)])) _
    refine X14.ldcInt hx hown (mvT hZ (hw _ (List.mem_of_getElem? (i := 9) rfl))) (g := (mkF m 78 #[.val (.int i0), .val (.int i1), .val (.int i2), .unset, .unset] [(.int (13 : Int32)), (.ref b1), (.ref b1)])) rfl (hb hby at_78) _ ?_
    show Steps p.tables e below (T14.setTop (mkF m 80 #[.val (.int i0), .val (.int i1), .val (.int i2), .unset, .unset] [(.int (-2147483648 : Int32)), (.int (13 : Int32)), (.ref b1), (.ref b1)])) _
    refine st15 _ ?_
    show Steps p.tables e below (T15.setTop (mkF m 81 #[.val (.int i0), .val (.int i1), .val (.int i2), .unset, .unset] [(.ref b1)])) _
    refine XS.dup X15.here hx rfl (hb hby at_81) rfl rfl ?_
    show Steps p.tables e below (T15.setTop (mkF m 82 #[.val (.int i0), .val (.int i1), .val (.int i2), .unset, .unset] [(.ref b1), (.ref b1)])) _
    refine XS.bipush X15.here hx rfl (hb hby at_82) ?_
    show Steps p.tables e below (T15.setTop (mkF m 84 #[.val (.int i0), .val (.int i1), .val (.int i2), .unset, .unset] [(.int (14 : Int32)), (.ref b1), (.ref b1)])) _
    refine X15.ldcInt hx hown (mvT hZ (hw _ (List.mem_of_getElem? (i := 10) rfl))) (g := (mkF m 84 #[.val (.int i0), .val (.int i1), .val (.int i2), .unset, .unset] [(.int (14 : Int32)), (.ref b1), (.ref b1)])) rfl (hb hby at_84) _ ?_
    show Steps p.tables e below (T15.setTop (mkF m 86 #[.val (.int i0), .val (.int i1), .val (.int i2), .unset, .unset] [(.int (2147483647 : Int32)), (.int (14 : Int32)), (.ref b1), (.ref b1)])) _
    refine st16 _ ?_
    show Steps p.tables e below (T16.setTop (mkF m 87 #[.val (.int i0), .val (.int i1), .val (.int i2), .unset, .unset] [(.ref b1)])) _
    refine XS.astoreN X16.here hx rfl (hb hby at_87) rfl rfl (l' := #[.val (.int i0), .val (.int i1), .val (.int i2), .val (.ref b1), .unset]) rfl ?_
    show Steps p.tables e below (T16.setTop (mkF m 88 #[.val (.int i0), .val (.int i1), .val (.int i2), .val (.ref b1), .unset] [])) _
    refine sg0 X16 hx hZ hw hby hown i0 i1 i2 b1 e16 cl Ar Sz w hin hat cc ec ?_
    show Steps p.tables e below (T16.setTop (mkF m 113 #[.val (.int i0), .val (.int i1), .val (.int i2), .val (.ref b1), .unset] [(.int cc)])) _
    refine XS.istore X16.here hx rfl (hb hby at_113) rfl (l' := #[.val (.int i0), .val (.int i1), .val (.int i2), .val (.ref b1), .val (.int cc)]) rfl ?_
    show Steps p.tables e below (T16.setTop (mkF m 115 #[.val (.int i0), .val (.int i1), .val (.int i2), .val (.ref b1), .val (.int cc)] [])) _
    refine XS.iload X16.here hx rfl (hb hby at_115) rfl ?_
    refine st17 _ ?_
    show Steps p.tables e below (T17.setTop (mkF m 120 #[.val (.int i0), .val (.int i1), .val (.int i2), .val (.ref b1), .val (.int cc)] [(.int (own_xml cc))])) _
    refine XS.iload X17.here hx rfl (hb hby at_120) rfl ?_
    refine st18 _ ?_
    show Steps p.tables e below (T18.setTop (mkF m 125 #[.val (.int i0), .val (.int i1), .val (.int i2), .val (.ref b1), .val (.int cc)] [(.int (own_xml cc)), (.int (own_xml cc))])) _
    refine XS.icmpNo X18.here hx rfl (hb hby at_125) rfl (teq (rfl : (own_xml cc) = (own_xml cc))).2 ?_
    show Steps p.tables e below (T18.setTop (mkF m 128 #[.val (.int i0), .val (.int i1), .val (.int i2), .val (.ref b1), .val (.int cc)] [])) _
    refine XS.iconst X18.here hx rfl (hb hby at_128) ?_
    show Steps p.tables e below (T18.setTop (mkF m 129 #[.val (.int i0), .val (.int i1), .val (.int i2), .val (.ref b1), .val (.int cc)] [(.int (1 : Int32))])) _
    refine XS.goto X18.here hx rfl (pc0 := 129) (pc' := 133) rfl (hb hby at_129) (by decide) (by decide) ?_
    show Steps p.tables e below (T18.setTop (mkF m 133 #[.val (.int i0), .val (.int i1), .val (.int i2), .val (.ref b1), .val (.int cc)] [(.int (1 : Int32))])) _
    exact retN X18 hx (t := .boolean) Bd.returns (by simp) (hb hby at_133) hr
  · show Q0 h0 n0 _ T18.heap _
    exact ⟨rfl, N18⟩
set_option maxRecDepth 65536 in
set_option maxHeartbeats 40000000 in
theorem comes_1 {Post : Tables → Env → Array Value → State → Outcome → State → Prop} (hpost : ∀ tb e args s v u, (limb_1_1.after args s (.returned v) u = true ∧ limb_1_2.after args s (.returned v) u = true ∧ True) → FrameEnd s (.returned v) u (Jvm.fieldLocs frame_1_writes args s ++ Jvm.arrayLocs frame_1_arrays args s ++ Jvm.staticLocs frame_1_statics s) 16 128 → Post tb e args s (.returned v) u) :
    ArmFor flags0 classFile x code maxLocals ret World_1 tables_1 room_1 Calls_1 rest_1 Pre_1 Post := by
  intro l hfl _ _ p e ha hc hk s m args below hf hA hF happ hP
  obtain ⟨hcalls, hrest, hpre⟩ := hP
  obtain ⟨-, -, -, hnamed, -, -, -, hat⟩ := (Spec.applies_iff hf).mp happ
  obtain ⟨hg, hn⟩ := and_e (Cond.before_iff.mp (show (Jvm.Cond.and given_1 narrow_1).before args s = true from hpre))
  obtain ⟨hv0, hu0⟩ := and_e hg
  obtain ⟨hv1, hu1⟩ := and_e hu0
  obtain ⟨hv2, hu2⟩ := and_e hu1
  obtain ⟨w0, w1, w2, rfl⟩ : ∃ w0 w1 w2 : Value, args = #[w0, w1, w2] := by
    have hs : args.size = 3 := by simpa [Cond.value, given_1] using hv0
    obtain ⟨L⟩ := args
    match L, hs with
    | [w0, w1, w2], _ => exact ⟨w0, w1, w2, rfl⟩
  have hw := fun d (hd : d ∈ tables_1) => atoms_spec (ws := Jvm.Cond.code x code maxLocals ret :: tables_1) hat d (List.mem_cons_of_mem _ hd)
  obtain ⟨i0, ei0⟩ := is_v hv1
  obtain rfl : w0 = (.int i0) := Option.some.inj ei0
  obtain ⟨i1, ei1⟩ := is_v hv2
  obtain rfl : w1 = (.int i1) := Option.some.inj ei1
  obtain ⟨i2, ei2⟩ := is_v hu2
  obtain rfl : w2 = (.int i2) := Option.some.inj ei2
  obtain ⟨n, o, h1, h2, h3, _, L, rfl, ⟨rfl, N⟩, hq⟩ := rm0 l s _ hw tables_1 i0 i1 i2 s.heap s.heap.size (Nat.le_refl _)  p e ha hc hk s m _ below hf ((Spec.applies_iff_loose hf).mp happ).1 ⟨rfl, State.Warmed39.refl s, rfl⟩ trivial
  refine ⟨n, _, h1, h2, h3, hpost _ _ _ _ _ _ ⟨Cond.after_iff.mpr rfl, Cond.after_iff.mpr (eq_i res_at (Term.int_eval (1)) rfl), trivial⟩ ⟨hq.1, hq.2.1, (hq.2.2.sift fun y hy => Or.inr (N y hy)).mono (by decide) (by decide)⟩⟩
theorem main_1_1 : Claimed_1_1 := comes_1 fun _ _ _ _ _ _ h hF => ⟨h.1, hF⟩
theorem main_1_2 : Claimed_1_2 := comes_1 fun _ _ _ _ _ _ h hF => ⟨h.2.1, hF⟩
end Jvm.Pilot.@@N@@
namespace Jvm.Pilot.@@N@@
open Jvm Jvm.ClassFile Sem Op Lib Jvm.Free Jvm.Stand Jvm.Pilot.@@N@@.Jvm.D
/-! MADE BY PROGRAM (witnessworld.py) out of the Statement's table words and the real class files: 10 classes; the members and pool entries that the words name. The judged class is class 1, her method 2. -/
namespace start1
open Jvm.ClassFile
def u (s : String) : CpInfo := .utf8 (stringToUtf16 s)
/-- a pool by its gaps: so many unusable entries, then the entry; so many at the end -/
def gap : Nat → List CpInfo → List CpInfo
  | 0, r => r
  | n + 1, r => .unusable :: gap n r
def poolList (es : List (Nat × CpInfo)) (last : Nat) : List CpInfo := es.foldr (fun e r => gap e.1 (e.2 :: r)) (gap last [])
def pool (es : List (Nat × CpInfo)) (last : Nat) : Array CpInfo := ⟨poolList es last⟩
def fileOf (pool : Array CpInfo) (this : Nat) (attrs : Array Attribute := #[]) (ms : Array MethodInfo := #[]) (fl : Nat := 33) (sup : Nat := 0) (ifs : Array Nat := #[]) (fds : Array FieldInfo := #[]) : ClassFile where
  minorVersion := 0
  majorVersion := 65
  constantPool := pool
  accessFlags := fl
  thisClass := this
  superClass := sup
  interfaces := ifs
  fields := fds
  methods := ms
  attributes := attrs
def plain (name : String) (sup : Option ClassId) : Class where
  name := name
  kind := .ordinary
  loader := none
  accessFlags := 33
  super := sup
  interfaces := #[]
  cf := none
  fields := #[]
  methods := #[]
  instanceTypes := #[]
  staticTypes := #[]
  resolved := #[]
  callSites := []
  init := .initialized
  statics := none
  mirror := none

def pool0 : Array CpInfo := pool [(5, u "<init>"), (0, u "()V"), (1, .class_ 10), (1, u "java/lang/Object")] 113

def k0m0 : Method := { name := "<init>", desc := "()V", sig := { parameters := [], returnType := none }, accessFlags := 1, code := none }
/-- java/lang/Object -/
def k0 : Class := { plain "java/lang/Object" none with
  accessFlags := 33
  interfaces := #[]
  cf := some (fileOf pool0 8 #[] #[{ accessFlags := 1, nameIndex := 5, descriptorIndex := 6, attributes := #[] }] 33 0 #[] #[])
  fields := #[]
  methods := #[k0m0]
  instanceTypes := #[]
  staticTypes := #[]
  resolved := Array.replicate 124 none
  statics := none }

def pool1 : Array CpInfo := pool [(2, .class_ 4), (1, u "java/lang/Object"), (0, u "<init>"), (0, u "()V"), (0, .integer 1114111), (0, .integer 55296), (0, .integer 57343), (0, .integer 65534), (0, .integer 65535), (0, .integer 55295), (0, .integer 57344), (0, .integer 65533), (0, .integer 65536), (2, .integer 2147483648), (0, .integer 2147483647), (0, .methodref 21 22), (0, .class_ 23), (0, .nameAndType 24 25), (0, u "com/example/xylem/xylem/model/QName"), (0, u "isXmlChar"), (0, u "(I)Z"), (0, .methodref 27 28), (0, .class_ 29), (0, .nameAndType 30 25), (0, u "com/example/xylem/xylem/model/QNameIsXmlCharPinLaw"), (0, u "reference"), (3, u "law"), (0, u "(III)Z")] 4

def k1m0 : Method := { name := "<init>", desc := "()V", sig := { parameters := [], returnType := none }, accessFlags := 1, code := none }
def k1c1 : Code := { maxStack := 2, maxLocals := 1, code := method_2_code, exceptionTable := #[], attributes := #[] }
def k1m1 : Method := { name := "reference", desc := "(I)Z", sig := { parameters := [.int], returnType := some .boolean }, accessFlags := 10, code := some k1c1 }
def k1c2 : Code := { maxStack := 4, maxLocals := 5, code := code, exceptionTable := #[], attributes := #[] }
def k1m2 : Method := { name := "law", desc := "(III)Z", sig := { parameters := [.int, .int, .int], returnType := some .boolean }, accessFlags := 9, code := some k1c2 }
/-- com/example/xylem/xylem/model/QNameIsXmlCharPinLaw -/
def k1 : Class := { plain "com/example/xylem/xylem/model/QNameIsXmlCharPinLaw" (some 0) with
  accessFlags := 49
  interfaces := #[]
  cf := some (fileOf pool1 27 #[] #[{ accessFlags := 1, nameIndex := 5, descriptorIndex := 6, attributes := #[] }, { accessFlags := 10, nameIndex := 30, descriptorIndex := 25, attributes := #[] }, { accessFlags := 9, nameIndex := 34, descriptorIndex := 35, attributes := #[] }] 49 2 #[] #[])
  fields := #[]
  methods := #[k1m0, k1m1, k1m2]
  instanceTypes := #[]
  staticTypes := #[]
  resolved := Array.replicate 40 none
  statics := none }

def pool2 : Array CpInfo := pool [(1, .class_ 2), (0, u "java/lang/Comparable"), (0, .class_ 4), (0, u "java/lang/Object")] 7

/-- java/lang/Comparable -/
def k2 : Class := { plain "java/lang/Comparable" (some 0) with
  accessFlags := 1537
  interfaces := #[]
  cf := some (fileOf pool2 1 #[] #[] 1537 3 #[] #[])
  fields := #[]
  methods := #[]
  instanceTypes := #[]
  staticTypes := #[]
  resolved := Array.replicate 12 none
  statics := none }

def pool3 : Array CpInfo := pool [(2, .class_ 4), (1, u "java/lang/Object"), (11, .class_ 18), (1, u "com/example/xylem/xylem/model/QName"), (0, u "namespaceUri"), (0, u "Ljava/lang/String;"), (2, u "localName"), (2, u "prefix"), (48, u "(I)Z"), (19, .integer 55295), (0, .integer 57344), (0, .integer 65533), (0, .integer 65536), (0, .integer 1114111), (22, .class_ 123), (0, u "java/lang/Comparable"), (9, u "isXmlChar")] 23

def k3c0 : Code := { maxStack := 2, maxLocals := 1, code := prog_304_method_12_code, exceptionTable := #[], attributes := #[] }
def k3m0 : Method := { name := "isXmlChar", desc := "(I)Z", sig := { parameters := [.int], returnType := some .boolean }, accessFlags := 9, code := some k3c0 }
/-- com/example/xylem/xylem/model/QName -/
def k3 : Class := { plain "com/example/xylem/xylem/model/QName" (some 0) with
  accessFlags := 49
  interfaces := #[2]
  cf := some (fileOf pool3 16 #[] #[{ accessFlags := 9, nameIndex := 133, descriptorIndex := 75, attributes := #[] }] 49 2 #[122] #[{ accessFlags := 18, nameIndex := 19, descriptorIndex := 20, attributes := #[] }, { accessFlags := 18, nameIndex := 23, descriptorIndex := 20, attributes := #[] }, { accessFlags := 18, nameIndex := 26, descriptorIndex := 20, attributes := #[] }])
  fields := #[{ name := "namespaceUri", type := (.object "java/lang/String"), accessFlags := 18, slot := 0, constantValue := 0 }, { name := "localName", type := (.object "java/lang/String"), accessFlags := 18, slot := 1, constantValue := 0 }, { name := "prefix", type := (.object "java/lang/String"), accessFlags := 18, slot := 2, constantValue := 0 }]
  methods := #[k3m0]
  instanceTypes := #[(.object "java/lang/String"), (.object "java/lang/String"), (.object "java/lang/String")]
  staticTypes := #[]
  resolved := Array.replicate 157 none
  statics := none }

def pool4 : Array CpInfo := pool [(1, u "java/lang/Cloneable"), (0, .class_ 1), (0, u "java/lang/Object"), (0, .class_ 3)] 3

/-- java/lang/Cloneable -/
def k4 : Class := { plain "java/lang/Cloneable" (some 0) with
  accessFlags := 1537
  interfaces := #[]
  cf := some (fileOf pool4 2 #[] #[] 1537 4 #[] #[])
  fields := #[]
  methods := #[]
  instanceTypes := #[]
  staticTypes := #[]
  resolved := Array.replicate 8 none
  statics := none }

def pool5 : Array CpInfo := pool [(1, u "java/io/Serializable"), (0, .class_ 1), (0, u "java/lang/Object"), (0, .class_ 3)] 3

/-- java/io/Serializable -/
def k5 : Class := { plain "java/io/Serializable" (some 0) with
  accessFlags := 1537
  interfaces := #[]
  cf := some (fileOf pool5 2 #[] #[] 1537 4 #[] #[])
  fields := #[]
  methods := #[]
  instanceTypes := #[]
  staticTypes := #[]
  resolved := Array.replicate 8 none
  statics := none }

/-- the primitive byte -/
def k6 : Class := { plain "byte" none with kind := .primitive 'B', accessFlags := 0x411 }
/-- [B -/
def k7 : Class := { plain "[B" (some 0) with kind := .array 6 .byte, interfaces := #[4, 5], accessFlags := 1041 }

/-- the primitive int -/
def k8 : Class := { plain "int" none with kind := .primitive 'I', accessFlags := 0x411 }
/-- [I -/
def k9 : Class := { plain "[I" (some 0) with kind := .array 8 .int, interfaces := #[4, 5], accessFlags := 1041 }

def heap : Heap := #[]
def classes : Array Class := #[k0, k1, k2, k3, k4, k5, k6, k7, k8, k9]
def interned : List (Array UInt16 × Addr) := []
def slotsUsed : Nat := 0
def theMethod : MethodId := ⟨1, 2⟩
def args0 : Array Value := #[.int 5, .int 7, .int 0]
def aboutOver (below : List Frame) : State where
  vm := { classes := classes, interned := interned.toArray }
  heap := heap
  slotsUsed := slotsUsed
  threads := #[{ frames := .invoking theMethod args0 :: below }]
def below0 : List Frame := [.native { method := ⟨0, 0⟩, args := #[] }]
def about1 : State := aboutOver below0
def p0 : Program := .bare "" "" ""
def e0 : Env := launch0.env 0 0 0
theorem w_frames : about1.frames = Frame.invoking theMethod args0 :: below0 := rfl
set_option maxRecDepth 65536 in
theorem w_args : argsFit about1.vm theMethod args0 = true := by decide +kernel
set_option maxRecDepth 65536 in
theorem w_heap : heapFits about1 = true := by decide +kernel
set_option maxRecDepth 65536 in
theorem w_runnable : about1.curStatus? = some .runnable := by decide +kernel
set_option maxRecDepth 65536 in
theorem w_alone : about1.alone = true := by decide +kernel
set_option maxRecDepth 65536 in
theorem w_named : about1.methodNamed? x = some theMethod := by decide +kernel
set_option maxRecDepth 65536 in
theorem w_hears : about1.hears theMethod below0 = true := by decide +kernel
set_option maxRecDepth 65536 in
theorem w_ripe : about1.ripe theMethod args0 below0 = true := by decide +kernel
theorem w_running : about1.status = .running := rfl
set_option maxRecDepth 65536 in
theorem w_room : about1.hasRoom e0.platform room_1 = true :=
  launch0.hasRoom_least _ room_1 (by decide +kernel) (by decide +kernel) (by decide +kernel) (by decide +kernel) (by decide +kernel) (by decide +kernel)
theorem allAtoms_all (ts : List Jvm.Cond) (a : Array Jvm.Value) (st : Jvm.State) : (allAtoms ts).before a st = ts.all (fun c => c.before a st) := by
  induction ts with
  | nil => rfl
  | cons c t ih =>
    show (Jvm.Cond.and c (allAtoms t)).before a st = _
    rw [Jvm.Cond.before_and, ih, List.all_cons]
def words1 : List Jvm.Cond := Jvm.Cond.code x code maxLocals ret :: tables_1
/-- a 'code' word, met by the world's own term for the bytes: nothing is compared byte by byte -/
theorem code_word {y : MethodName} {bytes : ByteArray} {mx : Nat} {rt : Option FieldType} {a : Array Value} {s : State} {m : MethodId} {meth : Method} {c : Code} (h1 : s.methodNamed? y = some m) (h2 : s.vm.method? m = some meth) (h3 : meth.code = some c) (h4 : c.code = bytes)
    (h5 : (c.maxLocals == mx && c.exceptionTable.isEmpty && decide (c.maxStack ≤ mostOperands) && decide (meth.sig.returnType = rt) && !meth.locks && decide (parseMethodDescriptor y.desc = some meth.sig)) = true) : (Jvm.Cond.code y bytes mx rt).before a s = true := by
  simp only [Bool.and_eq_true, beq_iff_eq, Bool.not_eq_true', decide_eq_true_eq] at h5
  obtain ⟨⟨⟨⟨⟨g1, g2⟩, g3⟩, g4⟩, g5⟩, g6⟩ := h5
  simp [Cond.before, Cond.holds, Cond.value, h1, h2, h3, h4, g1, g2, g3, g4, g5, g6]
def isCode : Jvm.Cond → Bool
  | .code _ _ _ _ => true
  | _ => false
theorem all_split {L : List Jvm.Cond} {P : Jvm.Cond → Bool} (h1 : L.all (fun c => isCode c || P c) = true) (h2 : ∀ c ∈ L.filter isCode, P c = true) : L.all P = true := by
  refine List.all_eq_true.mpr fun c hc => ?_
  have h := List.all_eq_true.mp h1 c hc
  rcases Bool.eq_false_or_eq_true (isCode c) with hi | hi
  · exact h2 c (List.mem_filter.mpr ⟨hc, hi⟩)
  · simpa [hi] using h
set_option maxRecDepth 65536 in
theorem w_c0 : (Jvm.Cond.code x code maxLocals ret).before args0 about1 = true := code_word (m := ⟨1, 2⟩) (meth := k1m2) (c := k1c2) (by decide +kernel) rfl rfl rfl (by decide +kernel)
set_option maxRecDepth 65536 in
theorem w_c1 : (Jvm.Cond.code ({ cls := "com/example/xylem/xylem/model/QName", name := "isXmlChar", desc := "(I)Z" } : Jvm.MethodName) prog_304_method_12_code (1 : Nat) (Option.some Jvm.ClassFile.FieldType.boolean)).before args0 about1 = true := code_word (m := ⟨3, 0⟩) (meth := k3m0) (c := k3c0) (by decide +kernel) rfl rfl rfl (by decide +kernel)
set_option maxRecDepth 65536 in
theorem w_c2 : (Jvm.Cond.code ({ cls := "com/example/xylem/xylem/model/QNameIsXmlCharPinLaw", name := "reference", desc := "(I)Z" } : Jvm.MethodName) method_2_code (1 : Nat) (Option.some Jvm.ClassFile.FieldType.boolean)).before args0 about1 = true := code_word (m := ⟨1, 1⟩) (meth := k1m1) (c := k1c1) (by decide +kernel) rfl rfl rfl (by decide +kernel)
def codes1 : List Jvm.Cond := [Jvm.Cond.code x code maxLocals ret, Jvm.Cond.code ({ cls := "com/example/xylem/xylem/model/QName", name := "isXmlChar", desc := "(I)Z" } : Jvm.MethodName) prog_304_method_12_code (1 : Nat) (Option.some Jvm.ClassFile.FieldType.boolean), Jvm.Cond.code ({ cls := "com/example/xylem/xylem/model/QNameIsXmlCharPinLaw", name := "reference", desc := "(I)Z" } : Jvm.MethodName) method_2_code (1 : Nat) (Option.some Jvm.ClassFile.FieldType.boolean)]
set_option maxRecDepth 65536 in
theorem codes_eq : words1.filter isCode = codes1 := rfl
theorem w_codes : ∀ c ∈ words1.filter isCode, c.before args0 about1 = true := by
  rw [codes_eq]
  intro c hc
  simp only [codes1, List.mem_cons, List.not_mem_nil, or_false] at hc
  rcases hc with rfl | rfl | rfl
  · exact w_c0
  · exact w_c1
  · exact w_c2
set_option maxRecDepth 65536 in
theorem w_t1 : (words1.take 24).all (fun c => isCode c || c.before args0 about1) = true := by decide +kernel
set_option maxRecDepth 65536 in
theorem w_t2 : (words1.drop 24).all (fun c => isCode c || c.before args0 about1) = true := by decide +kernel
theorem w_tables : (allAtoms (Jvm.Cond.code x code maxLocals ret :: tables_1)).before args0 about1 = true := by
  rw [allAtoms_all]
  show words1.all (fun c => c.before args0 about1) = true
  refine all_split ?_ w_codes
  rw [← List.take_append_drop 24 words1, List.all_append, w_t1, w_t2]
  rfl
set_option maxRecDepth 65536 in
theorem w_case : (Jvm.Cond.and given_1 narrow_1).before args0 about1 = true := by decide +kernel
theorem w_applies : (headSpec (Jvm.Cond.code x code maxLocals ret :: tables_1) room_1).applies x e0.platform about1 = true :=
  (Spec.applies_iff w_frames).mpr ⟨w_running, w_runnable, w_alone, w_named, w_hears, w_ripe, w_room, w_tables⟩
theorem atStart : AtStart classFile x code maxLocals ret World_1 tables_1 room_1 Calls_1 rest_1 Pre_1 launch0 p0 e0 about1 theMethod args0 below0 :=
  ⟨lists_1, trivial, launch0.admits_env _ _ _, launch0.least_env, fairChoices_fair.cas, fairChoices_fair.clock, w_frames, w_args, w_heap, w_applies, trivial, trivial, w_case⟩
end start1
theorem witness_1 : WitnessClaimed_1 := ⟨start1.p0, start1.e0, start1.about1, start1.theMethod, start1.args0, start1.below0, start1.atStart⟩
end Jvm.Pilot.@@N@@
