import JvmDerived
import JvmDerived.Pilot.@@N@@Statement
import JvmDerived.Pilot.@@N@@Code
set_option linter.unusedVariables false
set_option linter.unusedSimpArgs false
namespace Jvm.RoadKit
open Sem ClassFile Op Lib Jvm.Stand Jvm.Free Jvm.LawKit
section New
variable {p : Program} {l : Launch} {e : Env} {R : Room} {s : State} {m : MethodId} {args : Array Value} {below : List Frame} {meth : Method} {c : Code} {T : State} {locs : List Loc} {cells slots : Nat}
theorem retI (X : Stand p l e R s m args below meth c T locs cells slots) (hx : p.tables.exec = Jvm.exec) {pc : Nat} {Ls : Array Slot} {z : Int32} {rest : List Value} (hret : meth.sig.returnType = some .int) (hd : decode c.code pc = .ok (.ireturn, 1)) {fs : List Frame}
    (hl : ∀ (f : JFrame) (acts : List Action), f.method = m → f.locked = none → f.entered = [] → (doReturn e (T.setTop f) acts (some (.int z))).1 = T.setFrames fs) : Steps p.tables e below (T.setTop (mkF m pc Ls (.int z :: rest))) (T.setFrames fs) := by
  have hm' : T.vm.method? m = some meth := X.method'
  have hn : narrow .int (.int z) = .int z := rfl
  show Steps p.tables e below (T.setTop { method := m, pc := pc, locals := Ls, stack := _ :: rest, locked := none }) _
  jvm_step X.here [X.here.top, hx, hd, hm', hret, hn]
  first | (intro acts; rw [hl _ acts rfl rfl rfl]) | rw [hl _ _ rfl rfl rfl]
  exact Steps.refl _
end New
end Jvm.RoadKit
namespace Jvm.Pilot.@@N@@
open Jvm Jvm.ClassFile Sem Op Lib Jvm.Free Jvm.Stand Jvm.LawKit Jvm.RoadKit Bundle Jvm.Pilot.@@N@@.Jvm.D
theorem own_lt_t {x y : Int64} (h : x < y) : ifCond.holds .lt (lcmpW x y) = true ∧ ifCond.holds .ge (lcmpW x y) = false := by
  rw [if0, if0]; exact ⟨(tlt ((lw_lt x y).mpr h)).1, (tlt ((lw_lt x y).mpr h)).2.1⟩
theorem own_lt_f {x y : Int64} (h : ¬ x < y) : ifCond.holds .lt (lcmpW x y) = false ∧ ifCond.holds .ge (lcmpW x y) = true := by
  have h2 : ¬ lcmpW x y < 0 := fun q => h ((lw_lt x y).mp q)
  rw [if0, if0]; exact ⟨(flt h2).1, (flt h2).2.1⟩
theorem own_gt_t {x y : Int64} (h : y < x) : ifCond.holds .gt (lcmpW x y) = true ∧ ifCond.holds .le (lcmpW x y) = false := by
  have h2 : 0 < lcmpW x y := (lw_gt x y).mpr h
  rw [if0, if0]; exact ⟨(tlt h2).2.2.1, (tlt h2).2.2.2⟩
theorem own_gt_f {x y : Int64} (h : ¬ y < x) : ifCond.holds .gt (lcmpW x y) = false ∧ ifCond.holds .le (lcmpW x y) = true := by
  have h2 : ¬ 0 < lcmpW x y := fun q => h ((lw_gt x y).mp q)
  rw [if0, if0]; exact ⟨(flt h2).2.2.1, (flt h2).2.2.2⟩
theorem own_eq_t {x y : Int64} (h : x = y) : ifCond.holds .eq (lcmpW x y) = true ∧ ifCond.holds .ne (lcmpW x y) = false := by
  have h2 : lcmpW x y = 0 := (lw_eq x y).mpr h
  rw [if0, if0]; exact ⟨(teq h2).1, (teq h2).2⟩
theorem own_eq_f {x y : Int64} (h : ¬ x = y) : ifCond.holds .eq (lcmpW x y) = false ∧ ifCond.holds .ne (lcmpW x y) = true := by
  have h2 : ¬ lcmpW x y = 0 := fun q => h ((lw_eq x y).mp q)
  rw [if0, if0]; exact ⟨(feq h2).1, (feq h2).2⟩
theorem d1_0 : decode method_3_code 0 = .ok (.lload_n 0, 1) := by decide +kernel
theorem d1_1 : decode method_3_code 1 = .ok (.ldc2_w 7, 3) := by decide +kernel
theorem d1_4 : decode method_3_code 4 = .ok (.lcmp, 1) := by decide +kernel
theorem d1_5 : decode method_3_code 5 = .ok (.ifCond .ne 7, 3) := by decide +kernel
theorem d1_8 : decode method_3_code 8 = .ok (.ldc2_w 7, 3) := by decide +kernel
theorem d1_11 : decode method_3_code 11 = .ok (.lreturn, 1) := by decide +kernel
theorem d1_12 : decode method_3_code 12 = .ok (.lload_n 2, 1) := by decide +kernel
theorem d1_13 : decode method_3_code 13 = .ok (.ldc2_w 7, 3) := by decide +kernel
theorem d1_16 : decode method_3_code 16 = .ok (.lcmp, 1) := by decide +kernel
theorem d1_17 : decode method_3_code 17 = .ok (.ifCond .ne 7, 3) := by decide +kernel
theorem d1_20 : decode method_3_code 20 = .ok (.ldc2_w 7, 3) := by decide +kernel
theorem d1_23 : decode method_3_code 23 = .ok (.lreturn, 1) := by decide +kernel
theorem d1_24 : decode method_3_code 24 = .ok (.lload_n 0, 1) := by decide +kernel
theorem d1_25 : decode method_3_code 25 = .ok (.lload_n 2, 1) := by decide +kernel
theorem d1_26 : decode method_3_code 26 = .ok (.ladd, 1) := by decide +kernel
theorem d1_27 : decode method_3_code 27 = .ok (.lstore 4, 2) := by decide +kernel
theorem d1_29 : decode method_3_code 29 = .ok (.lload 4, 2) := by decide +kernel
theorem d1_31 : decode method_3_code 31 = .ok (.lconst 0, 1) := by decide +kernel
theorem d1_32 : decode method_3_code 32 = .ok (.lcmp, 1) := by decide +kernel
theorem d1_33 : decode method_3_code 33 = .ok (.ifCond .ge 7, 3) := by decide +kernel
theorem d1_36 : decode method_3_code 36 = .ok (.ldc2_w 7, 3) := by decide +kernel
theorem d1_39 : decode method_3_code 39 = .ok (.lreturn, 1) := by decide +kernel
theorem d1_40 : decode method_3_code 40 = .ok (.lload 4, 2) := by decide +kernel
theorem d1_42 : decode method_3_code 42 = .ok (.lreturn, 1) := by decide +kernel
theorem pn_1 : plainName "com/example/kingsnake/kingsnake/schema/content/ContentModelMaximumSumPinLaw" = true := by first | (simp [plainName, overriddenIn]; done) | decide +kernel
theorem pd_1 : parseMethodDescriptor "(JJ)J" = some ⟨[.long, .long], some .long⟩ := by decide +kernel
theorem ef_1 (m : MethodId) (x0 : Int64) (x1 : Int64) : entryFrame m #[(.long x0), (.long x1)] 6 = mkF m 0 #[.val (.long x0), .second, .val (.long x1), .second, .unset, .unset] [] := by first | (simp [entryFrame, mkF, argsToLocals, Value.category, maxLocals]; done) | rfl
theorem d2_0 : decode prog_188_method_42_code 0 = .ok (.lload_n 0, 1) := by decide +kernel
theorem d2_1 : decode prog_188_method_42_code 1 = .ok (.ldc2_w 118, 3) := by decide +kernel
theorem d2_4 : decode prog_188_method_42_code 4 = .ok (.lcmp, 1) := by decide +kernel
theorem d2_5 : decode prog_188_method_42_code 5 = .ok (.ifCond .eq 21, 3) := by decide +kernel
theorem d2_8 : decode prog_188_method_42_code 8 = .ok (.lload_n 2, 1) := by decide +kernel
theorem d2_9 : decode prog_188_method_42_code 9 = .ok (.ldc2_w 118, 3) := by decide +kernel
theorem d2_12 : decode prog_188_method_42_code 12 = .ok (.lcmp, 1) := by decide +kernel
theorem d2_13 : decode prog_188_method_42_code 13 = .ok (.ifCond .eq 13, 3) := by decide +kernel
theorem d2_16 : decode prog_188_method_42_code 16 = .ok (.lload_n 0, 1) := by decide +kernel
theorem d2_17 : decode prog_188_method_42_code 17 = .ok (.ldc2_w 464, 3) := by decide +kernel
theorem d2_20 : decode prog_188_method_42_code 20 = .ok (.lload_n 2, 1) := by decide +kernel
theorem d2_21 : decode prog_188_method_42_code 21 = .ok (.lsub, 1) := by decide +kernel
theorem d2_22 : decode prog_188_method_42_code 22 = .ok (.lcmp, 1) := by decide +kernel
theorem d2_23 : decode prog_188_method_42_code 23 = .ok (.ifCond .le 7, 3) := by decide +kernel
theorem d2_26 : decode prog_188_method_42_code 26 = .ok (.iconst 1, 1) := by decide +kernel
theorem d2_27 : decode prog_188_method_42_code 27 = .ok (.goto 4, 3) := by decide +kernel
theorem d2_30 : decode prog_188_method_42_code 30 = .ok (.iconst 0, 1) := by decide +kernel
theorem d2_31 : decode prog_188_method_42_code 31 = .ok (.istore 4, 2) := by decide +kernel
theorem d2_33 : decode prog_188_method_42_code 33 = .ok (.iload 4, 2) := by decide +kernel
theorem d2_35 : decode prog_188_method_42_code 35 = .ok (.ifCond .eq 9, 3) := by decide +kernel
theorem d2_38 : decode prog_188_method_42_code 38 = .ok (.ldc2_w 118, 3) := by decide +kernel
theorem d2_41 : decode prog_188_method_42_code 41 = .ok (.goto 6, 3) := by decide +kernel
theorem d2_44 : decode prog_188_method_42_code 44 = .ok (.lload_n 0, 1) := by decide +kernel
theorem d2_45 : decode prog_188_method_42_code 45 = .ok (.lload_n 2, 1) := by decide +kernel
theorem d2_46 : decode prog_188_method_42_code 46 = .ok (.ladd, 1) := by decide +kernel
theorem d2_47 : decode prog_188_method_42_code 47 = .ok (.lreturn, 1) := by decide +kernel
theorem pn_2 : plainName "com/example/kingsnake/kingsnake/schema/content/ContentModel" = true := by first | (simp [plainName, overriddenIn]; done) | decide +kernel
theorem pd_2 : parseMethodDescriptor "(JJ)J" = some ⟨[.long, .long], some .long⟩ := by decide +kernel
theorem ef_2 (m : MethodId) (x0 : Int64) (x1 : Int64) : entryFrame m #[(.long x0), (.long x1)] 5 = mkF m 0 #[.val (.long x0), .second, .val (.long x1), .second, .unset] [] := by first | (simp [entryFrame, mkF, argsToLocals, Value.category, maxLocals]; done) | rfl
theorem pn_0 : plainName "com/example/kingsnake/kingsnake/schema/content/ContentModelMaximumSumPinLaw" = true := by first | (simp [plainName, overriddenIn]; done) | decide +kernel
theorem pd_0 : parseMethodDescriptor "(JJI)Z" = some ⟨[.long, .long, .int], some .boolean⟩ := by decide +kernel
theorem ef_0 (m : MethodId) (x0 : Int64) (x1 : Int64) (x2 : Int32) : entryFrame m #[(.long x0), (.long x1), (.int x2)] maxLocals = mkF m 0 #[.val (.long x0), .second, .val (.long x1), .second, .val (.int x2), .unset, .unset, .unset, .unset, .unset, .unset, .unset, .unset, .unset, .unset] [] := by first | (simp [entryFrame, mkF, argsToLocals, Value.category, maxLocals]; done) | rfl
def own_ref (x0 x1 : Int64) : Int64 := if x0 = (-1 : Int64) then (-1 : Int64) else if x1 = (-1 : Int64) then (-1 : Int64) else if (x0 + x1) < (0 : Int64) then (-1 : Int64) else (x0 + x1)
def own_max (x0 x1 : Int64) : Int64 := if x0 = (-1 : Int64) then (-1 : Int64) else if x1 = (-1 : Int64) then (-1 : Int64) else if ((9223372036854775807 : Int64) - x1) < x0 then (-1 : Int64) else (x0 + x1)
theorem own_side {a z : Int64} {f k : Int32} (h : z = if (f &&& k) = (0 : Int32) then (a &&& (9223372036854775807 : Int64)) else (-1 : Int64)) : z = (-1 : Int64) ∨ 0 ≤ z.toInt := by
  subst h
  split
  · right
    have := c_maskL a (9223372036854775807 : Int64) 63 (by decide) (by decide)
    rw [this]; omega
  · left; rfl
theorem own_same {x0 x1 : Int64} (h0 : x0 = (-1 : Int64) ∨ 0 ≤ x0.toInt) (h1 : x1 = (-1 : Int64) ∨ 0 ≤ x1.toInt) : own_max x0 x1 = own_ref x0 x1 := by
  unfold own_max own_ref
  by_cases e0 : x0 = (-1 : Int64)
  · rw [if_pos e0, if_pos e0]
  by_cases e1 : x1 = (-1 : Int64)
  · rw [if_neg e0, if_pos e1, if_neg e0, if_pos e1]
  rw [if_neg e0, if_neg e1, if_neg e0, if_neg e1]
  have g0 := h0.resolve_left e0
  have g1 := h1.resolve_left e1
  have r0 := rng64 x0
  have r1 := rng64 x1
  have a1 := c_ladd x0 x1
  have a2 := rng64 (x0 + x1)
  have s1 := c_lsub (9223372036854775807 : Int64) x1
  have s2 := rng64 ((9223372036854775807 : Int64) - x1)
  have k0 : (9223372036854775807 : Int64).toInt = 9223372036854775807 := by decide
  have k1 : (0 : Int64).toInt = 0 := by decide
  rw [k0] at s1
  have q : ((9223372036854775807 : Int64) - x1) < x0 ↔ (x0 + x1) < (0 : Int64) := by
    rw [Int64.lt_iff_toInt_lt, Int64.lt_iff_toInt_lt, k1]
    constructor <;> intro q <;> omega
  by_cases e2 : (x0 + x1) < (0 : Int64)
  · rw [if_pos e2, if_pos (q.mpr e2)]
  · rw [if_neg e2, if_neg (fun z => e2 (q.mp z))]
set_option maxRecDepth 65536 in
set_option maxHeartbeats 40000000 in
theorem wk1 {p : Program} {l : Launch} {e : Env} {R : Room} {s : State} {m : MethodId} {args : Array Value} {below : List Frame} {meth : Method} {c : Code} {T : State} {locs : List Loc} {cells slots : Nat} {Z : State} {a0 : Array Value} (X : Stand p l e R s m args below meth c T locs cells slots) (hx : p.tables.exec = Jvm.exec) (hZ : Z.Warmed39 s.vm) (hw : ∀ d ∈ tables_1, d.before a0 Z = true) (hby : c.code = method_3_code) (hown : s.vm.findClass "com/example/kingsnake/kingsnake/schema/content/ContentModelMaximumSumPinLaw" = some m.cls) (hret : meth.sig.returnType = some .long) {fs : List Frame} (x0 x1 : Int64) (hr : ∀ (f : JFrame) (acts : List Action), f.method = m → f.locked = none → f.entered = [] → (doReturn e (T.setTop f) acts (some (.long (own_ref x0 x1)))).1 = T.setFrames fs) : Steps p.tables e below (T.setTop (mkF m 0 #[.val (.long x0), .second, .val (.long x1), .second, .unset, .unset] [])) (T.setFrames fs) := by
  show Steps p.tables e below (T.setTop (mkF m 0 #[.val (.long x0), .second, .val (.long x1), .second, .unset, .unset] [])) _
  refine XS.lloadN X.here hx rfl (hb hby d1_0) rfl ?_
  show Steps p.tables e below (T.setTop (mkF m 1 #[.val (.long x0), .second, .val (.long x1), .second, .unset, .unset] [(.long x0)])) _
  refine X.ldc2Long hx hown (mvT hZ (hw _ (List.mem_of_getElem? (i := 5) rfl))) (g := (mkF m 1 #[.val (.long x0), .second, .val (.long x1), .second, .unset, .unset] [(.long x0)])) rfl (hb hby d1_1) _ ?_
  show Steps p.tables e below (T.setTop (mkF m 4 #[.val (.long x0), .second, .val (.long x1), .second, .unset, .unset] [(.long (-1 : Int64)), (.long x0)])) _
  refine XS.lcmp X.here hx rfl (hb hby d1_4) rfl ?_
  show Steps p.tables e below (T.setTop (mkF m 5 #[.val (.long x0), .second, .val (.long x1), .second, .unset, .unset] [(.int (lcmpW x0 (-1 : Int64)))])) _
  by_cases hc5 : x0 = (-1 : Int64)
  · refine XS.ifNo X.here hx rfl (hb hby d1_5) rfl (own_eq_t hc5).2 ?_
    show Steps p.tables e below (T.setTop (mkF m 8 #[.val (.long x0), .second, .val (.long x1), .second, .unset, .unset] [])) _
    refine X.ldc2Long hx hown (mvT hZ (hw _ (List.mem_of_getElem? (i := 5) rfl))) (g := (mkF m 8 #[.val (.long x0), .second, .val (.long x1), .second, .unset, .unset] [])) rfl (hb hby d1_8) _ ?_
    show Steps p.tables e below (T.setTop (mkF m 11 #[.val (.long x0), .second, .val (.long x1), .second, .unset, .unset] [(.long (-1 : Int64))])) _
    have hv : (own_ref x0 x1) = (-1 : Int64) := by first | (rw [own_ref, if_pos hc5]; done) | simp only [own_ref, hc5, ↓reduceIte, eq_self]
    rw [hv] at hr
    exact X.lreturnOut hx hret (hb hby d1_11) hr
  · refine XS.ifYes X.here hx rfl (pc0 := 5) (pc' := 12) rfl (hb hby d1_5) rfl (own_eq_f hc5).2 (by decide) (by decide) ?_
    show Steps p.tables e below (T.setTop (mkF m 12 #[.val (.long x0), .second, .val (.long x1), .second, .unset, .unset] [])) _
    refine XS.lloadN X.here hx rfl (hb hby d1_12) rfl ?_
    show Steps p.tables e below (T.setTop (mkF m 13 #[.val (.long x0), .second, .val (.long x1), .second, .unset, .unset] [(.long x1)])) _
    refine X.ldc2Long hx hown (mvT hZ (hw _ (List.mem_of_getElem? (i := 5) rfl))) (g := (mkF m 13 #[.val (.long x0), .second, .val (.long x1), .second, .unset, .unset] [(.long x1)])) rfl (hb hby d1_13) _ ?_
    show Steps p.tables e below (T.setTop (mkF m 16 #[.val (.long x0), .second, .val (.long x1), .second, .unset, .unset] [(.long (-1 : Int64)), (.long x1)])) _
    refine XS.lcmp X.here hx rfl (hb hby d1_16) rfl ?_
    show Steps p.tables e below (T.setTop (mkF m 17 #[.val (.long x0), .second, .val (.long x1), .second, .unset, .unset] [(.int (lcmpW x1 (-1 : Int64)))])) _
    by_cases hc17 : x1 = (-1 : Int64)
    · refine XS.ifNo X.here hx rfl (hb hby d1_17) rfl (own_eq_t hc17).2 ?_
      show Steps p.tables e below (T.setTop (mkF m 20 #[.val (.long x0), .second, .val (.long x1), .second, .unset, .unset] [])) _
      refine X.ldc2Long hx hown (mvT hZ (hw _ (List.mem_of_getElem? (i := 5) rfl))) (g := (mkF m 20 #[.val (.long x0), .second, .val (.long x1), .second, .unset, .unset] [])) rfl (hb hby d1_20) _ ?_
      show Steps p.tables e below (T.setTop (mkF m 23 #[.val (.long x0), .second, .val (.long x1), .second, .unset, .unset] [(.long (-1 : Int64))])) _
      have hv : (own_ref x0 x1) = (-1 : Int64) := by first | (rw [own_ref, if_neg hc5, if_pos hc17]; done) | simp only [own_ref, hc5, hc17, ↓reduceIte, eq_self]
      rw [hv] at hr
      exact X.lreturnOut hx hret (hb hby d1_23) hr
    · refine XS.ifYes X.here hx rfl (pc0 := 17) (pc' := 24) rfl (hb hby d1_17) rfl (own_eq_f hc17).2 (by decide) (by decide) ?_
      show Steps p.tables e below (T.setTop (mkF m 24 #[.val (.long x0), .second, .val (.long x1), .second, .unset, .unset] [])) _
      refine XS.lloadN X.here hx rfl (hb hby d1_24) rfl ?_
      show Steps p.tables e below (T.setTop (mkF m 25 #[.val (.long x0), .second, .val (.long x1), .second, .unset, .unset] [(.long x0)])) _
      refine XS.lloadN X.here hx rfl (hb hby d1_25) rfl ?_
      show Steps p.tables e below (T.setTop (mkF m 26 #[.val (.long x0), .second, .val (.long x1), .second, .unset, .unset] [(.long x1), (.long x0)])) _
      refine XS.ladd X.here hx rfl (hb hby d1_26) rfl ?_
      show Steps p.tables e below (T.setTop (mkF m 27 #[.val (.long x0), .second, .val (.long x1), .second, .unset, .unset] [(.long (x0 + x1))])) _
      refine XS.lstore X.here hx rfl (hb hby d1_27) rfl (l' := #[.val (.long x0), .second, .val (.long x1), .second, .val (.long (x0 + x1)), .second]) rfl ?_
      show Steps p.tables e below (T.setTop (mkF m 29 #[.val (.long x0), .second, .val (.long x1), .second, .val (.long (x0 + x1)), .second] [])) _
      refine XS.lload X.here hx rfl (hb hby d1_29) rfl ?_
      show Steps p.tables e below (T.setTop (mkF m 31 #[.val (.long x0), .second, .val (.long x1), .second, .val (.long (x0 + x1)), .second] [(.long (x0 + x1))])) _
      refine XS.lconst X.here hx rfl (hb hby d1_31) ?_
      show Steps p.tables e below (T.setTop (mkF m 32 #[.val (.long x0), .second, .val (.long x1), .second, .val (.long (x0 + x1)), .second] [(.long (0 : Int64)), (.long (x0 + x1))])) _
      refine XS.lcmp X.here hx rfl (hb hby d1_32) rfl ?_
      show Steps p.tables e below (T.setTop (mkF m 33 #[.val (.long x0), .second, .val (.long x1), .second, .val (.long (x0 + x1)), .second] [(.int (lcmpW (x0 + x1) (0 : Int64)))])) _
      by_cases hc33 : (x0 + x1) < (0 : Int64)
      · refine XS.ifNo X.here hx rfl (hb hby d1_33) rfl (own_lt_t hc33).2 ?_
        show Steps p.tables e below (T.setTop (mkF m 36 #[.val (.long x0), .second, .val (.long x1), .second, .val (.long (x0 + x1)), .second] [])) _
        refine X.ldc2Long hx hown (mvT hZ (hw _ (List.mem_of_getElem? (i := 5) rfl))) (g := (mkF m 36 #[.val (.long x0), .second, .val (.long x1), .second, .val (.long (x0 + x1)), .second] [])) rfl (hb hby d1_36) _ ?_
        show Steps p.tables e below (T.setTop (mkF m 39 #[.val (.long x0), .second, .val (.long x1), .second, .val (.long (x0 + x1)), .second] [(.long (-1 : Int64))])) _
        have hv : (own_ref x0 x1) = (-1 : Int64) := by first | (rw [own_ref, if_neg hc5, if_neg hc17, if_pos hc33]; done) | simp only [own_ref, hc5, hc17, hc33, ↓reduceIte, eq_self]
        rw [hv] at hr
        exact X.lreturnOut hx hret (hb hby d1_39) hr
      · refine XS.ifYes X.here hx rfl (pc0 := 33) (pc' := 40) rfl (hb hby d1_33) rfl (own_lt_f hc33).2 (by decide) (by decide) ?_
        show Steps p.tables e below (T.setTop (mkF m 40 #[.val (.long x0), .second, .val (.long x1), .second, .val (.long (x0 + x1)), .second] [])) _
        refine XS.lload X.here hx rfl (hb hby d1_40) rfl ?_
        show Steps p.tables e below (T.setTop (mkF m 42 #[.val (.long x0), .second, .val (.long x1), .second, .val (.long (x0 + x1)), .second] [(.long (x0 + x1))])) _
        have hv : (own_ref x0 x1) = (x0 + x1) := by first | (rw [own_ref, if_neg hc5, if_neg hc17, if_neg hc33]; done) | simp only [own_ref, hc5, hc17, hc33, ↓reduceIte, eq_self]
        rw [hv] at hr
        exact X.lreturnOut hx hret (hb hby d1_42) hr
def Q1 (x0 : Int64) (x1 : Int64) (h0 : Heap) (n0 : Nat) (v : Option Value) (h : Heap) (L : List Loc) : Prop := v = some (.long (own_ref x0 x1)) ∧ Fr n0 L ∧ h = h0
set_option maxRecDepth 65536 in
set_option maxHeartbeats 40000000 in
theorem rm1 (l : Launch) (Z : State) (a0 : Array Value) (hw : ∀ d ∈ tables_1, d.before a0 Z = true) (ws : List Jvm.Cond) (x0 : Int64) (x1 : Int64) (h0 : Heap) (n0 : Nat) (Z0 : n0 ≤ h0.size)  :
    MetFree l (⟨"com/example/kingsnake/kingsnake/schema/content/ContentModelMaximumSumPinLaw", "reference", "(JJ)J"⟩ : MethodName) (head1 (Jvm.Cond.code (⟨"com/example/kingsnake/kingsnake/schema/content/ContentModelMaximumSumPinLaw", "reference", "(JJ)J"⟩ : MethodName) method_3_code 6 (some .long) :: ws) ({ frames := 0, cells := 0, slots := 0, locals := 0 } : Room)) (fun a U => a = #[(.long x0), (.long x1)] ∧ Z.Warmed39 U.vm ∧ U.heap = h0) (fun _ _ _ _ _ => True) (fun _ U o U' => ∃ v L, o = .returned v ∧ Q1 x0 x1 h0 n0 v U'.heap L ∧ FrameEnd U o U' L ({ frames := 0, cells := 0, slots := 0, locals := 0 } : Room).cells ({ frames := 0, cells := 0, slots := 0, locals := 0 } : Room).slots) := by
  refine MetFree.of_bodySF (plainFor_of_name pn_1) hisR ?_
  intro p e s m args below meth c s₁ Bd hml0 hP hK
  obtain ⟨rfl, hZ, hh⟩ := hP
  have hx := Bd.exec
  have hby := Bd.bytes
  have hml : c.maxLocals = 6 := hml0
  have hown : s.vm.findClass "com/example/kingsnake/kingsnake/schema/content/ContentModelMaximumSumPinLaw" = some m.cls := findClass_of_methodNamed Bd.named
  have hnm := (name_of_methodNamed Bd.named Bd.method).1
  have X0 : Stand p l e ({ frames := 0, cells := 0, slots := 0, locals := 0 } : Room) s m #[(.long x0), (.long x1)] below meth c s₁ [] 0 0 := Stand.of_body Bd
  have e0 : s₁.heap = h0 := by rw [← hh, Bd.state]; rfl
  have N0 := Fr.nil n0
  have pre0 : ∀ t, Steps p.tables e below (s₁.setTop (mkF m 0 #[.val (.long x0), .second, .val (.long x1), .second, .unset, .unset] [])) t → Steps p.tables e below (s₁.setTop (entryFrame m #[(.long x0), (.long x1)] 6)) t := fun t k => castTop (ef_1 m x0 x1) k
  obtain ⟨fs, hr, hrun, hended, hW, hsame⟩ := X0.leave (v := some (.long (own_ref x0 x1))) (fun h => by rw [Bd.returns] at h; cases h)
  refine ⟨_, _, pre0 _ ?_, hrun, hended, _, _, rfl, ?_, ⟨_, rfl⟩, hW, hsame.mono (by decide) (by decide)⟩
  · exact wk1 X0 hx hZ hw hby hown Bd.returns x0 x1 hr
  · show Q1 x0 x1 h0 n0 _ s₁.heap _
    rw [e0]
    exact ⟨rfl, N0, rfl⟩
set_option maxRecDepth 65536 in
set_option maxHeartbeats 40000000 in
theorem wk2 {p : Program} {l : Launch} {e : Env} {R : Room} {s : State} {m : MethodId} {args : Array Value} {below : List Frame} {meth : Method} {c : Code} {T : State} {locs : List Loc} {cells slots : Nat} {Z : State} {a0 : Array Value} (X : Stand p l e R s m args below meth c T locs cells slots) (hx : p.tables.exec = Jvm.exec) (hZ : Z.Warmed39 s.vm) (hw : ∀ d ∈ tables_1, d.before a0 Z = true) (hby : c.code = prog_188_method_42_code) (hown : s.vm.findClass "com/example/kingsnake/kingsnake/schema/content/ContentModel" = some m.cls) (hret : meth.sig.returnType = some .long) {fs : List Frame} (x0 x1 : Int64) (hr : ∀ (f : JFrame) (acts : List Action), f.method = m → f.locked = none → f.entered = [] → (doReturn e (T.setTop f) acts (some (.long (own_max x0 x1)))).1 = T.setFrames fs) : Steps p.tables e below (T.setTop (mkF m 0 #[.val (.long x0), .second, .val (.long x1), .second, .unset] [])) (T.setFrames fs) := by
  show Steps p.tables e below (T.setTop (mkF m 0 #[.val (.long x0), .second, .val (.long x1), .second, .unset] [])) _
  refine XS.lloadN X.here hx rfl (hb hby d2_0) rfl ?_
  show Steps p.tables e below (T.setTop (mkF m 1 #[.val (.long x0), .second, .val (.long x1), .second, .unset] [(.long x0)])) _
  refine X.ldc2Long hx hown (mvT hZ (hw _ (List.mem_of_getElem? (i := 10) rfl))) (g := (mkF m 1 #[.val (.long x0), .second, .val (.long x1), .second, .unset] [(.long x0)])) rfl (hb hby d2_1) _ ?_
  show Steps p.tables e below (T.setTop (mkF m 4 #[.val (.long x0), .second, .val (.long x1), .second, .unset] [(.long (-1 : Int64)), (.long x0)])) _
  refine XS.lcmp X.here hx rfl (hb hby d2_4) rfl ?_
  show Steps p.tables e below (T.setTop (mkF m 5 #[.val (.long x0), .second, .val (.long x1), .second, .unset] [(.int (lcmpW x0 (-1 : Int64)))])) _
  by_cases hc5 : x0 = (-1 : Int64)
  · refine XS.ifYes X.here hx rfl (pc0 := 5) (pc' := 26) rfl (hb hby d2_5) rfl (own_eq_t hc5).1 (by decide) (by decide) ?_
    show Steps p.tables e below (T.setTop (mkF m 26 #[.val (.long x0), .second, .val (.long x1), .second, .unset] [])) _
    refine XS.iconst X.here hx rfl (hb hby d2_26) ?_
    show Steps p.tables e below (T.setTop (mkF m 27 #[.val (.long x0), .second, .val (.long x1), .second, .unset] [(.int (1 : Int32))])) _
    refine XS.goto X.here hx rfl (pc0 := 27) (pc' := 31) rfl (hb hby d2_27) (by decide) (by decide) ?_
    show Steps p.tables e below (T.setTop (mkF m 31 #[.val (.long x0), .second, .val (.long x1), .second, .unset] [(.int (1 : Int32))])) _
    refine XS.istore X.here hx rfl (hb hby d2_31) rfl (l' := #[.val (.long x0), .second, .val (.long x1), .second, .val (.int (1 : Int32))]) rfl ?_
    show Steps p.tables e below (T.setTop (mkF m 33 #[.val (.long x0), .second, .val (.long x1), .second, .val (.int (1 : Int32))] [])) _
    refine XS.iload X.here hx rfl (hb hby d2_33) rfl ?_
    show Steps p.tables e below (T.setTop (mkF m 35 #[.val (.long x0), .second, .val (.long x1), .second, .val (.int (1 : Int32))] [(.int (1 : Int32))])) _
    refine XS.ifNo X.here hx rfl (hb hby d2_35) rfl ((if0 _ _).trans (feq (by decide : ¬ ((1 : Int32) = (0 : Int32)))).1) ?_
    show Steps p.tables e below (T.setTop (mkF m 38 #[.val (.long x0), .second, .val (.long x1), .second, .val (.int (1 : Int32))] [])) _
    refine X.ldc2Long hx hown (mvT hZ (hw _ (List.mem_of_getElem? (i := 10) rfl))) (g := (mkF m 38 #[.val (.long x0), .second, .val (.long x1), .second, .val (.int (1 : Int32))] [])) rfl (hb hby d2_38) _ ?_
    show Steps p.tables e below (T.setTop (mkF m 41 #[.val (.long x0), .second, .val (.long x1), .second, .val (.int (1 : Int32))] [(.long (-1 : Int64))])) _
    refine XS.goto X.here hx rfl (pc0 := 41) (pc' := 47) rfl (hb hby d2_41) (by decide) (by decide) ?_
    show Steps p.tables e below (T.setTop (mkF m 47 #[.val (.long x0), .second, .val (.long x1), .second, .val (.int (1 : Int32))] [(.long (-1 : Int64))])) _
    have hv : (own_max x0 x1) = (-1 : Int64) := by first | (rw [own_max, if_pos hc5]; done) | simp only [own_max, hc5, ↓reduceIte, eq_self]
    rw [hv] at hr
    exact X.lreturnOut hx hret (hb hby d2_47) hr
  · refine XS.ifNo X.here hx rfl (hb hby d2_5) rfl (own_eq_f hc5).1 ?_
    show Steps p.tables e below (T.setTop (mkF m 8 #[.val (.long x0), .second, .val (.long x1), .second, .unset] [])) _
    refine XS.lloadN X.here hx rfl (hb hby d2_8) rfl ?_
    show Steps p.tables e below (T.setTop (mkF m 9 #[.val (.long x0), .second, .val (.long x1), .second, .unset] [(.long x1)])) _
    refine X.ldc2Long hx hown (mvT hZ (hw _ (List.mem_of_getElem? (i := 10) rfl))) (g := (mkF m 9 #[.val (.long x0), .second, .val (.long x1), .second, .unset] [(.long x1)])) rfl (hb hby d2_9) _ ?_
    show Steps p.tables e below (T.setTop (mkF m 12 #[.val (.long x0), .second, .val (.long x1), .second, .unset] [(.long (-1 : Int64)), (.long x1)])) _
    refine XS.lcmp X.here hx rfl (hb hby d2_12) rfl ?_
    show Steps p.tables e below (T.setTop (mkF m 13 #[.val (.long x0), .second, .val (.long x1), .second, .unset] [(.int (lcmpW x1 (-1 : Int64)))])) _
    by_cases hc13 : x1 = (-1 : Int64)
    · refine XS.ifYes X.here hx rfl (pc0 := 13) (pc' := 26) rfl (hb hby d2_13) rfl (own_eq_t hc13).1 (by decide) (by decide) ?_
      show Steps p.tables e below (T.setTop (mkF m 26 #[.val (.long x0), .second, .val (.long x1), .second, .unset] [])) _
      refine XS.iconst X.here hx rfl (hb hby d2_26) ?_
      show Steps p.tables e below (T.setTop (mkF m 27 #[.val (.long x0), .second, .val (.long x1), .second, .unset] [(.int (1 : Int32))])) _
      refine XS.goto X.here hx rfl (pc0 := 27) (pc' := 31) rfl (hb hby d2_27) (by decide) (by decide) ?_
      show Steps p.tables e below (T.setTop (mkF m 31 #[.val (.long x0), .second, .val (.long x1), .second, .unset] [(.int (1 : Int32))])) _
      refine XS.istore X.here hx rfl (hb hby d2_31) rfl (l' := #[.val (.long x0), .second, .val (.long x1), .second, .val (.int (1 : Int32))]) rfl ?_
      show Steps p.tables e below (T.setTop (mkF m 33 #[.val (.long x0), .second, .val (.long x1), .second, .val (.int (1 : Int32))] [])) _
      refine XS.iload X.here hx rfl (hb hby d2_33) rfl ?_
      show Steps p.tables e below (T.setTop (mkF m 35 #[.val (.long x0), .second, .val (.long x1), .second, .val (.int (1 : Int32))] [(.int (1 : Int32))])) _
      refine XS.ifNo X.here hx rfl (hb hby d2_35) rfl ((if0 _ _).trans (feq (by decide : ¬ ((1 : Int32) = (0 : Int32)))).1) ?_
      show Steps p.tables e below (T.setTop (mkF m 38 #[.val (.long x0), .second, .val (.long x1), .second, .val (.int (1 : Int32))] [])) _
      refine X.ldc2Long hx hown (mvT hZ (hw _ (List.mem_of_getElem? (i := 10) rfl))) (g := (mkF m 38 #[.val (.long x0), .second, .val (.long x1), .second, .val (.int (1 : Int32))] [])) rfl (hb hby d2_38) _ ?_
      show Steps p.tables e below (T.setTop (mkF m 41 #[.val (.long x0), .second, .val (.long x1), .second, .val (.int (1 : Int32))] [(.long (-1 : Int64))])) _
      refine XS.goto X.here hx rfl (pc0 := 41) (pc' := 47) rfl (hb hby d2_41) (by decide) (by decide) ?_
      show Steps p.tables e below (T.setTop (mkF m 47 #[.val (.long x0), .second, .val (.long x1), .second, .val (.int (1 : Int32))] [(.long (-1 : Int64))])) _
      have hv : (own_max x0 x1) = (-1 : Int64) := by first | (rw [own_max, if_neg hc5, if_pos hc13]; done) | simp only [own_max, hc5, hc13, ↓reduceIte, eq_self]
      rw [hv] at hr
      exact X.lreturnOut hx hret (hb hby d2_47) hr
    · refine XS.ifNo X.here hx rfl (hb hby d2_13) rfl (own_eq_f hc13).1 ?_
      show Steps p.tables e below (T.setTop (mkF m 16 #[.val (.long x0), .second, .val (.long x1), .second, .unset] [])) _
      refine XS.lloadN X.here hx rfl (hb hby d2_16) rfl ?_
      show Steps p.tables e below (T.setTop (mkF m 17 #[.val (.long x0), .second, .val (.long x1), .second, .unset] [(.long x0)])) _
      refine X.ldc2Long hx hown (mvT hZ (hw _ (List.mem_of_getElem? (i := 11) rfl))) (g := (mkF m 17 #[.val (.long x0), .second, .val (.long x1), .second, .unset] [(.long x0)])) rfl (hb hby d2_17) _ ?_
      show Steps p.tables e below (T.setTop (mkF m 20 #[.val (.long x0), .second, .val (.long x1), .second, .unset] [(.long (9223372036854775807 : Int64)), (.long x0)])) _
      refine XS.lloadN X.here hx rfl (hb hby d2_20) rfl ?_
      show Steps p.tables e below (T.setTop (mkF m 21 #[.val (.long x0), .second, .val (.long x1), .second, .unset] [(.long x1), (.long (9223372036854775807 : Int64)), (.long x0)])) _
      refine XS.lsub X.here hx rfl (hb hby d2_21) rfl ?_
      show Steps p.tables e below (T.setTop (mkF m 22 #[.val (.long x0), .second, .val (.long x1), .second, .unset] [(.long ((9223372036854775807 : Int64) - x1)), (.long x0)])) _
      refine XS.lcmp X.here hx rfl (hb hby d2_22) rfl ?_
      show Steps p.tables e below (T.setTop (mkF m 23 #[.val (.long x0), .second, .val (.long x1), .second, .unset] [(.int (lcmpW x0 ((9223372036854775807 : Int64) - x1)))])) _
      by_cases hc23 : ((9223372036854775807 : Int64) - x1) < x0
      · refine XS.ifNo X.here hx rfl (hb hby d2_23) rfl (own_gt_t hc23).2 ?_
        show Steps p.tables e below (T.setTop (mkF m 26 #[.val (.long x0), .second, .val (.long x1), .second, .unset] [])) _
        refine XS.iconst X.here hx rfl (hb hby d2_26) ?_
        show Steps p.tables e below (T.setTop (mkF m 27 #[.val (.long x0), .second, .val (.long x1), .second, .unset] [(.int (1 : Int32))])) _
        refine XS.goto X.here hx rfl (pc0 := 27) (pc' := 31) rfl (hb hby d2_27) (by decide) (by decide) ?_
        show Steps p.tables e below (T.setTop (mkF m 31 #[.val (.long x0), .second, .val (.long x1), .second, .unset] [(.int (1 : Int32))])) _
        refine XS.istore X.here hx rfl (hb hby d2_31) rfl (l' := #[.val (.long x0), .second, .val (.long x1), .second, .val (.int (1 : Int32))]) rfl ?_
        show Steps p.tables e below (T.setTop (mkF m 33 #[.val (.long x0), .second, .val (.long x1), .second, .val (.int (1 : Int32))] [])) _
        refine XS.iload X.here hx rfl (hb hby d2_33) rfl ?_
        show Steps p.tables e below (T.setTop (mkF m 35 #[.val (.long x0), .second, .val (.long x1), .second, .val (.int (1 : Int32))] [(.int (1 : Int32))])) _
        refine XS.ifNo X.here hx rfl (hb hby d2_35) rfl ((if0 _ _).trans (feq (by decide : ¬ ((1 : Int32) = (0 : Int32)))).1) ?_
        show Steps p.tables e below (T.setTop (mkF m 38 #[.val (.long x0), .second, .val (.long x1), .second, .val (.int (1 : Int32))] [])) _
        refine X.ldc2Long hx hown (mvT hZ (hw _ (List.mem_of_getElem? (i := 10) rfl))) (g := (mkF m 38 #[.val (.long x0), .second, .val (.long x1), .second, .val (.int (1 : Int32))] [])) rfl (hb hby d2_38) _ ?_
        show Steps p.tables e below (T.setTop (mkF m 41 #[.val (.long x0), .second, .val (.long x1), .second, .val (.int (1 : Int32))] [(.long (-1 : Int64))])) _
        refine XS.goto X.here hx rfl (pc0 := 41) (pc' := 47) rfl (hb hby d2_41) (by decide) (by decide) ?_
        show Steps p.tables e below (T.setTop (mkF m 47 #[.val (.long x0), .second, .val (.long x1), .second, .val (.int (1 : Int32))] [(.long (-1 : Int64))])) _
        have hv : (own_max x0 x1) = (-1 : Int64) := by first | (rw [own_max, if_neg hc5, if_neg hc13, if_pos hc23]; done) | simp only [own_max, hc5, hc13, hc23, ↓reduceIte, eq_self]
        rw [hv] at hr
        exact X.lreturnOut hx hret (hb hby d2_47) hr
      · refine XS.ifYes X.here hx rfl (pc0 := 23) (pc' := 30) rfl (hb hby d2_23) rfl (own_gt_f hc23).2 (by decide) (by decide) ?_
        show Steps p.tables e below (T.setTop (mkF m 30 #[.val (.long x0), .second, .val (.long x1), .second, .unset] [])) _
        refine XS.iconst X.here hx rfl (hb hby d2_30) ?_
        show Steps p.tables e below (T.setTop (mkF m 31 #[.val (.long x0), .second, .val (.long x1), .second, .unset] [(.int (0 : Int32))])) _
        refine XS.istore X.here hx rfl (hb hby d2_31) rfl (l' := #[.val (.long x0), .second, .val (.long x1), .second, .val (.int (0 : Int32))]) rfl ?_
        show Steps p.tables e below (T.setTop (mkF m 33 #[.val (.long x0), .second, .val (.long x1), .second, .val (.int (0 : Int32))] [])) _
        refine XS.iload X.here hx rfl (hb hby d2_33) rfl ?_
        show Steps p.tables e below (T.setTop (mkF m 35 #[.val (.long x0), .second, .val (.long x1), .second, .val (.int (0 : Int32))] [(.int (0 : Int32))])) _
        refine XS.ifYes X.here hx rfl (pc0 := 35) (pc' := 44) rfl (hb hby d2_35) rfl ((if0 _ _).trans (teq (by decide : (0 : Int32) = (0 : Int32))).1) (by decide) (by decide) ?_
        show Steps p.tables e below (T.setTop (mkF m 44 #[.val (.long x0), .second, .val (.long x1), .second, .val (.int (0 : Int32))] [])) _
        refine XS.lloadN X.here hx rfl (hb hby d2_44) rfl ?_
        show Steps p.tables e below (T.setTop (mkF m 45 #[.val (.long x0), .second, .val (.long x1), .second, .val (.int (0 : Int32))] [(.long x0)])) _
        refine XS.lloadN X.here hx rfl (hb hby d2_45) rfl ?_
        show Steps p.tables e below (T.setTop (mkF m 46 #[.val (.long x0), .second, .val (.long x1), .second, .val (.int (0 : Int32))] [(.long x1), (.long x0)])) _
        refine XS.ladd X.here hx rfl (hb hby d2_46) rfl ?_
        show Steps p.tables e below (T.setTop (mkF m 47 #[.val (.long x0), .second, .val (.long x1), .second, .val (.int (0 : Int32))] [(.long (x0 + x1))])) _
        have hv : (own_max x0 x1) = (x0 + x1) := by first | (rw [own_max, if_neg hc5, if_neg hc13, if_neg hc23]; done) | simp only [own_max, hc5, hc13, hc23, ↓reduceIte, eq_self]
        rw [hv] at hr
        exact X.lreturnOut hx hret (hb hby d2_47) hr
def Q2 (x0 : Int64) (x1 : Int64) (h0 : Heap) (n0 : Nat) (v : Option Value) (h : Heap) (L : List Loc) : Prop := v = some (.long (own_max x0 x1)) ∧ Fr n0 L ∧ h = h0
set_option maxRecDepth 65536 in
set_option maxHeartbeats 40000000 in
theorem rm2 (l : Launch) (Z : State) (a0 : Array Value) (hw : ∀ d ∈ tables_1, d.before a0 Z = true) (ws : List Jvm.Cond) (x0 : Int64) (x1 : Int64) (h0 : Heap) (n0 : Nat) (Z0 : n0 ≤ h0.size)  :
    MetFree l (⟨"com/example/kingsnake/kingsnake/schema/content/ContentModel", "maximumSum", "(JJ)J"⟩ : MethodName) (head1 (Jvm.Cond.code (⟨"com/example/kingsnake/kingsnake/schema/content/ContentModel", "maximumSum", "(JJ)J"⟩ : MethodName) prog_188_method_42_code 5 (some .long) :: ws) ({ frames := 0, cells := 0, slots := 0, locals := 0 } : Room)) (fun a U => a = #[(.long x0), (.long x1)] ∧ Z.Warmed39 U.vm ∧ U.heap = h0) (fun _ _ _ _ _ => True) (fun _ U o U' => ∃ v L, o = .returned v ∧ Q2 x0 x1 h0 n0 v U'.heap L ∧ FrameEnd U o U' L ({ frames := 0, cells := 0, slots := 0, locals := 0 } : Room).cells ({ frames := 0, cells := 0, slots := 0, locals := 0 } : Room).slots) := by
  refine MetFree.of_bodySF (plainFor_of_name pn_2) hisR ?_
  intro p e s m args below meth c s₁ Bd hml0 hP hK
  obtain ⟨rfl, hZ, hh⟩ := hP
  have hx := Bd.exec
  have hby := Bd.bytes
  have hml : c.maxLocals = 5 := hml0
  have hown : s.vm.findClass "com/example/kingsnake/kingsnake/schema/content/ContentModel" = some m.cls := findClass_of_methodNamed Bd.named
  have hnm := (name_of_methodNamed Bd.named Bd.method).1
  have X0 : Stand p l e ({ frames := 0, cells := 0, slots := 0, locals := 0 } : Room) s m #[(.long x0), (.long x1)] below meth c s₁ [] 0 0 := Stand.of_body Bd
  have e0 : s₁.heap = h0 := by rw [← hh, Bd.state]; rfl
  have N0 := Fr.nil n0
  have pre0 : ∀ t, Steps p.tables e below (s₁.setTop (mkF m 0 #[.val (.long x0), .second, .val (.long x1), .second, .unset] [])) t → Steps p.tables e below (s₁.setTop (entryFrame m #[(.long x0), (.long x1)] 5)) t := fun t k => castTop (ef_2 m x0 x1) k
  obtain ⟨fs, hr, hrun, hended, hW, hsame⟩ := X0.leave (v := some (.long (own_max x0 x1))) (fun h => by rw [Bd.returns] at h; cases h)
  refine ⟨_, _, pre0 _ ?_, hrun, hended, _, _, rfl, ?_, ⟨_, rfl⟩, hW, hsame.mono (by decide) (by decide)⟩
  · exact wk2 X0 hx hZ hw hby hown Bd.returns x0 x1 hr
  · show Q2 x0 x1 h0 n0 _ s₁.heap _
    rw [e0]
    exact ⟨rfl, N0, rfl⟩
set_option maxRecDepth 65536 in
set_option maxHeartbeats 40000000 in
theorem sg0 {p : Program} {l : Launch} {e : Env} {R : Room} {s : State} {m : MethodId} {args : Array Value} {below : List Frame} {meth : Method} {c : Code} {T : State} {locs : List Loc} {cells slots : Nat} {Z : State} {a0 : Array Value} (X : Stand p l e R s m args below meth c T locs cells slots) (hx : p.tables.exec = Jvm.exec) (hZ : Z.Warmed39 s.vm) (hw : ∀ d ∈ tables_1, d.before a0 Z = true) (hby : c.code = code) (hown : s.vm.findClass "com/example/kingsnake/kingsnake/schema/content/ContentModelMaximumSumPinLaw" = some m.cls) (i0 i1 : Int64) (i2 r5 r6 : Int32) (lf rg : Int64) (e5 : r5 = if (i2 &&& (1 : Int32)) = (0 : Int32) then (0 : Int32) else (1 : Int32)) (e6 : r6 = if (i2 &&& (2 : Int32)) = (0 : Int32) then (0 : Int32) else (1 : Int32)) (e7 : lf = if (i2 &&& (1 : Int32)) = (0 : Int32) then (i0 &&& (9223372036854775807 : Int64)) else (-1 : Int64)) (e9 : rg = if (i2 &&& (2 : Int32)) = (0 : Int32) then (i1 &&& (9223372036854775807 : Int64)) else (-1 : Int64)) {target : State} (kt : Steps p.tables e below (T.setTop (mkF m 64 #[.val (.long i0), .second, .val (.long i1), .second, .val (.int i2), .val (.int r5), .val (.int r6), .val (.long lf), .second, .val (.long rg), .second, .unset, .unset, .unset, .unset] [])) target) : Steps p.tables e below (T.setTop (mkF m 0 #[.val (.long i0), .second, .val (.long i1), .second, .val (.int i2), .unset, .unset, .unset, .unset, .unset, .unset, .unset, .unset, .unset, .unset] [])) target := by
  show Steps p.tables e below (T.setTop (mkF m 0 #[.val (.long i0), .second, .val (.long i1), .second, .val (.int i2), .unset, .unset, .unset, .unset, .unset, .unset, .unset, .unset, .unset, .unset] [])) _
  refine XS.iload X.here hx rfl (hb hby at_0) rfl ?_
  show Steps p.tables e below (T.setTop (mkF m 2 #[.val (.long i0), .second, .val (.long i1), .second, .val (.int i2), .unset, .unset, .unset, .unset, .unset, .unset, .unset, .unset, .unset, .unset] [(.int i2)])) _
  refine XS.iconst X.here hx rfl (hb hby at_2) ?_
  show Steps p.tables e below (T.setTop (mkF m 3 #[.val (.long i0), .second, .val (.long i1), .second, .val (.int i2), .unset, .unset, .unset, .unset, .unset, .unset, .unset, .unset, .unset, .unset] [(.int (1 : Int32)), (.int i2)])) _
  refine XS.iand X.here hx rfl (hb hby at_3) rfl ?_
  show Steps p.tables e below (T.setTop (mkF m 4 #[.val (.long i0), .second, .val (.long i1), .second, .val (.int i2), .unset, .unset, .unset, .unset, .unset, .unset, .unset, .unset, .unset, .unset] [(.int (i2 &&& (1 : Int32)))])) _
  by_cases hc4 : (i2 &&& (1 : Int32)) = (0 : Int32)
  · refine XS.ifYes X.here hx rfl (pc0 := 4) (pc' := 11) rfl (hb hby at_4) rfl ((if0 _ _).trans (teq hc4).1) (by decide) (by decide) ?_
    show Steps p.tables e below (T.setTop (mkF m 11 #[.val (.long i0), .second, .val (.long i1), .second, .val (.int i2), .unset, .unset, .unset, .unset, .unset, .unset, .unset, .unset, .unset, .unset] [])) _
    refine XS.iconst X.here hx rfl (hb hby at_11) ?_
    show Steps p.tables e below (T.setTop (mkF m 12 #[.val (.long i0), .second, .val (.long i1), .second, .val (.int i2), .unset, .unset, .unset, .unset, .unset, .unset, .unset, .unset, .unset, .unset] [(.int (0 : Int32))])) _
    refine XS.istore X.here hx rfl (hb hby at_12) rfl (l' := #[.val (.long i0), .second, .val (.long i1), .second, .val (.int i2), .val (.int (0 : Int32)), .unset, .unset, .unset, .unset, .unset, .unset, .unset, .unset, .unset]) rfl ?_
    show Steps p.tables e below (T.setTop (mkF m 14 #[.val (.long i0), .second, .val (.long i1), .second, .val (.int i2), .val (.int (0 : Int32)), .unset, .unset, .unset, .unset, .unset, .unset, .unset, .unset, .unset] [])) _
    refine XS.iload X.here hx rfl (hb hby at_14) rfl ?_
    show Steps p.tables e below (T.setTop (mkF m 16 #[.val (.long i0), .second, .val (.long i1), .second, .val (.int i2), .val (.int (0 : Int32)), .unset, .unset, .unset, .unset, .unset, .unset, .unset, .unset, .unset] [(.int i2)])) _
    refine XS.iconst X.here hx rfl (hb hby at_16) ?_
    show Steps p.tables e below (T.setTop (mkF m 17 #[.val (.long i0), .second, .val (.long i1), .second, .val (.int i2), .val (.int (0 : Int32)), .unset, .unset, .unset, .unset, .unset, .unset, .unset, .unset, .unset] [(.int (2 : Int32)), (.int i2)])) _
    refine XS.iand X.here hx rfl (hb hby at_17) rfl ?_
    show Steps p.tables e below (T.setTop (mkF m 18 #[.val (.long i0), .second, .val (.long i1), .second, .val (.int i2), .val (.int (0 : Int32)), .unset, .unset, .unset, .unset, .unset, .unset, .unset, .unset, .unset] [(.int (i2 &&& (2 : Int32)))])) _
    by_cases hc18 : (i2 &&& (2 : Int32)) = (0 : Int32)
    · refine XS.ifYes X.here hx rfl (pc0 := 18) (pc' := 25) rfl (hb hby at_18) rfl ((if0 _ _).trans (teq hc18).1) (by decide) (by decide) ?_
      show Steps p.tables e below (T.setTop (mkF m 25 #[.val (.long i0), .second, .val (.long i1), .second, .val (.int i2), .val (.int (0 : Int32)), .unset, .unset, .unset, .unset, .unset, .unset, .unset, .unset, .unset] [])) _
      refine XS.iconst X.here hx rfl (hb hby at_25) ?_
      show Steps p.tables e below (T.setTop (mkF m 26 #[.val (.long i0), .second, .val (.long i1), .second, .val (.int i2), .val (.int (0 : Int32)), .unset, .unset, .unset, .unset, .unset, .unset, .unset, .unset, .unset] [(.int (0 : Int32))])) _
      refine XS.istore X.here hx rfl (hb hby at_26) rfl (l' := #[.val (.long i0), .second, .val (.long i1), .second, .val (.int i2), .val (.int (0 : Int32)), .val (.int (0 : Int32)), .unset, .unset, .unset, .unset, .unset, .unset, .unset, .unset]) rfl ?_
      show Steps p.tables e below (T.setTop (mkF m 28 #[.val (.long i0), .second, .val (.long i1), .second, .val (.int i2), .val (.int (0 : Int32)), .val (.int (0 : Int32)), .unset, .unset, .unset, .unset, .unset, .unset, .unset, .unset] [])) _
      refine XS.iload X.here hx rfl (hb hby at_28) rfl ?_
      show Steps p.tables e below (T.setTop (mkF m 30 #[.val (.long i0), .second, .val (.long i1), .second, .val (.int i2), .val (.int (0 : Int32)), .val (.int (0 : Int32)), .unset, .unset, .unset, .unset, .unset, .unset, .unset, .unset] [(.int (0 : Int32))])) _
      refine XS.ifYes X.here hx rfl (pc0 := 30) (pc' := 39) rfl (hb hby at_30) rfl ((if0 _ _).trans (teq (by decide : (0 : Int32) = (0 : Int32))).1) (by decide) (by decide) ?_
      show Steps p.tables e below (T.setTop (mkF m 39 #[.val (.long i0), .second, .val (.long i1), .second, .val (.int i2), .val (.int (0 : Int32)), .val (.int (0 : Int32)), .unset, .unset, .unset, .unset, .unset, .unset, .unset, .unset] [])) _
      refine XS.lloadN X.here hx rfl (hb hby at_39) rfl ?_
      show Steps p.tables e below (T.setTop (mkF m 40 #[.val (.long i0), .second, .val (.long i1), .second, .val (.int i2), .val (.int (0 : Int32)), .val (.int (0 : Int32)), .unset, .unset, .unset, .unset, .unset, .unset, .unset, .unset] [(.long i0)])) _
      refine X.ldc2Long hx hown (mvT hZ (hw _ (List.mem_of_getElem? (i := 0) rfl))) (g := (mkF m 40 #[.val (.long i0), .second, .val (.long i1), .second, .val (.int i2), .val (.int (0 : Int32)), .val (.int (0 : Int32)), .unset, .unset, .unset, .unset, .unset, .unset, .unset, .unset] [(.long i0)])) rfl (hb hby at_40) _ ?_
      show Steps p.tables e below (T.setTop (mkF m 43 #[.val (.long i0), .second, .val (.long i1), .second, .val (.int i2), .val (.int (0 : Int32)), .val (.int (0 : Int32)), .unset, .unset, .unset, .unset, .unset, .unset, .unset, .unset] [(.long (9223372036854775807 : Int64)), (.long i0)])) _
      refine XS.land X.here hx rfl (hb hby at_43) rfl ?_
      show Steps p.tables e below (T.setTop (mkF m 44 #[.val (.long i0), .second, .val (.long i1), .second, .val (.int i2), .val (.int (0 : Int32)), .val (.int (0 : Int32)), .unset, .unset, .unset, .unset, .unset, .unset, .unset, .unset] [(.long (i0 &&& (9223372036854775807 : Int64)))])) _
      refine XS.lstore X.here hx rfl (hb hby at_44) rfl (l' := #[.val (.long i0), .second, .val (.long i1), .second, .val (.int i2), .val (.int (0 : Int32)), .val (.int (0 : Int32)), .val (.long (i0 &&& (9223372036854775807 : Int64))), .second, .unset, .unset, .unset, .unset, .unset, .unset]) rfl ?_
      show Steps p.tables e below (T.setTop (mkF m 46 #[.val (.long i0), .second, .val (.long i1), .second, .val (.int i2), .val (.int (0 : Int32)), .val (.int (0 : Int32)), .val (.long (i0 &&& (9223372036854775807 : Int64))), .second, .unset, .unset, .unset, .unset, .unset, .unset] [])) _
      refine XS.iload X.here hx rfl (hb hby at_46) rfl ?_
      show Steps p.tables e below (T.setTop (mkF m 48 #[.val (.long i0), .second, .val (.long i1), .second, .val (.int i2), .val (.int (0 : Int32)), .val (.int (0 : Int32)), .val (.long (i0 &&& (9223372036854775807 : Int64))), .second, .unset, .unset, .unset, .unset, .unset, .unset] [(.int (0 : Int32))])) _
      refine XS.ifYes X.here hx rfl (pc0 := 48) (pc' := 57) rfl (hb hby at_48) rfl ((if0 _ _).trans (teq (by decide : (0 : Int32) = (0 : Int32))).1) (by decide) (by decide) ?_
      show Steps p.tables e below (T.setTop (mkF m 57 #[.val (.long i0), .second, .val (.long i1), .second, .val (.int i2), .val (.int (0 : Int32)), .val (.int (0 : Int32)), .val (.long (i0 &&& (9223372036854775807 : Int64))), .second, .unset, .unset, .unset, .unset, .unset, .unset] [])) _
      refine XS.lloadN X.here hx rfl (hb hby at_57) rfl ?_
      show Steps p.tables e below (T.setTop (mkF m 58 #[.val (.long i0), .second, .val (.long i1), .second, .val (.int i2), .val (.int (0 : Int32)), .val (.int (0 : Int32)), .val (.long (i0 &&& (9223372036854775807 : Int64))), .second, .unset, .unset, .unset, .unset, .unset, .unset] [(.long i1)])) _
      refine X.ldc2Long hx hown (mvT hZ (hw _ (List.mem_of_getElem? (i := 0) rfl))) (g := (mkF m 58 #[.val (.long i0), .second, .val (.long i1), .second, .val (.int i2), .val (.int (0 : Int32)), .val (.int (0 : Int32)), .val (.long (i0 &&& (9223372036854775807 : Int64))), .second, .unset, .unset, .unset, .unset, .unset, .unset] [(.long i1)])) rfl (hb hby at_58) _ ?_
      show Steps p.tables e below (T.setTop (mkF m 61 #[.val (.long i0), .second, .val (.long i1), .second, .val (.int i2), .val (.int (0 : Int32)), .val (.int (0 : Int32)), .val (.long (i0 &&& (9223372036854775807 : Int64))), .second, .unset, .unset, .unset, .unset, .unset, .unset] [(.long (9223372036854775807 : Int64)), (.long i1)])) _
      refine XS.land X.here hx rfl (hb hby at_61) rfl ?_
      show Steps p.tables e below (T.setTop (mkF m 62 #[.val (.long i0), .second, .val (.long i1), .second, .val (.int i2), .val (.int (0 : Int32)), .val (.int (0 : Int32)), .val (.long (i0 &&& (9223372036854775807 : Int64))), .second, .unset, .unset, .unset, .unset, .unset, .unset] [(.long (i1 &&& (9223372036854775807 : Int64)))])) _
      refine XS.lstore X.here hx rfl (hb hby at_62) rfl (l' := #[.val (.long i0), .second, .val (.long i1), .second, .val (.int i2), .val (.int (0 : Int32)), .val (.int (0 : Int32)), .val (.long (i0 &&& (9223372036854775807 : Int64))), .second, .val (.long (i1 &&& (9223372036854775807 : Int64))), .second, .unset, .unset, .unset, .unset]) rfl ?_
      obtain rfl : r5 = (0 : Int32) := e5.trans (by first | exact if_pos hc4 | exact if_pos hc18 | rfl | simp only [hc4, hc18, ↓reduceIte, eq_self])
      obtain rfl : r6 = (0 : Int32) := e6.trans (by first | exact if_pos hc4 | exact if_pos hc18 | rfl | simp only [hc4, hc18, ↓reduceIte, eq_self])
      obtain rfl : lf = (i0 &&& (9223372036854775807 : Int64)) := e7.trans (by first | exact if_pos hc4 | exact if_pos hc18 | rfl | simp only [hc4, hc18, ↓reduceIte, eq_self])
      obtain rfl : rg = (i1 &&& (9223372036854775807 : Int64)) := e9.trans (by first | exact if_pos hc4 | exact if_pos hc18 | rfl | simp only [hc4, hc18, ↓reduceIte, eq_self])
      exact kt
    · refine XS.ifNo X.here hx rfl (hb hby at_18) rfl ((if0 _ _).trans (feq hc18).1) ?_
      show Steps p.tables e below (T.setTop (mkF m 21 #[.val (.long i0), .second, .val (.long i1), .second, .val (.int i2), .val (.int (0 : Int32)), .unset, .unset, .unset, .unset, .unset, .unset, .unset, .unset, .unset] [])) _
      refine XS.iconst X.here hx rfl (hb hby at_21) ?_
      show Steps p.tables e below (T.setTop (mkF m 22 #[.val (.long i0), .second, .val (.long i1), .second, .val (.int i2), .val (.int (0 : Int32)), .unset, .unset, .unset, .unset, .unset, .unset, .unset, .unset, .unset] [(.int (1 : Int32))])) _
      refine XS.goto X.here hx rfl (pc0 := 22) (pc' := 26) rfl (hb hby at_22) (by decide) (by decide) ?_
      show Steps p.tables e below (T.setTop (mkF m 26 #[.val (.long i0), .second, .val (.long i1), .second, .val (.int i2), .val (.int (0 : Int32)), .unset, .unset, .unset, .unset, .unset, .unset, .unset, .unset, .unset] [(.int (1 : Int32))])) _
      refine XS.istore X.here hx rfl (hb hby at_26) rfl (l' := #[.val (.long i0), .second, .val (.long i1), .second, .val (.int i2), .val (.int (0 : Int32)), .val (.int (1 : Int32)), .unset, .unset, .unset, .unset, .unset, .unset, .unset, .unset]) rfl ?_
      show Steps p.tables e below (T.setTop (mkF m 28 #[.val (.long i0), .second, .val (.long i1), .second, .val (.int i2), .val (.int (0 : Int32)), .val (.int (1 : Int32)), .unset, .unset, .unset, .unset, .unset, .unset, .unset, .unset] [])) _
      refine XS.iload X.here hx rfl (hb hby at_28) rfl ?_
      show Steps p.tables e below (T.setTop (mkF m 30 #[.val (.long i0), .second, .val (.long i1), .second, .val (.int i2), .val (.int (0 : Int32)), .val (.int (1 : Int32)), .unset, .unset, .unset, .unset, .unset, .unset, .unset, .unset] [(.int (0 : Int32))])) _
      refine XS.ifYes X.here hx rfl (pc0 := 30) (pc' := 39) rfl (hb hby at_30) rfl ((if0 _ _).trans (teq (by decide : (0 : Int32) = (0 : Int32))).1) (by decide) (by decide) ?_
      show Steps p.tables e below (T.setTop (mkF m 39 #[.val (.long i0), .second, .val (.long i1), .second, .val (.int i2), .val (.int (0 : Int32)), .val (.int (1 : Int32)), .unset, .unset, .unset, .unset, .unset, .unset, .unset, .unset] [])) _
      refine XS.lloadN X.here hx rfl (hb hby at_39) rfl ?_
      show Steps p.tables e below (T.setTop (mkF m 40 #[.val (.long i0), .second, .val (.long i1), .second, .val (.int i2), .val (.int (0 : Int32)), .val (.int (1 : Int32)), .unset, .unset, .unset, .unset, .unset, .unset, .unset, .unset] [(.long i0)])) _
      refine X.ldc2Long hx hown (mvT hZ (hw _ (List.mem_of_getElem? (i := 0) rfl))) (g := (mkF m 40 #[.val (.long i0), .second, .val (.long i1), .second, .val (.int i2), .val (.int (0 : Int32)), .val (.int (1 : Int32)), .unset, .unset, .unset, .unset, .unset, .unset, .unset, .unset] [(.long i0)])) rfl (hb hby at_40) _ ?_
      show Steps p.tables e below (T.setTop (mkF m 43 #[.val (.long i0), .second, .val (.long i1), .second, .val (.int i2), .val (.int (0 : Int32)), .val (.int (1 : Int32)), .unset, .unset, .unset, .unset, .unset, .unset, .unset, .unset] [(.long (9223372036854775807 : Int64)), (.long i0)])) _
      refine XS.land X.here hx rfl (hb hby at_43) rfl ?_
      show Steps p.tables e below (T.setTop (mkF m 44 #[.val (.long i0), .second, .val (.long i1), .second, .val (.int i2), .val (.int (0 : Int32)), .val (.int (1 : Int32)), .unset, .unset, .unset, .unset, .unset, .unset, .unset, .unset] [(.long (i0 &&& (9223372036854775807 : Int64)))])) _
      refine XS.lstore X.here hx rfl (hb hby at_44) rfl (l' := #[.val (.long i0), .second, .val (.long i1), .second, .val (.int i2), .val (.int (0 : Int32)), .val (.int (1 : Int32)), .val (.long (i0 &&& (9223372036854775807 : Int64))), .second, .unset, .unset, .unset, .unset, .unset, .unset]) rfl ?_
      show Steps p.tables e below (T.setTop (mkF m 46 #[.val (.long i0), .second, .val (.long i1), .second, .val (.int i2), .val (.int (0 : Int32)), .val (.int (1 : Int32)), .val (.long (i0 &&& (9223372036854775807 : Int64))), .second, .unset, .unset, .unset, .unset, .unset, .unset] [])) _
      refine XS.iload X.here hx rfl (hb hby at_46) rfl ?_
      show Steps p.tables e below (T.setTop (mkF m 48 #[.val (.long i0), .second, .val (.long i1), .second, .val (.int i2), .val (.int (0 : Int32)), .val (.int (1 : Int32)), .val (.long (i0 &&& (9223372036854775807 : Int64))), .second, .unset, .unset, .unset, .unset, .unset, .unset] [(.int (1 : Int32))])) _
      refine XS.ifNo X.here hx rfl (hb hby at_48) rfl ((if0 _ _).trans (feq (by decide : ¬ ((1 : Int32) = (0 : Int32)))).1) ?_
      show Steps p.tables e below (T.setTop (mkF m 51 #[.val (.long i0), .second, .val (.long i1), .second, .val (.int i2), .val (.int (0 : Int32)), .val (.int (1 : Int32)), .val (.long (i0 &&& (9223372036854775807 : Int64))), .second, .unset, .unset, .unset, .unset, .unset, .unset] [])) _
      refine X.ldc2Long hx hown (mvT hZ (hw _ (List.mem_of_getElem? (i := 5) rfl))) (g := (mkF m 51 #[.val (.long i0), .second, .val (.long i1), .second, .val (.int i2), .val (.int (0 : Int32)), .val (.int (1 : Int32)), .val (.long (i0 &&& (9223372036854775807 : Int64))), .second, .unset, .unset, .unset, .unset, .unset, .unset] [])) rfl (hb hby at_51) _ ?_
      show Steps p.tables e below (T.setTop (mkF m 54 #[.val (.long i0), .second, .val (.long i1), .second, .val (.int i2), .val (.int (0 : Int32)), .val (.int (1 : Int32)), .val (.long (i0 &&& (9223372036854775807 : Int64))), .second, .unset, .unset, .unset, .unset, .unset, .unset] [(.long (-1 : Int64))])) _
      refine XS.goto X.here hx rfl (pc0 := 54) (pc' := 62) rfl (hb hby at_54) (by decide) (by decide) ?_
      show Steps p.tables e below (T.setTop (mkF m 62 #[.val (.long i0), .second, .val (.long i1), .second, .val (.int i2), .val (.int (0 : Int32)), .val (.int (1 : Int32)), .val (.long (i0 &&& (9223372036854775807 : Int64))), .second, .unset, .unset, .unset, .unset, .unset, .unset] [(.long (-1 : Int64))])) _
      refine XS.lstore X.here hx rfl (hb hby at_62) rfl (l' := #[.val (.long i0), .second, .val (.long i1), .second, .val (.int i2), .val (.int (0 : Int32)), .val (.int (1 : Int32)), .val (.long (i0 &&& (9223372036854775807 : Int64))), .second, .val (.long (-1 : Int64)), .second, .unset, .unset, .unset, .unset]) rfl ?_
      obtain rfl : r5 = (0 : Int32) := e5.trans (by first | exact if_pos hc4 | exact if_neg hc18 | rfl | simp only [hc4, hc18, ↓reduceIte, eq_self])
      obtain rfl : r6 = (1 : Int32) := e6.trans (by first | exact if_pos hc4 | exact if_neg hc18 | rfl | simp only [hc4, hc18, ↓reduceIte, eq_self])
      obtain rfl : lf = (i0 &&& (9223372036854775807 : Int64)) := e7.trans (by first | exact if_pos hc4 | exact if_neg hc18 | rfl | simp only [hc4, hc18, ↓reduceIte, eq_self])
      obtain rfl : rg = (-1 : Int64) := e9.trans (by first | exact if_pos hc4 | exact if_neg hc18 | rfl | simp only [hc4, hc18, ↓reduceIte, eq_self])
      exact kt
  · refine XS.ifNo X.here hx rfl (hb hby at_4) rfl ((if0 _ _).trans (feq hc4).1) ?_
    show Steps p.tables e below (T.setTop (mkF m 7 #[.val (.long i0), .second, .val (.long i1), .second, .val (.int i2), .unset, .unset, .unset, .unset, .unset, .unset, .unset, .unset, .unset, .unset] [])) _
    refine XS.iconst X.here hx rfl (hb hby at_7) ?_
    show Steps p.tables e below (T.setTop (mkF m 8 #[.val (.long i0), .second, .val (.long i1), .second, .val (.int i2), .unset, .unset, .unset, .unset, .unset, .unset, .unset, .unset, .unset, .unset] [(.int (1 : Int32))])) _
    refine XS.goto X.here hx rfl (pc0 := 8) (pc' := 12) rfl (hb hby at_8) (by decide) (by decide) ?_
    show Steps p.tables e below (T.setTop (mkF m 12 #[.val (.long i0), .second, .val (.long i1), .second, .val (.int i2), .unset, .unset, .unset, .unset, .unset, .unset, .unset, .unset, .unset, .unset] [(.int (1 : Int32))])) _
    refine XS.istore X.here hx rfl (hb hby at_12) rfl (l' := #[.val (.long i0), .second, .val (.long i1), .second, .val (.int i2), .val (.int (1 : Int32)), .unset, .unset, .unset, .unset, .unset, .unset, .unset, .unset, .unset]) rfl ?_
    show Steps p.tables e below (T.setTop (mkF m 14 #[.val (.long i0), .second, .val (.long i1), .second, .val (.int i2), .val (.int (1 : Int32)), .unset, .unset, .unset, .unset, .unset, .unset, .unset, .unset, .unset] [])) _
    refine XS.iload X.here hx rfl (hb hby at_14) rfl ?_
    show Steps p.tables e below (T.setTop (mkF m 16 #[.val (.long i0), .second, .val (.long i1), .second, .val (.int i2), .val (.int (1 : Int32)), .unset, .unset, .unset, .unset, .unset, .unset, .unset, .unset, .unset] [(.int i2)])) _
    refine XS.iconst X.here hx rfl (hb hby at_16) ?_
    show Steps p.tables e below (T.setTop (mkF m 17 #[.val (.long i0), .second, .val (.long i1), .second, .val (.int i2), .val (.int (1 : Int32)), .unset, .unset, .unset, .unset, .unset, .unset, .unset, .unset, .unset] [(.int (2 : Int32)), (.int i2)])) _
    refine XS.iand X.here hx rfl (hb hby at_17) rfl ?_
    show Steps p.tables e below (T.setTop (mkF m 18 #[.val (.long i0), .second, .val (.long i1), .second, .val (.int i2), .val (.int (1 : Int32)), .unset, .unset, .unset, .unset, .unset, .unset, .unset, .unset, .unset] [(.int (i2 &&& (2 : Int32)))])) _
    by_cases hc18 : (i2 &&& (2 : Int32)) = (0 : Int32)
    · refine XS.ifYes X.here hx rfl (pc0 := 18) (pc' := 25) rfl (hb hby at_18) rfl ((if0 _ _).trans (teq hc18).1) (by decide) (by decide) ?_
      show Steps p.tables e below (T.setTop (mkF m 25 #[.val (.long i0), .second, .val (.long i1), .second, .val (.int i2), .val (.int (1 : Int32)), .unset, .unset, .unset, .unset, .unset, .unset, .unset, .unset, .unset] [])) _
      refine XS.iconst X.here hx rfl (hb hby at_25) ?_
      show Steps p.tables e below (T.setTop (mkF m 26 #[.val (.long i0), .second, .val (.long i1), .second, .val (.int i2), .val (.int (1 : Int32)), .unset, .unset, .unset, .unset, .unset, .unset, .unset, .unset, .unset] [(.int (0 : Int32))])) _
      refine XS.istore X.here hx rfl (hb hby at_26) rfl (l' := #[.val (.long i0), .second, .val (.long i1), .second, .val (.int i2), .val (.int (1 : Int32)), .val (.int (0 : Int32)), .unset, .unset, .unset, .unset, .unset, .unset, .unset, .unset]) rfl ?_
      show Steps p.tables e below (T.setTop (mkF m 28 #[.val (.long i0), .second, .val (.long i1), .second, .val (.int i2), .val (.int (1 : Int32)), .val (.int (0 : Int32)), .unset, .unset, .unset, .unset, .unset, .unset, .unset, .unset] [])) _
      refine XS.iload X.here hx rfl (hb hby at_28) rfl ?_
      show Steps p.tables e below (T.setTop (mkF m 30 #[.val (.long i0), .second, .val (.long i1), .second, .val (.int i2), .val (.int (1 : Int32)), .val (.int (0 : Int32)), .unset, .unset, .unset, .unset, .unset, .unset, .unset, .unset] [(.int (1 : Int32))])) _
      refine XS.ifNo X.here hx rfl (hb hby at_30) rfl ((if0 _ _).trans (feq (by decide : ¬ ((1 : Int32) = (0 : Int32)))).1) ?_
      show Steps p.tables e below (T.setTop (mkF m 33 #[.val (.long i0), .second, .val (.long i1), .second, .val (.int i2), .val (.int (1 : Int32)), .val (.int (0 : Int32)), .unset, .unset, .unset, .unset, .unset, .unset, .unset, .unset] [])) _
      refine X.ldc2Long hx hown (mvT hZ (hw _ (List.mem_of_getElem? (i := 5) rfl))) (g := (mkF m 33 #[.val (.long i0), .second, .val (.long i1), .second, .val (.int i2), .val (.int (1 : Int32)), .val (.int (0 : Int32)), .unset, .unset, .unset, .unset, .unset, .unset, .unset, .unset] [])) rfl (hb hby at_33) _ ?_
      show Steps p.tables e below (T.setTop (mkF m 36 #[.val (.long i0), .second, .val (.long i1), .second, .val (.int i2), .val (.int (1 : Int32)), .val (.int (0 : Int32)), .unset, .unset, .unset, .unset, .unset, .unset, .unset, .unset] [(.long (-1 : Int64))])) _
      refine XS.goto X.here hx rfl (pc0 := 36) (pc' := 44) rfl (hb hby at_36) (by decide) (by decide) ?_
      show Steps p.tables e below (T.setTop (mkF m 44 #[.val (.long i0), .second, .val (.long i1), .second, .val (.int i2), .val (.int (1 : Int32)), .val (.int (0 : Int32)), .unset, .unset, .unset, .unset, .unset, .unset, .unset, .unset] [(.long (-1 : Int64))])) _
      refine XS.lstore X.here hx rfl (hb hby at_44) rfl (l' := #[.val (.long i0), .second, .val (.long i1), .second, .val (.int i2), .val (.int (1 : Int32)), .val (.int (0 : Int32)), .val (.long (-1 : Int64)), .second, .unset, .unset, .unset, .unset, .unset, .unset]) rfl ?_
      show Steps p.tables e below (T.setTop (mkF m 46 #[.val (.long i0), .second, .val (.long i1), .second, .val (.int i2), .val (.int (1 : Int32)), .val (.int (0 : Int32)), .val (.long (-1 : Int64)), .second, .unset, .unset, .unset, .unset, .unset, .unset] [])) _
      refine XS.iload X.here hx rfl (hb hby at_46) rfl ?_
      show Steps p.tables e below (T.setTop (mkF m 48 #[.val (.long i0), .second, .val (.long i1), .second, .val (.int i2), .val (.int (1 : Int32)), .val (.int (0 : Int32)), .val (.long (-1 : Int64)), .second, .unset, .unset, .unset, .unset, .unset, .unset] [(.int (0 : Int32))])) _
      refine XS.ifYes X.here hx rfl (pc0 := 48) (pc' := 57) rfl (hb hby at_48) rfl ((if0 _ _).trans (teq (by decide : (0 : Int32) = (0 : Int32))).1) (by decide) (by decide) ?_
      show Steps p.tables e below (T.setTop (mkF m 57 #[.val (.long i0), .second, .val (.long i1), .second, .val (.int i2), .val (.int (1 : Int32)), .val (.int (0 : Int32)), .val (.long (-1 : Int64)), .second, .unset, .unset, .unset, .unset, .unset, .unset] [])) _
      refine XS.lloadN X.here hx rfl (hb hby at_57) rfl ?_
      show Steps p.tables e below (T.setTop (mkF m 58 #[.val (.long i0), .second, .val (.long i1), .second, .val (.int i2), .val (.int (1 : Int32)), .val (.int (0 : Int32)), .val (.long (-1 : Int64)), .second, .unset, .unset, .unset, .unset, .unset, .unset] [(.long i1)])) _
      refine X.ldc2Long hx hown (mvT hZ (hw _ (List.mem_of_getElem? (i := 0) rfl))) (g := (mkF m 58 #[.val (.long i0), .second, .val (.long i1), .second, .val (.int i2), .val (.int (1 : Int32)), .val (.int (0 : Int32)), .val (.long (-1 : Int64)), .second, .unset, .unset, .unset, .unset, .unset, .unset] [(.long i1)])) rfl (hb hby at_58) _ ?_
      show Steps p.tables e below (T.setTop (mkF m 61 #[.val (.long i0), .second, .val (.long i1), .second, .val (.int i2), .val (.int (1 : Int32)), .val (.int (0 : Int32)), .val (.long (-1 : Int64)), .second, .unset, .unset, .unset, .unset, .unset, .unset] [(.long (9223372036854775807 : Int64)), (.long i1)])) _
      refine XS.land X.here hx rfl (hb hby at_61) rfl ?_
      show Steps p.tables e below (T.setTop (mkF m 62 #[.val (.long i0), .second, .val (.long i1), .second, .val (.int i2), .val (.int (1 : Int32)), .val (.int (0 : Int32)), .val (.long (-1 : Int64)), .second, .unset, .unset, .unset, .unset, .unset, .unset] [(.long (i1 &&& (9223372036854775807 : Int64)))])) _
      refine XS.lstore X.here hx rfl (hb hby at_62) rfl (l' := #[.val (.long i0), .second, .val (.long i1), .second, .val (.int i2), .val (.int (1 : Int32)), .val (.int (0 : Int32)), .val (.long (-1 : Int64)), .second, .val (.long (i1 &&& (9223372036854775807 : Int64))), .second, .unset, .unset, .unset, .unset]) rfl ?_
      obtain rfl : r5 = (1 : Int32) := e5.trans (by first | exact if_neg hc4 | exact if_pos hc18 | rfl | simp only [hc4, hc18, ↓reduceIte, eq_self])
      obtain rfl : r6 = (0 : Int32) := e6.trans (by first | exact if_neg hc4 | exact if_pos hc18 | rfl | simp only [hc4, hc18, ↓reduceIte, eq_self])
      obtain rfl : lf = (-1 : Int64) := e7.trans (by first | exact if_neg hc4 | exact if_pos hc18 | rfl | simp only [hc4, hc18, ↓reduceIte, eq_self])
      obtain rfl : rg = (i1 &&& (9223372036854775807 : Int64)) := e9.trans (by first | exact if_neg hc4 | exact if_pos hc18 | rfl | simp only [hc4, hc18, ↓reduceIte, eq_self])
      exact kt
    · refine XS.ifNo X.here hx rfl (hb hby at_18) rfl ((if0 _ _).trans (feq hc18).1) ?_
      show Steps p.tables e below (T.setTop (mkF m 21 #[.val (.long i0), .second, .val (.long i1), .second, .val (.int i2), .val (.int (1 : Int32)), .unset, .unset, .unset, .unset, .unset, .unset, .unset, .unset, .unset] [])) _
      refine XS.iconst X.here hx rfl (hb hby at_21) ?_
      show Steps p.tables e below (T.setTop (mkF m 22 #[.val (.long i0), .second, .val (.long i1), .second, .val (.int i2), .val (.int (1 : Int32)), .unset, .unset, .unset, .unset, .unset, .unset, .unset, .unset, .unset] [(.int (1 : Int32))])) _
      refine XS.goto X.here hx rfl (pc0 := 22) (pc' := 26) rfl (hb hby at_22) (by decide) (by decide) ?_
      show Steps p.tables e below (T.setTop (mkF m 26 #[.val (.long i0), .second, .val (.long i1), .second, .val (.int i2), .val (.int (1 : Int32)), .unset, .unset, .unset, .unset, .unset, .unset, .unset, .unset, .unset] [(.int (1 : Int32))])) _
      refine XS.istore X.here hx rfl (hb hby at_26) rfl (l' := #[.val (.long i0), .second, .val (.long i1), .second, .val (.int i2), .val (.int (1 : Int32)), .val (.int (1 : Int32)), .unset, .unset, .unset, .unset, .unset, .unset, .unset, .unset]) rfl ?_
      show Steps p.tables e below (T.setTop (mkF m 28 #[.val (.long i0), .second, .val (.long i1), .second, .val (.int i2), .val (.int (1 : Int32)), .val (.int (1 : Int32)), .unset, .unset, .unset, .unset, .unset, .unset, .unset, .unset] [])) _
      refine XS.iload X.here hx rfl (hb hby at_28) rfl ?_
      show Steps p.tables e below (T.setTop (mkF m 30 #[.val (.long i0), .second, .val (.long i1), .second, .val (.int i2), .val (.int (1 : Int32)), .val (.int (1 : Int32)), .unset, .unset, .unset, .unset, .unset, .unset, .unset, .unset] [(.int (1 : Int32))])) _
      refine XS.ifNo X.here hx rfl (hb hby at_30) rfl ((if0 _ _).trans (feq (by decide : ¬ ((1 : Int32) = (0 : Int32)))).1) ?_
      show Steps p.tables e below (T.setTop (mkF m 33 #[.val (.long i0), .second, .val (.long i1), .second, .val (.int i2), .val (.int (1 : Int32)), .val (.int (1 : Int32)), .unset, .unset, .unset, .unset, .unset, .unset, .unset, .unset] [])) _
      refine X.ldc2Long hx hown (mvT hZ (hw _ (List.mem_of_getElem? (i := 5) rfl))) (g := (mkF m 33 #[.val (.long i0), .second, .val (.long i1), .second, .val (.int i2), .val (.int (1 : Int32)), .val (.int (1 : Int32)), .unset, .unset, .unset, .unset, .unset, .unset, .unset, .unset] [])) rfl (hb hby at_33) _ ?_
      show Steps p.tables e below (T.setTop (mkF m 36 #[.val (.long i0), .second, .val (.long i1), .second, .val (.int i2), .val (.int (1 : Int32)), .val (.int (1 : Int32)), .unset, .unset, .unset, .unset, .unset, .unset, .unset, .unset] [(.long (-1 : Int64))])) _
      refine XS.goto X.here hx rfl (pc0 := 36) (pc' := 44) rfl (hb hby at_36) (by decide) (by decide) ?_
      show Steps p.tables e below (T.setTop (mkF m 44 #[.val (.long i0), .second, .val (.long i1), .second, .val (.int i2), .val (.int (1 : Int32)), .val (.int (1 : Int32)), .unset, .unset, .unset, .unset, .unset, .unset, .unset, .unset] [(.long (-1 : Int64))])) _
      refine XS.lstore X.here hx rfl (hb hby at_44) rfl (l' := #[.val (.long i0), .second, .val (.long i1), .second, .val (.int i2), .val (.int (1 : Int32)), .val (.int (1 : Int32)), .val (.long (-1 : Int64)), .second, .unset, .unset, .unset, .unset, .unset, .unset]) rfl ?_
      show Steps p.tables e below (T.setTop (mkF m 46 #[.val (.long i0), .second, .val (.long i1), .second, .val (.int i2), .val (.int (1 : Int32)), .val (.int (1 : Int32)), .val (.long (-1 : Int64)), .second, .unset, .unset, .unset, .unset, .unset, .unset] [])) _
      refine XS.iload X.here hx rfl (hb hby at_46) rfl ?_
      show Steps p.tables e below (T.setTop (mkF m 48 #[.val (.long i0), .second, .val (.long i1), .second, .val (.int i2), .val (.int (1 : Int32)), .val (.int (1 : Int32)), .val (.long (-1 : Int64)), .second, .unset, .unset, .unset, .unset, .unset, .unset] [(.int (1 : Int32))])) _
      refine XS.ifNo X.here hx rfl (hb hby at_48) rfl ((if0 _ _).trans (feq (by decide : ¬ ((1 : Int32) = (0 : Int32)))).1) ?_
      show Steps p.tables e below (T.setTop (mkF m 51 #[.val (.long i0), .second, .val (.long i1), .second, .val (.int i2), .val (.int (1 : Int32)), .val (.int (1 : Int32)), .val (.long (-1 : Int64)), .second, .unset, .unset, .unset, .unset, .unset, .unset] [])) _
      refine X.ldc2Long hx hown (mvT hZ (hw _ (List.mem_of_getElem? (i := 5) rfl))) (g := (mkF m 51 #[.val (.long i0), .second, .val (.long i1), .second, .val (.int i2), .val (.int (1 : Int32)), .val (.int (1 : Int32)), .val (.long (-1 : Int64)), .second, .unset, .unset, .unset, .unset, .unset, .unset] [])) rfl (hb hby at_51) _ ?_
      show Steps p.tables e below (T.setTop (mkF m 54 #[.val (.long i0), .second, .val (.long i1), .second, .val (.int i2), .val (.int (1 : Int32)), .val (.int (1 : Int32)), .val (.long (-1 : Int64)), .second, .unset, .unset, .unset, .unset, .unset, .unset] [(.long (-1 : Int64))])) _
      refine XS.goto X.here hx rfl (pc0 := 54) (pc' := 62) rfl (hb hby at_54) (by decide) (by decide) ?_
      show Steps p.tables e below (T.setTop (mkF m 62 #[.val (.long i0), .second, .val (.long i1), .second, .val (.int i2), .val (.int (1 : Int32)), .val (.int (1 : Int32)), .val (.long (-1 : Int64)), .second, .unset, .unset, .unset, .unset, .unset, .unset] [(.long (-1 : Int64))])) _
      refine XS.lstore X.here hx rfl (hb hby at_62) rfl (l' := #[.val (.long i0), .second, .val (.long i1), .second, .val (.int i2), .val (.int (1 : Int32)), .val (.int (1 : Int32)), .val (.long (-1 : Int64)), .second, .val (.long (-1 : Int64)), .second, .unset, .unset, .unset, .unset]) rfl ?_
      obtain rfl : r5 = (1 : Int32) := e5.trans (by first | exact if_neg hc4 | exact if_neg hc18 | rfl | simp only [hc4, hc18, ↓reduceIte, eq_self])
      obtain rfl : r6 = (1 : Int32) := e6.trans (by first | exact if_neg hc4 | exact if_neg hc18 | rfl | simp only [hc4, hc18, ↓reduceIte, eq_self])
      obtain rfl : lf = (-1 : Int64) := e7.trans (by first | exact if_neg hc4 | exact if_neg hc18 | rfl | simp only [hc4, hc18, ↓reduceIte, eq_self])
      obtain rfl : rg = (-1 : Int64) := e9.trans (by first | exact if_neg hc4 | exact if_neg hc18 | rfl | simp only [hc4, hc18, ↓reduceIte, eq_self])
      exact kt
def Q0 (h0 : Heap) (n0 : Nat) (v : Option Value) (h : Heap) (L : List Loc) : Prop := v = some (.int 1) ∧ Fr n0 L
set_option maxRecDepth 65536 in
set_option maxHeartbeats 40000000 in
theorem rm0 (l : Launch) (Z : State) (a0 : Array Value) (hw : ∀ d ∈ tables_1, d.before a0 Z = true) (ws : List Jvm.Cond) (i0 i1 : Int64) (i2 : Int32) (h0 : Heap) (n0 : Nat) (Z0 : n0 ≤ h0.size)  :
    MetFree l x (head1 (Jvm.Cond.code x code maxLocals ret :: ws) room_1) (fun a U => a = #[(.long i0), (.long i1), (.int i2)] ∧ Z.Warmed39 U.vm ∧ U.heap = h0) (fun _ _ _ _ _ => True) (fun _ U o U' => ∃ v L, o = .returned v ∧ Q0 h0 n0 v U'.heap L ∧ FrameEnd U o U' L 0 0) := by
  refine MetFree.of_bodySF (plainFor_of_name pn_0) hisR ?_
  intro p e s m args below meth c s₁ Bd hml0 hP hK
  obtain ⟨rfl, hZ, hh⟩ := hP
  have hx := Bd.exec
  have hby := Bd.bytes
  have hml : c.maxLocals = 15 := hml0
  have hown : s.vm.findClass "com/example/kingsnake/kingsnake/schema/content/ContentModelMaximumSumPinLaw" = some m.cls := findClass_of_methodNamed Bd.named
  have hnm := (name_of_methodNamed Bd.named Bd.method).1
  have X0 : Stand p l e room_1 s m #[(.long i0), (.long i1), (.int i2)] below meth c s₁ [] 0 0 := Stand.of_body Bd
  have e0 : s₁.heap = h0 := by rw [← hh, Bd.state]; rfl
  have N0 := Fr.nil n0
  have pre0 : ∀ t, Steps p.tables e below (s₁.setTop (mkF m 0 #[.val (.long i0), .second, .val (.long i1), .second, .val (.int i2), .unset, .unset, .unset, .unset, .unset, .unset, .unset, .unset, .unset, .unset] [])) t → Steps p.tables e below (s₁.setTop (entryFrame m #[(.long i0), (.long i1), (.int i2)] maxLocals)) t := fun t k => castTop (ef_0 m i0 i1 i2) k
  obtain ⟨r5, e5⟩ : ∃ z, z = if (i2 &&& (1 : Int32)) = (0 : Int32) then (0 : Int32) else (1 : Int32) := ⟨_, rfl⟩
  obtain ⟨r6, e6⟩ : ∃ z, z = if (i2 &&& (2 : Int32)) = (0 : Int32) then (0 : Int32) else (1 : Int32) := ⟨_, rfl⟩
  obtain ⟨lf, e7⟩ : ∃ z, z = if (i2 &&& (1 : Int32)) = (0 : Int32) then (i0 &&& (9223372036854775807 : Int64)) else (-1 : Int64) := ⟨_, rfl⟩
  obtain ⟨rg, e9⟩ : ∃ z, z = if (i2 &&& (2 : Int32)) = (0 : Int32) then (i1 &&& (9223372036854775807 : Int64)) else (-1 : Int64) := ⟨_, rfl⟩
  have hEq : own_max lf rg = own_ref lf rg := own_same (own_side e7) (own_side e9)
  obtain ⟨_, _, ⟨T1, L1, k1, n1⟩, -, X1, ⟨Lc1, hQ1, l1, y1, z1⟩, st1⟩ := Jvm.LawKit.callS X0 hx (y := (⟨"com/example/kingsnake/kingsnake/schema/content/ContentModelMaximumSumPinLaw", "reference", "(JJ)J"⟩ : MethodName)) hown (mvT hZ (hw _ (List.mem_of_getElem? (i := 1) rfl))) (mvT hZ (hw _ (List.mem_of_getElem? (i := 2) rfl))) (mvT hZ (hw _ (List.mem_of_getElem? (i := 3) rfl))) (mvT hZ (hw _ (List.mem_of_getElem? (i := 4) rfl))) (by decide) (backOf (W := 0) (rm1 l Z a0 hw [] lf rg h0 n0 Z0) hZ (hw _ (List.mem_of_getElem? (i := 4) rfl)) (hw _ (List.mem_of_getElem? (i := 3) rfl)) (by decide) (by decide)) (g := (mkF m 68 #[.val (.long i0), .second, .val (.long i1), .second, .val (.int i2), .val (.int r5), .val (.int r6), .val (.long lf), .second, .val (.long rg), .second, .unset, .unset, .unset, .unset] [(.long rg), (.long lf)])) rfl (by rw [hml]; rfl) (argsL := [(.long lf), (.long rg)]) (rest := []) (lenOf pd_1 rfl) rfl (by show 2 * 0 + _ ≤ _; exact Nat.le_of_eq rfl) (hb hby at_68) (fun _ _ => ⟨rfl, e0, (by decide : 0 + 0 ≤ _), (by decide : 0 + 0 ≤ _)⟩)
  dsimp only [Pt.U, Pt.locs, Pt.cells, Pt.slots] at X1 l1 y1 z1 st1 hQ1
  subst l1 y1 z1
  obtain ⟨rfl, N1q, e1⟩ := hQ1
  have N1 := Fr.app N0 N1q
  obtain ⟨_, _, ⟨T2, L2, k2, n2⟩, -, X2, ⟨Lc2, hQ2, l2, y2, z2⟩, st2⟩ := Jvm.LawKit.callS X1 hx (y := (⟨"com/example/kingsnake/kingsnake/schema/content/ContentModel", "maximumSum", "(JJ)J"⟩ : MethodName)) hown (mvT hZ (hw _ (List.mem_of_getElem? (i := 6) rfl))) (mvT hZ (hw _ (List.mem_of_getElem? (i := 7) rfl))) (mvT hZ (hw _ (List.mem_of_getElem? (i := 8) rfl))) (mvT hZ (hw _ (List.mem_of_getElem? (i := 9) rfl))) (by decide) (backOf (W := 0) (rm2 l Z a0 hw [] lf rg T1.heap n0 (by rw [e1]; exact Z0)) hZ (hw _ (List.mem_of_getElem? (i := 9) rfl)) (hw _ (List.mem_of_getElem? (i := 8) rfl)) (by decide) (by decide)) (g := (mkF m 77 #[.val (.long i0), .second, .val (.long i1), .second, .val (.int i2), .val (.int r5), .val (.int r6), .val (.long lf), .second, .val (.long rg), .second, .val (.long (own_ref lf rg)), .second, .unset, .unset] [(.long rg), (.long lf)])) rfl (by rw [hml]; rfl) (argsL := [(.long lf), (.long rg)]) (rest := []) (lenOf pd_2 rfl) rfl (by show 2 * 0 + _ ≤ _; exact Nat.le_of_eq rfl) (hb hby at_77) (fun _ _ => ⟨rfl, rfl, (by decide : 0 + 0 ≤ _), (by decide : 0 + 0 ≤ _)⟩)
  dsimp only [Pt.U, Pt.locs, Pt.cells, Pt.slots] at X2 l2 y2 z2 st2 hQ2
  subst l2 y2 z2
  obtain ⟨rfl, N2q, e2⟩ := hQ2
  have N2 := Fr.app N1 N2q
  obtain ⟨fs, hr, hrun, hended, hW, hsame⟩ := X2.leave (v := some (.int (1 : Int32))) (fun h => by rw [Bd.returns] at h; cases h)
  refine ⟨_, _, pre0 _ ?_, hrun, hended, _, _, rfl, ?_, ⟨_, rfl⟩, hW, hsame.mono (by decide) (by decide)⟩
  · refine sg0 X0 hx hZ hw hby hown i0 i1 i2 r5 r6 lf rg e5 e6 e7 e9 ?_
    show Steps p.tables e below (s₁.setTop (mkF m 64 #[.val (.long i0), .second, .val (.long i1), .second, .val (.int i2), .val (.int r5), .val (.int r6), .val (.long lf), .second, .val (.long rg), .second, .unset, .unset, .unset, .unset] [])) _
    refine XS.lload X0.here hx rfl (hb hby at_64) rfl ?_
    show Steps p.tables e below (s₁.setTop (mkF m 66 #[.val (.long i0), .second, .val (.long i1), .second, .val (.int i2), .val (.int r5), .val (.int r6), .val (.long lf), .second, .val (.long rg), .second, .unset, .unset, .unset, .unset] [(.long lf)])) _
    refine XS.lload X0.here hx rfl (hb hby at_66) rfl ?_
    refine st1 _ ?_
    show Steps p.tables e below (T1.setTop (mkF m 71 #[.val (.long i0), .second, .val (.long i1), .second, .val (.int i2), .val (.int r5), .val (.int r6), .val (.long lf), .second, .val (.long rg), .second, .unset, .unset, .unset, .unset] [(.long (own_ref lf rg))])) _
    refine XS.lstore X1.here hx rfl (hb hby at_71) rfl (l' := #[.val (.long i0), .second, .val (.long i1), .second, .val (.int i2), .val (.int r5), .val (.int r6), .val (.long lf), .second, .val (.long rg), .second, .val (.long (own_ref lf rg)), .second, .unset, .unset]) rfl ?_
    show Steps p.tables e below (T1.setTop (mkF m 73 #[.val (.long i0), .second, .val (.long i1), .second, .val (.int i2), .val (.int r5), .val (.int r6), .val (.long lf), .second, .val (.long rg), .second, .val (.long (own_ref lf rg)), .second, .unset, .unset] [])) _
    refine XS.lload X1.here hx rfl (hb hby at_73) rfl ?_
    show Steps p.tables e below (T1.setTop (mkF m 75 #[.val (.long i0), .second, .val (.long i1), .second, .val (.int i2), .val (.int r5), .val (.int r6), .val (.long lf), .second, .val (.long rg), .second, .val (.long (own_ref lf rg)), .second, .unset, .unset] [(.long lf)])) _
    refine XS.lload X1.here hx rfl (hb hby at_75) rfl ?_
    refine st2 _ ?_
    show Steps p.tables e below (T2.setTop (mkF m 80 #[.val (.long i0), .second, .val (.long i1), .second, .val (.int i2), .val (.int r5), .val (.int r6), .val (.long lf), .second, .val (.long rg), .second, .val (.long (own_ref lf rg)), .second, .unset, .unset] [(.long (own_max lf rg))])) _
    refine XS.lstore X2.here hx rfl (hb hby at_80) rfl (l' := #[.val (.long i0), .second, .val (.long i1), .second, .val (.int i2), .val (.int r5), .val (.int r6), .val (.long lf), .second, .val (.long rg), .second, .val (.long (own_ref lf rg)), .second, .val (.long (own_max lf rg)), .second]) rfl ?_
    show Steps p.tables e below (T2.setTop (mkF m 82 #[.val (.long i0), .second, .val (.long i1), .second, .val (.int i2), .val (.int r5), .val (.int r6), .val (.long lf), .second, .val (.long rg), .second, .val (.long (own_ref lf rg)), .second, .val (.long (own_max lf rg)), .second] [])) _
    refine XS.lload X2.here hx rfl (hb hby at_82) rfl ?_
    show Steps p.tables e below (T2.setTop (mkF m 84 #[.val (.long i0), .second, .val (.long i1), .second, .val (.int i2), .val (.int r5), .val (.int r6), .val (.long lf), .second, .val (.long rg), .second, .val (.long (own_ref lf rg)), .second, .val (.long (own_max lf rg)), .second] [(.long (own_max lf rg))])) _
    refine XS.lload X2.here hx rfl (hb hby at_84) rfl ?_
    show Steps p.tables e below (T2.setTop (mkF m 86 #[.val (.long i0), .second, .val (.long i1), .second, .val (.int i2), .val (.int r5), .val (.int r6), .val (.long lf), .second, .val (.long rg), .second, .val (.long (own_ref lf rg)), .second, .val (.long (own_max lf rg)), .second] [(.long (own_ref lf rg)), (.long (own_max lf rg))])) _
    refine XS.lcmp X2.here hx rfl (hb hby at_86) rfl ?_
    show Steps p.tables e below (T2.setTop (mkF m 87 #[.val (.long i0), .second, .val (.long i1), .second, .val (.int i2), .val (.int r5), .val (.int r6), .val (.long lf), .second, .val (.long rg), .second, .val (.long (own_ref lf rg)), .second, .val (.long (own_max lf rg)), .second] [(.int (lcmpW (own_max lf rg) (own_ref lf rg)))])) _
    refine XS.ifNo X2.here hx rfl (hb hby at_87) rfl (own_eq_t hEq).2 ?_
    show Steps p.tables e below (T2.setTop (mkF m 90 #[.val (.long i0), .second, .val (.long i1), .second, .val (.int i2), .val (.int r5), .val (.int r6), .val (.long lf), .second, .val (.long rg), .second, .val (.long (own_ref lf rg)), .second, .val (.long (own_max lf rg)), .second] [])) _
    refine XS.iconst X2.here hx rfl (hb hby at_90) ?_
    show Steps p.tables e below (T2.setTop (mkF m 91 #[.val (.long i0), .second, .val (.long i1), .second, .val (.int i2), .val (.int r5), .val (.int r6), .val (.long lf), .second, .val (.long rg), .second, .val (.long (own_ref lf rg)), .second, .val (.long (own_max lf rg)), .second] [(.int (1 : Int32))])) _
    refine XS.goto X2.here hx rfl (pc0 := 91) (pc' := 95) rfl (hb hby at_91) (by decide) (by decide) ?_
    show Steps p.tables e below (T2.setTop (mkF m 95 #[.val (.long i0), .second, .val (.long i1), .second, .val (.int i2), .val (.int r5), .val (.int r6), .val (.long lf), .second, .val (.long rg), .second, .val (.long (own_ref lf rg)), .second, .val (.long (own_max lf rg)), .second] [(.int (1 : Int32))])) _
    exact retN X2 hx (t := .boolean) Bd.returns (by simp) (hb hby at_95) hr
  · show Q0 h0 n0 _ T2.heap _
    exact ⟨rfl, N2⟩
set_option maxRecDepth 65536 in
set_option maxHeartbeats 40000000 in
theorem comes_1 {Post : Tables → Env → Array Value → State → Outcome → State → Prop} (hpost : ∀ tb e args s v u, (limb_1_1.after args s (.returned v) u = true ∧ limb_1_2.after args s (.returned v) u = true ∧ True) → FrameEnd s (.returned v) u (Jvm.fieldLocs frame_1_writes args s ++ Jvm.arrayLocs frame_1_arrays args s ++ Jvm.staticLocs frame_1_statics s) 0 0 → Post tb e args s (.returned v) u) :
    ArmFor flags0 classFile x code maxLocals ret World_1 tables_1 room_1 Calls_1 rest_1 Pre_1 Post := by
  intro l hfl _ _ p e ha hc hk s m args below hf hA hF happ hP
  obtain ⟨hcalls, hrest, hpre⟩ := hP
  obtain ⟨-, -, -, hnamed, -, -, -, hat⟩ := (Spec.applies_iff hf).mp happ
  obtain ⟨hg, hn⟩ := and_e (Cond.before_iff.mp (show (Jvm.Cond.and given_1 narrow_1).before args s = true from hpre))
  obtain ⟨hv0, hu0⟩ := and_e hg
  obtain ⟨hv1, hu1⟩ := and_e hu0
  obtain ⟨hv2, hu2⟩ := and_e hu1
  obtain ⟨w0, w1, w2, rfl⟩ : ∃ w0 w1 w2 : Value, args = #[w0, w1, w2] := by
    have hs : args.size = 3 := by simpa [Cond.value, given_1] using hv0
    obtain ⟨L⟩ := args
    match L, hs with
    | [w0, w1, w2], _ => exact ⟨w0, w1, w2, rfl⟩
  have hw := fun d (hd : d ∈ tables_1) => atoms_spec (ws := Jvm.Cond.code x code maxLocals ret :: tables_1) hat d (List.mem_cons_of_mem _ hd)
  obtain ⟨i0, ei0⟩ := isL_v hv1
  obtain rfl : w0 = (.long i0) := Option.some.inj ei0
  obtain ⟨i1, ei1⟩ := isL_v hv2
  obtain rfl : w1 = (.long i1) := Option.some.inj ei1
  obtain ⟨i2, ei2⟩ := is_v hu2
  obtain rfl : w2 = (.int i2) := Option.some.inj ei2
  obtain ⟨n, o, h1, h2, h3, _, L, rfl, ⟨rfl, N⟩, hq⟩ := rm0 l s _ hw tables_1 i0 i1 i2 s.heap s.heap.size (Nat.le_refl _)  p e ha hc hk s m _ below hf ((Spec.applies_iff_loose hf).mp happ).1 ⟨rfl, State.Warmed39.refl s, rfl⟩ trivial
  refine ⟨n, _, h1, h2, h3, hpost _ _ _ _ _ _ ⟨Cond.after_iff.mpr rfl, Cond.after_iff.mpr (eq_i res_at (Term.int_eval (1)) rfl), trivial⟩ ⟨hq.1, hq.2.1, (hq.2.2.sift fun y hy => Or.inr (N y hy)).mono (by decide) (by decide)⟩⟩
theorem main_1_1 : Claimed_1_1 := comes_1 fun _ _ _ _ _ _ h hF => ⟨h.1, hF⟩
theorem main_1_2 : Claimed_1_2 := comes_1 fun _ _ _ _ _ _ h hF => ⟨h.2.1, hF⟩
end Jvm.Pilot.@@N@@
namespace Jvm.Pilot.@@N@@
open Jvm Jvm.ClassFile Sem Op Lib Jvm.Free Jvm.Stand Jvm.Pilot.@@N@@.Jvm.D
/-! MADE BY PROGRAM (witnessworld.py) out of the Statement's table words and the real class files: 7 classes; the members and pool entries that the words name. The judged class is class 1, her method 1. -/
namespace start1
open Jvm.ClassFile
def u (s : String) : CpInfo := .utf8 (stringToUtf16 s)
/-- a pool by its gaps: so many unusable entries, then the entry; so many at the end -/
def gap : Nat → List CpInfo → List CpInfo
  | 0, r => r
  | n + 1, r => .unusable :: gap n r
def poolList (es : List (Nat × CpInfo)) (last : Nat) : List CpInfo := es.foldr (fun e r => gap e.1 (e.2 :: r)) (gap last [])
def pool (es : List (Nat × CpInfo)) (last : Nat) : Array CpInfo := ⟨poolList es last⟩
def fileOf (pool : Array CpInfo) (this : Nat) (attrs : Array Attribute := #[]) (ms : Array MethodInfo := #[]) (fl : Nat := 33) (sup : Nat := 0) (ifs : Array Nat := #[]) (fds : Array FieldInfo := #[]) : ClassFile where
  minorVersion := 0
  majorVersion := 65
  constantPool := pool
  accessFlags := fl
  thisClass := this
  superClass := sup
  interfaces := ifs
  fields := fds
  methods := ms
  attributes := attrs
def plain (name : String) (sup : Option ClassId) : Class where
  name := name
  kind := .ordinary
  loader := none
  accessFlags := 33
  super := sup
  interfaces := #[]
  cf := none
  fields := #[]
  methods := #[]
  instanceTypes := #[]
  staticTypes := #[]
  resolved := #[]
  callSites := []
  init := .initialized
  statics := none
  mirror := none

def pool0 : Array CpInfo := pool [(5, u "<init>"), (0, u "()V"), (1, .class_ 10), (1, u "java/lang/Object")] 113

def k0m0 : Method := { name := "<init>", desc := "()V", sig := { parameters := [], returnType := none }, accessFlags := 1, code := none }
/-- java/lang/Object -/
def k0 : Class := { plain "java/lang/Object" none with
  accessFlags := 33
  interfaces := #[]
  cf := some (fileOf pool0 8 #[] #[{ accessFlags := 1, nameIndex := 5, descriptorIndex := 6, attributes := #[] }] 33 0 #[] #[])
  fields := #[]
  methods := #[k0m0]
  instanceTypes := #[]
  staticTypes := #[]
  resolved := Array.replicate 124 none
  statics := none }

def pool1 : Array CpInfo := pool [(2, .class_ 4), (1, u "java/lang/Object"), (0, u "<init>"), (0, u "()V"), (0, .long 18446744073709551615), (3, .long 9223372036854775807), (1, .methodref 14 15), (0, .class_ 16), (0, .nameAndType 17 18), (0, u "com/example/kingsnake/kingsnake/schema/content/ContentModelMaximumSumPinLaw"), (0, u "reference"), (0, u "(JJ)J"), (0, .methodref 20 21), (0, .class_ 22), (0, .nameAndType 23 18), (0, u "com/example/kingsnake/kingsnake/schema/content/ContentModel"), (0, u "maximumSum"), (2, u "law"), (0, u "(JJI)Z")] 3

def k1m0 : Method := { name := "<init>", desc := "()V", sig := { parameters := [], returnType := none }, accessFlags := 1, code := none }
def k1c1 : Code := { maxStack := 4, maxLocals := 15, code := code, exceptionTable := #[], attributes := #[] }
def k1m1 : Method := { name := "law", desc := "(JJI)Z", sig := { parameters := [.long, .long, .int], returnType := some .boolean }, accessFlags := 9, code := some k1c1 }
def k1c2 : Code := { maxStack := 4, maxLocals := 6, code := method_3_code, exceptionTable := #[], attributes := #[] }
def k1m2 : Method := { name := "reference", desc := "(JJ)J", sig := { parameters := [.long, .long], returnType := some .long }, accessFlags := 10, code := some k1c2 }
/-- com/example/kingsnake/kingsnake/schema/content/ContentModelMaximumSumPinLaw -/
def k1 : Class := { plain "com/example/kingsnake/kingsnake/schema/content/ContentModelMaximumSumPinLaw" (some 0) with
  accessFlags := 49
  interfaces := #[]
  cf := some (fileOf pool1 14 #[] #[{ accessFlags := 1, nameIndex := 5, descriptorIndex := 6, attributes := #[] }, { accessFlags := 9, nameIndex := 26, descriptorIndex := 27, attributes := #[] }, { accessFlags := 10, nameIndex := 17, descriptorIndex := 18, attributes := #[] }] 49 2 #[] #[])
  fields := #[]
  methods := #[k1m0, k1m1, k1m2]
  instanceTypes := #[]
  staticTypes := #[]
  resolved := Array.replicate 31 none
  statics := none }

def pool2 : Array CpInfo := pool [(2, .class_ 4), (1, u "java/lang/Object"), (3, .class_ 10), (1, u "com/example/kingsnake/kingsnake/schema/content/ContentModel"), (0, u "hash"), (0, u "I"), (2, u "minLength"), (0, u "J"), (2, u "maxLength"), (2, u "EMPTY"), (0, u "Lcom/example/kingsnake/kingsnake/schema/content/ContentModel;"), (36, u "NOTHING"), (57, .long 18446744073709551615), (45, .class_ 165), (0, u "com/example/kingsnake/kingsnake/schema/content/ContentModel$Match"), (191, .class_ 358), (0, u "com/example/kingsnake/kingsnake/schema/content/ContentModel$Offered"), (4, .class_ 365), (1, u "com/example/kingsnake/kingsnake/schema/content/ContentModel$LeadingRepeat"), (13, u "(JJ)J"), (84, .long 9223372036854775807), (66, u "UNBOUNDED"), (42, u "maximumSum"), (28, .class_ 604), (0, u "com/example/kingsnake/kingsnake/schema/content/ContentModel$Occurrences"), (0, .class_ 606), (0, u "com/example/kingsnake/kingsnake/schema/content/ContentModel$OpenCovering")] 72

def k2c0 : Code := { maxStack := 6, maxLocals := 5, code := prog_188_method_42_code, exceptionTable := #[], attributes := #[] }
def k2m0 : Method := { name := "maximumSum", desc := "(JJ)J", sig := { parameters := [.long, .long], returnType := some .long }, accessFlags := 9, code := some k2c0 }
/-- com/example/kingsnake/kingsnake/schema/content/ContentModel -/
def k2 : Class := { plain "com/example/kingsnake/kingsnake/schema/content/ContentModel" (some 0) with
  accessFlags := 1057
  interfaces := #[]
  cf := some (fileOf pool2 8 #[.nestMembers #[357, 363, 164, 603, 605]] #[{ accessFlags := 9, nameIndex := 574, descriptorIndex := 379, attributes := #[] }] 1057 2 #[] #[{ accessFlags := 25, nameIndex := 531, descriptorIndex := 16, attributes := #[] }, { accessFlags := 24, nameIndex := 60, descriptorIndex := 23, attributes := #[] }, { accessFlags := 24, nameIndex := 22, descriptorIndex := 23, attributes := #[] }, { accessFlags := 18, nameIndex := 11, descriptorIndex := 12, attributes := #[] }, { accessFlags := 18, nameIndex := 15, descriptorIndex := 16, attributes := #[] }, { accessFlags := 18, nameIndex := 19, descriptorIndex := 16, attributes := #[] }])
  fields := #[{ name := "UNBOUNDED", type := .long, accessFlags := 25, slot := 0, constantValue := 0 }, { name := "NOTHING", type := (.object "com/example/kingsnake/kingsnake/schema/content/ContentModel"), accessFlags := 24, slot := 1, constantValue := 0 }, { name := "EMPTY", type := (.object "com/example/kingsnake/kingsnake/schema/content/ContentModel"), accessFlags := 24, slot := 2, constantValue := 0 }, { name := "hash", type := .int, accessFlags := 18, slot := 0, constantValue := 0 }, { name := "minLength", type := .long, accessFlags := 18, slot := 1, constantValue := 0 }, { name := "maxLength", type := .long, accessFlags := 18, slot := 2, constantValue := 0 }]
  methods := #[k2m0]
  instanceTypes := #[.int, .long, .long]
  staticTypes := #[.long, (.object "com/example/kingsnake/kingsnake/schema/content/ContentModel"), (.object "com/example/kingsnake/kingsnake/schema/content/ContentModel")]
  resolved := Array.replicate 679 none
  statics := none }

def pool3 : Array CpInfo := pool [(1, u "java/lang/Cloneable"), (0, .class_ 1), (0, u "java/lang/Object"), (0, .class_ 3)] 3

/-- java/lang/Cloneable -/
def k3 : Class := { plain "java/lang/Cloneable" (some 0) with
  accessFlags := 1537
  interfaces := #[]
  cf := some (fileOf pool3 2 #[] #[] 1537 4 #[] #[])
  fields := #[]
  methods := #[]
  instanceTypes := #[]
  staticTypes := #[]
  resolved := Array.replicate 8 none
  statics := none }

def pool4 : Array CpInfo := pool [(1, u "java/io/Serializable"), (0, .class_ 1), (0, u "java/lang/Object"), (0, .class_ 3)] 3

/-- java/io/Serializable -/
def k4 : Class := { plain "java/io/Serializable" (some 0) with
  accessFlags := 1537
  interfaces := #[]
  cf := some (fileOf pool4 2 #[] #[] 1537 4 #[] #[])
  fields := #[]
  methods := #[]
  instanceTypes := #[]
  staticTypes := #[]
  resolved := Array.replicate 8 none
  statics := none }

/-- the primitive byte -/
def k5 : Class := { plain "byte" none with kind := .primitive 'B', accessFlags := 0x411 }
/-- [B -/
def k6 : Class := { plain "[B" (some 0) with kind := .array 5 .byte, interfaces := #[3, 4], accessFlags := 1041 }

def heap : Heap := #[]
def classes : Array Class := #[k0, k1, k2, k3, k4, k5, k6]
def interned : List (Array UInt16 × Addr) := []
def slotsUsed : Nat := 0
def theMethod : MethodId := ⟨1, 1⟩
def args0 : Array Value := #[.long 5, .long 7, .int 0]
def aboutOver (below : List Frame) : State where
  vm := { classes := classes, interned := interned.toArray }
  heap := heap
  slotsUsed := slotsUsed
  threads := #[{ frames := .invoking theMethod args0 :: below }]
def below0 : List Frame := [.native { method := ⟨0, 0⟩, args := #[] }]
def about1 : State := aboutOver below0
def p0 : Program := .bare "" "" ""
def e0 : Env := launch0.env 0 0 0
theorem w_frames : about1.frames = Frame.invoking theMethod args0 :: below0 := rfl
set_option maxRecDepth 65536 in
theorem w_args : argsFit about1.vm theMethod args0 = true := by decide +kernel
set_option maxRecDepth 65536 in
theorem w_heap : heapFits about1 = true := by decide +kernel
set_option maxRecDepth 65536 in
theorem w_runnable : about1.curStatus? = some .runnable := by decide +kernel
set_option maxRecDepth 65536 in
theorem w_alone : about1.alone = true := by decide +kernel
set_option maxRecDepth 65536 in
theorem w_named : about1.methodNamed? x = some theMethod := by decide +kernel
set_option maxRecDepth 65536 in
theorem w_hears : about1.hears theMethod below0 = true := by decide +kernel
set_option maxRecDepth 65536 in
theorem w_ripe : about1.ripe theMethod args0 below0 = true := by decide +kernel
theorem w_running : about1.status = .running := rfl
set_option maxRecDepth 65536 in
theorem w_room : about1.hasRoom e0.platform room_1 = true :=
  launch0.hasRoom_least _ room_1 (by decide +kernel) (by decide +kernel) (by decide +kernel) (by decide +kernel) (by decide +kernel) (by decide +kernel)
theorem allAtoms_all (ts : List Jvm.Cond) (a : Array Jvm.Value) (st : Jvm.State) : (allAtoms ts).before a st = ts.all (fun c => c.before a st) := by
  induction ts with
  | nil => rfl
  | cons c t ih =>
    show (Jvm.Cond.and c (allAtoms t)).before a st = _
    rw [Jvm.Cond.before_and, ih, List.all_cons]
def words1 : List Jvm.Cond := Jvm.Cond.code x code maxLocals ret :: tables_1
/-- a 'code' word, met by the world's own term for the bytes: nothing is compared byte by byte -/
theorem code_word {y : MethodName} {bytes : ByteArray} {mx : Nat} {rt : Option FieldType} {a : Array Value} {s : State} {m : MethodId} {meth : Method} {c : Code} (h1 : s.methodNamed? y = some m) (h2 : s.vm.method? m = some meth) (h3 : meth.code = some c) (h4 : c.code = bytes)
    (h5 : (c.maxLocals == mx && c.exceptionTable.isEmpty && decide (c.maxStack ≤ mostOperands) && decide (meth.sig.returnType = rt) && !meth.locks && decide (parseMethodDescriptor y.desc = some meth.sig)) = true) : (Jvm.Cond.code y bytes mx rt).before a s = true := by
  simp only [Bool.and_eq_true, beq_iff_eq, Bool.not_eq_true', decide_eq_true_eq] at h5
  obtain ⟨⟨⟨⟨⟨g1, g2⟩, g3⟩, g4⟩, g5⟩, g6⟩ := h5
  simp [Cond.before, Cond.holds, Cond.value, h1, h2, h3, h4, g1, g2, g3, g4, g5, g6]
def isCode : Jvm.Cond → Bool
  | .code _ _ _ _ => true
  | _ => false
theorem all_split {L : List Jvm.Cond} {P : Jvm.Cond → Bool} (h1 : L.all (fun c => isCode c || P c) = true) (h2 : ∀ c ∈ L.filter isCode, P c = true) : L.all P = true := by
  refine List.all_eq_true.mpr fun c hc => ?_
  have h := List.all_eq_true.mp h1 c hc
  rcases Bool.eq_false_or_eq_true (isCode c) with hi | hi
  · exact h2 c (List.mem_filter.mpr ⟨hc, hi⟩)
  · simpa [hi] using h
set_option maxRecDepth 65536 in
theorem w_c0 : (Jvm.Cond.code x code maxLocals ret).before args0 about1 = true := code_word (m := ⟨1, 1⟩) (meth := k1m1) (c := k1c1) (by decide +kernel) rfl rfl rfl (by decide +kernel)
set_option maxRecDepth 65536 in
theorem w_c1 : (Jvm.Cond.code ({ cls := "com/example/kingsnake/kingsnake/schema/content/ContentModelMaximumSumPinLaw", name := "reference", desc := "(JJ)J" } : Jvm.MethodName) method_3_code (6 : Nat) (Option.some Jvm.ClassFile.FieldType.long)).before args0 about1 = true := code_word (m := ⟨1, 2⟩) (meth := k1m2) (c := k1c2) (by decide +kernel) rfl rfl rfl (by decide +kernel)
set_option maxRecDepth 65536 in
theorem w_c2 : (Jvm.Cond.code ({ cls := "com/example/kingsnake/kingsnake/schema/content/ContentModel", name := "maximumSum", desc := "(JJ)J" } : Jvm.MethodName) prog_188_method_42_code (5 : Nat) (Option.some Jvm.ClassFile.FieldType.long)).before args0 about1 = true := code_word (m := ⟨2, 0⟩) (meth := k2m0) (c := k2c0) (by decide +kernel) rfl rfl rfl (by decide +kernel)
def codes1 : List Jvm.Cond := [Jvm.Cond.code x code maxLocals ret, Jvm.Cond.code ({ cls := "com/example/kingsnake/kingsnake/schema/content/ContentModelMaximumSumPinLaw", name := "reference", desc := "(JJ)J" } : Jvm.MethodName) method_3_code (6 : Nat) (Option.some Jvm.ClassFile.FieldType.long), Jvm.Cond.code ({ cls := "com/example/kingsnake/kingsnake/schema/content/ContentModel", name := "maximumSum", desc := "(JJ)J" } : Jvm.MethodName) prog_188_method_42_code (5 : Nat) (Option.some Jvm.ClassFile.FieldType.long)]
set_option maxRecDepth 65536 in
theorem codes_eq : words1.filter isCode = codes1 := rfl
theorem w_codes : ∀ c ∈ words1.filter isCode, c.before args0 about1 = true := by
  rw [codes_eq]
  intro c hc
  simp only [codes1, List.mem_cons, List.not_mem_nil, or_false] at hc
  rcases hc with rfl | rfl | rfl
  · exact w_c0
  · exact w_c1
  · exact w_c2
set_option maxRecDepth 65536 in
theorem w_t1 : words1.all (fun c => isCode c || c.before args0 about1) = true := by decide +kernel
theorem w_tables : (allAtoms (Jvm.Cond.code x code maxLocals ret :: tables_1)).before args0 about1 = true := by
  rw [allAtoms_all]
  show words1.all (fun c => c.before args0 about1) = true
  refine all_split ?_ w_codes
  rw [w_t1]
set_option maxRecDepth 65536 in
theorem w_case : (Jvm.Cond.and given_1 narrow_1).before args0 about1 = true := by decide +kernel
theorem w_applies : (headSpec (Jvm.Cond.code x code maxLocals ret :: tables_1) room_1).applies x e0.platform about1 = true :=
  (Spec.applies_iff w_frames).mpr ⟨w_running, w_runnable, w_alone, w_named, w_hears, w_ripe, w_room, w_tables⟩
theorem atStart : AtStart classFile x code maxLocals ret World_1 tables_1 room_1 Calls_1 rest_1 Pre_1 launch0 p0 e0 about1 theMethod args0 below0 :=
  ⟨lists_1, trivial, launch0.admits_env _ _ _, launch0.least_env, fairChoices_fair.cas, fairChoices_fair.clock, w_frames, w_args, w_heap, w_applies, trivial, trivial, w_case⟩
end start1
theorem witness_1 : WitnessClaimed_1 := ⟨start1.p0, start1.e0, start1.about1, start1.theMethod, start1.args0, start1.below0, start1.atStart⟩
end Jvm.Pilot.@@N@@
