import JvmDerived
import JvmDerived.Pilot.@@N@@Statement
import JvmDerived.Pilot.@@N@@Code
set_option linter.unusedVariables false
set_option linter.unusedSimpArgs false
namespace Jvm.RoadKit
open Sem ClassFile Op Lib Jvm.Stand Jvm.Free Jvm.LawKit
section New
variable {p : Program} {l : Launch} {e : Env} {R : Room} {s : State} {m : MethodId} {args : Array Value} {below : List Frame} {meth : Method} {c : Code} {T : State} {locs : List Loc} {cells slots : Nat}
theorem retI (X : Stand p l e R s m args below meth c T locs cells slots) (hx : p.tables.exec = Jvm.exec) {pc : Nat} {Ls : Array Slot} {z : Int32} {rest : List Value} (hret : meth.sig.returnType = some .int) (hd : decode c.code pc = .ok (.ireturn, 1)) {fs : List Frame}
    (hl : ∀ (f : JFrame) (acts : List Action), f.method = m → f.locked = none → f.entered = [] → (doReturn e (T.setTop f) acts (some (.int z))).1 = T.setFrames fs) : Steps p.tables e below (T.setTop (mkF m pc Ls (.int z :: rest))) (T.setFrames fs) := by
  have hm' : T.vm.method? m = some meth := X.method'
  have hn : narrow .int (.int z) = .int z := rfl
  show Steps p.tables e below (T.setTop { method := m, pc := pc, locals := Ls, stack := _ :: rest, locked := none }) _
  jvm_step X.here [X.here.top, hx, hd, hm', hret, hn]
  first | (intro acts; rw [hl _ acts rfl rfl rfl]) | rw [hl _ _ rfl rfl rfl]
  exact Steps.refl _
end New
end Jvm.RoadKit
namespace Jvm.Pilot.@@N@@
open Jvm Jvm.ClassFile Sem Op Lib Jvm.Free Jvm.Stand Jvm.LawKit Jvm.RoadKit Bundle Jvm.Pilot.@@N@@.Jvm.D
theorem own_lt_t {x y : Int64} (h : x < y) : ifCond.holds .lt (lcmpW x y) = true ∧ ifCond.holds .ge (lcmpW x y) = false := by
  rw [if0, if0]; exact ⟨(tlt ((lw_lt x y).mpr h)).1, (tlt ((lw_lt x y).mpr h)).2.1⟩
theorem own_lt_f {x y : Int64} (h : ¬ x < y) : ifCond.holds .lt (lcmpW x y) = false ∧ ifCond.holds .ge (lcmpW x y) = true := by
  have h2 : ¬ lcmpW x y < 0 := fun q => h ((lw_lt x y).mp q)
  rw [if0, if0]; exact ⟨(flt h2).1, (flt h2).2.1⟩
theorem own_gt_t {x y : Int64} (h : y < x) : ifCond.holds .gt (lcmpW x y) = true ∧ ifCond.holds .le (lcmpW x y) = false := by
  have h2 : 0 < lcmpW x y := (lw_gt x y).mpr h
  rw [if0, if0]; exact ⟨(tlt h2).2.2.1, (tlt h2).2.2.2⟩
theorem own_gt_f {x y : Int64} (h : ¬ y < x) : ifCond.holds .gt (lcmpW x y) = false ∧ ifCond.holds .le (lcmpW x y) = true := by
  have h2 : ¬ 0 < lcmpW x y := fun q => h ((lw_gt x y).mp q)
  rw [if0, if0]; exact ⟨(flt h2).2.2.1, (flt h2).2.2.2⟩
theorem own_eq_t {x y : Int64} (h : x = y) : ifCond.holds .eq (lcmpW x y) = true ∧ ifCond.holds .ne (lcmpW x y) = false := by
  have h2 : lcmpW x y = 0 := (lw_eq x y).mpr h
  rw [if0, if0]; exact ⟨(teq h2).1, (teq h2).2⟩
theorem own_eq_f {x y : Int64} (h : ¬ x = y) : ifCond.holds .eq (lcmpW x y) = false ∧ ifCond.holds .ne (lcmpW x y) = true := by
  have h2 : ¬ lcmpW x y = 0 := fun q => h ((lw_eq x y).mp q)
  rw [if0, if0]; exact ⟨(feq h2).1, (feq h2).2⟩
theorem d1_0 : decode method_2_code 0 = .ok (.iload_n 2, 1) := by decide +kernel
theorem d1_1 : decode method_2_code 1 = .ok (.iconst 3, 1) := by decide +kernel
theorem d1_2 : decode method_2_code 2 = .ok (.iand, 1) := by decide +kernel
theorem d1_3 : decode method_2_code 3 = .ok (.istore_n 3, 1) := by decide +kernel
theorem d1_4 : decode method_2_code 4 = .ok (.iload_n 3, 1) := by decide +kernel
theorem d1_5 : decode method_2_code 5 = .ok (.ifCond .ne 5, 3) := by decide +kernel
theorem d1_8 : decode method_2_code 8 = .ok (.lconst 0, 1) := by decide +kernel
theorem d1_9 : decode method_2_code 9 = .ok (.lreturn, 1) := by decide +kernel
theorem d1_10 : decode method_2_code 10 = .ok (.iload_n 3, 1) := by decide +kernel
theorem d1_11 : decode method_2_code 11 = .ok (.iconst 1, 1) := by decide +kernel
theorem d1_12 : decode method_2_code 12 = .ok (.if_icmp .ne 7, 3) := by decide +kernel
theorem d1_15 : decode method_2_code 15 = .ok (.ldc2_w 7, 3) := by decide +kernel
theorem d1_18 : decode method_2_code 18 = .ok (.lreturn, 1) := by decide +kernel
theorem d1_19 : decode method_2_code 19 = .ok (.lload_n 0, 1) := by decide +kernel
theorem d1_20 : decode method_2_code 20 = .ok (.ldc2_w 11, 3) := by decide +kernel
theorem d1_23 : decode method_2_code 23 = .ok (.land, 1) := by decide +kernel
theorem d1_24 : decode method_2_code 24 = .ok (.lreturn, 1) := by decide +kernel
theorem pn_1 : plainName "com/example/kingsnake/kingsnake/schema/content/ContentModelMaximumProductPinLaw" = true := by first | (simp [plainName, overriddenIn]; done) | decide +kernel
theorem pd_1 : parseMethodDescriptor "(JI)J" = some ⟨[.long, .int], some .long⟩ := by decide +kernel
theorem ef_1 (m : MethodId) (x0 : Int64) (x1 : Int32) : entryFrame m #[(.long x0), (.int x1)] 4 = mkF m 0 #[.val (.long x0), .second, .val (.int x1), .unset] [] := by first | (simp [entryFrame, mkF, argsToLocals, Value.category, maxLocals]; done) | rfl
theorem d2_0 : decode prog_188_method_44_code 0 = .ok (.lload_n 0, 1) := by decide +kernel
theorem d2_1 : decode prog_188_method_44_code 1 = .ok (.lconst 0, 1) := by decide +kernel
theorem d2_2 : decode prog_188_method_44_code 2 = .ok (.lcmp, 1) := by decide +kernel
theorem d2_3 : decode prog_188_method_44_code 3 = .ok (.ifCond .eq 9, 3) := by decide +kernel
theorem d2_6 : decode prog_188_method_44_code 6 = .ok (.lload_n 2, 1) := by decide +kernel
theorem d2_7 : decode prog_188_method_44_code 7 = .ok (.lconst 0, 1) := by decide +kernel
theorem d2_8 : decode prog_188_method_44_code 8 = .ok (.lcmp, 1) := by decide +kernel
theorem d2_9 : decode prog_188_method_44_code 9 = .ok (.ifCond .ne 9, 3) := by decide +kernel
theorem d2_12 : decode prog_188_method_44_code 12 = .ok (.lconst 0, 1) := by decide +kernel
theorem d2_13 : decode prog_188_method_44_code 13 = .ok (.lstore 4, 2) := by decide +kernel
theorem d2_15 : decode prog_188_method_44_code 15 = .ok (.goto 42, 3) := by decide +kernel
theorem d2_18 : decode prog_188_method_44_code 18 = .ok (.lload_n 0, 1) := by decide +kernel
theorem d2_19 : decode prog_188_method_44_code 19 = .ok (.ldc2_w 118, 3) := by decide +kernel
theorem d2_22 : decode prog_188_method_44_code 22 = .ok (.lcmp, 1) := by decide +kernel
theorem d2_23 : decode prog_188_method_44_code 23 = .ok (.ifCond .eq 21, 3) := by decide +kernel
theorem d2_26 : decode prog_188_method_44_code 26 = .ok (.lload_n 2, 1) := by decide +kernel
theorem d2_27 : decode prog_188_method_44_code 27 = .ok (.ldc2_w 118, 3) := by decide +kernel
theorem d2_30 : decode prog_188_method_44_code 30 = .ok (.lcmp, 1) := by decide +kernel
theorem d2_31 : decode prog_188_method_44_code 31 = .ok (.ifCond .eq 13, 3) := by decide +kernel
theorem d2_34 : decode prog_188_method_44_code 34 = .ok (.lload_n 0, 1) := by decide +kernel
theorem d2_35 : decode prog_188_method_44_code 35 = .ok (.ldc2_w 464, 3) := by decide +kernel
theorem d2_38 : decode prog_188_method_44_code 38 = .ok (.lload_n 2, 1) := by decide +kernel
theorem d2_39 : decode prog_188_method_44_code 39 = .ok (.ldiv, 1) := by decide +kernel
theorem d2_40 : decode prog_188_method_44_code 40 = .ok (.lcmp, 1) := by decide +kernel
theorem d2_41 : decode prog_188_method_44_code 41 = .ok (.ifCond .le 11, 3) := by decide +kernel
theorem d2_44 : decode prog_188_method_44_code 44 = .ok (.ldc2_w 118, 3) := by decide +kernel
theorem d2_47 : decode prog_188_method_44_code 47 = .ok (.lstore 4, 2) := by decide +kernel
theorem d2_49 : decode prog_188_method_44_code 49 = .ok (.goto 8, 3) := by decide +kernel
theorem d2_52 : decode prog_188_method_44_code 52 = .ok (.lload_n 0, 1) := by decide +kernel
theorem d2_53 : decode prog_188_method_44_code 53 = .ok (.lload_n 2, 1) := by decide +kernel
theorem d2_54 : decode prog_188_method_44_code 54 = .ok (.lmul, 1) := by decide +kernel
theorem d2_55 : decode prog_188_method_44_code 55 = .ok (.lstore 4, 2) := by decide +kernel
theorem d2_57 : decode prog_188_method_44_code 57 = .ok (.lload 4, 2) := by decide +kernel
theorem d2_59 : decode prog_188_method_44_code 59 = .ok (.lreturn, 1) := by decide +kernel
theorem pn_2 : plainName "com/example/kingsnake/kingsnake/schema/content/ContentModel" = true := by first | (simp [plainName, overriddenIn]; done) | decide +kernel
theorem pd_2 : parseMethodDescriptor "(JJ)J" = some ⟨[.long, .long], some .long⟩ := by decide +kernel
theorem ef_2 (m : MethodId) (x0 : Int64) (x1 : Int64) : entryFrame m #[(.long x0), (.long x1)] 6 = mkF m 0 #[.val (.long x0), .second, .val (.long x1), .second, .unset, .unset] [] := by first | (simp [entryFrame, mkF, argsToLocals, Value.category, maxLocals]; done) | rfl
theorem d3_0 : decode method_3_code 0 = .ok (.lload_n 0, 1) := by decide +kernel
theorem d3_1 : decode method_3_code 1 = .ok (.bipush 32, 2) := by decide +kernel
theorem d3_3 : decode method_3_code 3 = .ok (.lushr, 1) := by decide +kernel
theorem d3_4 : decode method_3_code 4 = .ok (.lstore 4, 2) := by decide +kernel
theorem d3_6 : decode method_3_code 6 = .ok (.lload_n 0, 1) := by decide +kernel
theorem d3_7 : decode method_3_code 7 = .ok (.ldc2_w 13, 3) := by decide +kernel
theorem d3_10 : decode method_3_code 10 = .ok (.land, 1) := by decide +kernel
theorem d3_11 : decode method_3_code 11 = .ok (.lstore 6, 2) := by decide +kernel
theorem d3_13 : decode method_3_code 13 = .ok (.lload_n 2, 1) := by decide +kernel
theorem d3_14 : decode method_3_code 14 = .ok (.bipush 32, 2) := by decide +kernel
theorem d3_16 : decode method_3_code 16 = .ok (.lushr, 1) := by decide +kernel
theorem d3_17 : decode method_3_code 17 = .ok (.lstore 8, 2) := by decide +kernel
theorem d3_19 : decode method_3_code 19 = .ok (.lload_n 2, 1) := by decide +kernel
theorem d3_20 : decode method_3_code 20 = .ok (.ldc2_w 13, 3) := by decide +kernel
theorem d3_23 : decode method_3_code 23 = .ok (.land, 1) := by decide +kernel
theorem d3_24 : decode method_3_code 24 = .ok (.lstore 10, 2) := by decide +kernel
theorem d3_26 : decode method_3_code 26 = .ok (.lload 4, 2) := by decide +kernel
theorem d3_28 : decode method_3_code 28 = .ok (.lconst 0, 1) := by decide +kernel
theorem d3_29 : decode method_3_code 29 = .ok (.lcmp, 1) := by decide +kernel
theorem d3_30 : decode method_3_code 30 = .ok (.ifCond .eq 14, 3) := by decide +kernel
theorem d3_33 : decode method_3_code 33 = .ok (.lload 8, 2) := by decide +kernel
theorem d3_35 : decode method_3_code 35 = .ok (.lconst 0, 1) := by decide +kernel
theorem d3_36 : decode method_3_code 36 = .ok (.lcmp, 1) := by decide +kernel
theorem d3_37 : decode method_3_code 37 = .ok (.ifCond .eq 7, 3) := by decide +kernel
theorem d3_40 : decode method_3_code 40 = .ok (.ldc2_w 7, 3) := by decide +kernel
theorem d3_43 : decode method_3_code 43 = .ok (.lreturn, 1) := by decide +kernel
theorem d3_44 : decode method_3_code 44 = .ok (.lload 4, 2) := by decide +kernel
theorem d3_46 : decode method_3_code 46 = .ok (.lload 10, 2) := by decide +kernel
theorem d3_48 : decode method_3_code 48 = .ok (.lmul, 1) := by decide +kernel
theorem d3_49 : decode method_3_code 49 = .ok (.lload 6, 2) := by decide +kernel
theorem d3_51 : decode method_3_code 51 = .ok (.lload 8, 2) := by decide +kernel
theorem d3_53 : decode method_3_code 53 = .ok (.lmul, 1) := by decide +kernel
theorem d3_54 : decode method_3_code 54 = .ok (.ladd, 1) := by decide +kernel
theorem d3_55 : decode method_3_code 55 = .ok (.lstore 12, 2) := by decide +kernel
theorem d3_57 : decode method_3_code 57 = .ok (.lload 12, 2) := by decide +kernel
theorem d3_59 : decode method_3_code 59 = .ok (.ldc2_w 15, 3) := by decide +kernel
theorem d3_62 : decode method_3_code 62 = .ok (.lcmp, 1) := by decide +kernel
theorem d3_63 : decode method_3_code 63 = .ok (.ifCond .lt 7, 3) := by decide +kernel
theorem d3_66 : decode method_3_code 66 = .ok (.ldc2_w 7, 3) := by decide +kernel
theorem d3_69 : decode method_3_code 69 = .ok (.lreturn, 1) := by decide +kernel
theorem d3_70 : decode method_3_code 70 = .ok (.lload 6, 2) := by decide +kernel
theorem d3_72 : decode method_3_code 72 = .ok (.lload 10, 2) := by decide +kernel
theorem d3_74 : decode method_3_code 74 = .ok (.lmul, 1) := by decide +kernel
theorem d3_75 : decode method_3_code 75 = .ok (.lstore 14, 2) := by decide +kernel
theorem d3_77 : decode method_3_code 77 = .ok (.lload 14, 2) := by decide +kernel
theorem d3_79 : decode method_3_code 79 = .ok (.lconst 0, 1) := by decide +kernel
theorem d3_80 : decode method_3_code 80 = .ok (.lcmp, 1) := by decide +kernel
theorem d3_81 : decode method_3_code 81 = .ok (.ifCond .ge 7, 3) := by decide +kernel
theorem d3_84 : decode method_3_code 84 = .ok (.ldc2_w 7, 3) := by decide +kernel
theorem d3_87 : decode method_3_code 87 = .ok (.lreturn, 1) := by decide +kernel
theorem d3_88 : decode method_3_code 88 = .ok (.lload 12, 2) := by decide +kernel
theorem d3_90 : decode method_3_code 90 = .ok (.bipush 32, 2) := by decide +kernel
theorem d3_92 : decode method_3_code 92 = .ok (.lshl, 1) := by decide +kernel
theorem d3_93 : decode method_3_code 93 = .ok (.lload 14, 2) := by decide +kernel
theorem d3_95 : decode method_3_code 95 = .ok (.ladd, 1) := by decide +kernel
theorem d3_96 : decode method_3_code 96 = .ok (.lstore 16, 2) := by decide +kernel
theorem d3_98 : decode method_3_code 98 = .ok (.lload 16, 2) := by decide +kernel
theorem d3_100 : decode method_3_code 100 = .ok (.lconst 0, 1) := by decide +kernel
theorem d3_101 : decode method_3_code 101 = .ok (.lcmp, 1) := by decide +kernel
theorem d3_102 : decode method_3_code 102 = .ok (.ifCond .ge 7, 3) := by decide +kernel
theorem d3_105 : decode method_3_code 105 = .ok (.ldc2_w 7, 3) := by decide +kernel
theorem d3_108 : decode method_3_code 108 = .ok (.lreturn, 1) := by decide +kernel
theorem d3_109 : decode method_3_code 109 = .ok (.lload 16, 2) := by decide +kernel
theorem d3_111 : decode method_3_code 111 = .ok (.lreturn, 1) := by decide +kernel
theorem pn_3 : plainName "com/example/kingsnake/kingsnake/schema/content/ContentModelMaximumProductPinLaw" = true := by first | (simp [plainName, overriddenIn]; done) | decide +kernel
theorem pd_3 : parseMethodDescriptor "(JJ)J" = some ⟨[.long, .long], some .long⟩ := by decide +kernel
theorem ef_3 (m : MethodId) (x0 : Int64) (x1 : Int64) : entryFrame m #[(.long x0), (.long x1)] 18 = mkF m 0 #[.val (.long x0), .second, .val (.long x1), .second, .unset, .unset, .unset, .unset, .unset, .unset, .unset, .unset, .unset, .unset, .unset, .unset, .unset, .unset] [] := by first | (simp [entryFrame, mkF, argsToLocals, Value.category, maxLocals]; done) | rfl
theorem pn_0 : plainName "com/example/kingsnake/kingsnake/schema/content/ContentModelMaximumProductPinLaw" = true := by first | (simp [plainName, overriddenIn]; done) | decide +kernel
theorem pd_0 : parseMethodDescriptor "(JJI)Z" = some ⟨[.long, .long, .int], some .boolean⟩ := by decide +kernel
theorem ef_0 (m : MethodId) (x0 : Int64) (x1 : Int64) (x2 : Int32) : entryFrame m #[(.long x0), (.long x1), (.int x2)] maxLocals = mkF m 0 #[.val (.long x0), .second, .val (.long x1), .second, .val (.int x2), .unset, .unset, .unset, .unset, .unset, .unset] [] := by first | (simp [entryFrame, mkF, argsToLocals, Value.category, maxLocals]; done) | rfl
def own_pick (x0 : Int64) (x1 : Int32) : Int64 := if (x1 &&& (3 : Int32)) = (0 : Int32) then (0 : Int64) else if (x1 &&& (3 : Int32)) = (1 : Int32) then (-1 : Int64) else (x0 &&& (9223372036854775807 : Int64))
def own_mp (x0 x1 : Int64) : Int64 := if x0 = (0 : Int64) then (0 : Int64) else if x1 = (0 : Int64) then (0 : Int64) else if x0 = (-1 : Int64) then (-1 : Int64) else if x1 = (-1 : Int64) then (-1 : Int64) else if ((9223372036854775807 : Int64) / x1) < x0 then (-1 : Int64) else (x0 * x1)
def own_E (x0 x1 : Int64) : Int64 := if x0 = (0 : Int64) then (0 : Int64) else if x1 = (0 : Int64) then (0 : Int64) else (-1 : Int64)
def own_ex3 (lh ll th tl : Int64) : Int64 := if ((lh * tl) + (ll * th)) < (2147483648 : Int64) then (if (ll * tl) < (0 : Int64) then (-1 : Int64) else if ((((lh * tl) + (ll * th)) <<< ((32 : Int32) &&& 0x3f).toInt64) + (ll * tl)) < (0 : Int64) then (-1 : Int64) else ((((lh * tl) + (ll * th)) <<< ((32 : Int32) &&& 0x3f).toInt64) + (ll * tl))) else (-1 : Int64)
def own_ex2 (lh ll th tl : Int64) : Int64 := if lh = (0 : Int64) then own_ex3 lh ll th tl else if th = (0 : Int64) then own_ex3 lh ll th tl else (-1 : Int64)
def own_hi (x : Int64) : Int64 := ((x.toUInt64 >>> ((32 : Int32) &&& 0x3f).toInt64.toUInt64).toInt64)
def own_ex (x0 x1 : Int64) : Int64 := own_ex2 ((x0.toUInt64 >>> ((32 : Int32) &&& 0x3f).toInt64.toUInt64).toInt64) (x0 &&& (4294967295 : Int64)) ((x1.toUInt64 >>> ((32 : Int32) &&& 0x3f).toInt64.toUInt64).toInt64) (x1 &&& (4294967295 : Int64))
theorem own_pick_ok (a : Int64) (k : Int32) : own_pick a k = (-1 : Int64) ∨ 0 ≤ (own_pick a k).toInt := by
  unfold own_pick
  split
  · right; decide
  split
  · left; rfl
  · right
    rw [c_maskL a (9223372036854775807 : Int64) 63 (by decide) (by decide)]; omega
theorem own_roadB {x0 x1 : Int64} (h : x0 = (0 : Int64) ∨ x1 = (0 : Int64) ∨ x0 = (-1 : Int64) ∨ x1 = (-1 : Int64)) : own_mp x0 x1 = own_E x0 x1 := by
  unfold own_mp own_E
  by_cases a : x0 = (0 : Int64)
  · rw [if_pos a, if_pos a]
  by_cases b : x1 = (0 : Int64)
  · rw [if_neg a, if_pos b, if_neg a, if_pos b]
  rw [if_neg a, if_neg b, if_neg a, if_neg b]
  by_cases d : x0 = (-1 : Int64)
  · rw [if_pos d]
  by_cases f : x1 = (-1 : Int64)
  · rw [if_neg d, if_pos f]
  · exact (h.elim a (fun q => q.elim b (fun q => q.elim d f))).elim
theorem own_shr (x : Int64) (h : 0 ≤ x.toInt) : ((x.toUInt64 >>> ((32 : Int32) &&& 0x3f).toInt64.toUInt64).toInt64).toInt = x.toInt / 4294967296 := by
  have h1 : ((32 : Int32) &&& 0x3f).toInt64.toUInt64 = 32 := by decide
  rw [h1]
  have h2 : (x.toUInt64 >>> 32).toInt64.toBitVec.toNat = x.toBitVec.toNat / 4294967296 := by
    show (x.toBitVec >>> ((32 : UInt64).toBitVec % 64)).toNat = _
    rw [show (32 : UInt64).toBitVec % 64 = 32#64 from by decide, BitVec.ushiftRight_eq', BitVec.toNat_ushiftRight, Nat.shiftRight_eq_div_pow]
    rfl
  have h3 := x.toBitVec.isLt
  have h4 : x.toInt = x.toBitVec.toNat := by
    change x.toBitVec.toInt = _
    change 0 ≤ x.toBitVec.toInt at h
    rw [BitVec.toInt_eq_toNat_cond] at h ⊢
    split at h <;> split <;> omega
  show (x.toUInt64 >>> 32).toInt64.toBitVec.toInt = _
  rw [h4, BitVec.toInt_eq_toNat_cond, h2, if_pos (by omega)]
  omega
theorem own_shl (x : Int64) (h0 : 0 ≤ x.toInt) (h : x.toInt < 2147483648) : (x <<< ((32 : Int32) &&& 0x3f).toInt64).toInt = x.toInt * 4294967296 := by
  have h1 : ((32 : Int32) &&& 0x3f).toInt64 = 32 := by decide
  rw [h1]
  have h2 : (x <<< (32 : Int64)).toBitVec.toNat = x.toBitVec.toNat * 4294967296 % 18446744073709551616 := by
    show (x.toBitVec <<< ((32 : Int64).toBitVec.smod 64)).toNat = _
    rw [show (32 : Int64).toBitVec.smod 64 = 32#64 from by decide, BitVec.shiftLeft_eq', BitVec.toNat_shiftLeft, Nat.shiftLeft_eq]
    rfl
  have h3 := x.toBitVec.isLt
  have h4 : x.toInt = x.toBitVec.toNat := by
    change x.toBitVec.toInt = _
    change 0 ≤ x.toBitVec.toInt at h0
    rw [BitVec.toInt_eq_toNat_cond] at h0 ⊢
    split at h0 <;> split <;> omega
  show (x <<< (32 : Int64)).toBitVec.toInt = _
  rw [h4] at h
  rw [h4, BitVec.toInt_eq_toNat_cond, h2]
  have h5 : x.toBitVec.toNat * 4294967296 % 18446744073709551616 = x.toBitVec.toNat * 4294967296 := Nat.mod_eq_of_lt (by omega)
  rw [h5, if_pos (by omega)]
  omega
theorem own_split (A B C D : Int) : (A * 4294967296 + B) * (C * 4294967296 + D) = A * C * 18446744073709551616 + (A * D + B * C) * 4294967296 + B * D := by
  have h1 : A * 4294967296 * (C * 4294967296) = A * C * 18446744073709551616 := by
    rw [← Int.mul_assoc, Int.mul_right_comm A 4294967296 C]; omega
  rw [Int.add_mul, Int.mul_add, Int.mul_add, h1, Int.mul_right_comm A 4294967296 D, ← Int.mul_assoc B C 4294967296]
  omega
theorem own_roadA {x y : Int64} (hx : 0 ≤ x.toInt) (hy : 0 ≤ y.toInt) (a1 : ¬ x = (0 : Int64)) (a2 : ¬ y = (0 : Int64)) (a3 : ¬ x = (-1 : Int64)) (a4 : ¬ y = (-1 : Int64)) : own_mp x y = own_ex x y := by
  unfold own_mp own_ex
  rw [if_neg a1, if_neg a2, if_neg a3, if_neg a4]
  have e1 := own_shr x hx
  have e2 := own_shr y hy
  have e3 := c_maskL x (4294967295 : Int64) 32 (by decide) (by decide)
  have e4 := c_maskL y (4294967295 : Int64) 32 (by decide) (by decide)
  have k0 : (0 : Int64).toInt = 0 := by decide
  have x0 : x.toInt ≠ 0 := fun q => a1 (Int64.toInt_inj.mp (q.trans k0.symm))
  have y0 : y.toInt ≠ 0 := fun q => a2 (Int64.toInt_inj.mp (q.trans k0.symm))
  have rx := rng64 x
  have ry := rng64 y
  have dv := (c_ldiv (9223372036854775807 : Int64) y y.toInt rfl a4).1 (by decide)
  rw [show (9223372036854775807 : Int64).toInt = 9223372036854775807 from by decide] at dv
  have big : ((9223372036854775807 : Int64) / y) < x ↔ 9223372036854775807 < x.toInt * y.toInt := by
    rw [Int64.lt_iff_toInt_lt, dv]
    exact Int.ediv_lt_iff_lt_mul (by omega)
  generalize ((x.toUInt64 >>> ((32 : Int32) &&& 0x3f).toInt64.toUInt64).toInt64) = lh at *
  generalize ((y.toUInt64 >>> ((32 : Int32) &&& 0x3f).toInt64.toUInt64).toInt64) = th at *
  generalize (x &&& (4294967295 : Int64)) = ll at *
  generalize (y &&& (4294967295 : Int64)) = tl at *
  have E3 : ll.toInt = x.toInt % 4294967296 := e3
  have E4 : tl.toInt = y.toInt % 4294967296 := e4
  clear e3 e4
  have ex : x.toInt = lh.toInt * 4294967296 + ll.toInt := by omega
  have ey : y.toInt = th.toInt * 4294967296 + tl.toInt := by omega
  have bA : 0 ≤ lh.toInt ∧ lh.toInt ≤ 2147483647 := by omega
  have bC : 0 ≤ th.toInt ∧ th.toInt ≤ 2147483647 := by omega
  have bB : 0 ≤ ll.toInt ∧ ll.toInt ≤ 4294967295 := by omega
  have bD : 0 ≤ tl.toInt ∧ tl.toInt ≤ 4294967295 := by omega
  have prod : x.toInt * y.toInt = lh.toInt * th.toInt * 18446744073709551616 + (lh.toInt * tl.toInt + ll.toInt * th.toInt) * 4294967296 + ll.toInt * tl.toInt := by
    rw [ex, ey]; exact own_split _ _ _ _
  have p1 : 0 ≤ lh.toInt * tl.toInt ∧ lh.toInt * tl.toInt ≤ 2147483647 * 4294967295 := ⟨Int.mul_nonneg bA.1 bD.1, Int.mul_le_mul bA.2 bD.2 bD.1 (by decide)⟩
  have p2 : 0 ≤ ll.toInt * th.toInt ∧ ll.toInt * th.toInt ≤ 4294967295 * 2147483647 := ⟨Int.mul_nonneg bB.1 bC.1, Int.mul_le_mul bB.2 bC.2 bC.1 (by decide)⟩
  have p3 : 0 ≤ ll.toInt * tl.toInt ∧ ll.toInt * tl.toInt ≤ 4294967295 * 4294967295 := ⟨Int.mul_nonneg bB.1 bD.1, Int.mul_le_mul bB.2 bD.2 bD.1 (by decide)⟩
  have p0 : 0 ≤ lh.toInt * th.toInt := Int.mul_nonneg bA.1 bC.1
  have lz : lh = (0 : Int64) ↔ lh.toInt = 0 := ⟨fun q => by rw [q]; exact k0, fun q => Int64.toInt_inj.mp (q.trans k0.symm)⟩
  have tz : th = (0 : Int64) ↔ th.toInt = 0 := ⟨fun q => by rw [q]; exact k0, fun q => Int64.toInt_inj.mp (q.trans k0.symm)⟩
  have m1 := c_lmul lh tl
  have m2 := c_lmul ll th
  have m3 := c_lmul ll tl
  have mxy := c_lmul x y
  have r1 := rng64 (lh * tl)
  have r2 := rng64 (ll * th)
  have r3 := rng64 (ll * tl)
  have rxy := rng64 (x * y)
  have core : (lh.toInt = 0 ∨ th.toInt = 0) → (if ((9223372036854775807 : Int64) / y) < x then (-1 : Int64) else (x * y)) = own_ex3 lh ll th tl := by
    intro hz
    have q0 : lh.toInt * th.toInt = 0 := by rcases hz with q | q <;> rw [q] <;> omega
    have q1 : lh.toInt = 0 → lh.toInt * tl.toInt = 0 := fun q => by rw [q]; omega
    have q2 : th.toInt = 0 → ll.toInt * th.toInt = 0 := fun q => by rw [q]; omega
    unfold own_ex3
    generalize lh * tl = v1 at *
    generalize ll * th = v2 at *
    generalize ll * tl = v3 at *
    generalize x * y = vxy at *
    generalize lh.toInt * tl.toInt = P1 at *
    generalize ll.toInt * th.toInt = P2 at *
    generalize ll.toInt * tl.toInt = P3 at *
    generalize lh.toInt * th.toInt = P0 at *
    generalize x.toInt * y.toInt = PXY at *
    have s1 := c_ladd v1 v2
    have rs := rng64 (v1 + v2)
    have es : (v1 + v2).toInt = P1 + P2 := by omega
    have kk : (2147483648 : Int64).toInt = 2147483648 := by decide
    by_cases c1 : (v1 + v2) < (2147483648 : Int64)
    · rw [if_pos c1]
      rw [Int64.lt_iff_toInt_lt, kk, es] at c1
      by_cases c2 : v3 < (0 : Int64)
      · rw [if_pos c2, if_pos (big.mpr (by rw [Int64.lt_iff_toInt_lt, k0] at c2; omega))]
      · rw [if_neg c2]
        rw [Int64.lt_iff_toInt_lt, k0] at c2
        have hs := own_shl (v1 + v2) (by omega) (by omega)
        generalize (v1 + v2) <<< ((32 : Int32) &&& 0x3f).toInt64 = sh at *
        have s2 := c_ladd sh v3
        have rt := rng64 (sh + v3)
        by_cases c3 : (sh + v3) < (0 : Int64)
        · rw [if_pos c3, if_pos (big.mpr (by rw [Int64.lt_iff_toInt_lt, k0] at c3; omega))]
        · rw [if_neg c3, if_neg (fun q => c3 (by rw [Int64.lt_iff_toInt_lt, k0]; have := big.mp q; omega))]
          apply Int64.toInt_inj.mp
          rw [Int64.lt_iff_toInt_lt, k0] at c3
          omega
    · rw [if_neg c1, if_pos (big.mpr (by rw [Int64.lt_iff_toInt_lt, kk, es] at c1; omega))]
  unfold own_ex2
  by_cases c1 : lh = (0 : Int64)
  · rw [if_pos c1]; exact core (Or.inl (lz.mp c1))
  · rw [if_neg c1]
    by_cases c2 : th = (0 : Int64)
    · rw [if_pos c2]; exact core (Or.inr (tz.mp c2))
    · rw [if_neg c2, if_pos (big.mpr ?_)]
      have z1 : lh.toInt ≠ 0 := fun q => c1 (lz.mpr q)
      have z2 : th.toInt ≠ 0 := fun q => c2 (tz.mpr q)
      have z3 : 1 * 1 ≤ lh.toInt * th.toInt := Int.mul_le_mul (by omega) (by omega) (by decide) (by omega)
      omega
set_option maxRecDepth 65536 in
set_option maxHeartbeats 40000000 in
theorem wk1 {p : Program} {l : Launch} {e : Env} {R : Room} {s : State} {m : MethodId} {args : Array Value} {below : List Frame} {meth : Method} {c : Code} {T : State} {locs : List Loc} {cells slots : Nat} {Z : State} {a0 : Array Value} (X : Stand p l e R s m args below meth c T locs cells slots) (hx : p.tables.exec = Jvm.exec) (hZ : Z.Warmed39 s.vm) (hw : ∀ d ∈ tables_1, d.before a0 Z = true) (hby : c.code = method_2_code) (hown : s.vm.findClass "com/example/kingsnake/kingsnake/schema/content/ContentModelMaximumProductPinLaw" = some m.cls) (hret : meth.sig.returnType = some .long) {fs : List Frame} (x0 : Int64) (x1 : Int32) (hr : ∀ (f : JFrame) (acts : List Action), f.method = m → f.locked = none → f.entered = [] → (doReturn e (T.setTop f) acts (some (.long (own_pick x0 x1)))).1 = T.setFrames fs) : Steps p.tables e below (T.setTop (mkF m 0 #[.val (.long x0), .second, .val (.int x1), .unset] [])) (T.setFrames fs) := by
  show Steps p.tables e below (T.setTop (mkF m 0 #[.val (.long x0), .second, .val (.int x1), .unset] [])) _
  refine XS.iloadN X.here hx rfl (hb hby d1_0) rfl ?_
  show Steps p.tables e below (T.setTop (mkF m 1 #[.val (.long x0), .second, .val (.int x1), .unset] [(.int x1)])) _
  refine XS.iconst X.here hx rfl (hb hby d1_1) ?_
  show Steps p.tables e below (T.setTop (mkF m 2 #[.val (.long x0), .second, .val (.int x1), .unset] [(.int (3 : Int32)), (.int x1)])) _
  refine XS.iand X.here hx rfl (hb hby d1_2) rfl ?_
  show Steps p.tables e below (T.setTop (mkF m 3 #[.val (.long x0), .second, .val (.int x1), .unset] [(.int (x1 &&& (3 : Int32)))])) _
  refine XS.istoreN X.here hx rfl (hb hby d1_3) rfl (l' := #[.val (.long x0), .second, .val (.int x1), .val (.int (x1 &&& (3 : Int32)))]) rfl ?_
  show Steps p.tables e below (T.setTop (mkF m 4 #[.val (.long x0), .second, .val (.int x1), .val (.int (x1 &&& (3 : Int32)))] [])) _
  refine XS.iloadN X.here hx rfl (hb hby d1_4) rfl ?_
  show Steps p.tables e below (T.setTop (mkF m 5 #[.val (.long x0), .second, .val (.int x1), .val (.int (x1 &&& (3 : Int32)))] [(.int (x1 &&& (3 : Int32)))])) _
  by_cases hc5 : (x1 &&& (3 : Int32)) = (0 : Int32)
  · refine XS.ifNo X.here hx rfl (hb hby d1_5) rfl ((if0 _ _).trans (teq hc5).2) ?_
    show Steps p.tables e below (T.setTop (mkF m 8 #[.val (.long x0), .second, .val (.int x1), .val (.int (x1 &&& (3 : Int32)))] [])) _
    refine XS.lconst X.here hx rfl (hb hby d1_8) ?_
    show Steps p.tables e below (T.setTop (mkF m 9 #[.val (.long x0), .second, .val (.int x1), .val (.int (x1 &&& (3 : Int32)))] [(.long (0 : Int64))])) _
    have hv : (own_pick x0 x1) = (0 : Int64) := by first | (rw [own_pick, if_pos hc5]; done) | simp only [own_pick, hc5, ↓reduceIte, eq_self]
    rw [hv] at hr
    exact X.lreturnOut hx hret (hb hby d1_9) hr
  · refine XS.ifYes X.here hx rfl (pc0 := 5) (pc' := 10) rfl (hb hby d1_5) rfl ((if0 _ _).trans (feq hc5).2) (by decide) (by decide) ?_
    show Steps p.tables e below (T.setTop (mkF m 10 #[.val (.long x0), .second, .val (.int x1), .val (.int (x1 &&& (3 : Int32)))] [])) _
    refine XS.iloadN X.here hx rfl (hb hby d1_10) rfl ?_
    show Steps p.tables e below (T.setTop (mkF m 11 #[.val (.long x0), .second, .val (.int x1), .val (.int (x1 &&& (3 : Int32)))] [(.int (x1 &&& (3 : Int32)))])) _
    refine XS.iconst X.here hx rfl (hb hby d1_11) ?_
    show Steps p.tables e below (T.setTop (mkF m 12 #[.val (.long x0), .second, .val (.int x1), .val (.int (x1 &&& (3 : Int32)))] [(.int (1 : Int32)), (.int (x1 &&& (3 : Int32)))])) _
    by_cases hc12 : (x1 &&& (3 : Int32)) = (1 : Int32)
    · refine XS.icmpNo X.here hx rfl (hb hby d1_12) rfl (teq hc12).2 ?_
      show Steps p.tables e below (T.setTop (mkF m 15 #[.val (.long x0), .second, .val (.int x1), .val (.int (x1 &&& (3 : Int32)))] [])) _
      refine X.ldc2Long hx hown (mvT hZ (hw _ (List.mem_of_getElem? (i := 9) rfl))) (g := (mkF m 15 #[.val (.long x0), .second, .val (.int x1), .val (.int (x1 &&& (3 : Int32)))] [])) rfl (hb hby d1_15) _ ?_
      show Steps p.tables e below (T.setTop (mkF m 18 #[.val (.long x0), .second, .val (.int x1), .val (.int (x1 &&& (3 : Int32)))] [(.long (-1 : Int64))])) _
      have hv : (own_pick x0 x1) = (-1 : Int64) := by first | (rw [own_pick, if_neg hc5, if_pos hc12]; done) | simp only [own_pick, hc5, hc12, ↓reduceIte, eq_self]
      rw [hv] at hr
      exact X.lreturnOut hx hret (hb hby d1_18) hr
    · refine XS.icmpYes X.here hx rfl (pc0 := 12) (pc' := 19) rfl (hb hby d1_12) rfl (feq hc12).2 (by decide) (by decide) ?_
      show Steps p.tables e below (T.setTop (mkF m 19 #[.val (.long x0), .second, .val (.int x1), .val (.int (x1 &&& (3 : Int32)))] [])) _
      refine XS.lloadN X.here hx rfl (hb hby d1_19) rfl ?_
      show Steps p.tables e below (T.setTop (mkF m 20 #[.val (.long x0), .second, .val (.int x1), .val (.int (x1 &&& (3 : Int32)))] [(.long x0)])) _
      refine X.ldc2Long hx hown (mvT hZ (hw _ (List.mem_of_getElem? (i := 8) rfl))) (g := (mkF m 20 #[.val (.long x0), .second, .val (.int x1), .val (.int (x1 &&& (3 : Int32)))] [(.long x0)])) rfl (hb hby d1_20) _ ?_
      show Steps p.tables e below (T.setTop (mkF m 23 #[.val (.long x0), .second, .val (.int x1), .val (.int (x1 &&& (3 : Int32)))] [(.long (9223372036854775807 : Int64)), (.long x0)])) _
      refine XS.land X.here hx rfl (hb hby d1_23) rfl ?_
      show Steps p.tables e below (T.setTop (mkF m 24 #[.val (.long x0), .second, .val (.int x1), .val (.int (x1 &&& (3 : Int32)))] [(.long (x0 &&& (9223372036854775807 : Int64)))])) _
      have hv : (own_pick x0 x1) = (x0 &&& (9223372036854775807 : Int64)) := by first | (rw [own_pick, if_neg hc5, if_neg hc12]; done) | simp only [own_pick, hc5, hc12, ↓reduceIte, eq_self]
      rw [hv] at hr
      exact X.lreturnOut hx hret (hb hby d1_24) hr
def Q1 (x0 : Int64) (x1 : Int32) (h0 : Heap) (n0 : Nat) (v : Option Value) (h : Heap) (L : List Loc) : Prop := v = some (.long (own_pick x0 x1)) ∧ Fr n0 L ∧ h = h0
set_option maxRecDepth 65536 in
set_option maxHeartbeats 40000000 in
theorem rm1 (l : Launch) (Z : State) (a0 : Array Value) (hw : ∀ d ∈ tables_1, d.before a0 Z = true) (ws : List Jvm.Cond) (x0 : Int64) (x1 : Int32) (h0 : Heap) (n0 : Nat) (Z0 : n0 ≤ h0.size)  :
    MetFree l (⟨"com/example/kingsnake/kingsnake/schema/content/ContentModelMaximumProductPinLaw", "pick", "(JI)J"⟩ : MethodName) (head1 (Jvm.Cond.code (⟨"com/example/kingsnake/kingsnake/schema/content/ContentModelMaximumProductPinLaw", "pick", "(JI)J"⟩ : MethodName) method_2_code 4 (some .long) :: ws) ({ frames := 0, cells := 0, slots := 0, locals := 0 } : Room)) (fun as_ U => as_ = #[(.long x0), (.int x1)] ∧ Z.Warmed39 U.vm ∧ U.heap = h0) (fun _ _ _ _ _ => True) (fun _ U o U' => ∃ v L, o = .returned v ∧ Q1 x0 x1 h0 n0 v U'.heap L ∧ FrameEnd U o U' L ({ frames := 0, cells := 0, slots := 0, locals := 0 } : Room).cells ({ frames := 0, cells := 0, slots := 0, locals := 0 } : Room).slots) := by
  refine MetFree.of_bodySF (plainFor_of_name pn_1) hisR ?_
  intro p e s m args below meth c s₁ Bd hml0 hP hK
  obtain ⟨rfl, hZ, hh⟩ := hP
  have hx := Bd.exec
  have hby := Bd.bytes
  have hml : c.maxLocals = 4 := hml0
  have hown : s.vm.findClass "com/example/kingsnake/kingsnake/schema/content/ContentModelMaximumProductPinLaw" = some m.cls := findClass_of_methodNamed Bd.named
  have hnm := (name_of_methodNamed Bd.named Bd.method).1
  have X0 : Stand p l e ({ frames := 0, cells := 0, slots := 0, locals := 0 } : Room) s m #[(.long x0), (.int x1)] below meth c s₁ [] 0 0 := Stand.of_body Bd
  have e0 : s₁.heap = h0 := by rw [← hh, Bd.state]; rfl
  have N0 := Fr.nil n0
  have pre0 : ∀ t, Steps p.tables e below (s₁.setTop (mkF m 0 #[.val (.long x0), .second, .val (.int x1), .unset] [])) t → Steps p.tables e below (s₁.setTop (entryFrame m #[(.long x0), (.int x1)] 4)) t := fun t k => castTop (ef_1 m x0 x1) k
  obtain ⟨fs, hr, hrun, hended, hW, hsame⟩ := X0.leave (v := some (.long (own_pick x0 x1))) (fun h => by rw [Bd.returns] at h; cases h)
  refine ⟨_, _, pre0 _ ?_, hrun, hended, _, _, rfl, ?_, ⟨_, rfl⟩, hW, hsame.mono (by decide) (by decide)⟩
  · exact wk1 X0 hx hZ hw hby hown Bd.returns x0 x1 hr
  · show Q1 x0 x1 h0 n0 _ s₁.heap _
    rw [e0]
    exact ⟨rfl, N0, rfl⟩
set_option maxRecDepth 65536 in
set_option maxHeartbeats 40000000 in
theorem wk2 {p : Program} {l : Launch} {e : Env} {R : Room} {s : State} {m : MethodId} {args : Array Value} {below : List Frame} {meth : Method} {c : Code} {T : State} {locs : List Loc} {cells slots : Nat} {Z : State} {a0 : Array Value} (X : Stand p l e R s m args below meth c T locs cells slots) (hx : p.tables.exec = Jvm.exec) (hZ : Z.Warmed39 s.vm) (hw : ∀ d ∈ tables_1, d.before a0 Z = true) (hby : c.code = prog_188_method_44_code) (hown : s.vm.findClass "com/example/kingsnake/kingsnake/schema/content/ContentModel" = some m.cls) (hret : meth.sig.returnType = some .long) {fs : List Frame} (x0 x1 : Int64) (hr : ∀ (f : JFrame) (acts : List Action), f.method = m → f.locked = none → f.entered = [] → (doReturn e (T.setTop f) acts (some (.long (own_mp x0 x1)))).1 = T.setFrames fs) : Steps p.tables e below (T.setTop (mkF m 0 #[.val (.long x0), .second, .val (.long x1), .second, .unset, .unset] [])) (T.setFrames fs) := by
  show Steps p.tables e below (T.setTop (mkF m 0 #[.val (.long x0), .second, .val (.long x1), .second, .unset, .unset] [])) _
  refine XS.lloadN X.here hx rfl (hb hby d2_0) rfl ?_
  show Steps p.tables e below (T.setTop (mkF m 1 #[.val (.long x0), .second, .val (.long x1), .second, .unset, .unset] [(.long x0)])) _
  refine XS.lconst X.here hx rfl (hb hby d2_1) ?_
  show Steps p.tables e below (T.setTop (mkF m 2 #[.val (.long x0), .second, .val (.long x1), .second, .unset, .unset] [(.long (0 : Int64)), (.long x0)])) _
  refine XS.lcmp X.here hx rfl (hb hby d2_2) rfl ?_
  show Steps p.tables e below (T.setTop (mkF m 3 #[.val (.long x0), .second, .val (.long x1), .second, .unset, .unset] [(.int (lcmpW x0 (0 : Int64)))])) _
  by_cases hc3 : x0 = (0 : Int64)
  · refine XS.ifYes X.here hx rfl (pc0 := 3) (pc' := 12) rfl (hb hby d2_3) rfl (own_eq_t hc3).1 (by decide) (by decide) ?_
    show Steps p.tables e below (T.setTop (mkF m 12 #[.val (.long x0), .second, .val (.long x1), .second, .unset, .unset] [])) _
    refine XS.lconst X.here hx rfl (hb hby d2_12) ?_
    show Steps p.tables e below (T.setTop (mkF m 13 #[.val (.long x0), .second, .val (.long x1), .second, .unset, .unset] [(.long (0 : Int64))])) _
    refine XS.lstore X.here hx rfl (hb hby d2_13) rfl (l' := #[.val (.long x0), .second, .val (.long x1), .second, .val (.long (0 : Int64)), .second]) rfl ?_
    show Steps p.tables e below (T.setTop (mkF m 15 #[.val (.long x0), .second, .val (.long x1), .second, .val (.long (0 : Int64)), .second] [])) _
    refine XS.goto X.here hx rfl (pc0 := 15) (pc' := 57) rfl (hb hby d2_15) (by decide) (by decide) ?_
    show Steps p.tables e below (T.setTop (mkF m 57 #[.val (.long x0), .second, .val (.long x1), .second, .val (.long (0 : Int64)), .second] [])) _
    refine XS.lload X.here hx rfl (hb hby d2_57) rfl ?_
    show Steps p.tables e below (T.setTop (mkF m 59 #[.val (.long x0), .second, .val (.long x1), .second, .val (.long (0 : Int64)), .second] [(.long (0 : Int64))])) _
    have hv : (own_mp x0 x1) = (0 : Int64) := by first | (rw [own_mp, if_pos hc3]; done) | simp only [own_mp, hc3, ↓reduceIte, eq_self]
    rw [hv] at hr
    exact X.lreturnOut hx hret (hb hby d2_59) hr
  · refine XS.ifNo X.here hx rfl (hb hby d2_3) rfl (own_eq_f hc3).1 ?_
    show Steps p.tables e below (T.setTop (mkF m 6 #[.val (.long x0), .second, .val (.long x1), .second, .unset, .unset] [])) _
    refine XS.lloadN X.here hx rfl (hb hby d2_6) rfl ?_
    show Steps p.tables e below (T.setTop (mkF m 7 #[.val (.long x0), .second, .val (.long x1), .second, .unset, .unset] [(.long x1)])) _
    refine XS.lconst X.here hx rfl (hb hby d2_7) ?_
    show Steps p.tables e below (T.setTop (mkF m 8 #[.val (.long x0), .second, .val (.long x1), .second, .unset, .unset] [(.long (0 : Int64)), (.long x1)])) _
    refine XS.lcmp X.here hx rfl (hb hby d2_8) rfl ?_
    show Steps p.tables e below (T.setTop (mkF m 9 #[.val (.long x0), .second, .val (.long x1), .second, .unset, .unset] [(.int (lcmpW x1 (0 : Int64)))])) _
    by_cases hc9 : x1 = (0 : Int64)
    · refine XS.ifNo X.here hx rfl (hb hby d2_9) rfl (own_eq_t hc9).2 ?_
      show Steps p.tables e below (T.setTop (mkF m 12 #[.val (.long x0), .second, .val (.long x1), .second, .unset, .unset] [])) _
      refine XS.lconst X.here hx rfl (hb hby d2_12) ?_
      show Steps p.tables e below (T.setTop (mkF m 13 #[.val (.long x0), .second, .val (.long x1), .second, .unset, .unset] [(.long (0 : Int64))])) _
      refine XS.lstore X.here hx rfl (hb hby d2_13) rfl (l' := #[.val (.long x0), .second, .val (.long x1), .second, .val (.long (0 : Int64)), .second]) rfl ?_
      show Steps p.tables e below (T.setTop (mkF m 15 #[.val (.long x0), .second, .val (.long x1), .second, .val (.long (0 : Int64)), .second] [])) _
      refine XS.goto X.here hx rfl (pc0 := 15) (pc' := 57) rfl (hb hby d2_15) (by decide) (by decide) ?_
      show Steps p.tables e below (T.setTop (mkF m 57 #[.val (.long x0), .second, .val (.long x1), .second, .val (.long (0 : Int64)), .second] [])) _
      refine XS.lload X.here hx rfl (hb hby d2_57) rfl ?_
      show Steps p.tables e below (T.setTop (mkF m 59 #[.val (.long x0), .second, .val (.long x1), .second, .val (.long (0 : Int64)), .second] [(.long (0 : Int64))])) _
      have hv : (own_mp x0 x1) = (0 : Int64) := by first | (rw [own_mp, if_neg hc3, if_pos hc9]; done) | simp only [own_mp, hc3, hc9, ↓reduceIte, eq_self]
      rw [hv] at hr
      exact X.lreturnOut hx hret (hb hby d2_59) hr
    · refine XS.ifYes X.here hx rfl (pc0 := 9) (pc' := 18) rfl (hb hby d2_9) rfl (own_eq_f hc9).2 (by decide) (by decide) ?_
      show Steps p.tables e below (T.setTop (mkF m 18 #[.val (.long x0), .second, .val (.long x1), .second, .unset, .unset] [])) _
      refine XS.lloadN X.here hx rfl (hb hby d2_18) rfl ?_
      show Steps p.tables e below (T.setTop (mkF m 19 #[.val (.long x0), .second, .val (.long x1), .second, .unset, .unset] [(.long x0)])) _
      refine X.ldc2Long hx hown (mvT hZ (hw _ (List.mem_of_getElem? (i := 10) rfl))) (g := (mkF m 19 #[.val (.long x0), .second, .val (.long x1), .second, .unset, .unset] [(.long x0)])) rfl (hb hby d2_19) _ ?_
      show Steps p.tables e below (T.setTop (mkF m 22 #[.val (.long x0), .second, .val (.long x1), .second, .unset, .unset] [(.long (-1 : Int64)), (.long x0)])) _
      refine XS.lcmp X.here hx rfl (hb hby d2_22) rfl ?_
      show Steps p.tables e below (T.setTop (mkF m 23 #[.val (.long x0), .second, .val (.long x1), .second, .unset, .unset] [(.int (lcmpW x0 (-1 : Int64)))])) _
      by_cases hc23 : x0 = (-1 : Int64)
      · refine XS.ifYes X.here hx rfl (pc0 := 23) (pc' := 44) rfl (hb hby d2_23) rfl (own_eq_t hc23).1 (by decide) (by decide) ?_
        show Steps p.tables e below (T.setTop (mkF m 44 #[.val (.long x0), .second, .val (.long x1), .second, .unset, .unset] [])) _
        refine X.ldc2Long hx hown (mvT hZ (hw _ (List.mem_of_getElem? (i := 10) rfl))) (g := (mkF m 44 #[.val (.long x0), .second, .val (.long x1), .second, .unset, .unset] [])) rfl (hb hby d2_44) _ ?_
        show Steps p.tables e below (T.setTop (mkF m 47 #[.val (.long x0), .second, .val (.long x1), .second, .unset, .unset] [(.long (-1 : Int64))])) _
        refine XS.lstore X.here hx rfl (hb hby d2_47) rfl (l' := #[.val (.long x0), .second, .val (.long x1), .second, .val (.long (-1 : Int64)), .second]) rfl ?_
        show Steps p.tables e below (T.setTop (mkF m 49 #[.val (.long x0), .second, .val (.long x1), .second, .val (.long (-1 : Int64)), .second] [])) _
        refine XS.goto X.here hx rfl (pc0 := 49) (pc' := 57) rfl (hb hby d2_49) (by decide) (by decide) ?_
        show Steps p.tables e below (T.setTop (mkF m 57 #[.val (.long x0), .second, .val (.long x1), .second, .val (.long (-1 : Int64)), .second] [])) _
        refine XS.lload X.here hx rfl (hb hby d2_57) rfl ?_
        show Steps p.tables e below (T.setTop (mkF m 59 #[.val (.long x0), .second, .val (.long x1), .second, .val (.long (-1 : Int64)), .second] [(.long (-1 : Int64))])) _
        have hv : (own_mp x0 x1) = (-1 : Int64) := by first | (rw [own_mp, if_neg hc3, if_neg hc9, if_pos hc23]; done) | simp only [own_mp, hc3, hc9, hc23, ↓reduceIte, eq_self]
        rw [hv] at hr
        exact X.lreturnOut hx hret (hb hby d2_59) hr
      · refine XS.ifNo X.here hx rfl (hb hby d2_23) rfl (own_eq_f hc23).1 ?_
        show Steps p.tables e below (T.setTop (mkF m 26 #[.val (.long x0), .second, .val (.long x1), .second, .unset, .unset] [])) _
        refine XS.lloadN X.here hx rfl (hb hby d2_26) rfl ?_
        show Steps p.tables e below (T.setTop (mkF m 27 #[.val (.long x0), .second, .val (.long x1), .second, .unset, .unset] [(.long x1)])) _
        refine X.ldc2Long hx hown (mvT hZ (hw _ (List.mem_of_getElem? (i := 10) rfl))) (g := (mkF m 27 #[.val (.long x0), .second, .val (.long x1), .second, .unset, .unset] [(.long x1)])) rfl (hb hby d2_27) _ ?_
        show Steps p.tables e below (T.setTop (mkF m 30 #[.val (.long x0), .second, .val (.long x1), .second, .unset, .unset] [(.long (-1 : Int64)), (.long x1)])) _
        refine XS.lcmp X.here hx rfl (hb hby d2_30) rfl ?_
        show Steps p.tables e below (T.setTop (mkF m 31 #[.val (.long x0), .second, .val (.long x1), .second, .unset, .unset] [(.int (lcmpW x1 (-1 : Int64)))])) _
        by_cases hc31 : x1 = (-1 : Int64)
        · refine XS.ifYes X.here hx rfl (pc0 := 31) (pc' := 44) rfl (hb hby d2_31) rfl (own_eq_t hc31).1 (by decide) (by decide) ?_
          show Steps p.tables e below (T.setTop (mkF m 44 #[.val (.long x0), .second, .val (.long x1), .second, .unset, .unset] [])) _
          refine X.ldc2Long hx hown (mvT hZ (hw _ (List.mem_of_getElem? (i := 10) rfl))) (g := (mkF m 44 #[.val (.long x0), .second, .val (.long x1), .second, .unset, .unset] [])) rfl (hb hby d2_44) _ ?_
          show Steps p.tables e below (T.setTop (mkF m 47 #[.val (.long x0), .second, .val (.long x1), .second, .unset, .unset] [(.long (-1 : Int64))])) _
          refine XS.lstore X.here hx rfl (hb hby d2_47) rfl (l' := #[.val (.long x0), .second, .val (.long x1), .second, .val (.long (-1 : Int64)), .second]) rfl ?_
          show Steps p.tables e below (T.setTop (mkF m 49 #[.val (.long x0), .second, .val (.long x1), .second, .val (.long (-1 : Int64)), .second] [])) _
          refine XS.goto X.here hx rfl (pc0 := 49) (pc' := 57) rfl (hb hby d2_49) (by decide) (by decide) ?_
          show Steps p.tables e below (T.setTop (mkF m 57 #[.val (.long x0), .second, .val (.long x1), .second, .val (.long (-1 : Int64)), .second] [])) _
          refine XS.lload X.here hx rfl (hb hby d2_57) rfl ?_
          show Steps p.tables e below (T.setTop (mkF m 59 #[.val (.long x0), .second, .val (.long x1), .second, .val (.long (-1 : Int64)), .second] [(.long (-1 : Int64))])) _
          have hv : (own_mp x0 x1) = (-1 : Int64) := by first | (rw [own_mp, if_neg hc3, if_neg hc9, if_neg hc23, if_pos hc31]; done) | simp only [own_mp, hc3, hc9, hc23, hc31, ↓reduceIte, eq_self]
          rw [hv] at hr
          exact X.lreturnOut hx hret (hb hby d2_59) hr
        · refine XS.ifNo X.here hx rfl (hb hby d2_31) rfl (own_eq_f hc31).1 ?_
          show Steps p.tables e below (T.setTop (mkF m 34 #[.val (.long x0), .second, .val (.long x1), .second, .unset, .unset] [])) _
          refine XS.lloadN X.here hx rfl (hb hby d2_34) rfl ?_
          show Steps p.tables e below (T.setTop (mkF m 35 #[.val (.long x0), .second, .val (.long x1), .second, .unset, .unset] [(.long x0)])) _
          refine X.ldc2Long hx hown (mvT hZ (hw _ (List.mem_of_getElem? (i := 15) rfl))) (g := (mkF m 35 #[.val (.long x0), .second, .val (.long x1), .second, .unset, .unset] [(.long x0)])) rfl (hb hby d2_35) _ ?_
          show Steps p.tables e below (T.setTop (mkF m 38 #[.val (.long x0), .second, .val (.long x1), .second, .unset, .unset] [(.long (9223372036854775807 : Int64)), (.long x0)])) _
          refine XS.lloadN X.here hx rfl (hb hby d2_38) rfl ?_
          show Steps p.tables e below (T.setTop (mkF m 39 #[.val (.long x0), .second, .val (.long x1), .second, .unset, .unset] [(.long x1), (.long (9223372036854775807 : Int64)), (.long x0)])) _
          refine XS.ldiv X.here hx rfl (hb hby d2_39) rfl hc9 ?_
          show Steps p.tables e below (T.setTop (mkF m 40 #[.val (.long x0), .second, .val (.long x1), .second, .unset, .unset] [(.long ((9223372036854775807 : Int64) / x1)), (.long x0)])) _
          refine XS.lcmp X.here hx rfl (hb hby d2_40) rfl ?_
          show Steps p.tables e below (T.setTop (mkF m 41 #[.val (.long x0), .second, .val (.long x1), .second, .unset, .unset] [(.int (lcmpW x0 ((9223372036854775807 : Int64) / x1)))])) _
          by_cases hc41 : ((9223372036854775807 : Int64) / x1) < x0
          · refine XS.ifNo X.here hx rfl (hb hby d2_41) rfl (own_gt_t hc41).2 ?_
            show Steps p.tables e below (T.setTop (mkF m 44 #[.val (.long x0), .second, .val (.long x1), .second, .unset, .unset] [])) _
            refine X.ldc2Long hx hown (mvT hZ (hw _ (List.mem_of_getElem? (i := 10) rfl))) (g := (mkF m 44 #[.val (.long x0), .second, .val (.long x1), .second, .unset, .unset] [])) rfl (hb hby d2_44) _ ?_
            show Steps p.tables e below (T.setTop (mkF m 47 #[.val (.long x0), .second, .val (.long x1), .second, .unset, .unset] [(.long (-1 : Int64))])) _
            refine XS.lstore X.here hx rfl (hb hby d2_47) rfl (l' := #[.val (.long x0), .second, .val (.long x1), .second, .val (.long (-1 : Int64)), .second]) rfl ?_
            show Steps p.tables e below (T.setTop (mkF m 49 #[.val (.long x0), .second, .val (.long x1), .second, .val (.long (-1 : Int64)), .second] [])) _
            refine XS.goto X.here hx rfl (pc0 := 49) (pc' := 57) rfl (hb hby d2_49) (by decide) (by decide) ?_
            show Steps p.tables e below (T.setTop (mkF m 57 #[.val (.long x0), .second, .val (.long x1), .second, .val (.long (-1 : Int64)), .second] [])) _
            refine XS.lload X.here hx rfl (hb hby d2_57) rfl ?_
            show Steps p.tables e below (T.setTop (mkF m 59 #[.val (.long x0), .second, .val (.long x1), .second, .val (.long (-1 : Int64)), .second] [(.long (-1 : Int64))])) _
            have hv : (own_mp x0 x1) = (-1 : Int64) := by first | (rw [own_mp, if_neg hc3, if_neg hc9, if_neg hc23, if_neg hc31, if_pos hc41]; done) | simp only [own_mp, hc3, hc9, hc23, hc31, hc41, ↓reduceIte, eq_self]
            rw [hv] at hr
            exact X.lreturnOut hx hret (hb hby d2_59) hr
          · refine XS.ifYes X.here hx rfl (pc0 := 41) (pc' := 52) rfl (hb hby d2_41) rfl (own_gt_f hc41).2 (by decide) (by decide) ?_
            show Steps p.tables e below (T.setTop (mkF m 52 #[.val (.long x0), .second, .val (.long x1), .second, .unset, .unset] [])) _
            refine XS.lloadN X.here hx rfl (hb hby d2_52) rfl ?_
            show Steps p.tables e below (T.setTop (mkF m 53 #[.val (.long x0), .second, .val (.long x1), .second, .unset, .unset] [(.long x0)])) _
            refine XS.lloadN X.here hx rfl (hb hby d2_53) rfl ?_
            show Steps p.tables e below (T.setTop (mkF m 54 #[.val (.long x0), .second, .val (.long x1), .second, .unset, .unset] [(.long x1), (.long x0)])) _
            refine XS.lmul X.here hx rfl (hb hby d2_54) rfl ?_
            show Steps p.tables e below (T.setTop (mkF m 55 #[.val (.long x0), .second, .val (.long x1), .second, .unset, .unset] [(.long (x0 * x1))])) _
            refine XS.lstore X.here hx rfl (hb hby d2_55) rfl (l' := #[.val (.long x0), .second, .val (.long x1), .second, .val (.long (x0 * x1)), .second]) rfl ?_
            show Steps p.tables e below (T.setTop (mkF m 57 #[.val (.long x0), .second, .val (.long x1), .second, .val (.long (x0 * x1)), .second] [])) _
            refine XS.lload X.here hx rfl (hb hby d2_57) rfl ?_
            show Steps p.tables e below (T.setTop (mkF m 59 #[.val (.long x0), .second, .val (.long x1), .second, .val (.long (x0 * x1)), .second] [(.long (x0 * x1))])) _
            have hv : (own_mp x0 x1) = (x0 * x1) := by first | (rw [own_mp, if_neg hc3, if_neg hc9, if_neg hc23, if_neg hc31, if_neg hc41]; done) | simp only [own_mp, hc3, hc9, hc23, hc31, hc41, ↓reduceIte, eq_self]
            rw [hv] at hr
            exact X.lreturnOut hx hret (hb hby d2_59) hr
def Q2 (x0 : Int64) (x1 : Int64) (h0 : Heap) (n0 : Nat) (v : Option Value) (h : Heap) (L : List Loc) : Prop := v = some (.long (own_mp x0 x1)) ∧ Fr n0 L ∧ h = h0
set_option maxRecDepth 65536 in
set_option maxHeartbeats 40000000 in
theorem rm2 (l : Launch) (Z : State) (a0 : Array Value) (hw : ∀ d ∈ tables_1, d.before a0 Z = true) (ws : List Jvm.Cond) (x0 : Int64) (x1 : Int64) (h0 : Heap) (n0 : Nat) (Z0 : n0 ≤ h0.size)  :
    MetFree l (⟨"com/example/kingsnake/kingsnake/schema/content/ContentModel", "maximumProduct", "(JJ)J"⟩ : MethodName) (head1 (Jvm.Cond.code (⟨"com/example/kingsnake/kingsnake/schema/content/ContentModel", "maximumProduct", "(JJ)J"⟩ : MethodName) prog_188_method_44_code 6 (some .long) :: ws) ({ frames := 0, cells := 0, slots := 0, locals := 0 } : Room)) (fun as_ U => as_ = #[(.long x0), (.long x1)] ∧ Z.Warmed39 U.vm ∧ U.heap = h0) (fun _ _ _ _ _ => True) (fun _ U o U' => ∃ v L, o = .returned v ∧ Q2 x0 x1 h0 n0 v U'.heap L ∧ FrameEnd U o U' L ({ frames := 0, cells := 0, slots := 0, locals := 0 } : Room).cells ({ frames := 0, cells := 0, slots := 0, locals := 0 } : Room).slots) := by
  refine MetFree.of_bodySF (plainFor_of_name pn_2) hisR ?_
  intro p e s m args below meth c s₁ Bd hml0 hP hK
  obtain ⟨rfl, hZ, hh⟩ := hP
  have hx := Bd.exec
  have hby := Bd.bytes
  have hml : c.maxLocals = 6 := hml0
  have hown : s.vm.findClass "com/example/kingsnake/kingsnake/schema/content/ContentModel" = some m.cls := findClass_of_methodNamed Bd.named
  have hnm := (name_of_methodNamed Bd.named Bd.method).1
  have X0 : Stand p l e ({ frames := 0, cells := 0, slots := 0, locals := 0 } : Room) s m #[(.long x0), (.long x1)] below meth c s₁ [] 0 0 := Stand.of_body Bd
  have e0 : s₁.heap = h0 := by rw [← hh, Bd.state]; rfl
  have N0 := Fr.nil n0
  have pre0 : ∀ t, Steps p.tables e below (s₁.setTop (mkF m 0 #[.val (.long x0), .second, .val (.long x1), .second, .unset, .unset] [])) t → Steps p.tables e below (s₁.setTop (entryFrame m #[(.long x0), (.long x1)] 6)) t := fun t k => castTop (ef_2 m x0 x1) k
  obtain ⟨fs, hr, hrun, hended, hW, hsame⟩ := X0.leave (v := some (.long (own_mp x0 x1))) (fun h => by rw [Bd.returns] at h; cases h)
  refine ⟨_, _, pre0 _ ?_, hrun, hended, _, _, rfl, ?_, ⟨_, rfl⟩, hW, hsame.mono (by decide) (by decide)⟩
  · exact wk2 X0 hx hZ hw hby hown Bd.returns x0 x1 hr
  · show Q2 x0 x1 h0 n0 _ s₁.heap _
    rw [e0]
    exact ⟨rfl, N0, rfl⟩
set_option maxRecDepth 65536 in
set_option maxHeartbeats 40000000 in
theorem wk3_44 {p : Program} {l : Launch} {e : Env} {R : Room} {s : State} {m : MethodId} {args : Array Value} {below : List Frame} {meth : Method} {c : Code} {T : State} {locs : List Loc} {cells slots : Nat} {Z : State} {a0 : Array Value} (X : Stand p l e R s m args below meth c T locs cells slots) (hx : p.tables.exec = Jvm.exec) (hZ : Z.Warmed39 s.vm) (hw : ∀ d ∈ tables_1, d.before a0 Z = true) (hby : c.code = method_3_code) (hown : s.vm.findClass "com/example/kingsnake/kingsnake/schema/content/ContentModelMaximumProductPinLaw" = some m.cls) (hret : meth.sig.returnType = some .long) {fs : List Frame} (x0 x1 lh ll th tl : Int64) (hr : ∀ (f : JFrame) (acts : List Action), f.method = m → f.locked = none → f.entered = [] → (doReturn e (T.setTop f) acts (some (.long (own_ex3 lh ll th tl)))).1 = T.setFrames fs) : Steps p.tables e below (T.setTop (mkF m 44 #[.val (.long x0), .second, .val (.long x1), .second, .val (.long lh), .second, .val (.long ll), .second, .val (.long th), .second, .val (.long tl), .second, .unset, .unset, .unset, .unset, .unset, .unset] [])) (T.setFrames fs) := by
  show Steps p.tables e below (T.setTop (mkF m 44 #[.val (.long x0), .second, .val (.long x1), .second, .val (.long lh), .second, .val (.long ll), .second, .val (.long th), .second, .val (.long tl), .second, .unset, .unset, .unset, .unset, .unset, .unset] [])) _
  refine XS.lload X.here hx rfl (hb hby d3_44) rfl ?_
  show Steps p.tables e below (T.setTop (mkF m 46 #[.val (.long x0), .second, .val (.long x1), .second, .val (.long lh), .second, .val (.long ll), .second, .val (.long th), .second, .val (.long tl), .second, .unset, .unset, .unset, .unset, .unset, .unset] [(.long lh)])) _
  refine XS.lload X.here hx rfl (hb hby d3_46) rfl ?_
  show Steps p.tables e below (T.setTop (mkF m 48 #[.val (.long x0), .second, .val (.long x1), .second, .val (.long lh), .second, .val (.long ll), .second, .val (.long th), .second, .val (.long tl), .second, .unset, .unset, .unset, .unset, .unset, .unset] [(.long tl), (.long lh)])) _
  refine XS.lmul X.here hx rfl (hb hby d3_48) rfl ?_
  show Steps p.tables e below (T.setTop (mkF m 49 #[.val (.long x0), .second, .val (.long x1), .second, .val (.long lh), .second, .val (.long ll), .second, .val (.long th), .second, .val (.long tl), .second, .unset, .unset, .unset, .unset, .unset, .unset] [(.long (lh * tl))])) _
  refine XS.lload X.here hx rfl (hb hby d3_49) rfl ?_
  show Steps p.tables e below (T.setTop (mkF m 51 #[.val (.long x0), .second, .val (.long x1), .second, .val (.long lh), .second, .val (.long ll), .second, .val (.long th), .second, .val (.long tl), .second, .unset, .unset, .unset, .unset, .unset, .unset] [(.long ll), (.long (lh * tl))])) _
  refine XS.lload X.here hx rfl (hb hby d3_51) rfl ?_
  show Steps p.tables e below (T.setTop (mkF m 53 #[.val (.long x0), .second, .val (.long x1), .second, .val (.long lh), .second, .val (.long ll), .second, .val (.long th), .second, .val (.long tl), .second, .unset, .unset, .unset, .unset, .unset, .unset] [(.long th), (.long ll), (.long (lh * tl))])) _
  refine XS.lmul X.here hx rfl (hb hby d3_53) rfl ?_
  show Steps p.tables e below (T.setTop (mkF m 54 #[.val (.long x0), .second, .val (.long x1), .second, .val (.long lh), .second, .val (.long ll), .second, .val (.long th), .second, .val (.long tl), .second, .unset, .unset, .unset, .unset, .unset, .unset] [(.long (ll * th)), (.long (lh * tl))])) _
  refine XS.ladd X.here hx rfl (hb hby d3_54) rfl ?_
  show Steps p.tables e below (T.setTop (mkF m 55 #[.val (.long x0), .second, .val (.long x1), .second, .val (.long lh), .second, .val (.long ll), .second, .val (.long th), .second, .val (.long tl), .second, .unset, .unset, .unset, .unset, .unset, .unset] [(.long ((lh * tl) + (ll * th)))])) _
  refine XS.lstore X.here hx rfl (hb hby d3_55) rfl (l' := #[.val (.long x0), .second, .val (.long x1), .second, .val (.long lh), .second, .val (.long ll), .second, .val (.long th), .second, .val (.long tl), .second, .val (.long ((lh * tl) + (ll * th))), .second, .unset, .unset, .unset, .unset]) rfl ?_
  show Steps p.tables e below (T.setTop (mkF m 57 #[.val (.long x0), .second, .val (.long x1), .second, .val (.long lh), .second, .val (.long ll), .second, .val (.long th), .second, .val (.long tl), .second, .val (.long ((lh * tl) + (ll * th))), .second, .unset, .unset, .unset, .unset] [])) _
  refine XS.lload X.here hx rfl (hb hby d3_57) rfl ?_
  show Steps p.tables e below (T.setTop (mkF m 59 #[.val (.long x0), .second, .val (.long x1), .second, .val (.long lh), .second, .val (.long ll), .second, .val (.long th), .second, .val (.long tl), .second, .val (.long ((lh * tl) + (ll * th))), .second, .unset, .unset, .unset, .unset] [(.long ((lh * tl) + (ll * th)))])) _
  refine X.ldc2Long hx hown (mvT hZ (hw _ (List.mem_of_getElem? (i := 16) rfl))) (g := (mkF m 59 #[.val (.long x0), .second, .val (.long x1), .second, .val (.long lh), .second, .val (.long ll), .second, .val (.long th), .second, .val (.long tl), .second, .val (.long ((lh * tl) + (ll * th))), .second, .unset, .unset, .unset, .unset] [(.long ((lh * tl) + (ll * th)))])) rfl (hb hby d3_59) _ ?_
  show Steps p.tables e below (T.setTop (mkF m 62 #[.val (.long x0), .second, .val (.long x1), .second, .val (.long lh), .second, .val (.long ll), .second, .val (.long th), .second, .val (.long tl), .second, .val (.long ((lh * tl) + (ll * th))), .second, .unset, .unset, .unset, .unset] [(.long (2147483648 : Int64)), (.long ((lh * tl) + (ll * th)))])) _
  refine XS.lcmp X.here hx rfl (hb hby d3_62) rfl ?_
  show Steps p.tables e below (T.setTop (mkF m 63 #[.val (.long x0), .second, .val (.long x1), .second, .val (.long lh), .second, .val (.long ll), .second, .val (.long th), .second, .val (.long tl), .second, .val (.long ((lh * tl) + (ll * th))), .second, .unset, .unset, .unset, .unset] [(.int (lcmpW ((lh * tl) + (ll * th)) (2147483648 : Int64)))])) _
  by_cases hc63 : ((lh * tl) + (ll * th)) < (2147483648 : Int64)
  · refine XS.ifYes X.here hx rfl (pc0 := 63) (pc' := 70) rfl (hb hby d3_63) rfl (own_lt_t hc63).1 (by decide) (by decide) ?_
    show Steps p.tables e below (T.setTop (mkF m 70 #[.val (.long x0), .second, .val (.long x1), .second, .val (.long lh), .second, .val (.long ll), .second, .val (.long th), .second, .val (.long tl), .second, .val (.long ((lh * tl) + (ll * th))), .second, .unset, .unset, .unset, .unset] [])) _
    refine XS.lload X.here hx rfl (hb hby d3_70) rfl ?_
    show Steps p.tables e below (T.setTop (mkF m 72 #[.val (.long x0), .second, .val (.long x1), .second, .val (.long lh), .second, .val (.long ll), .second, .val (.long th), .second, .val (.long tl), .second, .val (.long ((lh * tl) + (ll * th))), .second, .unset, .unset, .unset, .unset] [(.long ll)])) _
    refine XS.lload X.here hx rfl (hb hby d3_72) rfl ?_
    show Steps p.tables e below (T.setTop (mkF m 74 #[.val (.long x0), .second, .val (.long x1), .second, .val (.long lh), .second, .val (.long ll), .second, .val (.long th), .second, .val (.long tl), .second, .val (.long ((lh * tl) + (ll * th))), .second, .unset, .unset, .unset, .unset] [(.long tl), (.long ll)])) _
    refine XS.lmul X.here hx rfl (hb hby d3_74) rfl ?_
    show Steps p.tables e below (T.setTop (mkF m 75 #[.val (.long x0), .second, .val (.long x1), .second, .val (.long lh), .second, .val (.long ll), .second, .val (.long th), .second, .val (.long tl), .second, .val (.long ((lh * tl) + (ll * th))), .second, .unset, .unset, .unset, .unset] [(.long (ll * tl))])) _
    refine XS.lstore X.here hx rfl (hb hby d3_75) rfl (l' := #[.val (.long x0), .second, .val (.long x1), .second, .val (.long lh), .second, .val (.long ll), .second, .val (.long th), .second, .val (.long tl), .second, .val (.long ((lh * tl) + (ll * th))), .second, .val (.long (ll * tl)), .second, .unset, .unset]) rfl ?_
    show Steps p.tables e below (T.setTop (mkF m 77 #[.val (.long x0), .second, .val (.long x1), .second, .val (.long lh), .second, .val (.long ll), .second, .val (.long th), .second, .val (.long tl), .second, .val (.long ((lh * tl) + (ll * th))), .second, .val (.long (ll * tl)), .second, .unset, .unset] [])) _
    refine XS.lload X.here hx rfl (hb hby d3_77) rfl ?_
    show Steps p.tables e below (T.setTop (mkF m 79 #[.val (.long x0), .second, .val (.long x1), .second, .val (.long lh), .second, .val (.long ll), .second, .val (.long th), .second, .val (.long tl), .second, .val (.long ((lh * tl) + (ll * th))), .second, .val (.long (ll * tl)), .second, .unset, .unset] [(.long (ll * tl))])) _
    refine XS.lconst X.here hx rfl (hb hby d3_79) ?_
    show Steps p.tables e below (T.setTop (mkF m 80 #[.val (.long x0), .second, .val (.long x1), .second, .val (.long lh), .second, .val (.long ll), .second, .val (.long th), .second, .val (.long tl), .second, .val (.long ((lh * tl) + (ll * th))), .second, .val (.long (ll * tl)), .second, .unset, .unset] [(.long (0 : Int64)), (.long (ll * tl))])) _
    refine XS.lcmp X.here hx rfl (hb hby d3_80) rfl ?_
    show Steps p.tables e below (T.setTop (mkF m 81 #[.val (.long x0), .second, .val (.long x1), .second, .val (.long lh), .second, .val (.long ll), .second, .val (.long th), .second, .val (.long tl), .second, .val (.long ((lh * tl) + (ll * th))), .second, .val (.long (ll * tl)), .second, .unset, .unset] [(.int (lcmpW (ll * tl) (0 : Int64)))])) _
    by_cases hc81 : (ll * tl) < (0 : Int64)
    · refine XS.ifNo X.here hx rfl (hb hby d3_81) rfl (own_lt_t hc81).2 ?_
      show Steps p.tables e below (T.setTop (mkF m 84 #[.val (.long x0), .second, .val (.long x1), .second, .val (.long lh), .second, .val (.long ll), .second, .val (.long th), .second, .val (.long tl), .second, .val (.long ((lh * tl) + (ll * th))), .second, .val (.long (ll * tl)), .second, .unset, .unset] [])) _
      refine X.ldc2Long hx hown (mvT hZ (hw _ (List.mem_of_getElem? (i := 9) rfl))) (g := (mkF m 84 #[.val (.long x0), .second, .val (.long x1), .second, .val (.long lh), .second, .val (.long ll), .second, .val (.long th), .second, .val (.long tl), .second, .val (.long ((lh * tl) + (ll * th))), .second, .val (.long (ll * tl)), .second, .unset, .unset] [])) rfl (hb hby d3_84) _ ?_
      show Steps p.tables e below (T.setTop (mkF m 87 #[.val (.long x0), .second, .val (.long x1), .second, .val (.long lh), .second, .val (.long ll), .second, .val (.long th), .second, .val (.long tl), .second, .val (.long ((lh * tl) + (ll * th))), .second, .val (.long (ll * tl)), .second, .unset, .unset] [(.long (-1 : Int64))])) _
      have hv : (own_ex3 lh ll th tl) = (-1 : Int64) := by first | (rw [own_ex3, if_pos hc63, if_pos hc81]; done) | simp only [own_ex3, hc63, hc81, ↓reduceIte, eq_self]
      rw [hv] at hr
      exact X.lreturnOut hx hret (hb hby d3_87) hr
    · refine XS.ifYes X.here hx rfl (pc0 := 81) (pc' := 88) rfl (hb hby d3_81) rfl (own_lt_f hc81).2 (by decide) (by decide) ?_
      show Steps p.tables e below (T.setTop (mkF m 88 #[.val (.long x0), .second, .val (.long x1), .second, .val (.long lh), .second, .val (.long ll), .second, .val (.long th), .second, .val (.long tl), .second, .val (.long ((lh * tl) + (ll * th))), .second, .val (.long (ll * tl)), .second, .unset, .unset] [])) _
      refine XS.lload X.here hx rfl (hb hby d3_88) rfl ?_
      show Steps p.tables e below (T.setTop (mkF m 90 #[.val (.long x0), .second, .val (.long x1), .second, .val (.long lh), .second, .val (.long ll), .second, .val (.long th), .second, .val (.long tl), .second, .val (.long ((lh * tl) + (ll * th))), .second, .val (.long (ll * tl)), .second, .unset, .unset] [(.long ((lh * tl) + (ll * th)))])) _
      refine XS.bipush X.here hx rfl (hb hby d3_90) ?_
      show Steps p.tables e below (T.setTop (mkF m 92 #[.val (.long x0), .second, .val (.long x1), .second, .val (.long lh), .second, .val (.long ll), .second, .val (.long th), .second, .val (.long tl), .second, .val (.long ((lh * tl) + (ll * th))), .second, .val (.long (ll * tl)), .second, .unset, .unset] [(.int (32 : Int32)), (.long ((lh * tl) + (ll * th)))])) _
      refine XS.lshl X.here hx rfl (hb hby d3_92) rfl ?_
      show Steps p.tables e below (T.setTop (mkF m 93 #[.val (.long x0), .second, .val (.long x1), .second, .val (.long lh), .second, .val (.long ll), .second, .val (.long th), .second, .val (.long tl), .second, .val (.long ((lh * tl) + (ll * th))), .second, .val (.long (ll * tl)), .second, .unset, .unset] [(.long (((lh * tl) + (ll * th)) <<< ((32 : Int32) &&& 0x3f).toInt64))])) _
      refine XS.lload X.here hx rfl (hb hby d3_93) rfl ?_
      show Steps p.tables e below (T.setTop (mkF m 95 #[.val (.long x0), .second, .val (.long x1), .second, .val (.long lh), .second, .val (.long ll), .second, .val (.long th), .second, .val (.long tl), .second, .val (.long ((lh * tl) + (ll * th))), .second, .val (.long (ll * tl)), .second, .unset, .unset] [(.long (ll * tl)), (.long (((lh * tl) + (ll * th)) <<< ((32 : Int32) &&& 0x3f).toInt64))])) _
      refine XS.ladd X.here hx rfl (hb hby d3_95) rfl ?_
      show Steps p.tables e below (T.setTop (mkF m 96 #[.val (.long x0), .second, .val (.long x1), .second, .val (.long lh), .second, .val (.long ll), .second, .val (.long th), .second, .val (.long tl), .second, .val (.long ((lh * tl) + (ll * th))), .second, .val (.long (ll * tl)), .second, .unset, .unset] [(.long ((((lh * tl) + (ll * th)) <<< ((32 : Int32) &&& 0x3f).toInt64) + (ll * tl)))])) _
      refine XS.lstore X.here hx rfl (hb hby d3_96) rfl (l' := #[.val (.long x0), .second, .val (.long x1), .second, .val (.long lh), .second, .val (.long ll), .second, .val (.long th), .second, .val (.long tl), .second, .val (.long ((lh * tl) + (ll * th))), .second, .val (.long (ll * tl)), .second, .val (.long ((((lh * tl) + (ll * th)) <<< ((32 : Int32) &&& 0x3f).toInt64) + (ll * tl))), .second]) rfl ?_
      show Steps p.tables e below (T.setTop (mkF m 98 #[.val (.long x0), .second, .val (.long x1), .second, .val (.long lh), .second, .val (.long ll), .second, .val (.long th), .second, .val (.long tl), .second, .val (.long ((lh * tl) + (ll * th))), .second, .val (.long (ll * tl)), .second, .val (.long ((((lh * tl) + (ll * th)) <<< ((32 : Int32) &&& 0x3f).toInt64) + (ll * tl))), .second] [])) _
      refine XS.lload X.here hx rfl (hb hby d3_98) rfl ?_
      show Steps p.tables e below (T.setTop (mkF m 100 #[.val (.long x0), .second, .val (.long x1), .second, .val (.long lh), .second, .val (.long ll), .second, .val (.long th), .second, .val (.long tl), .second, .val (.long ((lh * tl) + (ll * th))), .second, .val (.long (ll * tl)), .second, .val (.long ((((lh * tl) + (ll * th)) <<< ((32 : Int32) &&& 0x3f).toInt64) + (ll * tl))), .second] [(.long ((((lh * tl) + (ll * th)) <<< ((32 : Int32) &&& 0x3f).toInt64) + (ll * tl)))])) _
      refine XS.lconst X.here hx rfl (hb hby d3_100) ?_
      show Steps p.tables e below (T.setTop (mkF m 101 #[.val (.long x0), .second, .val (.long x1), .second, .val (.long lh), .second, .val (.long ll), .second, .val (.long th), .second, .val (.long tl), .second, .val (.long ((lh * tl) + (ll * th))), .second, .val (.long (ll * tl)), .second, .val (.long ((((lh * tl) + (ll * th)) <<< ((32 : Int32) &&& 0x3f).toInt64) + (ll * tl))), .second] [(.long (0 : Int64)), (.long ((((lh * tl) + (ll * th)) <<< ((32 : Int32) &&& 0x3f).toInt64) + (ll * tl)))])) _
      refine XS.lcmp X.here hx rfl (hb hby d3_101) rfl ?_
      show Steps p.tables e below (T.setTop (mkF m 102 #[.val (.long x0), .second, .val (.long x1), .second, .val (.long lh), .second, .val (.long ll), .second, .val (.long th), .second, .val (.long tl), .second, .val (.long ((lh * tl) + (ll * th))), .second, .val (.long (ll * tl)), .second, .val (.long ((((lh * tl) + (ll * th)) <<< ((32 : Int32) &&& 0x3f).toInt64) + (ll * tl))), .second] [(.int (lcmpW ((((lh * tl) + (ll * th)) <<< ((32 : Int32) &&& 0x3f).toInt64) + (ll * tl)) (0 : Int64)))])) _
      by_cases hc102 : ((((lh * tl) + (ll * th)) <<< ((32 : Int32) &&& 0x3f).toInt64) + (ll * tl)) < (0 : Int64)
      · refine XS.ifNo X.here hx rfl (hb hby d3_102) rfl (own_lt_t hc102).2 ?_
        show Steps p.tables e below (T.setTop (mkF m 105 #[.val (.long x0), .second, .val (.long x1), .second, .val (.long lh), .second, .val (.long ll), .second, .val (.long th), .second, .val (.long tl), .second, .val (.long ((lh * tl) + (ll * th))), .second, .val (.long (ll * tl)), .second, .val (.long ((((lh * tl) + (ll * th)) <<< ((32 : Int32) &&& 0x3f).toInt64) + (ll * tl))), .second] [])) _
        refine X.ldc2Long hx hown (mvT hZ (hw _ (List.mem_of_getElem? (i := 9) rfl))) (g := (mkF m 105 #[.val (.long x0), .second, .val (.long x1), .second, .val (.long lh), .second, .val (.long ll), .second, .val (.long th), .second, .val (.long tl), .second, .val (.long ((lh * tl) + (ll * th))), .second, .val (.long (ll * tl)), .second, .val (.long ((((lh * tl) + (ll * th)) <<< ((32 : Int32) &&& 0x3f).toInt64) + (ll * tl))), .second] [])) rfl (hb hby d3_105) _ ?_
        show Steps p.tables e below (T.setTop (mkF m 108 #[.val (.long x0), .second, .val (.long x1), .second, .val (.long lh), .second, .val (.long ll), .second, .val (.long th), .second, .val (.long tl), .second, .val (.long ((lh * tl) + (ll * th))), .second, .val (.long (ll * tl)), .second, .val (.long ((((lh * tl) + (ll * th)) <<< ((32 : Int32) &&& 0x3f).toInt64) + (ll * tl))), .second] [(.long (-1 : Int64))])) _
        have hv : (own_ex3 lh ll th tl) = (-1 : Int64) := by first | (rw [own_ex3, if_pos hc63, if_neg hc81, if_pos hc102]; done) | simp only [own_ex3, hc63, hc81, hc102, ↓reduceIte, eq_self]
        rw [hv] at hr
        exact X.lreturnOut hx hret (hb hby d3_108) hr
      · refine XS.ifYes X.here hx rfl (pc0 := 102) (pc' := 109) rfl (hb hby d3_102) rfl (own_lt_f hc102).2 (by decide) (by decide) ?_
        show Steps p.tables e below (T.setTop (mkF m 109 #[.val (.long x0), .second, .val (.long x1), .second, .val (.long lh), .second, .val (.long ll), .second, .val (.long th), .second, .val (.long tl), .second, .val (.long ((lh * tl) + (ll * th))), .second, .val (.long (ll * tl)), .second, .val (.long ((((lh * tl) + (ll * th)) <<< ((32 : Int32) &&& 0x3f).toInt64) + (ll * tl))), .second] [])) _
        refine XS.lload X.here hx rfl (hb hby d3_109) rfl ?_
        show Steps p.tables e below (T.setTop (mkF m 111 #[.val (.long x0), .second, .val (.long x1), .second, .val (.long lh), .second, .val (.long ll), .second, .val (.long th), .second, .val (.long tl), .second, .val (.long ((lh * tl) + (ll * th))), .second, .val (.long (ll * tl)), .second, .val (.long ((((lh * tl) + (ll * th)) <<< ((32 : Int32) &&& 0x3f).toInt64) + (ll * tl))), .second] [(.long ((((lh * tl) + (ll * th)) <<< ((32 : Int32) &&& 0x3f).toInt64) + (ll * tl)))])) _
        have hv : (own_ex3 lh ll th tl) = ((((lh * tl) + (ll * th)) <<< ((32 : Int32) &&& 0x3f).toInt64) + (ll * tl)) := by first | (rw [own_ex3, if_pos hc63, if_neg hc81, if_neg hc102]; done) | simp only [own_ex3, hc63, hc81, hc102, ↓reduceIte, eq_self]
        rw [hv] at hr
        exact X.lreturnOut hx hret (hb hby d3_111) hr
  · refine XS.ifNo X.here hx rfl (hb hby d3_63) rfl (own_lt_f hc63).1 ?_
    show Steps p.tables e below (T.setTop (mkF m 66 #[.val (.long x0), .second, .val (.long x1), .second, .val (.long lh), .second, .val (.long ll), .second, .val (.long th), .second, .val (.long tl), .second, .val (.long ((lh * tl) + (ll * th))), .second, .unset, .unset, .unset, .unset] [])) _
    refine X.ldc2Long hx hown (mvT hZ (hw _ (List.mem_of_getElem? (i := 9) rfl))) (g := (mkF m 66 #[.val (.long x0), .second, .val (.long x1), .second, .val (.long lh), .second, .val (.long ll), .second, .val (.long th), .second, .val (.long tl), .second, .val (.long ((lh * tl) + (ll * th))), .second, .unset, .unset, .unset, .unset] [])) rfl (hb hby d3_66) _ ?_
    show Steps p.tables e below (T.setTop (mkF m 69 #[.val (.long x0), .second, .val (.long x1), .second, .val (.long lh), .second, .val (.long ll), .second, .val (.long th), .second, .val (.long tl), .second, .val (.long ((lh * tl) + (ll * th))), .second, .unset, .unset, .unset, .unset] [(.long (-1 : Int64))])) _
    have hv : (own_ex3 lh ll th tl) = (-1 : Int64) := by first | (rw [own_ex3, if_neg hc63]; done) | simp only [own_ex3, hc63, ↓reduceIte, eq_self]
    rw [hv] at hr
    exact X.lreturnOut hx hret (hb hby d3_69) hr
set_option maxRecDepth 65536 in
set_option maxHeartbeats 40000000 in
theorem wk3_26 {p : Program} {l : Launch} {e : Env} {R : Room} {s : State} {m : MethodId} {args : Array Value} {below : List Frame} {meth : Method} {c : Code} {T : State} {locs : List Loc} {cells slots : Nat} {Z : State} {a0 : Array Value} (X : Stand p l e R s m args below meth c T locs cells slots) (hx : p.tables.exec = Jvm.exec) (hZ : Z.Warmed39 s.vm) (hw : ∀ d ∈ tables_1, d.before a0 Z = true) (hby : c.code = method_3_code) (hown : s.vm.findClass "com/example/kingsnake/kingsnake/schema/content/ContentModelMaximumProductPinLaw" = some m.cls) (hret : meth.sig.returnType = some .long) {fs : List Frame} (x0 x1 lh ll th tl : Int64) (hr : ∀ (f : JFrame) (acts : List Action), f.method = m → f.locked = none → f.entered = [] → (doReturn e (T.setTop f) acts (some (.long (own_ex2 lh ll th tl)))).1 = T.setFrames fs) : Steps p.tables e below (T.setTop (mkF m 26 #[.val (.long x0), .second, .val (.long x1), .second, .val (.long lh), .second, .val (.long ll), .second, .val (.long th), .second, .val (.long tl), .second, .unset, .unset, .unset, .unset, .unset, .unset] [])) (T.setFrames fs) := by
  show Steps p.tables e below (T.setTop (mkF m 26 #[.val (.long x0), .second, .val (.long x1), .second, .val (.long lh), .second, .val (.long ll), .second, .val (.long th), .second, .val (.long tl), .second, .unset, .unset, .unset, .unset, .unset, .unset] [])) _
  refine XS.lload X.here hx rfl (hb hby d3_26) rfl ?_
  show Steps p.tables e below (T.setTop (mkF m 28 #[.val (.long x0), .second, .val (.long x1), .second, .val (.long lh), .second, .val (.long ll), .second, .val (.long th), .second, .val (.long tl), .second, .unset, .unset, .unset, .unset, .unset, .unset] [(.long lh)])) _
  refine XS.lconst X.here hx rfl (hb hby d3_28) ?_
  show Steps p.tables e below (T.setTop (mkF m 29 #[.val (.long x0), .second, .val (.long x1), .second, .val (.long lh), .second, .val (.long ll), .second, .val (.long th), .second, .val (.long tl), .second, .unset, .unset, .unset, .unset, .unset, .unset] [(.long (0 : Int64)), (.long lh)])) _
  refine XS.lcmp X.here hx rfl (hb hby d3_29) rfl ?_
  show Steps p.tables e below (T.setTop (mkF m 30 #[.val (.long x0), .second, .val (.long x1), .second, .val (.long lh), .second, .val (.long ll), .second, .val (.long th), .second, .val (.long tl), .second, .unset, .unset, .unset, .unset, .unset, .unset] [(.int (lcmpW lh (0 : Int64)))])) _
  by_cases hc30 : lh = (0 : Int64)
  · refine XS.ifYes X.here hx rfl (pc0 := 30) (pc' := 44) rfl (hb hby d3_30) rfl (own_eq_t hc30).1 (by decide) (by decide) ?_
    have hv : own_ex2 lh ll th tl = own_ex3 lh ll th tl := by first | (rw [own_ex2, if_pos hc30]; done) | simp only [own_ex2, hc30, ↓reduceIte, eq_self]
    rw [hv] at hr
    exact wk3_44 X hx hZ hw hby hown hret x0 x1 lh ll th tl hr
  · refine XS.ifNo X.here hx rfl (hb hby d3_30) rfl (own_eq_f hc30).1 ?_
    show Steps p.tables e below (T.setTop (mkF m 33 #[.val (.long x0), .second, .val (.long x1), .second, .val (.long lh), .second, .val (.long ll), .second, .val (.long th), .second, .val (.long tl), .second, .unset, .unset, .unset, .unset, .unset, .unset] [])) _
    refine XS.lload X.here hx rfl (hb hby d3_33) rfl ?_
    show Steps p.tables e below (T.setTop (mkF m 35 #[.val (.long x0), .second, .val (.long x1), .second, .val (.long lh), .second, .val (.long ll), .second, .val (.long th), .second, .val (.long tl), .second, .unset, .unset, .unset, .unset, .unset, .unset] [(.long th)])) _
    refine XS.lconst X.here hx rfl (hb hby d3_35) ?_
    show Steps p.tables e below (T.setTop (mkF m 36 #[.val (.long x0), .second, .val (.long x1), .second, .val (.long lh), .second, .val (.long ll), .second, .val (.long th), .second, .val (.long tl), .second, .unset, .unset, .unset, .unset, .unset, .unset] [(.long (0 : Int64)), (.long th)])) _
    refine XS.lcmp X.here hx rfl (hb hby d3_36) rfl ?_
    show Steps p.tables e below (T.setTop (mkF m 37 #[.val (.long x0), .second, .val (.long x1), .second, .val (.long lh), .second, .val (.long ll), .second, .val (.long th), .second, .val (.long tl), .second, .unset, .unset, .unset, .unset, .unset, .unset] [(.int (lcmpW th (0 : Int64)))])) _
    by_cases hc37 : th = (0 : Int64)
    · refine XS.ifYes X.here hx rfl (pc0 := 37) (pc' := 44) rfl (hb hby d3_37) rfl (own_eq_t hc37).1 (by decide) (by decide) ?_
      have hv : own_ex2 lh ll th tl = own_ex3 lh ll th tl := by first | (rw [own_ex2, if_neg hc30, if_pos hc37]; done) | simp only [own_ex2, hc30, hc37, ↓reduceIte, eq_self]
      rw [hv] at hr
      exact wk3_44 X hx hZ hw hby hown hret x0 x1 lh ll th tl hr
    · refine XS.ifNo X.here hx rfl (hb hby d3_37) rfl (own_eq_f hc37).1 ?_
      show Steps p.tables e below (T.setTop (mkF m 40 #[.val (.long x0), .second, .val (.long x1), .second, .val (.long lh), .second, .val (.long ll), .second, .val (.long th), .second, .val (.long tl), .second, .unset, .unset, .unset, .unset, .unset, .unset] [])) _
      refine X.ldc2Long hx hown (mvT hZ (hw _ (List.mem_of_getElem? (i := 9) rfl))) (g := (mkF m 40 #[.val (.long x0), .second, .val (.long x1), .second, .val (.long lh), .second, .val (.long ll), .second, .val (.long th), .second, .val (.long tl), .second, .unset, .unset, .unset, .unset, .unset, .unset] [])) rfl (hb hby d3_40) _ ?_
      show Steps p.tables e below (T.setTop (mkF m 43 #[.val (.long x0), .second, .val (.long x1), .second, .val (.long lh), .second, .val (.long ll), .second, .val (.long th), .second, .val (.long tl), .second, .unset, .unset, .unset, .unset, .unset, .unset] [(.long (-1 : Int64))])) _
      have hv : (own_ex2 lh ll th tl) = (-1 : Int64) := by first | (rw [own_ex2, if_neg hc30, if_neg hc37]; done) | simp only [own_ex2, hc30, hc37, ↓reduceIte, eq_self]
      rw [hv] at hr
      exact X.lreturnOut hx hret (hb hby d3_43) hr
set_option maxRecDepth 65536 in
set_option maxHeartbeats 40000000 in
theorem wk3 {p : Program} {l : Launch} {e : Env} {R : Room} {s : State} {m : MethodId} {args : Array Value} {below : List Frame} {meth : Method} {c : Code} {T : State} {locs : List Loc} {cells slots : Nat} {Z : State} {a0 : Array Value} (X : Stand p l e R s m args below meth c T locs cells slots) (hx : p.tables.exec = Jvm.exec) (hZ : Z.Warmed39 s.vm) (hw : ∀ d ∈ tables_1, d.before a0 Z = true) (hby : c.code = method_3_code) (hown : s.vm.findClass "com/example/kingsnake/kingsnake/schema/content/ContentModelMaximumProductPinLaw" = some m.cls) (hret : meth.sig.returnType = some .long) {fs : List Frame} (x0 x1 : Int64) (hr : ∀ (f : JFrame) (acts : List Action), f.method = m → f.locked = none → f.entered = [] → (doReturn e (T.setTop f) acts (some (.long (own_ex x0 x1)))).1 = T.setFrames fs) : Steps p.tables e below (T.setTop (mkF m 0 #[.val (.long x0), .second, .val (.long x1), .second, .unset, .unset, .unset, .unset, .unset, .unset, .unset, .unset, .unset, .unset, .unset, .unset, .unset, .unset] [])) (T.setFrames fs) := by
  show Steps p.tables e below (T.setTop (mkF m 0 #[.val (.long x0), .second, .val (.long x1), .second, .unset, .unset, .unset, .unset, .unset, .unset, .unset, .unset, .unset, .unset, .unset, .unset, .unset, .unset] [])) _
  refine XS.lloadN X.here hx rfl (hb hby d3_0) rfl ?_
  show Steps p.tables e below (T.setTop (mkF m 1 #[.val (.long x0), .second, .val (.long x1), .second, .unset, .unset, .unset, .unset, .unset, .unset, .unset, .unset, .unset, .unset, .unset, .unset, .unset, .unset] [(.long x0)])) _
  refine XS.bipush X.here hx rfl (hb hby d3_1) ?_
  show Steps p.tables e below (T.setTop (mkF m 3 #[.val (.long x0), .second, .val (.long x1), .second, .unset, .unset, .unset, .unset, .unset, .unset, .unset, .unset, .unset, .unset, .unset, .unset, .unset, .unset] [(.int (32 : Int32)), (.long x0)])) _
  refine XS.lushr X.here hx rfl (hb hby d3_3) rfl ?_
  show Steps p.tables e below (T.setTop (mkF m 4 #[.val (.long x0), .second, .val (.long x1), .second, .unset, .unset, .unset, .unset, .unset, .unset, .unset, .unset, .unset, .unset, .unset, .unset, .unset, .unset] [(.long ((x0.toUInt64 >>> ((32 : Int32) &&& 0x3f).toInt64.toUInt64).toInt64))])) _
  refine XS.lstore X.here hx rfl (hb hby d3_4) rfl (l' := #[.val (.long x0), .second, .val (.long x1), .second, .val (.long ((x0.toUInt64 >>> ((32 : Int32) &&& 0x3f).toInt64.toUInt64).toInt64)), .second, .unset, .unset, .unset, .unset, .unset, .unset, .unset, .unset, .unset, .unset, .unset, .unset]) rfl ?_
  show Steps p.tables e below (T.setTop (mkF m 6 #[.val (.long x0), .second, .val (.long x1), .second, .val (.long ((x0.toUInt64 >>> ((32 : Int32) &&& 0x3f).toInt64.toUInt64).toInt64)), .second, .unset, .unset, .unset, .unset, .unset, .unset, .unset, .unset, .unset, .unset, .unset, .unset] [])) _
  refine XS.lloadN X.here hx rfl (hb hby d3_6) rfl ?_
  show Steps p.tables e below (T.setTop (mkF m 7 #[.val (.long x0), .second, .val (.long x1), .second, .val (.long ((x0.toUInt64 >>> ((32 : Int32) &&& 0x3f).toInt64.toUInt64).toInt64)), .second, .unset, .unset, .unset, .unset, .unset, .unset, .unset, .unset, .unset, .unset, .unset, .unset] [(.long x0)])) _
  refine X.ldc2Long hx hown (mvT hZ (hw _ (List.mem_of_getElem? (i := 14) rfl))) (g := (mkF m 7 #[.val (.long x0), .second, .val (.long x1), .second, .val (.long ((x0.toUInt64 >>> ((32 : Int32) &&& 0x3f).toInt64.toUInt64).toInt64)), .second, .unset, .unset, .unset, .unset, .unset, .unset, .unset, .unset, .unset, .unset, .unset, .unset] [(.long x0)])) rfl (hb hby d3_7) _ ?_
  show Steps p.tables e below (T.setTop (mkF m 10 #[.val (.long x0), .second, .val (.long x1), .second, .val (.long ((x0.toUInt64 >>> ((32 : Int32) &&& 0x3f).toInt64.toUInt64).toInt64)), .second, .unset, .unset, .unset, .unset, .unset, .unset, .unset, .unset, .unset, .unset, .unset, .unset] [(.long (4294967295 : Int64)), (.long x0)])) _
  refine XS.land X.here hx rfl (hb hby d3_10) rfl ?_
  show Steps p.tables e below (T.setTop (mkF m 11 #[.val (.long x0), .second, .val (.long x1), .second, .val (.long ((x0.toUInt64 >>> ((32 : Int32) &&& 0x3f).toInt64.toUInt64).toInt64)), .second, .unset, .unset, .unset, .unset, .unset, .unset, .unset, .unset, .unset, .unset, .unset, .unset] [(.long (x0 &&& (4294967295 : Int64)))])) _
  refine XS.lstore X.here hx rfl (hb hby d3_11) rfl (l' := #[.val (.long x0), .second, .val (.long x1), .second, .val (.long ((x0.toUInt64 >>> ((32 : Int32) &&& 0x3f).toInt64.toUInt64).toInt64)), .second, .val (.long (x0 &&& (4294967295 : Int64))), .second, .unset, .unset, .unset, .unset, .unset, .unset, .unset, .unset, .unset, .unset]) rfl ?_
  show Steps p.tables e below (T.setTop (mkF m 13 #[.val (.long x0), .second, .val (.long x1), .second, .val (.long ((x0.toUInt64 >>> ((32 : Int32) &&& 0x3f).toInt64.toUInt64).toInt64)), .second, .val (.long (x0 &&& (4294967295 : Int64))), .second, .unset, .unset, .unset, .unset, .unset, .unset, .unset, .unset, .unset, .unset] [])) _
  refine XS.lloadN X.here hx rfl (hb hby d3_13) rfl ?_
  show Steps p.tables e below (T.setTop (mkF m 14 #[.val (.long x0), .second, .val (.long x1), .second, .val (.long ((x0.toUInt64 >>> ((32 : Int32) &&& 0x3f).toInt64.toUInt64).toInt64)), .second, .val (.long (x0 &&& (4294967295 : Int64))), .second, .unset, .unset, .unset, .unset, .unset, .unset, .unset, .unset, .unset, .unset] [(.long x1)])) _
  refine XS.bipush X.here hx rfl (hb hby d3_14) ?_
  show Steps p.tables e below (T.setTop (mkF m 16 #[.val (.long x0), .second, .val (.long x1), .second, .val (.long ((x0.toUInt64 >>> ((32 : Int32) &&& 0x3f).toInt64.toUInt64).toInt64)), .second, .val (.long (x0 &&& (4294967295 : Int64))), .second, .unset, .unset, .unset, .unset, .unset, .unset, .unset, .unset, .unset, .unset] [(.int (32 : Int32)), (.long x1)])) _
  refine XS.lushr X.here hx rfl (hb hby d3_16) rfl ?_
  show Steps p.tables e below (T.setTop (mkF m 17 #[.val (.long x0), .second, .val (.long x1), .second, .val (.long ((x0.toUInt64 >>> ((32 : Int32) &&& 0x3f).toInt64.toUInt64).toInt64)), .second, .val (.long (x0 &&& (4294967295 : Int64))), .second, .unset, .unset, .unset, .unset, .unset, .unset, .unset, .unset, .unset, .unset] [(.long ((x1.toUInt64 >>> ((32 : Int32) &&& 0x3f).toInt64.toUInt64).toInt64))])) _
  refine XS.lstore X.here hx rfl (hb hby d3_17) rfl (l' := #[.val (.long x0), .second, .val (.long x1), .second, .val (.long ((x0.toUInt64 >>> ((32 : Int32) &&& 0x3f).toInt64.toUInt64).toInt64)), .second, .val (.long (x0 &&& (4294967295 : Int64))), .second, .val (.long ((x1.toUInt64 >>> ((32 : Int32) &&& 0x3f).toInt64.toUInt64).toInt64)), .second, .unset, .unset, .unset, .unset, .unset, .unset, .unset, .unset]) rfl ?_
  show Steps p.tables e below (T.setTop (mkF m 19 #[.val (.long x0), .second, .val (.long x1), .second, .val (.long ((x0.toUInt64 >>> ((32 : Int32) &&& 0x3f).toInt64.toUInt64).toInt64)), .second, .val (.long (x0 &&& (4294967295 : Int64))), .second, .val (.long ((x1.toUInt64 >>> ((32 : Int32) &&& 0x3f).toInt64.toUInt64).toInt64)), .second, .unset, .unset, .unset, .unset, .unset, .unset, .unset, .unset] [])) _
  refine XS.lloadN X.here hx rfl (hb hby d3_19) rfl ?_
  show Steps p.tables e below (T.setTop (mkF m 20 #[.val (.long x0), .second, .val (.long x1), .second, .val (.long ((x0.toUInt64 >>> ((32 : Int32) &&& 0x3f).toInt64.toUInt64).toInt64)), .second, .val (.long (x0 &&& (4294967295 : Int64))), .second, .val (.long ((x1.toUInt64 >>> ((32 : Int32) &&& 0x3f).toInt64.toUInt64).toInt64)), .second, .unset, .unset, .unset, .unset, .unset, .unset, .unset, .unset] [(.long x1)])) _
  refine X.ldc2Long hx hown (mvT hZ (hw _ (List.mem_of_getElem? (i := 14) rfl))) (g := (mkF m 20 #[.val (.long x0), .second, .val (.long x1), .second, .val (.long ((x0.toUInt64 >>> ((32 : Int32) &&& 0x3f).toInt64.toUInt64).toInt64)), .second, .val (.long (x0 &&& (4294967295 : Int64))), .second, .val (.long ((x1.toUInt64 >>> ((32 : Int32) &&& 0x3f).toInt64.toUInt64).toInt64)), .second, .unset, .unset, .unset, .unset, .unset, .unset, .unset, .unset] [(.long x1)])) rfl (hb hby d3_20) _ ?_
  show Steps p.tables e below (T.setTop (mkF m 23 #[.val (.long x0), .second, .val (.long x1), .second, .val (.long ((x0.toUInt64 >>> ((32 : Int32) &&& 0x3f).toInt64.toUInt64).toInt64)), .second, .val (.long (x0 &&& (4294967295 : Int64))), .second, .val (.long ((x1.toUInt64 >>> ((32 : Int32) &&& 0x3f).toInt64.toUInt64).toInt64)), .second, .unset, .unset, .unset, .unset, .unset, .unset, .unset, .unset] [(.long (4294967295 : Int64)), (.long x1)])) _
  refine XS.land X.here hx rfl (hb hby d3_23) rfl ?_
  show Steps p.tables e below (T.setTop (mkF m 24 #[.val (.long x0), .second, .val (.long x1), .second, .val (.long ((x0.toUInt64 >>> ((32 : Int32) &&& 0x3f).toInt64.toUInt64).toInt64)), .second, .val (.long (x0 &&& (4294967295 : Int64))), .second, .val (.long ((x1.toUInt64 >>> ((32 : Int32) &&& 0x3f).toInt64.toUInt64).toInt64)), .second, .unset, .unset, .unset, .unset, .unset, .unset, .unset, .unset] [(.long (x1 &&& (4294967295 : Int64)))])) _
  refine XS.lstore X.here hx rfl (hb hby d3_24) rfl (l' := #[.val (.long x0), .second, .val (.long x1), .second, .val (.long ((x0.toUInt64 >>> ((32 : Int32) &&& 0x3f).toInt64.toUInt64).toInt64)), .second, .val (.long (x0 &&& (4294967295 : Int64))), .second, .val (.long ((x1.toUInt64 >>> ((32 : Int32) &&& 0x3f).toInt64.toUInt64).toInt64)), .second, .val (.long (x1 &&& (4294967295 : Int64))), .second, .unset, .unset, .unset, .unset, .unset, .unset]) rfl ?_
  exact wk3_26 X hx hZ hw hby hown hret x0 x1 ((x0.toUInt64 >>> ((32 : Int32) &&& 0x3f).toInt64.toUInt64).toInt64) (x0 &&& (4294967295 : Int64)) ((x1.toUInt64 >>> ((32 : Int32) &&& 0x3f).toInt64.toUInt64).toInt64) (x1 &&& (4294967295 : Int64)) hr
def Q3 (x0 : Int64) (x1 : Int64) (h0 : Heap) (n0 : Nat) (v : Option Value) (h : Heap) (L : List Loc) : Prop := v = some (.long (own_ex x0 x1)) ∧ Fr n0 L ∧ h = h0
set_option maxRecDepth 65536 in
set_option maxHeartbeats 40000000 in
theorem rm3 (l : Launch) (Z : State) (a0 : Array Value) (hw : ∀ d ∈ tables_1, d.before a0 Z = true) (ws : List Jvm.Cond) (x0 : Int64) (x1 : Int64) (h0 : Heap) (n0 : Nat) (Z0 : n0 ≤ h0.size)  :
    MetFree l (⟨"com/example/kingsnake/kingsnake/schema/content/ContentModelMaximumProductPinLaw", "exactOrUnbounded", "(JJ)J"⟩ : MethodName) (head1 (Jvm.Cond.code (⟨"com/example/kingsnake/kingsnake/schema/content/ContentModelMaximumProductPinLaw", "exactOrUnbounded", "(JJ)J"⟩ : MethodName) method_3_code 18 (some .long) :: ws) ({ frames := 0, cells := 0, slots := 0, locals := 0 } : Room)) (fun as_ U => as_ = #[(.long x0), (.long x1)] ∧ Z.Warmed39 U.vm ∧ U.heap = h0) (fun _ _ _ _ _ => True) (fun _ U o U' => ∃ v L, o = .returned v ∧ Q3 x0 x1 h0 n0 v U'.heap L ∧ FrameEnd U o U' L ({ frames := 0, cells := 0, slots := 0, locals := 0 } : Room).cells ({ frames := 0, cells := 0, slots := 0, locals := 0 } : Room).slots) := by
  refine MetFree.of_bodySF (plainFor_of_name pn_3) hisR ?_
  intro p e s m args below meth c s₁ Bd hml0 hP hK
  obtain ⟨rfl, hZ, hh⟩ := hP
  have hx := Bd.exec
  have hby := Bd.bytes
  have hml : c.maxLocals = 18 := hml0
  have hown : s.vm.findClass "com/example/kingsnake/kingsnake/schema/content/ContentModelMaximumProductPinLaw" = some m.cls := findClass_of_methodNamed Bd.named
  have hnm := (name_of_methodNamed Bd.named Bd.method).1
  have X0 : Stand p l e ({ frames := 0, cells := 0, slots := 0, locals := 0 } : Room) s m #[(.long x0), (.long x1)] below meth c s₁ [] 0 0 := Stand.of_body Bd
  have e0 : s₁.heap = h0 := by rw [← hh, Bd.state]; rfl
  have N0 := Fr.nil n0
  have pre0 : ∀ t, Steps p.tables e below (s₁.setTop (mkF m 0 #[.val (.long x0), .second, .val (.long x1), .second, .unset, .unset, .unset, .unset, .unset, .unset, .unset, .unset, .unset, .unset, .unset, .unset, .unset, .unset] [])) t → Steps p.tables e below (s₁.setTop (entryFrame m #[(.long x0), (.long x1)] 18)) t := fun t k => castTop (ef_3 m x0 x1) k
  obtain ⟨fs, hr, hrun, hended, hW, hsame⟩ := X0.leave (v := some (.long (own_ex x0 x1))) (fun h => by rw [Bd.returns] at h; cases h)
  refine ⟨_, _, pre0 _ ?_, hrun, hended, _, _, rfl, ?_, ⟨_, rfl⟩, hW, hsame.mono (by decide) (by decide)⟩
  · exact wk3 X0 hx hZ hw hby hown Bd.returns x0 x1 hr
  · show Q3 x0 x1 h0 n0 _ s₁.heap _
    rw [e0]
    exact ⟨rfl, N0, rfl⟩
set_option maxRecDepth 65536 in
set_option maxHeartbeats 40000000 in
theorem sgB {p : Program} {l : Launch} {e : Env} {R : Room} {s : State} {m : MethodId} {args : Array Value} {below : List Frame} {meth : Method} {c : Code} {T : State} {locs : List Loc} {cells slots : Nat} {Z : State} {a0 : Array Value} (X : Stand p l e R s m args below meth c T locs cells slots) (hx : p.tables.exec = Jvm.exec) (hZ : Z.Warmed39 s.vm) (hw : ∀ d ∈ tables_1, d.before a0 Z = true) (hby : c.code = code) (hown : s.vm.findClass "com/example/kingsnake/kingsnake/schema/content/ContentModelMaximumProductPinLaw" = some m.cls) (i0 i1 : Int64) (i2 : Int32) (lf rg E : Int64) (hB : lf = (0 : Int64) ∨ rg = (0 : Int64) ∨ lf = (-1 : Int64) ∨ rg = (-1 : Int64)) (eE : E = own_E lf rg) {target : State} (kt : Steps p.tables e below (T.setTop (mkF m 73 #[.val (.long i0), .second, .val (.long i1), .second, .val (.int i2), .val (.long lf), .second, .val (.long rg), .second, .val (.long E), .second] [])) target) : Steps p.tables e below (T.setTop (mkF m 18 #[.val (.long i0), .second, .val (.long i1), .second, .val (.int i2), .val (.long lf), .second, .val (.long rg), .second, .unset, .unset] [])) target := by
  show Steps p.tables e below (T.setTop (mkF m 18 #[.val (.long i0), .second, .val (.long i1), .second, .val (.int i2), .val (.long lf), .second, .val (.long rg), .second, .unset, .unset] [])) _
  refine XS.lload X.here hx rfl (hb hby at_18) rfl ?_
  show Steps p.tables e below (T.setTop (mkF m 20 #[.val (.long i0), .second, .val (.long i1), .second, .val (.int i2), .val (.long lf), .second, .val (.long rg), .second, .unset, .unset] [(.long lf)])) _
  refine XS.lconst X.here hx rfl (hb hby at_20) ?_
  show Steps p.tables e below (T.setTop (mkF m 21 #[.val (.long i0), .second, .val (.long i1), .second, .val (.int i2), .val (.long lf), .second, .val (.long rg), .second, .unset, .unset] [(.long (0 : Int64)), (.long lf)])) _
  refine XS.lcmp X.here hx rfl (hb hby at_21) rfl ?_
  show Steps p.tables e below (T.setTop (mkF m 22 #[.val (.long i0), .second, .val (.long i1), .second, .val (.int i2), .val (.long lf), .second, .val (.long rg), .second, .unset, .unset] [(.int (lcmpW lf (0 : Int64)))])) _
  by_cases hc22 : lf = (0 : Int64)
  · refine XS.ifYes X.here hx rfl (pc0 := 22) (pc' := 32) rfl (hb hby at_22) rfl (own_eq_t hc22).1 (by decide) (by decide) ?_
    show Steps p.tables e below (T.setTop (mkF m 32 #[.val (.long i0), .second, .val (.long i1), .second, .val (.int i2), .val (.long lf), .second, .val (.long rg), .second, .unset, .unset] [])) _
    refine XS.lconst X.here hx rfl (hb hby at_32) ?_
    show Steps p.tables e below (T.setTop (mkF m 33 #[.val (.long i0), .second, .val (.long i1), .second, .val (.int i2), .val (.long lf), .second, .val (.long rg), .second, .unset, .unset] [(.long (0 : Int64))])) _
    refine XS.lstore X.here hx rfl (hb hby at_33) rfl (l' := #[.val (.long i0), .second, .val (.long i1), .second, .val (.int i2), .val (.long lf), .second, .val (.long rg), .second, .val (.long (0 : Int64)), .second]) rfl ?_
    show Steps p.tables e below (T.setTop (mkF m 35 #[.val (.long i0), .second, .val (.long i1), .second, .val (.int i2), .val (.long lf), .second, .val (.long rg), .second, .val (.long (0 : Int64)), .second] [])) _
    refine XS.goto X.here hx rfl (pc0 := 35) (pc' := 73) rfl (hb hby at_35) (by decide) (by decide) ?_
    obtain rfl : E = (0 : Int64) := eE.trans (by unfold own_E; first | exact if_pos hc22 | rfl | simp only [hc22, ↓reduceIte, eq_self])
    exact kt
  · refine XS.ifNo X.here hx rfl (hb hby at_22) rfl (own_eq_f hc22).1 ?_
    show Steps p.tables e below (T.setTop (mkF m 25 #[.val (.long i0), .second, .val (.long i1), .second, .val (.int i2), .val (.long lf), .second, .val (.long rg), .second, .unset, .unset] [])) _
    refine XS.lload X.here hx rfl (hb hby at_25) rfl ?_
    show Steps p.tables e below (T.setTop (mkF m 27 #[.val (.long i0), .second, .val (.long i1), .second, .val (.int i2), .val (.long lf), .second, .val (.long rg), .second, .unset, .unset] [(.long rg)])) _
    refine XS.lconst X.here hx rfl (hb hby at_27) ?_
    show Steps p.tables e below (T.setTop (mkF m 28 #[.val (.long i0), .second, .val (.long i1), .second, .val (.int i2), .val (.long lf), .second, .val (.long rg), .second, .unset, .unset] [(.long (0 : Int64)), (.long rg)])) _
    refine XS.lcmp X.here hx rfl (hb hby at_28) rfl ?_
    show Steps p.tables e below (T.setTop (mkF m 29 #[.val (.long i0), .second, .val (.long i1), .second, .val (.int i2), .val (.long lf), .second, .val (.long rg), .second, .unset, .unset] [(.int (lcmpW rg (0 : Int64)))])) _
    by_cases hc29 : rg = (0 : Int64)
    · refine XS.ifNo X.here hx rfl (hb hby at_29) rfl (own_eq_t hc29).2 ?_
      show Steps p.tables e below (T.setTop (mkF m 32 #[.val (.long i0), .second, .val (.long i1), .second, .val (.int i2), .val (.long lf), .second, .val (.long rg), .second, .unset, .unset] [])) _
      refine XS.lconst X.here hx rfl (hb hby at_32) ?_
      show Steps p.tables e below (T.setTop (mkF m 33 #[.val (.long i0), .second, .val (.long i1), .second, .val (.int i2), .val (.long lf), .second, .val (.long rg), .second, .unset, .unset] [(.long (0 : Int64))])) _
      refine XS.lstore X.here hx rfl (hb hby at_33) rfl (l' := #[.val (.long i0), .second, .val (.long i1), .second, .val (.int i2), .val (.long lf), .second, .val (.long rg), .second, .val (.long (0 : Int64)), .second]) rfl ?_
      show Steps p.tables e below (T.setTop (mkF m 35 #[.val (.long i0), .second, .val (.long i1), .second, .val (.int i2), .val (.long lf), .second, .val (.long rg), .second, .val (.long (0 : Int64)), .second] [])) _
      refine XS.goto X.here hx rfl (pc0 := 35) (pc' := 73) rfl (hb hby at_35) (by decide) (by decide) ?_
      obtain rfl : E = (0 : Int64) := eE.trans (by unfold own_E; first | exact if_neg hc22 | exact if_pos hc29 | (rw [if_neg hc22, if_pos hc29]; done) | rfl | simp only [hc22, hc29, ↓reduceIte, eq_self])
      exact kt
    · refine XS.ifYes X.here hx rfl (pc0 := 29) (pc' := 38) rfl (hb hby at_29) rfl (own_eq_f hc29).2 (by decide) (by decide) ?_
      show Steps p.tables e below (T.setTop (mkF m 38 #[.val (.long i0), .second, .val (.long i1), .second, .val (.int i2), .val (.long lf), .second, .val (.long rg), .second, .unset, .unset] [])) _
      refine XS.lload X.here hx rfl (hb hby at_38) rfl ?_
      show Steps p.tables e below (T.setTop (mkF m 40 #[.val (.long i0), .second, .val (.long i1), .second, .val (.int i2), .val (.long lf), .second, .val (.long rg), .second, .unset, .unset] [(.long lf)])) _
      refine X.ldc2Long hx hown (mvT hZ (hw _ (List.mem_of_getElem? (i := 9) rfl))) (g := (mkF m 40 #[.val (.long i0), .second, .val (.long i1), .second, .val (.int i2), .val (.long lf), .second, .val (.long rg), .second, .unset, .unset] [(.long lf)])) rfl (hb hby at_40) _ ?_
      show Steps p.tables e below (T.setTop (mkF m 43 #[.val (.long i0), .second, .val (.long i1), .second, .val (.int i2), .val (.long lf), .second, .val (.long rg), .second, .unset, .unset] [(.long (-1 : Int64)), (.long lf)])) _
      refine XS.lcmp X.here hx rfl (hb hby at_43) rfl ?_
      show Steps p.tables e below (T.setTop (mkF m 44 #[.val (.long i0), .second, .val (.long i1), .second, .val (.int i2), .val (.long lf), .second, .val (.long rg), .second, .unset, .unset] [(.int (lcmpW lf (-1 : Int64)))])) _
      by_cases hc44 : lf = (-1 : Int64)
      · refine XS.ifYes X.here hx rfl (pc0 := 44) (pc' := 56) rfl (hb hby at_44) rfl (own_eq_t hc44).1 (by decide) (by decide) ?_
        show Steps p.tables e below (T.setTop (mkF m 56 #[.val (.long i0), .second, .val (.long i1), .second, .val (.int i2), .val (.long lf), .second, .val (.long rg), .second, .unset, .unset] [])) _
        refine X.ldc2Long hx hown (mvT hZ (hw _ (List.mem_of_getElem? (i := 9) rfl))) (g := (mkF m 56 #[.val (.long i0), .second, .val (.long i1), .second, .val (.int i2), .val (.long lf), .second, .val (.long rg), .second, .unset, .unset] [])) rfl (hb hby at_56) _ ?_
        show Steps p.tables e below (T.setTop (mkF m 59 #[.val (.long i0), .second, .val (.long i1), .second, .val (.int i2), .val (.long lf), .second, .val (.long rg), .second, .unset, .unset] [(.long (-1 : Int64))])) _
        refine XS.lstore X.here hx rfl (hb hby at_59) rfl (l' := #[.val (.long i0), .second, .val (.long i1), .second, .val (.int i2), .val (.long lf), .second, .val (.long rg), .second, .val (.long (-1 : Int64)), .second]) rfl ?_
        show Steps p.tables e below (T.setTop (mkF m 61 #[.val (.long i0), .second, .val (.long i1), .second, .val (.int i2), .val (.long lf), .second, .val (.long rg), .second, .val (.long (-1 : Int64)), .second] [])) _
        refine XS.goto X.here hx rfl (pc0 := 61) (pc' := 73) rfl (hb hby at_61) (by decide) (by decide) ?_
        obtain rfl : E = (-1 : Int64) := eE.trans (by unfold own_E; first | exact if_neg hc22 | exact if_neg hc29 | exact if_pos hc44 | (rw [if_neg hc22, if_neg hc29]; done) | (rw [if_neg hc22, if_neg hc29, if_pos hc44]; done) | rfl | simp only [hc22, hc29, hc44, ↓reduceIte, eq_self])
        exact kt
      · refine XS.ifNo X.here hx rfl (hb hby at_44) rfl (own_eq_f hc44).1 ?_
        show Steps p.tables e below (T.setTop (mkF m 47 #[.val (.long i0), .second, .val (.long i1), .second, .val (.int i2), .val (.long lf), .second, .val (.long rg), .second, .unset, .unset] [])) _
        refine XS.lload X.here hx rfl (hb hby at_47) rfl ?_
        show Steps p.tables e below (T.setTop (mkF m 49 #[.val (.long i0), .second, .val (.long i1), .second, .val (.int i2), .val (.long lf), .second, .val (.long rg), .second, .unset, .unset] [(.long rg)])) _
        refine X.ldc2Long hx hown (mvT hZ (hw _ (List.mem_of_getElem? (i := 9) rfl))) (g := (mkF m 49 #[.val (.long i0), .second, .val (.long i1), .second, .val (.int i2), .val (.long lf), .second, .val (.long rg), .second, .unset, .unset] [(.long rg)])) rfl (hb hby at_49) _ ?_
        show Steps p.tables e below (T.setTop (mkF m 52 #[.val (.long i0), .second, .val (.long i1), .second, .val (.int i2), .val (.long lf), .second, .val (.long rg), .second, .unset, .unset] [(.long (-1 : Int64)), (.long rg)])) _
        refine XS.lcmp X.here hx rfl (hb hby at_52) rfl ?_
        show Steps p.tables e below (T.setTop (mkF m 53 #[.val (.long i0), .second, .val (.long i1), .second, .val (.int i2), .val (.long lf), .second, .val (.long rg), .second, .unset, .unset] [(.int (lcmpW rg (-1 : Int64)))])) _
        by_cases hc53 : rg = (-1 : Int64)
        · refine XS.ifNo X.here hx rfl (hb hby at_53) rfl (own_eq_t hc53).2 ?_
          show Steps p.tables e below (T.setTop (mkF m 56 #[.val (.long i0), .second, .val (.long i1), .second, .val (.int i2), .val (.long lf), .second, .val (.long rg), .second, .unset, .unset] [])) _
          refine X.ldc2Long hx hown (mvT hZ (hw _ (List.mem_of_getElem? (i := 9) rfl))) (g := (mkF m 56 #[.val (.long i0), .second, .val (.long i1), .second, .val (.int i2), .val (.long lf), .second, .val (.long rg), .second, .unset, .unset] [])) rfl (hb hby at_56) _ ?_
          show Steps p.tables e below (T.setTop (mkF m 59 #[.val (.long i0), .second, .val (.long i1), .second, .val (.int i2), .val (.long lf), .second, .val (.long rg), .second, .unset, .unset] [(.long (-1 : Int64))])) _
          refine XS.lstore X.here hx rfl (hb hby at_59) rfl (l' := #[.val (.long i0), .second, .val (.long i1), .second, .val (.int i2), .val (.long lf), .second, .val (.long rg), .second, .val (.long (-1 : Int64)), .second]) rfl ?_
          show Steps p.tables e below (T.setTop (mkF m 61 #[.val (.long i0), .second, .val (.long i1), .second, .val (.int i2), .val (.long lf), .second, .val (.long rg), .second, .val (.long (-1 : Int64)), .second] [])) _
          refine XS.goto X.here hx rfl (pc0 := 61) (pc' := 73) rfl (hb hby at_61) (by decide) (by decide) ?_
          obtain rfl : E = (-1 : Int64) := eE.trans (by unfold own_E; first | exact if_neg hc22 | exact if_neg hc29 | exact if_neg hc44 | exact if_pos hc53 | (rw [if_neg hc22, if_neg hc29]; done) | (rw [if_neg hc22, if_neg hc29, if_neg hc44]; done) | (rw [if_neg hc22, if_neg hc29, if_neg hc44, if_pos hc53]; done) | rfl | simp only [hc22, hc29, hc44, hc53, ↓reduceIte, eq_self])
          exact kt
        · refine XS.ifYes X.here hx rfl (pc0 := 53) (pc' := 64) rfl (hb hby at_53) rfl (own_eq_f hc53).2 (by decide) (by decide) ?_
          exact (hB.elim hc22 (fun q => q.elim hc29 (fun q => q.elim hc44 hc53))).elim
def Q0 (h0 : Heap) (n0 : Nat) (v : Option Value) (h : Heap) (L : List Loc) : Prop := v = some (.int 1) ∧ Fr n0 L
set_option maxRecDepth 65536 in
set_option maxHeartbeats 40000000 in
theorem rm0 (l : Launch) (Z : State) (a0 : Array Value) (hw : ∀ d ∈ tables_1, d.before a0 Z = true) (ws : List Jvm.Cond) (i0 i1 : Int64) (i2 : Int32) (h0 : Heap) (n0 : Nat) (Z0 : n0 ≤ h0.size)  :
    MetFree l x (head1 (Jvm.Cond.code x code maxLocals ret :: ws) room_1) (fun as_ U => as_ = #[(.long i0), (.long i1), (.int i2)] ∧ Z.Warmed39 U.vm ∧ U.heap = h0) (fun _ _ _ _ _ => True) (fun _ U o U' => ∃ v L, o = .returned v ∧ Q0 h0 n0 v U'.heap L ∧ FrameEnd U o U' L 0 0) := by
  refine MetFree.of_bodySF (plainFor_of_name pn_0) hisR ?_
  intro p e s m args below meth c s₁ Bd hml0 hP hK
  obtain ⟨rfl, hZ, hh⟩ := hP
  have hx := Bd.exec
  have hby := Bd.bytes
  have hml : c.maxLocals = 11 := hml0
  have hown : s.vm.findClass "com/example/kingsnake/kingsnake/schema/content/ContentModelMaximumProductPinLaw" = some m.cls := findClass_of_methodNamed Bd.named
  have hnm := (name_of_methodNamed Bd.named Bd.method).1
  have X0 : Stand p l e room_1 s m #[(.long i0), (.long i1), (.int i2)] below meth c s₁ [] 0 0 := Stand.of_body Bd
  have e0 : s₁.heap = h0 := by rw [← hh, Bd.state]; rfl
  have N0 := Fr.nil n0
  have pre0 : ∀ t, Steps p.tables e below (s₁.setTop (mkF m 0 #[.val (.long i0), .second, .val (.long i1), .second, .val (.int i2), .unset, .unset, .unset, .unset, .unset, .unset] [])) t → Steps p.tables e below (s₁.setTop (entryFrame m #[(.long i0), (.long i1), (.int i2)] maxLocals)) t := fun t k => castTop (ef_0 m i0 i1 i2) k
  obtain ⟨lf, elf⟩ : ∃ z, z = own_pick i0 i2 := ⟨_, rfl⟩
  obtain ⟨rg, erg⟩ : ∃ z, z = own_pick i1 ((i2.toUInt32 >>> ((2 : Int32) &&& 31).toUInt32).toInt32) := ⟨_, rfl⟩
  have hlf : lf = (-1 : Int64) ∨ 0 ≤ lf.toInt := elf ▸ own_pick_ok _ _
  have hrg : rg = (-1 : Int64) ∨ 0 ≤ rg.toInt := erg ▸ own_pick_ok _ _
  obtain ⟨_, _, ⟨T1, L1, k1, n1⟩, -, X1, ⟨Lc1, hQ1, l1, y1, z1⟩, st1⟩ := Jvm.LawKit.callS X0 hx (y := (⟨"com/example/kingsnake/kingsnake/schema/content/ContentModelMaximumProductPinLaw", "pick", "(JI)J"⟩ : MethodName)) hown (mvT hZ (hw _ (List.mem_of_getElem? (i := 0) rfl))) (mvT hZ (hw _ (List.mem_of_getElem? (i := 1) rfl))) (mvT hZ (hw _ (List.mem_of_getElem? (i := 2) rfl))) (mvT hZ (hw _ (List.mem_of_getElem? (i := 3) rfl))) (by decide) (backOf (W := 0) (rm1 l Z a0 hw [] i0 i2 h0 n0 Z0) hZ (hw _ (List.mem_of_getElem? (i := 3) rfl)) (hw _ (List.mem_of_getElem? (i := 2) rfl)) (by decide) (by decide)) (g := (mkF m 3 #[.val (.long i0), .second, .val (.long i1), .second, .val (.int i2), .unset, .unset, .unset, .unset, .unset, .unset] [(.int i2), (.long i0)])) rfl (by rw [hml]; rfl) (argsL := [(.long i0), (.int i2)]) (rest := []) (lenOf pd_1 rfl) rfl (by show 2 * 0 + _ ≤ _; exact Nat.le_of_eq rfl) (hb hby at_3) (fun _ _ => ⟨rfl, e0, (by decide : 0 + 0 ≤ _), (by decide : 0 + 0 ≤ _)⟩)
  dsimp only [Pt.U, Pt.locs, Pt.cells, Pt.slots] at X1 l1 y1 z1 st1 hQ1
  subst l1 y1 z1
  obtain ⟨rfl, N1q, e1⟩ := hQ1
  rw [← elf] at st1
  have N1 := Fr.app N0 N1q
  obtain ⟨_, _, ⟨T2, L2, k2, n2⟩, -, X2, ⟨Lc2, hQ2, l2, y2, z2⟩, st2⟩ := Jvm.LawKit.callS X1 hx (y := (⟨"com/example/kingsnake/kingsnake/schema/content/ContentModelMaximumProductPinLaw", "pick", "(JI)J"⟩ : MethodName)) hown (mvT hZ (hw _ (List.mem_of_getElem? (i := 0) rfl))) (mvT hZ (hw _ (List.mem_of_getElem? (i := 1) rfl))) (mvT hZ (hw _ (List.mem_of_getElem? (i := 2) rfl))) (mvT hZ (hw _ (List.mem_of_getElem? (i := 3) rfl))) (by decide) (backOf (W := 0) (rm1 l Z a0 hw [] i1 ((i2.toUInt32 >>> ((2 : Int32) &&& 31).toUInt32).toInt32) T1.heap n0 (by rw [e1]; exact Z0)) hZ (hw _ (List.mem_of_getElem? (i := 3) rfl)) (hw _ (List.mem_of_getElem? (i := 2) rfl)) (by decide) (by decide)) (g := (mkF m 13 #[.val (.long i0), .second, .val (.long i1), .second, .val (.int i2), .val (.long lf), .second, .unset, .unset, .unset, .unset] [(.int ((i2.toUInt32 >>> ((2 : Int32) &&& 31).toUInt32).toInt32)), (.long i1)])) rfl (by rw [hml]; rfl) (argsL := [(.long i1), (.int ((i2.toUInt32 >>> ((2 : Int32) &&& 31).toUInt32).toInt32))]) (rest := []) (lenOf pd_1 rfl) rfl (by show 2 * 0 + _ ≤ _; exact Nat.le_of_eq rfl) (hb hby at_13) (fun _ _ => ⟨rfl, rfl, (by decide : 0 + 0 ≤ _), (by decide : 0 + 0 ≤ _)⟩)
  dsimp only [Pt.U, Pt.locs, Pt.cells, Pt.slots] at X2 l2 y2 z2 st2 hQ2
  subst l2 y2 z2
  obtain ⟨rfl, N2q, e2⟩ := hQ2
  rw [← erg] at st2
  have N2 := Fr.app N1 N2q
  by_cases hB : lf = (0 : Int64) ∨ rg = (0 : Int64) ∨ lf = (-1 : Int64) ∨ rg = (-1 : Int64)
  · obtain ⟨_, _, ⟨T3, L3, k3, n3⟩, -, X3, ⟨Lc3, hQ3, l3, y3, z3⟩, st3⟩ := Jvm.LawKit.callS X2 hx (y := (⟨"com/example/kingsnake/kingsnake/schema/content/ContentModel", "maximumProduct", "(JJ)J"⟩ : MethodName)) hown (mvT hZ (hw _ (List.mem_of_getElem? (i := 4) rfl))) (mvT hZ (hw _ (List.mem_of_getElem? (i := 5) rfl))) (mvT hZ (hw _ (List.mem_of_getElem? (i := 6) rfl))) (mvT hZ (hw _ (List.mem_of_getElem? (i := 7) rfl))) (by decide) (backOf (W := 0) (rm2 l Z a0 hw [] lf rg T2.heap n0 (by rw [e2, e1]; exact Z0)) hZ (hw _ (List.mem_of_getElem? (i := 7) rfl)) (hw _ (List.mem_of_getElem? (i := 6) rfl)) (by decide) (by decide)) (g := (mkF m 77 #[.val (.long i0), .second, .val (.long i1), .second, .val (.int i2), .val (.long lf), .second, .val (.long rg), .second, .val (.long (own_E lf rg)), .second] [(.long rg), (.long lf)])) rfl (by rw [hml]; rfl) (argsL := [(.long lf), (.long rg)]) (rest := []) (lenOf pd_2 rfl) rfl (by show 2 * 0 + _ ≤ _; exact Nat.le_of_eq rfl) (hb hby at_77) (fun _ _ => ⟨rfl, rfl, (by decide : 0 + 0 ≤ _), (by decide : 0 + 0 ≤ _)⟩)
    dsimp only [Pt.U, Pt.locs, Pt.cells, Pt.slots] at X3 l3 y3 z3 st3 hQ3
    subst l3 y3 z3
    obtain ⟨rfl, N3q, e3⟩ := hQ3
    have N3 := Fr.app N2 N3q
    have hEq : own_mp lf rg = own_E lf rg := own_roadB hB
    obtain ⟨fs, hr, hrun, hended, hW, hsame⟩ := X3.leave (v := some (.int (1 : Int32))) (fun h => by rw [Bd.returns] at h; cases h)
    refine ⟨_, _, pre0 _ ?_, hrun, hended, _, _, rfl, ?_, ⟨_, rfl⟩, hW, hsame.mono (by decide) (by decide)⟩
    · show Steps p.tables e below (s₁.setTop (mkF m 0 #[.val (.long i0), .second, .val (.long i1), .second, .val (.int i2), .unset, .unset, .unset, .unset, .unset, .unset] [])) _
      refine XS.lloadN X0.here hx rfl (hb hby at_0) rfl ?_
      show Steps p.tables e below (s₁.setTop (mkF m 1 #[.val (.long i0), .second, .val (.long i1), .second, .val (.int i2), .unset, .unset, .unset, .unset, .unset, .unset] [(.long i0)])) _
      refine XS.iload X0.here hx rfl (hb hby at_1) rfl ?_
      refine st1 _ ?_
      show Steps p.tables e below (T1.setTop (mkF m 6 #[.val (.long i0), .second, .val (.long i1), .second, .val (.int i2), .unset, .unset, .unset, .unset, .unset, .unset] [(.long lf)])) _
      refine XS.lstore X1.here hx rfl (hb hby at_6) rfl (l' := #[.val (.long i0), .second, .val (.long i1), .second, .val (.int i2), .val (.long lf), .second, .unset, .unset, .unset, .unset]) rfl ?_
      show Steps p.tables e below (T1.setTop (mkF m 8 #[.val (.long i0), .second, .val (.long i1), .second, .val (.int i2), .val (.long lf), .second, .unset, .unset, .unset, .unset] [])) _
      refine XS.lloadN X1.here hx rfl (hb hby at_8) rfl ?_
      show Steps p.tables e below (T1.setTop (mkF m 9 #[.val (.long i0), .second, .val (.long i1), .second, .val (.int i2), .val (.long lf), .second, .unset, .unset, .unset, .unset] [(.long i1)])) _
      refine XS.iload X1.here hx rfl (hb hby at_9) rfl ?_
      show Steps p.tables e below (T1.setTop (mkF m 11 #[.val (.long i0), .second, .val (.long i1), .second, .val (.int i2), .val (.long lf), .second, .unset, .unset, .unset, .unset] [(.int i2), (.long i1)])) _
      refine XS.iconst X1.here hx rfl (hb hby at_11) ?_
      show Steps p.tables e below (T1.setTop (mkF m 12 #[.val (.long i0), .second, .val (.long i1), .second, .val (.int i2), .val (.long lf), .second, .unset, .unset, .unset, .unset] [(.int (2 : Int32)), (.int i2), (.long i1)])) _
      refine XS.iushr X1.here hx rfl (hb hby at_12) rfl ?_
      refine st2 _ ?_
      show Steps p.tables e below (T2.setTop (mkF m 16 #[.val (.long i0), .second, .val (.long i1), .second, .val (.int i2), .val (.long lf), .second, .unset, .unset, .unset, .unset] [(.long rg)])) _
      refine XS.lstore X2.here hx rfl (hb hby at_16) rfl (l' := #[.val (.long i0), .second, .val (.long i1), .second, .val (.int i2), .val (.long lf), .second, .val (.long rg), .second, .unset, .unset]) rfl ?_
      show Steps p.tables e below (T2.setTop (mkF m 18 #[.val (.long i0), .second, .val (.long i1), .second, .val (.int i2), .val (.long lf), .second, .val (.long rg), .second, .unset, .unset] [])) _
      refine sgB X2 hx hZ hw hby hown i0 i1 i2 lf rg (own_E lf rg) hB rfl ?_
      show Steps p.tables e below (T2.setTop (mkF m 73 #[.val (.long i0), .second, .val (.long i1), .second, .val (.int i2), .val (.long lf), .second, .val (.long rg), .second, .val (.long (own_E lf rg)), .second] [])) _
      refine XS.lload X2.here hx rfl (hb hby at_73) rfl ?_
      show Steps p.tables e below (T2.setTop (mkF m 75 #[.val (.long i0), .second, .val (.long i1), .second, .val (.int i2), .val (.long lf), .second, .val (.long rg), .second, .val (.long (own_E lf rg)), .second] [(.long lf)])) _
      refine XS.lload X2.here hx rfl (hb hby at_75) rfl ?_
      refine st3 _ ?_
      show Steps p.tables e below (T3.setTop (mkF m 80 #[.val (.long i0), .second, .val (.long i1), .second, .val (.int i2), .val (.long lf), .second, .val (.long rg), .second, .val (.long (own_E lf rg)), .second] [(.long (own_mp lf rg))])) _
      refine XS.lload X3.here hx rfl (hb hby at_80) rfl ?_
      show Steps p.tables e below (T3.setTop (mkF m 82 #[.val (.long i0), .second, .val (.long i1), .second, .val (.int i2), .val (.long lf), .second, .val (.long rg), .second, .val (.long (own_E lf rg)), .second] [(.long (own_E lf rg)), (.long (own_mp lf rg))])) _
      refine XS.lcmp X3.here hx rfl (hb hby at_82) rfl ?_
      show Steps p.tables e below (T3.setTop (mkF m 83 #[.val (.long i0), .second, .val (.long i1), .second, .val (.int i2), .val (.long lf), .second, .val (.long rg), .second, .val (.long (own_E lf rg)), .second] [(.int (lcmpW (own_mp lf rg) (own_E lf rg)))])) _
      refine XS.ifNo X3.here hx rfl (hb hby at_83) rfl (own_eq_t hEq).2 ?_
      show Steps p.tables e below (T3.setTop (mkF m 86 #[.val (.long i0), .second, .val (.long i1), .second, .val (.int i2), .val (.long lf), .second, .val (.long rg), .second, .val (.long (own_E lf rg)), .second] [])) _
      refine XS.iconst X3.here hx rfl (hb hby at_86) ?_
      show Steps p.tables e below (T3.setTop (mkF m 87 #[.val (.long i0), .second, .val (.long i1), .second, .val (.int i2), .val (.long lf), .second, .val (.long rg), .second, .val (.long (own_E lf rg)), .second] [(.int (1 : Int32))])) _
      refine XS.goto X3.here hx rfl (pc0 := 87) (pc' := 91) rfl (hb hby at_87) (by decide) (by decide) ?_
      show Steps p.tables e below (T3.setTop (mkF m 91 #[.val (.long i0), .second, .val (.long i1), .second, .val (.int i2), .val (.long lf), .second, .val (.long rg), .second, .val (.long (own_E lf rg)), .second] [(.int (1 : Int32))])) _
      exact retN X3 hx (t := .boolean) Bd.returns (by simp) (hb hby at_91) hr
    · show Q0 h0 n0 _ T3.heap _
      exact ⟨rfl, N3⟩
  · have hA1 : ¬ (lf = (0 : Int64)) := fun q => hB (Or.inl q)
    have hA2 : ¬ (rg = (0 : Int64)) := fun q => hB (Or.inr (Or.inl q))
    have hA3 : ¬ (lf = (-1 : Int64)) := fun q => hB (Or.inr (Or.inr (Or.inl q)))
    have hA4 : ¬ (rg = (-1 : Int64)) := fun q => hB (Or.inr (Or.inr (Or.inr q)))
    have hEq : own_mp lf rg = own_ex lf rg := own_roadA (hlf.resolve_left hA3) (hrg.resolve_left hA4) hA1 hA2 hA3 hA4
    obtain ⟨_, _, ⟨T3, L3, k3, n3⟩, -, X3, ⟨Lc3, hQ3, l3, y3, z3⟩, st3⟩ := Jvm.LawKit.callS X2 hx (y := (⟨"com/example/kingsnake/kingsnake/schema/content/ContentModelMaximumProductPinLaw", "exactOrUnbounded", "(JJ)J"⟩ : MethodName)) hown (mvT hZ (hw _ (List.mem_of_getElem? (i := 11) rfl))) (mvT hZ (hw _ (List.mem_of_getElem? (i := 12) rfl))) (mvT hZ (hw _ (List.mem_of_getElem? (i := 2) rfl))) (mvT hZ (hw _ (List.mem_of_getElem? (i := 13) rfl))) (by decide) (backOf (W := 0) (rm3 l Z a0 hw [] lf rg T2.heap n0 (by rw [e2, e1]; exact Z0)) hZ (hw _ (List.mem_of_getElem? (i := 13) rfl)) (hw _ (List.mem_of_getElem? (i := 2) rfl)) (by decide) (by decide)) (g := (mkF m 68 #[.val (.long i0), .second, .val (.long i1), .second, .val (.int i2), .val (.long lf), .second, .val (.long rg), .second, .unset, .unset] [(.long rg), (.long lf)])) rfl (by rw [hml]; rfl) (argsL := [(.long lf), (.long rg)]) (rest := []) (lenOf pd_3 rfl) rfl (by show 2 * 0 + _ ≤ _; exact Nat.le_of_eq rfl) (hb hby at_68) (fun _ _ => ⟨rfl, rfl, (by decide : 0 + 0 ≤ _), (by decide : 0 + 0 ≤ _)⟩)
    dsimp only [Pt.U, Pt.locs, Pt.cells, Pt.slots] at X3 l3 y3 z3 st3 hQ3
    subst l3 y3 z3
    obtain ⟨rfl, N3q, e3⟩ := hQ3
    have N3 := Fr.app N2 N3q
    obtain ⟨_, _, ⟨T4, L4, k4, n4⟩, -, X4, ⟨Lc4, hQ4, l4, y4, z4⟩, st4⟩ := Jvm.LawKit.callS X3 hx (y := (⟨"com/example/kingsnake/kingsnake/schema/content/ContentModel", "maximumProduct", "(JJ)J"⟩ : MethodName)) hown (mvT hZ (hw _ (List.mem_of_getElem? (i := 4) rfl))) (mvT hZ (hw _ (List.mem_of_getElem? (i := 5) rfl))) (mvT hZ (hw _ (List.mem_of_getElem? (i := 6) rfl))) (mvT hZ (hw _ (List.mem_of_getElem? (i := 7) rfl))) (by decide) (backOf (W := 0) (rm2 l Z a0 hw [] lf rg T3.heap n0 (by rw [e3, e2, e1]; exact Z0)) hZ (hw _ (List.mem_of_getElem? (i := 7) rfl)) (hw _ (List.mem_of_getElem? (i := 6) rfl)) (by decide) (by decide)) (g := (mkF m 77 #[.val (.long i0), .second, .val (.long i1), .second, .val (.int i2), .val (.long lf), .second, .val (.long rg), .second, .val (.long (own_ex lf rg)), .second] [(.long rg), (.long lf)])) rfl (by rw [hml]; rfl) (argsL := [(.long lf), (.long rg)]) (rest := []) (lenOf pd_2 rfl) rfl (by show 2 * 0 + _ ≤ _; exact Nat.le_of_eq rfl) (hb hby at_77) (fun _ _ => ⟨rfl, rfl, (by decide : 0 + 0 ≤ _), (by decide : 0 + 0 ≤ _)⟩)
    dsimp only [Pt.U, Pt.locs, Pt.cells, Pt.slots] at X4 l4 y4 z4 st4 hQ4
    subst l4 y4 z4
    obtain ⟨rfl, N4q, e4⟩ := hQ4
    have N4 := Fr.app N3 N4q
    obtain ⟨fs, hr, hrun, hended, hW, hsame⟩ := X4.leave (v := some (.int (1 : Int32))) (fun h => by rw [Bd.returns] at h; cases h)
    refine ⟨_, _, pre0 _ ?_, hrun, hended, _, _, rfl, ?_, ⟨_, rfl⟩, hW, hsame.mono (by decide) (by decide)⟩
    · show Steps p.tables e below (s₁.setTop (mkF m 0 #[.val (.long i0), .second, .val (.long i1), .second, .val (.int i2), .unset, .unset, .unset, .unset, .unset, .unset] [])) _
      refine XS.lloadN X0.here hx rfl (hb hby at_0) rfl ?_
      show Steps p.tables e below (s₁.setTop (mkF m 1 #[.val (.long i0), .second, .val (.long i1), .second, .val (.int i2), .unset, .unset, .unset, .unset, .unset, .unset] [(.long i0)])) _
      refine XS.iload X0.here hx rfl (hb hby at_1) rfl ?_
      refine st1 _ ?_
      show Steps p.tables e below (T1.setTop (mkF m 6 #[.val (.long i0), .second, .val (.long i1), .second, .val (.int i2), .unset, .unset, .unset, .unset, .unset, .unset] [(.long lf)])) _
      refine XS.lstore X1.here hx rfl (hb hby at_6) rfl (l' := #[.val (.long i0), .second, .val (.long i1), .second, .val (.int i2), .val (.long lf), .second, .unset, .unset, .unset, .unset]) rfl ?_
      show Steps p.tables e below (T1.setTop (mkF m 8 #[.val (.long i0), .second, .val (.long i1), .second, .val (.int i2), .val (.long lf), .second, .unset, .unset, .unset, .unset] [])) _
      refine XS.lloadN X1.here hx rfl (hb hby at_8) rfl ?_
      show Steps p.tables e below (T1.setTop (mkF m 9 #[.val (.long i0), .second, .val (.long i1), .second, .val (.int i2), .val (.long lf), .second, .unset, .unset, .unset, .unset] [(.long i1)])) _
      refine XS.iload X1.here hx rfl (hb hby at_9) rfl ?_
      show Steps p.tables e below (T1.setTop (mkF m 11 #[.val (.long i0), .second, .val (.long i1), .second, .val (.int i2), .val (.long lf), .second, .unset, .unset, .unset, .unset] [(.int i2), (.long i1)])) _
      refine XS.iconst X1.here hx rfl (hb hby at_11) ?_
      show Steps p.tables e below (T1.setTop (mkF m 12 #[.val (.long i0), .second, .val (.long i1), .second, .val (.int i2), .val (.long lf), .second, .unset, .unset, .unset, .unset] [(.int (2 : Int32)), (.int i2), (.long i1)])) _
      refine XS.iushr X1.here hx rfl (hb hby at_12) rfl ?_
      refine st2 _ ?_
      show Steps p.tables e below (T2.setTop (mkF m 16 #[.val (.long i0), .second, .val (.long i1), .second, .val (.int i2), .val (.long lf), .second, .unset, .unset, .unset, .unset] [(.long rg)])) _
      refine XS.lstore X2.here hx rfl (hb hby at_16) rfl (l' := #[.val (.long i0), .second, .val (.long i1), .second, .val (.int i2), .val (.long lf), .second, .val (.long rg), .second, .unset, .unset]) rfl ?_
      show Steps p.tables e below (T2.setTop (mkF m 18 #[.val (.long i0), .second, .val (.long i1), .second, .val (.int i2), .val (.long lf), .second, .val (.long rg), .second, .unset, .unset] [])) _
      refine XS.lload X2.here hx rfl (hb hby at_18) rfl ?_
      show Steps p.tables e below (T2.setTop (mkF m 20 #[.val (.long i0), .second, .val (.long i1), .second, .val (.int i2), .val (.long lf), .second, .val (.long rg), .second, .unset, .unset] [(.long lf)])) _
      refine XS.lconst X2.here hx rfl (hb hby at_20) ?_
      show Steps p.tables e below (T2.setTop (mkF m 21 #[.val (.long i0), .second, .val (.long i1), .second, .val (.int i2), .val (.long lf), .second, .val (.long rg), .second, .unset, .unset] [(.long (0 : Int64)), (.long lf)])) _
      refine XS.lcmp X2.here hx rfl (hb hby at_21) rfl ?_
      show Steps p.tables e below (T2.setTop (mkF m 22 #[.val (.long i0), .second, .val (.long i1), .second, .val (.int i2), .val (.long lf), .second, .val (.long rg), .second, .unset, .unset] [(.int (lcmpW lf (0 : Int64)))])) _
      refine XS.ifNo X2.here hx rfl (hb hby at_22) rfl (own_eq_f hA1).1 ?_
      show Steps p.tables e below (T2.setTop (mkF m 25 #[.val (.long i0), .second, .val (.long i1), .second, .val (.int i2), .val (.long lf), .second, .val (.long rg), .second, .unset, .unset] [])) _
      refine XS.lload X2.here hx rfl (hb hby at_25) rfl ?_
      show Steps p.tables e below (T2.setTop (mkF m 27 #[.val (.long i0), .second, .val (.long i1), .second, .val (.int i2), .val (.long lf), .second, .val (.long rg), .second, .unset, .unset] [(.long rg)])) _
      refine XS.lconst X2.here hx rfl (hb hby at_27) ?_
      show Steps p.tables e below (T2.setTop (mkF m 28 #[.val (.long i0), .second, .val (.long i1), .second, .val (.int i2), .val (.long lf), .second, .val (.long rg), .second, .unset, .unset] [(.long (0 : Int64)), (.long rg)])) _
      refine XS.lcmp X2.here hx rfl (hb hby at_28) rfl ?_
      show Steps p.tables e below (T2.setTop (mkF m 29 #[.val (.long i0), .second, .val (.long i1), .second, .val (.int i2), .val (.long lf), .second, .val (.long rg), .second, .unset, .unset] [(.int (lcmpW rg (0 : Int64)))])) _
      refine XS.ifYes X2.here hx rfl (pc0 := 29) (pc' := 38) rfl (hb hby at_29) rfl (own_eq_f hA2).2 (by decide) (by decide) ?_
      show Steps p.tables e below (T2.setTop (mkF m 38 #[.val (.long i0), .second, .val (.long i1), .second, .val (.int i2), .val (.long lf), .second, .val (.long rg), .second, .unset, .unset] [])) _
      refine XS.lload X2.here hx rfl (hb hby at_38) rfl ?_
      show Steps p.tables e below (T2.setTop (mkF m 40 #[.val (.long i0), .second, .val (.long i1), .second, .val (.int i2), .val (.long lf), .second, .val (.long rg), .second, .unset, .unset] [(.long lf)])) _
      refine X2.ldc2Long hx hown (mvT hZ (hw _ (List.mem_of_getElem? (i := 9) rfl))) (g := (mkF m 40 #[.val (.long i0), .second, .val (.long i1), .second, .val (.int i2), .val (.long lf), .second, .val (.long rg), .second, .unset, .unset] [(.long lf)])) rfl (hb hby at_40) _ ?_
      show Steps p.tables e below (T2.setTop (mkF m 43 #[.val (.long i0), .second, .val (.long i1), .second, .val (.int i2), .val (.long lf), .second, .val (.long rg), .second, .unset, .unset] [(.long (-1 : Int64)), (.long lf)])) _
      refine XS.lcmp X2.here hx rfl (hb hby at_43) rfl ?_
      show Steps p.tables e below (T2.setTop (mkF m 44 #[.val (.long i0), .second, .val (.long i1), .second, .val (.int i2), .val (.long lf), .second, .val (.long rg), .second, .unset, .unset] [(.int (lcmpW lf (-1 : Int64)))])) _
      refine XS.ifNo X2.here hx rfl (hb hby at_44) rfl (own_eq_f hA3).1 ?_
      show Steps p.tables e below (T2.setTop (mkF m 47 #[.val (.long i0), .second, .val (.long i1), .second, .val (.int i2), .val (.long lf), .second, .val (.long rg), .second, .unset, .unset] [])) _
      refine XS.lload X2.here hx rfl (hb hby at_47) rfl ?_
      show Steps p.tables e below (T2.setTop (mkF m 49 #[.val (.long i0), .second, .val (.long i1), .second, .val (.int i2), .val (.long lf), .second, .val (.long rg), .second, .unset, .unset] [(.long rg)])) _
      refine X2.ldc2Long hx hown (mvT hZ (hw _ (List.mem_of_getElem? (i := 9) rfl))) (g := (mkF m 49 #[.val (.long i0), .second, .val (.long i1), .second, .val (.int i2), .val (.long lf), .second, .val (.long rg), .second, .unset, .unset] [(.long rg)])) rfl (hb hby at_49) _ ?_
      show Steps p.tables e below (T2.setTop (mkF m 52 #[.val (.long i0), .second, .val (.long i1), .second, .val (.int i2), .val (.long lf), .second, .val (.long rg), .second, .unset, .unset] [(.long (-1 : Int64)), (.long rg)])) _
      refine XS.lcmp X2.here hx rfl (hb hby at_52) rfl ?_
      show Steps p.tables e below (T2.setTop (mkF m 53 #[.val (.long i0), .second, .val (.long i1), .second, .val (.int i2), .val (.long lf), .second, .val (.long rg), .second, .unset, .unset] [(.int (lcmpW rg (-1 : Int64)))])) _
      refine XS.ifYes X2.here hx rfl (pc0 := 53) (pc' := 64) rfl (hb hby at_53) rfl (own_eq_f hA4).2 (by decide) (by decide) ?_
      show Steps p.tables e below (T2.setTop (mkF m 64 #[.val (.long i0), .second, .val (.long i1), .second, .val (.int i2), .val (.long lf), .second, .val (.long rg), .second, .unset, .unset] [])) _
      refine XS.lload X2.here hx rfl (hb hby at_64) rfl ?_
      show Steps p.tables e below (T2.setTop (mkF m 66 #[.val (.long i0), .second, .val (.long i1), .second, .val (.int i2), .val (.long lf), .second, .val (.long rg), .second, .unset, .unset] [(.long lf)])) _
      refine XS.lload X2.here hx rfl (hb hby at_66) rfl ?_
      refine st3 _ ?_
      show Steps p.tables e below (T3.setTop (mkF m 71 #[.val (.long i0), .second, .val (.long i1), .second, .val (.int i2), .val (.long lf), .second, .val (.long rg), .second, .unset, .unset] [(.long (own_ex lf rg))])) _
      refine XS.lstore X3.here hx rfl (hb hby at_71) rfl (l' := #[.val (.long i0), .second, .val (.long i1), .second, .val (.int i2), .val (.long lf), .second, .val (.long rg), .second, .val (.long (own_ex lf rg)), .second]) rfl ?_
      show Steps p.tables e below (T3.setTop (mkF m 73 #[.val (.long i0), .second, .val (.long i1), .second, .val (.int i2), .val (.long lf), .second, .val (.long rg), .second, .val (.long (own_ex lf rg)), .second] [])) _
      refine XS.lload X3.here hx rfl (hb hby at_73) rfl ?_
      show Steps p.tables e below (T3.setTop (mkF m 75 #[.val (.long i0), .second, .val (.long i1), .second, .val (.int i2), .val (.long lf), .second, .val (.long rg), .second, .val (.long (own_ex lf rg)), .second] [(.long lf)])) _
      refine XS.lload X3.here hx rfl (hb hby at_75) rfl ?_
      refine st4 _ ?_
      show Steps p.tables e below (T4.setTop (mkF m 80 #[.val (.long i0), .second, .val (.long i1), .second, .val (.int i2), .val (.long lf), .second, .val (.long rg), .second, .val (.long (own_ex lf rg)), .second] [(.long (own_mp lf rg))])) _
      refine XS.lload X4.here hx rfl (hb hby at_80) rfl ?_
      show Steps p.tables e below (T4.setTop (mkF m 82 #[.val (.long i0), .second, .val (.long i1), .second, .val (.int i2), .val (.long lf), .second, .val (.long rg), .second, .val (.long (own_ex lf rg)), .second] [(.long (own_ex lf rg)), (.long (own_mp lf rg))])) _
      refine XS.lcmp X4.here hx rfl (hb hby at_82) rfl ?_
      show Steps p.tables e below (T4.setTop (mkF m 83 #[.val (.long i0), .second, .val (.long i1), .second, .val (.int i2), .val (.long lf), .second, .val (.long rg), .second, .val (.long (own_ex lf rg)), .second] [(.int (lcmpW (own_mp lf rg) (own_ex lf rg)))])) _
      refine XS.ifNo X4.here hx rfl (hb hby at_83) rfl (own_eq_t hEq).2 ?_
      show Steps p.tables e below (T4.setTop (mkF m 86 #[.val (.long i0), .second, .val (.long i1), .second, .val (.int i2), .val (.long lf), .second, .val (.long rg), .second, .val (.long (own_ex lf rg)), .second] [])) _
      refine XS.iconst X4.here hx rfl (hb hby at_86) ?_
      show Steps p.tables e below (T4.setTop (mkF m 87 #[.val (.long i0), .second, .val (.long i1), .second, .val (.int i2), .val (.long lf), .second, .val (.long rg), .second, .val (.long (own_ex lf rg)), .second] [(.int (1 : Int32))])) _
      refine XS.goto X4.here hx rfl (pc0 := 87) (pc' := 91) rfl (hb hby at_87) (by decide) (by decide) ?_
      show Steps p.tables e below (T4.setTop (mkF m 91 #[.val (.long i0), .second, .val (.long i1), .second, .val (.int i2), .val (.long lf), .second, .val (.long rg), .second, .val (.long (own_ex lf rg)), .second] [(.int (1 : Int32))])) _
      exact retN X4 hx (t := .boolean) Bd.returns (by simp) (hb hby at_91) hr
    · show Q0 h0 n0 _ T4.heap _
      exact ⟨rfl, N4⟩
set_option maxRecDepth 65536 in
set_option maxHeartbeats 40000000 in
theorem comes_1 {Post : Tables → Env → Array Value → State → Outcome → State → Prop} (hpost : ∀ tb e args s v u, (limb_1_1.after args s (.returned v) u = true ∧ limb_1_2.after args s (.returned v) u = true ∧ True) → FrameEnd s (.returned v) u (Jvm.fieldLocs frame_1_writes args s ++ Jvm.arrayLocs frame_1_arrays args s ++ Jvm.staticLocs frame_1_statics s) 0 0 → Post tb e args s (.returned v) u) :
    ArmFor flags0 classFile x code maxLocals ret World_1 tables_1 room_1 Calls_1 rest_1 Pre_1 Post := by
  intro l hfl _ _ p e ha hc hk s m args below hf hA hF happ hP
  obtain ⟨hcalls, hrest, hpre⟩ := hP
  obtain ⟨-, -, -, hnamed, -, -, -, hat⟩ := (Spec.applies_iff hf).mp happ
  obtain ⟨hg, hn⟩ := and_e (Cond.before_iff.mp (show (Jvm.Cond.and given_1 narrow_1).before args s = true from hpre))
  obtain ⟨hv0, hu0⟩ := and_e hg
  obtain ⟨hv1, hu1⟩ := and_e hu0
  obtain ⟨hv2, hu2⟩ := and_e hu1
  obtain ⟨w0, w1, w2, rfl⟩ : ∃ w0 w1 w2 : Value, args = #[w0, w1, w2] := by
    have hs : args.size = 3 := by simpa [Cond.value, given_1] using hv0
    obtain ⟨L⟩ := args
    match L, hs with
    | [w0, w1, w2], _ => exact ⟨w0, w1, w2, rfl⟩
  have hw := fun d (hd : d ∈ tables_1) => atoms_spec (ws := Jvm.Cond.code x code maxLocals ret :: tables_1) hat d (List.mem_cons_of_mem _ hd)
  obtain ⟨i0, ei0⟩ := isL_v hv1
  obtain rfl : w0 = (.long i0) := Option.some.inj ei0
  obtain ⟨i1, ei1⟩ := isL_v hv2
  obtain rfl : w1 = (.long i1) := Option.some.inj ei1
  obtain ⟨i2, ei2⟩ := is_v hu2
  obtain rfl : w2 = (.int i2) := Option.some.inj ei2
  obtain ⟨n, o, h1, h2, h3, _, L, rfl, ⟨rfl, N⟩, hq⟩ := rm0 l s _ hw tables_1 i0 i1 i2 s.heap s.heap.size (Nat.le_refl _)  p e ha hc hk s m _ below hf ((Spec.applies_iff_loose hf).mp happ).1 ⟨rfl, State.Warmed39.refl s, rfl⟩ trivial
  refine ⟨n, _, h1, h2, h3, hpost _ _ _ _ _ _ ⟨Cond.after_iff.mpr rfl, Cond.after_iff.mpr (eq_i res_at (Term.int_eval (1)) rfl), trivial⟩ ⟨hq.1, hq.2.1, (hq.2.2.sift fun y hy => Or.inr (N y hy)).mono (by decide) (by decide)⟩⟩
theorem main_1_1 : Claimed_1_1 := comes_1 fun _ _ _ _ _ _ h hF => ⟨h.1, hF⟩
theorem main_1_2 : Claimed_1_2 := comes_1 fun _ _ _ _ _ _ h hF => ⟨h.2.1, hF⟩
end Jvm.Pilot.@@N@@
namespace Jvm.Pilot.@@N@@
open Jvm Jvm.ClassFile Sem Op Lib Jvm.Free Jvm.Stand Jvm.Pilot.@@N@@.Jvm.D
/-! MADE BY PROGRAM (witnessworld.py) out of the Statement's table words and the real class files: 9 classes; the members and pool entries that the words name. The judged class is class 1, her method 3. -/
namespace start1
open Jvm.ClassFile
def u (s : String) : CpInfo := .utf8 (stringToUtf16 s)
/-- a pool by its gaps: so many unusable entries, then the entry; so many at the end -/
def gap : Nat → List CpInfo → List CpInfo
  | 0, r => r
  | n + 1, r => .unusable :: gap n r
def poolList (es : List (Nat × CpInfo)) (last : Nat) : List CpInfo := es.foldr (fun e r => gap e.1 (e.2 :: r)) (gap last [])
def pool (es : List (Nat × CpInfo)) (last : Nat) : Array CpInfo := ⟨poolList es last⟩
def fileOf (pool : Array CpInfo) (this : Nat) (attrs : Array Attribute := #[]) (ms : Array MethodInfo := #[]) (fl : Nat := 33) (sup : Nat := 0) (ifs : Array Nat := #[]) (fds : Array FieldInfo := #[]) : ClassFile where
  minorVersion := 0
  majorVersion := 65
  constantPool := pool
  accessFlags := fl
  thisClass := this
  superClass := sup
  interfaces := ifs
  fields := fds
  methods := ms
  attributes := attrs
def plain (name : String) (sup : Option ClassId) : Class where
  name := name
  kind := .ordinary
  loader := none
  accessFlags := 33
  super := sup
  interfaces := #[]
  cf := none
  fields := #[]
  methods := #[]
  instanceTypes := #[]
  staticTypes := #[]
  resolved := #[]
  callSites := []
  init := .initialized
  statics := none
  mirror := none

def pool0 : Array CpInfo := pool [(5, u "<init>"), (0, u "()V"), (1, .class_ 10), (1, u "java/lang/Object")] 113

def k0m0 : Method := { name := "<init>", desc := "()V", sig := { parameters := [], returnType := none }, accessFlags := 1, code := none }
/-- java/lang/Object -/
def k0 : Class := { plain "java/lang/Object" none with
  accessFlags := 33
  interfaces := #[]
  cf := some (fileOf pool0 8 #[] #[{ accessFlags := 1, nameIndex := 5, descriptorIndex := 6, attributes := #[] }] 33 0 #[] #[])
  fields := #[]
  methods := #[k0m0]
  instanceTypes := #[]
  staticTypes := #[]
  resolved := Array.replicate 124 none
  statics := none }

def pool1 : Array CpInfo := pool [(2, .class_ 4), (1, u "java/lang/Object"), (0, u "<init>"), (0, u "()V"), (0, .long 18446744073709551615), (3, .long 9223372036854775807), (1, .long 4294967295), (1, .long 2147483648), (1, .methodref 18 19), (0, .class_ 20), (0, .nameAndType 21 22), (0, u "com/example/kingsnake/kingsnake/schema/content/ContentModelMaximumProductPinLaw"), (0, u "pick"), (0, u "(JI)J"), (0, .methodref 18 24), (0, .nameAndType 25 26), (0, u "exactOrUnbounded"), (0, u "(JJ)J"), (0, .methodref 28 29), (0, .class_ 30), (0, .nameAndType 31 26), (0, u "com/example/kingsnake/kingsnake/schema/content/ContentModel"), (0, u "maximumProduct"), (3, u "law"), (0, u "(JJI)Z")] 2

def k1m0 : Method := { name := "<init>", desc := "()V", sig := { parameters := [], returnType := none }, accessFlags := 1, code := none }
def k1c1 : Code := { maxStack := 4, maxLocals := 4, code := method_2_code, exceptionTable := #[], attributes := #[] }
def k1m1 : Method := { name := "pick", desc := "(JI)J", sig := { parameters := [.long, .int], returnType := some .long }, accessFlags := 10, code := some k1c1 }
def k1c2 : Code := { maxStack := 6, maxLocals := 18, code := method_3_code, exceptionTable := #[], attributes := #[] }
def k1m2 : Method := { name := "exactOrUnbounded", desc := "(JJ)J", sig := { parameters := [.long, .long], returnType := some .long }, accessFlags := 10, code := some k1c2 }
def k1c3 : Code := { maxStack := 4, maxLocals := 11, code := code, exceptionTable := #[], attributes := #[] }
def k1m3 : Method := { name := "law", desc := "(JJI)Z", sig := { parameters := [.long, .long, .int], returnType := some .boolean }, accessFlags := 9, code := some k1c3 }
/-- com/example/kingsnake/kingsnake/schema/content/ContentModelMaximumProductPinLaw -/
def k1 : Class := { plain "com/example/kingsnake/kingsnake/schema/content/ContentModelMaximumProductPinLaw" (some 0) with
  accessFlags := 49
  interfaces := #[]
  cf := some (fileOf pool1 18 #[] #[{ accessFlags := 1, nameIndex := 5, descriptorIndex := 6, attributes := #[] }, { accessFlags := 10, nameIndex := 21, descriptorIndex := 22, attributes := #[] }, { accessFlags := 10, nameIndex := 25, descriptorIndex := 26, attributes := #[] }, { accessFlags := 9, nameIndex := 35, descriptorIndex := 36, attributes := #[] }] 49 2 #[] #[])
  fields := #[]
  methods := #[k1m0, k1m1, k1m2, k1m3]
  instanceTypes := #[]
  staticTypes := #[]
  resolved := Array.replicate 39 none
  statics := none }

def pool2 : Array CpInfo := pool [(2, .class_ 4), (1, u "java/lang/Object"), (3, .class_ 10), (1, u "com/example/kingsnake/kingsnake/schema/content/ContentModel"), (0, u "hash"), (0, u "I"), (2, u "minLength"), (0, u "J"), (2, u "maxLength"), (2, u "EMPTY"), (0, u "Lcom/example/kingsnake/kingsnake/schema/content/ContentModel;"), (36, u "NOTHING"), (57, .long 18446744073709551615), (45, .class_ 165), (0, u "com/example/kingsnake/kingsnake/schema/content/ContentModel$Match"), (191, .class_ 358), (0, u "com/example/kingsnake/kingsnake/schema/content/ContentModel$Offered"), (4, .class_ 365), (1, u "com/example/kingsnake/kingsnake/schema/content/ContentModel$LeadingRepeat"), (13, u "(JJ)J"), (84, .long 9223372036854775807), (66, u "UNBOUNDED"), (44, u "maximumProduct"), (26, .class_ 604), (0, u "com/example/kingsnake/kingsnake/schema/content/ContentModel$Occurrences"), (0, .class_ 606), (0, u "com/example/kingsnake/kingsnake/schema/content/ContentModel$OpenCovering")] 72

def k2c0 : Code := { maxStack := 6, maxLocals := 6, code := prog_188_method_44_code, exceptionTable := #[], attributes := #[] }
def k2m0 : Method := { name := "maximumProduct", desc := "(JJ)J", sig := { parameters := [.long, .long], returnType := some .long }, accessFlags := 8, code := some k2c0 }
/-- com/example/kingsnake/kingsnake/schema/content/ContentModel -/
def k2 : Class := { plain "com/example/kingsnake/kingsnake/schema/content/ContentModel" (some 0) with
  accessFlags := 1057
  interfaces := #[]
  cf := some (fileOf pool2 8 #[.nestMembers #[357, 363, 164, 603, 605]] #[{ accessFlags := 8, nameIndex := 576, descriptorIndex := 379, attributes := #[] }] 1057 2 #[] #[{ accessFlags := 25, nameIndex := 531, descriptorIndex := 16, attributes := #[] }, { accessFlags := 24, nameIndex := 60, descriptorIndex := 23, attributes := #[] }, { accessFlags := 24, nameIndex := 22, descriptorIndex := 23, attributes := #[] }, { accessFlags := 18, nameIndex := 11, descriptorIndex := 12, attributes := #[] }, { accessFlags := 18, nameIndex := 15, descriptorIndex := 16, attributes := #[] }, { accessFlags := 18, nameIndex := 19, descriptorIndex := 16, attributes := #[] }])
  fields := #[{ name := "UNBOUNDED", type := .long, accessFlags := 25, slot := 0, constantValue := 0 }, { name := "NOTHING", type := (.object "com/example/kingsnake/kingsnake/schema/content/ContentModel"), accessFlags := 24, slot := 1, constantValue := 0 }, { name := "EMPTY", type := (.object "com/example/kingsnake/kingsnake/schema/content/ContentModel"), accessFlags := 24, slot := 2, constantValue := 0 }, { name := "hash", type := .int, accessFlags := 18, slot := 0, constantValue := 0 }, { name := "minLength", type := .long, accessFlags := 18, slot := 1, constantValue := 0 }, { name := "maxLength", type := .long, accessFlags := 18, slot := 2, constantValue := 0 }]
  methods := #[k2m0]
  instanceTypes := #[.int, .long, .long]
  staticTypes := #[.long, (.object "com/example/kingsnake/kingsnake/schema/content/ContentModel"), (.object "com/example/kingsnake/kingsnake/schema/content/ContentModel")]
  resolved := Array.replicate 679 none
  statics := none }

def pool3 : Array CpInfo := pool [(1, u "java/lang/Cloneable"), (0, .class_ 1), (0, u "java/lang/Object"), (0, .class_ 3)] 3

/-- java/lang/Cloneable -/
def k3 : Class := { plain "java/lang/Cloneable" (some 0) with
  accessFlags := 1537
  interfaces := #[]
  cf := some (fileOf pool3 2 #[] #[] 1537 4 #[] #[])
  fields := #[]
  methods := #[]
  instanceTypes := #[]
  staticTypes := #[]
  resolved := Array.replicate 8 none
  statics := none }

def pool4 : Array CpInfo := pool [(1, u "java/io/Serializable"), (0, .class_ 1), (0, u "java/lang/Object"), (0, .class_ 3)] 3

/-- java/io/Serializable -/
def k4 : Class := { plain "java/io/Serializable" (some 0) with
  accessFlags := 1537
  interfaces := #[]
  cf := some (fileOf pool4 2 #[] #[] 1537 4 #[] #[])
  fields := #[]
  methods := #[]
  instanceTypes := #[]
  staticTypes := #[]
  resolved := Array.replicate 8 none
  statics := none }

/-- the primitive byte -/
def k5 : Class := { plain "byte" none with kind := .primitive 'B', accessFlags := 0x411 }
/-- [B -/
def k6 : Class := { plain "[B" (some 0) with kind := .array 5 .byte, interfaces := #[3, 4], accessFlags := 1041 }

/-- the primitive int -/
def k7 : Class := { plain "int" none with kind := .primitive 'I', accessFlags := 0x411 }
/-- [I -/
def k8 : Class := { plain "[I" (some 0) with kind := .array 7 .int, interfaces := #[3, 4], accessFlags := 1041 }

def heap : Heap := #[]
def classes : Array Class := #[k0, k1, k2, k3, k4, k5, k6, k7, k8]
def interned : List (Array UInt16 × Addr) := []
def slotsUsed : Nat := 0
def theMethod : MethodId := ⟨1, 3⟩
def args0 : Array Value := #[.long 5, .long 7, .int 10]
def aboutOver (below : List Frame) : State where
  vm := { classes := classes, interned := interned.toArray }
  heap := heap
  slotsUsed := slotsUsed
  threads := #[{ frames := .invoking theMethod args0 :: below }]
def below0 : List Frame := [.native { method := ⟨0, 0⟩, args := #[] }]
def about1 : State := aboutOver below0
def p0 : Program := .bare "" "" ""
def e0 : Env := launch0.env 0 0 0
theorem w_frames : about1.frames = Frame.invoking theMethod args0 :: below0 := rfl
set_option maxRecDepth 65536 in
theorem w_args : argsFit about1.vm theMethod args0 = true := by decide +kernel
set_option maxRecDepth 65536 in
theorem w_heap : heapFits about1 = true := by decide +kernel
set_option maxRecDepth 65536 in
theorem w_runnable : about1.curStatus? = some .runnable := by decide +kernel
set_option maxRecDepth 65536 in
theorem w_alone : about1.alone = true := by decide +kernel
set_option maxRecDepth 65536 in
theorem w_named : about1.methodNamed? x = some theMethod := by decide +kernel
set_option maxRecDepth 65536 in
theorem w_hears : about1.hears theMethod below0 = true := by decide +kernel
set_option maxRecDepth 65536 in
theorem w_ripe : about1.ripe theMethod args0 below0 = true := by decide +kernel
theorem w_running : about1.status = .running := rfl
set_option maxRecDepth 65536 in
theorem w_room : about1.hasRoom e0.platform room_1 = true :=
  launch0.hasRoom_least _ room_1 (by decide +kernel) (by decide +kernel) (by decide +kernel) (by decide +kernel) (by decide +kernel) (by decide +kernel)
theorem allAtoms_all (ts : List Jvm.Cond) (a : Array Jvm.Value) (st : Jvm.State) : (allAtoms ts).before a st = ts.all (fun c => c.before a st) := by
  induction ts with
  | nil => rfl
  | cons c t ih =>
    show (Jvm.Cond.and c (allAtoms t)).before a st = _
    rw [Jvm.Cond.before_and, ih, List.all_cons]
def words1 : List Jvm.Cond := Jvm.Cond.code x code maxLocals ret :: tables_1
/-- a 'code' word, met by the world's own term for the bytes: nothing is compared byte by byte -/
theorem code_word {y : MethodName} {bytes : ByteArray} {mx : Nat} {rt : Option FieldType} {a : Array Value} {s : State} {m : MethodId} {meth : Method} {c : Code} (h1 : s.methodNamed? y = some m) (h2 : s.vm.method? m = some meth) (h3 : meth.code = some c) (h4 : c.code = bytes)
    (h5 : (c.maxLocals == mx && c.exceptionTable.isEmpty && decide (c.maxStack ≤ mostOperands) && decide (meth.sig.returnType = rt) && !meth.locks && decide (parseMethodDescriptor y.desc = some meth.sig)) = true) : (Jvm.Cond.code y bytes mx rt).before a s = true := by
  simp only [Bool.and_eq_true, beq_iff_eq, Bool.not_eq_true', decide_eq_true_eq] at h5
  obtain ⟨⟨⟨⟨⟨g1, g2⟩, g3⟩, g4⟩, g5⟩, g6⟩ := h5
  simp [Cond.before, Cond.holds, Cond.value, h1, h2, h3, h4, g1, g2, g3, g4, g5, g6]
def isCode : Jvm.Cond → Bool
  | .code _ _ _ _ => true
  | _ => false
theorem all_split {L : List Jvm.Cond} {P : Jvm.Cond → Bool} (h1 : L.all (fun c => isCode c || P c) = true) (h2 : ∀ c ∈ L.filter isCode, P c = true) : L.all P = true := by
  refine List.all_eq_true.mpr fun c hc => ?_
  have h := List.all_eq_true.mp h1 c hc
  rcases Bool.eq_false_or_eq_true (isCode c) with hi | hi
  · exact h2 c (List.mem_filter.mpr ⟨hc, hi⟩)
  · simpa [hi] using h
set_option maxRecDepth 65536 in
theorem w_c0 : (Jvm.Cond.code x code maxLocals ret).before args0 about1 = true := code_word (m := ⟨1, 3⟩) (meth := k1m3) (c := k1c3) (by decide +kernel) rfl rfl rfl (by decide +kernel)
set_option maxRecDepth 65536 in
theorem w_c1 : (Jvm.Cond.code ({ cls := "com/example/kingsnake/kingsnake/schema/content/ContentModelMaximumProductPinLaw", name := "pick", desc := "(JI)J" } : Jvm.MethodName) method_2_code (4 : Nat) (Option.some Jvm.ClassFile.FieldType.long)).before args0 about1 = true := code_word (m := ⟨1, 1⟩) (meth := k1m1) (c := k1c1) (by decide +kernel) rfl rfl rfl (by decide +kernel)
set_option maxRecDepth 65536 in
theorem w_c2 : (Jvm.Cond.code ({ cls := "com/example/kingsnake/kingsnake/schema/content/ContentModel", name := "maximumProduct", desc := "(JJ)J" } : Jvm.MethodName) prog_188_method_44_code (6 : Nat) (Option.some Jvm.ClassFile.FieldType.long)).before args0 about1 = true := code_word (m := ⟨2, 0⟩) (meth := k2m0) (c := k2c0) (by decide +kernel) rfl rfl rfl (by decide +kernel)
set_option maxRecDepth 65536 in
theorem w_c3 : (Jvm.Cond.code ({ cls := "com/example/kingsnake/kingsnake/schema/content/ContentModelMaximumProductPinLaw", name := "exactOrUnbounded", desc := "(JJ)J" } : Jvm.MethodName) method_3_code (18 : Nat) (Option.some Jvm.ClassFile.FieldType.long)).before args0 about1 = true := code_word (m := ⟨1, 2⟩) (meth := k1m2) (c := k1c2) (by decide +kernel) rfl rfl rfl (by decide +kernel)
def codes1 : List Jvm.Cond := [Jvm.Cond.code x code maxLocals ret, Jvm.Cond.code ({ cls := "com/example/kingsnake/kingsnake/schema/content/ContentModelMaximumProductPinLaw", name := "pick", desc := "(JI)J" } : Jvm.MethodName) method_2_code (4 : Nat) (Option.some Jvm.ClassFile.FieldType.long), Jvm.Cond.code ({ cls := "com/example/kingsnake/kingsnake/schema/content/ContentModel", name := "maximumProduct", desc := "(JJ)J" } : Jvm.MethodName) prog_188_method_44_code (6 : Nat) (Option.some Jvm.ClassFile.FieldType.long), Jvm.Cond.code ({ cls := "com/example/kingsnake/kingsnake/schema/content/ContentModelMaximumProductPinLaw", name := "exactOrUnbounded", desc := "(JJ)J" } : Jvm.MethodName) method_3_code (18 : Nat) (Option.some Jvm.ClassFile.FieldType.long)]
set_option maxRecDepth 65536 in
theorem codes_eq : words1.filter isCode = codes1 := rfl
theorem w_codes : ∀ c ∈ words1.filter isCode, c.before args0 about1 = true := by
  rw [codes_eq]
  intro c hc
  simp only [codes1, List.mem_cons, List.not_mem_nil, or_false] at hc
  rcases hc with rfl | rfl | rfl | rfl
  · exact w_c0
  · exact w_c1
  · exact w_c2
  · exact w_c3
set_option maxRecDepth 65536 in
theorem w_t1 : words1.all (fun c => isCode c || c.before args0 about1) = true := by decide +kernel
theorem w_tables : (allAtoms (Jvm.Cond.code x code maxLocals ret :: tables_1)).before args0 about1 = true := by
  rw [allAtoms_all]
  show words1.all (fun c => c.before args0 about1) = true
  refine all_split ?_ w_codes
  rw [w_t1]
set_option maxRecDepth 65536 in
theorem w_case : (Jvm.Cond.and given_1 narrow_1).before args0 about1 = true := by decide +kernel
theorem w_applies : (headSpec (Jvm.Cond.code x code maxLocals ret :: tables_1) room_1).applies x e0.platform about1 = true :=
  (Spec.applies_iff w_frames).mpr ⟨w_running, w_runnable, w_alone, w_named, w_hears, w_ripe, w_room, w_tables⟩
theorem atStart : AtStart classFile x code maxLocals ret World_1 tables_1 room_1 Calls_1 rest_1 Pre_1 launch0 p0 e0 about1 theMethod args0 below0 :=
  ⟨lists_1, trivial, launch0.admits_env _ _ _, launch0.least_env, fairChoices_fair.cas, fairChoices_fair.clock, w_frames, w_args, w_heap, w_applies, trivial, trivial, w_case⟩
end start1
theorem witness_1 : WitnessClaimed_1 := ⟨start1.p0, start1.e0, start1.about1, start1.theMethod, start1.args0, start1.below0, start1.atStart⟩
end Jvm.Pilot.@@N@@
