import JvmDerived
import JvmDerived.Pilot.@@N@@Statement
import JvmDerived.Pilot.@@N@@Code
set_option linter.unusedVariables false
set_option linter.unusedSimpArgs false
namespace Jvm.RoadKit
open Sem ClassFile Op Lib Jvm.Stand Jvm.Free Jvm.LawKit
section New
variable {p : Program} {l : Launch} {e : Env} {R : Room} {s : State} {m : MethodId} {args : Array Value} {below : List Frame} {meth : Method} {c : Code} {T : State} {locs : List Loc} {cells slots : Nat}
theorem retI (X : Stand p l e R s m args below meth c T locs cells slots) (hx : p.tables.exec = Jvm.exec) {pc : Nat} {Ls : Array Slot} {z : Int32} {rest : List Value} (hret : meth.sig.returnType = some .int) (hd : decode c.code pc = .ok (.ireturn, 1)) {fs : List Frame}
    (hl : ∀ (f : JFrame) (acts : List Action), f.method = m → f.locked = none → f.entered = [] → (doReturn e (T.setTop f) acts (some (.int z))).1 = T.setFrames fs) : Steps p.tables e below (T.setTop (mkF m pc Ls (.int z :: rest))) (T.setFrames fs) := by
  have hm' : T.vm.method? m = some meth := X.method'
  have hn : narrow .int (.int z) = .int z := rfl
  show Steps p.tables e below (T.setTop { method := m, pc := pc, locals := Ls, stack := _ :: rest, locked := none }) _
  jvm_step X.here [X.here.top, hx, hd, hm', hret, hn]
  first | (intro acts; rw [hl _ acts rfl rfl rfl]) | rw [hl _ _ rfl rfl rfl]
  exact Steps.refl _
end New
end Jvm.RoadKit
namespace Jvm.Pilot.@@N@@
open Jvm Jvm.ClassFile Sem Op Lib Jvm.Free Jvm.Stand Jvm.LawKit Jvm.RoadKit Bundle Jvm.Pilot.@@N@@.Jvm.D
theorem own_lt_t {x y : Int64} (h : x < y) : ifCond.holds .lt (lcmpW x y) = true ∧ ifCond.holds .ge (lcmpW x y) = false := by
  rw [if0, if0]; exact ⟨(tlt ((lw_lt x y).mpr h)).1, (tlt ((lw_lt x y).mpr h)).2.1⟩
theorem own_lt_f {x y : Int64} (h : ¬ x < y) : ifCond.holds .lt (lcmpW x y) = false ∧ ifCond.holds .ge (lcmpW x y) = true := by
  have h2 : ¬ lcmpW x y < 0 := fun q => h ((lw_lt x y).mp q)
  rw [if0, if0]; exact ⟨(flt h2).1, (flt h2).2.1⟩
theorem own_gt_t {x y : Int64} (h : y < x) : ifCond.holds .gt (lcmpW x y) = true ∧ ifCond.holds .le (lcmpW x y) = false := by
  have h2 : 0 < lcmpW x y := (lw_gt x y).mpr h
  rw [if0, if0]; exact ⟨(tlt h2).2.2.1, (tlt h2).2.2.2⟩
theorem own_gt_f {x y : Int64} (h : ¬ y < x) : ifCond.holds .gt (lcmpW x y) = false ∧ ifCond.holds .le (lcmpW x y) = true := by
  have h2 : ¬ 0 < lcmpW x y := fun q => h ((lw_gt x y).mp q)
  rw [if0, if0]; exact ⟨(flt h2).2.2.1, (flt h2).2.2.2⟩
theorem own_eq_t {x y : Int64} (h : x = y) : ifCond.holds .eq (lcmpW x y) = true ∧ ifCond.holds .ne (lcmpW x y) = false := by
  have h2 : lcmpW x y = 0 := (lw_eq x y).mpr h
  rw [if0, if0]; exact ⟨(teq h2).1, (teq h2).2⟩
theorem own_eq_f {x y : Int64} (h : ¬ x = y) : ifCond.holds .eq (lcmpW x y) = false ∧ ifCond.holds .ne (lcmpW x y) = true := by
  have h2 : ¬ lcmpW x y = 0 := fun q => h ((lw_eq x y).mp q)
  rw [if0, if0]; exact ⟨(feq h2).1, (feq h2).2⟩
theorem d1_0 : decode method_3_code 0 = .ok (.iload_n 0, 1) := by decide +kernel
theorem d1_1 : decode method_3_code 1 = .ok (.iload_n 1, 1) := by decide +kernel
theorem d1_2 : decode method_3_code 2 = .ok (.iushr, 1) := by decide +kernel
theorem d1_3 : decode method_3_code 3 = .ok (.iconst 3, 1) := by decide +kernel
theorem d1_4 : decode method_3_code 4 = .ok (.iand, 1) := by decide +kernel
theorem d1_5 : decode method_3_code 5 = .ok (.istore_n 3, 1) := by decide +kernel
theorem d1_6 : decode method_3_code 6 = .ok (.iload_n 3, 1) := by decide +kernel
theorem d1_7 : decode method_3_code 7 = .ok (.ifCond .ne 6, 3) := by decide +kernel
theorem d1_10 : decode method_3_code 10 = .ok (.bipush 10, 2) := by decide +kernel
theorem d1_12 : decode method_3_code 12 = .ok (.ireturn, 1) := by decide +kernel
theorem d1_13 : decode method_3_code 13 = .ok (.iload_n 3, 1) := by decide +kernel
theorem d1_14 : decode method_3_code 14 = .ok (.iconst 1, 1) := by decide +kernel
theorem d1_15 : decode method_3_code 15 = .ok (.if_icmp .ne 6, 3) := by decide +kernel
theorem d1_18 : decode method_3_code 18 = .ok (.bipush 13, 2) := by decide +kernel
theorem d1_20 : decode method_3_code 20 = .ok (.ireturn, 1) := by decide +kernel
theorem d1_21 : decode method_3_code 21 = .ok (.iload_n 2, 1) := by decide +kernel
theorem d1_22 : decode method_3_code 22 = .ok (.ireturn, 1) := by decide +kernel
theorem pn_1 : plainName "com/example/kingsnake/kingsnake/core/CounterCountPinLaw" = true := by first | (simp [plainName, overriddenIn]; done) | decide +kernel
theorem pd_1 : parseMethodDescriptor "(III)I" = some ⟨[.int, .int, .int], some .int⟩ := by decide +kernel
theorem ef_1 (m : MethodId) (x0 : Int32) (x1 : Int32) (x2 : Int32) : entryFrame m #[(.int x0), (.int x1), (.int x2)] 4 = mkF m 0 #[.val (.int x0), .val (.int x1), .val (.int x2), .unset] [] := by first | (simp [entryFrame, mkF, argsToLocals, Value.category, maxLocals]; done) | rfl
theorem d2_0 : decode prog_22_method_1_code 0 = .ok (.aload_n 0, 1) := by decide +kernel
theorem d2_1 : decode prog_22_method_1_code 1 = .ok (.invokespecial 1, 3) := by decide +kernel
theorem d2_4 : decode prog_22_method_1_code 4 = .ok (.aload_n 0, 1) := by decide +kernel
theorem d2_5 : decode prog_22_method_1_code 5 = .ok (.iload_n 1, 1) := by decide +kernel
theorem d2_6 : decode prog_22_method_1_code 6 = .ok (.putfield 7, 3) := by decide +kernel
theorem d2_9 : decode prog_22_method_1_code 9 = .ok (.aload_n 0, 1) := by decide +kernel
theorem d2_10 : decode prog_22_method_1_code 10 = .ok (.iload_n 2, 1) := by decide +kernel
theorem d2_11 : decode prog_22_method_1_code 11 = .ok (.putfield 13, 3) := by decide +kernel
theorem d2_14 : decode prog_22_method_1_code 14 = .ok (.return_, 1) := by decide +kernel
theorem pn_2 : plainName "com/example/kingsnake/kingsnake/core/ReadPosition$Counter" = true := by first | (simp [plainName, overriddenIn]; done) | decide +kernel
theorem pd_2 : parseMethodDescriptor "(II)V" = some ⟨[.int, .int], none⟩ := by decide +kernel
theorem ef_2 (m : MethodId) (x0 : Addr) (x1 : Int32) (x2 : Int32) : entryFrame m #[(.ref x0), (.int x1), (.int x2)] 3 = mkF m 0 #[.val (.ref x0), .val (.int x1), .val (.int x2)] [] := by first | (simp [entryFrame, mkF, argsToLocals, Value.category, maxLocals]; done) | rfl
theorem d4_0 : decode method_4_code 0 = .ok (.iload_n 2, 1) := by decide +kernel
theorem d4_1 : decode method_4_code 1 = .ok (.bipush 10, 2) := by decide +kernel
theorem d4_3 : decode method_4_code 3 = .ok (.if_icmp .ne 13, 3) := by decide +kernel
theorem d4_6 : decode method_4_code 6 = .ok (.iload_n 3, 1) := by decide +kernel
theorem d4_7 : decode method_4_code 7 = .ok (.bipush 13, 2) := by decide +kernel
theorem d4_9 : decode method_4_code 9 = .ok (.if_icmp .ne 7, 3) := by decide +kernel
theorem d4_12 : decode method_4_code 12 = .ok (.iconst 1, 1) := by decide +kernel
theorem d4_13 : decode method_4_code 13 = .ok (.goto 4, 3) := by decide +kernel
theorem d4_16 : decode method_4_code 16 = .ok (.iconst 0, 1) := by decide +kernel
theorem d4_17 : decode method_4_code 17 = .ok (.istore 4, 2) := by decide +kernel
theorem d4_19 : decode method_4_code 19 = .ok (.iload_n 2, 1) := by decide +kernel
theorem d4_20 : decode method_4_code 20 = .ok (.bipush 13, 2) := by decide +kernel
theorem d4_22 : decode method_4_code 22 = .ok (.if_icmp .eq 14, 3) := by decide +kernel
theorem d4_25 : decode method_4_code 25 = .ok (.iload_n 2, 1) := by decide +kernel
theorem d4_26 : decode method_4_code 26 = .ok (.bipush 10, 2) := by decide +kernel
theorem d4_28 : decode method_4_code 28 = .ok (.if_icmp .ne 12, 3) := by decide +kernel
theorem d4_31 : decode method_4_code 31 = .ok (.iload 4, 2) := by decide +kernel
theorem d4_33 : decode method_4_code 33 = .ok (.ifCond .ne 7, 3) := by decide +kernel
theorem d4_36 : decode method_4_code 36 = .ok (.iconst 1, 1) := by decide +kernel
theorem d4_37 : decode method_4_code 37 = .ok (.goto 4, 3) := by decide +kernel
theorem d4_40 : decode method_4_code 40 = .ok (.iconst 0, 1) := by decide +kernel
theorem d4_41 : decode method_4_code 41 = .ok (.istore 5, 2) := by decide +kernel
theorem d4_43 : decode method_4_code 43 = .ok (.iload 5, 2) := by decide +kernel
theorem d4_45 : decode method_4_code 45 = .ok (.ifCond .eq 18, 3) := by decide +kernel
theorem d4_48 : decode method_4_code 48 = .ok (.aload_n 1, 1) := by decide +kernel
theorem d4_49 : decode method_4_code 49 = .ok (.iconst 0, 1) := by decide +kernel
theorem d4_50 : decode method_4_code 50 = .ok (.aload_n 1, 1) := by decide +kernel
theorem d4_51 : decode method_4_code 51 = .ok (.iconst 0, 1) := by decide +kernel
theorem d4_52 : decode method_4_code 52 = .ok (.iaload, 1) := by decide +kernel
theorem d4_53 : decode method_4_code 53 = .ok (.iconst 1, 1) := by decide +kernel
theorem d4_54 : decode method_4_code 54 = .ok (.iadd, 1) := by decide +kernel
theorem d4_55 : decode method_4_code 55 = .ok (.iastore, 1) := by decide +kernel
theorem d4_56 : decode method_4_code 56 = .ok (.aload_n 1, 1) := by decide +kernel
theorem d4_57 : decode method_4_code 57 = .ok (.iconst 1, 1) := by decide +kernel
theorem d4_58 : decode method_4_code 58 = .ok (.iconst 1, 1) := by decide +kernel
theorem d4_59 : decode method_4_code 59 = .ok (.iastore, 1) := by decide +kernel
theorem d4_60 : decode method_4_code 60 = .ok (.goto 16, 3) := by decide +kernel
theorem d4_63 : decode method_4_code 63 = .ok (.iload 4, 2) := by decide +kernel
theorem d4_65 : decode method_4_code 65 = .ok (.ifCond .ne 11, 3) := by decide +kernel
theorem d4_68 : decode method_4_code 68 = .ok (.aload_n 1, 1) := by decide +kernel
theorem d4_69 : decode method_4_code 69 = .ok (.iconst 1, 1) := by decide +kernel
theorem d4_70 : decode method_4_code 70 = .ok (.aload_n 1, 1) := by decide +kernel
theorem d4_71 : decode method_4_code 71 = .ok (.iconst 1, 1) := by decide +kernel
theorem d4_72 : decode method_4_code 72 = .ok (.iaload, 1) := by decide +kernel
theorem d4_73 : decode method_4_code 73 = .ok (.iconst 1, 1) := by decide +kernel
theorem d4_74 : decode method_4_code 74 = .ok (.iadd, 1) := by decide +kernel
theorem d4_75 : decode method_4_code 75 = .ok (.iastore, 1) := by decide +kernel
theorem d4_76 : decode method_4_code 76 = .ok (.aload_n 0, 1) := by decide +kernel
theorem d4_77 : decode method_4_code 77 = .ok (.iload_n 2, 1) := by decide +kernel
theorem d4_78 : decode method_4_code 78 = .ok (.invokevirtual 22, 3) := by decide +kernel
theorem d4_81 : decode method_4_code 81 = .ok (.aload_n 0, 1) := by decide +kernel
theorem d4_82 : decode method_4_code 82 = .ok (.invokevirtual 26, 3) := by decide +kernel
theorem d4_85 : decode method_4_code 85 = .ok (.aload_n 1, 1) := by decide +kernel
theorem d4_86 : decode method_4_code 86 = .ok (.iconst 0, 1) := by decide +kernel
theorem d4_87 : decode method_4_code 87 = .ok (.iaload, 1) := by decide +kernel
theorem d4_88 : decode method_4_code 88 = .ok (.if_icmp .ne 17, 3) := by decide +kernel
theorem d4_91 : decode method_4_code 91 = .ok (.aload_n 0, 1) := by decide +kernel
theorem d4_92 : decode method_4_code 92 = .ok (.invokevirtual 30, 3) := by decide +kernel
theorem d4_95 : decode method_4_code 95 = .ok (.aload_n 1, 1) := by decide +kernel
theorem d4_96 : decode method_4_code 96 = .ok (.iconst 1, 1) := by decide +kernel
theorem d4_97 : decode method_4_code 97 = .ok (.iaload, 1) := by decide +kernel
theorem d4_98 : decode method_4_code 98 = .ok (.if_icmp .ne 7, 3) := by decide +kernel
theorem d4_101 : decode method_4_code 101 = .ok (.iconst 1, 1) := by decide +kernel
theorem d4_102 : decode method_4_code 102 = .ok (.goto 4, 3) := by decide +kernel
theorem d4_105 : decode method_4_code 105 = .ok (.iconst 0, 1) := by decide +kernel
theorem d4_106 : decode method_4_code 106 = .ok (.ireturn, 1) := by decide +kernel
theorem pn_4 : plainName "com/example/kingsnake/kingsnake/core/CounterCountPinLaw" = true := by first | (simp [plainName, overriddenIn]; done) | decide +kernel
theorem pd_4 : parseMethodDescriptor "(Lcom/example/kingsnake/kingsnake/core/ReadPosition$Counter;[III)Z" = some ⟨[(.object "com/example/kingsnake/kingsnake/core/ReadPosition$Counter"), (.array .int), .int, .int], some .boolean⟩ := by decide +kernel
theorem ef_4 (m : MethodId) (x0 : Addr) (x1 : Addr) (x2 : Int32) (x3 : Int32) : entryFrame m #[(.ref x0), (.ref x1), (.int x2), (.int x3)] 6 = mkF m 0 #[.val (.ref x0), .val (.ref x1), .val (.int x2), .val (.int x3), .unset, .unset] [] := by first | (simp [entryFrame, mkF, argsToLocals, Value.category, maxLocals]; done) | rfl
theorem d5_0 : decode prog_22_method_4_code 0 = .ok (.iload_n 1, 1) := by decide +kernel
theorem d5_1 : decode prog_22_method_4_code 1 = .ok (.bipush 10, 2) := by decide +kernel
theorem d5_3 : decode prog_22_method_4_code 3 = .ok (.if_icmp .ne 18, 3) := by decide +kernel
theorem d5_6 : decode prog_22_method_4_code 6 = .ok (.aload_n 0, 1) := by decide +kernel
theorem d5_7 : decode prog_22_method_4_code 7 = .ok (.getfield 16, 3) := by decide +kernel
theorem d5_10 : decode prog_22_method_4_code 10 = .ok (.ifCond .eq 11, 3) := by decide +kernel
theorem d5_13 : decode prog_22_method_4_code 13 = .ok (.aload_n 0, 1) := by decide +kernel
theorem d5_14 : decode prog_22_method_4_code 14 = .ok (.iconst 0, 1) := by decide +kernel
theorem d5_15 : decode prog_22_method_4_code 15 = .ok (.putfield 16, 3) := by decide +kernel
theorem d5_18 : decode prog_22_method_4_code 18 = .ok (.goto 63, 3) := by decide +kernel
theorem d5_21 : decode prog_22_method_4_code 21 = .ok (.iload_n 1, 1) := by decide +kernel
theorem d5_22 : decode prog_22_method_4_code 22 = .ok (.bipush 10, 2) := by decide +kernel
theorem d5_24 : decode prog_22_method_4_code 24 = .ok (.if_icmp .eq 9, 3) := by decide +kernel
theorem d5_27 : decode prog_22_method_4_code 27 = .ok (.iload_n 1, 1) := by decide +kernel
theorem d5_28 : decode prog_22_method_4_code 28 = .ok (.bipush 13, 2) := by decide +kernel
theorem d5_30 : decode prog_22_method_4_code 30 = .ok (.if_icmp .ne 36, 3) := by decide +kernel
theorem d5_33 : decode prog_22_method_4_code 33 = .ok (.aload_n 0, 1) := by decide +kernel
theorem d5_34 : decode prog_22_method_4_code 34 = .ok (.dup, 1) := by decide +kernel
theorem d5_35 : decode prog_22_method_4_code 35 = .ok (.getfield 7, 3) := by decide +kernel
theorem d5_38 : decode prog_22_method_4_code 38 = .ok (.iconst 1, 1) := by decide +kernel
theorem d5_39 : decode prog_22_method_4_code 39 = .ok (.iadd, 1) := by decide +kernel
theorem d5_40 : decode prog_22_method_4_code 40 = .ok (.putfield 7, 3) := by decide +kernel
theorem d5_43 : decode prog_22_method_4_code 43 = .ok (.aload_n 0, 1) := by decide +kernel
theorem d5_44 : decode prog_22_method_4_code 44 = .ok (.iconst 1, 1) := by decide +kernel
theorem d5_45 : decode prog_22_method_4_code 45 = .ok (.putfield 13, 3) := by decide +kernel
theorem d5_48 : decode prog_22_method_4_code 48 = .ok (.aload_n 0, 1) := by decide +kernel
theorem d5_49 : decode prog_22_method_4_code 49 = .ok (.iload_n 1, 1) := by decide +kernel
theorem d5_50 : decode prog_22_method_4_code 50 = .ok (.bipush 13, 2) := by decide +kernel
theorem d5_52 : decode prog_22_method_4_code 52 = .ok (.if_icmp .ne 7, 3) := by decide +kernel
theorem d5_55 : decode prog_22_method_4_code 55 = .ok (.iconst 1, 1) := by decide +kernel
theorem d5_56 : decode prog_22_method_4_code 56 = .ok (.goto 4, 3) := by decide +kernel
theorem d5_59 : decode prog_22_method_4_code 59 = .ok (.iconst 0, 1) := by decide +kernel
theorem d5_60 : decode prog_22_method_4_code 60 = .ok (.putfield 16, 3) := by decide +kernel
theorem d5_63 : decode prog_22_method_4_code 63 = .ok (.goto 18, 3) := by decide +kernel
theorem d5_66 : decode prog_22_method_4_code 66 = .ok (.aload_n 0, 1) := by decide +kernel
theorem d5_67 : decode prog_22_method_4_code 67 = .ok (.dup, 1) := by decide +kernel
theorem d5_68 : decode prog_22_method_4_code 68 = .ok (.getfield 13, 3) := by decide +kernel
theorem d5_71 : decode prog_22_method_4_code 71 = .ok (.iconst 1, 1) := by decide +kernel
theorem d5_72 : decode prog_22_method_4_code 72 = .ok (.iadd, 1) := by decide +kernel
theorem d5_73 : decode prog_22_method_4_code 73 = .ok (.putfield 13, 3) := by decide +kernel
theorem d5_76 : decode prog_22_method_4_code 76 = .ok (.aload_n 0, 1) := by decide +kernel
theorem d5_77 : decode prog_22_method_4_code 77 = .ok (.iconst 0, 1) := by decide +kernel
theorem d5_78 : decode prog_22_method_4_code 78 = .ok (.putfield 16, 3) := by decide +kernel
theorem d5_81 : decode prog_22_method_4_code 81 = .ok (.return_, 1) := by decide +kernel
theorem pn_5 : plainName "com/example/kingsnake/kingsnake/core/ReadPosition$Counter" = true := by first | (simp [plainName, overriddenIn]; done) | decide +kernel
theorem pd_5 : parseMethodDescriptor "(I)V" = some ⟨[.int], none⟩ := by decide +kernel
theorem ef_5 (m : MethodId) (x0 : Addr) (x1 : Int32) : entryFrame m #[(.ref x0), (.int x1)] 2 = mkF m 0 #[.val (.ref x0), .val (.int x1)] [] := by first | (simp [entryFrame, mkF, argsToLocals, Value.category, maxLocals]; done) | rfl
theorem d6_0 : decode prog_22_method_2_code 0 = .ok (.aload_n 0, 1) := by decide +kernel
theorem d6_1 : decode prog_22_method_2_code 1 = .ok (.getfield 7, 3) := by decide +kernel
theorem d6_4 : decode prog_22_method_2_code 4 = .ok (.ireturn, 1) := by decide +kernel
theorem pn_6 : plainName "com/example/kingsnake/kingsnake/core/ReadPosition$Counter" = true := by first | (simp [plainName, overriddenIn]; done) | decide +kernel
theorem pd_6 : parseMethodDescriptor "()I" = some ⟨[], some .int⟩ := by decide +kernel
theorem ef_6 (m : MethodId) (x0 : Addr) : entryFrame m #[(.ref x0)] 1 = mkF m 0 #[.val (.ref x0)] [] := by first | (simp [entryFrame, mkF, argsToLocals, Value.category, maxLocals]; done) | rfl
theorem d7_0 : decode prog_22_method_3_code 0 = .ok (.aload_n 0, 1) := by decide +kernel
theorem d7_1 : decode prog_22_method_3_code 1 = .ok (.getfield 13, 3) := by decide +kernel
theorem d7_4 : decode prog_22_method_3_code 4 = .ok (.ireturn, 1) := by decide +kernel
theorem pn_7 : plainName "com/example/kingsnake/kingsnake/core/ReadPosition$Counter" = true := by first | (simp [plainName, overriddenIn]; done) | decide +kernel
theorem pd_7 : parseMethodDescriptor "()I" = some ⟨[], some .int⟩ := by decide +kernel
theorem ef_7 (m : MethodId) (x0 : Addr) : entryFrame m #[(.ref x0)] 1 = mkF m 0 #[.val (.ref x0)] [] := by first | (simp [entryFrame, mkF, argsToLocals, Value.category, maxLocals]; done) | rfl
theorem pn_0 : plainName "com/example/kingsnake/kingsnake/core/CounterCountPinLaw" = true := by first | (simp [plainName, overriddenIn]; done) | decide +kernel
theorem pd_0 : parseMethodDescriptor "(IIIIII)Z" = some ⟨[.int, .int, .int, .int, .int, .int], some .boolean⟩ := by decide +kernel
theorem ef_0 (m : MethodId) (x0 : Int32) (x1 : Int32) (x2 : Int32) (x3 : Int32) (x4 : Int32) (x5 : Int32) : entryFrame m #[(.int x0), (.int x1), (.int x2), (.int x3), (.int x4), (.int x5)] maxLocals = mkF m 0 #[.val (.int x0), .val (.int x1), .val (.int x2), .val (.int x3), .val (.int x4), .val (.int x5), .unset, .unset, .unset, .unset, .unset, .unset, .unset, .unset] [] := by first | (simp [entryFrame, mkF, argsToLocals, Value.category, maxLocals]; done) | rfl
def own_pick (x0 x1 x2 : Int32) : Int32 := if (((x0.toUInt32 >>> (x1 &&& 31).toUInt32).toInt32) &&& (3 : Int32)) = (0 : Int32) then (10 : Int32) else if (((x0.toUInt32 >>> (x1 &&& 31).toUInt32).toInt32) &&& (3 : Int32)) = (1 : Int32) then (13 : Int32) else x2
def own_nl (ln c cr : Int32) : Int32 := if c = (10 : Int32) ∧ ¬ cr = (0 : Int32) then ln else if c = (10 : Int32) ∨ c = (13 : Int32) then (ln + (1 : Int32)) else ln
def own_nc (cl c cr : Int32) : Int32 := if c = (10 : Int32) ∧ ¬ cr = (0 : Int32) then cl else if c = (10 : Int32) ∨ c = (13 : Int32) then (1 : Int32) else (cl + (1 : Int32))
def own_nr (c : Int32) : Int32 := if c = (13 : Int32) then (1 : Int32) else (0 : Int32)
def own_ar (Z : State) (h : Heap) (a : Addr) (x y : Int32) : Prop := ∃ cl : Cell, Arr Z h a cl .int ∧ cl.slots.size = (2 : Int32).toNatClampNeg ∧ cl.slots[0]? = some (.int x) ∧ cl.slots[1]? = some (.int y)
theorem own_ar_new {Z : State} {h : Heap} {a : Addr} {k : ClassId} (A : Arr Z h a (newA k .int (2 : Int32)) .int) : own_ar Z h a 0 0 := ⟨_, A, Array.size_replicate, rfl, rfl⟩
theorem own_ar_other {Z : State} {h h' : Heap} {a b : Addr} {x y : Int32} {sl : Nat} {v : Value} (I : own_ar Z h a x y) (W : Wr h h' b sl v) (ne : a ≠ b) : own_ar Z h' a x y := by
  obtain ⟨cl, A, r⟩ := I
  exact ⟨cl, A.other W ne, r⟩
theorem own_ar_keep {Z : State} {h h' : Heap} {a : Addr} {x y : Int32} {ws : List Addr} (I : own_ar Z h a x y) (K : Keep h h' ws) (q : a ∉ ws) : own_ar Z h' a x y := by
  obtain ⟨cl, A, r⟩ := I
  exact ⟨cl, ⟨K.2.1 a cl A.1 q, A.2⟩, r⟩
section Arrays
variable {p : Program} {l : Launch} {e : Env} {R : Room} {s : State} {m : MethodId} {args : Array Value} {below : List Frame} {meth : Method} {c : Code} {T : State} {locs : List Loc} {cells slots : Nat} {Z : State} {h : Heap}
theorem own_put0 (X : Stand p l e R s m args below meth c T locs cells slots) (hx : p.tables.exec = Jvm.exec) (hZ : Z.Warmed39 s.vm) (eT : T.heap = h) {a : Addr} {x y v : Int32} (I : own_ar Z h a x y) {g : JFrame} (hg : g.method = m) {rest : List Value} (hs : g.stack = .int v :: .int (0 : Int32) :: .ref a :: rest) (hd : decode c.code g.pc = .ok (.iastore, 1)) :
    ∃ (T' : State) (h' : Heap), Stand p l e R s m args below meth c T' (locs ++ [⟨a, (0 : Int32).toNatClampNeg⟩]) cells slots ∧ T'.heap = h' ∧ Wr h h' a (0 : Int32).toNatClampNeg (.int v) ∧ own_ar Z h' a v y ∧ ∀ target, Steps p.tables e below (T'.setTop { g with pc := g.pc + 1, stack := rest }) target → Steps p.tables e below (T.setTop g) target := by
  obtain ⟨cl, A, S, H0, H1⟩ := I
  obtain ⟨T', h', X', e', W, st⟩ := stI X hx hZ eT A (inb_of S ⟨by decide, by decide⟩) hg hs hd
  refine ⟨T', h', X', e', W, ⟨_, A.same W, by rw [sz_set]; exact S, ?_, ?_⟩, st⟩
  · show (cl.slots.setIfInBounds 0 (.int v))[0]? = _
    rw [Array.getElem?_setIfInBounds, if_pos rfl, if_pos (by rw [S]; decide)]
  · show (cl.slots.setIfInBounds 0 (.int v))[1]? = _
    rw [Array.getElem?_setIfInBounds, if_neg (by decide)]; exact H1
theorem own_put1 (X : Stand p l e R s m args below meth c T locs cells slots) (hx : p.tables.exec = Jvm.exec) (hZ : Z.Warmed39 s.vm) (eT : T.heap = h) {a : Addr} {x y v : Int32} (I : own_ar Z h a x y) {g : JFrame} (hg : g.method = m) {rest : List Value} (hs : g.stack = .int v :: .int (1 : Int32) :: .ref a :: rest) (hd : decode c.code g.pc = .ok (.iastore, 1)) :
    ∃ (T' : State) (h' : Heap), Stand p l e R s m args below meth c T' (locs ++ [⟨a, (1 : Int32).toNatClampNeg⟩]) cells slots ∧ T'.heap = h' ∧ Wr h h' a (1 : Int32).toNatClampNeg (.int v) ∧ own_ar Z h' a x v ∧ ∀ target, Steps p.tables e below (T'.setTop { g with pc := g.pc + 1, stack := rest }) target → Steps p.tables e below (T.setTop g) target := by
  obtain ⟨cl, A, S, H0, H1⟩ := I
  obtain ⟨T', h', X', e', W, st⟩ := stI X hx hZ eT A (inb_of S ⟨by decide, by decide⟩) hg hs hd
  refine ⟨T', h', X', e', W, ⟨_, A.same W, by rw [sz_set]; exact S, ?_, ?_⟩, st⟩
  · show (cl.slots.setIfInBounds 1 (.int v))[0]? = _
    rw [Array.getElem?_setIfInBounds, if_neg (by decide)]; exact H0
  · show (cl.slots.setIfInBounds 1 (.int v))[1]? = _
    rw [Array.getElem?_setIfInBounds, if_pos rfl, if_pos (by rw [S]; decide)]
theorem own_get0 (X : Stand p l e R s m args below meth c T locs cells slots) (hx : p.tables.exec = Jvm.exec) (hZ : Z.Warmed39 s.vm) (eT : T.heap = h) {a : Addr} {x y : Int32} (I : own_ar Z h a x y) {g : JFrame} (hg : g.method = m) {rest : List Value} (hs : g.stack = .int (0 : Int32) :: .ref a :: rest) (hd : decode c.code g.pc = .ok (.iaload, 1)) :
    ∀ target, Steps p.tables e below (T.setTop { g with pc := g.pc + 1, stack := .int x :: rest }) target → Steps p.tables e below (T.setTop g) target := by
  obtain ⟨cl, A, S, H0, H1⟩ := I
  intro target kt
  exact X.iaload hx (j := (0 : Int32)) (v := (.int x)) (by rw [eT]; exact A.1) (State.isArrayOf_alike hZ.alike A.2.1) A.2.2 (inb_of S ⟨by decide, by decide⟩) H0 hg hs hd _ kt
theorem own_get1 (X : Stand p l e R s m args below meth c T locs cells slots) (hx : p.tables.exec = Jvm.exec) (hZ : Z.Warmed39 s.vm) (eT : T.heap = h) {a : Addr} {x y : Int32} (I : own_ar Z h a x y) {g : JFrame} (hg : g.method = m) {rest : List Value} (hs : g.stack = .int (1 : Int32) :: .ref a :: rest) (hd : decode c.code g.pc = .ok (.iaload, 1)) :
    ∀ target, Steps p.tables e below (T.setTop { g with pc := g.pc + 1, stack := .int y :: rest }) target → Steps p.tables e below (T.setTop g) target := by
  obtain ⟨cl, A, S, H0, H1⟩ := I
  intro target kt
  exact X.iaload hx (j := (1 : Int32)) (v := (.int y)) (by rw [eT]; exact A.1) (State.isArrayOf_alike hZ.alike A.2.1) A.2.2 (inb_of S ⟨by decide, by decide⟩) H1 hg hs hd _ kt
end Arrays
set_option maxRecDepth 65536 in
set_option maxHeartbeats 40000000 in
theorem wk1 {p : Program} {l : Launch} {e : Env} {R : Room} {s : State} {m : MethodId} {args : Array Value} {below : List Frame} {meth : Method} {c : Code} {T : State} {locs : List Loc} {cells slots : Nat} {Z : State} {a0 : Array Value} (X : Stand p l e R s m args below meth c T locs cells slots) (hx : p.tables.exec = Jvm.exec) (hZ : Z.Warmed39 s.vm) (hw : ∀ d ∈ tables_1, d.before a0 Z = true) (hby : c.code = method_3_code) (hown : s.vm.findClass "com/example/kingsnake/kingsnake/core/CounterCountPinLaw" = some m.cls) (hret : meth.sig.returnType = some .int) {fs : List Frame} (x0 x1 x2 : Int32) (hr : ∀ (f : JFrame) (acts : List Action), f.method = m → f.locked = none → f.entered = [] → (doReturn e (T.setTop f) acts (some (.int (own_pick x0 x1 x2)))).1 = T.setFrames fs) : Steps p.tables e below (T.setTop (mkF m 0 #[.val (.int x0), .val (.int x1), .val (.int x2), .unset] [])) (T.setFrames fs) := by
  show Steps p.tables e below (T.setTop (mkF m 0 #[.val (.int x0), .val (.int x1), .val (.int x2), .unset] [])) _
  refine XS.iloadN X.here hx rfl (hb hby d1_0) rfl ?_
  show Steps p.tables e below (T.setTop (mkF m 1 #[.val (.int x0), .val (.int x1), .val (.int x2), .unset] [(.int x0)])) _
  refine XS.iloadN X.here hx rfl (hb hby d1_1) rfl ?_
  show Steps p.tables e below (T.setTop (mkF m 2 #[.val (.int x0), .val (.int x1), .val (.int x2), .unset] [(.int x1), (.int x0)])) _
  refine XS.iushr X.here hx rfl (hb hby d1_2) rfl ?_
  show Steps p.tables e below (T.setTop (mkF m 3 #[.val (.int x0), .val (.int x1), .val (.int x2), .unset] [(.int ((x0.toUInt32 >>> (x1 &&& 31).toUInt32).toInt32))])) _
  refine XS.iconst X.here hx rfl (hb hby d1_3) ?_
  show Steps p.tables e below (T.setTop (mkF m 4 #[.val (.int x0), .val (.int x1), .val (.int x2), .unset] [(.int (3 : Int32)), (.int ((x0.toUInt32 >>> (x1 &&& 31).toUInt32).toInt32))])) _
  refine XS.iand X.here hx rfl (hb hby d1_4) rfl ?_
  show Steps p.tables e below (T.setTop (mkF m 5 #[.val (.int x0), .val (.int x1), .val (.int x2), .unset] [(.int (((x0.toUInt32 >>> (x1 &&& 31).toUInt32).toInt32) &&& (3 : Int32)))])) _
  refine XS.istoreN X.here hx rfl (hb hby d1_5) rfl (l' := #[.val (.int x0), .val (.int x1), .val (.int x2), .val (.int (((x0.toUInt32 >>> (x1 &&& 31).toUInt32).toInt32) &&& (3 : Int32)))]) rfl ?_
  show Steps p.tables e below (T.setTop (mkF m 6 #[.val (.int x0), .val (.int x1), .val (.int x2), .val (.int (((x0.toUInt32 >>> (x1 &&& 31).toUInt32).toInt32) &&& (3 : Int32)))] [])) _
  refine XS.iloadN X.here hx rfl (hb hby d1_6) rfl ?_
  show Steps p.tables e below (T.setTop (mkF m 7 #[.val (.int x0), .val (.int x1), .val (.int x2), .val (.int (((x0.toUInt32 >>> (x1 &&& 31).toUInt32).toInt32) &&& (3 : Int32)))] [(.int (((x0.toUInt32 >>> (x1 &&& 31).toUInt32).toInt32) &&& (3 : Int32)))])) _
  by_cases hc7 : (((x0.toUInt32 >>> (x1 &&& 31).toUInt32).toInt32) &&& (3 : Int32)) = (0 : Int32)
  · refine XS.ifNo X.here hx rfl (hb hby d1_7) rfl ((if0 _ _).trans (teq hc7).2) ?_
    show Steps p.tables e below (T.setTop (mkF m 10 #[.val (.int x0), .val (.int x1), .val (.int x2), .val (.int (((x0.toUInt32 >>> (x1 &&& 31).toUInt32).toInt32) &&& (3 : Int32)))] [])) _
    refine XS.bipush X.here hx rfl (hb hby d1_10) ?_
    show Steps p.tables e below (T.setTop (mkF m 12 #[.val (.int x0), .val (.int x1), .val (.int x2), .val (.int (((x0.toUInt32 >>> (x1 &&& 31).toUInt32).toInt32) &&& (3 : Int32)))] [(.int (10 : Int32))])) _
    have hv : (own_pick x0 x1 x2) = (10 : Int32) := by first | (rw [own_pick, if_pos hc7]; done) | simp only [own_pick, hc7, ↓reduceIte, eq_self]
    rw [hv] at hr
    exact retI X hx hret (hb hby d1_12) hr
  · refine XS.ifYes X.here hx rfl (pc0 := 7) (pc' := 13) rfl (hb hby d1_7) rfl ((if0 _ _).trans (feq hc7).2) (by decide) (by decide) ?_
    show Steps p.tables e below (T.setTop (mkF m 13 #[.val (.int x0), .val (.int x1), .val (.int x2), .val (.int (((x0.toUInt32 >>> (x1 &&& 31).toUInt32).toInt32) &&& (3 : Int32)))] [])) _
    refine XS.iloadN X.here hx rfl (hb hby d1_13) rfl ?_
    show Steps p.tables e below (T.setTop (mkF m 14 #[.val (.int x0), .val (.int x1), .val (.int x2), .val (.int (((x0.toUInt32 >>> (x1 &&& 31).toUInt32).toInt32) &&& (3 : Int32)))] [(.int (((x0.toUInt32 >>> (x1 &&& 31).toUInt32).toInt32) &&& (3 : Int32)))])) _
    refine XS.iconst X.here hx rfl (hb hby d1_14) ?_
    show Steps p.tables e below (T.setTop (mkF m 15 #[.val (.int x0), .val (.int x1), .val (.int x2), .val (.int (((x0.toUInt32 >>> (x1 &&& 31).toUInt32).toInt32) &&& (3 : Int32)))] [(.int (1 : Int32)), (.int (((x0.toUInt32 >>> (x1 &&& 31).toUInt32).toInt32) &&& (3 : Int32)))])) _
    by_cases hc15 : (((x0.toUInt32 >>> (x1 &&& 31).toUInt32).toInt32) &&& (3 : Int32)) = (1 : Int32)
    · refine XS.icmpNo X.here hx rfl (hb hby d1_15) rfl (teq hc15).2 ?_
      show Steps p.tables e below (T.setTop (mkF m 18 #[.val (.int x0), .val (.int x1), .val (.int x2), .val (.int (((x0.toUInt32 >>> (x1 &&& 31).toUInt32).toInt32) &&& (3 : Int32)))] [])) _
      refine XS.bipush X.here hx rfl (hb hby d1_18) ?_
      show Steps p.tables e below (T.setTop (mkF m 20 #[.val (.int x0), .val (.int x1), .val (.int x2), .val (.int (((x0.toUInt32 >>> (x1 &&& 31).toUInt32).toInt32) &&& (3 : Int32)))] [(.int (13 : Int32))])) _
      have hv : (own_pick x0 x1 x2) = (13 : Int32) := by first | (rw [own_pick, if_neg hc7, if_pos hc15]; done) | simp only [own_pick, hc7, hc15, ↓reduceIte, eq_self]
      rw [hv] at hr
      exact retI X hx hret (hb hby d1_20) hr
    · refine XS.icmpYes X.here hx rfl (pc0 := 15) (pc' := 21) rfl (hb hby d1_15) rfl (feq hc15).2 (by decide) (by decide) ?_
      show Steps p.tables e below (T.setTop (mkF m 21 #[.val (.int x0), .val (.int x1), .val (.int x2), .val (.int (((x0.toUInt32 >>> (x1 &&& 31).toUInt32).toInt32) &&& (3 : Int32)))] [])) _
      refine XS.iloadN X.here hx rfl (hb hby d1_21) rfl ?_
      show Steps p.tables e below (T.setTop (mkF m 22 #[.val (.int x0), .val (.int x1), .val (.int x2), .val (.int (((x0.toUInt32 >>> (x1 &&& 31).toUInt32).toInt32) &&& (3 : Int32)))] [(.int x2)])) _
      have hv : (own_pick x0 x1 x2) = x2 := by first | (rw [own_pick, if_neg hc7, if_neg hc15]; done) | simp only [own_pick, hc7, hc15, ↓reduceIte, eq_self]
      rw [hv] at hr
      exact retI X hx hret (hb hby d1_22) hr
def Q1 (x0 : Int32) (x1 : Int32) (x2 : Int32) (h0 : Heap) (n0 : Nat) (v : Option Value) (h : Heap) (L : List Loc) : Prop := v = some (.int (own_pick x0 x1 x2)) ∧ Fr n0 L ∧ h = h0
set_option maxRecDepth 65536 in
set_option maxHeartbeats 40000000 in
theorem rm1 (l : Launch) (Z : State) (a0 : Array Value) (hw : ∀ d ∈ tables_1, d.before a0 Z = true) (ws : List Jvm.Cond) (x0 : Int32) (x1 : Int32) (x2 : Int32) (h0 : Heap) (n0 : Nat) (Z0 : n0 ≤ h0.size)  :
    MetFree l (⟨"com/example/kingsnake/kingsnake/core/CounterCountPinLaw", "pick", "(III)I"⟩ : MethodName) (head1 (Jvm.Cond.code (⟨"com/example/kingsnake/kingsnake/core/CounterCountPinLaw", "pick", "(III)I"⟩ : MethodName) method_3_code 4 (some .int) :: ws) ({ frames := 0, cells := 0, slots := 0, locals := 0 } : Room)) (fun as_ U => as_ = #[(.int x0), (.int x1), (.int x2)] ∧ Z.Warmed39 U.vm ∧ U.heap = h0) (fun _ _ _ _ _ => True) (fun _ U o U' => ∃ v L, o = .returned v ∧ Q1 x0 x1 x2 h0 n0 v U'.heap L ∧ FrameEnd U o U' L ({ frames := 0, cells := 0, slots := 0, locals := 0 } : Room).cells ({ frames := 0, cells := 0, slots := 0, locals := 0 } : Room).slots) := by
  refine MetFree.of_bodySF (plainFor_of_name pn_1) hisR ?_
  intro p e s m args below meth c s₁ Bd hml0 hP hK
  obtain ⟨rfl, hZ, hh⟩ := hP
  have hx := Bd.exec
  have hby := Bd.bytes
  have hml : c.maxLocals = 4 := hml0
  have hown : s.vm.findClass "com/example/kingsnake/kingsnake/core/CounterCountPinLaw" = some m.cls := findClass_of_methodNamed Bd.named
  have hnm := (name_of_methodNamed Bd.named Bd.method).1
  have X0 : Stand p l e ({ frames := 0, cells := 0, slots := 0, locals := 0 } : Room) s m #[(.int x0), (.int x1), (.int x2)] below meth c s₁ [] 0 0 := Stand.of_body Bd
  have e0 : s₁.heap = h0 := by rw [← hh, Bd.state]; rfl
  have N0 := Fr.nil n0
  have pre0 : ∀ t, Steps p.tables e below (s₁.setTop (mkF m 0 #[.val (.int x0), .val (.int x1), .val (.int x2), .unset] [])) t → Steps p.tables e below (s₁.setTop (entryFrame m #[(.int x0), (.int x1), (.int x2)] 4)) t := fun t_ k_ => castTop (ef_1 m x0 x1 x2) k_
  obtain ⟨fs, hr, hrun, hended, hW, hsame⟩ := X0.leave (v := some (.int (own_pick x0 x1 x2))) (fun h => by rw [Bd.returns] at h; cases h)
  refine ⟨_, _, pre0 _ ?_, hrun, hended, _, _, rfl, ?_, ⟨_, rfl⟩, hW, hsame.mono (by decide) (by decide)⟩
  · exact wk1 X0 hx hZ hw hby hown Bd.returns x0 x1 x2 hr
  · show Q1 x0 x1 x2 h0 n0 _ s₁.heap _
    rw [e0]
    exact ⟨rfl, N0, rfl⟩
def Q2 (Z : State) (a : Addr) (x1 x2 : Int32) (n0 : Nat) (v : Option Value) (h : Heap) (L : List Loc) : Prop := v = none ∧ Fr n0 L ∧ n0 ≤ h.size ∧ Exa Z h a "com/example/kingsnake/kingsnake/core/ReadPosition$Counter" ∧ Fld Z h a "com/example/kingsnake/kingsnake/core/ReadPosition$Counter" "line" "I" (.int x1) ∧ Fld Z h a "com/example/kingsnake/kingsnake/core/ReadPosition$Counter" "column" "I" (.int x2) ∧ Fld Z h a "com/example/kingsnake/kingsnake/core/ReadPosition$Counter" "afterCarriageReturn" "Z" (.int (0 : Int32))
set_option maxRecDepth 65536 in
set_option maxHeartbeats 40000000 in
theorem rm2 (l : Launch) (Z : State) (a0 : Array Value) (hw : ∀ d ∈ tables_1, d.before a0 Z = true) (ws : List Jvm.Cond) (a : Addr) (x1 x2 : Int32) (h0 : Heap) (n0 : Nat) (Z0 : n0 ≤ h0.size) (ga : n0 ≤ a) (Ex : Exa Z h0 a "com/example/kingsnake/kingsnake/core/ReadPosition$Counter") (Fl : Fld Z h0 a "com/example/kingsnake/kingsnake/core/ReadPosition$Counter" "line" "I" (.int (0 : Int32))) (Fc : Fld Z h0 a "com/example/kingsnake/kingsnake/core/ReadPosition$Counter" "column" "I" (.int (0 : Int32))) (Fa : Fld Z h0 a "com/example/kingsnake/kingsnake/core/ReadPosition$Counter" "afterCarriageReturn" "Z" (.int (0 : Int32))) :
    MetFree l (⟨"com/example/kingsnake/kingsnake/core/ReadPosition$Counter", "<init>", "(II)V"⟩ : MethodName) (head1 (Jvm.Cond.code (⟨"com/example/kingsnake/kingsnake/core/ReadPosition$Counter", "<init>", "(II)V"⟩ : MethodName) prog_22_method_1_code 3 none :: ws) ({ frames := 1, cells := 0, slots := 0, locals := 12 } : Room)) (fun as_ U => as_ = #[(.ref a), (.int x1), (.int x2)] ∧ Z.Warmed39 U.vm ∧ U.heap = h0) (fun _ _ _ _ _ => True) (fun _ U o U' => ∃ v L, o = .returned v ∧ Q2 Z a x1 x2 n0 v U'.heap L ∧ FrameEnd U o U' L ({ frames := 1, cells := 0, slots := 0, locals := 12 } : Room).cells ({ frames := 1, cells := 0, slots := 0, locals := 12 } : Room).slots) := by
  refine MetFree.of_bodySF (plainFor_of_name pn_2) hisR ?_
  intro p e s m args below meth c s₁ Bd hml0 hP hK
  obtain ⟨rfl, hZ, hh⟩ := hP
  have hx := Bd.exec
  have hby := Bd.bytes
  have hml : c.maxLocals = 3 := hml0
  have hown : s.vm.findClass "com/example/kingsnake/kingsnake/core/ReadPosition$Counter" = some m.cls := findClass_of_methodNamed Bd.named
  have hnm := (name_of_methodNamed Bd.named Bd.method).1
  have X0 : Stand p l e ({ frames := 1, cells := 0, slots := 0, locals := 12 } : Room) s m #[(.ref a), (.int x1), (.int x2)] below meth c s₁ [] 0 0 := Stand.of_body Bd
  have e0 : s₁.heap = h0 := by rw [← hh, Bd.state]; rfl
  have N0 := Fr.nil n0
  have pre0 : ∀ t, Steps p.tables e below (s₁.setTop (mkF m 0 #[.val (.ref a), .val (.int x1), .val (.int x2)] [])) t → Steps p.tables e below (s₁.setTop (entryFrame m #[(.ref a), (.int x1), (.int x2)] 3)) t := fun t_ k_ => castTop (ef_2 m a x1 x2) k_
  obtain ⟨T1, X1, e1, st1⟩ := initO X0 hx hZ hown (hw _ (List.mem_of_getElem? (i := 10) rfl)) (hw _ (List.mem_of_getElem? (i := 11) rfl)) (hw _ (List.mem_of_getElem? (i := 12) rfl)) e0 (g := (mkF m 1 #[.val (.ref a), .val (.int x1), .val (.int x2)] [(.ref a)])) rfl (by rw [hml]; rfl) rfl (hb hby d2_1) (by decide) (W := 0) (by show 2 * 0 + _ ≤ _; exact Nat.le_of_eq rfl) (by decide)
  obtain ⟨T2, h2, X2, e2, W2, st2⟩ := putF X1 hx hZ hown (host := "") (Or.inl (hw _ (List.mem_of_getElem? (i := 13) rfl))) Via.refl e1 Fl Ex (Or.inl (hw _ (List.mem_of_getElem? (i := 14) rfl))) (hw _ (List.mem_of_getElem? (i := 5) rfl)) (ty := .int) (by decide) rfl rfl (g := (mkF m 6 #[.val (.ref a), .val (.int x1), .val (.int x2)] [(.int x1), (.ref a)])) rfl rfl (hb hby d2_6)
  have N2 := Fr.snoc X2 N0 ga
  have Z2 : n0 ≤ h2.size := by rw [W2.size]; exact Z0
  have F2_a_line := Fl.same W2
  have F2_a_column := Fc.other W2 (Or.inr (slot_ne (Or.inl (hw _ (List.mem_of_getElem? (i := 16) rfl))) (Or.inl (hw _ (List.mem_of_getElem? (i := 14) rfl))) (by decide) (t := .int) (t' := .int) (by decide) (by decide)))
  have F2_a_afterCarriageReturn := Fa.other W2 (Or.inr (slot_ne (Or.inl (hw _ (List.mem_of_getElem? (i := 27) rfl))) (Or.inl (hw _ (List.mem_of_getElem? (i := 14) rfl))) (by decide) (t := .boolean) (t' := .int) (by decide) (by decide)))
  have Ex2_a := Ex.wr W2
  obtain ⟨T3, h3, X3, e3, W3, st3⟩ := putF X2 hx hZ hown (host := "") (Or.inl (hw _ (List.mem_of_getElem? (i := 15) rfl))) Via.refl e2 F2_a_column Ex2_a (Or.inl (hw _ (List.mem_of_getElem? (i := 16) rfl))) (hw _ (List.mem_of_getElem? (i := 5) rfl)) (ty := .int) (by decide) rfl rfl (g := (mkF m 11 #[.val (.ref a), .val (.int x1), .val (.int x2)] [(.int x2), (.ref a)])) rfl rfl (hb hby d2_11)
  have N3 := Fr.snoc X3 N2 ga
  have Z3 : n0 ≤ h3.size := by rw [W3.size]; exact Z2
  have F3_a_line := F2_a_line.other W3 (Or.inr (slot_ne (Or.inl (hw _ (List.mem_of_getElem? (i := 14) rfl))) (Or.inl (hw _ (List.mem_of_getElem? (i := 16) rfl))) (by decide) (t := .int) (t' := .int) (by decide) (by decide)))
  have F3_a_column := F2_a_column.same W3
  have F3_a_afterCarriageReturn := F2_a_afterCarriageReturn.other W3 (Or.inr (slot_ne (Or.inl (hw _ (List.mem_of_getElem? (i := 27) rfl))) (Or.inl (hw _ (List.mem_of_getElem? (i := 16) rfl))) (by decide) (t := .boolean) (t' := .int) (by decide) (by decide)))
  have Ex3_a := Ex2_a.wr W3
  obtain ⟨fs, hr, hrun, hended, hW, hsame⟩ := X3.leave (v := none) (fun _ => rfl)
  refine ⟨_, _, pre0 _ ?_, hrun, hended, _, _, rfl, ?_, ⟨_, rfl⟩, hW, hsame.mono (by decide) (by decide)⟩
  · show Steps p.tables e below (s₁.setTop (mkF m 0 #[.val (.ref a), .val (.int x1), .val (.int x2)] [])) _
    refine XS.aloadN X0.here hx rfl (hb hby d2_0) rfl rfl ?_
    refine st1 _ ?_
    show Steps p.tables e below (T1.setTop (mkF m 4 #[.val (.ref a), .val (.int x1), .val (.int x2)] [])) _
    refine XS.aloadN X1.here hx rfl (hb hby d2_4) rfl rfl ?_
    show Steps p.tables e below (T1.setTop (mkF m 5 #[.val (.ref a), .val (.int x1), .val (.int x2)] [(.ref a)])) _
    refine XS.iloadN X1.here hx rfl (hb hby d2_5) rfl ?_
    show Steps p.tables e below (T1.setTop (mkF m 6 #[.val (.ref a), .val (.int x1), .val (.int x2)] [(.int x1), (.ref a)])) _
    refine st2 _ ?_
    show Steps p.tables e below (T2.setTop (mkF m 9 #[.val (.ref a), .val (.int x1), .val (.int x2)] [])) _
    refine XS.aloadN X2.here hx rfl (hb hby d2_9) rfl rfl ?_
    show Steps p.tables e below (T2.setTop (mkF m 10 #[.val (.ref a), .val (.int x1), .val (.int x2)] [(.ref a)])) _
    refine XS.iloadN X2.here hx rfl (hb hby d2_10) rfl ?_
    show Steps p.tables e below (T2.setTop (mkF m 11 #[.val (.ref a), .val (.int x1), .val (.int x2)] [(.int x2), (.ref a)])) _
    refine st3 _ ?_
    show Steps p.tables e below (T3.setTop (mkF m 14 #[.val (.ref a), .val (.int x1), .val (.int x2)] [])) _
    exact X3.returnOut hx Bd.returns (hb hby d2_14) hr
  · show Q2 Z a x1 x2 n0 _ T3.heap _
    rw [e3]
    exact ⟨rfl, N3, Z3, Ex3_a, F3_a_line, F3_a_column, F3_a_afterCarriageReturn⟩
def Q6 (w : Int32) (h0 : Heap) (n0 : Nat) (v : Option Value) (h : Heap) (L : List Loc) : Prop := v = some (.int w) ∧ Fr n0 L ∧ h = h0
set_option maxRecDepth 65536 in
set_option maxHeartbeats 40000000 in
theorem rm6 (l : Launch) (Z : State) (a0 : Array Value) (hw : ∀ d ∈ tables_1, d.before a0 Z = true) (ws : List Jvm.Cond) (a : Addr) (w : Int32) (h0 : Heap) (n0 : Nat) (Z0 : n0 ≤ h0.size) (F : Fld Z h0 a "com/example/kingsnake/kingsnake/core/ReadPosition$Counter" "line" "I" (.int w)) :
    MetFree l (⟨"com/example/kingsnake/kingsnake/core/ReadPosition$Counter", "getLine", "()I"⟩ : MethodName) (head1 (Jvm.Cond.code (⟨"com/example/kingsnake/kingsnake/core/ReadPosition$Counter", "getLine", "()I"⟩ : MethodName) prog_22_method_2_code 1 (some .int) :: ws) ({ frames := 0, cells := 0, slots := 0, locals := 0 } : Room)) (fun as_ U => as_ = #[(.ref a)] ∧ Z.Warmed39 U.vm ∧ U.heap = h0) (fun _ _ _ _ _ => True) (fun _ U o U' => ∃ v L, o = .returned v ∧ Q6 w h0 n0 v U'.heap L ∧ FrameEnd U o U' L ({ frames := 0, cells := 0, slots := 0, locals := 0 } : Room).cells ({ frames := 0, cells := 0, slots := 0, locals := 0 } : Room).slots) := by
  refine MetFree.of_bodySF (plainFor_of_name pn_6) hisR ?_
  intro p e s m args below meth c s₁ Bd hml0 hP hK
  obtain ⟨rfl, hZ, hh⟩ := hP
  have hx := Bd.exec
  have hby := Bd.bytes
  have hml : c.maxLocals = 1 := hml0
  have hown : s.vm.findClass "com/example/kingsnake/kingsnake/core/ReadPosition$Counter" = some m.cls := findClass_of_methodNamed Bd.named
  have hnm := (name_of_methodNamed Bd.named Bd.method).1
  have X0 : Stand p l e ({ frames := 0, cells := 0, slots := 0, locals := 0 } : Room) s m #[(.ref a)] below meth c s₁ [] 0 0 := Stand.of_body Bd
  have e0 : s₁.heap = h0 := by rw [← hh, Bd.state]; rfl
  have N0 := Fr.nil n0
  have pre0 : ∀ t, Steps p.tables e below (s₁.setTop (mkF m 0 #[.val (.ref a)] [])) t → Steps p.tables e below (s₁.setTop (entryFrame m #[(.ref a)] 1)) t := fun t_ k_ => castTop (ef_6 m a) k_
  obtain ⟨T1, X1, e1, st1⟩ := getF X0 hx hZ hown (host := "") (Or.inl (hw _ (List.mem_of_getElem? (i := 13) rfl))) Via.refl e0 F (g := (mkF m 1 #[.val (.ref a)] [(.ref a)])) rfl rfl (hb hby d6_1)
  obtain ⟨fs, hr, hrun, hended, hW, hsame⟩ := X1.leave (v := some (.int w)) (fun h => by rw [Bd.returns] at h; cases h)
  refine ⟨_, _, pre0 _ ?_, hrun, hended, _, _, rfl, ?_, ⟨_, rfl⟩, hW, hsame.mono (by decide) (by decide)⟩
  · show Steps p.tables e below (s₁.setTop (mkF m 0 #[.val (.ref a)] [])) _
    refine XS.aloadN X0.here hx rfl (hb hby d6_0) rfl rfl ?_
    show Steps p.tables e below (s₁.setTop (mkF m 1 #[.val (.ref a)] [(.ref a)])) _
    refine st1 _ ?_
    show Steps p.tables e below (T1.setTop (mkF m 4 #[.val (.ref a)] [(.int w)])) _
    exact retI X1 hx Bd.returns (hb hby d6_4) hr
  · show Q6 w h0 n0 _ T1.heap _
    rw [e1]
    exact ⟨rfl, N0, rfl⟩
def Q7 (w : Int32) (h0 : Heap) (n0 : Nat) (v : Option Value) (h : Heap) (L : List Loc) : Prop := v = some (.int w) ∧ Fr n0 L ∧ h = h0
set_option maxRecDepth 65536 in
set_option maxHeartbeats 40000000 in
theorem rm7 (l : Launch) (Z : State) (a0 : Array Value) (hw : ∀ d ∈ tables_1, d.before a0 Z = true) (ws : List Jvm.Cond) (a : Addr) (w : Int32) (h0 : Heap) (n0 : Nat) (Z0 : n0 ≤ h0.size) (F : Fld Z h0 a "com/example/kingsnake/kingsnake/core/ReadPosition$Counter" "column" "I" (.int w)) :
    MetFree l (⟨"com/example/kingsnake/kingsnake/core/ReadPosition$Counter", "getColumn", "()I"⟩ : MethodName) (head1 (Jvm.Cond.code (⟨"com/example/kingsnake/kingsnake/core/ReadPosition$Counter", "getColumn", "()I"⟩ : MethodName) prog_22_method_3_code 1 (some .int) :: ws) ({ frames := 0, cells := 0, slots := 0, locals := 0 } : Room)) (fun as_ U => as_ = #[(.ref a)] ∧ Z.Warmed39 U.vm ∧ U.heap = h0) (fun _ _ _ _ _ => True) (fun _ U o U' => ∃ v L, o = .returned v ∧ Q7 w h0 n0 v U'.heap L ∧ FrameEnd U o U' L ({ frames := 0, cells := 0, slots := 0, locals := 0 } : Room).cells ({ frames := 0, cells := 0, slots := 0, locals := 0 } : Room).slots) := by
  refine MetFree.of_bodySF (plainFor_of_name pn_7) hisR ?_
  intro p e s m args below meth c s₁ Bd hml0 hP hK
  obtain ⟨rfl, hZ, hh⟩ := hP
  have hx := Bd.exec
  have hby := Bd.bytes
  have hml : c.maxLocals = 1 := hml0
  have hown : s.vm.findClass "com/example/kingsnake/kingsnake/core/ReadPosition$Counter" = some m.cls := findClass_of_methodNamed Bd.named
  have hnm := (name_of_methodNamed Bd.named Bd.method).1
  have X0 : Stand p l e ({ frames := 0, cells := 0, slots := 0, locals := 0 } : Room) s m #[(.ref a)] below meth c s₁ [] 0 0 := Stand.of_body Bd
  have e0 : s₁.heap = h0 := by rw [← hh, Bd.state]; rfl
  have N0 := Fr.nil n0
  have pre0 : ∀ t, Steps p.tables e below (s₁.setTop (mkF m 0 #[.val (.ref a)] [])) t → Steps p.tables e below (s₁.setTop (entryFrame m #[(.ref a)] 1)) t := fun t_ k_ => castTop (ef_7 m a) k_
  obtain ⟨T1, X1, e1, st1⟩ := getF X0 hx hZ hown (host := "") (Or.inl (hw _ (List.mem_of_getElem? (i := 15) rfl))) Via.refl e0 F (g := (mkF m 1 #[.val (.ref a)] [(.ref a)])) rfl rfl (hb hby d7_1)
  obtain ⟨fs, hr, hrun, hended, hW, hsame⟩ := X1.leave (v := some (.int w)) (fun h => by rw [Bd.returns] at h; cases h)
  refine ⟨_, _, pre0 _ ?_, hrun, hended, _, _, rfl, ?_, ⟨_, rfl⟩, hW, hsame.mono (by decide) (by decide)⟩
  · show Steps p.tables e below (s₁.setTop (mkF m 0 #[.val (.ref a)] [])) _
    refine XS.aloadN X0.here hx rfl (hb hby d7_0) rfl rfl ?_
    show Steps p.tables e below (s₁.setTop (mkF m 1 #[.val (.ref a)] [(.ref a)])) _
    refine st1 _ ?_
    show Steps p.tables e below (T1.setTop (mkF m 4 #[.val (.ref a)] [(.int w)])) _
    exact retI X1 hx Bd.returns (hb hby d7_4) hr
  · show Q7 w h0 n0 _ T1.heap _
    rw [e1]
    exact ⟨rfl, N0, rfl⟩
def Q5 (Z : State) (a : Addr) (ln cl cr x1 : Int32) (h0 : Heap) (n0 : Nat) (v : Option Value) (h : Heap) (L : List Loc) : Prop := v = none ∧ Fr n0 L ∧ n0 ≤ h.size ∧ Keep h0 h [a] ∧ Exa Z h a "com/example/kingsnake/kingsnake/core/ReadPosition$Counter" ∧ Fld Z h a "com/example/kingsnake/kingsnake/core/ReadPosition$Counter" "line" "I" (.int (own_nl ln x1 cr)) ∧ Fld Z h a "com/example/kingsnake/kingsnake/core/ReadPosition$Counter" "column" "I" (.int (own_nc cl x1 cr)) ∧ Fld Z h a "com/example/kingsnake/kingsnake/core/ReadPosition$Counter" "afterCarriageReturn" "Z" (.int (own_nr x1))
set_option maxRecDepth 65536 in
set_option maxHeartbeats 40000000 in
theorem rm5 (l : Launch) (Z : State) (a0 : Array Value) (hw : ∀ d ∈ tables_1, d.before a0 Z = true) (ws : List Jvm.Cond) (a : Addr) (ln cl cr x1 : Int32) (h0 : Heap) (n0 : Nat) (Z0 : n0 ≤ h0.size) (ga : n0 ≤ a) (Ex : Exa Z h0 a "com/example/kingsnake/kingsnake/core/ReadPosition$Counter") (Fl : Fld Z h0 a "com/example/kingsnake/kingsnake/core/ReadPosition$Counter" "line" "I" (.int ln)) (Fc : Fld Z h0 a "com/example/kingsnake/kingsnake/core/ReadPosition$Counter" "column" "I" (.int cl)) (Fa : Fld Z h0 a "com/example/kingsnake/kingsnake/core/ReadPosition$Counter" "afterCarriageReturn" "Z" (.int cr)) :
    MetFree l (⟨"com/example/kingsnake/kingsnake/core/ReadPosition$Counter", "count", "(I)V"⟩ : MethodName) (head1 (Jvm.Cond.code (⟨"com/example/kingsnake/kingsnake/core/ReadPosition$Counter", "count", "(I)V"⟩ : MethodName) prog_22_method_4_code 2 none :: ws) ({ frames := 0, cells := 0, slots := 0, locals := 0 } : Room)) (fun as_ U => as_ = #[(.ref a), (.int x1)] ∧ Z.Warmed39 U.vm ∧ U.heap = h0) (fun _ _ _ _ _ => True) (fun _ U o U' => ∃ v L, o = .returned v ∧ Q5 Z a ln cl cr x1 h0 n0 v U'.heap L ∧ FrameEnd U o U' L ({ frames := 0, cells := 0, slots := 0, locals := 0 } : Room).cells ({ frames := 0, cells := 0, slots := 0, locals := 0 } : Room).slots) := by
  refine MetFree.of_bodySF (plainFor_of_name pn_5) hisR ?_
  intro p e s m args below meth c s₁ Bd hml0 hP hK
  obtain ⟨rfl, hZ, hh⟩ := hP
  have hx := Bd.exec
  have hby := Bd.bytes
  have hml : c.maxLocals = 2 := hml0
  have hown : s.vm.findClass "com/example/kingsnake/kingsnake/core/ReadPosition$Counter" = some m.cls := findClass_of_methodNamed Bd.named
  have hnm := (name_of_methodNamed Bd.named Bd.method).1
  have X0 : Stand p l e ({ frames := 0, cells := 0, slots := 0, locals := 0 } : Room) s m #[(.ref a), (.int x1)] below meth c s₁ [] 0 0 := Stand.of_body Bd
  have e0 : s₁.heap = h0 := by rw [← hh, Bd.state]; rfl
  have N0 := Fr.nil n0
  have pre0 : ∀ t, Steps p.tables e below (s₁.setTop (mkF m 0 #[.val (.ref a), .val (.int x1)] [])) t → Steps p.tables e below (s₁.setTop (entryFrame m #[(.ref a), (.int x1)] 2)) t := fun t_ k_ => castTop (ef_5 m a x1) k_
  by_cases hA : x1 = (10 : Int32)
  · by_cases hB : cr = (0 : Int32)
    · have hC : ¬ (x1 = (13 : Int32)) := by rw [hA]; decide
      have Kp0 : Keep h0 h0 [a] := Keep.refl _ _
      obtain ⟨T1, X1, e1, st1⟩ := getF X0 hx hZ hown (host := "") (Or.inl (hw _ (List.mem_of_getElem? (i := 26) rfl))) Via.refl e0 Fa (g := (mkF m 7 #[.val (.ref a), .val (.int x1)] [(.ref a)])) rfl rfl (hb hby d5_7)
      obtain ⟨T2, X2, e2, st2⟩ := getF X1 hx hZ hown (host := "") (Or.inl (hw _ (List.mem_of_getElem? (i := 13) rfl))) Via.refl e1 Fl (g := (mkF m 35 #[.val (.ref a), .val (.int x1)] [(.ref a), (.ref a)])) rfl rfl (hb hby d5_35)
      obtain ⟨T3, h3, X3, e3, W3, st3⟩ := putF X2 hx hZ hown (host := "") (Or.inl (hw _ (List.mem_of_getElem? (i := 13) rfl))) Via.refl e2 Fl Ex (Or.inl (hw _ (List.mem_of_getElem? (i := 14) rfl))) (hw _ (List.mem_of_getElem? (i := 5) rfl)) (ty := .int) (by decide) rfl rfl (g := (mkF m 40 #[.val (.ref a), .val (.int x1)] [(.int (ln + (1 : Int32))), (.ref a)])) rfl rfl (hb hby d5_40)
      have N3 := Fr.snoc X3 N0 ga
      have Z3 : n0 ≤ h3.size := by rw [W3.size]; exact Z0
      have K3 := Kp0.wr W3 (Or.inl (by simp))
      have F3_a_line := Fl.same W3
      have F3_a_column := Fc.other W3 (Or.inr (slot_ne (Or.inl (hw _ (List.mem_of_getElem? (i := 16) rfl))) (Or.inl (hw _ (List.mem_of_getElem? (i := 14) rfl))) (by decide) (t := .int) (t' := .int) (by decide) (by decide)))
      have F3_a_afterCarriageReturn := Fa.other W3 (Or.inr (slot_ne (Or.inl (hw _ (List.mem_of_getElem? (i := 27) rfl))) (Or.inl (hw _ (List.mem_of_getElem? (i := 14) rfl))) (by decide) (t := .boolean) (t' := .int) (by decide) (by decide)))
      have Ex3_a := Ex.wr W3
      obtain ⟨T4, h4, X4, e4, W4, st4⟩ := putF X3 hx hZ hown (host := "") (Or.inl (hw _ (List.mem_of_getElem? (i := 15) rfl))) Via.refl e3 F3_a_column Ex3_a (Or.inl (hw _ (List.mem_of_getElem? (i := 16) rfl))) (hw _ (List.mem_of_getElem? (i := 5) rfl)) (ty := .int) (by decide) rfl rfl (g := (mkF m 45 #[.val (.ref a), .val (.int x1)] [(.int (1 : Int32)), (.ref a)])) rfl rfl (hb hby d5_45)
      have N4 := Fr.snoc X4 N3 ga
      have Z4 : n0 ≤ h4.size := by rw [W4.size]; exact Z3
      have K4 := K3.wr W4 (Or.inl (by simp))
      have F4_a_line := F3_a_line.other W4 (Or.inr (slot_ne (Or.inl (hw _ (List.mem_of_getElem? (i := 14) rfl))) (Or.inl (hw _ (List.mem_of_getElem? (i := 16) rfl))) (by decide) (t := .int) (t' := .int) (by decide) (by decide)))
      have F4_a_column := F3_a_column.same W4
      have F4_a_afterCarriageReturn := F3_a_afterCarriageReturn.other W4 (Or.inr (slot_ne (Or.inl (hw _ (List.mem_of_getElem? (i := 27) rfl))) (Or.inl (hw _ (List.mem_of_getElem? (i := 16) rfl))) (by decide) (t := .boolean) (t' := .int) (by decide) (by decide)))
      have Ex4_a := Ex3_a.wr W4
      obtain ⟨T5, h5, X5, e5, W5, st5⟩ := putFN X4 hx hZ hown (hw _ (List.mem_of_getElem? (i := 26) rfl)) Via.refl e4 F4_a_afterCarriageReturn Ex4_a (Or.inl (hw _ (List.mem_of_getElem? (i := 27) rfl))) (hw _ (List.mem_of_getElem? (i := 5) rfl)) (ty := .boolean) (v' := (.int (0 : Int32))) (by decide) rfl rfl (g := (mkF m 60 #[.val (.ref a), .val (.int x1)] [(.int (0 : Int32)), (.ref a)])) rfl rfl (hb hby d5_60)
      have N5 := Fr.snoc X5 N4 ga
      have Z5 : n0 ≤ h5.size := by rw [W5.size]; exact Z4
      have K5 := K4.wr W5 (Or.inl (by simp))
      have F5_a_line := F4_a_line.other W5 (Or.inr (slot_ne (Or.inl (hw _ (List.mem_of_getElem? (i := 14) rfl))) (Or.inl (hw _ (List.mem_of_getElem? (i := 27) rfl))) (by decide) (t := .int) (t' := .boolean) (by decide) (by decide)))
      have F5_a_column := F4_a_column.other W5 (Or.inr (slot_ne (Or.inl (hw _ (List.mem_of_getElem? (i := 16) rfl))) (Or.inl (hw _ (List.mem_of_getElem? (i := 27) rfl))) (by decide) (t := .int) (t' := .boolean) (by decide) (by decide)))
      have F5_a_afterCarriageReturn := F4_a_afterCarriageReturn.same W5
      have Ex5_a := Ex4_a.wr W5
      have v1 : own_nl ln x1 cr = (ln + (1 : Int32)) := by unfold own_nl; rw [if_neg (fun q => q.2 hB), if_pos (Or.inl hA)]
      have v2 : own_nc cl x1 cr = (1 : Int32) := by unfold own_nc; rw [if_neg (fun q => q.2 hB), if_pos (Or.inl hA)]
      have v3 : own_nr x1 = (0 : Int32) := by unfold own_nr; rw [if_neg hC]
      obtain ⟨fs, hr, hrun, hended, hW, hsame⟩ := X5.leave (v := none) (fun _ => rfl)
      refine ⟨_, _, pre0 _ ?_, hrun, hended, _, _, rfl, ?_, ⟨_, rfl⟩, hW, hsame.mono (by decide) (by decide)⟩
      · show Steps p.tables e below (s₁.setTop (mkF m 0 #[.val (.ref a), .val (.int x1)] [])) _
        refine XS.iloadN X0.here hx rfl (hb hby d5_0) rfl ?_
        show Steps p.tables e below (s₁.setTop (mkF m 1 #[.val (.ref a), .val (.int x1)] [(.int x1)])) _
        refine XS.bipush X0.here hx rfl (hb hby d5_1) ?_
        show Steps p.tables e below (s₁.setTop (mkF m 3 #[.val (.ref a), .val (.int x1)] [(.int (10 : Int32)), (.int x1)])) _
        refine XS.icmpNo X0.here hx rfl (hb hby d5_3) rfl (teq hA).2 ?_
        show Steps p.tables e below (s₁.setTop (mkF m 6 #[.val (.ref a), .val (.int x1)] [])) _
        refine XS.aloadN X0.here hx rfl (hb hby d5_6) rfl rfl ?_
        show Steps p.tables e below (s₁.setTop (mkF m 7 #[.val (.ref a), .val (.int x1)] [(.ref a)])) _
        refine st1 _ ?_
        show Steps p.tables e below (T1.setTop (mkF m 10 #[.val (.ref a), .val (.int x1)] [(.int cr)])) _
        refine XS.ifYes X1.here hx rfl (pc0 := 10) (pc' := 21) rfl (hb hby d5_10) rfl ((if0 _ _).trans (teq hB).1) (by decide) (by decide) ?_
        show Steps p.tables e below (T1.setTop (mkF m 21 #[.val (.ref a), .val (.int x1)] [])) _
        refine XS.iloadN X1.here hx rfl (hb hby d5_21) rfl ?_
        show Steps p.tables e below (T1.setTop (mkF m 22 #[.val (.ref a), .val (.int x1)] [(.int x1)])) _
        refine XS.bipush X1.here hx rfl (hb hby d5_22) ?_
        show Steps p.tables e below (T1.setTop (mkF m 24 #[.val (.ref a), .val (.int x1)] [(.int (10 : Int32)), (.int x1)])) _
        refine XS.icmpYes X1.here hx rfl (pc0 := 24) (pc' := 33) rfl (hb hby d5_24) rfl (teq hA).1 (by decide) (by decide) ?_
        show Steps p.tables e below (T1.setTop (mkF m 33 #[.val (.ref a), .val (.int x1)] [])) _
        refine XS.aloadN X1.here hx rfl (hb hby d5_33) rfl rfl ?_
        show Steps p.tables e below (T1.setTop (mkF m 34 #[.val (.ref a), .val (.int x1)] [(.ref a)])) _
        refine XS.dup X1.here hx rfl (hb hby d5_34) rfl rfl ?_
        show Steps p.tables e below (T1.setTop (mkF m 35 #[.val (.ref a), .val (.int x1)] [(.ref a), (.ref a)])) _
        refine st2 _ ?_
        show Steps p.tables e below (T2.setTop (mkF m 38 #[.val (.ref a), .val (.int x1)] [(.int ln), (.ref a)])) _
        refine XS.iconst X2.here hx rfl (hb hby d5_38) ?_
        show Steps p.tables e below (T2.setTop (mkF m 39 #[.val (.ref a), .val (.int x1)] [(.int (1 : Int32)), (.int ln), (.ref a)])) _
        refine XS.iadd X2.here hx rfl (hb hby d5_39) rfl ?_
        show Steps p.tables e below (T2.setTop (mkF m 40 #[.val (.ref a), .val (.int x1)] [(.int (ln + (1 : Int32))), (.ref a)])) _
        refine st3 _ ?_
        show Steps p.tables e below (T3.setTop (mkF m 43 #[.val (.ref a), .val (.int x1)] [])) _
        refine XS.aloadN X3.here hx rfl (hb hby d5_43) rfl rfl ?_
        show Steps p.tables e below (T3.setTop (mkF m 44 #[.val (.ref a), .val (.int x1)] [(.ref a)])) _
        refine XS.iconst X3.here hx rfl (hb hby d5_44) ?_
        show Steps p.tables e below (T3.setTop (mkF m 45 #[.val (.ref a), .val (.int x1)] [(.int (1 : Int32)), (.ref a)])) _
        refine st4 _ ?_
        show Steps p.tables e below (T4.setTop (mkF m 48 #[.val (.ref a), .val (.int x1)] [])) _
        refine XS.aloadN X4.here hx rfl (hb hby d5_48) rfl rfl ?_
        show Steps p.tables e below (T4.setTop (mkF m 49 #[.val (.ref a), .val (.int x1)] [(.ref a)])) _
        refine XS.iloadN X4.here hx rfl (hb hby d5_49) rfl ?_
        show Steps p.tables e below (T4.setTop (mkF m 50 #[.val (.ref a), .val (.int x1)] [(.int x1), (.ref a)])) _
        refine XS.bipush X4.here hx rfl (hb hby d5_50) ?_
        show Steps p.tables e below (T4.setTop (mkF m 52 #[.val (.ref a), .val (.int x1)] [(.int (13 : Int32)), (.int x1), (.ref a)])) _
        refine XS.icmpYes X4.here hx rfl (pc0 := 52) (pc' := 59) rfl (hb hby d5_52) rfl (feq hC).2 (by decide) (by decide) ?_
        show Steps p.tables e below (T4.setTop (mkF m 59 #[.val (.ref a), .val (.int x1)] [(.ref a)])) _
        refine XS.iconst X4.here hx rfl (hb hby d5_59) ?_
        show Steps p.tables e below (T4.setTop (mkF m 60 #[.val (.ref a), .val (.int x1)] [(.int (0 : Int32)), (.ref a)])) _
        refine st5 _ ?_
        show Steps p.tables e below (T5.setTop (mkF m 63 #[.val (.ref a), .val (.int x1)] [])) _
        refine XS.goto X5.here hx rfl (pc0 := 63) (pc' := 81) rfl (hb hby d5_63) (by decide) (by decide) ?_
        show Steps p.tables e below (T5.setTop (mkF m 81 #[.val (.ref a), .val (.int x1)] [])) _
        exact X5.returnOut hx Bd.returns (hb hby d5_81) hr
      · show Q5 Z a ln cl cr x1 h0 n0 _ T5.heap _
        rw [e5]
        exact ⟨rfl, N5, Z5, K5, Ex5_a, by rw [v1]; exact F5_a_line, by rw [v2]; exact F5_a_column, by rw [v3]; exact F5_a_afterCarriageReturn⟩
    · have hC : ¬ (x1 = (13 : Int32)) := by rw [hA]; decide
      have Kp0 : Keep h0 h0 [a] := Keep.refl _ _
      obtain ⟨T1, X1, e1, st1⟩ := getF X0 hx hZ hown (host := "") (Or.inl (hw _ (List.mem_of_getElem? (i := 26) rfl))) Via.refl e0 Fa (g := (mkF m 7 #[.val (.ref a), .val (.int x1)] [(.ref a)])) rfl rfl (hb hby d5_7)
      obtain ⟨T2, h2, X2, e2, W2, st2⟩ := putFN X1 hx hZ hown (hw _ (List.mem_of_getElem? (i := 26) rfl)) Via.refl e1 Fa Ex (Or.inl (hw _ (List.mem_of_getElem? (i := 27) rfl))) (hw _ (List.mem_of_getElem? (i := 5) rfl)) (ty := .boolean) (v' := (.int (0 : Int32))) (by decide) rfl rfl (g := (mkF m 15 #[.val (.ref a), .val (.int x1)] [(.int (0 : Int32)), (.ref a)])) rfl rfl (hb hby d5_15)
      have N2 := Fr.snoc X2 N0 ga
      have Z2 : n0 ≤ h2.size := by rw [W2.size]; exact Z0
      have K2 := Kp0.wr W2 (Or.inl (by simp))
      have F2_a_line := Fl.other W2 (Or.inr (slot_ne (Or.inl (hw _ (List.mem_of_getElem? (i := 14) rfl))) (Or.inl (hw _ (List.mem_of_getElem? (i := 27) rfl))) (by decide) (t := .int) (t' := .boolean) (by decide) (by decide)))
      have F2_a_column := Fc.other W2 (Or.inr (slot_ne (Or.inl (hw _ (List.mem_of_getElem? (i := 16) rfl))) (Or.inl (hw _ (List.mem_of_getElem? (i := 27) rfl))) (by decide) (t := .int) (t' := .boolean) (by decide) (by decide)))
      have F2_a_afterCarriageReturn := Fa.same W2
      have Ex2_a := Ex.wr W2
      have v1 : own_nl ln x1 cr = ln := by unfold own_nl; rw [if_pos ⟨hA, hB⟩]
      have v2 : own_nc cl x1 cr = cl := by unfold own_nc; rw [if_pos ⟨hA, hB⟩]
      have v3 : own_nr x1 = (0 : Int32) := by unfold own_nr; rw [if_neg hC]
      obtain ⟨fs, hr, hrun, hended, hW, hsame⟩ := X2.leave (v := none) (fun _ => rfl)
      refine ⟨_, _, pre0 _ ?_, hrun, hended, _, _, rfl, ?_, ⟨_, rfl⟩, hW, hsame.mono (by decide) (by decide)⟩
      · show Steps p.tables e below (s₁.setTop (mkF m 0 #[.val (.ref a), .val (.int x1)] [])) _
        refine XS.iloadN X0.here hx rfl (hb hby d5_0) rfl ?_
        show Steps p.tables e below (s₁.setTop (mkF m 1 #[.val (.ref a), .val (.int x1)] [(.int x1)])) _
        refine XS.bipush X0.here hx rfl (hb hby d5_1) ?_
        show Steps p.tables e below (s₁.setTop (mkF m 3 #[.val (.ref a), .val (.int x1)] [(.int (10 : Int32)), (.int x1)])) _
        refine XS.icmpNo X0.here hx rfl (hb hby d5_3) rfl (teq hA).2 ?_
        show Steps p.tables e below (s₁.setTop (mkF m 6 #[.val (.ref a), .val (.int x1)] [])) _
        refine XS.aloadN X0.here hx rfl (hb hby d5_6) rfl rfl ?_
        show Steps p.tables e below (s₁.setTop (mkF m 7 #[.val (.ref a), .val (.int x1)] [(.ref a)])) _
        refine st1 _ ?_
        show Steps p.tables e below (T1.setTop (mkF m 10 #[.val (.ref a), .val (.int x1)] [(.int cr)])) _
        refine XS.ifNo X1.here hx rfl (hb hby d5_10) rfl ((if0 _ _).trans (feq hB).1) ?_
        show Steps p.tables e below (T1.setTop (mkF m 13 #[.val (.ref a), .val (.int x1)] [])) _
        refine XS.aloadN X1.here hx rfl (hb hby d5_13) rfl rfl ?_
        show Steps p.tables e below (T1.setTop (mkF m 14 #[.val (.ref a), .val (.int x1)] [(.ref a)])) _
        refine XS.iconst X1.here hx rfl (hb hby d5_14) ?_
        show Steps p.tables e below (T1.setTop (mkF m 15 #[.val (.ref a), .val (.int x1)] [(.int (0 : Int32)), (.ref a)])) _
        refine st2 _ ?_
        show Steps p.tables e below (T2.setTop (mkF m 18 #[.val (.ref a), .val (.int x1)] [])) _
        refine XS.goto X2.here hx rfl (pc0 := 18) (pc' := 81) rfl (hb hby d5_18) (by decide) (by decide) ?_
        show Steps p.tables e below (T2.setTop (mkF m 81 #[.val (.ref a), .val (.int x1)] [])) _
        exact X2.returnOut hx Bd.returns (hb hby d5_81) hr
      · show Q5 Z a ln cl cr x1 h0 n0 _ T2.heap _
        rw [e2]
        exact ⟨rfl, N2, Z2, K2, Ex2_a, by rw [v1]; exact F2_a_line, by rw [v2]; exact F2_a_column, by rw [v3]; exact F2_a_afterCarriageReturn⟩
  · by_cases hC : x1 = (13 : Int32)
    · have Kp0 : Keep h0 h0 [a] := Keep.refl _ _
      obtain ⟨T1, X1, e1, st1⟩ := getF X0 hx hZ hown (host := "") (Or.inl (hw _ (List.mem_of_getElem? (i := 13) rfl))) Via.refl e0 Fl (g := (mkF m 35 #[.val (.ref a), .val (.int x1)] [(.ref a), (.ref a)])) rfl rfl (hb hby d5_35)
      obtain ⟨T2, h2, X2, e2, W2, st2⟩ := putF X1 hx hZ hown (host := "") (Or.inl (hw _ (List.mem_of_getElem? (i := 13) rfl))) Via.refl e1 Fl Ex (Or.inl (hw _ (List.mem_of_getElem? (i := 14) rfl))) (hw _ (List.mem_of_getElem? (i := 5) rfl)) (ty := .int) (by decide) rfl rfl (g := (mkF m 40 #[.val (.ref a), .val (.int x1)] [(.int (ln + (1 : Int32))), (.ref a)])) rfl rfl (hb hby d5_40)
      have N2 := Fr.snoc X2 N0 ga
      have Z2 : n0 ≤ h2.size := by rw [W2.size]; exact Z0
      have K2 := Kp0.wr W2 (Or.inl (by simp))
      have F2_a_line := Fl.same W2
      have F2_a_column := Fc.other W2 (Or.inr (slot_ne (Or.inl (hw _ (List.mem_of_getElem? (i := 16) rfl))) (Or.inl (hw _ (List.mem_of_getElem? (i := 14) rfl))) (by decide) (t := .int) (t' := .int) (by decide) (by decide)))
      have F2_a_afterCarriageReturn := Fa.other W2 (Or.inr (slot_ne (Or.inl (hw _ (List.mem_of_getElem? (i := 27) rfl))) (Or.inl (hw _ (List.mem_of_getElem? (i := 14) rfl))) (by decide) (t := .boolean) (t' := .int) (by decide) (by decide)))
      have Ex2_a := Ex.wr W2
      obtain ⟨T3, h3, X3, e3, W3, st3⟩ := putF X2 hx hZ hown (host := "") (Or.inl (hw _ (List.mem_of_getElem? (i := 15) rfl))) Via.refl e2 F2_a_column Ex2_a (Or.inl (hw _ (List.mem_of_getElem? (i := 16) rfl))) (hw _ (List.mem_of_getElem? (i := 5) rfl)) (ty := .int) (by decide) rfl rfl (g := (mkF m 45 #[.val (.ref a), .val (.int x1)] [(.int (1 : Int32)), (.ref a)])) rfl rfl (hb hby d5_45)
      have N3 := Fr.snoc X3 N2 ga
      have Z3 : n0 ≤ h3.size := by rw [W3.size]; exact Z2
      have K3 := K2.wr W3 (Or.inl (by simp))
      have F3_a_line := F2_a_line.other W3 (Or.inr (slot_ne (Or.inl (hw _ (List.mem_of_getElem? (i := 14) rfl))) (Or.inl (hw _ (List.mem_of_getElem? (i := 16) rfl))) (by decide) (t := .int) (t' := .int) (by decide) (by decide)))
      have F3_a_column := F2_a_column.same W3
      have F3_a_afterCarriageReturn := F2_a_afterCarriageReturn.other W3 (Or.inr (slot_ne (Or.inl (hw _ (List.mem_of_getElem? (i := 27) rfl))) (Or.inl (hw _ (List.mem_of_getElem? (i := 16) rfl))) (by decide) (t := .boolean) (t' := .int) (by decide) (by decide)))
      have Ex3_a := Ex2_a.wr W3
      obtain ⟨T4, h4, X4, e4, W4, st4⟩ := putFN X3 hx hZ hown (hw _ (List.mem_of_getElem? (i := 26) rfl)) Via.refl e3 F3_a_afterCarriageReturn Ex3_a (Or.inl (hw _ (List.mem_of_getElem? (i := 27) rfl))) (hw _ (List.mem_of_getElem? (i := 5) rfl)) (ty := .boolean) (v' := (.int (1 : Int32))) (by decide) rfl rfl (g := (mkF m 60 #[.val (.ref a), .val (.int x1)] [(.int (1 : Int32)), (.ref a)])) rfl rfl (hb hby d5_60)
      have N4 := Fr.snoc X4 N3 ga
      have Z4 : n0 ≤ h4.size := by rw [W4.size]; exact Z3
      have K4 := K3.wr W4 (Or.inl (by simp))
      have F4_a_line := F3_a_line.other W4 (Or.inr (slot_ne (Or.inl (hw _ (List.mem_of_getElem? (i := 14) rfl))) (Or.inl (hw _ (List.mem_of_getElem? (i := 27) rfl))) (by decide) (t := .int) (t' := .boolean) (by decide) (by decide)))
      have F4_a_column := F3_a_column.other W4 (Or.inr (slot_ne (Or.inl (hw _ (List.mem_of_getElem? (i := 16) rfl))) (Or.inl (hw _ (List.mem_of_getElem? (i := 27) rfl))) (by decide) (t := .int) (t' := .boolean) (by decide) (by decide)))
      have F4_a_afterCarriageReturn := F3_a_afterCarriageReturn.same W4
      have Ex4_a := Ex3_a.wr W4
      have v1 : own_nl ln x1 cr = (ln + (1 : Int32)) := by unfold own_nl; rw [if_neg (fun q => hA q.1), if_pos (Or.inr hC)]
      have v2 : own_nc cl x1 cr = (1 : Int32) := by unfold own_nc; rw [if_neg (fun q => hA q.1), if_pos (Or.inr hC)]
      have v3 : own_nr x1 = (1 : Int32) := by unfold own_nr; rw [if_pos hC]
      obtain ⟨fs, hr, hrun, hended, hW, hsame⟩ := X4.leave (v := none) (fun _ => rfl)
      refine ⟨_, _, pre0 _ ?_, hrun, hended, _, _, rfl, ?_, ⟨_, rfl⟩, hW, hsame.mono (by decide) (by decide)⟩
      · show Steps p.tables e below (s₁.setTop (mkF m 0 #[.val (.ref a), .val (.int x1)] [])) _
        refine XS.iloadN X0.here hx rfl (hb hby d5_0) rfl ?_
        show Steps p.tables e below (s₁.setTop (mkF m 1 #[.val (.ref a), .val (.int x1)] [(.int x1)])) _
        refine XS.bipush X0.here hx rfl (hb hby d5_1) ?_
        show Steps p.tables e below (s₁.setTop (mkF m 3 #[.val (.ref a), .val (.int x1)] [(.int (10 : Int32)), (.int x1)])) _
        refine XS.icmpYes X0.here hx rfl (pc0 := 3) (pc' := 21) rfl (hb hby d5_3) rfl (feq hA).2 (by decide) (by decide) ?_
        show Steps p.tables e below (s₁.setTop (mkF m 21 #[.val (.ref a), .val (.int x1)] [])) _
        refine XS.iloadN X0.here hx rfl (hb hby d5_21) rfl ?_
        show Steps p.tables e below (s₁.setTop (mkF m 22 #[.val (.ref a), .val (.int x1)] [(.int x1)])) _
        refine XS.bipush X0.here hx rfl (hb hby d5_22) ?_
        show Steps p.tables e below (s₁.setTop (mkF m 24 #[.val (.ref a), .val (.int x1)] [(.int (10 : Int32)), (.int x1)])) _
        refine XS.icmpNo X0.here hx rfl (hb hby d5_24) rfl (feq hA).1 ?_
        show Steps p.tables e below (s₁.setTop (mkF m 27 #[.val (.ref a), .val (.int x1)] [])) _
        refine XS.iloadN X0.here hx rfl (hb hby d5_27) rfl ?_
        show Steps p.tables e below (s₁.setTop (mkF m 28 #[.val (.ref a), .val (.int x1)] [(.int x1)])) _
        refine XS.bipush X0.here hx rfl (hb hby d5_28) ?_
        show Steps p.tables e below (s₁.setTop (mkF m 30 #[.val (.ref a), .val (.int x1)] [(.int (13 : Int32)), (.int x1)])) _
        refine XS.icmpNo X0.here hx rfl (hb hby d5_30) rfl (teq hC).2 ?_
        show Steps p.tables e below (s₁.setTop (mkF m 33 #[.val (.ref a), .val (.int x1)] [])) _
        refine XS.aloadN X0.here hx rfl (hb hby d5_33) rfl rfl ?_
        show Steps p.tables e below (s₁.setTop (mkF m 34 #[.val (.ref a), .val (.int x1)] [(.ref a)])) _
        refine XS.dup X0.here hx rfl (hb hby d5_34) rfl rfl ?_
        show Steps p.tables e below (s₁.setTop (mkF m 35 #[.val (.ref a), .val (.int x1)] [(.ref a), (.ref a)])) _
        refine st1 _ ?_
        show Steps p.tables e below (T1.setTop (mkF m 38 #[.val (.ref a), .val (.int x1)] [(.int ln), (.ref a)])) _
        refine XS.iconst X1.here hx rfl (hb hby d5_38) ?_
        show Steps p.tables e below (T1.setTop (mkF m 39 #[.val (.ref a), .val (.int x1)] [(.int (1 : Int32)), (.int ln), (.ref a)])) _
        refine XS.iadd X1.here hx rfl (hb hby d5_39) rfl ?_
        show Steps p.tables e below (T1.setTop (mkF m 40 #[.val (.ref a), .val (.int x1)] [(.int (ln + (1 : Int32))), (.ref a)])) _
        refine st2 _ ?_
        show Steps p.tables e below (T2.setTop (mkF m 43 #[.val (.ref a), .val (.int x1)] [])) _
        refine XS.aloadN X2.here hx rfl (hb hby d5_43) rfl rfl ?_
        show Steps p.tables e below (T2.setTop (mkF m 44 #[.val (.ref a), .val (.int x1)] [(.ref a)])) _
        refine XS.iconst X2.here hx rfl (hb hby d5_44) ?_
        show Steps p.tables e below (T2.setTop (mkF m 45 #[.val (.ref a), .val (.int x1)] [(.int (1 : Int32)), (.ref a)])) _
        refine st3 _ ?_
        show Steps p.tables e below (T3.setTop (mkF m 48 #[.val (.ref a), .val (.int x1)] [])) _
        refine XS.aloadN X3.here hx rfl (hb hby d5_48) rfl rfl ?_
        show Steps p.tables e below (T3.setTop (mkF m 49 #[.val (.ref a), .val (.int x1)] [(.ref a)])) _
        refine XS.iloadN X3.here hx rfl (hb hby d5_49) rfl ?_
        show Steps p.tables e below (T3.setTop (mkF m 50 #[.val (.ref a), .val (.int x1)] [(.int x1), (.ref a)])) _
        refine XS.bipush X3.here hx rfl (hb hby d5_50) ?_
        show Steps p.tables e below (T3.setTop (mkF m 52 #[.val (.ref a), .val (.int x1)] [(.int (13 : Int32)), (.int x1), (.ref a)])) _
        refine XS.icmpNo X3.here hx rfl (hb hby d5_52) rfl (teq hC).2 ?_
        show Steps p.tables e below (T3.setTop (mkF m 55 #[.val (.ref a), .val (.int x1)] [(.ref a)])) _
        refine XS.iconst X3.here hx rfl (hb hby d5_55) ?_
        show Steps p.tables e below (T3.setTop (mkF m 56 #[.val (.ref a), .val (.int x1)] [(.int (1 : Int32)), (.ref a)])) _
        refine XS.goto X3.here hx rfl (pc0 := 56) (pc' := 60) rfl (hb hby d5_56) (by decide) (by decide) ?_
        show Steps p.tables e below (T3.setTop (mkF m 60 #[.val (.ref a), .val (.int x1)] [(.int (1 : Int32)), (.ref a)])) _
        refine st4 _ ?_
        show Steps p.tables e below (T4.setTop (mkF m 63 #[.val (.ref a), .val (.int x1)] [])) _
        refine XS.goto X4.here hx rfl (pc0 := 63) (pc' := 81) rfl (hb hby d5_63) (by decide) (by decide) ?_
        show Steps p.tables e below (T4.setTop (mkF m 81 #[.val (.ref a), .val (.int x1)] [])) _
        exact X4.returnOut hx Bd.returns (hb hby d5_81) hr
      · show Q5 Z a ln cl cr x1 h0 n0 _ T4.heap _
        rw [e4]
        exact ⟨rfl, N4, Z4, K4, Ex4_a, by rw [v1]; exact F4_a_line, by rw [v2]; exact F4_a_column, by rw [v3]; exact F4_a_afterCarriageReturn⟩
    · have Kp0 : Keep h0 h0 [a] := Keep.refl _ _
      obtain ⟨T1, X1, e1, st1⟩ := getF X0 hx hZ hown (host := "") (Or.inl (hw _ (List.mem_of_getElem? (i := 15) rfl))) Via.refl e0 Fc (g := (mkF m 68 #[.val (.ref a), .val (.int x1)] [(.ref a), (.ref a)])) rfl rfl (hb hby d5_68)
      obtain ⟨T2, h2, X2, e2, W2, st2⟩ := putF X1 hx hZ hown (host := "") (Or.inl (hw _ (List.mem_of_getElem? (i := 15) rfl))) Via.refl e1 Fc Ex (Or.inl (hw _ (List.mem_of_getElem? (i := 16) rfl))) (hw _ (List.mem_of_getElem? (i := 5) rfl)) (ty := .int) (by decide) rfl rfl (g := (mkF m 73 #[.val (.ref a), .val (.int x1)] [(.int (cl + (1 : Int32))), (.ref a)])) rfl rfl (hb hby d5_73)
      have N2 := Fr.snoc X2 N0 ga
      have Z2 : n0 ≤ h2.size := by rw [W2.size]; exact Z0
      have K2 := Kp0.wr W2 (Or.inl (by simp))
      have F2_a_line := Fl.other W2 (Or.inr (slot_ne (Or.inl (hw _ (List.mem_of_getElem? (i := 14) rfl))) (Or.inl (hw _ (List.mem_of_getElem? (i := 16) rfl))) (by decide) (t := .int) (t' := .int) (by decide) (by decide)))
      have F2_a_column := Fc.same W2
      have F2_a_afterCarriageReturn := Fa.other W2 (Or.inr (slot_ne (Or.inl (hw _ (List.mem_of_getElem? (i := 27) rfl))) (Or.inl (hw _ (List.mem_of_getElem? (i := 16) rfl))) (by decide) (t := .boolean) (t' := .int) (by decide) (by decide)))
      have Ex2_a := Ex.wr W2
      obtain ⟨T3, h3, X3, e3, W3, st3⟩ := putFN X2 hx hZ hown (hw _ (List.mem_of_getElem? (i := 26) rfl)) Via.refl e2 F2_a_afterCarriageReturn Ex2_a (Or.inl (hw _ (List.mem_of_getElem? (i := 27) rfl))) (hw _ (List.mem_of_getElem? (i := 5) rfl)) (ty := .boolean) (v' := (.int (0 : Int32))) (by decide) rfl rfl (g := (mkF m 78 #[.val (.ref a), .val (.int x1)] [(.int (0 : Int32)), (.ref a)])) rfl rfl (hb hby d5_78)
      have N3 := Fr.snoc X3 N2 ga
      have Z3 : n0 ≤ h3.size := by rw [W3.size]; exact Z2
      have K3 := K2.wr W3 (Or.inl (by simp))
      have F3_a_line := F2_a_line.other W3 (Or.inr (slot_ne (Or.inl (hw _ (List.mem_of_getElem? (i := 14) rfl))) (Or.inl (hw _ (List.mem_of_getElem? (i := 27) rfl))) (by decide) (t := .int) (t' := .boolean) (by decide) (by decide)))
      have F3_a_column := F2_a_column.other W3 (Or.inr (slot_ne (Or.inl (hw _ (List.mem_of_getElem? (i := 16) rfl))) (Or.inl (hw _ (List.mem_of_getElem? (i := 27) rfl))) (by decide) (t := .int) (t' := .boolean) (by decide) (by decide)))
      have F3_a_afterCarriageReturn := F2_a_afterCarriageReturn.same W3
      have Ex3_a := Ex2_a.wr W3
      have v1 : own_nl ln x1 cr = ln := by unfold own_nl; rw [if_neg (fun q => hA q.1), if_neg (fun q => q.elim hA hC)]
      have v2 : own_nc cl x1 cr = (cl + (1 : Int32)) := by unfold own_nc; rw [if_neg (fun q => hA q.1), if_neg (fun q => q.elim hA hC)]
      have v3 : own_nr x1 = (0 : Int32) := by unfold own_nr; rw [if_neg hC]
      obtain ⟨fs, hr, hrun, hended, hW, hsame⟩ := X3.leave (v := none) (fun _ => rfl)
      refine ⟨_, _, pre0 _ ?_, hrun, hended, _, _, rfl, ?_, ⟨_, rfl⟩, hW, hsame.mono (by decide) (by decide)⟩
      · show Steps p.tables e below (s₁.setTop (mkF m 0 #[.val (.ref a), .val (.int x1)] [])) _
        refine XS.iloadN X0.here hx rfl (hb hby d5_0) rfl ?_
        show Steps p.tables e below (s₁.setTop (mkF m 1 #[.val (.ref a), .val (.int x1)] [(.int x1)])) _
        refine XS.bipush X0.here hx rfl (hb hby d5_1) ?_
        show Steps p.tables e below (s₁.setTop (mkF m 3 #[.val (.ref a), .val (.int x1)] [(.int (10 : Int32)), (.int x1)])) _
        refine XS.icmpYes X0.here hx rfl (pc0 := 3) (pc' := 21) rfl (hb hby d5_3) rfl (feq hA).2 (by decide) (by decide) ?_
        show Steps p.tables e below (s₁.setTop (mkF m 21 #[.val (.ref a), .val (.int x1)] [])) _
        refine XS.iloadN X0.here hx rfl (hb hby d5_21) rfl ?_
        show Steps p.tables e below (s₁.setTop (mkF m 22 #[.val (.ref a), .val (.int x1)] [(.int x1)])) _
        refine XS.bipush X0.here hx rfl (hb hby d5_22) ?_
        show Steps p.tables e below (s₁.setTop (mkF m 24 #[.val (.ref a), .val (.int x1)] [(.int (10 : Int32)), (.int x1)])) _
        refine XS.icmpNo X0.here hx rfl (hb hby d5_24) rfl (feq hA).1 ?_
        show Steps p.tables e below (s₁.setTop (mkF m 27 #[.val (.ref a), .val (.int x1)] [])) _
        refine XS.iloadN X0.here hx rfl (hb hby d5_27) rfl ?_
        show Steps p.tables e below (s₁.setTop (mkF m 28 #[.val (.ref a), .val (.int x1)] [(.int x1)])) _
        refine XS.bipush X0.here hx rfl (hb hby d5_28) ?_
        show Steps p.tables e below (s₁.setTop (mkF m 30 #[.val (.ref a), .val (.int x1)] [(.int (13 : Int32)), (.int x1)])) _
        refine XS.icmpYes X0.here hx rfl (pc0 := 30) (pc' := 66) rfl (hb hby d5_30) rfl (feq hC).2 (by decide) (by decide) ?_
        show Steps p.tables e below (s₁.setTop (mkF m 66 #[.val (.ref a), .val (.int x1)] [])) _
        refine XS.aloadN X0.here hx rfl (hb hby d5_66) rfl rfl ?_
        show Steps p.tables e below (s₁.setTop (mkF m 67 #[.val (.ref a), .val (.int x1)] [(.ref a)])) _
        refine XS.dup X0.here hx rfl (hb hby d5_67) rfl rfl ?_
        show Steps p.tables e below (s₁.setTop (mkF m 68 #[.val (.ref a), .val (.int x1)] [(.ref a), (.ref a)])) _
        refine st1 _ ?_
        show Steps p.tables e below (T1.setTop (mkF m 71 #[.val (.ref a), .val (.int x1)] [(.int cl), (.ref a)])) _
        refine XS.iconst X1.here hx rfl (hb hby d5_71) ?_
        show Steps p.tables e below (T1.setTop (mkF m 72 #[.val (.ref a), .val (.int x1)] [(.int (1 : Int32)), (.int cl), (.ref a)])) _
        refine XS.iadd X1.here hx rfl (hb hby d5_72) rfl ?_
        show Steps p.tables e below (T1.setTop (mkF m 73 #[.val (.ref a), .val (.int x1)] [(.int (cl + (1 : Int32))), (.ref a)])) _
        refine st2 _ ?_
        show Steps p.tables e below (T2.setTop (mkF m 76 #[.val (.ref a), .val (.int x1)] [])) _
        refine XS.aloadN X2.here hx rfl (hb hby d5_76) rfl rfl ?_
        show Steps p.tables e below (T2.setTop (mkF m 77 #[.val (.ref a), .val (.int x1)] [(.ref a)])) _
        refine XS.iconst X2.here hx rfl (hb hby d5_77) ?_
        show Steps p.tables e below (T2.setTop (mkF m 78 #[.val (.ref a), .val (.int x1)] [(.int (0 : Int32)), (.ref a)])) _
        refine st3 _ ?_
        show Steps p.tables e below (T3.setTop (mkF m 81 #[.val (.ref a), .val (.int x1)] [])) _
        exact X3.returnOut hx Bd.returns (hb hby d5_81) hr
      · show Q5 Z a ln cl cr x1 h0 n0 _ T3.heap _
        rw [e3]
        exact ⟨rfl, N3, Z3, K3, Ex3_a, by rw [v1]; exact F3_a_line, by rw [v2]; exact F3_a_column, by rw [v3]; exact F3_a_afterCarriageReturn⟩
def Q4 (Z : State) (k st : Addr) (ln cl x2 x3 : Int32) (n0 : Nat) (v : Option Value) (h : Heap) (L : List Loc) : Prop := v = some (.int (1 : Int32)) ∧ Fr n0 L ∧ n0 ≤ h.size ∧ Exa Z h k "com/example/kingsnake/kingsnake/core/ReadPosition$Counter" ∧ Fld Z h k "com/example/kingsnake/kingsnake/core/ReadPosition$Counter" "line" "I" (.int (own_nl ln x2 (own_nr x3))) ∧ Fld Z h k "com/example/kingsnake/kingsnake/core/ReadPosition$Counter" "column" "I" (.int (own_nc cl x2 (own_nr x3))) ∧ Fld Z h k "com/example/kingsnake/kingsnake/core/ReadPosition$Counter" "afterCarriageReturn" "Z" (.int (own_nr x2)) ∧ own_ar Z h st (own_nl ln x2 (own_nr x3)) (own_nc cl x2 (own_nr x3))
set_option maxRecDepth 65536 in
set_option maxHeartbeats 40000000 in
theorem rm4 (l : Launch) (Z : State) (a0 : Array Value) (hw : ∀ d ∈ tables_1, d.before a0 Z = true) (ws : List Jvm.Cond) (k st : Addr) (ln cl x2 x3 : Int32) (h0 : Heap) (n0 : Nat) (Z0 : n0 ≤ h0.size) (ga : n0 ≤ k) (gs : n0 ≤ st) (nks : k ≠ st) (Ex : Exa Z h0 k "com/example/kingsnake/kingsnake/core/ReadPosition$Counter") (Fl : Fld Z h0 k "com/example/kingsnake/kingsnake/core/ReadPosition$Counter" "line" "I" (.int ln)) (Fc : Fld Z h0 k "com/example/kingsnake/kingsnake/core/ReadPosition$Counter" "column" "I" (.int cl)) (Fa : Fld Z h0 k "com/example/kingsnake/kingsnake/core/ReadPosition$Counter" "afterCarriageReturn" "Z" (.int (own_nr x3))) (A0 : own_ar Z h0 st ln cl) :
    MetFree l (⟨"com/example/kingsnake/kingsnake/core/CounterCountPinLaw", "step", "(Lcom/example/kingsnake/kingsnake/core/ReadPosition$Counter;[III)Z"⟩ : MethodName) (head1 (Jvm.Cond.code (⟨"com/example/kingsnake/kingsnake/core/CounterCountPinLaw", "step", "(Lcom/example/kingsnake/kingsnake/core/ReadPosition$Counter;[III)Z"⟩ : MethodName) method_4_code 6 (some .boolean) :: ws) ({ frames := 1, cells := 0, slots := 0, locals := 13 } : Room)) (fun as_ U => as_ = #[(.ref k), (.ref st), (.int x2), (.int x3)] ∧ Z.Warmed39 U.vm ∧ U.heap = h0) (fun _ _ _ _ _ => True) (fun _ U o U' => ∃ v L, o = .returned v ∧ Q4 Z k st ln cl x2 x3 n0 v U'.heap L ∧ FrameEnd U o U' L ({ frames := 1, cells := 0, slots := 0, locals := 13 } : Room).cells ({ frames := 1, cells := 0, slots := 0, locals := 13 } : Room).slots) := by
  refine MetFree.of_bodySF (plainFor_of_name pn_4) hisR ?_
  intro p e s m args below meth c s₁ Bd hml0 hP hK
  obtain ⟨rfl, hZ, hh⟩ := hP
  have hx := Bd.exec
  have hby := Bd.bytes
  have hml : c.maxLocals = 6 := hml0
  have hown : s.vm.findClass "com/example/kingsnake/kingsnake/core/CounterCountPinLaw" = some m.cls := findClass_of_methodNamed Bd.named
  have hnm := (name_of_methodNamed Bd.named Bd.method).1
  have X0 : Stand p l e ({ frames := 1, cells := 0, slots := 0, locals := 13 } : Room) s m #[(.ref k), (.ref st), (.int x2), (.int x3)] below meth c s₁ [] 0 0 := Stand.of_body Bd
  have e0 : s₁.heap = h0 := by rw [← hh, Bd.state]; rfl
  have N0 := Fr.nil n0
  have pre0 : ∀ t, Steps p.tables e below (s₁.setTop (mkF m 0 #[.val (.ref k), .val (.ref st), .val (.int x2), .val (.int x3), .unset, .unset] [])) t → Steps p.tables e below (s₁.setTop (entryFrame m #[(.ref k), (.ref st), (.int x2), (.int x3)] 6)) t := fun t_ k_ => castTop (ef_4 m k st x2 x3) k_
  by_cases hA : x2 = (10 : Int32)
  · by_cases hP : x3 = (13 : Int32)
    · have hC : ¬ (x2 = (13 : Int32)) := by rw [hA]; decide
      have hB : ¬ (own_nr x3 = (0 : Int32)) := by unfold own_nr; rw [if_pos hP]; decide
      have v1 : own_nl ln x2 (own_nr x3) = ln := by unfold own_nl; rw [if_pos ⟨hA, hB⟩]
      have v2 : own_nc cl x2 (own_nr x3) = cl := by unfold own_nc; rw [if_pos ⟨hA, hB⟩]
      obtain ⟨cq1, kq1, q1a, q1b, q1c⟩ := isOf hZ e0 Ex
      obtain ⟨_, _, ⟨T1, L1, k1, n1⟩, -, X1, ⟨Lc1, hQ1, l1, y1, z1⟩, st1⟩ := X0.virtualBack hx (y := (⟨"com/example/kingsnake/kingsnake/core/ReadPosition$Counter", "count", "(I)V"⟩ : MethodName)) (z := (⟨"com/example/kingsnake/kingsnake/core/ReadPosition$Counter", "count", "(I)V"⟩ : MethodName)) hown (mvT hZ (hw _ (List.mem_of_getElem? (i := 21) rfl))) (mvT hZ (hw _ (List.mem_of_getElem? (i := 22) rfl))) (notFace_of_selects (args := #[]) (mvT hZ (hw _ (List.mem_of_getElem? (i := 24) rfl)))) (mvT hZ (hw _ (List.mem_of_getElem? (i := 24) rfl))) (mvT hZ (hw _ (List.mem_of_getElem? (i := 23) rfl))) (by decide) (backOf (W := 0) (rm5 l Z a0 hw [] k ln cl (own_nr x3) x2 h0 n0 Z0 ga Ex Fl Fc Fa) hZ (hw _ (List.mem_of_getElem? (i := 25) rfl)) (hw _ (List.mem_of_getElem? (i := 6) rfl)) (by decide) (by decide)) q1a q1c (g := (mkF m 78 #[.val (.ref k), .val (.ref st), .val (.int x2), .val (.int x3), .val (.int (1 : Int32)), .val (.int (0 : Int32))] [(.int x2), (.ref k)])) rfl (by rw [hml]; rfl) (Steps.refl _) (argsL := [(.int x2)]) (rest := []) (lenOf pd_5 rfl) rfl (by show 2 * 0 + _ ≤ _; exact Nat.le_of_eq rfl) (hb hby d4_78) (fun _ _ => ⟨rfl, e0, (by decide : 0 + 0 ≤ _), (by decide : 0 + 0 ≤ _)⟩)
      dsimp only [Pt.U, Pt.locs, Pt.cells, Pt.slots] at X1 l1 y1 z1 st1 hQ1
      subst l1 y1 z1
      obtain ⟨rfl, N1q, Z1, K1, Ex1, Fl1, Fc1, Fa1⟩ := hQ1
      have N1 := Fr.app N0 N1q
      have A1 := own_ar_keep A0 K1 (by simpa using nks.symm)
      obtain ⟨cq2, kq2, q2a, q2b, q2c⟩ := isOf hZ rfl Ex1
      obtain ⟨_, _, ⟨T2, L2, k2, n2⟩, -, X2, ⟨Lc2, hQ2, l2, y2, z2⟩, st2⟩ := X1.virtualBack hx (y := (⟨"com/example/kingsnake/kingsnake/core/ReadPosition$Counter", "getLine", "()I"⟩ : MethodName)) (z := (⟨"com/example/kingsnake/kingsnake/core/ReadPosition$Counter", "getLine", "()I"⟩ : MethodName)) hown (mvT hZ (hw _ (List.mem_of_getElem? (i := 28) rfl))) (mvT hZ (hw _ (List.mem_of_getElem? (i := 29) rfl))) (notFace_of_selects (args := #[]) (mvT hZ (hw _ (List.mem_of_getElem? (i := 31) rfl)))) (mvT hZ (hw _ (List.mem_of_getElem? (i := 31) rfl))) (mvT hZ (hw _ (List.mem_of_getElem? (i := 30) rfl))) (by decide) (backOf (W := 0) (rm6 l Z a0 hw [] k (own_nl ln x2 (own_nr x3)) T1.heap n0 Z1 Fl1) hZ (hw _ (List.mem_of_getElem? (i := 32) rfl)) (hw _ (List.mem_of_getElem? (i := 6) rfl)) (by decide) (by decide)) q2a q2c (g := (mkF m 82 #[.val (.ref k), .val (.ref st), .val (.int x2), .val (.int x3), .val (.int (1 : Int32)), .val (.int (0 : Int32))] [(.ref k)])) rfl (by rw [hml]; rfl) (Steps.refl _) (argsL := []) (rest := []) (lenOf pd_6 rfl) rfl (by show 2 * 0 + _ ≤ _; exact Nat.le_of_eq rfl) (hb hby d4_82) (fun _ _ => ⟨rfl, rfl, (by decide : 0 + 0 ≤ _), (by decide : 0 + 0 ≤ _)⟩)
      dsimp only [Pt.U, Pt.locs, Pt.cells, Pt.slots] at X2 l2 y2 z2 st2 hQ2
      subst l2 y2 z2
      obtain ⟨rfl, N2q, eh2⟩ := hQ2
      have N2 := Fr.app N1 N2q
      have Z2 : n0 ≤ T2.heap.size := by rw [eh2]; exact Z1
      have A2 : own_ar Z T2.heap st ln cl := by rw [eh2]; exact A1
      have Ex2 : Exa Z T2.heap k "com/example/kingsnake/kingsnake/core/ReadPosition$Counter" := by rw [eh2]; exact Ex1
      have Fl2 : Fld Z T2.heap k "com/example/kingsnake/kingsnake/core/ReadPosition$Counter" "line" "I" (.int (own_nl ln x2 (own_nr x3))) := by rw [eh2]; exact Fl1
      have Fc2 : Fld Z T2.heap k "com/example/kingsnake/kingsnake/core/ReadPosition$Counter" "column" "I" (.int (own_nc cl x2 (own_nr x3))) := by rw [eh2]; exact Fc1
      have Fa2 : Fld Z T2.heap k "com/example/kingsnake/kingsnake/core/ReadPosition$Counter" "afterCarriageReturn" "Z" (.int (own_nr x2)) := by rw [eh2]; exact Fa1
      obtain ⟨cq3, kq3, q3a, q3b, q3c⟩ := isOf hZ rfl Ex2
      obtain ⟨_, _, ⟨T3, L3, k3, n3⟩, -, X3, ⟨Lc3, hQ3, l3, y3, z3⟩, st3⟩ := X2.virtualBack hx (y := (⟨"com/example/kingsnake/kingsnake/core/ReadPosition$Counter", "getColumn", "()I"⟩ : MethodName)) (z := (⟨"com/example/kingsnake/kingsnake/core/ReadPosition$Counter", "getColumn", "()I"⟩ : MethodName)) hown (mvT hZ (hw _ (List.mem_of_getElem? (i := 33) rfl))) (mvT hZ (hw _ (List.mem_of_getElem? (i := 34) rfl))) (notFace_of_selects (args := #[]) (mvT hZ (hw _ (List.mem_of_getElem? (i := 36) rfl)))) (mvT hZ (hw _ (List.mem_of_getElem? (i := 36) rfl))) (mvT hZ (hw _ (List.mem_of_getElem? (i := 35) rfl))) (by decide) (backOf (W := 0) (rm7 l Z a0 hw [] k (own_nc cl x2 (own_nr x3)) T2.heap n0 Z2 Fc2) hZ (hw _ (List.mem_of_getElem? (i := 37) rfl)) (hw _ (List.mem_of_getElem? (i := 6) rfl)) (by decide) (by decide)) q3a q3c (g := (mkF m 92 #[.val (.ref k), .val (.ref st), .val (.int x2), .val (.int x3), .val (.int (1 : Int32)), .val (.int (0 : Int32))] [(.ref k)])) rfl (by rw [hml]; rfl) (Steps.refl _) (argsL := []) (rest := []) (lenOf pd_7 rfl) rfl (by show 2 * 0 + _ ≤ _; exact Nat.le_of_eq rfl) (hb hby d4_92) (fun _ _ => ⟨rfl, rfl, (by decide : 0 + 0 ≤ _), (by decide : 0 + 0 ≤ _)⟩)
      dsimp only [Pt.U, Pt.locs, Pt.cells, Pt.slots] at X3 l3 y3 z3 st3 hQ3
      subst l3 y3 z3
      obtain ⟨rfl, N3q, eh3⟩ := hQ3
      have N3 := Fr.app N2 N3q
      have Z3 : n0 ≤ T3.heap.size := by rw [eh3]; exact Z2
      have A3 : own_ar Z T3.heap st ln cl := by rw [eh3]; exact A2
      have Ex3 : Exa Z T3.heap k "com/example/kingsnake/kingsnake/core/ReadPosition$Counter" := by rw [eh3]; exact Ex2
      have Fl3 : Fld Z T3.heap k "com/example/kingsnake/kingsnake/core/ReadPosition$Counter" "line" "I" (.int (own_nl ln x2 (own_nr x3))) := by rw [eh3]; exact Fl2
      have Fc3 : Fld Z T3.heap k "com/example/kingsnake/kingsnake/core/ReadPosition$Counter" "column" "I" (.int (own_nc cl x2 (own_nr x3))) := by rw [eh3]; exact Fc2
      have Fa3 : Fld Z T3.heap k "com/example/kingsnake/kingsnake/core/ReadPosition$Counter" "afterCarriageReturn" "Z" (.int (own_nr x2)) := by rw [eh3]; exact Fa2
      obtain ⟨fs, hr, hrun, hended, hW, hsame⟩ := X3.leave (v := some (.int (1 : Int32))) (fun h => by rw [Bd.returns] at h; cases h)
      refine ⟨_, _, pre0 _ ?_, hrun, hended, _, _, rfl, ?_, ⟨_, rfl⟩, hW, hsame.mono (by decide) (by decide)⟩
      · show Steps p.tables e below (s₁.setTop (mkF m 0 #[.val (.ref k), .val (.ref st), .val (.int x2), .val (.int x3), .unset, .unset] [])) _
        refine XS.iloadN X0.here hx rfl (hb hby d4_0) rfl ?_
        show Steps p.tables e below (s₁.setTop (mkF m 1 #[.val (.ref k), .val (.ref st), .val (.int x2), .val (.int x3), .unset, .unset] [(.int x2)])) _
        refine XS.bipush X0.here hx rfl (hb hby d4_1) ?_
        show Steps p.tables e below (s₁.setTop (mkF m 3 #[.val (.ref k), .val (.ref st), .val (.int x2), .val (.int x3), .unset, .unset] [(.int (10 : Int32)), (.int x2)])) _
        refine XS.icmpNo X0.here hx rfl (hb hby d4_3) rfl (teq hA).2 ?_
        show Steps p.tables e below (s₁.setTop (mkF m 6 #[.val (.ref k), .val (.ref st), .val (.int x2), .val (.int x3), .unset, .unset] [])) _
        refine XS.iloadN X0.here hx rfl (hb hby d4_6) rfl ?_
        show Steps p.tables e below (s₁.setTop (mkF m 7 #[.val (.ref k), .val (.ref st), .val (.int x2), .val (.int x3), .unset, .unset] [(.int x3)])) _
        refine XS.bipush X0.here hx rfl (hb hby d4_7) ?_
        show Steps p.tables e below (s₁.setTop (mkF m 9 #[.val (.ref k), .val (.ref st), .val (.int x2), .val (.int x3), .unset, .unset] [(.int (13 : Int32)), (.int x3)])) _
        refine XS.icmpNo X0.here hx rfl (hb hby d4_9) rfl (teq hP).2 ?_
        show Steps p.tables e below (s₁.setTop (mkF m 12 #[.val (.ref k), .val (.ref st), .val (.int x2), .val (.int x3), .unset, .unset] [])) _
        refine XS.iconst X0.here hx rfl (hb hby d4_12) ?_
        show Steps p.tables e below (s₁.setTop (mkF m 13 #[.val (.ref k), .val (.ref st), .val (.int x2), .val (.int x3), .unset, .unset] [(.int (1 : Int32))])) _
        refine XS.goto X0.here hx rfl (pc0 := 13) (pc' := 17) rfl (hb hby d4_13) (by decide) (by decide) ?_
        show Steps p.tables e below (s₁.setTop (mkF m 17 #[.val (.ref k), .val (.ref st), .val (.int x2), .val (.int x3), .unset, .unset] [(.int (1 : Int32))])) _
        refine XS.istore X0.here hx rfl (hb hby d4_17) rfl (l' := #[.val (.ref k), .val (.ref st), .val (.int x2), .val (.int x3), .val (.int (1 : Int32)), .unset]) rfl ?_
        show Steps p.tables e below (s₁.setTop (mkF m 19 #[.val (.ref k), .val (.ref st), .val (.int x2), .val (.int x3), .val (.int (1 : Int32)), .unset] [])) _
        refine XS.iloadN X0.here hx rfl (hb hby d4_19) rfl ?_
        show Steps p.tables e below (s₁.setTop (mkF m 20 #[.val (.ref k), .val (.ref st), .val (.int x2), .val (.int x3), .val (.int (1 : Int32)), .unset] [(.int x2)])) _
        refine XS.bipush X0.here hx rfl (hb hby d4_20) ?_
        show Steps p.tables e below (s₁.setTop (mkF m 22 #[.val (.ref k), .val (.ref st), .val (.int x2), .val (.int x3), .val (.int (1 : Int32)), .unset] [(.int (13 : Int32)), (.int x2)])) _
        refine XS.icmpNo X0.here hx rfl (hb hby d4_22) rfl (feq hC).1 ?_
        show Steps p.tables e below (s₁.setTop (mkF m 25 #[.val (.ref k), .val (.ref st), .val (.int x2), .val (.int x3), .val (.int (1 : Int32)), .unset] [])) _
        refine XS.iloadN X0.here hx rfl (hb hby d4_25) rfl ?_
        show Steps p.tables e below (s₁.setTop (mkF m 26 #[.val (.ref k), .val (.ref st), .val (.int x2), .val (.int x3), .val (.int (1 : Int32)), .unset] [(.int x2)])) _
        refine XS.bipush X0.here hx rfl (hb hby d4_26) ?_
        show Steps p.tables e below (s₁.setTop (mkF m 28 #[.val (.ref k), .val (.ref st), .val (.int x2), .val (.int x3), .val (.int (1 : Int32)), .unset] [(.int (10 : Int32)), (.int x2)])) _
        refine XS.icmpNo X0.here hx rfl (hb hby d4_28) rfl (teq hA).2 ?_
        show Steps p.tables e below (s₁.setTop (mkF m 31 #[.val (.ref k), .val (.ref st), .val (.int x2), .val (.int x3), .val (.int (1 : Int32)), .unset] [])) _
        refine XS.iload X0.here hx rfl (hb hby d4_31) rfl ?_
        show Steps p.tables e below (s₁.setTop (mkF m 33 #[.val (.ref k), .val (.ref st), .val (.int x2), .val (.int x3), .val (.int (1 : Int32)), .unset] [(.int (1 : Int32))])) _
        refine XS.ifYes X0.here hx rfl (pc0 := 33) (pc' := 40) rfl (hb hby d4_33) rfl ((if0 _ _).trans (feq (by decide : ¬ ((1 : Int32) = (0 : Int32)))).2) (by decide) (by decide) ?_
        show Steps p.tables e below (s₁.setTop (mkF m 40 #[.val (.ref k), .val (.ref st), .val (.int x2), .val (.int x3), .val (.int (1 : Int32)), .unset] [])) _
        refine XS.iconst X0.here hx rfl (hb hby d4_40) ?_
        show Steps p.tables e below (s₁.setTop (mkF m 41 #[.val (.ref k), .val (.ref st), .val (.int x2), .val (.int x3), .val (.int (1 : Int32)), .unset] [(.int (0 : Int32))])) _
        refine XS.istore X0.here hx rfl (hb hby d4_41) rfl (l' := #[.val (.ref k), .val (.ref st), .val (.int x2), .val (.int x3), .val (.int (1 : Int32)), .val (.int (0 : Int32))]) rfl ?_
        show Steps p.tables e below (s₁.setTop (mkF m 43 #[.val (.ref k), .val (.ref st), .val (.int x2), .val (.int x3), .val (.int (1 : Int32)), .val (.int (0 : Int32))] [])) _
        refine XS.iload X0.here hx rfl (hb hby d4_43) rfl ?_
        show Steps p.tables e below (s₁.setTop (mkF m 45 #[.val (.ref k), .val (.ref st), .val (.int x2), .val (.int x3), .val (.int (1 : Int32)), .val (.int (0 : Int32))] [(.int (0 : Int32))])) _
        refine XS.ifYes X0.here hx rfl (pc0 := 45) (pc' := 63) rfl (hb hby d4_45) rfl ((if0 _ _).trans (teq (by decide : (0 : Int32) = (0 : Int32))).1) (by decide) (by decide) ?_
        show Steps p.tables e below (s₁.setTop (mkF m 63 #[.val (.ref k), .val (.ref st), .val (.int x2), .val (.int x3), .val (.int (1 : Int32)), .val (.int (0 : Int32))] [])) _
        refine XS.iload X0.here hx rfl (hb hby d4_63) rfl ?_
        show Steps p.tables e below (s₁.setTop (mkF m 65 #[.val (.ref k), .val (.ref st), .val (.int x2), .val (.int x3), .val (.int (1 : Int32)), .val (.int (0 : Int32))] [(.int (1 : Int32))])) _
        refine XS.ifYes X0.here hx rfl (pc0 := 65) (pc' := 76) rfl (hb hby d4_65) rfl ((if0 _ _).trans (feq (by decide : ¬ ((1 : Int32) = (0 : Int32)))).2) (by decide) (by decide) ?_
        show Steps p.tables e below (s₁.setTop (mkF m 76 #[.val (.ref k), .val (.ref st), .val (.int x2), .val (.int x3), .val (.int (1 : Int32)), .val (.int (0 : Int32))] [])) _
        refine XS.aloadN X0.here hx rfl (hb hby d4_76) rfl rfl ?_
        show Steps p.tables e below (s₁.setTop (mkF m 77 #[.val (.ref k), .val (.ref st), .val (.int x2), .val (.int x3), .val (.int (1 : Int32)), .val (.int (0 : Int32))] [(.ref k)])) _
        refine XS.iloadN X0.here hx rfl (hb hby d4_77) rfl ?_
        refine st1.trans ?_
        show Steps p.tables e below (T1.setTop (mkF m 81 #[.val (.ref k), .val (.ref st), .val (.int x2), .val (.int x3), .val (.int (1 : Int32)), .val (.int (0 : Int32))] [])) _
        refine XS.aloadN X1.here hx rfl (hb hby d4_81) rfl rfl ?_
        refine st2.trans ?_
        show Steps p.tables e below (T2.setTop (mkF m 85 #[.val (.ref k), .val (.ref st), .val (.int x2), .val (.int x3), .val (.int (1 : Int32)), .val (.int (0 : Int32))] [(.int (own_nl ln x2 (own_nr x3)))])) _
        refine XS.aloadN X2.here hx rfl (hb hby d4_85) rfl rfl ?_
        show Steps p.tables e below (T2.setTop (mkF m 86 #[.val (.ref k), .val (.ref st), .val (.int x2), .val (.int x3), .val (.int (1 : Int32)), .val (.int (0 : Int32))] [(.ref st), (.int (own_nl ln x2 (own_nr x3)))])) _
        refine XS.iconst X2.here hx rfl (hb hby d4_86) ?_
        show Steps p.tables e below (T2.setTop (mkF m 87 #[.val (.ref k), .val (.ref st), .val (.int x2), .val (.int x3), .val (.int (1 : Int32)), .val (.int (0 : Int32))] [(.int (0 : Int32)), (.ref st), (.int (own_nl ln x2 (own_nr x3)))])) _
        refine own_get0 X2 hx hZ rfl A2 (g := (mkF m 87 #[.val (.ref k), .val (.ref st), .val (.int x2), .val (.int x3), .val (.int (1 : Int32)), .val (.int (0 : Int32))] [(.int (0 : Int32)), (.ref st), (.int (own_nl ln x2 (own_nr x3)))])) rfl rfl (hb hby d4_87) _ ?_
        show Steps p.tables e below (T2.setTop (mkF m 88 #[.val (.ref k), .val (.ref st), .val (.int x2), .val (.int x3), .val (.int (1 : Int32)), .val (.int (0 : Int32))] [(.int ln), (.int (own_nl ln x2 (own_nr x3)))])) _
        refine XS.icmpNo X2.here hx rfl (hb hby d4_88) rfl (teq v1).2 ?_
        show Steps p.tables e below (T2.setTop (mkF m 91 #[.val (.ref k), .val (.ref st), .val (.int x2), .val (.int x3), .val (.int (1 : Int32)), .val (.int (0 : Int32))] [])) _
        refine XS.aloadN X2.here hx rfl (hb hby d4_91) rfl rfl ?_
        refine st3.trans ?_
        show Steps p.tables e below (T3.setTop (mkF m 95 #[.val (.ref k), .val (.ref st), .val (.int x2), .val (.int x3), .val (.int (1 : Int32)), .val (.int (0 : Int32))] [(.int (own_nc cl x2 (own_nr x3)))])) _
        refine XS.aloadN X3.here hx rfl (hb hby d4_95) rfl rfl ?_
        show Steps p.tables e below (T3.setTop (mkF m 96 #[.val (.ref k), .val (.ref st), .val (.int x2), .val (.int x3), .val (.int (1 : Int32)), .val (.int (0 : Int32))] [(.ref st), (.int (own_nc cl x2 (own_nr x3)))])) _
        refine XS.iconst X3.here hx rfl (hb hby d4_96) ?_
        show Steps p.tables e below (T3.setTop (mkF m 97 #[.val (.ref k), .val (.ref st), .val (.int x2), .val (.int x3), .val (.int (1 : Int32)), .val (.int (0 : Int32))] [(.int (1 : Int32)), (.ref st), (.int (own_nc cl x2 (own_nr x3)))])) _
        refine own_get1 X3 hx hZ rfl A3 (g := (mkF m 97 #[.val (.ref k), .val (.ref st), .val (.int x2), .val (.int x3), .val (.int (1 : Int32)), .val (.int (0 : Int32))] [(.int (1 : Int32)), (.ref st), (.int (own_nc cl x2 (own_nr x3)))])) rfl rfl (hb hby d4_97) _ ?_
        show Steps p.tables e below (T3.setTop (mkF m 98 #[.val (.ref k), .val (.ref st), .val (.int x2), .val (.int x3), .val (.int (1 : Int32)), .val (.int (0 : Int32))] [(.int cl), (.int (own_nc cl x2 (own_nr x3)))])) _
        refine XS.icmpNo X3.here hx rfl (hb hby d4_98) rfl (teq v2).2 ?_
        show Steps p.tables e below (T3.setTop (mkF m 101 #[.val (.ref k), .val (.ref st), .val (.int x2), .val (.int x3), .val (.int (1 : Int32)), .val (.int (0 : Int32))] [])) _
        refine XS.iconst X3.here hx rfl (hb hby d4_101) ?_
        show Steps p.tables e below (T3.setTop (mkF m 102 #[.val (.ref k), .val (.ref st), .val (.int x2), .val (.int x3), .val (.int (1 : Int32)), .val (.int (0 : Int32))] [(.int (1 : Int32))])) _
        refine XS.goto X3.here hx rfl (pc0 := 102) (pc' := 106) rfl (hb hby d4_102) (by decide) (by decide) ?_
        show Steps p.tables e below (T3.setTop (mkF m 106 #[.val (.ref k), .val (.ref st), .val (.int x2), .val (.int x3), .val (.int (1 : Int32)), .val (.int (0 : Int32))] [(.int (1 : Int32))])) _
        exact retN X3 hx (t := .boolean) Bd.returns (by simp) (hb hby d4_106) hr
      · show Q4 Z k st ln cl x2 x3 n0 _ T3.heap _
        exact ⟨rfl, N3, Z3, Ex3, Fl3, Fc3, Fa3, by rw [v1, v2]; exact A3⟩
    · have hC : ¬ (x2 = (13 : Int32)) := by rw [hA]; decide
      have hB : own_nr x3 = (0 : Int32) := by unfold own_nr; rw [if_neg hP]
      have v1 : own_nl ln x2 (own_nr x3) = (ln + (1 : Int32)) := by unfold own_nl; rw [if_neg (fun q => q.2 hB), if_pos (Or.inl hA)]
      have v2 : own_nc cl x2 (own_nr x3) = (1 : Int32) := by unfold own_nc; rw [if_neg (fun q => q.2 hB), if_pos (Or.inl hA)]
      obtain ⟨T1, h1, X1, e1, W1, A1, st1⟩ := own_put0 X0 hx hZ e0 A0 (g := (mkF m 55 #[.val (.ref k), .val (.ref st), .val (.int x2), .val (.int x3), .val (.int (0 : Int32)), .val (.int (1 : Int32))] [(.int (ln + (1 : Int32))), (.int (0 : Int32)), (.ref st)])) rfl rfl (hb hby d4_55)
      have N1 := Fr.snoc X1 N0 gs
      have Z1 : n0 ≤ h1.size := by rw [W1.size]; exact Z0
      have F1_k_line := Fl.other W1 (Or.inl nks)
      have F1_k_column := Fc.other W1 (Or.inl nks)
      have F1_k_afterCarriageReturn := Fa.other W1 (Or.inl nks)
      have Ex1_k := Ex.wr W1
      obtain ⟨T2, h2, X2, e2, W2, A2, st2⟩ := own_put1 X1 hx hZ e1 A1 (g := (mkF m 59 #[.val (.ref k), .val (.ref st), .val (.int x2), .val (.int x3), .val (.int (0 : Int32)), .val (.int (1 : Int32))] [(.int (1 : Int32)), (.int (1 : Int32)), (.ref st)])) rfl rfl (hb hby d4_59)
      have N2 := Fr.snoc X2 N1 gs
      have Z2 : n0 ≤ h2.size := by rw [W2.size]; exact Z1
      have F2_k_line := F1_k_line.other W2 (Or.inl nks)
      have F2_k_column := F1_k_column.other W2 (Or.inl nks)
      have F2_k_afterCarriageReturn := F1_k_afterCarriageReturn.other W2 (Or.inl nks)
      have Ex2_k := Ex1_k.wr W2
      obtain ⟨cq3, kq3, q3a, q3b, q3c⟩ := isOf hZ e2 Ex2_k
      obtain ⟨_, _, ⟨T3, L3, k3, n3⟩, -, X3, ⟨Lc3, hQ3, l3, y3, z3⟩, st3⟩ := X2.virtualBack hx (y := (⟨"com/example/kingsnake/kingsnake/core/ReadPosition$Counter", "count", "(I)V"⟩ : MethodName)) (z := (⟨"com/example/kingsnake/kingsnake/core/ReadPosition$Counter", "count", "(I)V"⟩ : MethodName)) hown (mvT hZ (hw _ (List.mem_of_getElem? (i := 21) rfl))) (mvT hZ (hw _ (List.mem_of_getElem? (i := 22) rfl))) (notFace_of_selects (args := #[]) (mvT hZ (hw _ (List.mem_of_getElem? (i := 24) rfl)))) (mvT hZ (hw _ (List.mem_of_getElem? (i := 24) rfl))) (mvT hZ (hw _ (List.mem_of_getElem? (i := 23) rfl))) (by decide) (backOf (W := 0) (rm5 l Z a0 hw [] k ln cl (own_nr x3) x2 h2 n0 Z2 ga Ex2_k F2_k_line F2_k_column F2_k_afterCarriageReturn) hZ (hw _ (List.mem_of_getElem? (i := 25) rfl)) (hw _ (List.mem_of_getElem? (i := 6) rfl)) (by decide) (by decide)) q3a q3c (g := (mkF m 78 #[.val (.ref k), .val (.ref st), .val (.int x2), .val (.int x3), .val (.int (0 : Int32)), .val (.int (1 : Int32))] [(.int x2), (.ref k)])) rfl (by rw [hml]; rfl) (Steps.refl _) (argsL := [(.int x2)]) (rest := []) (lenOf pd_5 rfl) rfl (by show 2 * 0 + _ ≤ _; exact Nat.le_of_eq rfl) (hb hby d4_78) (fun _ _ => ⟨rfl, e2, (by decide : 0 + 0 ≤ _), (by decide : 0 + 0 ≤ _)⟩)
      dsimp only [Pt.U, Pt.locs, Pt.cells, Pt.slots] at X3 l3 y3 z3 st3 hQ3
      subst l3 y3 z3
      obtain ⟨rfl, N3q, Z3, K3, Ex3, Fl3, Fc3, Fa3⟩ := hQ3
      have N3 := Fr.app N2 N3q
      have A3 := own_ar_keep A2 K3 (by simpa using nks.symm)
      obtain ⟨cq4, kq4, q4a, q4b, q4c⟩ := isOf hZ rfl Ex3
      obtain ⟨_, _, ⟨T4, L4, k4, n4⟩, -, X4, ⟨Lc4, hQ4, l4, y4, z4⟩, st4⟩ := X3.virtualBack hx (y := (⟨"com/example/kingsnake/kingsnake/core/ReadPosition$Counter", "getLine", "()I"⟩ : MethodName)) (z := (⟨"com/example/kingsnake/kingsnake/core/ReadPosition$Counter", "getLine", "()I"⟩ : MethodName)) hown (mvT hZ (hw _ (List.mem_of_getElem? (i := 28) rfl))) (mvT hZ (hw _ (List.mem_of_getElem? (i := 29) rfl))) (notFace_of_selects (args := #[]) (mvT hZ (hw _ (List.mem_of_getElem? (i := 31) rfl)))) (mvT hZ (hw _ (List.mem_of_getElem? (i := 31) rfl))) (mvT hZ (hw _ (List.mem_of_getElem? (i := 30) rfl))) (by decide) (backOf (W := 0) (rm6 l Z a0 hw [] k (own_nl ln x2 (own_nr x3)) T3.heap n0 Z3 Fl3) hZ (hw _ (List.mem_of_getElem? (i := 32) rfl)) (hw _ (List.mem_of_getElem? (i := 6) rfl)) (by decide) (by decide)) q4a q4c (g := (mkF m 82 #[.val (.ref k), .val (.ref st), .val (.int x2), .val (.int x3), .val (.int (0 : Int32)), .val (.int (1 : Int32))] [(.ref k)])) rfl (by rw [hml]; rfl) (Steps.refl _) (argsL := []) (rest := []) (lenOf pd_6 rfl) rfl (by show 2 * 0 + _ ≤ _; exact Nat.le_of_eq rfl) (hb hby d4_82) (fun _ _ => ⟨rfl, rfl, (by decide : 0 + 0 ≤ _), (by decide : 0 + 0 ≤ _)⟩)
      dsimp only [Pt.U, Pt.locs, Pt.cells, Pt.slots] at X4 l4 y4 z4 st4 hQ4
      subst l4 y4 z4
      obtain ⟨rfl, N4q, eh4⟩ := hQ4
      have N4 := Fr.app N3 N4q
      have Z4 : n0 ≤ T4.heap.size := by rw [eh4]; exact Z3
      have A4 : own_ar Z T4.heap st (ln + (1 : Int32)) (1 : Int32) := by rw [eh4]; exact A3
      have Ex4 : Exa Z T4.heap k "com/example/kingsnake/kingsnake/core/ReadPosition$Counter" := by rw [eh4]; exact Ex3
      have Fl4 : Fld Z T4.heap k "com/example/kingsnake/kingsnake/core/ReadPosition$Counter" "line" "I" (.int (own_nl ln x2 (own_nr x3))) := by rw [eh4]; exact Fl3
      have Fc4 : Fld Z T4.heap k "com/example/kingsnake/kingsnake/core/ReadPosition$Counter" "column" "I" (.int (own_nc cl x2 (own_nr x3))) := by rw [eh4]; exact Fc3
      have Fa4 : Fld Z T4.heap k "com/example/kingsnake/kingsnake/core/ReadPosition$Counter" "afterCarriageReturn" "Z" (.int (own_nr x2)) := by rw [eh4]; exact Fa3
      obtain ⟨cq5, kq5, q5a, q5b, q5c⟩ := isOf hZ rfl Ex4
      obtain ⟨_, _, ⟨T5, L5, k5, n5⟩, -, X5, ⟨Lc5, hQ5, l5, y5, z5⟩, st5⟩ := X4.virtualBack hx (y := (⟨"com/example/kingsnake/kingsnake/core/ReadPosition$Counter", "getColumn", "()I"⟩ : MethodName)) (z := (⟨"com/example/kingsnake/kingsnake/core/ReadPosition$Counter", "getColumn", "()I"⟩ : MethodName)) hown (mvT hZ (hw _ (List.mem_of_getElem? (i := 33) rfl))) (mvT hZ (hw _ (List.mem_of_getElem? (i := 34) rfl))) (notFace_of_selects (args := #[]) (mvT hZ (hw _ (List.mem_of_getElem? (i := 36) rfl)))) (mvT hZ (hw _ (List.mem_of_getElem? (i := 36) rfl))) (mvT hZ (hw _ (List.mem_of_getElem? (i := 35) rfl))) (by decide) (backOf (W := 0) (rm7 l Z a0 hw [] k (own_nc cl x2 (own_nr x3)) T4.heap n0 Z4 Fc4) hZ (hw _ (List.mem_of_getElem? (i := 37) rfl)) (hw _ (List.mem_of_getElem? (i := 6) rfl)) (by decide) (by decide)) q5a q5c (g := (mkF m 92 #[.val (.ref k), .val (.ref st), .val (.int x2), .val (.int x3), .val (.int (0 : Int32)), .val (.int (1 : Int32))] [(.ref k)])) rfl (by rw [hml]; rfl) (Steps.refl _) (argsL := []) (rest := []) (lenOf pd_7 rfl) rfl (by show 2 * 0 + _ ≤ _; exact Nat.le_of_eq rfl) (hb hby d4_92) (fun _ _ => ⟨rfl, rfl, (by decide : 0 + 0 ≤ _), (by decide : 0 + 0 ≤ _)⟩)
      dsimp only [Pt.U, Pt.locs, Pt.cells, Pt.slots] at X5 l5 y5 z5 st5 hQ5
      subst l5 y5 z5
      obtain ⟨rfl, N5q, eh5⟩ := hQ5
      have N5 := Fr.app N4 N5q
      have Z5 : n0 ≤ T5.heap.size := by rw [eh5]; exact Z4
      have A5 : own_ar Z T5.heap st (ln + (1 : Int32)) (1 : Int32) := by rw [eh5]; exact A4
      have Ex5 : Exa Z T5.heap k "com/example/kingsnake/kingsnake/core/ReadPosition$Counter" := by rw [eh5]; exact Ex4
      have Fl5 : Fld Z T5.heap k "com/example/kingsnake/kingsnake/core/ReadPosition$Counter" "line" "I" (.int (own_nl ln x2 (own_nr x3))) := by rw [eh5]; exact Fl4
      have Fc5 : Fld Z T5.heap k "com/example/kingsnake/kingsnake/core/ReadPosition$Counter" "column" "I" (.int (own_nc cl x2 (own_nr x3))) := by rw [eh5]; exact Fc4
      have Fa5 : Fld Z T5.heap k "com/example/kingsnake/kingsnake/core/ReadPosition$Counter" "afterCarriageReturn" "Z" (.int (own_nr x2)) := by rw [eh5]; exact Fa4
      obtain ⟨fs, hr, hrun, hended, hW, hsame⟩ := X5.leave (v := some (.int (1 : Int32))) (fun h => by rw [Bd.returns] at h; cases h)
      refine ⟨_, _, pre0 _ ?_, hrun, hended, _, _, rfl, ?_, ⟨_, rfl⟩, hW, hsame.mono (by decide) (by decide)⟩
      · show Steps p.tables e below (s₁.setTop (mkF m 0 #[.val (.ref k), .val (.ref st), .val (.int x2), .val (.int x3), .unset, .unset] [])) _
        refine XS.iloadN X0.here hx rfl (hb hby d4_0) rfl ?_
        show Steps p.tables e below (s₁.setTop (mkF m 1 #[.val (.ref k), .val (.ref st), .val (.int x2), .val (.int x3), .unset, .unset] [(.int x2)])) _
        refine XS.bipush X0.here hx rfl (hb hby d4_1) ?_
        show Steps p.tables e below (s₁.setTop (mkF m 3 #[.val (.ref k), .val (.ref st), .val (.int x2), .val (.int x3), .unset, .unset] [(.int (10 : Int32)), (.int x2)])) _
        refine XS.icmpNo X0.here hx rfl (hb hby d4_3) rfl (teq hA).2 ?_
        show Steps p.tables e below (s₁.setTop (mkF m 6 #[.val (.ref k), .val (.ref st), .val (.int x2), .val (.int x3), .unset, .unset] [])) _
        refine XS.iloadN X0.here hx rfl (hb hby d4_6) rfl ?_
        show Steps p.tables e below (s₁.setTop (mkF m 7 #[.val (.ref k), .val (.ref st), .val (.int x2), .val (.int x3), .unset, .unset] [(.int x3)])) _
        refine XS.bipush X0.here hx rfl (hb hby d4_7) ?_
        show Steps p.tables e below (s₁.setTop (mkF m 9 #[.val (.ref k), .val (.ref st), .val (.int x2), .val (.int x3), .unset, .unset] [(.int (13 : Int32)), (.int x3)])) _
        refine XS.icmpYes X0.here hx rfl (pc0 := 9) (pc' := 16) rfl (hb hby d4_9) rfl (feq hP).2 (by decide) (by decide) ?_
        show Steps p.tables e below (s₁.setTop (mkF m 16 #[.val (.ref k), .val (.ref st), .val (.int x2), .val (.int x3), .unset, .unset] [])) _
        refine XS.iconst X0.here hx rfl (hb hby d4_16) ?_
        show Steps p.tables e below (s₁.setTop (mkF m 17 #[.val (.ref k), .val (.ref st), .val (.int x2), .val (.int x3), .unset, .unset] [(.int (0 : Int32))])) _
        refine XS.istore X0.here hx rfl (hb hby d4_17) rfl (l' := #[.val (.ref k), .val (.ref st), .val (.int x2), .val (.int x3), .val (.int (0 : Int32)), .unset]) rfl ?_
        show Steps p.tables e below (s₁.setTop (mkF m 19 #[.val (.ref k), .val (.ref st), .val (.int x2), .val (.int x3), .val (.int (0 : Int32)), .unset] [])) _
        refine XS.iloadN X0.here hx rfl (hb hby d4_19) rfl ?_
        show Steps p.tables e below (s₁.setTop (mkF m 20 #[.val (.ref k), .val (.ref st), .val (.int x2), .val (.int x3), .val (.int (0 : Int32)), .unset] [(.int x2)])) _
        refine XS.bipush X0.here hx rfl (hb hby d4_20) ?_
        show Steps p.tables e below (s₁.setTop (mkF m 22 #[.val (.ref k), .val (.ref st), .val (.int x2), .val (.int x3), .val (.int (0 : Int32)), .unset] [(.int (13 : Int32)), (.int x2)])) _
        refine XS.icmpNo X0.here hx rfl (hb hby d4_22) rfl (feq hC).1 ?_
        show Steps p.tables e below (s₁.setTop (mkF m 25 #[.val (.ref k), .val (.ref st), .val (.int x2), .val (.int x3), .val (.int (0 : Int32)), .unset] [])) _
        refine XS.iloadN X0.here hx rfl (hb hby d4_25) rfl ?_
        show Steps p.tables e below (s₁.setTop (mkF m 26 #[.val (.ref k), .val (.ref st), .val (.int x2), .val (.int x3), .val (.int (0 : Int32)), .unset] [(.int x2)])) _
        refine XS.bipush X0.here hx rfl (hb hby d4_26) ?_
        show Steps p.tables e below (s₁.setTop (mkF m 28 #[.val (.ref k), .val (.ref st), .val (.int x2), .val (.int x3), .val (.int (0 : Int32)), .unset] [(.int (10 : Int32)), (.int x2)])) _
        refine XS.icmpNo X0.here hx rfl (hb hby d4_28) rfl (teq hA).2 ?_
        show Steps p.tables e below (s₁.setTop (mkF m 31 #[.val (.ref k), .val (.ref st), .val (.int x2), .val (.int x3), .val (.int (0 : Int32)), .unset] [])) _
        refine XS.iload X0.here hx rfl (hb hby d4_31) rfl ?_
        show Steps p.tables e below (s₁.setTop (mkF m 33 #[.val (.ref k), .val (.ref st), .val (.int x2), .val (.int x3), .val (.int (0 : Int32)), .unset] [(.int (0 : Int32))])) _
        refine XS.ifNo X0.here hx rfl (hb hby d4_33) rfl ((if0 _ _).trans (teq (by decide : (0 : Int32) = (0 : Int32))).2) ?_
        show Steps p.tables e below (s₁.setTop (mkF m 36 #[.val (.ref k), .val (.ref st), .val (.int x2), .val (.int x3), .val (.int (0 : Int32)), .unset] [])) _
        refine XS.iconst X0.here hx rfl (hb hby d4_36) ?_
        show Steps p.tables e below (s₁.setTop (mkF m 37 #[.val (.ref k), .val (.ref st), .val (.int x2), .val (.int x3), .val (.int (0 : Int32)), .unset] [(.int (1 : Int32))])) _
        refine XS.goto X0.here hx rfl (pc0 := 37) (pc' := 41) rfl (hb hby d4_37) (by decide) (by decide) ?_
        show Steps p.tables e below (s₁.setTop (mkF m 41 #[.val (.ref k), .val (.ref st), .val (.int x2), .val (.int x3), .val (.int (0 : Int32)), .unset] [(.int (1 : Int32))])) _
        refine XS.istore X0.here hx rfl (hb hby d4_41) rfl (l' := #[.val (.ref k), .val (.ref st), .val (.int x2), .val (.int x3), .val (.int (0 : Int32)), .val (.int (1 : Int32))]) rfl ?_
        show Steps p.tables e below (s₁.setTop (mkF m 43 #[.val (.ref k), .val (.ref st), .val (.int x2), .val (.int x3), .val (.int (0 : Int32)), .val (.int (1 : Int32))] [])) _
        refine XS.iload X0.here hx rfl (hb hby d4_43) rfl ?_
        show Steps p.tables e below (s₁.setTop (mkF m 45 #[.val (.ref k), .val (.ref st), .val (.int x2), .val (.int x3), .val (.int (0 : Int32)), .val (.int (1 : Int32))] [(.int (1 : Int32))])) _
        refine XS.ifNo X0.here hx rfl (hb hby d4_45) rfl ((if0 _ _).trans (feq (by decide : ¬ ((1 : Int32) = (0 : Int32)))).1) ?_
        show Steps p.tables e below (s₁.setTop (mkF m 48 #[.val (.ref k), .val (.ref st), .val (.int x2), .val (.int x3), .val (.int (0 : Int32)), .val (.int (1 : Int32))] [])) _
        refine XS.aloadN X0.here hx rfl (hb hby d4_48) rfl rfl ?_
        show Steps p.tables e below (s₁.setTop (mkF m 49 #[.val (.ref k), .val (.ref st), .val (.int x2), .val (.int x3), .val (.int (0 : Int32)), .val (.int (1 : Int32))] [(.ref st)])) _
        refine XS.iconst X0.here hx rfl (hb hby d4_49) ?_
        show Steps p.tables e below (s₁.setTop (mkF m 50 #[.val (.ref k), .val (.ref st), .val (.int x2), .val (.int x3), .val (.int (0 : Int32)), .val (.int (1 : Int32))] [(.int (0 : Int32)), (.ref st)])) _
        refine XS.aloadN X0.here hx rfl (hb hby d4_50) rfl rfl ?_
        show Steps p.tables e below (s₁.setTop (mkF m 51 #[.val (.ref k), .val (.ref st), .val (.int x2), .val (.int x3), .val (.int (0 : Int32)), .val (.int (1 : Int32))] [(.ref st), (.int (0 : Int32)), (.ref st)])) _
        refine XS.iconst X0.here hx rfl (hb hby d4_51) ?_
        show Steps p.tables e below (s₁.setTop (mkF m 52 #[.val (.ref k), .val (.ref st), .val (.int x2), .val (.int x3), .val (.int (0 : Int32)), .val (.int (1 : Int32))] [(.int (0 : Int32)), (.ref st), (.int (0 : Int32)), (.ref st)])) _
        refine own_get0 X0 hx hZ e0 A0 (g := (mkF m 52 #[.val (.ref k), .val (.ref st), .val (.int x2), .val (.int x3), .val (.int (0 : Int32)), .val (.int (1 : Int32))] [(.int (0 : Int32)), (.ref st), (.int (0 : Int32)), (.ref st)])) rfl rfl (hb hby d4_52) _ ?_
        show Steps p.tables e below (s₁.setTop (mkF m 53 #[.val (.ref k), .val (.ref st), .val (.int x2), .val (.int x3), .val (.int (0 : Int32)), .val (.int (1 : Int32))] [(.int ln), (.int (0 : Int32)), (.ref st)])) _
        refine XS.iconst X0.here hx rfl (hb hby d4_53) ?_
        show Steps p.tables e below (s₁.setTop (mkF m 54 #[.val (.ref k), .val (.ref st), .val (.int x2), .val (.int x3), .val (.int (0 : Int32)), .val (.int (1 : Int32))] [(.int (1 : Int32)), (.int ln), (.int (0 : Int32)), (.ref st)])) _
        refine XS.iadd X0.here hx rfl (hb hby d4_54) rfl ?_
        show Steps p.tables e below (s₁.setTop (mkF m 55 #[.val (.ref k), .val (.ref st), .val (.int x2), .val (.int x3), .val (.int (0 : Int32)), .val (.int (1 : Int32))] [(.int (ln + (1 : Int32))), (.int (0 : Int32)), (.ref st)])) _
        refine st1 _ ?_
        show Steps p.tables e below (T1.setTop (mkF m 56 #[.val (.ref k), .val (.ref st), .val (.int x2), .val (.int x3), .val (.int (0 : Int32)), .val (.int (1 : Int32))] [])) _
        refine XS.aloadN X1.here hx rfl (hb hby d4_56) rfl rfl ?_
        show Steps p.tables e below (T1.setTop (mkF m 57 #[.val (.ref k), .val (.ref st), .val (.int x2), .val (.int x3), .val (.int (0 : Int32)), .val (.int (1 : Int32))] [(.ref st)])) _
        refine XS.iconst X1.here hx rfl (hb hby d4_57) ?_
        show Steps p.tables e below (T1.setTop (mkF m 58 #[.val (.ref k), .val (.ref st), .val (.int x2), .val (.int x3), .val (.int (0 : Int32)), .val (.int (1 : Int32))] [(.int (1 : Int32)), (.ref st)])) _
        refine XS.iconst X1.here hx rfl (hb hby d4_58) ?_
        show Steps p.tables e below (T1.setTop (mkF m 59 #[.val (.ref k), .val (.ref st), .val (.int x2), .val (.int x3), .val (.int (0 : Int32)), .val (.int (1 : Int32))] [(.int (1 : Int32)), (.int (1 : Int32)), (.ref st)])) _
        refine st2 _ ?_
        show Steps p.tables e below (T2.setTop (mkF m 60 #[.val (.ref k), .val (.ref st), .val (.int x2), .val (.int x3), .val (.int (0 : Int32)), .val (.int (1 : Int32))] [])) _
        refine XS.goto X2.here hx rfl (pc0 := 60) (pc' := 76) rfl (hb hby d4_60) (by decide) (by decide) ?_
        show Steps p.tables e below (T2.setTop (mkF m 76 #[.val (.ref k), .val (.ref st), .val (.int x2), .val (.int x3), .val (.int (0 : Int32)), .val (.int (1 : Int32))] [])) _
        refine XS.aloadN X2.here hx rfl (hb hby d4_76) rfl rfl ?_
        show Steps p.tables e below (T2.setTop (mkF m 77 #[.val (.ref k), .val (.ref st), .val (.int x2), .val (.int x3), .val (.int (0 : Int32)), .val (.int (1 : Int32))] [(.ref k)])) _
        refine XS.iloadN X2.here hx rfl (hb hby d4_77) rfl ?_
        refine st3.trans ?_
        show Steps p.tables e below (T3.setTop (mkF m 81 #[.val (.ref k), .val (.ref st), .val (.int x2), .val (.int x3), .val (.int (0 : Int32)), .val (.int (1 : Int32))] [])) _
        refine XS.aloadN X3.here hx rfl (hb hby d4_81) rfl rfl ?_
        refine st4.trans ?_
        show Steps p.tables e below (T4.setTop (mkF m 85 #[.val (.ref k), .val (.ref st), .val (.int x2), .val (.int x3), .val (.int (0 : Int32)), .val (.int (1 : Int32))] [(.int (own_nl ln x2 (own_nr x3)))])) _
        refine XS.aloadN X4.here hx rfl (hb hby d4_85) rfl rfl ?_
        show Steps p.tables e below (T4.setTop (mkF m 86 #[.val (.ref k), .val (.ref st), .val (.int x2), .val (.int x3), .val (.int (0 : Int32)), .val (.int (1 : Int32))] [(.ref st), (.int (own_nl ln x2 (own_nr x3)))])) _
        refine XS.iconst X4.here hx rfl (hb hby d4_86) ?_
        show Steps p.tables e below (T4.setTop (mkF m 87 #[.val (.ref k), .val (.ref st), .val (.int x2), .val (.int x3), .val (.int (0 : Int32)), .val (.int (1 : Int32))] [(.int (0 : Int32)), (.ref st), (.int (own_nl ln x2 (own_nr x3)))])) _
        refine own_get0 X4 hx hZ rfl A4 (g := (mkF m 87 #[.val (.ref k), .val (.ref st), .val (.int x2), .val (.int x3), .val (.int (0 : Int32)), .val (.int (1 : Int32))] [(.int (0 : Int32)), (.ref st), (.int (own_nl ln x2 (own_nr x3)))])) rfl rfl (hb hby d4_87) _ ?_
        show Steps p.tables e below (T4.setTop (mkF m 88 #[.val (.ref k), .val (.ref st), .val (.int x2), .val (.int x3), .val (.int (0 : Int32)), .val (.int (1 : Int32))] [(.int (ln + (1 : Int32))), (.int (own_nl ln x2 (own_nr x3)))])) _
        refine XS.icmpNo X4.here hx rfl (hb hby d4_88) rfl (teq v1).2 ?_
        show Steps p.tables e below (T4.setTop (mkF m 91 #[.val (.ref k), .val (.ref st), .val (.int x2), .val (.int x3), .val (.int (0 : Int32)), .val (.int (1 : Int32))] [])) _
        refine XS.aloadN X4.here hx rfl (hb hby d4_91) rfl rfl ?_
        refine st5.trans ?_
        show Steps p.tables e below (T5.setTop (mkF m 95 #[.val (.ref k), .val (.ref st), .val (.int x2), .val (.int x3), .val (.int (0 : Int32)), .val (.int (1 : Int32))] [(.int (own_nc cl x2 (own_nr x3)))])) _
        refine XS.aloadN X5.here hx rfl (hb hby d4_95) rfl rfl ?_
        show Steps p.tables e below (T5.setTop (mkF m 96 #[.val (.ref k), .val (.ref st), .val (.int x2), .val (.int x3), .val (.int (0 : Int32)), .val (.int (1 : Int32))] [(.ref st), (.int (own_nc cl x2 (own_nr x3)))])) _
        refine XS.iconst X5.here hx rfl (hb hby d4_96) ?_
        show Steps p.tables e below (T5.setTop (mkF m 97 #[.val (.ref k), .val (.ref st), .val (.int x2), .val (.int x3), .val (.int (0 : Int32)), .val (.int (1 : Int32))] [(.int (1 : Int32)), (.ref st), (.int (own_nc cl x2 (own_nr x3)))])) _
        refine own_get1 X5 hx hZ rfl A5 (g := (mkF m 97 #[.val (.ref k), .val (.ref st), .val (.int x2), .val (.int x3), .val (.int (0 : Int32)), .val (.int (1 : Int32))] [(.int (1 : Int32)), (.ref st), (.int (own_nc cl x2 (own_nr x3)))])) rfl rfl (hb hby d4_97) _ ?_
        show Steps p.tables e below (T5.setTop (mkF m 98 #[.val (.ref k), .val (.ref st), .val (.int x2), .val (.int x3), .val (.int (0 : Int32)), .val (.int (1 : Int32))] [(.int (1 : Int32)), (.int (own_nc cl x2 (own_nr x3)))])) _
        refine XS.icmpNo X5.here hx rfl (hb hby d4_98) rfl (teq v2).2 ?_
        show Steps p.tables e below (T5.setTop (mkF m 101 #[.val (.ref k), .val (.ref st), .val (.int x2), .val (.int x3), .val (.int (0 : Int32)), .val (.int (1 : Int32))] [])) _
        refine XS.iconst X5.here hx rfl (hb hby d4_101) ?_
        show Steps p.tables e below (T5.setTop (mkF m 102 #[.val (.ref k), .val (.ref st), .val (.int x2), .val (.int x3), .val (.int (0 : Int32)), .val (.int (1 : Int32))] [(.int (1 : Int32))])) _
        refine XS.goto X5.here hx rfl (pc0 := 102) (pc' := 106) rfl (hb hby d4_102) (by decide) (by decide) ?_
        show Steps p.tables e below (T5.setTop (mkF m 106 #[.val (.ref k), .val (.ref st), .val (.int x2), .val (.int x3), .val (.int (0 : Int32)), .val (.int (1 : Int32))] [(.int (1 : Int32))])) _
        exact retN X5 hx (t := .boolean) Bd.returns (by simp) (hb hby d4_106) hr
      · show Q4 Z k st ln cl x2 x3 n0 _ T5.heap _
        exact ⟨rfl, N5, Z5, Ex5, Fl5, Fc5, Fa5, by rw [v1, v2]; exact A5⟩
  · by_cases hC : x2 = (13 : Int32)
    · have v1 : own_nl ln x2 (own_nr x3) = (ln + (1 : Int32)) := by unfold own_nl; rw [if_neg (fun q => hA q.1), if_pos (Or.inr hC)]
      have v2 : own_nc cl x2 (own_nr x3) = (1 : Int32) := by unfold own_nc; rw [if_neg (fun q => hA q.1), if_pos (Or.inr hC)]
      obtain ⟨T1, h1, X1, e1, W1, A1, st1⟩ := own_put0 X0 hx hZ e0 A0 (g := (mkF m 55 #[.val (.ref k), .val (.ref st), .val (.int x2), .val (.int x3), .val (.int (0 : Int32)), .val (.int (1 : Int32))] [(.int (ln + (1 : Int32))), (.int (0 : Int32)), (.ref st)])) rfl rfl (hb hby d4_55)
      have N1 := Fr.snoc X1 N0 gs
      have Z1 : n0 ≤ h1.size := by rw [W1.size]; exact Z0
      have F1_k_line := Fl.other W1 (Or.inl nks)
      have F1_k_column := Fc.other W1 (Or.inl nks)
      have F1_k_afterCarriageReturn := Fa.other W1 (Or.inl nks)
      have Ex1_k := Ex.wr W1
      obtain ⟨T2, h2, X2, e2, W2, A2, st2⟩ := own_put1 X1 hx hZ e1 A1 (g := (mkF m 59 #[.val (.ref k), .val (.ref st), .val (.int x2), .val (.int x3), .val (.int (0 : Int32)), .val (.int (1 : Int32))] [(.int (1 : Int32)), (.int (1 : Int32)), (.ref st)])) rfl rfl (hb hby d4_59)
      have N2 := Fr.snoc X2 N1 gs
      have Z2 : n0 ≤ h2.size := by rw [W2.size]; exact Z1
      have F2_k_line := F1_k_line.other W2 (Or.inl nks)
      have F2_k_column := F1_k_column.other W2 (Or.inl nks)
      have F2_k_afterCarriageReturn := F1_k_afterCarriageReturn.other W2 (Or.inl nks)
      have Ex2_k := Ex1_k.wr W2
      obtain ⟨cq3, kq3, q3a, q3b, q3c⟩ := isOf hZ e2 Ex2_k
      obtain ⟨_, _, ⟨T3, L3, k3, n3⟩, -, X3, ⟨Lc3, hQ3, l3, y3, z3⟩, st3⟩ := X2.virtualBack hx (y := (⟨"com/example/kingsnake/kingsnake/core/ReadPosition$Counter", "count", "(I)V"⟩ : MethodName)) (z := (⟨"com/example/kingsnake/kingsnake/core/ReadPosition$Counter", "count", "(I)V"⟩ : MethodName)) hown (mvT hZ (hw _ (List.mem_of_getElem? (i := 21) rfl))) (mvT hZ (hw _ (List.mem_of_getElem? (i := 22) rfl))) (notFace_of_selects (args := #[]) (mvT hZ (hw _ (List.mem_of_getElem? (i := 24) rfl)))) (mvT hZ (hw _ (List.mem_of_getElem? (i := 24) rfl))) (mvT hZ (hw _ (List.mem_of_getElem? (i := 23) rfl))) (by decide) (backOf (W := 0) (rm5 l Z a0 hw [] k ln cl (own_nr x3) x2 h2 n0 Z2 ga Ex2_k F2_k_line F2_k_column F2_k_afterCarriageReturn) hZ (hw _ (List.mem_of_getElem? (i := 25) rfl)) (hw _ (List.mem_of_getElem? (i := 6) rfl)) (by decide) (by decide)) q3a q3c (g := (mkF m 78 #[.val (.ref k), .val (.ref st), .val (.int x2), .val (.int x3), .val (.int (0 : Int32)), .val (.int (1 : Int32))] [(.int x2), (.ref k)])) rfl (by rw [hml]; rfl) (Steps.refl _) (argsL := [(.int x2)]) (rest := []) (lenOf pd_5 rfl) rfl (by show 2 * 0 + _ ≤ _; exact Nat.le_of_eq rfl) (hb hby d4_78) (fun _ _ => ⟨rfl, e2, (by decide : 0 + 0 ≤ _), (by decide : 0 + 0 ≤ _)⟩)
      dsimp only [Pt.U, Pt.locs, Pt.cells, Pt.slots] at X3 l3 y3 z3 st3 hQ3
      subst l3 y3 z3
      obtain ⟨rfl, N3q, Z3, K3, Ex3, Fl3, Fc3, Fa3⟩ := hQ3
      have N3 := Fr.app N2 N3q
      have A3 := own_ar_keep A2 K3 (by simpa using nks.symm)
      obtain ⟨cq4, kq4, q4a, q4b, q4c⟩ := isOf hZ rfl Ex3
      obtain ⟨_, _, ⟨T4, L4, k4, n4⟩, -, X4, ⟨Lc4, hQ4, l4, y4, z4⟩, st4⟩ := X3.virtualBack hx (y := (⟨"com/example/kingsnake/kingsnake/core/ReadPosition$Counter", "getLine", "()I"⟩ : MethodName)) (z := (⟨"com/example/kingsnake/kingsnake/core/ReadPosition$Counter", "getLine", "()I"⟩ : MethodName)) hown (mvT hZ (hw _ (List.mem_of_getElem? (i := 28) rfl))) (mvT hZ (hw _ (List.mem_of_getElem? (i := 29) rfl))) (notFace_of_selects (args := #[]) (mvT hZ (hw _ (List.mem_of_getElem? (i := 31) rfl)))) (mvT hZ (hw _ (List.mem_of_getElem? (i := 31) rfl))) (mvT hZ (hw _ (List.mem_of_getElem? (i := 30) rfl))) (by decide) (backOf (W := 0) (rm6 l Z a0 hw [] k (own_nl ln x2 (own_nr x3)) T3.heap n0 Z3 Fl3) hZ (hw _ (List.mem_of_getElem? (i := 32) rfl)) (hw _ (List.mem_of_getElem? (i := 6) rfl)) (by decide) (by decide)) q4a q4c (g := (mkF m 82 #[.val (.ref k), .val (.ref st), .val (.int x2), .val (.int x3), .val (.int (0 : Int32)), .val (.int (1 : Int32))] [(.ref k)])) rfl (by rw [hml]; rfl) (Steps.refl _) (argsL := []) (rest := []) (lenOf pd_6 rfl) rfl (by show 2 * 0 + _ ≤ _; exact Nat.le_of_eq rfl) (hb hby d4_82) (fun _ _ => ⟨rfl, rfl, (by decide : 0 + 0 ≤ _), (by decide : 0 + 0 ≤ _)⟩)
      dsimp only [Pt.U, Pt.locs, Pt.cells, Pt.slots] at X4 l4 y4 z4 st4 hQ4
      subst l4 y4 z4
      obtain ⟨rfl, N4q, eh4⟩ := hQ4
      have N4 := Fr.app N3 N4q
      have Z4 : n0 ≤ T4.heap.size := by rw [eh4]; exact Z3
      have A4 : own_ar Z T4.heap st (ln + (1 : Int32)) (1 : Int32) := by rw [eh4]; exact A3
      have Ex4 : Exa Z T4.heap k "com/example/kingsnake/kingsnake/core/ReadPosition$Counter" := by rw [eh4]; exact Ex3
      have Fl4 : Fld Z T4.heap k "com/example/kingsnake/kingsnake/core/ReadPosition$Counter" "line" "I" (.int (own_nl ln x2 (own_nr x3))) := by rw [eh4]; exact Fl3
      have Fc4 : Fld Z T4.heap k "com/example/kingsnake/kingsnake/core/ReadPosition$Counter" "column" "I" (.int (own_nc cl x2 (own_nr x3))) := by rw [eh4]; exact Fc3
      have Fa4 : Fld Z T4.heap k "com/example/kingsnake/kingsnake/core/ReadPosition$Counter" "afterCarriageReturn" "Z" (.int (own_nr x2)) := by rw [eh4]; exact Fa3
      obtain ⟨cq5, kq5, q5a, q5b, q5c⟩ := isOf hZ rfl Ex4
      obtain ⟨_, _, ⟨T5, L5, k5, n5⟩, -, X5, ⟨Lc5, hQ5, l5, y5, z5⟩, st5⟩ := X4.virtualBack hx (y := (⟨"com/example/kingsnake/kingsnake/core/ReadPosition$Counter", "getColumn", "()I"⟩ : MethodName)) (z := (⟨"com/example/kingsnake/kingsnake/core/ReadPosition$Counter", "getColumn", "()I"⟩ : MethodName)) hown (mvT hZ (hw _ (List.mem_of_getElem? (i := 33) rfl))) (mvT hZ (hw _ (List.mem_of_getElem? (i := 34) rfl))) (notFace_of_selects (args := #[]) (mvT hZ (hw _ (List.mem_of_getElem? (i := 36) rfl)))) (mvT hZ (hw _ (List.mem_of_getElem? (i := 36) rfl))) (mvT hZ (hw _ (List.mem_of_getElem? (i := 35) rfl))) (by decide) (backOf (W := 0) (rm7 l Z a0 hw [] k (own_nc cl x2 (own_nr x3)) T4.heap n0 Z4 Fc4) hZ (hw _ (List.mem_of_getElem? (i := 37) rfl)) (hw _ (List.mem_of_getElem? (i := 6) rfl)) (by decide) (by decide)) q5a q5c (g := (mkF m 92 #[.val (.ref k), .val (.ref st), .val (.int x2), .val (.int x3), .val (.int (0 : Int32)), .val (.int (1 : Int32))] [(.ref k)])) rfl (by rw [hml]; rfl) (Steps.refl _) (argsL := []) (rest := []) (lenOf pd_7 rfl) rfl (by show 2 * 0 + _ ≤ _; exact Nat.le_of_eq rfl) (hb hby d4_92) (fun _ _ => ⟨rfl, rfl, (by decide : 0 + 0 ≤ _), (by decide : 0 + 0 ≤ _)⟩)
      dsimp only [Pt.U, Pt.locs, Pt.cells, Pt.slots] at X5 l5 y5 z5 st5 hQ5
      subst l5 y5 z5
      obtain ⟨rfl, N5q, eh5⟩ := hQ5
      have N5 := Fr.app N4 N5q
      have Z5 : n0 ≤ T5.heap.size := by rw [eh5]; exact Z4
      have A5 : own_ar Z T5.heap st (ln + (1 : Int32)) (1 : Int32) := by rw [eh5]; exact A4
      have Ex5 : Exa Z T5.heap k "com/example/kingsnake/kingsnake/core/ReadPosition$Counter" := by rw [eh5]; exact Ex4
      have Fl5 : Fld Z T5.heap k "com/example/kingsnake/kingsnake/core/ReadPosition$Counter" "line" "I" (.int (own_nl ln x2 (own_nr x3))) := by rw [eh5]; exact Fl4
      have Fc5 : Fld Z T5.heap k "com/example/kingsnake/kingsnake/core/ReadPosition$Counter" "column" "I" (.int (own_nc cl x2 (own_nr x3))) := by rw [eh5]; exact Fc4
      have Fa5 : Fld Z T5.heap k "com/example/kingsnake/kingsnake/core/ReadPosition$Counter" "afterCarriageReturn" "Z" (.int (own_nr x2)) := by rw [eh5]; exact Fa4
      obtain ⟨fs, hr, hrun, hended, hW, hsame⟩ := X5.leave (v := some (.int (1 : Int32))) (fun h => by rw [Bd.returns] at h; cases h)
      refine ⟨_, _, pre0 _ ?_, hrun, hended, _, _, rfl, ?_, ⟨_, rfl⟩, hW, hsame.mono (by decide) (by decide)⟩
      · show Steps p.tables e below (s₁.setTop (mkF m 0 #[.val (.ref k), .val (.ref st), .val (.int x2), .val (.int x3), .unset, .unset] [])) _
        refine XS.iloadN X0.here hx rfl (hb hby d4_0) rfl ?_
        show Steps p.tables e below (s₁.setTop (mkF m 1 #[.val (.ref k), .val (.ref st), .val (.int x2), .val (.int x3), .unset, .unset] [(.int x2)])) _
        refine XS.bipush X0.here hx rfl (hb hby d4_1) ?_
        show Steps p.tables e below (s₁.setTop (mkF m 3 #[.val (.ref k), .val (.ref st), .val (.int x2), .val (.int x3), .unset, .unset] [(.int (10 : Int32)), (.int x2)])) _
        refine XS.icmpYes X0.here hx rfl (pc0 := 3) (pc' := 16) rfl (hb hby d4_3) rfl (feq hA).2 (by decide) (by decide) ?_
        show Steps p.tables e below (s₁.setTop (mkF m 16 #[.val (.ref k), .val (.ref st), .val (.int x2), .val (.int x3), .unset, .unset] [])) _
        refine XS.iconst X0.here hx rfl (hb hby d4_16) ?_
        show Steps p.tables e below (s₁.setTop (mkF m 17 #[.val (.ref k), .val (.ref st), .val (.int x2), .val (.int x3), .unset, .unset] [(.int (0 : Int32))])) _
        refine XS.istore X0.here hx rfl (hb hby d4_17) rfl (l' := #[.val (.ref k), .val (.ref st), .val (.int x2), .val (.int x3), .val (.int (0 : Int32)), .unset]) rfl ?_
        show Steps p.tables e below (s₁.setTop (mkF m 19 #[.val (.ref k), .val (.ref st), .val (.int x2), .val (.int x3), .val (.int (0 : Int32)), .unset] [])) _
        refine XS.iloadN X0.here hx rfl (hb hby d4_19) rfl ?_
        show Steps p.tables e below (s₁.setTop (mkF m 20 #[.val (.ref k), .val (.ref st), .val (.int x2), .val (.int x3), .val (.int (0 : Int32)), .unset] [(.int x2)])) _
        refine XS.bipush X0.here hx rfl (hb hby d4_20) ?_
        show Steps p.tables e below (s₁.setTop (mkF m 22 #[.val (.ref k), .val (.ref st), .val (.int x2), .val (.int x3), .val (.int (0 : Int32)), .unset] [(.int (13 : Int32)), (.int x2)])) _
        refine XS.icmpYes X0.here hx rfl (pc0 := 22) (pc' := 36) rfl (hb hby d4_22) rfl (teq hC).1 (by decide) (by decide) ?_
        show Steps p.tables e below (s₁.setTop (mkF m 36 #[.val (.ref k), .val (.ref st), .val (.int x2), .val (.int x3), .val (.int (0 : Int32)), .unset] [])) _
        refine XS.iconst X0.here hx rfl (hb hby d4_36) ?_
        show Steps p.tables e below (s₁.setTop (mkF m 37 #[.val (.ref k), .val (.ref st), .val (.int x2), .val (.int x3), .val (.int (0 : Int32)), .unset] [(.int (1 : Int32))])) _
        refine XS.goto X0.here hx rfl (pc0 := 37) (pc' := 41) rfl (hb hby d4_37) (by decide) (by decide) ?_
        show Steps p.tables e below (s₁.setTop (mkF m 41 #[.val (.ref k), .val (.ref st), .val (.int x2), .val (.int x3), .val (.int (0 : Int32)), .unset] [(.int (1 : Int32))])) _
        refine XS.istore X0.here hx rfl (hb hby d4_41) rfl (l' := #[.val (.ref k), .val (.ref st), .val (.int x2), .val (.int x3), .val (.int (0 : Int32)), .val (.int (1 : Int32))]) rfl ?_
        show Steps p.tables e below (s₁.setTop (mkF m 43 #[.val (.ref k), .val (.ref st), .val (.int x2), .val (.int x3), .val (.int (0 : Int32)), .val (.int (1 : Int32))] [])) _
        refine XS.iload X0.here hx rfl (hb hby d4_43) rfl ?_
        show Steps p.tables e below (s₁.setTop (mkF m 45 #[.val (.ref k), .val (.ref st), .val (.int x2), .val (.int x3), .val (.int (0 : Int32)), .val (.int (1 : Int32))] [(.int (1 : Int32))])) _
        refine XS.ifNo X0.here hx rfl (hb hby d4_45) rfl ((if0 _ _).trans (feq (by decide : ¬ ((1 : Int32) = (0 : Int32)))).1) ?_
        show Steps p.tables e below (s₁.setTop (mkF m 48 #[.val (.ref k), .val (.ref st), .val (.int x2), .val (.int x3), .val (.int (0 : Int32)), .val (.int (1 : Int32))] [])) _
        refine XS.aloadN X0.here hx rfl (hb hby d4_48) rfl rfl ?_
        show Steps p.tables e below (s₁.setTop (mkF m 49 #[.val (.ref k), .val (.ref st), .val (.int x2), .val (.int x3), .val (.int (0 : Int32)), .val (.int (1 : Int32))] [(.ref st)])) _
        refine XS.iconst X0.here hx rfl (hb hby d4_49) ?_
        show Steps p.tables e below (s₁.setTop (mkF m 50 #[.val (.ref k), .val (.ref st), .val (.int x2), .val (.int x3), .val (.int (0 : Int32)), .val (.int (1 : Int32))] [(.int (0 : Int32)), (.ref st)])) _
        refine XS.aloadN X0.here hx rfl (hb hby d4_50) rfl rfl ?_
        show Steps p.tables e below (s₁.setTop (mkF m 51 #[.val (.ref k), .val (.ref st), .val (.int x2), .val (.int x3), .val (.int (0 : Int32)), .val (.int (1 : Int32))] [(.ref st), (.int (0 : Int32)), (.ref st)])) _
        refine XS.iconst X0.here hx rfl (hb hby d4_51) ?_
        show Steps p.tables e below (s₁.setTop (mkF m 52 #[.val (.ref k), .val (.ref st), .val (.int x2), .val (.int x3), .val (.int (0 : Int32)), .val (.int (1 : Int32))] [(.int (0 : Int32)), (.ref st), (.int (0 : Int32)), (.ref st)])) _
        refine own_get0 X0 hx hZ e0 A0 (g := (mkF m 52 #[.val (.ref k), .val (.ref st), .val (.int x2), .val (.int x3), .val (.int (0 : Int32)), .val (.int (1 : Int32))] [(.int (0 : Int32)), (.ref st), (.int (0 : Int32)), (.ref st)])) rfl rfl (hb hby d4_52) _ ?_
        show Steps p.tables e below (s₁.setTop (mkF m 53 #[.val (.ref k), .val (.ref st), .val (.int x2), .val (.int x3), .val (.int (0 : Int32)), .val (.int (1 : Int32))] [(.int ln), (.int (0 : Int32)), (.ref st)])) _
        refine XS.iconst X0.here hx rfl (hb hby d4_53) ?_
        show Steps p.tables e below (s₁.setTop (mkF m 54 #[.val (.ref k), .val (.ref st), .val (.int x2), .val (.int x3), .val (.int (0 : Int32)), .val (.int (1 : Int32))] [(.int (1 : Int32)), (.int ln), (.int (0 : Int32)), (.ref st)])) _
        refine XS.iadd X0.here hx rfl (hb hby d4_54) rfl ?_
        show Steps p.tables e below (s₁.setTop (mkF m 55 #[.val (.ref k), .val (.ref st), .val (.int x2), .val (.int x3), .val (.int (0 : Int32)), .val (.int (1 : Int32))] [(.int (ln + (1 : Int32))), (.int (0 : Int32)), (.ref st)])) _
        refine st1 _ ?_
        show Steps p.tables e below (T1.setTop (mkF m 56 #[.val (.ref k), .val (.ref st), .val (.int x2), .val (.int x3), .val (.int (0 : Int32)), .val (.int (1 : Int32))] [])) _
        refine XS.aloadN X1.here hx rfl (hb hby d4_56) rfl rfl ?_
        show Steps p.tables e below (T1.setTop (mkF m 57 #[.val (.ref k), .val (.ref st), .val (.int x2), .val (.int x3), .val (.int (0 : Int32)), .val (.int (1 : Int32))] [(.ref st)])) _
        refine XS.iconst X1.here hx rfl (hb hby d4_57) ?_
        show Steps p.tables e below (T1.setTop (mkF m 58 #[.val (.ref k), .val (.ref st), .val (.int x2), .val (.int x3), .val (.int (0 : Int32)), .val (.int (1 : Int32))] [(.int (1 : Int32)), (.ref st)])) _
        refine XS.iconst X1.here hx rfl (hb hby d4_58) ?_
        show Steps p.tables e below (T1.setTop (mkF m 59 #[.val (.ref k), .val (.ref st), .val (.int x2), .val (.int x3), .val (.int (0 : Int32)), .val (.int (1 : Int32))] [(.int (1 : Int32)), (.int (1 : Int32)), (.ref st)])) _
        refine st2 _ ?_
        show Steps p.tables e below (T2.setTop (mkF m 60 #[.val (.ref k), .val (.ref st), .val (.int x2), .val (.int x3), .val (.int (0 : Int32)), .val (.int (1 : Int32))] [])) _
        refine XS.goto X2.here hx rfl (pc0 := 60) (pc' := 76) rfl (hb hby d4_60) (by decide) (by decide) ?_
        show Steps p.tables e below (T2.setTop (mkF m 76 #[.val (.ref k), .val (.ref st), .val (.int x2), .val (.int x3), .val (.int (0 : Int32)), .val (.int (1 : Int32))] [])) _
        refine XS.aloadN X2.here hx rfl (hb hby d4_76) rfl rfl ?_
        show Steps p.tables e below (T2.setTop (mkF m 77 #[.val (.ref k), .val (.ref st), .val (.int x2), .val (.int x3), .val (.int (0 : Int32)), .val (.int (1 : Int32))] [(.ref k)])) _
        refine XS.iloadN X2.here hx rfl (hb hby d4_77) rfl ?_
        refine st3.trans ?_
        show Steps p.tables e below (T3.setTop (mkF m 81 #[.val (.ref k), .val (.ref st), .val (.int x2), .val (.int x3), .val (.int (0 : Int32)), .val (.int (1 : Int32))] [])) _
        refine XS.aloadN X3.here hx rfl (hb hby d4_81) rfl rfl ?_
        refine st4.trans ?_
        show Steps p.tables e below (T4.setTop (mkF m 85 #[.val (.ref k), .val (.ref st), .val (.int x2), .val (.int x3), .val (.int (0 : Int32)), .val (.int (1 : Int32))] [(.int (own_nl ln x2 (own_nr x3)))])) _
        refine XS.aloadN X4.here hx rfl (hb hby d4_85) rfl rfl ?_
        show Steps p.tables e below (T4.setTop (mkF m 86 #[.val (.ref k), .val (.ref st), .val (.int x2), .val (.int x3), .val (.int (0 : Int32)), .val (.int (1 : Int32))] [(.ref st), (.int (own_nl ln x2 (own_nr x3)))])) _
        refine XS.iconst X4.here hx rfl (hb hby d4_86) ?_
        show Steps p.tables e below (T4.setTop (mkF m 87 #[.val (.ref k), .val (.ref st), .val (.int x2), .val (.int x3), .val (.int (0 : Int32)), .val (.int (1 : Int32))] [(.int (0 : Int32)), (.ref st), (.int (own_nl ln x2 (own_nr x3)))])) _
        refine own_get0 X4 hx hZ rfl A4 (g := (mkF m 87 #[.val (.ref k), .val (.ref st), .val (.int x2), .val (.int x3), .val (.int (0 : Int32)), .val (.int (1 : Int32))] [(.int (0 : Int32)), (.ref st), (.int (own_nl ln x2 (own_nr x3)))])) rfl rfl (hb hby d4_87) _ ?_
        show Steps p.tables e below (T4.setTop (mkF m 88 #[.val (.ref k), .val (.ref st), .val (.int x2), .val (.int x3), .val (.int (0 : Int32)), .val (.int (1 : Int32))] [(.int (ln + (1 : Int32))), (.int (own_nl ln x2 (own_nr x3)))])) _
        refine XS.icmpNo X4.here hx rfl (hb hby d4_88) rfl (teq v1).2 ?_
        show Steps p.tables e below (T4.setTop (mkF m 91 #[.val (.ref k), .val (.ref st), .val (.int x2), .val (.int x3), .val (.int (0 : Int32)), .val (.int (1 : Int32))] [])) _
        refine XS.aloadN X4.here hx rfl (hb hby d4_91) rfl rfl ?_
        refine st5.trans ?_
        show Steps p.tables e below (T5.setTop (mkF m 95 #[.val (.ref k), .val (.ref st), .val (.int x2), .val (.int x3), .val (.int (0 : Int32)), .val (.int (1 : Int32))] [(.int (own_nc cl x2 (own_nr x3)))])) _
        refine XS.aloadN X5.here hx rfl (hb hby d4_95) rfl rfl ?_
        show Steps p.tables e below (T5.setTop (mkF m 96 #[.val (.ref k), .val (.ref st), .val (.int x2), .val (.int x3), .val (.int (0 : Int32)), .val (.int (1 : Int32))] [(.ref st), (.int (own_nc cl x2 (own_nr x3)))])) _
        refine XS.iconst X5.here hx rfl (hb hby d4_96) ?_
        show Steps p.tables e below (T5.setTop (mkF m 97 #[.val (.ref k), .val (.ref st), .val (.int x2), .val (.int x3), .val (.int (0 : Int32)), .val (.int (1 : Int32))] [(.int (1 : Int32)), (.ref st), (.int (own_nc cl x2 (own_nr x3)))])) _
        refine own_get1 X5 hx hZ rfl A5 (g := (mkF m 97 #[.val (.ref k), .val (.ref st), .val (.int x2), .val (.int x3), .val (.int (0 : Int32)), .val (.int (1 : Int32))] [(.int (1 : Int32)), (.ref st), (.int (own_nc cl x2 (own_nr x3)))])) rfl rfl (hb hby d4_97) _ ?_
        show Steps p.tables e below (T5.setTop (mkF m 98 #[.val (.ref k), .val (.ref st), .val (.int x2), .val (.int x3), .val (.int (0 : Int32)), .val (.int (1 : Int32))] [(.int (1 : Int32)), (.int (own_nc cl x2 (own_nr x3)))])) _
        refine XS.icmpNo X5.here hx rfl (hb hby d4_98) rfl (teq v2).2 ?_
        show Steps p.tables e below (T5.setTop (mkF m 101 #[.val (.ref k), .val (.ref st), .val (.int x2), .val (.int x3), .val (.int (0 : Int32)), .val (.int (1 : Int32))] [])) _
        refine XS.iconst X5.here hx rfl (hb hby d4_101) ?_
        show Steps p.tables e below (T5.setTop (mkF m 102 #[.val (.ref k), .val (.ref st), .val (.int x2), .val (.int x3), .val (.int (0 : Int32)), .val (.int (1 : Int32))] [(.int (1 : Int32))])) _
        refine XS.goto X5.here hx rfl (pc0 := 102) (pc' := 106) rfl (hb hby d4_102) (by decide) (by decide) ?_
        show Steps p.tables e below (T5.setTop (mkF m 106 #[.val (.ref k), .val (.ref st), .val (.int x2), .val (.int x3), .val (.int (0 : Int32)), .val (.int (1 : Int32))] [(.int (1 : Int32))])) _
        exact retN X5 hx (t := .boolean) Bd.returns (by simp) (hb hby d4_106) hr
      · show Q4 Z k st ln cl x2 x3 n0 _ T5.heap _
        exact ⟨rfl, N5, Z5, Ex5, Fl5, Fc5, Fa5, by rw [v1, v2]; exact A5⟩
    · have v1 : own_nl ln x2 (own_nr x3) = ln := by unfold own_nl; rw [if_neg (fun q => hA q.1), if_neg (fun q => q.elim hA hC)]
      have v2 : own_nc cl x2 (own_nr x3) = (cl + (1 : Int32)) := by unfold own_nc; rw [if_neg (fun q => hA q.1), if_neg (fun q => q.elim hA hC)]
      obtain ⟨T1, h1, X1, e1, W1, A1, st1⟩ := own_put1 X0 hx hZ e0 A0 (g := (mkF m 75 #[.val (.ref k), .val (.ref st), .val (.int x2), .val (.int x3), .val (.int (0 : Int32)), .val (.int (0 : Int32))] [(.int (cl + (1 : Int32))), (.int (1 : Int32)), (.ref st)])) rfl rfl (hb hby d4_75)
      have N1 := Fr.snoc X1 N0 gs
      have Z1 : n0 ≤ h1.size := by rw [W1.size]; exact Z0
      have F1_k_line := Fl.other W1 (Or.inl nks)
      have F1_k_column := Fc.other W1 (Or.inl nks)
      have F1_k_afterCarriageReturn := Fa.other W1 (Or.inl nks)
      have Ex1_k := Ex.wr W1
      obtain ⟨cq2, kq2, q2a, q2b, q2c⟩ := isOf hZ e1 Ex1_k
      obtain ⟨_, _, ⟨T2, L2, k2, n2⟩, -, X2, ⟨Lc2, hQ2, l2, y2, z2⟩, st2⟩ := X1.virtualBack hx (y := (⟨"com/example/kingsnake/kingsnake/core/ReadPosition$Counter", "count", "(I)V"⟩ : MethodName)) (z := (⟨"com/example/kingsnake/kingsnake/core/ReadPosition$Counter", "count", "(I)V"⟩ : MethodName)) hown (mvT hZ (hw _ (List.mem_of_getElem? (i := 21) rfl))) (mvT hZ (hw _ (List.mem_of_getElem? (i := 22) rfl))) (notFace_of_selects (args := #[]) (mvT hZ (hw _ (List.mem_of_getElem? (i := 24) rfl)))) (mvT hZ (hw _ (List.mem_of_getElem? (i := 24) rfl))) (mvT hZ (hw _ (List.mem_of_getElem? (i := 23) rfl))) (by decide) (backOf (W := 0) (rm5 l Z a0 hw [] k ln cl (own_nr x3) x2 h1 n0 Z1 ga Ex1_k F1_k_line F1_k_column F1_k_afterCarriageReturn) hZ (hw _ (List.mem_of_getElem? (i := 25) rfl)) (hw _ (List.mem_of_getElem? (i := 6) rfl)) (by decide) (by decide)) q2a q2c (g := (mkF m 78 #[.val (.ref k), .val (.ref st), .val (.int x2), .val (.int x3), .val (.int (0 : Int32)), .val (.int (0 : Int32))] [(.int x2), (.ref k)])) rfl (by rw [hml]; rfl) (Steps.refl _) (argsL := [(.int x2)]) (rest := []) (lenOf pd_5 rfl) rfl (by show 2 * 0 + _ ≤ _; exact Nat.le_of_eq rfl) (hb hby d4_78) (fun _ _ => ⟨rfl, e1, (by decide : 0 + 0 ≤ _), (by decide : 0 + 0 ≤ _)⟩)
      dsimp only [Pt.U, Pt.locs, Pt.cells, Pt.slots] at X2 l2 y2 z2 st2 hQ2
      subst l2 y2 z2
      obtain ⟨rfl, N2q, Z2, K2, Ex2, Fl2, Fc2, Fa2⟩ := hQ2
      have N2 := Fr.app N1 N2q
      have A2 := own_ar_keep A1 K2 (by simpa using nks.symm)
      obtain ⟨cq3, kq3, q3a, q3b, q3c⟩ := isOf hZ rfl Ex2
      obtain ⟨_, _, ⟨T3, L3, k3, n3⟩, -, X3, ⟨Lc3, hQ3, l3, y3, z3⟩, st3⟩ := X2.virtualBack hx (y := (⟨"com/example/kingsnake/kingsnake/core/ReadPosition$Counter", "getLine", "()I"⟩ : MethodName)) (z := (⟨"com/example/kingsnake/kingsnake/core/ReadPosition$Counter", "getLine", "()I"⟩ : MethodName)) hown (mvT hZ (hw _ (List.mem_of_getElem? (i := 28) rfl))) (mvT hZ (hw _ (List.mem_of_getElem? (i := 29) rfl))) (notFace_of_selects (args := #[]) (mvT hZ (hw _ (List.mem_of_getElem? (i := 31) rfl)))) (mvT hZ (hw _ (List.mem_of_getElem? (i := 31) rfl))) (mvT hZ (hw _ (List.mem_of_getElem? (i := 30) rfl))) (by decide) (backOf (W := 0) (rm6 l Z a0 hw [] k (own_nl ln x2 (own_nr x3)) T2.heap n0 Z2 Fl2) hZ (hw _ (List.mem_of_getElem? (i := 32) rfl)) (hw _ (List.mem_of_getElem? (i := 6) rfl)) (by decide) (by decide)) q3a q3c (g := (mkF m 82 #[.val (.ref k), .val (.ref st), .val (.int x2), .val (.int x3), .val (.int (0 : Int32)), .val (.int (0 : Int32))] [(.ref k)])) rfl (by rw [hml]; rfl) (Steps.refl _) (argsL := []) (rest := []) (lenOf pd_6 rfl) rfl (by show 2 * 0 + _ ≤ _; exact Nat.le_of_eq rfl) (hb hby d4_82) (fun _ _ => ⟨rfl, rfl, (by decide : 0 + 0 ≤ _), (by decide : 0 + 0 ≤ _)⟩)
      dsimp only [Pt.U, Pt.locs, Pt.cells, Pt.slots] at X3 l3 y3 z3 st3 hQ3
      subst l3 y3 z3
      obtain ⟨rfl, N3q, eh3⟩ := hQ3
      have N3 := Fr.app N2 N3q
      have Z3 : n0 ≤ T3.heap.size := by rw [eh3]; exact Z2
      have A3 : own_ar Z T3.heap st ln (cl + (1 : Int32)) := by rw [eh3]; exact A2
      have Ex3 : Exa Z T3.heap k "com/example/kingsnake/kingsnake/core/ReadPosition$Counter" := by rw [eh3]; exact Ex2
      have Fl3 : Fld Z T3.heap k "com/example/kingsnake/kingsnake/core/ReadPosition$Counter" "line" "I" (.int (own_nl ln x2 (own_nr x3))) := by rw [eh3]; exact Fl2
      have Fc3 : Fld Z T3.heap k "com/example/kingsnake/kingsnake/core/ReadPosition$Counter" "column" "I" (.int (own_nc cl x2 (own_nr x3))) := by rw [eh3]; exact Fc2
      have Fa3 : Fld Z T3.heap k "com/example/kingsnake/kingsnake/core/ReadPosition$Counter" "afterCarriageReturn" "Z" (.int (own_nr x2)) := by rw [eh3]; exact Fa2
      obtain ⟨cq4, kq4, q4a, q4b, q4c⟩ := isOf hZ rfl Ex3
      obtain ⟨_, _, ⟨T4, L4, k4, n4⟩, -, X4, ⟨Lc4, hQ4, l4, y4, z4⟩, st4⟩ := X3.virtualBack hx (y := (⟨"com/example/kingsnake/kingsnake/core/ReadPosition$Counter", "getColumn", "()I"⟩ : MethodName)) (z := (⟨"com/example/kingsnake/kingsnake/core/ReadPosition$Counter", "getColumn", "()I"⟩ : MethodName)) hown (mvT hZ (hw _ (List.mem_of_getElem? (i := 33) rfl))) (mvT hZ (hw _ (List.mem_of_getElem? (i := 34) rfl))) (notFace_of_selects (args := #[]) (mvT hZ (hw _ (List.mem_of_getElem? (i := 36) rfl)))) (mvT hZ (hw _ (List.mem_of_getElem? (i := 36) rfl))) (mvT hZ (hw _ (List.mem_of_getElem? (i := 35) rfl))) (by decide) (backOf (W := 0) (rm7 l Z a0 hw [] k (own_nc cl x2 (own_nr x3)) T3.heap n0 Z3 Fc3) hZ (hw _ (List.mem_of_getElem? (i := 37) rfl)) (hw _ (List.mem_of_getElem? (i := 6) rfl)) (by decide) (by decide)) q4a q4c (g := (mkF m 92 #[.val (.ref k), .val (.ref st), .val (.int x2), .val (.int x3), .val (.int (0 : Int32)), .val (.int (0 : Int32))] [(.ref k)])) rfl (by rw [hml]; rfl) (Steps.refl _) (argsL := []) (rest := []) (lenOf pd_7 rfl) rfl (by show 2 * 0 + _ ≤ _; exact Nat.le_of_eq rfl) (hb hby d4_92) (fun _ _ => ⟨rfl, rfl, (by decide : 0 + 0 ≤ _), (by decide : 0 + 0 ≤ _)⟩)
      dsimp only [Pt.U, Pt.locs, Pt.cells, Pt.slots] at X4 l4 y4 z4 st4 hQ4
      subst l4 y4 z4
      obtain ⟨rfl, N4q, eh4⟩ := hQ4
      have N4 := Fr.app N3 N4q
      have Z4 : n0 ≤ T4.heap.size := by rw [eh4]; exact Z3
      have A4 : own_ar Z T4.heap st ln (cl + (1 : Int32)) := by rw [eh4]; exact A3
      have Ex4 : Exa Z T4.heap k "com/example/kingsnake/kingsnake/core/ReadPosition$Counter" := by rw [eh4]; exact Ex3
      have Fl4 : Fld Z T4.heap k "com/example/kingsnake/kingsnake/core/ReadPosition$Counter" "line" "I" (.int (own_nl ln x2 (own_nr x3))) := by rw [eh4]; exact Fl3
      have Fc4 : Fld Z T4.heap k "com/example/kingsnake/kingsnake/core/ReadPosition$Counter" "column" "I" (.int (own_nc cl x2 (own_nr x3))) := by rw [eh4]; exact Fc3
      have Fa4 : Fld Z T4.heap k "com/example/kingsnake/kingsnake/core/ReadPosition$Counter" "afterCarriageReturn" "Z" (.int (own_nr x2)) := by rw [eh4]; exact Fa3
      obtain ⟨fs, hr, hrun, hended, hW, hsame⟩ := X4.leave (v := some (.int (1 : Int32))) (fun h => by rw [Bd.returns] at h; cases h)
      refine ⟨_, _, pre0 _ ?_, hrun, hended, _, _, rfl, ?_, ⟨_, rfl⟩, hW, hsame.mono (by decide) (by decide)⟩
      · show Steps p.tables e below (s₁.setTop (mkF m 0 #[.val (.ref k), .val (.ref st), .val (.int x2), .val (.int x3), .unset, .unset] [])) _
        refine XS.iloadN X0.here hx rfl (hb hby d4_0) rfl ?_
        show Steps p.tables e below (s₁.setTop (mkF m 1 #[.val (.ref k), .val (.ref st), .val (.int x2), .val (.int x3), .unset, .unset] [(.int x2)])) _
        refine XS.bipush X0.here hx rfl (hb hby d4_1) ?_
        show Steps p.tables e below (s₁.setTop (mkF m 3 #[.val (.ref k), .val (.ref st), .val (.int x2), .val (.int x3), .unset, .unset] [(.int (10 : Int32)), (.int x2)])) _
        refine XS.icmpYes X0.here hx rfl (pc0 := 3) (pc' := 16) rfl (hb hby d4_3) rfl (feq hA).2 (by decide) (by decide) ?_
        show Steps p.tables e below (s₁.setTop (mkF m 16 #[.val (.ref k), .val (.ref st), .val (.int x2), .val (.int x3), .unset, .unset] [])) _
        refine XS.iconst X0.here hx rfl (hb hby d4_16) ?_
        show Steps p.tables e below (s₁.setTop (mkF m 17 #[.val (.ref k), .val (.ref st), .val (.int x2), .val (.int x3), .unset, .unset] [(.int (0 : Int32))])) _
        refine XS.istore X0.here hx rfl (hb hby d4_17) rfl (l' := #[.val (.ref k), .val (.ref st), .val (.int x2), .val (.int x3), .val (.int (0 : Int32)), .unset]) rfl ?_
        show Steps p.tables e below (s₁.setTop (mkF m 19 #[.val (.ref k), .val (.ref st), .val (.int x2), .val (.int x3), .val (.int (0 : Int32)), .unset] [])) _
        refine XS.iloadN X0.here hx rfl (hb hby d4_19) rfl ?_
        show Steps p.tables e below (s₁.setTop (mkF m 20 #[.val (.ref k), .val (.ref st), .val (.int x2), .val (.int x3), .val (.int (0 : Int32)), .unset] [(.int x2)])) _
        refine XS.bipush X0.here hx rfl (hb hby d4_20) ?_
        show Steps p.tables e below (s₁.setTop (mkF m 22 #[.val (.ref k), .val (.ref st), .val (.int x2), .val (.int x3), .val (.int (0 : Int32)), .unset] [(.int (13 : Int32)), (.int x2)])) _
        refine XS.icmpNo X0.here hx rfl (hb hby d4_22) rfl (feq hC).1 ?_
        show Steps p.tables e below (s₁.setTop (mkF m 25 #[.val (.ref k), .val (.ref st), .val (.int x2), .val (.int x3), .val (.int (0 : Int32)), .unset] [])) _
        refine XS.iloadN X0.here hx rfl (hb hby d4_25) rfl ?_
        show Steps p.tables e below (s₁.setTop (mkF m 26 #[.val (.ref k), .val (.ref st), .val (.int x2), .val (.int x3), .val (.int (0 : Int32)), .unset] [(.int x2)])) _
        refine XS.bipush X0.here hx rfl (hb hby d4_26) ?_
        show Steps p.tables e below (s₁.setTop (mkF m 28 #[.val (.ref k), .val (.ref st), .val (.int x2), .val (.int x3), .val (.int (0 : Int32)), .unset] [(.int (10 : Int32)), (.int x2)])) _
        refine XS.icmpYes X0.here hx rfl (pc0 := 28) (pc' := 40) rfl (hb hby d4_28) rfl (feq hA).2 (by decide) (by decide) ?_
        show Steps p.tables e below (s₁.setTop (mkF m 40 #[.val (.ref k), .val (.ref st), .val (.int x2), .val (.int x3), .val (.int (0 : Int32)), .unset] [])) _
        refine XS.iconst X0.here hx rfl (hb hby d4_40) ?_
        show Steps p.tables e below (s₁.setTop (mkF m 41 #[.val (.ref k), .val (.ref st), .val (.int x2), .val (.int x3), .val (.int (0 : Int32)), .unset] [(.int (0 : Int32))])) _
        refine XS.istore X0.here hx rfl (hb hby d4_41) rfl (l' := #[.val (.ref k), .val (.ref st), .val (.int x2), .val (.int x3), .val (.int (0 : Int32)), .val (.int (0 : Int32))]) rfl ?_
        show Steps p.tables e below (s₁.setTop (mkF m 43 #[.val (.ref k), .val (.ref st), .val (.int x2), .val (.int x3), .val (.int (0 : Int32)), .val (.int (0 : Int32))] [])) _
        refine XS.iload X0.here hx rfl (hb hby d4_43) rfl ?_
        show Steps p.tables e below (s₁.setTop (mkF m 45 #[.val (.ref k), .val (.ref st), .val (.int x2), .val (.int x3), .val (.int (0 : Int32)), .val (.int (0 : Int32))] [(.int (0 : Int32))])) _
        refine XS.ifYes X0.here hx rfl (pc0 := 45) (pc' := 63) rfl (hb hby d4_45) rfl ((if0 _ _).trans (teq (by decide : (0 : Int32) = (0 : Int32))).1) (by decide) (by decide) ?_
        show Steps p.tables e below (s₁.setTop (mkF m 63 #[.val (.ref k), .val (.ref st), .val (.int x2), .val (.int x3), .val (.int (0 : Int32)), .val (.int (0 : Int32))] [])) _
        refine XS.iload X0.here hx rfl (hb hby d4_63) rfl ?_
        show Steps p.tables e below (s₁.setTop (mkF m 65 #[.val (.ref k), .val (.ref st), .val (.int x2), .val (.int x3), .val (.int (0 : Int32)), .val (.int (0 : Int32))] [(.int (0 : Int32))])) _
        refine XS.ifNo X0.here hx rfl (hb hby d4_65) rfl ((if0 _ _).trans (teq (by decide : (0 : Int32) = (0 : Int32))).2) ?_
        show Steps p.tables e below (s₁.setTop (mkF m 68 #[.val (.ref k), .val (.ref st), .val (.int x2), .val (.int x3), .val (.int (0 : Int32)), .val (.int (0 : Int32))] [])) _
        refine XS.aloadN X0.here hx rfl (hb hby d4_68) rfl rfl ?_
        show Steps p.tables e below (s₁.setTop (mkF m 69 #[.val (.ref k), .val (.ref st), .val (.int x2), .val (.int x3), .val (.int (0 : Int32)), .val (.int (0 : Int32))] [(.ref st)])) _
        refine XS.iconst X0.here hx rfl (hb hby d4_69) ?_
        show Steps p.tables e below (s₁.setTop (mkF m 70 #[.val (.ref k), .val (.ref st), .val (.int x2), .val (.int x3), .val (.int (0 : Int32)), .val (.int (0 : Int32))] [(.int (1 : Int32)), (.ref st)])) _
        refine XS.aloadN X0.here hx rfl (hb hby d4_70) rfl rfl ?_
        show Steps p.tables e below (s₁.setTop (mkF m 71 #[.val (.ref k), .val (.ref st), .val (.int x2), .val (.int x3), .val (.int (0 : Int32)), .val (.int (0 : Int32))] [(.ref st), (.int (1 : Int32)), (.ref st)])) _
        refine XS.iconst X0.here hx rfl (hb hby d4_71) ?_
        show Steps p.tables e below (s₁.setTop (mkF m 72 #[.val (.ref k), .val (.ref st), .val (.int x2), .val (.int x3), .val (.int (0 : Int32)), .val (.int (0 : Int32))] [(.int (1 : Int32)), (.ref st), (.int (1 : Int32)), (.ref st)])) _
        refine own_get1 X0 hx hZ e0 A0 (g := (mkF m 72 #[.val (.ref k), .val (.ref st), .val (.int x2), .val (.int x3), .val (.int (0 : Int32)), .val (.int (0 : Int32))] [(.int (1 : Int32)), (.ref st), (.int (1 : Int32)), (.ref st)])) rfl rfl (hb hby d4_72) _ ?_
        show Steps p.tables e below (s₁.setTop (mkF m 73 #[.val (.ref k), .val (.ref st), .val (.int x2), .val (.int x3), .val (.int (0 : Int32)), .val (.int (0 : Int32))] [(.int cl), (.int (1 : Int32)), (.ref st)])) _
        refine XS.iconst X0.here hx rfl (hb hby d4_73) ?_
        show Steps p.tables e below (s₁.setTop (mkF m 74 #[.val (.ref k), .val (.ref st), .val (.int x2), .val (.int x3), .val (.int (0 : Int32)), .val (.int (0 : Int32))] [(.int (1 : Int32)), (.int cl), (.int (1 : Int32)), (.ref st)])) _
        refine XS.iadd X0.here hx rfl (hb hby d4_74) rfl ?_
        show Steps p.tables e below (s₁.setTop (mkF m 75 #[.val (.ref k), .val (.ref st), .val (.int x2), .val (.int x3), .val (.int (0 : Int32)), .val (.int (0 : Int32))] [(.int (cl + (1 : Int32))), (.int (1 : Int32)), (.ref st)])) _
        refine st1 _ ?_
        show Steps p.tables e below (T1.setTop (mkF m 76 #[.val (.ref k), .val (.ref st), .val (.int x2), .val (.int x3), .val (.int (0 : Int32)), .val (.int (0 : Int32))] [])) _
        refine XS.aloadN X1.here hx rfl (hb hby d4_76) rfl rfl ?_
        show Steps p.tables e below (T1.setTop (mkF m 77 #[.val (.ref k), .val (.ref st), .val (.int x2), .val (.int x3), .val (.int (0 : Int32)), .val (.int (0 : Int32))] [(.ref k)])) _
        refine XS.iloadN X1.here hx rfl (hb hby d4_77) rfl ?_
        refine st2.trans ?_
        show Steps p.tables e below (T2.setTop (mkF m 81 #[.val (.ref k), .val (.ref st), .val (.int x2), .val (.int x3), .val (.int (0 : Int32)), .val (.int (0 : Int32))] [])) _
        refine XS.aloadN X2.here hx rfl (hb hby d4_81) rfl rfl ?_
        refine st3.trans ?_
        show Steps p.tables e below (T3.setTop (mkF m 85 #[.val (.ref k), .val (.ref st), .val (.int x2), .val (.int x3), .val (.int (0 : Int32)), .val (.int (0 : Int32))] [(.int (own_nl ln x2 (own_nr x3)))])) _
        refine XS.aloadN X3.here hx rfl (hb hby d4_85) rfl rfl ?_
        show Steps p.tables e below (T3.setTop (mkF m 86 #[.val (.ref k), .val (.ref st), .val (.int x2), .val (.int x3), .val (.int (0 : Int32)), .val (.int (0 : Int32))] [(.ref st), (.int (own_nl ln x2 (own_nr x3)))])) _
        refine XS.iconst X3.here hx rfl (hb hby d4_86) ?_
        show Steps p.tables e below (T3.setTop (mkF m 87 #[.val (.ref k), .val (.ref st), .val (.int x2), .val (.int x3), .val (.int (0 : Int32)), .val (.int (0 : Int32))] [(.int (0 : Int32)), (.ref st), (.int (own_nl ln x2 (own_nr x3)))])) _
        refine own_get0 X3 hx hZ rfl A3 (g := (mkF m 87 #[.val (.ref k), .val (.ref st), .val (.int x2), .val (.int x3), .val (.int (0 : Int32)), .val (.int (0 : Int32))] [(.int (0 : Int32)), (.ref st), (.int (own_nl ln x2 (own_nr x3)))])) rfl rfl (hb hby d4_87) _ ?_
        show Steps p.tables e below (T3.setTop (mkF m 88 #[.val (.ref k), .val (.ref st), .val (.int x2), .val (.int x3), .val (.int (0 : Int32)), .val (.int (0 : Int32))] [(.int ln), (.int (own_nl ln x2 (own_nr x3)))])) _
        refine XS.icmpNo X3.here hx rfl (hb hby d4_88) rfl (teq v1).2 ?_
        show Steps p.tables e below (T3.setTop (mkF m 91 #[.val (.ref k), .val (.ref st), .val (.int x2), .val (.int x3), .val (.int (0 : Int32)), .val (.int (0 : Int32))] [])) _
        refine XS.aloadN X3.here hx rfl (hb hby d4_91) rfl rfl ?_
        refine st4.trans ?_
        show Steps p.tables e below (T4.setTop (mkF m 95 #[.val (.ref k), .val (.ref st), .val (.int x2), .val (.int x3), .val (.int (0 : Int32)), .val (.int (0 : Int32))] [(.int (own_nc cl x2 (own_nr x3)))])) _
        refine XS.aloadN X4.here hx rfl (hb hby d4_95) rfl rfl ?_
        show Steps p.tables e below (T4.setTop (mkF m 96 #[.val (.ref k), .val (.ref st), .val (.int x2), .val (.int x3), .val (.int (0 : Int32)), .val (.int (0 : Int32))] [(.ref st), (.int (own_nc cl x2 (own_nr x3)))])) _
        refine XS.iconst X4.here hx rfl (hb hby d4_96) ?_
        show Steps p.tables e below (T4.setTop (mkF m 97 #[.val (.ref k), .val (.ref st), .val (.int x2), .val (.int x3), .val (.int (0 : Int32)), .val (.int (0 : Int32))] [(.int (1 : Int32)), (.ref st), (.int (own_nc cl x2 (own_nr x3)))])) _
        refine own_get1 X4 hx hZ rfl A4 (g := (mkF m 97 #[.val (.ref k), .val (.ref st), .val (.int x2), .val (.int x3), .val (.int (0 : Int32)), .val (.int (0 : Int32))] [(.int (1 : Int32)), (.ref st), (.int (own_nc cl x2 (own_nr x3)))])) rfl rfl (hb hby d4_97) _ ?_
        show Steps p.tables e below (T4.setTop (mkF m 98 #[.val (.ref k), .val (.ref st), .val (.int x2), .val (.int x3), .val (.int (0 : Int32)), .val (.int (0 : Int32))] [(.int (cl + (1 : Int32))), (.int (own_nc cl x2 (own_nr x3)))])) _
        refine XS.icmpNo X4.here hx rfl (hb hby d4_98) rfl (teq v2).2 ?_
        show Steps p.tables e below (T4.setTop (mkF m 101 #[.val (.ref k), .val (.ref st), .val (.int x2), .val (.int x3), .val (.int (0 : Int32)), .val (.int (0 : Int32))] [])) _
        refine XS.iconst X4.here hx rfl (hb hby d4_101) ?_
        show Steps p.tables e below (T4.setTop (mkF m 102 #[.val (.ref k), .val (.ref st), .val (.int x2), .val (.int x3), .val (.int (0 : Int32)), .val (.int (0 : Int32))] [(.int (1 : Int32))])) _
        refine XS.goto X4.here hx rfl (pc0 := 102) (pc' := 106) rfl (hb hby d4_102) (by decide) (by decide) ?_
        show Steps p.tables e below (T4.setTop (mkF m 106 #[.val (.ref k), .val (.ref st), .val (.int x2), .val (.int x3), .val (.int (0 : Int32)), .val (.int (0 : Int32))] [(.int (1 : Int32))])) _
        exact retN X4 hx (t := .boolean) Bd.returns (by simp) (hb hby d4_106) hr
      · show Q4 Z k st ln cl x2 x3 n0 _ T4.heap _
        exact ⟨rfl, N4, Z4, Ex4, Fl4, Fc4, Fa4, by rw [v1, v2]; exact A4⟩
def Q0 (h0 : Heap) (n0 : Nat) (v : Option Value) (h : Heap) (L : List Loc) : Prop := v = some (.int 1) ∧ Fr n0 L
set_option maxRecDepth 65536 in
set_option maxHeartbeats 40000000 in
theorem rm0 (l : Launch) (Z : State) (a0 : Array Value) (hw : ∀ d ∈ tables_1, d.before a0 Z = true) (ws : List Jvm.Cond) (i0 i1 i2 i3 i4 i5 : Int32) (h0 : Heap) (n0 : Nat) (Z0 : n0 ≤ h0.size)  :
    MetFree l x (head1 (Jvm.Cond.code x code maxLocals ret :: ws) room_1) (fun as_ U => as_ = #[(.int i0), (.int i1), (.int i2), (.int i3), (.int i4), (.int i5)] ∧ Z.Warmed39 U.vm ∧ U.heap = h0) (fun _ _ _ _ _ => True) (fun _ U o U' => ∃ v L, o = .returned v ∧ Q0 h0 n0 v U'.heap L ∧ FrameEnd U o U' L 2 5) := by
  refine MetFree.of_bodySF (plainFor_of_name pn_0) hisR ?_
  intro p e s m args below meth c s₁ Bd hml0 hP hK
  obtain ⟨rfl, hZ, hh⟩ := hP
  have hx := Bd.exec
  have hby := Bd.bytes
  have hml : c.maxLocals = 14 := hml0
  have hown : s.vm.findClass "com/example/kingsnake/kingsnake/core/CounterCountPinLaw" = some m.cls := findClass_of_methodNamed Bd.named
  have hnm := (name_of_methodNamed Bd.named Bd.method).1
  have X0 : Stand p l e room_1 s m #[(.int i0), (.int i1), (.int i2), (.int i3), (.int i4), (.int i5)] below meth c s₁ [] 0 0 := Stand.of_body Bd
  have e0 : s₁.heap = h0 := by rw [← hh, Bd.state]; rfl
  have N0 := Fr.nil n0
  have pre0 : ∀ t, Steps p.tables e below (s₁.setTop (mkF m 0 #[.val (.int i0), .val (.int i1), .val (.int i2), .val (.int i3), .val (.int i4), .val (.int i5), .unset, .unset, .unset, .unset, .unset, .unset, .unset, .unset] [])) t → Steps p.tables e below (s₁.setTop (entryFrame m #[(.int i0), (.int i1), (.int i2), (.int i3), (.int i4), (.int i5)] maxLocals)) t := fun t_ k_ => castTop (ef_0 m i0 i1 i2 i3 i4 i5) k_
  obtain ⟨c1, ec1⟩ : ∃ z, z = own_pick i2 (0 : Int32) i3 := ⟨_, rfl⟩
  obtain ⟨c2, ec2⟩ : ∃ z, z = own_pick i2 (2 : Int32) i4 := ⟨_, rfl⟩
  obtain ⟨c3, ec3⟩ : ∃ z, z = own_pick i2 (4 : Int32) i5 := ⟨_, rfl⟩
  obtain ⟨_, _, ⟨T1, L1, k1, n1⟩, -, X1, ⟨Lc1, hQ1, l1, y1, z1⟩, st1⟩ := Jvm.LawKit.callS X0 hx (y := (⟨"com/example/kingsnake/kingsnake/core/CounterCountPinLaw", "pick", "(III)I"⟩ : MethodName)) hown (mvT hZ (hw _ (List.mem_of_getElem? (i := 0) rfl))) (mvT hZ (hw _ (List.mem_of_getElem? (i := 1) rfl))) (mvT hZ (hw _ (List.mem_of_getElem? (i := 2) rfl))) (mvT hZ (hw _ (List.mem_of_getElem? (i := 3) rfl))) (by decide) (backOf (W := 0) (rm1 l Z a0 hw [] i2 (0 : Int32) i3 h0 n0 Z0) hZ (hw _ (List.mem_of_getElem? (i := 3) rfl)) (hw _ (List.mem_of_getElem? (i := 2) rfl)) (by decide) (by decide)) (g := (mkF m 3 #[.val (.int i0), .val (.int i1), .val (.int i2), .val (.int i3), .val (.int i4), .val (.int i5), .unset, .unset, .unset, .unset, .unset, .unset, .unset, .unset] [(.int i3), (.int (0 : Int32)), (.int i2)])) rfl (by rw [hml]; rfl) (argsL := [(.int i2), (.int (0 : Int32)), (.int i3)]) (rest := []) (lenOf pd_1 rfl) rfl (by show 2 * 0 + _ ≤ _; exact Nat.le_of_eq rfl) (hb hby at_3) (fun _ _ => ⟨rfl, e0, (by decide : 0 + 0 ≤ _), (by decide : 0 + 0 ≤ _)⟩)
  dsimp only [Pt.U, Pt.locs, Pt.cells, Pt.slots] at X1 l1 y1 z1 st1 hQ1
  subst l1 y1 z1
  obtain ⟨rfl, N1q, eh1⟩ := hQ1
  rw [← ec1] at st1
  have Z1 : n0 ≤ T1.heap.size := by rw [eh1]; exact Z0
  have N1 := Fr.app N0 N1q
  obtain ⟨_, _, ⟨T2, L2, k2, n2⟩, -, X2, ⟨Lc2, hQ2, l2, y2, z2⟩, st2⟩ := Jvm.LawKit.callS X1 hx (y := (⟨"com/example/kingsnake/kingsnake/core/CounterCountPinLaw", "pick", "(III)I"⟩ : MethodName)) hown (mvT hZ (hw _ (List.mem_of_getElem? (i := 0) rfl))) (mvT hZ (hw _ (List.mem_of_getElem? (i := 1) rfl))) (mvT hZ (hw _ (List.mem_of_getElem? (i := 2) rfl))) (mvT hZ (hw _ (List.mem_of_getElem? (i := 3) rfl))) (by decide) (backOf (W := 0) (rm1 l Z a0 hw [] i2 (2 : Int32) i4 T1.heap n0 Z1) hZ (hw _ (List.mem_of_getElem? (i := 3) rfl)) (hw _ (List.mem_of_getElem? (i := 2) rfl)) (by decide) (by decide)) (g := (mkF m 12 #[.val (.int i0), .val (.int i1), .val (.int i2), .val (.int i3), .val (.int i4), .val (.int i5), .val (.int c1), .unset, .unset, .unset, .unset, .unset, .unset, .unset] [(.int i4), (.int (2 : Int32)), (.int i2)])) rfl (by rw [hml]; rfl) (argsL := [(.int i2), (.int (2 : Int32)), (.int i4)]) (rest := []) (lenOf pd_1 rfl) rfl (by show 2 * 0 + _ ≤ _; exact Nat.le_of_eq rfl) (hb hby at_12) (fun _ _ => ⟨rfl, rfl, (by decide : 0 + 0 ≤ _), (by decide : 0 + 0 ≤ _)⟩)
  dsimp only [Pt.U, Pt.locs, Pt.cells, Pt.slots] at X2 l2 y2 z2 st2 hQ2
  subst l2 y2 z2
  obtain ⟨rfl, N2q, eh2⟩ := hQ2
  rw [← ec2] at st2
  have Z2 : n0 ≤ T2.heap.size := by rw [eh2]; exact Z1
  have N2 := Fr.app N1 N2q
  obtain ⟨_, _, ⟨T3, L3, k3, n3⟩, -, X3, ⟨Lc3, hQ3, l3, y3, z3⟩, st3⟩ := Jvm.LawKit.callS X2 hx (y := (⟨"com/example/kingsnake/kingsnake/core/CounterCountPinLaw", "pick", "(III)I"⟩ : MethodName)) hown (mvT hZ (hw _ (List.mem_of_getElem? (i := 0) rfl))) (mvT hZ (hw _ (List.mem_of_getElem? (i := 1) rfl))) (mvT hZ (hw _ (List.mem_of_getElem? (i := 2) rfl))) (mvT hZ (hw _ (List.mem_of_getElem? (i := 3) rfl))) (by decide) (backOf (W := 0) (rm1 l Z a0 hw [] i2 (4 : Int32) i5 T2.heap n0 Z2) hZ (hw _ (List.mem_of_getElem? (i := 3) rfl)) (hw _ (List.mem_of_getElem? (i := 2) rfl)) (by decide) (by decide)) (g := (mkF m 21 #[.val (.int i0), .val (.int i1), .val (.int i2), .val (.int i3), .val (.int i4), .val (.int i5), .val (.int c1), .val (.int c2), .unset, .unset, .unset, .unset, .unset, .unset] [(.int i5), (.int (4 : Int32)), (.int i2)])) rfl (by rw [hml]; rfl) (argsL := [(.int i2), (.int (4 : Int32)), (.int i5)]) (rest := []) (lenOf pd_1 rfl) rfl (by show 2 * 0 + _ ≤ _; exact Nat.le_of_eq rfl) (hb hby at_21) (fun _ _ => ⟨rfl, rfl, (by decide : 0 + 0 ≤ _), (by decide : 0 + 0 ≤ _)⟩)
  dsimp only [Pt.U, Pt.locs, Pt.cells, Pt.slots] at X3 l3 y3 z3 st3 hQ3
  subst l3 y3 z3
  obtain ⟨rfl, N3q, eh3⟩ := hQ3
  rw [← ec3] at st3
  have Z3 : n0 ≤ T3.heap.size := by rw [eh3]; exact Z2
  have N3 := Fr.app N2 N3q
  obtain ⟨T4, h4, X4, e4, E4, A4, D4, -, st4⟩ := newO X3 hx hZ hown (hw _ (List.mem_of_getElem? (i := 4) rfl)) (hw _ (List.mem_of_getElem? (i := 5) rfl)) (hw _ (List.mem_of_getElem? (i := 6) rfl)) rfl (g := (mkF m 26 #[.val (.int i0), .val (.int i1), .val (.int i2), .val (.int i3), .val (.int i4), .val (.int i5), .val (.int c1), .val (.int c2), .val (.int c3), .unset, .unset, .unset, .unset, .unset] [])) rfl (hb hby at_26) (by decide) (by decide)
  obtain ⟨b4, g4⟩ : ∃ z, z = T3.heap.size := ⟨_, rfl⟩
  rw [← g4] at A4 D4 st4
  have gb4 : n0 ≤ b4 := Nat.le_trans Z3 (Nat.le_of_eq g4.symm)
  have Z4 : n0 ≤ h4.size := Nat.le_trans Z3 E4.1
  have F4_b4_line : Fld Z h4 b4 "com/example/kingsnake/kingsnake/core/ReadPosition$Counter" "line" "I" (.int (0 : Int32)) := D4 (Or.inl (hw _ (List.mem_of_getElem? (i := 14) rfl))) (ty := .int) (by decide)
  have F4_b4_column : Fld Z h4 b4 "com/example/kingsnake/kingsnake/core/ReadPosition$Counter" "column" "I" (.int (0 : Int32)) := D4 (Or.inl (hw _ (List.mem_of_getElem? (i := 16) rfl))) (ty := .int) (by decide)
  have F4_b4_afterCarriageReturn : Fld Z h4 b4 "com/example/kingsnake/kingsnake/core/ReadPosition$Counter" "afterCarriageReturn" "Z" (.int (0 : Int32)) := D4 (Or.inl (hw _ (List.mem_of_getElem? (i := 27) rfl))) (ty := .boolean) (by decide)
  obtain ⟨_, _, ⟨T5, L5, k5, n5⟩, -, X5, ⟨Lc5, hQ5, l5, y5, z5⟩, st5⟩ := X4.specialBack hx (y := (⟨"com/example/kingsnake/kingsnake/core/ReadPosition$Counter", "<init>", "(II)V"⟩ : MethodName)) rfl hown (mvT hZ (hw _ (List.mem_of_getElem? (i := 7) rfl))) (mvT hZ (hw _ (List.mem_of_getElem? (i := 8) rfl))) (mvT hZ (hw _ (List.mem_of_getElem? (i := 9) rfl))) (by decide) (backOf (W := 1) (rm2 l Z a0 hw [] b4 i0 i1 h4 n0 Z4 gb4 A4 F4_b4_line F4_b4_column F4_b4_afterCarriageReturn) hZ (hw _ (List.mem_of_getElem? (i := 9) rfl)) (hw _ (List.mem_of_getElem? (i := 6) rfl)) (by decide) (by decide)) (g := (mkF m 32 #[.val (.int i0), .val (.int i1), .val (.int i2), .val (.int i3), .val (.int i4), .val (.int i5), .val (.int c1), .val (.int c2), .val (.int c3), .unset, .unset, .unset, .unset, .unset] [(.int i1), (.int i0), (.ref b4), (.ref b4)])) rfl (by rw [hml]; rfl) (Steps.refl _) (a := b4) (argsL := [(.int i0), (.int i1)]) (rest := [(.ref b4)]) (lenOf pd_2 rfl) rfl (by show 2 * 0 + _ ≤ _; exact Nat.le_of_eq rfl) (hb hby at_32) (fun _ _ => ⟨rfl, e4, (by decide : 1 + 0 ≤ _), (by decide : 3 + 0 ≤ _)⟩)
  dsimp only [Pt.U, Pt.locs, Pt.cells, Pt.slots] at X5 l5 y5 z5 st5 hQ5
  subst l5 y5 z5
  obtain ⟨rfl, N5q, Z5, Ex5, Fl5, Fc5, Fa5⟩ := hQ5
  have N5 := Fr.app N3 N5q
  obtain ⟨T6, h6, k6, X6, e6, E6, B6, st6⟩ := newP X5 hx hZ (hw _ (List.mem_of_getElem? (i := 17) rfl)) rfl (g := (mkF m 38 #[.val (.int i0), .val (.int i1), .val (.int i2), .val (.int i3), .val (.int i4), .val (.int i5), .val (.int c1), .val (.int c2), .val (.int c3), .val (.ref b4), .unset, .unset, .unset, .unset] [(.int (2 : Int32))])) rfl (hb hby at_38) rfl (by decide) (cap := 2) (by decide) (by decide) (by decide) (by decide)
  obtain ⟨b6, g6⟩ : ∃ z, z = T5.heap.size := ⟨_, rfl⟩
  rw [← g6] at B6 st6
  have A6 : own_ar Z h6 b6 0 0 := own_ar_new B6
  have gb6 : n0 ≤ b6 := Nat.le_trans Z5 (Nat.le_of_eq g6.symm)
  have Z6 : n0 ≤ h6.size := Nat.le_trans Z5 E6.1
  have ne_b4 : b4 ≠ b6 := Nat.ne_of_lt (Nat.lt_of_lt_of_le Ex5.lt (Nat.le_of_eq g6.symm))
  have F6_b4_line := Fl5.ext E6
  have F6_b4_column := Fc5.ext E6
  have F6_b4_afterCarriageReturn := Fa5.ext E6
  have Ex6_b4 := Ex5.ext E6
  obtain ⟨T7, h7, X7, e7, W7, A7, st7⟩ := own_put0 X6 hx hZ e6 A6 (g := (mkF m 43 #[.val (.int i0), .val (.int i1), .val (.int i2), .val (.int i3), .val (.int i4), .val (.int i5), .val (.int c1), .val (.int c2), .val (.int c3), .val (.ref b4), .unset, .unset, .unset, .unset] [(.int i0), (.int (0 : Int32)), (.ref b6), (.ref b6)])) rfl rfl (hb hby at_43)
  have N7 := Fr.snoc X7 N5 gb6
  have Z7 : n0 ≤ h7.size := by rw [W7.size]; exact Z6
  have F7_b4_line := F6_b4_line.other W7 (Or.inl ne_b4)
  have F7_b4_column := F6_b4_column.other W7 (Or.inl ne_b4)
  have F7_b4_afterCarriageReturn := F6_b4_afterCarriageReturn.other W7 (Or.inl ne_b4)
  have Ex7_b4 := Ex6_b4.wr W7
  obtain ⟨T8, h8, X8, e8, W8, A8, st8⟩ := own_put1 X7 hx hZ e7 A7 (g := (mkF m 47 #[.val (.int i0), .val (.int i1), .val (.int i2), .val (.int i3), .val (.int i4), .val (.int i5), .val (.int c1), .val (.int c2), .val (.int c3), .val (.ref b4), .unset, .unset, .unset, .unset] [(.int i1), (.int (1 : Int32)), (.ref b6), (.ref b6)])) rfl rfl (hb hby at_47)
  have N8 := Fr.snoc X8 N7 gb6
  have Z8 : n0 ≤ h8.size := by rw [W8.size]; exact Z7
  have F8_b4_line := F7_b4_line.other W8 (Or.inl ne_b4)
  have F8_b4_column := F7_b4_column.other W8 (Or.inl ne_b4)
  have F8_b4_afterCarriageReturn := F7_b4_afterCarriageReturn.other W8 (Or.inl ne_b4)
  have Ex8_b4 := Ex7_b4.wr W8
  have FaS : Fld Z h8 b4 "com/example/kingsnake/kingsnake/core/ReadPosition$Counter" "afterCarriageReturn" "Z" (.int (own_nr (0 : Int32))) := by rw [show own_nr (0 : Int32) = 0 from by decide]; exact F8_b4_afterCarriageReturn
  obtain ⟨_, _, ⟨T9, L9, k9, n9⟩, -, X9, ⟨Lc9, hQ9, l9, y9, z9⟩, st9⟩ := Jvm.LawKit.callS X8 hx (y := (⟨"com/example/kingsnake/kingsnake/core/CounterCountPinLaw", "step", "(Lcom/example/kingsnake/kingsnake/core/ReadPosition$Counter;[III)Z"⟩ : MethodName)) hown (mvT hZ (hw _ (List.mem_of_getElem? (i := 18) rfl))) (mvT hZ (hw _ (List.mem_of_getElem? (i := 19) rfl))) (mvT hZ (hw _ (List.mem_of_getElem? (i := 2) rfl))) (mvT hZ (hw _ (List.mem_of_getElem? (i := 20) rfl))) (by decide) (backOf (W := 0) (rm4 l Z a0 hw [] b4 b6 i0 i1 c1 (0 : Int32) h8 n0 Z8 gb4 gb6 ne_b4 Ex8_b4 F8_b4_line F8_b4_column FaS A8) hZ (hw _ (List.mem_of_getElem? (i := 20) rfl)) (hw _ (List.mem_of_getElem? (i := 2) rfl)) (by decide) (by decide)) (g := (mkF m 57 #[.val (.int i0), .val (.int i1), .val (.int i2), .val (.int i3), .val (.int i4), .val (.int i5), .val (.int c1), .val (.int c2), .val (.int c3), .val (.ref b4), .val (.ref b6), .unset, .unset, .unset] [(.int (0 : Int32)), (.int c1), (.ref b6), (.ref b4)])) rfl (by rw [hml]; rfl) (argsL := [(.ref b4), (.ref b6), (.int c1), (.int (0 : Int32))]) (rest := []) (lenOf pd_4 rfl) rfl (by show 2 * 0 + _ ≤ _; exact Nat.le_of_eq rfl) (hb hby at_57) (fun _ _ => ⟨rfl, e8, (by decide : 2 + 0 ≤ _), (by decide : 5 + 0 ≤ _)⟩)
  dsimp only [Pt.U, Pt.locs, Pt.cells, Pt.slots] at X9 l9 y9 z9 st9 hQ9
  subst l9 y9 z9
  obtain ⟨rfl, N9q, Z9, Ex9, Fl9, Fc9, Fa9, A9⟩ := hQ9
  have N9 := Fr.app N8 N9q
  obtain ⟨_, _, ⟨T10, L10, k10, n10⟩, -, X10, ⟨Lc10, hQ10, l10, y10, z10⟩, st10⟩ := Jvm.LawKit.callS X9 hx (y := (⟨"com/example/kingsnake/kingsnake/core/CounterCountPinLaw", "step", "(Lcom/example/kingsnake/kingsnake/core/ReadPosition$Counter;[III)Z"⟩ : MethodName)) hown (mvT hZ (hw _ (List.mem_of_getElem? (i := 18) rfl))) (mvT hZ (hw _ (List.mem_of_getElem? (i := 19) rfl))) (mvT hZ (hw _ (List.mem_of_getElem? (i := 2) rfl))) (mvT hZ (hw _ (List.mem_of_getElem? (i := 20) rfl))) (by decide) (backOf (W := 0) (rm4 l Z a0 hw [] b4 b6 (own_nl i0 c1 (own_nr (0 : Int32))) (own_nc i1 c1 (own_nr (0 : Int32))) c2 c1 T9.heap n0 Z9 gb4 gb6 ne_b4 Ex9 Fl9 Fc9 Fa9 A9) hZ (hw _ (List.mem_of_getElem? (i := 20) rfl)) (hw _ (List.mem_of_getElem? (i := 2) rfl)) (by decide) (by decide)) (g := (mkF m 70 #[.val (.int i0), .val (.int i1), .val (.int i2), .val (.int i3), .val (.int i4), .val (.int i5), .val (.int c1), .val (.int c2), .val (.int c3), .val (.ref b4), .val (.ref b6), .val (.int (1 : Int32)), .unset, .unset] [(.int c1), (.int c2), (.ref b6), (.ref b4)])) rfl (by rw [hml]; rfl) (argsL := [(.ref b4), (.ref b6), (.int c2), (.int c1)]) (rest := []) (lenOf pd_4 rfl) rfl (by show 2 * 0 + _ ≤ _; exact Nat.le_of_eq rfl) (hb hby at_70) (fun _ _ => ⟨rfl, rfl, (by decide : 2 + 0 ≤ _), (by decide : 5 + 0 ≤ _)⟩)
  dsimp only [Pt.U, Pt.locs, Pt.cells, Pt.slots] at X10 l10 y10 z10 st10 hQ10
  subst l10 y10 z10
  obtain ⟨rfl, N10q, Z10, Ex10, Fl10, Fc10, Fa10, A10⟩ := hQ10
  have N10 := Fr.app N9 N10q
  obtain ⟨_, _, ⟨T11, L11, k11, n11⟩, -, X11, ⟨Lc11, hQ11, l11, y11, z11⟩, st11⟩ := Jvm.LawKit.callS X10 hx (y := (⟨"com/example/kingsnake/kingsnake/core/CounterCountPinLaw", "step", "(Lcom/example/kingsnake/kingsnake/core/ReadPosition$Counter;[III)Z"⟩ : MethodName)) hown (mvT hZ (hw _ (List.mem_of_getElem? (i := 18) rfl))) (mvT hZ (hw _ (List.mem_of_getElem? (i := 19) rfl))) (mvT hZ (hw _ (List.mem_of_getElem? (i := 2) rfl))) (mvT hZ (hw _ (List.mem_of_getElem? (i := 20) rfl))) (by decide) (backOf (W := 0) (rm4 l Z a0 hw [] b4 b6 (own_nl (own_nl i0 c1 (own_nr (0 : Int32))) c2 (own_nr c1)) (own_nc (own_nc i1 c1 (own_nr (0 : Int32))) c2 (own_nr c1)) c3 c2 T10.heap n0 Z10 gb4 gb6 ne_b4 Ex10 Fl10 Fc10 Fa10 A10) hZ (hw _ (List.mem_of_getElem? (i := 20) rfl)) (hw _ (List.mem_of_getElem? (i := 2) rfl)) (by decide) (by decide)) (g := (mkF m 83 #[.val (.int i0), .val (.int i1), .val (.int i2), .val (.int i3), .val (.int i4), .val (.int i5), .val (.int c1), .val (.int c2), .val (.int c3), .val (.ref b4), .val (.ref b6), .val (.int (1 : Int32)), .val (.int (1 : Int32)), .unset] [(.int c2), (.int c3), (.ref b6), (.ref b4)])) rfl (by rw [hml]; rfl) (argsL := [(.ref b4), (.ref b6), (.int c3), (.int c2)]) (rest := []) (lenOf pd_4 rfl) rfl (by show 2 * 0 + _ ≤ _; exact Nat.le_of_eq rfl) (hb hby at_83) (fun _ _ => ⟨rfl, rfl, (by decide : 2 + 0 ≤ _), (by decide : 5 + 0 ≤ _)⟩)
  dsimp only [Pt.U, Pt.locs, Pt.cells, Pt.slots] at X11 l11 y11 z11 st11 hQ11
  subst l11 y11 z11
  obtain ⟨rfl, N11q, Z11, Ex11, Fl11, Fc11, Fa11, A11⟩ := hQ11
  have N11 := Fr.app N10 N11q
  obtain ⟨fs, hr, hrun, hended, hW, hsame⟩ := X11.leave (v := some (.int (1 : Int32))) (fun h => by rw [Bd.returns] at h; cases h)
  refine ⟨_, _, pre0 _ ?_, hrun, hended, _, _, rfl, ?_, ⟨_, rfl⟩, hW, hsame.mono (by decide) (by decide)⟩
  · show Steps p.tables e below (s₁.setTop (mkF m 0 #[.val (.int i0), .val (.int i1), .val (.int i2), .val (.int i3), .val (.int i4), .val (.int i5), .unset, .unset, .unset, .unset, .unset, .unset, .unset, .unset] [])) _
    refine XS.iloadN X0.here hx rfl (hb hby at_0) rfl ?_
    show Steps p.tables e below (s₁.setTop (mkF m 1 #[.val (.int i0), .val (.int i1), .val (.int i2), .val (.int i3), .val (.int i4), .val (.int i5), .unset, .unset, .unset, .unset, .unset, .unset, .unset, .unset] [(.int i2)])) _
    refine XS.iconst X0.here hx rfl (hb hby at_1) ?_
    show Steps p.tables e below (s₁.setTop (mkF m 2 #[.val (.int i0), .val (.int i1), .val (.int i2), .val (.int i3), .val (.int i4), .val (.int i5), .unset, .unset, .unset, .unset, .unset, .unset, .unset, .unset] [(.int (0 : Int32)), (.int i2)])) _
    refine XS.iloadN X0.here hx rfl (hb hby at_2) rfl ?_
    refine st1 _ ?_
    show Steps p.tables e below (T1.setTop (mkF m 6 #[.val (.int i0), .val (.int i1), .val (.int i2), .val (.int i3), .val (.int i4), .val (.int i5), .unset, .unset, .unset, .unset, .unset, .unset, .unset, .unset] [(.int c1)])) _
    refine XS.istore X1.here hx rfl (hb hby at_6) rfl (l' := #[.val (.int i0), .val (.int i1), .val (.int i2), .val (.int i3), .val (.int i4), .val (.int i5), .val (.int c1), .unset, .unset, .unset, .unset, .unset, .unset, .unset]) rfl ?_
    show Steps p.tables e below (T1.setTop (mkF m 8 #[.val (.int i0), .val (.int i1), .val (.int i2), .val (.int i3), .val (.int i4), .val (.int i5), .val (.int c1), .unset, .unset, .unset, .unset, .unset, .unset, .unset] [])) _
    refine XS.iloadN X1.here hx rfl (hb hby at_8) rfl ?_
    show Steps p.tables e below (T1.setTop (mkF m 9 #[.val (.int i0), .val (.int i1), .val (.int i2), .val (.int i3), .val (.int i4), .val (.int i5), .val (.int c1), .unset, .unset, .unset, .unset, .unset, .unset, .unset] [(.int i2)])) _
    refine XS.iconst X1.here hx rfl (hb hby at_9) ?_
    show Steps p.tables e below (T1.setTop (mkF m 10 #[.val (.int i0), .val (.int i1), .val (.int i2), .val (.int i3), .val (.int i4), .val (.int i5), .val (.int c1), .unset, .unset, .unset, .unset, .unset, .unset, .unset] [(.int (2 : Int32)), (.int i2)])) _
    refine XS.iload X1.here hx rfl (hb hby at_10) rfl ?_
    refine st2 _ ?_
    show Steps p.tables e below (T2.setTop (mkF m 15 #[.val (.int i0), .val (.int i1), .val (.int i2), .val (.int i3), .val (.int i4), .val (.int i5), .val (.int c1), .unset, .unset, .unset, .unset, .unset, .unset, .unset] [(.int c2)])) _
    refine XS.istore X2.here hx rfl (hb hby at_15) rfl (l' := #[.val (.int i0), .val (.int i1), .val (.int i2), .val (.int i3), .val (.int i4), .val (.int i5), .val (.int c1), .val (.int c2), .unset, .unset, .unset, .unset, .unset, .unset]) rfl ?_
    show Steps p.tables e below (T2.setTop (mkF m 17 #[.val (.int i0), .val (.int i1), .val (.int i2), .val (.int i3), .val (.int i4), .val (.int i5), .val (.int c1), .val (.int c2), .unset, .unset, .unset, .unset, .unset, .unset] [])) _
    refine XS.iloadN X2.here hx rfl (hb hby at_17) rfl ?_
    show Steps p.tables e below (T2.setTop (mkF m 18 #[.val (.int i0), .val (.int i1), .val (.int i2), .val (.int i3), .val (.int i4), .val (.int i5), .val (.int c1), .val (.int c2), .unset, .unset, .unset, .unset, .unset, .unset] [(.int i2)])) _
    refine XS.iconst X2.here hx rfl (hb hby at_18) ?_
    show Steps p.tables e below (T2.setTop (mkF m 19 #[.val (.int i0), .val (.int i1), .val (.int i2), .val (.int i3), .val (.int i4), .val (.int i5), .val (.int c1), .val (.int c2), .unset, .unset, .unset, .unset, .unset, .unset] [(.int (4 : Int32)), (.int i2)])) _
    refine XS.iload X2.here hx rfl (hb hby at_19) rfl ?_
    refine st3 _ ?_
    show Steps p.tables e below (T3.setTop (mkF m 24 #[.val (.int i0), .val (.int i1), .val (.int i2), .val (.int i3), .val (.int i4), .val (.int i5), .val (.int c1), .val (.int c2), .unset, .unset, .unset, .unset, .unset, .unset] [(.int c3)])) _
    refine XS.istore X3.here hx rfl (hb hby at_24) rfl (l' := #[.val (.int i0), .val (.int i1), .val (.int i2), .val (.int i3), .val (.int i4), .val (.int i5), .val (.int c1), .val (.int c2), .val (.int c3), .unset, .unset, .unset, .unset, .unset]) rfl ?_
    refine st4 _ ?_
    show Steps p.tables e below (T4.setTop (mkF m 29 #[.val (.int i0), .val (.int i1), .val (.int i2), .val (.int i3), .val (.int i4), .val (.int i5), .val (.int c1), .val (.int c2), .val (.int c3), .unset, .unset, .unset, .unset, .unset] [(.ref b4)])) _
    refine XS.dup X4.here hx rfl (hb hby at_29) rfl rfl ?_
    show Steps p.tables e below (T4.setTop (mkF m 30 #[.val (.int i0), .val (.int i1), .val (.int i2), .val (.int i3), .val (.int i4), .val (.int i5), .val (.int c1), .val (.int c2), .val (.int c3), .unset, .unset, .unset, .unset, .unset] [(.ref b4), (.ref b4)])) _
    refine XS.iloadN X4.here hx rfl (hb hby at_30) rfl ?_
    show Steps p.tables e below (T4.setTop (mkF m 31 #[.val (.int i0), .val (.int i1), .val (.int i2), .val (.int i3), .val (.int i4), .val (.int i5), .val (.int c1), .val (.int c2), .val (.int c3), .unset, .unset, .unset, .unset, .unset] [(.int i0), (.ref b4), (.ref b4)])) _
    refine XS.iloadN X4.here hx rfl (hb hby at_31) rfl ?_
    refine st5.trans ?_
    show Steps p.tables e below (T5.setTop (mkF m 35 #[.val (.int i0), .val (.int i1), .val (.int i2), .val (.int i3), .val (.int i4), .val (.int i5), .val (.int c1), .val (.int c2), .val (.int c3), .unset, .unset, .unset, .unset, .unset] [(.ref b4)])) _
    refine XS.astore X5.here hx rfl (hb hby at_35) rfl rfl (l' := #[.val (.int i0), .val (.int i1), .val (.int i2), .val (.int i3), .val (.int i4), .val (.int i5), .val (.int c1), .val (.int c2), .val (.int c3), .val (.ref b4), .unset, .unset, .unset, .unset]) rfl ?_
    show Steps p.tables e below (T5.setTop (mkF m 37 #[.val (.int i0), .val (.int i1), .val (.int i2), .val (.int i3), .val (.int i4), .val (.int i5), .val (.int c1), .val (.int c2), .val (.int c3), .val (.ref b4), .unset, .unset, .unset, .unset] [])) _
    refine XS.iconst X5.here hx rfl (hb hby at_37) ?_
    show Steps p.tables e below (T5.setTop (mkF m 38 #[.val (.int i0), .val (.int i1), .val (.int i2), .val (.int i3), .val (.int i4), .val (.int i5), .val (.int c1), .val (.int c2), .val (.int c3), .val (.ref b4), .unset, .unset, .unset, .unset] [(.int (2 : Int32))])) _
    refine st6 _ ?_
    show Steps p.tables e below (T6.setTop (mkF m 40 #[.val (.int i0), .val (.int i1), .val (.int i2), .val (.int i3), .val (.int i4), .val (.int i5), .val (.int c1), .val (.int c2), .val (.int c3), .val (.ref b4), .unset, .unset, .unset, .unset] [(.ref b6)])) _
    refine XS.dup X6.here hx rfl (hb hby at_40) rfl rfl ?_
    show Steps p.tables e below (T6.setTop (mkF m 41 #[.val (.int i0), .val (.int i1), .val (.int i2), .val (.int i3), .val (.int i4), .val (.int i5), .val (.int c1), .val (.int c2), .val (.int c3), .val (.ref b4), .unset, .unset, .unset, .unset] [(.ref b6), (.ref b6)])) _
    refine XS.iconst X6.here hx rfl (hb hby at_41) ?_
    show Steps p.tables e below (T6.setTop (mkF m 42 #[.val (.int i0), .val (.int i1), .val (.int i2), .val (.int i3), .val (.int i4), .val (.int i5), .val (.int c1), .val (.int c2), .val (.int c3), .val (.ref b4), .unset, .unset, .unset, .unset] [(.int (0 : Int32)), (.ref b6), (.ref b6)])) _
    refine XS.iloadN X6.here hx rfl (hb hby at_42) rfl ?_
    show Steps p.tables e below (T6.setTop (mkF m 43 #[.val (.int i0), .val (.int i1), .val (.int i2), .val (.int i3), .val (.int i4), .val (.int i5), .val (.int c1), .val (.int c2), .val (.int c3), .val (.ref b4), .unset, .unset, .unset, .unset] [(.int i0), (.int (0 : Int32)), (.ref b6), (.ref b6)])) _
    refine st7 _ ?_
    show Steps p.tables e below (T7.setTop (mkF m 44 #[.val (.int i0), .val (.int i1), .val (.int i2), .val (.int i3), .val (.int i4), .val (.int i5), .val (.int c1), .val (.int c2), .val (.int c3), .val (.ref b4), .unset, .unset, .unset, .unset] [(.ref b6)])) _
    refine XS.dup X7.here hx rfl (hb hby at_44) rfl rfl ?_
    show Steps p.tables e below (T7.setTop (mkF m 45 #[.val (.int i0), .val (.int i1), .val (.int i2), .val (.int i3), .val (.int i4), .val (.int i5), .val (.int c1), .val (.int c2), .val (.int c3), .val (.ref b4), .unset, .unset, .unset, .unset] [(.ref b6), (.ref b6)])) _
    refine XS.iconst X7.here hx rfl (hb hby at_45) ?_
    show Steps p.tables e below (T7.setTop (mkF m 46 #[.val (.int i0), .val (.int i1), .val (.int i2), .val (.int i3), .val (.int i4), .val (.int i5), .val (.int c1), .val (.int c2), .val (.int c3), .val (.ref b4), .unset, .unset, .unset, .unset] [(.int (1 : Int32)), (.ref b6), (.ref b6)])) _
    refine XS.iloadN X7.here hx rfl (hb hby at_46) rfl ?_
    show Steps p.tables e below (T7.setTop (mkF m 47 #[.val (.int i0), .val (.int i1), .val (.int i2), .val (.int i3), .val (.int i4), .val (.int i5), .val (.int c1), .val (.int c2), .val (.int c3), .val (.ref b4), .unset, .unset, .unset, .unset] [(.int i1), (.int (1 : Int32)), (.ref b6), (.ref b6)])) _
    refine st8 _ ?_
    show Steps p.tables e below (T8.setTop (mkF m 48 #[.val (.int i0), .val (.int i1), .val (.int i2), .val (.int i3), .val (.int i4), .val (.int i5), .val (.int c1), .val (.int c2), .val (.int c3), .val (.ref b4), .unset, .unset, .unset, .unset] [(.ref b6)])) _
    refine XS.astore X8.here hx rfl (hb hby at_48) rfl rfl (l' := #[.val (.int i0), .val (.int i1), .val (.int i2), .val (.int i3), .val (.int i4), .val (.int i5), .val (.int c1), .val (.int c2), .val (.int c3), .val (.ref b4), .val (.ref b6), .unset, .unset, .unset]) rfl ?_
    show Steps p.tables e below (T8.setTop (mkF m 50 #[.val (.int i0), .val (.int i1), .val (.int i2), .val (.int i3), .val (.int i4), .val (.int i5), .val (.int c1), .val (.int c2), .val (.int c3), .val (.ref b4), .val (.ref b6), .unset, .unset, .unset] [])) _
    refine XS.aload X8.here hx rfl (hb hby at_50) rfl rfl ?_
    show Steps p.tables e below (T8.setTop (mkF m 52 #[.val (.int i0), .val (.int i1), .val (.int i2), .val (.int i3), .val (.int i4), .val (.int i5), .val (.int c1), .val (.int c2), .val (.int c3), .val (.ref b4), .val (.ref b6), .unset, .unset, .unset] [(.ref b4)])) _
    refine XS.aload X8.here hx rfl (hb hby at_52) rfl rfl ?_
    show Steps p.tables e below (T8.setTop (mkF m 54 #[.val (.int i0), .val (.int i1), .val (.int i2), .val (.int i3), .val (.int i4), .val (.int i5), .val (.int c1), .val (.int c2), .val (.int c3), .val (.ref b4), .val (.ref b6), .unset, .unset, .unset] [(.ref b6), (.ref b4)])) _
    refine XS.iload X8.here hx rfl (hb hby at_54) rfl ?_
    show Steps p.tables e below (T8.setTop (mkF m 56 #[.val (.int i0), .val (.int i1), .val (.int i2), .val (.int i3), .val (.int i4), .val (.int i5), .val (.int c1), .val (.int c2), .val (.int c3), .val (.ref b4), .val (.ref b6), .unset, .unset, .unset] [(.int c1), (.ref b6), (.ref b4)])) _
    refine XS.iconst X8.here hx rfl (hb hby at_56) ?_
    refine st9 _ ?_
    show Steps p.tables e below (T9.setTop (mkF m 60 #[.val (.int i0), .val (.int i1), .val (.int i2), .val (.int i3), .val (.int i4), .val (.int i5), .val (.int c1), .val (.int c2), .val (.int c3), .val (.ref b4), .val (.ref b6), .unset, .unset, .unset] [(.int (1 : Int32))])) _
    refine XS.istore X9.here hx rfl (hb hby at_60) rfl (l' := #[.val (.int i0), .val (.int i1), .val (.int i2), .val (.int i3), .val (.int i4), .val (.int i5), .val (.int c1), .val (.int c2), .val (.int c3), .val (.ref b4), .val (.ref b6), .val (.int (1 : Int32)), .unset, .unset]) rfl ?_
    show Steps p.tables e below (T9.setTop (mkF m 62 #[.val (.int i0), .val (.int i1), .val (.int i2), .val (.int i3), .val (.int i4), .val (.int i5), .val (.int c1), .val (.int c2), .val (.int c3), .val (.ref b4), .val (.ref b6), .val (.int (1 : Int32)), .unset, .unset] [])) _
    refine XS.aload X9.here hx rfl (hb hby at_62) rfl rfl ?_
    show Steps p.tables e below (T9.setTop (mkF m 64 #[.val (.int i0), .val (.int i1), .val (.int i2), .val (.int i3), .val (.int i4), .val (.int i5), .val (.int c1), .val (.int c2), .val (.int c3), .val (.ref b4), .val (.ref b6), .val (.int (1 : Int32)), .unset, .unset] [(.ref b4)])) _
    refine XS.aload X9.here hx rfl (hb hby at_64) rfl rfl ?_
    show Steps p.tables e below (T9.setTop (mkF m 66 #[.val (.int i0), .val (.int i1), .val (.int i2), .val (.int i3), .val (.int i4), .val (.int i5), .val (.int c1), .val (.int c2), .val (.int c3), .val (.ref b4), .val (.ref b6), .val (.int (1 : Int32)), .unset, .unset] [(.ref b6), (.ref b4)])) _
    refine XS.iload X9.here hx rfl (hb hby at_66) rfl ?_
    show Steps p.tables e below (T9.setTop (mkF m 68 #[.val (.int i0), .val (.int i1), .val (.int i2), .val (.int i3), .val (.int i4), .val (.int i5), .val (.int c1), .val (.int c2), .val (.int c3), .val (.ref b4), .val (.ref b6), .val (.int (1 : Int32)), .unset, .unset] [(.int c2), (.ref b6), (.ref b4)])) _
    refine XS.iload X9.here hx rfl (hb hby at_68) rfl ?_
    refine st10 _ ?_
    show Steps p.tables e below (T10.setTop (mkF m 73 #[.val (.int i0), .val (.int i1), .val (.int i2), .val (.int i3), .val (.int i4), .val (.int i5), .val (.int c1), .val (.int c2), .val (.int c3), .val (.ref b4), .val (.ref b6), .val (.int (1 : Int32)), .unset, .unset] [(.int (1 : Int32))])) _
    refine XS.istore X10.here hx rfl (hb hby at_73) rfl (l' := #[.val (.int i0), .val (.int i1), .val (.int i2), .val (.int i3), .val (.int i4), .val (.int i5), .val (.int c1), .val (.int c2), .val (.int c3), .val (.ref b4), .val (.ref b6), .val (.int (1 : Int32)), .val (.int (1 : Int32)), .unset]) rfl ?_
    show Steps p.tables e below (T10.setTop (mkF m 75 #[.val (.int i0), .val (.int i1), .val (.int i2), .val (.int i3), .val (.int i4), .val (.int i5), .val (.int c1), .val (.int c2), .val (.int c3), .val (.ref b4), .val (.ref b6), .val (.int (1 : Int32)), .val (.int (1 : Int32)), .unset] [])) _
    refine XS.aload X10.here hx rfl (hb hby at_75) rfl rfl ?_
    show Steps p.tables e below (T10.setTop (mkF m 77 #[.val (.int i0), .val (.int i1), .val (.int i2), .val (.int i3), .val (.int i4), .val (.int i5), .val (.int c1), .val (.int c2), .val (.int c3), .val (.ref b4), .val (.ref b6), .val (.int (1 : Int32)), .val (.int (1 : Int32)), .unset] [(.ref b4)])) _
    refine XS.aload X10.here hx rfl (hb hby at_77) rfl rfl ?_
    show Steps p.tables e below (T10.setTop (mkF m 79 #[.val (.int i0), .val (.int i1), .val (.int i2), .val (.int i3), .val (.int i4), .val (.int i5), .val (.int c1), .val (.int c2), .val (.int c3), .val (.ref b4), .val (.ref b6), .val (.int (1 : Int32)), .val (.int (1 : Int32)), .unset] [(.ref b6), (.ref b4)])) _
    refine XS.iload X10.here hx rfl (hb hby at_79) rfl ?_
    show Steps p.tables e below (T10.setTop (mkF m 81 #[.val (.int i0), .val (.int i1), .val (.int i2), .val (.int i3), .val (.int i4), .val (.int i5), .val (.int c1), .val (.int c2), .val (.int c3), .val (.ref b4), .val (.ref b6), .val (.int (1 : Int32)), .val (.int (1 : Int32)), .unset] [(.int c3), (.ref b6), (.ref b4)])) _
    refine XS.iload X10.here hx rfl (hb hby at_81) rfl ?_
    refine st11 _ ?_
    show Steps p.tables e below (T11.setTop (mkF m 86 #[.val (.int i0), .val (.int i1), .val (.int i2), .val (.int i3), .val (.int i4), .val (.int i5), .val (.int c1), .val (.int c2), .val (.int c3), .val (.ref b4), .val (.ref b6), .val (.int (1 : Int32)), .val (.int (1 : Int32)), .unset] [(.int (1 : Int32))])) _
    refine XS.istore X11.here hx rfl (hb hby at_86) rfl (l' := #[.val (.int i0), .val (.int i1), .val (.int i2), .val (.int i3), .val (.int i4), .val (.int i5), .val (.int c1), .val (.int c2), .val (.int c3), .val (.ref b4), .val (.ref b6), .val (.int (1 : Int32)), .val (.int (1 : Int32)), .val (.int (1 : Int32))]) rfl ?_
    show Steps p.tables e below (T11.setTop (mkF m 88 #[.val (.int i0), .val (.int i1), .val (.int i2), .val (.int i3), .val (.int i4), .val (.int i5), .val (.int c1), .val (.int c2), .val (.int c3), .val (.ref b4), .val (.ref b6), .val (.int (1 : Int32)), .val (.int (1 : Int32)), .val (.int (1 : Int32))] [])) _
    refine XS.iload X11.here hx rfl (hb hby at_88) rfl ?_
    show Steps p.tables e below (T11.setTop (mkF m 90 #[.val (.int i0), .val (.int i1), .val (.int i2), .val (.int i3), .val (.int i4), .val (.int i5), .val (.int c1), .val (.int c2), .val (.int c3), .val (.ref b4), .val (.ref b6), .val (.int (1 : Int32)), .val (.int (1 : Int32)), .val (.int (1 : Int32))] [(.int (1 : Int32))])) _
    refine XS.ifNo X11.here hx rfl (hb hby at_90) rfl ((if0 _ _).trans (feq (by decide : ¬ ((1 : Int32) = (0 : Int32)))).1) ?_
    show Steps p.tables e below (T11.setTop (mkF m 93 #[.val (.int i0), .val (.int i1), .val (.int i2), .val (.int i3), .val (.int i4), .val (.int i5), .val (.int c1), .val (.int c2), .val (.int c3), .val (.ref b4), .val (.ref b6), .val (.int (1 : Int32)), .val (.int (1 : Int32)), .val (.int (1 : Int32))] [])) _
    refine XS.iload X11.here hx rfl (hb hby at_93) rfl ?_
    show Steps p.tables e below (T11.setTop (mkF m 95 #[.val (.int i0), .val (.int i1), .val (.int i2), .val (.int i3), .val (.int i4), .val (.int i5), .val (.int c1), .val (.int c2), .val (.int c3), .val (.ref b4), .val (.ref b6), .val (.int (1 : Int32)), .val (.int (1 : Int32)), .val (.int (1 : Int32))] [(.int (1 : Int32))])) _
    refine XS.ifNo X11.here hx rfl (hb hby at_95) rfl ((if0 _ _).trans (feq (by decide : ¬ ((1 : Int32) = (0 : Int32)))).1) ?_
    show Steps p.tables e below (T11.setTop (mkF m 98 #[.val (.int i0), .val (.int i1), .val (.int i2), .val (.int i3), .val (.int i4), .val (.int i5), .val (.int c1), .val (.int c2), .val (.int c3), .val (.ref b4), .val (.ref b6), .val (.int (1 : Int32)), .val (.int (1 : Int32)), .val (.int (1 : Int32))] [])) _
    refine XS.iload X11.here hx rfl (hb hby at_98) rfl ?_
    show Steps p.tables e below (T11.setTop (mkF m 100 #[.val (.int i0), .val (.int i1), .val (.int i2), .val (.int i3), .val (.int i4), .val (.int i5), .val (.int c1), .val (.int c2), .val (.int c3), .val (.ref b4), .val (.ref b6), .val (.int (1 : Int32)), .val (.int (1 : Int32)), .val (.int (1 : Int32))] [(.int (1 : Int32))])) _
    refine XS.ifNo X11.here hx rfl (hb hby at_100) rfl ((if0 _ _).trans (feq (by decide : ¬ ((1 : Int32) = (0 : Int32)))).1) ?_
    show Steps p.tables e below (T11.setTop (mkF m 103 #[.val (.int i0), .val (.int i1), .val (.int i2), .val (.int i3), .val (.int i4), .val (.int i5), .val (.int c1), .val (.int c2), .val (.int c3), .val (.ref b4), .val (.ref b6), .val (.int (1 : Int32)), .val (.int (1 : Int32)), .val (.int (1 : Int32))] [])) _
    refine XS.iconst X11.here hx rfl (hb hby at_103) ?_
    show Steps p.tables e below (T11.setTop (mkF m 104 #[.val (.int i0), .val (.int i1), .val (.int i2), .val (.int i3), .val (.int i4), .val (.int i5), .val (.int c1), .val (.int c2), .val (.int c3), .val (.ref b4), .val (.ref b6), .val (.int (1 : Int32)), .val (.int (1 : Int32)), .val (.int (1 : Int32))] [(.int (1 : Int32))])) _
    refine XS.goto X11.here hx rfl (pc0 := 104) (pc' := 108) rfl (hb hby at_104) (by decide) (by decide) ?_
    show Steps p.tables e below (T11.setTop (mkF m 108 #[.val (.int i0), .val (.int i1), .val (.int i2), .val (.int i3), .val (.int i4), .val (.int i5), .val (.int c1), .val (.int c2), .val (.int c3), .val (.ref b4), .val (.ref b6), .val (.int (1 : Int32)), .val (.int (1 : Int32)), .val (.int (1 : Int32))] [(.int (1 : Int32))])) _
    exact retN X11 hx (t := .boolean) Bd.returns (by simp) (hb hby at_108) hr
  · show Q0 h0 n0 _ T11.heap _
    exact ⟨rfl, N11⟩
set_option maxRecDepth 65536 in
set_option maxHeartbeats 40000000 in
theorem comes_1 {Post : Tables → Env → Array Value → State → Outcome → State → Prop} (hpost : ∀ tb e args s v u, (limb_1_1.after args s (.returned v) u = true ∧ limb_1_2.after args s (.returned v) u = true ∧ True) → FrameEnd s (.returned v) u (Jvm.fieldLocs frame_1_writes args s ++ Jvm.arrayLocs frame_1_arrays args s ++ Jvm.staticLocs frame_1_statics s) 16 128 → Post tb e args s (.returned v) u) :
    ArmFor flags0 classFile x code maxLocals ret World_1 tables_1 room_1 Calls_1 rest_1 Pre_1 Post := by
  intro l hfl _ _ p e ha hc hk s m args below hf hA hF happ hP
  obtain ⟨hcalls, hrest, hpre⟩ := hP
  obtain ⟨-, -, -, hnamed, -, -, -, hat⟩ := (Spec.applies_iff hf).mp happ
  obtain ⟨hg, hn⟩ := and_e (Cond.before_iff.mp (show (Jvm.Cond.and given_1 narrow_1).before args s = true from hpre))
  obtain ⟨hv0, hu0⟩ := and_e hg
  obtain ⟨hv1, hu1⟩ := and_e hu0
  obtain ⟨hv2, hu2⟩ := and_e hu1
  obtain ⟨hv3, hu3⟩ := and_e hu2
  obtain ⟨hv4, hu4⟩ := and_e hu3
  obtain ⟨hv5, hu5⟩ := and_e hu4
  obtain ⟨w0, w1, w2, w3, w4, w5, rfl⟩ : ∃ w0 w1 w2 w3 w4 w5 : Value, args = #[w0, w1, w2, w3, w4, w5] := by
    have hs : args.size = 6 := by simpa [Cond.value, given_1] using hv0
    obtain ⟨L⟩ := args
    match L, hs with
    | [w0, w1, w2, w3, w4, w5], _ => exact ⟨w0, w1, w2, w3, w4, w5, rfl⟩
  have hw := fun d (hd : d ∈ tables_1) => atoms_spec (ws := Jvm.Cond.code x code maxLocals ret :: tables_1) hat d (List.mem_cons_of_mem _ hd)
  obtain ⟨i0, ei0⟩ := is_v hv1
  obtain rfl : w0 = (.int i0) := Option.some.inj ei0
  obtain ⟨i1, ei1⟩ := is_v hv2
  obtain rfl : w1 = (.int i1) := Option.some.inj ei1
  obtain ⟨i2, ei2⟩ := is_v hv3
  obtain rfl : w2 = (.int i2) := Option.some.inj ei2
  obtain ⟨i3, ei3⟩ := is_v hv4
  obtain rfl : w3 = (.int i3) := Option.some.inj ei3
  obtain ⟨i4, ei4⟩ := is_v hv5
  obtain rfl : w4 = (.int i4) := Option.some.inj ei4
  obtain ⟨i5, ei5⟩ := is_v hu5
  obtain rfl : w5 = (.int i5) := Option.some.inj ei5
  obtain ⟨n, o, h1, h2, h3, _, L, rfl, ⟨rfl, N⟩, hq⟩ := rm0 l s _ hw tables_1 i0 i1 i2 i3 i4 i5 s.heap s.heap.size (Nat.le_refl _)  p e ha hc hk s m _ below hf ((Spec.applies_iff_loose hf).mp happ).1 ⟨rfl, State.Warmed39.refl s, rfl⟩ trivial
  refine ⟨n, _, h1, h2, h3, hpost _ _ _ _ _ _ ⟨Cond.after_iff.mpr rfl, Cond.after_iff.mpr (eq_i res_at (Term.int_eval (1)) rfl), trivial⟩ ⟨hq.1, hq.2.1, (hq.2.2.sift fun y hy => Or.inr (N y hy)).mono (by decide) (by decide)⟩⟩
theorem main_1_1 : Claimed_1_1 := comes_1 fun _ _ _ _ _ _ h hF => ⟨h.1, hF⟩
theorem main_1_2 : Claimed_1_2 := comes_1 fun _ _ _ _ _ _ h hF => ⟨h.2.1, hF⟩
end Jvm.Pilot.@@N@@
namespace Jvm.Pilot.@@N@@
open Jvm Jvm.ClassFile Sem Op Lib Jvm.Free Jvm.Stand Jvm.Pilot.@@N@@.Jvm.D
/-! MADE BY PROGRAM (witnessworld.py) out of the Statement's table words and the real class files: 9 classes; the members and pool entries that the words name. The judged class is class 1, her method 1. -/
namespace start1
open Jvm.ClassFile
def u (s : String) : CpInfo := .utf8 (stringToUtf16 s)
/-- a pool by its gaps: so many unusable entries, then the entry; so many at the end -/
def gap : Nat → List CpInfo → List CpInfo
  | 0, r => r
  | n + 1, r => .unusable :: gap n r
def poolList (es : List (Nat × CpInfo)) (last : Nat) : List CpInfo := es.foldr (fun e r => gap e.1 (e.2 :: r)) (gap last [])
def pool (es : List (Nat × CpInfo)) (last : Nat) : Array CpInfo := ⟨poolList es last⟩
def fileOf (pool : Array CpInfo) (this : Nat) (attrs : Array Attribute := #[]) (ms : Array MethodInfo := #[]) (fl : Nat := 33) (sup : Nat := 0) (ifs : Array Nat := #[]) (fds : Array FieldInfo := #[]) : ClassFile where
  minorVersion := 0
  majorVersion := 65
  constantPool := pool
  accessFlags := fl
  thisClass := this
  superClass := sup
  interfaces := ifs
  fields := fds
  methods := ms
  attributes := attrs
def plain (name : String) (sup : Option ClassId) : Class where
  name := name
  kind := .ordinary
  loader := none
  accessFlags := 33
  super := sup
  interfaces := #[]
  cf := none
  fields := #[]
  methods := #[]
  instanceTypes := #[]
  staticTypes := #[]
  resolved := #[]
  callSites := []
  init := .initialized
  statics := none
  mirror := none

def pool0 : Array CpInfo := pool [(5, u "<init>"), (0, u "()V"), (1, .class_ 10), (1, u "java/lang/Object")] 113

def k0c0 : Code := { maxStack := 0, maxLocals := 1, code := object_method_1_code, exceptionTable := #[], attributes := #[] }
def k0m0 : Method := { name := "<init>", desc := "()V", sig := { parameters := [], returnType := none }, accessFlags := 1, code := some k0c0 }
/-- java/lang/Object -/
def k0 : Class := { plain "java/lang/Object" none with
  accessFlags := 33
  interfaces := #[]
  cf := some (fileOf pool0 8 #[] #[{ accessFlags := 1, nameIndex := 5, descriptorIndex := 6, attributes := #[] }] 33 0 #[] #[])
  fields := #[]
  methods := #[k0m0]
  instanceTypes := #[]
  staticTypes := #[]
  resolved := Array.replicate 124 none
  statics := none }

def pool1 : Array CpInfo := pool [(2, .class_ 4), (1, u "java/lang/Object"), (0, u "<init>"), (0, u "()V"), (0, .methodref 8 9), (0, .class_ 10), (0, .nameAndType 11 12), (0, u "com/example/kingsnake/kingsnake/core/CounterCountPinLaw"), (0, u "pick"), (0, u "(III)I"), (0, .class_ 14), (0, u "com/example/kingsnake/kingsnake/core/ReadPosition$Counter"), (0, .methodref 13 16), (0, .nameAndType 5 17), (0, u "(II)V"), (0, .methodref 8 19), (0, .nameAndType 20 21), (0, u "step"), (0, u "(Lcom/example/kingsnake/kingsnake/core/ReadPosition$Counter;[III)Z"), (0, .methodref 13 23), (0, .nameAndType 24 25), (0, u "count"), (0, u "(I)V"), (0, .methodref 13 27), (0, .nameAndType 28 29), (0, u "getLine"), (0, u "()I"), (0, .methodref 13 31), (0, .nameAndType 32 29), (0, u "getColumn"), (2, u "law"), (0, u "(IIIIII)Z")] 9

def k1m0 : Method := { name := "<init>", desc := "()V", sig := { parameters := [], returnType := none }, accessFlags := 1, code := none }
def k1c1 : Code := { maxStack := 4, maxLocals := 14, code := code, exceptionTable := #[], attributes := #[] }
def k1m1 : Method := { name := "law", desc := "(IIIIII)Z", sig := { parameters := [.int, .int, .int, .int, .int, .int], returnType := some .boolean }, accessFlags := 9, code := some k1c1 }
def k1c2 : Code := { maxStack := 2, maxLocals := 4, code := method_3_code, exceptionTable := #[], attributes := #[] }
def k1m2 : Method := { name := "pick", desc := "(III)I", sig := { parameters := [.int, .int, .int], returnType := some .int }, accessFlags := 10, code := some k1c2 }
def k1c3 : Code := { maxStack := 4, maxLocals := 6, code := method_4_code, exceptionTable := #[], attributes := #[] }
def k1m3 : Method := { name := "step", desc := "(Lcom/example/kingsnake/kingsnake/core/ReadPosition$Counter;[III)Z", sig := { parameters := [(.object "com/example/kingsnake/kingsnake/core/ReadPosition$Counter"), (.array .int), .int, .int], returnType := some .boolean }, accessFlags := 10, code := some k1c3 }
/-- com/example/kingsnake/kingsnake/core/CounterCountPinLaw -/
def k1 : Class := { plain "com/example/kingsnake/kingsnake/core/CounterCountPinLaw" (some 0) with
  accessFlags := 49
  interfaces := #[]
  cf := some (fileOf pool1 8 #[] #[{ accessFlags := 1, nameIndex := 5, descriptorIndex := 6, attributes := #[] }, { accessFlags := 9, nameIndex := 35, descriptorIndex := 36, attributes := #[] }, { accessFlags := 10, nameIndex := 11, descriptorIndex := 12, attributes := #[] }, { accessFlags := 10, nameIndex := 20, descriptorIndex := 21, attributes := #[] }] 49 2 #[] #[])
  fields := #[]
  methods := #[k1m0, k1m1, k1m2, k1m3]
  instanceTypes := #[]
  staticTypes := #[]
  resolved := Array.replicate 46 none
  statics := none }

def pool2 : Array CpInfo := pool [(1, .methodref 2 3), (0, .class_ 4), (0, .nameAndType 5 6), (0, u "java/lang/Object"), (0, u "<init>"), (0, u "()V"), (0, .fieldref 8 9), (0, .class_ 10), (0, .nameAndType 11 12), (0, u "com/example/kingsnake/kingsnake/core/ReadPosition$Counter"), (0, u "line"), (0, u "I"), (0, .fieldref 8 14), (0, .nameAndType 15 12), (0, u "column"), (0, .fieldref 8 17), (0, .nameAndType 18 19), (0, u "afterCarriageReturn"), (0, u "Z"), (0, u "(II)V"), (2, u "getLine"), (0, u "()I"), (0, u "getColumn"), (0, u "count"), (0, u "(I)V"), (6, .class_ 35), (0, u "com/example/kingsnake/kingsnake/core/ReadPosition")] 2

def k2c0 : Code := { maxStack := 2, maxLocals := 3, code := prog_22_method_1_code, exceptionTable := #[], attributes := #[] }
def k2m0 : Method := { name := "<init>", desc := "(II)V", sig := { parameters := [.int, .int], returnType := none }, accessFlags := 0, code := some k2c0 }
def k2c1 : Code := { maxStack := 1, maxLocals := 1, code := prog_22_method_2_code, exceptionTable := #[], attributes := #[] }
def k2m1 : Method := { name := "getLine", desc := "()I", sig := { parameters := [], returnType := some .int }, accessFlags := 0, code := some k2c1 }
def k2c2 : Code := { maxStack := 1, maxLocals := 1, code := prog_22_method_3_code, exceptionTable := #[], attributes := #[] }
def k2m2 : Method := { name := "getColumn", desc := "()I", sig := { parameters := [], returnType := some .int }, accessFlags := 0, code := some k2c2 }
def k2c3 : Code := { maxStack := 3, maxLocals := 2, code := prog_22_method_4_code, exceptionTable := #[], attributes := #[] }
def k2m3 : Method := { name := "count", desc := "(I)V", sig := { parameters := [.int], returnType := none }, accessFlags := 0, code := some k2c3 }
/-- com/example/kingsnake/kingsnake/core/ReadPosition$Counter -/
def k2 : Class := { plain "com/example/kingsnake/kingsnake/core/ReadPosition$Counter" (some 0) with
  accessFlags := 32
  interfaces := #[]
  cf := some (fileOf pool2 8 #[.nestHost 34] #[{ accessFlags := 0, nameIndex := 5, descriptorIndex := 20, attributes := #[] }, { accessFlags := 0, nameIndex := 23, descriptorIndex := 24, attributes := #[] }, { accessFlags := 0, nameIndex := 25, descriptorIndex := 24, attributes := #[] }, { accessFlags := 0, nameIndex := 26, descriptorIndex := 27, attributes := #[] }] 32 2 #[] #[{ accessFlags := 2, nameIndex := 11, descriptorIndex := 12, attributes := #[] }, { accessFlags := 2, nameIndex := 15, descriptorIndex := 12, attributes := #[] }, { accessFlags := 2, nameIndex := 18, descriptorIndex := 19, attributes := #[] }])
  fields := #[{ name := "line", type := .int, accessFlags := 2, slot := 0, constantValue := 0 }, { name := "column", type := .int, accessFlags := 2, slot := 1, constantValue := 0 }, { name := "afterCarriageReturn", type := .boolean, accessFlags := 2, slot := 2, constantValue := 0 }]
  methods := #[k2m0, k2m1, k2m2, k2m3]
  instanceTypes := #[.int, .int, .boolean]
  staticTypes := #[]
  resolved := Array.replicate 38 none
  statics := none }

def pool3 : Array CpInfo := pool [(1, u "java/lang/Cloneable"), (0, .class_ 1), (0, u "java/lang/Object"), (0, .class_ 3)] 3

/-- java/lang/Cloneable -/
def k3 : Class := { plain "java/lang/Cloneable" (some 0) with
  accessFlags := 1537
  interfaces := #[]
  cf := some (fileOf pool3 2 #[] #[] 1537 4 #[] #[])
  fields := #[]
  methods := #[]
  instanceTypes := #[]
  staticTypes := #[]
  resolved := Array.replicate 8 none
  statics := none }

def pool4 : Array CpInfo := pool [(1, u "java/io/Serializable"), (0, .class_ 1), (0, u "java/lang/Object"), (0, .class_ 3)] 3

/-- java/io/Serializable -/
def k4 : Class := { plain "java/io/Serializable" (some 0) with
  accessFlags := 1537
  interfaces := #[]
  cf := some (fileOf pool4 2 #[] #[] 1537 4 #[] #[])
  fields := #[]
  methods := #[]
  instanceTypes := #[]
  staticTypes := #[]
  resolved := Array.replicate 8 none
  statics := none }

/-- the primitive byte -/
def k5 : Class := { plain "byte" none with kind := .primitive 'B', accessFlags := 0x411 }
/-- [B -/
def k6 : Class := { plain "[B" (some 0) with kind := .array 5 .byte, interfaces := #[3, 4], accessFlags := 1041 }

/-- the primitive int -/
def k7 : Class := { plain "int" none with kind := .primitive 'I', accessFlags := 0x411 }
/-- [I -/
def k8 : Class := { plain "[I" (some 0) with kind := .array 7 .int, interfaces := #[3, 4], accessFlags := 1041 }

def heap : Heap := #[]
def classes : Array Class := #[k0, k1, k2, k3, k4, k5, k6, k7, k8]
def interned : List (Array UInt16 × Addr) := []
def slotsUsed : Nat := 0
def theMethod : MethodId := ⟨1, 1⟩
def args0 : Array Value := #[.int 1, .int 1, .int 10, .int 10, .int 13, .int 7]
def aboutOver (below : List Frame) : State where
  vm := { classes := classes, interned := interned.toArray }
  heap := heap
  slotsUsed := slotsUsed
  threads := #[{ frames := .invoking theMethod args0 :: below }]
def below0 : List Frame := [.native { method := ⟨0, 0⟩, args := #[] }]
def about1 : State := aboutOver below0
def p0 : Program := .bare "" "" ""
def e0 : Env := launch0.env 0 0 0
theorem w_frames : about1.frames = Frame.invoking theMethod args0 :: below0 := rfl
set_option maxRecDepth 65536 in
theorem w_args : argsFit about1.vm theMethod args0 = true := by decide +kernel
set_option maxRecDepth 65536 in
theorem w_heap : heapFits about1 = true := by decide +kernel
set_option maxRecDepth 65536 in
theorem w_runnable : about1.curStatus? = some .runnable := by decide +kernel
set_option maxRecDepth 65536 in
theorem w_alone : about1.alone = true := by decide +kernel
set_option maxRecDepth 65536 in
theorem w_named : about1.methodNamed? x = some theMethod := by decide +kernel
set_option maxRecDepth 65536 in
theorem w_hears : about1.hears theMethod below0 = true := by decide +kernel
set_option maxRecDepth 65536 in
theorem w_ripe : about1.ripe theMethod args0 below0 = true := by decide +kernel
theorem w_running : about1.status = .running := rfl
set_option maxRecDepth 65536 in
theorem w_room : about1.hasRoom e0.platform room_1 = true :=
  launch0.hasRoom_least _ room_1 (by decide +kernel) (by decide +kernel) (by decide +kernel) (by decide +kernel) (by decide +kernel) (by decide +kernel)
theorem allAtoms_all (ts : List Jvm.Cond) (a : Array Jvm.Value) (st : Jvm.State) : (allAtoms ts).before a st = ts.all (fun c => c.before a st) := by
  induction ts with
  | nil => rfl
  | cons c t ih =>
    show (Jvm.Cond.and c (allAtoms t)).before a st = _
    rw [Jvm.Cond.before_and, ih, List.all_cons]
def words1 : List Jvm.Cond := Jvm.Cond.code x code maxLocals ret :: tables_1
/-- a 'code' word, met by the world's own term for the bytes: nothing is compared byte by byte -/
theorem code_word {y : MethodName} {bytes : ByteArray} {mx : Nat} {rt : Option FieldType} {a : Array Value} {s : State} {m : MethodId} {meth : Method} {c : Code} (h1 : s.methodNamed? y = some m) (h2 : s.vm.method? m = some meth) (h3 : meth.code = some c) (h4 : c.code = bytes)
    (h5 : (c.maxLocals == mx && c.exceptionTable.isEmpty && decide (c.maxStack ≤ mostOperands) && decide (meth.sig.returnType = rt) && !meth.locks && decide (parseMethodDescriptor y.desc = some meth.sig)) = true) : (Jvm.Cond.code y bytes mx rt).before a s = true := by
  simp only [Bool.and_eq_true, beq_iff_eq, Bool.not_eq_true', decide_eq_true_eq] at h5
  obtain ⟨⟨⟨⟨⟨g1, g2⟩, g3⟩, g4⟩, g5⟩, g6⟩ := h5
  simp [Cond.before, Cond.holds, Cond.value, h1, h2, h3, h4, g1, g2, g3, g4, g5, g6]
def isCode : Jvm.Cond → Bool
  | .code _ _ _ _ => true
  | _ => false
theorem all_split {L : List Jvm.Cond} {P : Jvm.Cond → Bool} (h1 : L.all (fun c => isCode c || P c) = true) (h2 : ∀ c ∈ L.filter isCode, P c = true) : L.all P = true := by
  refine List.all_eq_true.mpr fun c hc => ?_
  have h := List.all_eq_true.mp h1 c hc
  rcases Bool.eq_false_or_eq_true (isCode c) with hi | hi
  · exact h2 c (List.mem_filter.mpr ⟨hc, hi⟩)
  · simpa [hi] using h
set_option maxRecDepth 65536 in
theorem w_c0 : (Jvm.Cond.code x code maxLocals ret).before args0 about1 = true := code_word (m := ⟨1, 1⟩) (meth := k1m1) (c := k1c1) (by decide +kernel) rfl rfl rfl (by decide +kernel)
set_option maxRecDepth 65536 in
theorem w_c1 : (Jvm.Cond.code ({ cls := "com/example/kingsnake/kingsnake/core/CounterCountPinLaw", name := "pick", desc := "(III)I" } : Jvm.MethodName) method_3_code (4 : Nat) (Option.some Jvm.ClassFile.FieldType.int)).before args0 about1 = true := code_word (m := ⟨1, 2⟩) (meth := k1m2) (c := k1c2) (by decide +kernel) rfl rfl rfl (by decide +kernel)
set_option maxRecDepth 65536 in
theorem w_c2 : (Jvm.Cond.code ({ cls := "com/example/kingsnake/kingsnake/core/ReadPosition$Counter", name := "<init>", desc := "(II)V" } : Jvm.MethodName) prog_22_method_1_code (3 : Nat) (Option.none : Option Jvm.ClassFile.FieldType)).before args0 about1 = true := code_word (m := ⟨2, 0⟩) (meth := k2m0) (c := k2c0) (by decide +kernel) rfl rfl rfl (by decide +kernel)
set_option maxRecDepth 65536 in
theorem w_c3 : (Jvm.Cond.code ({ cls := "java/lang/Object", name := "<init>", desc := "()V" } : Jvm.MethodName) object_method_1_code (1 : Nat) (Option.none : Option Jvm.ClassFile.FieldType)).before args0 about1 = true := code_word (m := ⟨0, 0⟩) (meth := k0m0) (c := k0c0) (by decide +kernel) rfl rfl rfl (by decide +kernel)
set_option maxRecDepth 65536 in
theorem w_c4 : (Jvm.Cond.code ({ cls := "com/example/kingsnake/kingsnake/core/CounterCountPinLaw", name := "step", desc := "(Lcom/example/kingsnake/kingsnake/core/ReadPosition$Counter;[III)Z" } : Jvm.MethodName) method_4_code (6 : Nat) (Option.some Jvm.ClassFile.FieldType.boolean)).before args0 about1 = true := code_word (m := ⟨1, 3⟩) (meth := k1m3) (c := k1c3) (by decide +kernel) rfl rfl rfl (by decide +kernel)
set_option maxRecDepth 65536 in
theorem w_c5 : (Jvm.Cond.code ({ cls := "com/example/kingsnake/kingsnake/core/ReadPosition$Counter", name := "count", desc := "(I)V" } : Jvm.MethodName) prog_22_method_4_code (2 : Nat) (Option.none : Option Jvm.ClassFile.FieldType)).before args0 about1 = true := code_word (m := ⟨2, 3⟩) (meth := k2m3) (c := k2c3) (by decide +kernel) rfl rfl rfl (by decide +kernel)
set_option maxRecDepth 65536 in
theorem w_c6 : (Jvm.Cond.code ({ cls := "com/example/kingsnake/kingsnake/core/ReadPosition$Counter", name := "getLine", desc := "()I" } : Jvm.MethodName) prog_22_method_2_code (1 : Nat) (Option.some Jvm.ClassFile.FieldType.int)).before args0 about1 = true := code_word (m := ⟨2, 1⟩) (meth := k2m1) (c := k2c1) (by decide +kernel) rfl rfl rfl (by decide +kernel)
set_option maxRecDepth 65536 in
theorem w_c7 : (Jvm.Cond.code ({ cls := "com/example/kingsnake/kingsnake/core/ReadPosition$Counter", name := "getColumn", desc := "()I" } : Jvm.MethodName) prog_22_method_3_code (1 : Nat) (Option.some Jvm.ClassFile.FieldType.int)).before args0 about1 = true := code_word (m := ⟨2, 2⟩) (meth := k2m2) (c := k2c2) (by decide +kernel) rfl rfl rfl (by decide +kernel)
def codes1 : List Jvm.Cond := [Jvm.Cond.code x code maxLocals ret, Jvm.Cond.code ({ cls := "com/example/kingsnake/kingsnake/core/CounterCountPinLaw", name := "pick", desc := "(III)I" } : Jvm.MethodName) method_3_code (4 : Nat) (Option.some Jvm.ClassFile.FieldType.int), Jvm.Cond.code ({ cls := "com/example/kingsnake/kingsnake/core/ReadPosition$Counter", name := "<init>", desc := "(II)V" } : Jvm.MethodName) prog_22_method_1_code (3 : Nat) (Option.none : Option Jvm.ClassFile.FieldType), Jvm.Cond.code ({ cls := "java/lang/Object", name := "<init>", desc := "()V" } : Jvm.MethodName) object_method_1_code (1 : Nat) (Option.none : Option Jvm.ClassFile.FieldType), Jvm.Cond.code ({ cls := "com/example/kingsnake/kingsnake/core/CounterCountPinLaw", name := "step", desc := "(Lcom/example/kingsnake/kingsnake/core/ReadPosition$Counter;[III)Z" } : Jvm.MethodName) method_4_code (6 : Nat) (Option.some Jvm.ClassFile.FieldType.boolean), Jvm.Cond.code ({ cls := "com/example/kingsnake/kingsnake/core/ReadPosition$Counter", name := "count", desc := "(I)V" } : Jvm.MethodName) prog_22_method_4_code (2 : Nat) (Option.none : Option Jvm.ClassFile.FieldType), Jvm.Cond.code ({ cls := "com/example/kingsnake/kingsnake/core/ReadPosition$Counter", name := "getLine", desc := "()I" } : Jvm.MethodName) prog_22_method_2_code (1 : Nat) (Option.some Jvm.ClassFile.FieldType.int), Jvm.Cond.code ({ cls := "com/example/kingsnake/kingsnake/core/ReadPosition$Counter", name := "getColumn", desc := "()I" } : Jvm.MethodName) prog_22_method_3_code (1 : Nat) (Option.some Jvm.ClassFile.FieldType.int)]
set_option maxRecDepth 65536 in
theorem codes_eq : words1.filter isCode = codes1 := rfl
theorem w_codes : ∀ c ∈ words1.filter isCode, c.before args0 about1 = true := by
  rw [codes_eq]
  intro c hc
  simp only [codes1, List.mem_cons, List.not_mem_nil, or_false] at hc
  rcases hc with rfl | rfl | rfl | rfl | rfl | rfl | rfl | rfl
  · exact w_c0
  · exact w_c1
  · exact w_c2
  · exact w_c3
  · exact w_c4
  · exact w_c5
  · exact w_c6
  · exact w_c7
set_option maxRecDepth 65536 in
theorem w_t1 : (words1.take 24).all (fun c => isCode c || c.before args0 about1) = true := by decide +kernel
set_option maxRecDepth 65536 in
theorem w_t2 : (words1.drop 24).all (fun c => isCode c || c.before args0 about1) = true := by decide +kernel
theorem w_tables : (allAtoms (Jvm.Cond.code x code maxLocals ret :: tables_1)).before args0 about1 = true := by
  rw [allAtoms_all]
  show words1.all (fun c => c.before args0 about1) = true
  refine all_split ?_ w_codes
  rw [← List.take_append_drop 24 words1, List.all_append, w_t1, w_t2]
  rfl
set_option maxRecDepth 65536 in
theorem w_case : (Jvm.Cond.and given_1 narrow_1).before args0 about1 = true := by decide +kernel
theorem w_applies : (headSpec (Jvm.Cond.code x code maxLocals ret :: tables_1) room_1).applies x e0.platform about1 = true :=
  (Spec.applies_iff w_frames).mpr ⟨w_running, w_runnable, w_alone, w_named, w_hears, w_ripe, w_room, w_tables⟩
theorem atStart : AtStart classFile x code maxLocals ret World_1 tables_1 room_1 Calls_1 rest_1 Pre_1 launch0 p0 e0 about1 theMethod args0 below0 :=
  ⟨lists_1, trivial, launch0.admits_env _ _ _, launch0.least_env, fairChoices_fair.cas, fairChoices_fair.clock, w_frames, w_args, w_heap, w_applies, trivial, trivial, w_case⟩
end start1
theorem witness_1 : WitnessClaimed_1 := ⟨start1.p0, start1.e0, start1.about1, start1.theMethod, start1.args0, start1.below0, start1.atStart⟩
end Jvm.Pilot.@@N@@
