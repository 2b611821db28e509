import JvmDerived
import JvmDerived.Pilot.@@N@@Statement
import JvmDerived.Pilot.@@N@@Code
set_option linter.unusedVariables false
set_option linter.unusedSimpArgs false
namespace Jvm.RoadKit
open Sem ClassFile Op Lib Jvm.Stand Jvm.Free Jvm.LawKit
section New
variable {p : Program} {l : Launch} {e : Env} {R : Room} {s : State} {m : MethodId} {args : Array Value} {below : List Frame} {meth : Method} {c : Code} {T : State} {locs : List Loc} {cells slots : Nat}
theorem retI (X : Stand p l e R s m args below meth c T locs cells slots) (hx : p.tables.exec = Jvm.exec) {pc : Nat} {Ls : Array Slot} {z : Int32} {rest : List Value} (hret : meth.sig.returnType = some .int) (hd : decode c.code pc = .ok (.ireturn, 1)) {fs : List Frame}
    (hl : ∀ (f : JFrame) (acts : List Action), f.method = m → f.locked = none → f.entered = [] → (doReturn e (T.setTop f) acts (some (.int z))).1 = T.setFrames fs) : Steps p.tables e below (T.setTop (mkF m pc Ls (.int z :: rest))) (T.setFrames fs) := by
  have hm' : T.vm.method? m = some meth := X.method'
  have hn : narrow .int (.int z) = .int z := rfl
  show Steps p.tables e below (T.setTop { method := m, pc := pc, locals := Ls, stack := _ :: rest, locked := none }) _
  jvm_step X.here [X.here.top, hx, hd, hm', hret, hn]
  first | (intro acts; rw [hl _ acts rfl rfl rfl]) | rw [hl _ _ rfl rfl rfl]
  exact Steps.refl _
end New
end Jvm.RoadKit
namespace Jvm.Pilot.@@N@@
open Jvm Jvm.ClassFile Sem Op Lib Jvm.Free Jvm.Stand Jvm.LawKit Jvm.RoadKit Bundle Jvm.Pilot.@@N@@.Jvm.D
theorem own_lt_t {x y : Int64} (h : x < y) : ifCond.holds .lt (lcmpW x y) = true ∧ ifCond.holds .ge (lcmpW x y) = false := by
  rw [if0, if0]; exact ⟨(tlt ((lw_lt x y).mpr h)).1, (tlt ((lw_lt x y).mpr h)).2.1⟩
theorem own_lt_f {x y : Int64} (h : ¬ x < y) : ifCond.holds .lt (lcmpW x y) = false ∧ ifCond.holds .ge (lcmpW x y) = true := by
  have h2 : ¬ lcmpW x y < 0 := fun q => h ((lw_lt x y).mp q)
  rw [if0, if0]; exact ⟨(flt h2).1, (flt h2).2.1⟩
theorem own_gt_t {x y : Int64} (h : y < x) : ifCond.holds .gt (lcmpW x y) = true ∧ ifCond.holds .le (lcmpW x y) = false := by
  have h2 : 0 < lcmpW x y := (lw_gt x y).mpr h
  rw [if0, if0]; exact ⟨(tlt h2).2.2.1, (tlt h2).2.2.2⟩
theorem own_gt_f {x y : Int64} (h : ¬ y < x) : ifCond.holds .gt (lcmpW x y) = false ∧ ifCond.holds .le (lcmpW x y) = true := by
  have h2 : ¬ 0 < lcmpW x y := fun q => h ((lw_gt x y).mp q)
  rw [if0, if0]; exact ⟨(flt h2).2.2.1, (flt h2).2.2.2⟩
theorem own_eq_t {x y : Int64} (h : x = y) : ifCond.holds .eq (lcmpW x y) = true ∧ ifCond.holds .ne (lcmpW x y) = false := by
  have h2 : lcmpW x y = 0 := (lw_eq x y).mpr h
  rw [if0, if0]; exact ⟨(teq h2).1, (teq h2).2⟩
theorem own_eq_f {x y : Int64} (h : ¬ x = y) : ifCond.holds .eq (lcmpW x y) = false ∧ ifCond.holds .ne (lcmpW x y) = true := by
  have h2 : ¬ lcmpW x y = 0 := fun q => h ((lw_eq x y).mp q)
  rw [if0, if0]; exact ⟨(feq h2).1, (feq h2).2⟩
def own_ia (Z : State) (h : Heap) (a : Addr) (N : Int32) : Prop := ∃ cl : Cell, Arr Z h a cl .int ∧ cl.slots.size = N.toNatClampNeg ∧ ∀ j, j < cl.slots.size → ∃ w : Int32, cl.slots[j]? = some (.int w)
theorem own_ia_new {Z : State} {h : Heap} {a : Addr} {k : ClassId} {N : Int32} (A : Arr Z h a (newA k .int N) .int) : own_ia Z h a N := by
  have hs : (newA k .int N).slots.size = N.toNatClampNeg := Array.size_replicate
  refine ⟨_, A, hs, fun j hj => ⟨0, ?_⟩⟩
  rw [hs] at hj
  show (Array.replicate N.toNatClampNeg (defaultValue .int))[j]? = some (.int 0)
  rw [Array.getElem?_replicate, if_pos hj]; rfl
theorem own_ia_wr {Z : State} {h h' : Heap} {a : Addr} {N x : Int32} {j : Nat} (W : Wr h h' a j (.int x)) (I : own_ia Z h a N) : own_ia Z h' a N := by
  obtain ⟨cl, A, S, H⟩ := I
  refine ⟨cl.setSlot j (.int x), A.same W, by rw [sz_set]; exact S, fun i hi => ?_⟩
  rw [sz_set] at hi
  show ∃ w : Int32, (cl.slots.setIfInBounds j (.int x))[i]? = some (.int w)
  rw [Array.getElem?_setIfInBounds]
  by_cases q : j = i
  · rw [if_pos q, if_pos (by omega)]; exact ⟨x, rfl⟩
  · rw [if_neg q]; exact H i hi
theorem own_fill {p : Program} {l : Launch} {e : Env} {R : Room} {s : State} {m : MethodId} {args : Array Value} {below : List Frame} {meth : Method} {c : Code} {T : State} {locs : List Loc} {cells slots : Nat} {Z : State} {h : Heap} (X : Stand p l e R s m args below meth c T locs cells slots) (hx : p.tables.exec = Jvm.exec) (hZ : Z.Warmed39 s.vm) (eT : T.heap = h) {a : Addr} {N : Int32} (I : own_ia Z h a N) {n0 : Nat} (Nf : Fr n0 locs) (ga : n0 ≤ a) (Zs : n0 ≤ h.size) (j x : Int32) (hj : ¬ j < 0 ∧ j < N) {g : JFrame} (hg : g.method = m) {rest : List Value} (hs : g.stack = .int x :: .int j :: .ref a :: rest) (hd : decode c.code g.pc = .ok (.iastore, 1)) :
    ∃ (T' : State) (h' : Heap) (locs' : List Loc), Stand p l e R s m args below meth c T' locs' cells slots ∧ T'.heap = h' ∧ own_ia Z h' a N ∧ Fr n0 locs' ∧ n0 ≤ h'.size ∧ ∀ target, Steps p.tables e below (T'.setTop { g with pc := g.pc + 1, stack := rest }) target → Steps p.tables e below (T.setTop g) target := by
  have I' := I
  obtain ⟨cl, A, S, H⟩ := I
  obtain ⟨T', h', X', e', W, st⟩ := stI X hx hZ eT A (inb_of S hj) hg hs hd
  exact ⟨T', h', _, X', e', own_ia_wr W I', Fr.snoc X' Nf ga, by rw [W.size]; exact Zs, st⟩
theorem own_lt_iff {a b : Int32} {A B : Int} (ha : a.toInt = A) (hb : b.toInt = B) : a < b ↔ A < B := by rw [Int32.lt_iff_toInt_lt, ha, hb]
theorem own_eq_iff {a b : Int32} {A B : Int} (ha : a.toInt = A) (hb : b.toInt = B) : a = b ↔ A = B := by rw [← Int32.toInt_inj, ha, hb]
theorem own_k65536 : (65536 : Int32).toInt = 65536 := by decide
theorem own_k983039 : (983039 : Int32).toInt = 983039 := by decide
theorem own_k65008 : (65008 : Int32).toInt = 65008 := by decide
theorem own_k65533 : (65533 : Int32).toInt = 65533 := by decide
theorem own_k63744 : (63744 : Int32).toInt = 63744 := by decide
theorem own_k64975 : (64975 : Int32).toInt = 64975 := by decide
theorem own_k12289 : (12289 : Int32).toInt = 12289 := by decide
theorem own_k55295 : (55295 : Int32).toInt = 55295 := by decide
theorem own_k11264 : (11264 : Int32).toInt = 11264 := by decide
theorem own_k12271 : (12271 : Int32).toInt = 12271 := by decide
theorem own_k8304 : (8304 : Int32).toInt = 8304 := by decide
theorem own_k8591 : (8591 : Int32).toInt = 8591 := by decide
theorem own_k8204 : (8204 : Int32).toInt = 8204 := by decide
theorem own_k8205 : (8205 : Int32).toInt = 8205 := by decide
theorem own_k895 : (895 : Int32).toInt = 895 := by decide
theorem own_k8191 : (8191 : Int32).toInt = 8191 := by decide
theorem own_k880 : (880 : Int32).toInt = 880 := by decide
theorem own_k893 : (893 : Int32).toInt = 893 := by decide
theorem own_k248 : (248 : Int32).toInt = 248 := by decide
theorem own_k767 : (767 : Int32).toInt = 767 := by decide
theorem own_k216 : (216 : Int32).toInt = 216 := by decide
theorem own_k246 : (246 : Int32).toInt = 246 := by decide
theorem own_k192 : (192 : Int32).toInt = 192 := by decide
theorem own_k214 : (214 : Int32).toInt = 214 := by decide
theorem own_k95 : (95 : Int32).toInt = 95 := by decide
theorem own_k65 : (65 : Int32).toInt = 65 := by decide
theorem own_k90 : (90 : Int32).toInt = 90 := by decide
theorem own_k97 : (97 : Int32).toInt = 97 := by decide
theorem own_k122 : (122 : Int32).toInt = 122 := by decide
theorem own_k91 : (91 : Int32).toInt = 91 := by decide
theorem own_k96 : (96 : Int32).toInt = 96 := by decide
theorem own_k123 : (123 : Int32).toInt = 123 := by decide
theorem own_k215 : (215 : Int32).toInt = 215 := by decide
theorem own_k247 : (247 : Int32).toInt = 247 := by decide
theorem own_k768 : (768 : Int32).toInt = 768 := by decide
theorem own_k894 : (894 : Int32).toInt = 894 := by decide
theorem own_k8192 : (8192 : Int32).toInt = 8192 := by decide
theorem own_k8206 : (8206 : Int32).toInt = 8206 := by decide
theorem own_k8592 : (8592 : Int32).toInt = 8592 := by decide
theorem own_k12272 : (12272 : Int32).toInt = 12272 := by decide
theorem own_k55296 : (55296 : Int32).toInt = 55296 := by decide
theorem own_k64976 : (64976 : Int32).toInt = 64976 := by decide
theorem own_k65534 : (65534 : Int32).toInt = 65534 := by decide
theorem own_k983040 : (983040 : Int32).toInt = 983040 := by decide
theorem d1_0 : decode method_2_code 0 = .ok (.bipush 30, 2) := by decide +kernel
theorem d1_2 : decode method_2_code 2 = .ok (.newarray .int, 2) := by decide +kernel
theorem d1_4 : decode method_2_code 4 = .ok (.dup, 1) := by decide +kernel
theorem d1_5 : decode method_2_code 5 = .ok (.iconst 0, 1) := by decide +kernel
theorem d1_6 : decode method_2_code 6 = .ok (.bipush 65, 2) := by decide +kernel
theorem d1_8 : decode method_2_code 8 = .ok (.iastore, 1) := by decide +kernel
theorem d1_9 : decode method_2_code 9 = .ok (.dup, 1) := by decide +kernel
theorem d1_10 : decode method_2_code 10 = .ok (.iconst 1, 1) := by decide +kernel
theorem d1_11 : decode method_2_code 11 = .ok (.bipush 91, 2) := by decide +kernel
theorem d1_13 : decode method_2_code 13 = .ok (.iastore, 1) := by decide +kernel
theorem d1_14 : decode method_2_code 14 = .ok (.dup, 1) := by decide +kernel
theorem d1_15 : decode method_2_code 15 = .ok (.iconst 2, 1) := by decide +kernel
theorem d1_16 : decode method_2_code 16 = .ok (.bipush 95, 2) := by decide +kernel
theorem d1_18 : decode method_2_code 18 = .ok (.iastore, 1) := by decide +kernel
theorem d1_19 : decode method_2_code 19 = .ok (.dup, 1) := by decide +kernel
theorem d1_20 : decode method_2_code 20 = .ok (.iconst 3, 1) := by decide +kernel
theorem d1_21 : decode method_2_code 21 = .ok (.bipush 96, 2) := by decide +kernel
theorem d1_23 : decode method_2_code 23 = .ok (.iastore, 1) := by decide +kernel
theorem d1_24 : decode method_2_code 24 = .ok (.dup, 1) := by decide +kernel
theorem d1_25 : decode method_2_code 25 = .ok (.iconst 4, 1) := by decide +kernel
theorem d1_26 : decode method_2_code 26 = .ok (.bipush 97, 2) := by decide +kernel
theorem d1_28 : decode method_2_code 28 = .ok (.iastore, 1) := by decide +kernel
theorem d1_29 : decode method_2_code 29 = .ok (.dup, 1) := by decide +kernel
theorem d1_30 : decode method_2_code 30 = .ok (.iconst 5, 1) := by decide +kernel
theorem d1_31 : decode method_2_code 31 = .ok (.bipush 123, 2) := by decide +kernel
theorem d1_33 : decode method_2_code 33 = .ok (.iastore, 1) := by decide +kernel
theorem d1_34 : decode method_2_code 34 = .ok (.dup, 1) := by decide +kernel
theorem d1_35 : decode method_2_code 35 = .ok (.bipush 6, 2) := by decide +kernel
theorem d1_37 : decode method_2_code 37 = .ok (.sipush 192, 3) := by decide +kernel
theorem d1_40 : decode method_2_code 40 = .ok (.iastore, 1) := by decide +kernel
theorem d1_41 : decode method_2_code 41 = .ok (.dup, 1) := by decide +kernel
theorem d1_42 : decode method_2_code 42 = .ok (.bipush 7, 2) := by decide +kernel
theorem d1_44 : decode method_2_code 44 = .ok (.sipush 215, 3) := by decide +kernel
theorem d1_47 : decode method_2_code 47 = .ok (.iastore, 1) := by decide +kernel
theorem d1_48 : decode method_2_code 48 = .ok (.dup, 1) := by decide +kernel
theorem d1_49 : decode method_2_code 49 = .ok (.bipush 8, 2) := by decide +kernel
theorem d1_51 : decode method_2_code 51 = .ok (.sipush 216, 3) := by decide +kernel
theorem d1_54 : decode method_2_code 54 = .ok (.iastore, 1) := by decide +kernel
theorem d1_55 : decode method_2_code 55 = .ok (.dup, 1) := by decide +kernel
theorem d1_56 : decode method_2_code 56 = .ok (.bipush 9, 2) := by decide +kernel
theorem d1_58 : decode method_2_code 58 = .ok (.sipush 247, 3) := by decide +kernel
theorem d1_61 : decode method_2_code 61 = .ok (.iastore, 1) := by decide +kernel
theorem d1_62 : decode method_2_code 62 = .ok (.dup, 1) := by decide +kernel
theorem d1_63 : decode method_2_code 63 = .ok (.bipush 10, 2) := by decide +kernel
theorem d1_65 : decode method_2_code 65 = .ok (.sipush 248, 3) := by decide +kernel
theorem d1_68 : decode method_2_code 68 = .ok (.iastore, 1) := by decide +kernel
theorem d1_69 : decode method_2_code 69 = .ok (.dup, 1) := by decide +kernel
theorem d1_70 : decode method_2_code 70 = .ok (.bipush 11, 2) := by decide +kernel
theorem d1_72 : decode method_2_code 72 = .ok (.sipush 768, 3) := by decide +kernel
theorem d1_75 : decode method_2_code 75 = .ok (.iastore, 1) := by decide +kernel
theorem d1_76 : decode method_2_code 76 = .ok (.dup, 1) := by decide +kernel
theorem d1_77 : decode method_2_code 77 = .ok (.bipush 12, 2) := by decide +kernel
theorem d1_79 : decode method_2_code 79 = .ok (.sipush 880, 3) := by decide +kernel
theorem d1_82 : decode method_2_code 82 = .ok (.iastore, 1) := by decide +kernel
theorem d1_83 : decode method_2_code 83 = .ok (.dup, 1) := by decide +kernel
theorem d1_84 : decode method_2_code 84 = .ok (.bipush 13, 2) := by decide +kernel
theorem d1_86 : decode method_2_code 86 = .ok (.sipush 894, 3) := by decide +kernel
theorem d1_89 : decode method_2_code 89 = .ok (.iastore, 1) := by decide +kernel
theorem d1_90 : decode method_2_code 90 = .ok (.dup, 1) := by decide +kernel
theorem d1_91 : decode method_2_code 91 = .ok (.bipush 14, 2) := by decide +kernel
theorem d1_93 : decode method_2_code 93 = .ok (.sipush 895, 3) := by decide +kernel
theorem d1_96 : decode method_2_code 96 = .ok (.iastore, 1) := by decide +kernel
theorem d1_97 : decode method_2_code 97 = .ok (.dup, 1) := by decide +kernel
theorem d1_98 : decode method_2_code 98 = .ok (.bipush 15, 2) := by decide +kernel
theorem d1_100 : decode method_2_code 100 = .ok (.sipush 8192, 3) := by decide +kernel
theorem d1_103 : decode method_2_code 103 = .ok (.iastore, 1) := by decide +kernel
theorem d1_104 : decode method_2_code 104 = .ok (.dup, 1) := by decide +kernel
theorem d1_105 : decode method_2_code 105 = .ok (.bipush 16, 2) := by decide +kernel
theorem d1_107 : decode method_2_code 107 = .ok (.sipush 8204, 3) := by decide +kernel
theorem d1_110 : decode method_2_code 110 = .ok (.iastore, 1) := by decide +kernel
theorem d1_111 : decode method_2_code 111 = .ok (.dup, 1) := by decide +kernel
theorem d1_112 : decode method_2_code 112 = .ok (.bipush 17, 2) := by decide +kernel
theorem d1_114 : decode method_2_code 114 = .ok (.sipush 8206, 3) := by decide +kernel
theorem d1_117 : decode method_2_code 117 = .ok (.iastore, 1) := by decide +kernel
theorem d1_118 : decode method_2_code 118 = .ok (.dup, 1) := by decide +kernel
theorem d1_119 : decode method_2_code 119 = .ok (.bipush 18, 2) := by decide +kernel
theorem d1_121 : decode method_2_code 121 = .ok (.sipush 8304, 3) := by decide +kernel
theorem d1_124 : decode method_2_code 124 = .ok (.iastore, 1) := by decide +kernel
theorem d1_125 : decode method_2_code 125 = .ok (.dup, 1) := by decide +kernel
theorem d1_126 : decode method_2_code 126 = .ok (.bipush 19, 2) := by decide +kernel
theorem d1_128 : decode method_2_code 128 = .ok (.sipush 8592, 3) := by decide +kernel
theorem d1_131 : decode method_2_code 131 = .ok (.iastore, 1) := by decide +kernel
theorem d1_132 : decode method_2_code 132 = .ok (.dup, 1) := by decide +kernel
theorem d1_133 : decode method_2_code 133 = .ok (.bipush 20, 2) := by decide +kernel
theorem d1_135 : decode method_2_code 135 = .ok (.sipush 11264, 3) := by decide +kernel
theorem d1_138 : decode method_2_code 138 = .ok (.iastore, 1) := by decide +kernel
theorem d1_139 : decode method_2_code 139 = .ok (.dup, 1) := by decide +kernel
theorem d1_140 : decode method_2_code 140 = .ok (.bipush 21, 2) := by decide +kernel
theorem d1_142 : decode method_2_code 142 = .ok (.sipush 12272, 3) := by decide +kernel
theorem d1_145 : decode method_2_code 145 = .ok (.iastore, 1) := by decide +kernel
theorem d1_146 : decode method_2_code 146 = .ok (.dup, 1) := by decide +kernel
theorem d1_147 : decode method_2_code 147 = .ok (.bipush 22, 2) := by decide +kernel
theorem d1_149 : decode method_2_code 149 = .ok (.sipush 12289, 3) := by decide +kernel
theorem d1_152 : decode method_2_code 152 = .ok (.iastore, 1) := by decide +kernel
theorem d1_153 : decode method_2_code 153 = .ok (.dup, 1) := by decide +kernel
theorem d1_154 : decode method_2_code 154 = .ok (.bipush 23, 2) := by decide +kernel
theorem d1_156 : decode method_2_code 156 = .ok (.ldc 7, 2) := by decide +kernel
theorem d1_158 : decode method_2_code 158 = .ok (.iastore, 1) := by decide +kernel
theorem d1_159 : decode method_2_code 159 = .ok (.dup, 1) := by decide +kernel
theorem d1_160 : decode method_2_code 160 = .ok (.bipush 24, 2) := by decide +kernel
theorem d1_162 : decode method_2_code 162 = .ok (.ldc 8, 2) := by decide +kernel
theorem d1_164 : decode method_2_code 164 = .ok (.iastore, 1) := by decide +kernel
theorem d1_165 : decode method_2_code 165 = .ok (.dup, 1) := by decide +kernel
theorem d1_166 : decode method_2_code 166 = .ok (.bipush 25, 2) := by decide +kernel
theorem d1_168 : decode method_2_code 168 = .ok (.ldc 9, 2) := by decide +kernel
theorem d1_170 : decode method_2_code 170 = .ok (.iastore, 1) := by decide +kernel
theorem d1_171 : decode method_2_code 171 = .ok (.dup, 1) := by decide +kernel
theorem d1_172 : decode method_2_code 172 = .ok (.bipush 26, 2) := by decide +kernel
theorem d1_174 : decode method_2_code 174 = .ok (.ldc 10, 2) := by decide +kernel
theorem d1_176 : decode method_2_code 176 = .ok (.iastore, 1) := by decide +kernel
theorem d1_177 : decode method_2_code 177 = .ok (.dup, 1) := by decide +kernel
theorem d1_178 : decode method_2_code 178 = .ok (.bipush 27, 2) := by decide +kernel
theorem d1_180 : decode method_2_code 180 = .ok (.ldc 11, 2) := by decide +kernel
theorem d1_182 : decode method_2_code 182 = .ok (.iastore, 1) := by decide +kernel
theorem d1_183 : decode method_2_code 183 = .ok (.dup, 1) := by decide +kernel
theorem d1_184 : decode method_2_code 184 = .ok (.bipush 28, 2) := by decide +kernel
theorem d1_186 : decode method_2_code 186 = .ok (.ldc 12, 2) := by decide +kernel
theorem d1_188 : decode method_2_code 188 = .ok (.iastore, 1) := by decide +kernel
theorem d1_189 : decode method_2_code 189 = .ok (.dup, 1) := by decide +kernel
theorem d1_190 : decode method_2_code 190 = .ok (.bipush 29, 2) := by decide +kernel
theorem d1_192 : decode method_2_code 192 = .ok (.ldc 13, 2) := by decide +kernel
theorem d1_194 : decode method_2_code 194 = .ok (.iastore, 1) := by decide +kernel
theorem d1_195 : decode method_2_code 195 = .ok (.astore_n 1, 1) := by decide +kernel
theorem d1_196 : decode method_2_code 196 = .ok (.aload_n 1, 1) := by decide +kernel
theorem d1_197 : decode method_2_code 197 = .ok (.iload_n 0, 1) := by decide +kernel
theorem d1_198 : decode method_2_code 198 = .ok (.iaload, 1) := by decide +kernel
theorem d1_199 : decode method_2_code 199 = .ok (.ireturn, 1) := by decide +kernel
theorem pn_1 : plainName "com/example/xylem/xylem/model/QNameIsNameStartCharPinLaw" = true := by first | (simp [plainName, overriddenIn]; done) | decide +kernel
theorem pd_1 : parseMethodDescriptor "(I)I" = some ⟨[.int], some .int⟩ := by decide +kernel
theorem ef_1 (m : MethodId) (x0 : Int32) : entryFrame m #[(.int x0)] 2 = mkF m 0 #[.val (.int x0), .unset] [] := by first | (simp [entryFrame, mkF, argsToLocals, Value.category, maxLocals]; done) | rfl
theorem d2_0 : decode prog_304_method_13_code 0 = .ok (.iload_n 0, 1) := by decide +kernel
theorem d2_1 : decode prog_304_method_13_code 1 = .ok (.bipush 97, 2) := by decide +kernel
theorem d2_3 : decode prog_304_method_13_code 3 = .ok (.if_icmp .lt 9, 3) := by decide +kernel
theorem d2_6 : decode prog_304_method_13_code 6 = .ok (.iload_n 0, 1) := by decide +kernel
theorem d2_7 : decode prog_304_method_13_code 7 = .ok (.bipush 122, 2) := by decide +kernel
theorem d2_9 : decode prog_304_method_13_code 9 = .ok (.if_icmp .le 182, 3) := by decide +kernel
theorem d2_12 : decode prog_304_method_13_code 12 = .ok (.iload_n 0, 1) := by decide +kernel
theorem d2_13 : decode prog_304_method_13_code 13 = .ok (.bipush 65, 2) := by decide +kernel
theorem d2_15 : decode prog_304_method_13_code 15 = .ok (.if_icmp .lt 9, 3) := by decide +kernel
theorem d2_18 : decode prog_304_method_13_code 18 = .ok (.iload_n 0, 1) := by decide +kernel
theorem d2_19 : decode prog_304_method_13_code 19 = .ok (.bipush 90, 2) := by decide +kernel
theorem d2_21 : decode prog_304_method_13_code 21 = .ok (.if_icmp .le 170, 3) := by decide +kernel
theorem d2_24 : decode prog_304_method_13_code 24 = .ok (.iload_n 0, 1) := by decide +kernel
theorem d2_25 : decode prog_304_method_13_code 25 = .ok (.bipush 95, 2) := by decide +kernel
theorem d2_27 : decode prog_304_method_13_code 27 = .ok (.if_icmp .eq 164, 3) := by decide +kernel
theorem d2_30 : decode prog_304_method_13_code 30 = .ok (.iload_n 0, 1) := by decide +kernel
theorem d2_31 : decode prog_304_method_13_code 31 = .ok (.sipush 192, 3) := by decide +kernel
theorem d2_34 : decode prog_304_method_13_code 34 = .ok (.if_icmp .lt 10, 3) := by decide +kernel
theorem d2_37 : decode prog_304_method_13_code 37 = .ok (.iload_n 0, 1) := by decide +kernel
theorem d2_38 : decode prog_304_method_13_code 38 = .ok (.sipush 214, 3) := by decide +kernel
theorem d2_41 : decode prog_304_method_13_code 41 = .ok (.if_icmp .le 150, 3) := by decide +kernel
theorem d2_44 : decode prog_304_method_13_code 44 = .ok (.iload_n 0, 1) := by decide +kernel
theorem d2_45 : decode prog_304_method_13_code 45 = .ok (.sipush 216, 3) := by decide +kernel
theorem d2_48 : decode prog_304_method_13_code 48 = .ok (.if_icmp .lt 10, 3) := by decide +kernel
theorem d2_51 : decode prog_304_method_13_code 51 = .ok (.iload_n 0, 1) := by decide +kernel
theorem d2_52 : decode prog_304_method_13_code 52 = .ok (.sipush 246, 3) := by decide +kernel
theorem d2_55 : decode prog_304_method_13_code 55 = .ok (.if_icmp .le 136, 3) := by decide +kernel
theorem d2_58 : decode prog_304_method_13_code 58 = .ok (.iload_n 0, 1) := by decide +kernel
theorem d2_59 : decode prog_304_method_13_code 59 = .ok (.sipush 248, 3) := by decide +kernel
theorem d2_62 : decode prog_304_method_13_code 62 = .ok (.if_icmp .lt 10, 3) := by decide +kernel
theorem d2_65 : decode prog_304_method_13_code 65 = .ok (.iload_n 0, 1) := by decide +kernel
theorem d2_66 : decode prog_304_method_13_code 66 = .ok (.sipush 767, 3) := by decide +kernel
theorem d2_69 : decode prog_304_method_13_code 69 = .ok (.if_icmp .le 122, 3) := by decide +kernel
theorem d2_72 : decode prog_304_method_13_code 72 = .ok (.iload_n 0, 1) := by decide +kernel
theorem d2_73 : decode prog_304_method_13_code 73 = .ok (.sipush 880, 3) := by decide +kernel
theorem d2_76 : decode prog_304_method_13_code 76 = .ok (.if_icmp .lt 10, 3) := by decide +kernel
theorem d2_79 : decode prog_304_method_13_code 79 = .ok (.iload_n 0, 1) := by decide +kernel
theorem d2_80 : decode prog_304_method_13_code 80 = .ok (.sipush 893, 3) := by decide +kernel
theorem d2_83 : decode prog_304_method_13_code 83 = .ok (.if_icmp .le 108, 3) := by decide +kernel
theorem d2_86 : decode prog_304_method_13_code 86 = .ok (.iload_n 0, 1) := by decide +kernel
theorem d2_87 : decode prog_304_method_13_code 87 = .ok (.sipush 895, 3) := by decide +kernel
theorem d2_90 : decode prog_304_method_13_code 90 = .ok (.if_icmp .lt 10, 3) := by decide +kernel
theorem d2_93 : decode prog_304_method_13_code 93 = .ok (.iload_n 0, 1) := by decide +kernel
theorem d2_94 : decode prog_304_method_13_code 94 = .ok (.sipush 8191, 3) := by decide +kernel
theorem d2_97 : decode prog_304_method_13_code 97 = .ok (.if_icmp .le 94, 3) := by decide +kernel
theorem d2_100 : decode prog_304_method_13_code 100 = .ok (.iload_n 0, 1) := by decide +kernel
theorem d2_101 : decode prog_304_method_13_code 101 = .ok (.sipush 8204, 3) := by decide +kernel
theorem d2_104 : decode prog_304_method_13_code 104 = .ok (.if_icmp .lt 10, 3) := by decide +kernel
theorem d2_107 : decode prog_304_method_13_code 107 = .ok (.iload_n 0, 1) := by decide +kernel
theorem d2_108 : decode prog_304_method_13_code 108 = .ok (.sipush 8205, 3) := by decide +kernel
theorem d2_111 : decode prog_304_method_13_code 111 = .ok (.if_icmp .le 80, 3) := by decide +kernel
theorem d2_114 : decode prog_304_method_13_code 114 = .ok (.iload_n 0, 1) := by decide +kernel
theorem d2_115 : decode prog_304_method_13_code 115 = .ok (.sipush 8304, 3) := by decide +kernel
theorem d2_118 : decode prog_304_method_13_code 118 = .ok (.if_icmp .lt 10, 3) := by decide +kernel
theorem d2_121 : decode prog_304_method_13_code 121 = .ok (.iload_n 0, 1) := by decide +kernel
theorem d2_122 : decode prog_304_method_13_code 122 = .ok (.sipush 8591, 3) := by decide +kernel
theorem d2_125 : decode prog_304_method_13_code 125 = .ok (.if_icmp .le 66, 3) := by decide +kernel
theorem d2_128 : decode prog_304_method_13_code 128 = .ok (.iload_n 0, 1) := by decide +kernel
theorem d2_129 : decode prog_304_method_13_code 129 = .ok (.sipush 11264, 3) := by decide +kernel
theorem d2_132 : decode prog_304_method_13_code 132 = .ok (.if_icmp .lt 10, 3) := by decide +kernel
theorem d2_135 : decode prog_304_method_13_code 135 = .ok (.iload_n 0, 1) := by decide +kernel
theorem d2_136 : decode prog_304_method_13_code 136 = .ok (.sipush 12271, 3) := by decide +kernel
theorem d2_139 : decode prog_304_method_13_code 139 = .ok (.if_icmp .le 52, 3) := by decide +kernel
theorem d2_142 : decode prog_304_method_13_code 142 = .ok (.iload_n 0, 1) := by decide +kernel
theorem d2_143 : decode prog_304_method_13_code 143 = .ok (.sipush 12289, 3) := by decide +kernel
theorem d2_146 : decode prog_304_method_13_code 146 = .ok (.if_icmp .lt 9, 3) := by decide +kernel
theorem d2_149 : decode prog_304_method_13_code 149 = .ok (.iload_n 0, 1) := by decide +kernel
theorem d2_150 : decode prog_304_method_13_code 150 = .ok (.ldc 95, 2) := by decide +kernel
theorem d2_152 : decode prog_304_method_13_code 152 = .ok (.if_icmp .le 39, 3) := by decide +kernel
theorem d2_155 : decode prog_304_method_13_code 155 = .ok (.iload_n 0, 1) := by decide +kernel
theorem d2_156 : decode prog_304_method_13_code 156 = .ok (.ldc 100, 2) := by decide +kernel
theorem d2_158 : decode prog_304_method_13_code 158 = .ok (.if_icmp .lt 9, 3) := by decide +kernel
theorem d2_161 : decode prog_304_method_13_code 161 = .ok (.iload_n 0, 1) := by decide +kernel
theorem d2_162 : decode prog_304_method_13_code 162 = .ok (.ldc 101, 2) := by decide +kernel
theorem d2_164 : decode prog_304_method_13_code 164 = .ok (.if_icmp .le 27, 3) := by decide +kernel
theorem d2_167 : decode prog_304_method_13_code 167 = .ok (.iload_n 0, 1) := by decide +kernel
theorem d2_168 : decode prog_304_method_13_code 168 = .ok (.ldc 102, 2) := by decide +kernel
theorem d2_170 : decode prog_304_method_13_code 170 = .ok (.if_icmp .lt 9, 3) := by decide +kernel
theorem d2_173 : decode prog_304_method_13_code 173 = .ok (.iload_n 0, 1) := by decide +kernel
theorem d2_174 : decode prog_304_method_13_code 174 = .ok (.ldc 97, 2) := by decide +kernel
theorem d2_176 : decode prog_304_method_13_code 176 = .ok (.if_icmp .le 15, 3) := by decide +kernel
theorem d2_179 : decode prog_304_method_13_code 179 = .ok (.iload_n 0, 1) := by decide +kernel
theorem d2_180 : decode prog_304_method_13_code 180 = .ok (.ldc 98, 2) := by decide +kernel
theorem d2_182 : decode prog_304_method_13_code 182 = .ok (.if_icmp .lt 13, 3) := by decide +kernel
theorem d2_185 : decode prog_304_method_13_code 185 = .ok (.iload_n 0, 1) := by decide +kernel
theorem d2_186 : decode prog_304_method_13_code 186 = .ok (.ldc 103, 2) := by decide +kernel
theorem d2_188 : decode prog_304_method_13_code 188 = .ok (.if_icmp .gt 7, 3) := by decide +kernel
theorem d2_191 : decode prog_304_method_13_code 191 = .ok (.iconst 1, 1) := by decide +kernel
theorem d2_192 : decode prog_304_method_13_code 192 = .ok (.goto 4, 3) := by decide +kernel
theorem d2_195 : decode prog_304_method_13_code 195 = .ok (.iconst 0, 1) := by decide +kernel
theorem d2_196 : decode prog_304_method_13_code 196 = .ok (.ireturn, 1) := by decide +kernel
theorem pn_2 : plainName "com/example/xylem/xylem/model/QName" = true := by first | (simp [plainName, overriddenIn]; done) | decide +kernel
theorem pd_2 : parseMethodDescriptor "(I)Z" = some ⟨[.int], some .boolean⟩ := by decide +kernel
theorem ef_2 (m : MethodId) (x0 : Int32) : entryFrame m #[(.int x0)] 1 = mkF m 0 #[.val (.int x0)] [] := by first | (simp [entryFrame, mkF, argsToLocals, Value.category, maxLocals]; done) | rfl
theorem d3_0 : decode method_3_code 0 = .ok (.iconst 0, 1) := by decide +kernel
theorem d3_1 : decode method_3_code 1 = .ok (.istore_n 1, 1) := by decide +kernel
theorem d3_2 : decode method_3_code 2 = .ok (.iload_n 1, 1) := by decide +kernel
theorem d3_3 : decode method_3_code 3 = .ok (.iload_n 0, 1) := by decide +kernel
theorem d3_4 : decode method_3_code 4 = .ok (.bipush 65, 2) := by decide +kernel
theorem d3_6 : decode method_3_code 6 = .ok (.if_icmp .lt 7, 3) := by decide +kernel
theorem d3_9 : decode method_3_code 9 = .ok (.iconst 1, 1) := by decide +kernel
theorem d3_10 : decode method_3_code 10 = .ok (.goto 4, 3) := by decide +kernel
theorem d3_13 : decode method_3_code 13 = .ok (.iconst 0, 1) := by decide +kernel
theorem d3_14 : decode method_3_code 14 = .ok (.iadd, 1) := by decide +kernel
theorem d3_15 : decode method_3_code 15 = .ok (.istore_n 1, 1) := by decide +kernel
theorem d3_16 : decode method_3_code 16 = .ok (.iload_n 1, 1) := by decide +kernel
theorem d3_17 : decode method_3_code 17 = .ok (.iload_n 0, 1) := by decide +kernel
theorem d3_18 : decode method_3_code 18 = .ok (.bipush 91, 2) := by decide +kernel
theorem d3_20 : decode method_3_code 20 = .ok (.if_icmp .lt 7, 3) := by decide +kernel
theorem d3_23 : decode method_3_code 23 = .ok (.iconst 1, 1) := by decide +kernel
theorem d3_24 : decode method_3_code 24 = .ok (.goto 4, 3) := by decide +kernel
theorem d3_27 : decode method_3_code 27 = .ok (.iconst 0, 1) := by decide +kernel
theorem d3_28 : decode method_3_code 28 = .ok (.iadd, 1) := by decide +kernel
theorem d3_29 : decode method_3_code 29 = .ok (.istore_n 1, 1) := by decide +kernel
theorem d3_30 : decode method_3_code 30 = .ok (.iload_n 1, 1) := by decide +kernel
theorem d3_31 : decode method_3_code 31 = .ok (.iload_n 0, 1) := by decide +kernel
theorem d3_32 : decode method_3_code 32 = .ok (.bipush 95, 2) := by decide +kernel
theorem d3_34 : decode method_3_code 34 = .ok (.if_icmp .lt 7, 3) := by decide +kernel
theorem d3_37 : decode method_3_code 37 = .ok (.iconst 1, 1) := by decide +kernel
theorem d3_38 : decode method_3_code 38 = .ok (.goto 4, 3) := by decide +kernel
theorem d3_41 : decode method_3_code 41 = .ok (.iconst 0, 1) := by decide +kernel
theorem d3_42 : decode method_3_code 42 = .ok (.iadd, 1) := by decide +kernel
theorem d3_43 : decode method_3_code 43 = .ok (.istore_n 1, 1) := by decide +kernel
theorem d3_44 : decode method_3_code 44 = .ok (.iload_n 1, 1) := by decide +kernel
theorem d3_45 : decode method_3_code 45 = .ok (.iload_n 0, 1) := by decide +kernel
theorem d3_46 : decode method_3_code 46 = .ok (.bipush 96, 2) := by decide +kernel
theorem d3_48 : decode method_3_code 48 = .ok (.if_icmp .lt 7, 3) := by decide +kernel
theorem d3_51 : decode method_3_code 51 = .ok (.iconst 1, 1) := by decide +kernel
theorem d3_52 : decode method_3_code 52 = .ok (.goto 4, 3) := by decide +kernel
theorem d3_55 : decode method_3_code 55 = .ok (.iconst 0, 1) := by decide +kernel
theorem d3_56 : decode method_3_code 56 = .ok (.iadd, 1) := by decide +kernel
theorem d3_57 : decode method_3_code 57 = .ok (.istore_n 1, 1) := by decide +kernel
theorem d3_58 : decode method_3_code 58 = .ok (.iload_n 1, 1) := by decide +kernel
theorem d3_59 : decode method_3_code 59 = .ok (.iload_n 0, 1) := by decide +kernel
theorem d3_60 : decode method_3_code 60 = .ok (.bipush 97, 2) := by decide +kernel
theorem d3_62 : decode method_3_code 62 = .ok (.if_icmp .lt 7, 3) := by decide +kernel
theorem d3_65 : decode method_3_code 65 = .ok (.iconst 1, 1) := by decide +kernel
theorem d3_66 : decode method_3_code 66 = .ok (.goto 4, 3) := by decide +kernel
theorem d3_69 : decode method_3_code 69 = .ok (.iconst 0, 1) := by decide +kernel
theorem d3_70 : decode method_3_code 70 = .ok (.iadd, 1) := by decide +kernel
theorem d3_71 : decode method_3_code 71 = .ok (.istore_n 1, 1) := by decide +kernel
theorem d3_72 : decode method_3_code 72 = .ok (.iload_n 1, 1) := by decide +kernel
theorem d3_73 : decode method_3_code 73 = .ok (.iload_n 0, 1) := by decide +kernel
theorem d3_74 : decode method_3_code 74 = .ok (.bipush 123, 2) := by decide +kernel
theorem d3_76 : decode method_3_code 76 = .ok (.if_icmp .lt 7, 3) := by decide +kernel
theorem d3_79 : decode method_3_code 79 = .ok (.iconst 1, 1) := by decide +kernel
theorem d3_80 : decode method_3_code 80 = .ok (.goto 4, 3) := by decide +kernel
theorem d3_83 : decode method_3_code 83 = .ok (.iconst 0, 1) := by decide +kernel
theorem d3_84 : decode method_3_code 84 = .ok (.iadd, 1) := by decide +kernel
theorem d3_85 : decode method_3_code 85 = .ok (.istore_n 1, 1) := by decide +kernel
theorem d3_86 : decode method_3_code 86 = .ok (.iload_n 1, 1) := by decide +kernel
theorem d3_87 : decode method_3_code 87 = .ok (.iload_n 0, 1) := by decide +kernel
theorem d3_88 : decode method_3_code 88 = .ok (.sipush 192, 3) := by decide +kernel
theorem d3_91 : decode method_3_code 91 = .ok (.if_icmp .lt 7, 3) := by decide +kernel
theorem d3_94 : decode method_3_code 94 = .ok (.iconst 1, 1) := by decide +kernel
theorem d3_95 : decode method_3_code 95 = .ok (.goto 4, 3) := by decide +kernel
theorem d3_98 : decode method_3_code 98 = .ok (.iconst 0, 1) := by decide +kernel
theorem d3_99 : decode method_3_code 99 = .ok (.iadd, 1) := by decide +kernel
theorem d3_100 : decode method_3_code 100 = .ok (.istore_n 1, 1) := by decide +kernel
theorem d3_101 : decode method_3_code 101 = .ok (.iload_n 1, 1) := by decide +kernel
theorem d3_102 : decode method_3_code 102 = .ok (.iload_n 0, 1) := by decide +kernel
theorem d3_103 : decode method_3_code 103 = .ok (.sipush 215, 3) := by decide +kernel
theorem d3_106 : decode method_3_code 106 = .ok (.if_icmp .lt 7, 3) := by decide +kernel
theorem d3_109 : decode method_3_code 109 = .ok (.iconst 1, 1) := by decide +kernel
theorem d3_110 : decode method_3_code 110 = .ok (.goto 4, 3) := by decide +kernel
theorem d3_113 : decode method_3_code 113 = .ok (.iconst 0, 1) := by decide +kernel
theorem d3_114 : decode method_3_code 114 = .ok (.iadd, 1) := by decide +kernel
theorem d3_115 : decode method_3_code 115 = .ok (.istore_n 1, 1) := by decide +kernel
theorem d3_116 : decode method_3_code 116 = .ok (.iload_n 1, 1) := by decide +kernel
theorem d3_117 : decode method_3_code 117 = .ok (.iload_n 0, 1) := by decide +kernel
theorem d3_118 : decode method_3_code 118 = .ok (.sipush 216, 3) := by decide +kernel
theorem d3_121 : decode method_3_code 121 = .ok (.if_icmp .lt 7, 3) := by decide +kernel
theorem d3_124 : decode method_3_code 124 = .ok (.iconst 1, 1) := by decide +kernel
theorem d3_125 : decode method_3_code 125 = .ok (.goto 4, 3) := by decide +kernel
theorem d3_128 : decode method_3_code 128 = .ok (.iconst 0, 1) := by decide +kernel
theorem d3_129 : decode method_3_code 129 = .ok (.iadd, 1) := by decide +kernel
theorem d3_130 : decode method_3_code 130 = .ok (.istore_n 1, 1) := by decide +kernel
theorem d3_131 : decode method_3_code 131 = .ok (.iload_n 1, 1) := by decide +kernel
theorem d3_132 : decode method_3_code 132 = .ok (.iload_n 0, 1) := by decide +kernel
theorem d3_133 : decode method_3_code 133 = .ok (.sipush 247, 3) := by decide +kernel
theorem d3_136 : decode method_3_code 136 = .ok (.if_icmp .lt 7, 3) := by decide +kernel
theorem d3_139 : decode method_3_code 139 = .ok (.iconst 1, 1) := by decide +kernel
theorem d3_140 : decode method_3_code 140 = .ok (.goto 4, 3) := by decide +kernel
theorem d3_143 : decode method_3_code 143 = .ok (.iconst 0, 1) := by decide +kernel
theorem d3_144 : decode method_3_code 144 = .ok (.iadd, 1) := by decide +kernel
theorem d3_145 : decode method_3_code 145 = .ok (.istore_n 1, 1) := by decide +kernel
theorem d3_146 : decode method_3_code 146 = .ok (.iload_n 1, 1) := by decide +kernel
theorem d3_147 : decode method_3_code 147 = .ok (.iload_n 0, 1) := by decide +kernel
theorem d3_148 : decode method_3_code 148 = .ok (.sipush 248, 3) := by decide +kernel
theorem d3_151 : decode method_3_code 151 = .ok (.if_icmp .lt 7, 3) := by decide +kernel
theorem d3_154 : decode method_3_code 154 = .ok (.iconst 1, 1) := by decide +kernel
theorem d3_155 : decode method_3_code 155 = .ok (.goto 4, 3) := by decide +kernel
theorem d3_158 : decode method_3_code 158 = .ok (.iconst 0, 1) := by decide +kernel
theorem d3_159 : decode method_3_code 159 = .ok (.iadd, 1) := by decide +kernel
theorem d3_160 : decode method_3_code 160 = .ok (.istore_n 1, 1) := by decide +kernel
theorem d3_161 : decode method_3_code 161 = .ok (.iload_n 1, 1) := by decide +kernel
theorem d3_162 : decode method_3_code 162 = .ok (.iload_n 0, 1) := by decide +kernel
theorem d3_163 : decode method_3_code 163 = .ok (.sipush 768, 3) := by decide +kernel
theorem d3_166 : decode method_3_code 166 = .ok (.if_icmp .lt 7, 3) := by decide +kernel
theorem d3_169 : decode method_3_code 169 = .ok (.iconst 1, 1) := by decide +kernel
theorem d3_170 : decode method_3_code 170 = .ok (.goto 4, 3) := by decide +kernel
theorem d3_173 : decode method_3_code 173 = .ok (.iconst 0, 1) := by decide +kernel
theorem d3_174 : decode method_3_code 174 = .ok (.iadd, 1) := by decide +kernel
theorem d3_175 : decode method_3_code 175 = .ok (.istore_n 1, 1) := by decide +kernel
theorem d3_176 : decode method_3_code 176 = .ok (.iload_n 1, 1) := by decide +kernel
theorem d3_177 : decode method_3_code 177 = .ok (.iload_n 0, 1) := by decide +kernel
theorem d3_178 : decode method_3_code 178 = .ok (.sipush 880, 3) := by decide +kernel
theorem d3_181 : decode method_3_code 181 = .ok (.if_icmp .lt 7, 3) := by decide +kernel
theorem d3_184 : decode method_3_code 184 = .ok (.iconst 1, 1) := by decide +kernel
theorem d3_185 : decode method_3_code 185 = .ok (.goto 4, 3) := by decide +kernel
theorem d3_188 : decode method_3_code 188 = .ok (.iconst 0, 1) := by decide +kernel
theorem d3_189 : decode method_3_code 189 = .ok (.iadd, 1) := by decide +kernel
theorem d3_190 : decode method_3_code 190 = .ok (.istore_n 1, 1) := by decide +kernel
theorem d3_191 : decode method_3_code 191 = .ok (.iload_n 1, 1) := by decide +kernel
theorem d3_192 : decode method_3_code 192 = .ok (.iload_n 0, 1) := by decide +kernel
theorem d3_193 : decode method_3_code 193 = .ok (.sipush 894, 3) := by decide +kernel
theorem d3_196 : decode method_3_code 196 = .ok (.if_icmp .lt 7, 3) := by decide +kernel
theorem d3_199 : decode method_3_code 199 = .ok (.iconst 1, 1) := by decide +kernel
theorem d3_200 : decode method_3_code 200 = .ok (.goto 4, 3) := by decide +kernel
theorem d3_203 : decode method_3_code 203 = .ok (.iconst 0, 1) := by decide +kernel
theorem d3_204 : decode method_3_code 204 = .ok (.iadd, 1) := by decide +kernel
theorem d3_205 : decode method_3_code 205 = .ok (.istore_n 1, 1) := by decide +kernel
theorem d3_206 : decode method_3_code 206 = .ok (.iload_n 1, 1) := by decide +kernel
theorem d3_207 : decode method_3_code 207 = .ok (.iload_n 0, 1) := by decide +kernel
theorem d3_208 : decode method_3_code 208 = .ok (.sipush 895, 3) := by decide +kernel
theorem d3_211 : decode method_3_code 211 = .ok (.if_icmp .lt 7, 3) := by decide +kernel
theorem d3_214 : decode method_3_code 214 = .ok (.iconst 1, 1) := by decide +kernel
theorem d3_215 : decode method_3_code 215 = .ok (.goto 4, 3) := by decide +kernel
theorem d3_218 : decode method_3_code 218 = .ok (.iconst 0, 1) := by decide +kernel
theorem d3_219 : decode method_3_code 219 = .ok (.iadd, 1) := by decide +kernel
theorem d3_220 : decode method_3_code 220 = .ok (.istore_n 1, 1) := by decide +kernel
theorem d3_221 : decode method_3_code 221 = .ok (.iload_n 1, 1) := by decide +kernel
theorem d3_222 : decode method_3_code 222 = .ok (.iload_n 0, 1) := by decide +kernel
theorem d3_223 : decode method_3_code 223 = .ok (.sipush 8192, 3) := by decide +kernel
theorem d3_226 : decode method_3_code 226 = .ok (.if_icmp .lt 7, 3) := by decide +kernel
theorem d3_229 : decode method_3_code 229 = .ok (.iconst 1, 1) := by decide +kernel
theorem d3_230 : decode method_3_code 230 = .ok (.goto 4, 3) := by decide +kernel
theorem d3_233 : decode method_3_code 233 = .ok (.iconst 0, 1) := by decide +kernel
theorem d3_234 : decode method_3_code 234 = .ok (.iadd, 1) := by decide +kernel
theorem d3_235 : decode method_3_code 235 = .ok (.istore_n 1, 1) := by decide +kernel
theorem d3_236 : decode method_3_code 236 = .ok (.iload_n 1, 1) := by decide +kernel
theorem d3_237 : decode method_3_code 237 = .ok (.iload_n 0, 1) := by decide +kernel
theorem d3_238 : decode method_3_code 238 = .ok (.sipush 8204, 3) := by decide +kernel
theorem d3_241 : decode method_3_code 241 = .ok (.if_icmp .lt 7, 3) := by decide +kernel
theorem d3_244 : decode method_3_code 244 = .ok (.iconst 1, 1) := by decide +kernel
theorem d3_245 : decode method_3_code 245 = .ok (.goto 4, 3) := by decide +kernel
theorem d3_248 : decode method_3_code 248 = .ok (.iconst 0, 1) := by decide +kernel
theorem d3_249 : decode method_3_code 249 = .ok (.iadd, 1) := by decide +kernel
theorem d3_250 : decode method_3_code 250 = .ok (.istore_n 1, 1) := by decide +kernel
theorem d3_251 : decode method_3_code 251 = .ok (.iload_n 1, 1) := by decide +kernel
theorem d3_252 : decode method_3_code 252 = .ok (.iload_n 0, 1) := by decide +kernel
theorem d3_253 : decode method_3_code 253 = .ok (.sipush 8206, 3) := by decide +kernel
theorem d3_256 : decode method_3_code 256 = .ok (.if_icmp .lt 7, 3) := by decide +kernel
theorem d3_259 : decode method_3_code 259 = .ok (.iconst 1, 1) := by decide +kernel
theorem d3_260 : decode method_3_code 260 = .ok (.goto 4, 3) := by decide +kernel
theorem d3_263 : decode method_3_code 263 = .ok (.iconst 0, 1) := by decide +kernel
theorem d3_264 : decode method_3_code 264 = .ok (.iadd, 1) := by decide +kernel
theorem d3_265 : decode method_3_code 265 = .ok (.istore_n 1, 1) := by decide +kernel
theorem d3_266 : decode method_3_code 266 = .ok (.iload_n 1, 1) := by decide +kernel
theorem d3_267 : decode method_3_code 267 = .ok (.iload_n 0, 1) := by decide +kernel
theorem d3_268 : decode method_3_code 268 = .ok (.sipush 8304, 3) := by decide +kernel
theorem d3_271 : decode method_3_code 271 = .ok (.if_icmp .lt 7, 3) := by decide +kernel
theorem d3_274 : decode method_3_code 274 = .ok (.iconst 1, 1) := by decide +kernel
theorem d3_275 : decode method_3_code 275 = .ok (.goto 4, 3) := by decide +kernel
theorem d3_278 : decode method_3_code 278 = .ok (.iconst 0, 1) := by decide +kernel
theorem d3_279 : decode method_3_code 279 = .ok (.iadd, 1) := by decide +kernel
theorem d3_280 : decode method_3_code 280 = .ok (.istore_n 1, 1) := by decide +kernel
theorem d3_281 : decode method_3_code 281 = .ok (.iload_n 1, 1) := by decide +kernel
theorem d3_282 : decode method_3_code 282 = .ok (.iload_n 0, 1) := by decide +kernel
theorem d3_283 : decode method_3_code 283 = .ok (.sipush 8592, 3) := by decide +kernel
theorem d3_286 : decode method_3_code 286 = .ok (.if_icmp .lt 7, 3) := by decide +kernel
theorem d3_289 : decode method_3_code 289 = .ok (.iconst 1, 1) := by decide +kernel
theorem d3_290 : decode method_3_code 290 = .ok (.goto 4, 3) := by decide +kernel
theorem d3_293 : decode method_3_code 293 = .ok (.iconst 0, 1) := by decide +kernel
theorem d3_294 : decode method_3_code 294 = .ok (.iadd, 1) := by decide +kernel
theorem d3_295 : decode method_3_code 295 = .ok (.istore_n 1, 1) := by decide +kernel
theorem d3_296 : decode method_3_code 296 = .ok (.iload_n 1, 1) := by decide +kernel
theorem d3_297 : decode method_3_code 297 = .ok (.iload_n 0, 1) := by decide +kernel
theorem d3_298 : decode method_3_code 298 = .ok (.sipush 11264, 3) := by decide +kernel
theorem d3_301 : decode method_3_code 301 = .ok (.if_icmp .lt 7, 3) := by decide +kernel
theorem d3_304 : decode method_3_code 304 = .ok (.iconst 1, 1) := by decide +kernel
theorem d3_305 : decode method_3_code 305 = .ok (.goto 4, 3) := by decide +kernel
theorem d3_308 : decode method_3_code 308 = .ok (.iconst 0, 1) := by decide +kernel
theorem d3_309 : decode method_3_code 309 = .ok (.iadd, 1) := by decide +kernel
theorem d3_310 : decode method_3_code 310 = .ok (.istore_n 1, 1) := by decide +kernel
theorem d3_311 : decode method_3_code 311 = .ok (.iload_n 1, 1) := by decide +kernel
theorem d3_312 : decode method_3_code 312 = .ok (.iload_n 0, 1) := by decide +kernel
theorem d3_313 : decode method_3_code 313 = .ok (.sipush 12272, 3) := by decide +kernel
theorem d3_316 : decode method_3_code 316 = .ok (.if_icmp .lt 7, 3) := by decide +kernel
theorem d3_319 : decode method_3_code 319 = .ok (.iconst 1, 1) := by decide +kernel
theorem d3_320 : decode method_3_code 320 = .ok (.goto 4, 3) := by decide +kernel
theorem d3_323 : decode method_3_code 323 = .ok (.iconst 0, 1) := by decide +kernel
theorem d3_324 : decode method_3_code 324 = .ok (.iadd, 1) := by decide +kernel
theorem d3_325 : decode method_3_code 325 = .ok (.istore_n 1, 1) := by decide +kernel
theorem d3_326 : decode method_3_code 326 = .ok (.iload_n 1, 1) := by decide +kernel
theorem d3_327 : decode method_3_code 327 = .ok (.iload_n 0, 1) := by decide +kernel
theorem d3_328 : decode method_3_code 328 = .ok (.sipush 12289, 3) := by decide +kernel
theorem d3_331 : decode method_3_code 331 = .ok (.if_icmp .lt 7, 3) := by decide +kernel
theorem d3_334 : decode method_3_code 334 = .ok (.iconst 1, 1) := by decide +kernel
theorem d3_335 : decode method_3_code 335 = .ok (.goto 4, 3) := by decide +kernel
theorem d3_338 : decode method_3_code 338 = .ok (.iconst 0, 1) := by decide +kernel
theorem d3_339 : decode method_3_code 339 = .ok (.iadd, 1) := by decide +kernel
theorem d3_340 : decode method_3_code 340 = .ok (.istore_n 1, 1) := by decide +kernel
theorem d3_341 : decode method_3_code 341 = .ok (.iload_n 1, 1) := by decide +kernel
theorem d3_342 : decode method_3_code 342 = .ok (.iload_n 0, 1) := by decide +kernel
theorem d3_343 : decode method_3_code 343 = .ok (.ldc 7, 2) := by decide +kernel
theorem d3_345 : decode method_3_code 345 = .ok (.if_icmp .lt 7, 3) := by decide +kernel
theorem d3_348 : decode method_3_code 348 = .ok (.iconst 1, 1) := by decide +kernel
theorem d3_349 : decode method_3_code 349 = .ok (.goto 4, 3) := by decide +kernel
theorem d3_352 : decode method_3_code 352 = .ok (.iconst 0, 1) := by decide +kernel
theorem d3_353 : decode method_3_code 353 = .ok (.iadd, 1) := by decide +kernel
theorem d3_354 : decode method_3_code 354 = .ok (.istore_n 1, 1) := by decide +kernel
theorem d3_355 : decode method_3_code 355 = .ok (.iload_n 1, 1) := by decide +kernel
theorem d3_356 : decode method_3_code 356 = .ok (.iload_n 0, 1) := by decide +kernel
theorem d3_357 : decode method_3_code 357 = .ok (.ldc 8, 2) := by decide +kernel
theorem d3_359 : decode method_3_code 359 = .ok (.if_icmp .lt 7, 3) := by decide +kernel
theorem d3_362 : decode method_3_code 362 = .ok (.iconst 1, 1) := by decide +kernel
theorem d3_363 : decode method_3_code 363 = .ok (.goto 4, 3) := by decide +kernel
theorem d3_366 : decode method_3_code 366 = .ok (.iconst 0, 1) := by decide +kernel
theorem d3_367 : decode method_3_code 367 = .ok (.iadd, 1) := by decide +kernel
theorem d3_368 : decode method_3_code 368 = .ok (.istore_n 1, 1) := by decide +kernel
theorem d3_369 : decode method_3_code 369 = .ok (.iload_n 1, 1) := by decide +kernel
theorem d3_370 : decode method_3_code 370 = .ok (.iload_n 0, 1) := by decide +kernel
theorem d3_371 : decode method_3_code 371 = .ok (.ldc 9, 2) := by decide +kernel
theorem d3_373 : decode method_3_code 373 = .ok (.if_icmp .lt 7, 3) := by decide +kernel
theorem d3_376 : decode method_3_code 376 = .ok (.iconst 1, 1) := by decide +kernel
theorem d3_377 : decode method_3_code 377 = .ok (.goto 4, 3) := by decide +kernel
theorem d3_380 : decode method_3_code 380 = .ok (.iconst 0, 1) := by decide +kernel
theorem d3_381 : decode method_3_code 381 = .ok (.iadd, 1) := by decide +kernel
theorem d3_382 : decode method_3_code 382 = .ok (.istore_n 1, 1) := by decide +kernel
theorem d3_383 : decode method_3_code 383 = .ok (.iload_n 1, 1) := by decide +kernel
theorem d3_384 : decode method_3_code 384 = .ok (.iload_n 0, 1) := by decide +kernel
theorem d3_385 : decode method_3_code 385 = .ok (.ldc 10, 2) := by decide +kernel
theorem d3_387 : decode method_3_code 387 = .ok (.if_icmp .lt 7, 3) := by decide +kernel
theorem d3_390 : decode method_3_code 390 = .ok (.iconst 1, 1) := by decide +kernel
theorem d3_391 : decode method_3_code 391 = .ok (.goto 4, 3) := by decide +kernel
theorem d3_394 : decode method_3_code 394 = .ok (.iconst 0, 1) := by decide +kernel
theorem d3_395 : decode method_3_code 395 = .ok (.iadd, 1) := by decide +kernel
theorem d3_396 : decode method_3_code 396 = .ok (.istore_n 1, 1) := by decide +kernel
theorem d3_397 : decode method_3_code 397 = .ok (.iload_n 1, 1) := by decide +kernel
theorem d3_398 : decode method_3_code 398 = .ok (.iload_n 0, 1) := by decide +kernel
theorem d3_399 : decode method_3_code 399 = .ok (.ldc 11, 2) := by decide +kernel
theorem d3_401 : decode method_3_code 401 = .ok (.if_icmp .lt 7, 3) := by decide +kernel
theorem d3_404 : decode method_3_code 404 = .ok (.iconst 1, 1) := by decide +kernel
theorem d3_405 : decode method_3_code 405 = .ok (.goto 4, 3) := by decide +kernel
theorem d3_408 : decode method_3_code 408 = .ok (.iconst 0, 1) := by decide +kernel
theorem d3_409 : decode method_3_code 409 = .ok (.iadd, 1) := by decide +kernel
theorem d3_410 : decode method_3_code 410 = .ok (.istore_n 1, 1) := by decide +kernel
theorem d3_411 : decode method_3_code 411 = .ok (.iload_n 1, 1) := by decide +kernel
theorem d3_412 : decode method_3_code 412 = .ok (.iload_n 0, 1) := by decide +kernel
theorem d3_413 : decode method_3_code 413 = .ok (.ldc 12, 2) := by decide +kernel
theorem d3_415 : decode method_3_code 415 = .ok (.if_icmp .lt 7, 3) := by decide +kernel
theorem d3_418 : decode method_3_code 418 = .ok (.iconst 1, 1) := by decide +kernel
theorem d3_419 : decode method_3_code 419 = .ok (.goto 4, 3) := by decide +kernel
theorem d3_422 : decode method_3_code 422 = .ok (.iconst 0, 1) := by decide +kernel
theorem d3_423 : decode method_3_code 423 = .ok (.iadd, 1) := by decide +kernel
theorem d3_424 : decode method_3_code 424 = .ok (.istore_n 1, 1) := by decide +kernel
theorem d3_425 : decode method_3_code 425 = .ok (.iload_n 1, 1) := by decide +kernel
theorem d3_426 : decode method_3_code 426 = .ok (.iload_n 0, 1) := by decide +kernel
theorem d3_427 : decode method_3_code 427 = .ok (.ldc 13, 2) := by decide +kernel
theorem d3_429 : decode method_3_code 429 = .ok (.if_icmp .lt 7, 3) := by decide +kernel
theorem d3_432 : decode method_3_code 432 = .ok (.iconst 1, 1) := by decide +kernel
theorem d3_433 : decode method_3_code 433 = .ok (.goto 4, 3) := by decide +kernel
theorem d3_436 : decode method_3_code 436 = .ok (.iconst 0, 1) := by decide +kernel
theorem d3_437 : decode method_3_code 437 = .ok (.iadd, 1) := by decide +kernel
theorem d3_438 : decode method_3_code 438 = .ok (.istore_n 1, 1) := by decide +kernel
theorem d3_439 : decode method_3_code 439 = .ok (.iload_n 1, 1) := by decide +kernel
theorem d3_440 : decode method_3_code 440 = .ok (.iconst 1, 1) := by decide +kernel
theorem d3_441 : decode method_3_code 441 = .ok (.iand, 1) := by decide +kernel
theorem d3_442 : decode method_3_code 442 = .ok (.iconst 1, 1) := by decide +kernel
theorem d3_443 : decode method_3_code 443 = .ok (.if_icmp .ne 7, 3) := by decide +kernel
theorem d3_446 : decode method_3_code 446 = .ok (.iconst 1, 1) := by decide +kernel
theorem d3_447 : decode method_3_code 447 = .ok (.goto 4, 3) := by decide +kernel
theorem d3_450 : decode method_3_code 450 = .ok (.iconst 0, 1) := by decide +kernel
theorem d3_451 : decode method_3_code 451 = .ok (.ireturn, 1) := by decide +kernel
theorem pn_3 : plainName "com/example/xylem/xylem/model/QNameIsNameStartCharPinLaw" = true := by first | (simp [plainName, overriddenIn]; done) | decide +kernel
theorem pd_3 : parseMethodDescriptor "(I)Z" = some ⟨[.int], some .boolean⟩ := by decide +kernel
theorem ef_3 (m : MethodId) (x0 : Int32) : entryFrame m #[(.int x0)] 2 = mkF m 0 #[.val (.int x0), .unset] [] := by first | (simp [entryFrame, mkF, argsToLocals, Value.category, maxLocals]; done) | rfl
theorem pn_0 : plainName "com/example/xylem/xylem/model/QNameIsNameStartCharPinLaw" = true := by first | (simp [plainName, overriddenIn]; done) | decide +kernel
theorem pd_0 : parseMethodDescriptor "(III)Z" = some ⟨[.int, .int, .int], some .boolean⟩ := by decide +kernel
theorem ef_0 (m : MethodId) (x0 : Int32) (x1 : Int32) (x2 : Int32) : entryFrame m #[(.int x0), (.int x1), (.int x2)] maxLocals = mkF m 0 #[.val (.int x0), .val (.int x1), .val (.int x2), .unset] [] := by first | (simp [entryFrame, mkF, argsToLocals, Value.category, maxLocals]; done) | rfl
def own_ns (x0 : Int32) : Int32 := if ((97 ≤ x0.toInt ∧ x0.toInt ≤ 122) ∨ (65 ≤ x0.toInt ∧ x0.toInt ≤ 90) ∨ (95 ≤ x0.toInt ∧ x0.toInt ≤ 95) ∨ (192 ≤ x0.toInt ∧ x0.toInt ≤ 214) ∨ (216 ≤ x0.toInt ∧ x0.toInt ≤ 246) ∨ (248 ≤ x0.toInt ∧ x0.toInt ≤ 767) ∨ (880 ≤ x0.toInt ∧ x0.toInt ≤ 893) ∨ (895 ≤ x0.toInt ∧ x0.toInt ≤ 8191) ∨ (8204 ≤ x0.toInt ∧ x0.toInt ≤ 8205) ∨ (8304 ≤ x0.toInt ∧ x0.toInt ≤ 8591) ∨ (11264 ≤ x0.toInt ∧ x0.toInt ≤ 12271) ∨ (12289 ≤ x0.toInt ∧ x0.toInt ≤ 55295) ∨ (63744 ≤ x0.toInt ∧ x0.toInt ≤ 64975) ∨ (65008 ≤ x0.toInt ∧ x0.toInt ≤ 65533) ∨ (65536 ≤ x0.toInt ∧ x0.toInt ≤ 983039)) then (1 : Int32) else (0 : Int32)
set_option maxRecDepth 65536 in
set_option maxHeartbeats 40000000 in
theorem wk2_179 {p : Program} {l : Launch} {e : Env} {R : Room} {s : State} {m : MethodId} {args : Array Value} {below : List Frame} {meth : Method} {c : Code} {T : State} {locs : List Loc} {cells slots : Nat} {Z : State} {a0 : Array Value} (X : Stand p l e R s m args below meth c T locs cells slots) (hx : p.tables.exec = Jvm.exec) (hZ : Z.Warmed39 s.vm) (hw : ∀ d ∈ tables_1, d.before a0 Z = true) (hby : c.code = prog_304_method_13_code) (hown : s.vm.findClass "com/example/xylem/xylem/model/QName" = some m.cls) (hret : meth.sig.returnType = some .boolean) {fs : List Frame} (x0 : Int32) (hN : ¬ ((97 ≤ x0.toInt ∧ x0.toInt ≤ 122) ∨ (65 ≤ x0.toInt ∧ x0.toInt ≤ 90) ∨ (95 ≤ x0.toInt ∧ x0.toInt ≤ 95) ∨ (192 ≤ x0.toInt ∧ x0.toInt ≤ 214) ∨ (216 ≤ x0.toInt ∧ x0.toInt ≤ 246) ∨ (248 ≤ x0.toInt ∧ x0.toInt ≤ 767) ∨ (880 ≤ x0.toInt ∧ x0.toInt ≤ 893) ∨ (895 ≤ x0.toInt ∧ x0.toInt ≤ 8191) ∨ (8204 ≤ x0.toInt ∧ x0.toInt ≤ 8205) ∨ (8304 ≤ x0.toInt ∧ x0.toInt ≤ 8591) ∨ (11264 ≤ x0.toInt ∧ x0.toInt ≤ 12271) ∨ (12289 ≤ x0.toInt ∧ x0.toInt ≤ 55295) ∨ (63744 ≤ x0.toInt ∧ x0.toInt ≤ 64975) ∨ (65008 ≤ x0.toInt ∧ x0.toInt ≤ 65533))) (hr : ∀ (f : JFrame) (acts : List Action), f.method = m → f.locked = none → f.entered = [] → (doReturn e (T.setTop f) acts (some (.int (own_ns x0)))).1 = T.setFrames fs) : Steps p.tables e below (T.setTop (mkF m 179 #[.val (.int x0)] [])) (T.setFrames fs) := by
  show Steps p.tables e below (T.setTop (mkF m 179 #[.val (.int x0)] [])) _
  refine XS.iloadN X.here hx rfl (hb hby d2_179) rfl ?_
  show Steps p.tables e below (T.setTop (mkF m 180 #[.val (.int x0)] [(.int x0)])) _
  refine X.ldcInt hx hown (mvT hZ (hw _ (List.mem_of_getElem? (i := 19) rfl))) (g := (mkF m 180 #[.val (.int x0)] [(.int x0)])) rfl (hb hby d2_180) _ ?_
  show Steps p.tables e below (T.setTop (mkF m 182 #[.val (.int x0)] [(.int (65536 : Int32)), (.int x0)])) _
  by_cases hc182 : x0 < (65536 : Int32)
  · refine XS.icmpYes X.here hx rfl (pc0 := 182) (pc' := 195) rfl (hb hby d2_182) rfl (tlt hc182).1 (by decide) (by decide) ?_
    show Steps p.tables e below (T.setTop (mkF m 195 #[.val (.int x0)] [])) _
    refine XS.iconst X.here hx rfl (hb hby d2_195) ?_
    show Steps p.tables e below (T.setTop (mkF m 196 #[.val (.int x0)] [(.int (0 : Int32))])) _
    have q_hc182 := (own_lt_iff rfl own_k65536).mp hc182
    have hv : own_ns x0 = (0 : Int32) := by unfold own_ns; exact if_neg (by omega)
    rw [hv] at hr
    exact retN X hx (t := .boolean) hret (by simp) (hb hby d2_196) hr
  · refine XS.icmpNo X.here hx rfl (hb hby d2_182) rfl (flt hc182).1 ?_
    show Steps p.tables e below (T.setTop (mkF m 185 #[.val (.int x0)] [])) _
    refine XS.iloadN X.here hx rfl (hb hby d2_185) rfl ?_
    show Steps p.tables e below (T.setTop (mkF m 186 #[.val (.int x0)] [(.int x0)])) _
    refine X.ldcInt hx hown (mvT hZ (hw _ (List.mem_of_getElem? (i := 26) rfl))) (g := (mkF m 186 #[.val (.int x0)] [(.int x0)])) rfl (hb hby d2_186) _ ?_
    show Steps p.tables e below (T.setTop (mkF m 188 #[.val (.int x0)] [(.int (983039 : Int32)), (.int x0)])) _
    by_cases hc188 : (983039 : Int32) < x0
    · refine XS.icmpYes X.here hx rfl (pc0 := 188) (pc' := 195) rfl (hb hby d2_188) rfl (tlt hc188).2.2.1 (by decide) (by decide) ?_
      show Steps p.tables e below (T.setTop (mkF m 195 #[.val (.int x0)] [])) _
      refine XS.iconst X.here hx rfl (hb hby d2_195) ?_
      show Steps p.tables e below (T.setTop (mkF m 196 #[.val (.int x0)] [(.int (0 : Int32))])) _
      have q_hc182 := mt (own_lt_iff rfl own_k65536).mpr hc182
      have q_hc188 := (own_lt_iff own_k983039 rfl).mp hc188
      have hv : own_ns x0 = (0 : Int32) := by unfold own_ns; exact if_neg (by omega)
      rw [hv] at hr
      exact retN X hx (t := .boolean) hret (by simp) (hb hby d2_196) hr
    · refine XS.icmpNo X.here hx rfl (hb hby d2_188) rfl (flt hc188).2.2.1 ?_
      show Steps p.tables e below (T.setTop (mkF m 191 #[.val (.int x0)] [])) _
      refine XS.iconst X.here hx rfl (hb hby d2_191) ?_
      show Steps p.tables e below (T.setTop (mkF m 192 #[.val (.int x0)] [(.int (1 : Int32))])) _
      refine XS.goto X.here hx rfl (pc0 := 192) (pc' := 196) rfl (hb hby d2_192) (by decide) (by decide) ?_
      show Steps p.tables e below (T.setTop (mkF m 196 #[.val (.int x0)] [(.int (1 : Int32))])) _
      have q_hc182 := mt (own_lt_iff rfl own_k65536).mpr hc182
      have q_hc188 := mt (own_lt_iff own_k983039 rfl).mpr hc188
      have hv : own_ns x0 = (1 : Int32) := by unfold own_ns; exact if_pos (by omega)
      rw [hv] at hr
      exact retN X hx (t := .boolean) hret (by simp) (hb hby d2_196) hr
set_option maxRecDepth 65536 in
set_option maxHeartbeats 40000000 in
theorem wk2_167 {p : Program} {l : Launch} {e : Env} {R : Room} {s : State} {m : MethodId} {args : Array Value} {below : List Frame} {meth : Method} {c : Code} {T : State} {locs : List Loc} {cells slots : Nat} {Z : State} {a0 : Array Value} (X : Stand p l e R s m args below meth c T locs cells slots) (hx : p.tables.exec = Jvm.exec) (hZ : Z.Warmed39 s.vm) (hw : ∀ d ∈ tables_1, d.before a0 Z = true) (hby : c.code = prog_304_method_13_code) (hown : s.vm.findClass "com/example/xylem/xylem/model/QName" = some m.cls) (hret : meth.sig.returnType = some .boolean) {fs : List Frame} (x0 : Int32) (hN : ¬ ((97 ≤ x0.toInt ∧ x0.toInt ≤ 122) ∨ (65 ≤ x0.toInt ∧ x0.toInt ≤ 90) ∨ (95 ≤ x0.toInt ∧ x0.toInt ≤ 95) ∨ (192 ≤ x0.toInt ∧ x0.toInt ≤ 214) ∨ (216 ≤ x0.toInt ∧ x0.toInt ≤ 246) ∨ (248 ≤ x0.toInt ∧ x0.toInt ≤ 767) ∨ (880 ≤ x0.toInt ∧ x0.toInt ≤ 893) ∨ (895 ≤ x0.toInt ∧ x0.toInt ≤ 8191) ∨ (8204 ≤ x0.toInt ∧ x0.toInt ≤ 8205) ∨ (8304 ≤ x0.toInt ∧ x0.toInt ≤ 8591) ∨ (11264 ≤ x0.toInt ∧ x0.toInt ≤ 12271) ∨ (12289 ≤ x0.toInt ∧ x0.toInt ≤ 55295) ∨ (63744 ≤ x0.toInt ∧ x0.toInt ≤ 64975))) (hr : ∀ (f : JFrame) (acts : List Action), f.method = m → f.locked = none → f.entered = [] → (doReturn e (T.setTop f) acts (some (.int (own_ns x0)))).1 = T.setFrames fs) : Steps p.tables e below (T.setTop (mkF m 167 #[.val (.int x0)] [])) (T.setFrames fs) := by
  show Steps p.tables e below (T.setTop (mkF m 167 #[.val (.int x0)] [])) _
  refine XS.iloadN X.here hx rfl (hb hby d2_167) rfl ?_
  show Steps p.tables e below (T.setTop (mkF m 168 #[.val (.int x0)] [(.int x0)])) _
  refine X.ldcInt hx hown (mvT hZ (hw _ (List.mem_of_getElem? (i := 18) rfl))) (g := (mkF m 168 #[.val (.int x0)] [(.int x0)])) rfl (hb hby d2_168) _ ?_
  show Steps p.tables e below (T.setTop (mkF m 170 #[.val (.int x0)] [(.int (65008 : Int32)), (.int x0)])) _
  by_cases hc170 : x0 < (65008 : Int32)
  · refine XS.icmpYes X.here hx rfl (pc0 := 170) (pc' := 179) rfl (hb hby d2_170) rfl (tlt hc170).1 (by decide) (by decide) ?_
    have q_hc170 := (own_lt_iff rfl own_k65008).mp hc170
    exact wk2_179 X hx hZ hw hby hown hret x0 (by omega) hr
  · refine XS.icmpNo X.here hx rfl (hb hby d2_170) rfl (flt hc170).1 ?_
    show Steps p.tables e below (T.setTop (mkF m 173 #[.val (.int x0)] [])) _
    refine XS.iloadN X.here hx rfl (hb hby d2_173) rfl ?_
    show Steps p.tables e below (T.setTop (mkF m 174 #[.val (.int x0)] [(.int x0)])) _
    refine X.ldcInt hx hown (mvT hZ (hw _ (List.mem_of_getElem? (i := 25) rfl))) (g := (mkF m 174 #[.val (.int x0)] [(.int x0)])) rfl (hb hby d2_174) _ ?_
    show Steps p.tables e below (T.setTop (mkF m 176 #[.val (.int x0)] [(.int (65533 : Int32)), (.int x0)])) _
    by_cases hc176 : (65533 : Int32) < x0
    · refine XS.icmpNo X.here hx rfl (hb hby d2_176) rfl (tlt hc176).2.2.2 ?_
      have q_hc170 := mt (own_lt_iff rfl own_k65008).mpr hc170
      have q_hc176 := (own_lt_iff own_k65533 rfl).mp hc176
      exact wk2_179 X hx hZ hw hby hown hret x0 (by omega) hr
    · refine XS.icmpYes X.here hx rfl (pc0 := 176) (pc' := 191) rfl (hb hby d2_176) rfl (flt hc176).2.2.2 (by decide) (by decide) ?_
      show Steps p.tables e below (T.setTop (mkF m 191 #[.val (.int x0)] [])) _
      refine XS.iconst X.here hx rfl (hb hby d2_191) ?_
      show Steps p.tables e below (T.setTop (mkF m 192 #[.val (.int x0)] [(.int (1 : Int32))])) _
      refine XS.goto X.here hx rfl (pc0 := 192) (pc' := 196) rfl (hb hby d2_192) (by decide) (by decide) ?_
      show Steps p.tables e below (T.setTop (mkF m 196 #[.val (.int x0)] [(.int (1 : Int32))])) _
      have q_hc170 := mt (own_lt_iff rfl own_k65008).mpr hc170
      have q_hc176 := mt (own_lt_iff own_k65533 rfl).mpr hc176
      have hv : own_ns x0 = (1 : Int32) := by unfold own_ns; exact if_pos (by omega)
      rw [hv] at hr
      exact retN X hx (t := .boolean) hret (by simp) (hb hby d2_196) hr
set_option maxRecDepth 65536 in
set_option maxHeartbeats 40000000 in
theorem wk2_155 {p : Program} {l : Launch} {e : Env} {R : Room} {s : State} {m : MethodId} {args : Array Value} {below : List Frame} {meth : Method} {c : Code} {T : State} {locs : List Loc} {cells slots : Nat} {Z : State} {a0 : Array Value} (X : Stand p l e R s m args below meth c T locs cells slots) (hx : p.tables.exec = Jvm.exec) (hZ : Z.Warmed39 s.vm) (hw : ∀ d ∈ tables_1, d.before a0 Z = true) (hby : c.code = prog_304_method_13_code) (hown : s.vm.findClass "com/example/xylem/xylem/model/QName" = some m.cls) (hret : meth.sig.returnType = some .boolean) {fs : List Frame} (x0 : Int32) (hN : ¬ ((97 ≤ x0.toInt ∧ x0.toInt ≤ 122) ∨ (65 ≤ x0.toInt ∧ x0.toInt ≤ 90) ∨ (95 ≤ x0.toInt ∧ x0.toInt ≤ 95) ∨ (192 ≤ x0.toInt ∧ x0.toInt ≤ 214) ∨ (216 ≤ x0.toInt ∧ x0.toInt ≤ 246) ∨ (248 ≤ x0.toInt ∧ x0.toInt ≤ 767) ∨ (880 ≤ x0.toInt ∧ x0.toInt ≤ 893) ∨ (895 ≤ x0.toInt ∧ x0.toInt ≤ 8191) ∨ (8204 ≤ x0.toInt ∧ x0.toInt ≤ 8205) ∨ (8304 ≤ x0.toInt ∧ x0.toInt ≤ 8591) ∨ (11264 ≤ x0.toInt ∧ x0.toInt ≤ 12271) ∨ (12289 ≤ x0.toInt ∧ x0.toInt ≤ 55295))) (hr : ∀ (f : JFrame) (acts : List Action), f.method = m → f.locked = none → f.entered = [] → (doReturn e (T.setTop f) acts (some (.int (own_ns x0)))).1 = T.setFrames fs) : Steps p.tables e below (T.setTop (mkF m 155 #[.val (.int x0)] [])) (T.setFrames fs) := by
  show Steps p.tables e below (T.setTop (mkF m 155 #[.val (.int x0)] [])) _
  refine XS.iloadN X.here hx rfl (hb hby d2_155) rfl ?_
  show Steps p.tables e below (T.setTop (mkF m 156 #[.val (.int x0)] [(.int x0)])) _
  refine X.ldcInt hx hown (mvT hZ (hw _ (List.mem_of_getElem? (i := 17) rfl))) (g := (mkF m 156 #[.val (.int x0)] [(.int x0)])) rfl (hb hby d2_156) _ ?_
  show Steps p.tables e below (T.setTop (mkF m 158 #[.val (.int x0)] [(.int (63744 : Int32)), (.int x0)])) _
  by_cases hc158 : x0 < (63744 : Int32)
  · refine XS.icmpYes X.here hx rfl (pc0 := 158) (pc' := 167) rfl (hb hby d2_158) rfl (tlt hc158).1 (by decide) (by decide) ?_
    have q_hc158 := (own_lt_iff rfl own_k63744).mp hc158
    exact wk2_167 X hx hZ hw hby hown hret x0 (by omega) hr
  · refine XS.icmpNo X.here hx rfl (hb hby d2_158) rfl (flt hc158).1 ?_
    show Steps p.tables e below (T.setTop (mkF m 161 #[.val (.int x0)] [])) _
    refine XS.iloadN X.here hx rfl (hb hby d2_161) rfl ?_
    show Steps p.tables e below (T.setTop (mkF m 162 #[.val (.int x0)] [(.int x0)])) _
    refine X.ldcInt hx hown (mvT hZ (hw _ (List.mem_of_getElem? (i := 24) rfl))) (g := (mkF m 162 #[.val (.int x0)] [(.int x0)])) rfl (hb hby d2_162) _ ?_
    show Steps p.tables e below (T.setTop (mkF m 164 #[.val (.int x0)] [(.int (64975 : Int32)), (.int x0)])) _
    by_cases hc164 : (64975 : Int32) < x0
    · refine XS.icmpNo X.here hx rfl (hb hby d2_164) rfl (tlt hc164).2.2.2 ?_
      have q_hc158 := mt (own_lt_iff rfl own_k63744).mpr hc158
      have q_hc164 := (own_lt_iff own_k64975 rfl).mp hc164
      exact wk2_167 X hx hZ hw hby hown hret x0 (by omega) hr
    · refine XS.icmpYes X.here hx rfl (pc0 := 164) (pc' := 191) rfl (hb hby d2_164) rfl (flt hc164).2.2.2 (by decide) (by decide) ?_
      show Steps p.tables e below (T.setTop (mkF m 191 #[.val (.int x0)] [])) _
      refine XS.iconst X.here hx rfl (hb hby d2_191) ?_
      show Steps p.tables e below (T.setTop (mkF m 192 #[.val (.int x0)] [(.int (1 : Int32))])) _
      refine XS.goto X.here hx rfl (pc0 := 192) (pc' := 196) rfl (hb hby d2_192) (by decide) (by decide) ?_
      show Steps p.tables e below (T.setTop (mkF m 196 #[.val (.int x0)] [(.int (1 : Int32))])) _
      have q_hc158 := mt (own_lt_iff rfl own_k63744).mpr hc158
      have q_hc164 := mt (own_lt_iff own_k64975 rfl).mpr hc164
      have hv : own_ns x0 = (1 : Int32) := by unfold own_ns; exact if_pos (by omega)
      rw [hv] at hr
      exact retN X hx (t := .boolean) hret (by simp) (hb hby d2_196) hr
set_option maxRecDepth 65536 in
set_option maxHeartbeats 40000000 in
theorem wk2_142 {p : Program} {l : Launch} {e : Env} {R : Room} {s : State} {m : MethodId} {args : Array Value} {below : List Frame} {meth : Method} {c : Code} {T : State} {locs : List Loc} {cells slots : Nat} {Z : State} {a0 : Array Value} (X : Stand p l e R s m args below meth c T locs cells slots) (hx : p.tables.exec = Jvm.exec) (hZ : Z.Warmed39 s.vm) (hw : ∀ d ∈ tables_1, d.before a0 Z = true) (hby : c.code = prog_304_method_13_code) (hown : s.vm.findClass "com/example/xylem/xylem/model/QName" = some m.cls) (hret : meth.sig.returnType = some .boolean) {fs : List Frame} (x0 : Int32) (hN : ¬ ((97 ≤ x0.toInt ∧ x0.toInt ≤ 122) ∨ (65 ≤ x0.toInt ∧ x0.toInt ≤ 90) ∨ (95 ≤ x0.toInt ∧ x0.toInt ≤ 95) ∨ (192 ≤ x0.toInt ∧ x0.toInt ≤ 214) ∨ (216 ≤ x0.toInt ∧ x0.toInt ≤ 246) ∨ (248 ≤ x0.toInt ∧ x0.toInt ≤ 767) ∨ (880 ≤ x0.toInt ∧ x0.toInt ≤ 893) ∨ (895 ≤ x0.toInt ∧ x0.toInt ≤ 8191) ∨ (8204 ≤ x0.toInt ∧ x0.toInt ≤ 8205) ∨ (8304 ≤ x0.toInt ∧ x0.toInt ≤ 8591) ∨ (11264 ≤ x0.toInt ∧ x0.toInt ≤ 12271))) (hr : ∀ (f : JFrame) (acts : List Action), f.method = m → f.locked = none → f.entered = [] → (doReturn e (T.setTop f) acts (some (.int (own_ns x0)))).1 = T.setFrames fs) : Steps p.tables e below (T.setTop (mkF m 142 #[.val (.int x0)] [])) (T.setFrames fs) := by
  show Steps p.tables e below (T.setTop (mkF m 142 #[.val (.int x0)] [])) _
  refine XS.iloadN X.here hx rfl (hb hby d2_142) rfl ?_
  show Steps p.tables e below (T.setTop (mkF m 143 #[.val (.int x0)] [(.int x0)])) _
  refine XS.sipush X.here hx rfl (hb hby d2_143) ?_
  show Steps p.tables e below (T.setTop (mkF m 146 #[.val (.int x0)] [(.int (12289 : Int32)), (.int x0)])) _
  by_cases hc146 : x0 < (12289 : Int32)
  · refine XS.icmpYes X.here hx rfl (pc0 := 146) (pc' := 155) rfl (hb hby d2_146) rfl (tlt hc146).1 (by decide) (by decide) ?_
    have q_hc146 := (own_lt_iff rfl own_k12289).mp hc146
    exact wk2_155 X hx hZ hw hby hown hret x0 (by omega) hr
  · refine XS.icmpNo X.here hx rfl (hb hby d2_146) rfl (flt hc146).1 ?_
    show Steps p.tables e below (T.setTop (mkF m 149 #[.val (.int x0)] [])) _
    refine XS.iloadN X.here hx rfl (hb hby d2_149) rfl ?_
    show Steps p.tables e below (T.setTop (mkF m 150 #[.val (.int x0)] [(.int x0)])) _
    refine X.ldcInt hx hown (mvT hZ (hw _ (List.mem_of_getElem? (i := 23) rfl))) (g := (mkF m 150 #[.val (.int x0)] [(.int x0)])) rfl (hb hby d2_150) _ ?_
    show Steps p.tables e below (T.setTop (mkF m 152 #[.val (.int x0)] [(.int (55295 : Int32)), (.int x0)])) _
    by_cases hc152 : (55295 : Int32) < x0
    · refine XS.icmpNo X.here hx rfl (hb hby d2_152) rfl (tlt hc152).2.2.2 ?_
      have q_hc146 := mt (own_lt_iff rfl own_k12289).mpr hc146
      have q_hc152 := (own_lt_iff own_k55295 rfl).mp hc152
      exact wk2_155 X hx hZ hw hby hown hret x0 (by omega) hr
    · refine XS.icmpYes X.here hx rfl (pc0 := 152) (pc' := 191) rfl (hb hby d2_152) rfl (flt hc152).2.2.2 (by decide) (by decide) ?_
      show Steps p.tables e below (T.setTop (mkF m 191 #[.val (.int x0)] [])) _
      refine XS.iconst X.here hx rfl (hb hby d2_191) ?_
      show Steps p.tables e below (T.setTop (mkF m 192 #[.val (.int x0)] [(.int (1 : Int32))])) _
      refine XS.goto X.here hx rfl (pc0 := 192) (pc' := 196) rfl (hb hby d2_192) (by decide) (by decide) ?_
      show Steps p.tables e below (T.setTop (mkF m 196 #[.val (.int x0)] [(.int (1 : Int32))])) _
      have q_hc146 := mt (own_lt_iff rfl own_k12289).mpr hc146
      have q_hc152 := mt (own_lt_iff own_k55295 rfl).mpr hc152
      have hv : own_ns x0 = (1 : Int32) := by unfold own_ns; exact if_pos (by omega)
      rw [hv] at hr
      exact retN X hx (t := .boolean) hret (by simp) (hb hby d2_196) hr
set_option maxRecDepth 65536 in
set_option maxHeartbeats 40000000 in
theorem wk2_128 {p : Program} {l : Launch} {e : Env} {R : Room} {s : State} {m : MethodId} {args : Array Value} {below : List Frame} {meth : Method} {c : Code} {T : State} {locs : List Loc} {cells slots : Nat} {Z : State} {a0 : Array Value} (X : Stand p l e R s m args below meth c T locs cells slots) (hx : p.tables.exec = Jvm.exec) (hZ : Z.Warmed39 s.vm) (hw : ∀ d ∈ tables_1, d.before a0 Z = true) (hby : c.code = prog_304_method_13_code) (hown : s.vm.findClass "com/example/xylem/xylem/model/QName" = some m.cls) (hret : meth.sig.returnType = some .boolean) {fs : List Frame} (x0 : Int32) (hN : ¬ ((97 ≤ x0.toInt ∧ x0.toInt ≤ 122) ∨ (65 ≤ x0.toInt ∧ x0.toInt ≤ 90) ∨ (95 ≤ x0.toInt ∧ x0.toInt ≤ 95) ∨ (192 ≤ x0.toInt ∧ x0.toInt ≤ 214) ∨ (216 ≤ x0.toInt ∧ x0.toInt ≤ 246) ∨ (248 ≤ x0.toInt ∧ x0.toInt ≤ 767) ∨ (880 ≤ x0.toInt ∧ x0.toInt ≤ 893) ∨ (895 ≤ x0.toInt ∧ x0.toInt ≤ 8191) ∨ (8204 ≤ x0.toInt ∧ x0.toInt ≤ 8205) ∨ (8304 ≤ x0.toInt ∧ x0.toInt ≤ 8591))) (hr : ∀ (f : JFrame) (acts : List Action), f.method = m → f.locked = none → f.entered = [] → (doReturn e (T.setTop f) acts (some (.int (own_ns x0)))).1 = T.setFrames fs) : Steps p.tables e below (T.setTop (mkF m 128 #[.val (.int x0)] [])) (T.setFrames fs) := by
  show Steps p.tables e below (T.setTop (mkF m 128 #[.val (.int x0)] [])) _
  refine XS.iloadN X.here hx rfl (hb hby d2_128) rfl ?_
  show Steps p.tables e below (T.setTop (mkF m 129 #[.val (.int x0)] [(.int x0)])) _
  refine XS.sipush X.here hx rfl (hb hby d2_129) ?_
  show Steps p.tables e below (T.setTop (mkF m 132 #[.val (.int x0)] [(.int (11264 : Int32)), (.int x0)])) _
  by_cases hc132 : x0 < (11264 : Int32)
  · refine XS.icmpYes X.here hx rfl (pc0 := 132) (pc' := 142) rfl (hb hby d2_132) rfl (tlt hc132).1 (by decide) (by decide) ?_
    have q_hc132 := (own_lt_iff rfl own_k11264).mp hc132
    exact wk2_142 X hx hZ hw hby hown hret x0 (by omega) hr
  · refine XS.icmpNo X.here hx rfl (hb hby d2_132) rfl (flt hc132).1 ?_
    show Steps p.tables e below (T.setTop (mkF m 135 #[.val (.int x0)] [])) _
    refine XS.iloadN X.here hx rfl (hb hby d2_135) rfl ?_
    show Steps p.tables e below (T.setTop (mkF m 136 #[.val (.int x0)] [(.int x0)])) _
    refine XS.sipush X.here hx rfl (hb hby d2_136) ?_
    show Steps p.tables e below (T.setTop (mkF m 139 #[.val (.int x0)] [(.int (12271 : Int32)), (.int x0)])) _
    by_cases hc139 : (12271 : Int32) < x0
    · refine XS.icmpNo X.here hx rfl (hb hby d2_139) rfl (tlt hc139).2.2.2 ?_
      have q_hc132 := mt (own_lt_iff rfl own_k11264).mpr hc132
      have q_hc139 := (own_lt_iff own_k12271 rfl).mp hc139
      exact wk2_142 X hx hZ hw hby hown hret x0 (by omega) hr
    · refine XS.icmpYes X.here hx rfl (pc0 := 139) (pc' := 191) rfl (hb hby d2_139) rfl (flt hc139).2.2.2 (by decide) (by decide) ?_
      show Steps p.tables e below (T.setTop (mkF m 191 #[.val (.int x0)] [])) _
      refine XS.iconst X.here hx rfl (hb hby d2_191) ?_
      show Steps p.tables e below (T.setTop (mkF m 192 #[.val (.int x0)] [(.int (1 : Int32))])) _
      refine XS.goto X.here hx rfl (pc0 := 192) (pc' := 196) rfl (hb hby d2_192) (by decide) (by decide) ?_
      show Steps p.tables e below (T.setTop (mkF m 196 #[.val (.int x0)] [(.int (1 : Int32))])) _
      have q_hc132 := mt (own_lt_iff rfl own_k11264).mpr hc132
      have q_hc139 := mt (own_lt_iff own_k12271 rfl).mpr hc139
      have hv : own_ns x0 = (1 : Int32) := by unfold own_ns; exact if_pos (by omega)
      rw [hv] at hr
      exact retN X hx (t := .boolean) hret (by simp) (hb hby d2_196) hr
set_option maxRecDepth 65536 in
set_option maxHeartbeats 40000000 in
theorem wk2_114 {p : Program} {l : Launch} {e : Env} {R : Room} {s : State} {m : MethodId} {args : Array Value} {below : List Frame} {meth : Method} {c : Code} {T : State} {locs : List Loc} {cells slots : Nat} {Z : State} {a0 : Array Value} (X : Stand p l e R s m args below meth c T locs cells slots) (hx : p.tables.exec = Jvm.exec) (hZ : Z.Warmed39 s.vm) (hw : ∀ d ∈ tables_1, d.before a0 Z = true) (hby : c.code = prog_304_method_13_code) (hown : s.vm.findClass "com/example/xylem/xylem/model/QName" = some m.cls) (hret : meth.sig.returnType = some .boolean) {fs : List Frame} (x0 : Int32) (hN : ¬ ((97 ≤ x0.toInt ∧ x0.toInt ≤ 122) ∨ (65 ≤ x0.toInt ∧ x0.toInt ≤ 90) ∨ (95 ≤ x0.toInt ∧ x0.toInt ≤ 95) ∨ (192 ≤ x0.toInt ∧ x0.toInt ≤ 214) ∨ (216 ≤ x0.toInt ∧ x0.toInt ≤ 246) ∨ (248 ≤ x0.toInt ∧ x0.toInt ≤ 767) ∨ (880 ≤ x0.toInt ∧ x0.toInt ≤ 893) ∨ (895 ≤ x0.toInt ∧ x0.toInt ≤ 8191) ∨ (8204 ≤ x0.toInt ∧ x0.toInt ≤ 8205))) (hr : ∀ (f : JFrame) (acts : List Action), f.method = m → f.locked = none → f.entered = [] → (doReturn e (T.setTop f) acts (some (.int (own_ns x0)))).1 = T.setFrames fs) : Steps p.tables e below (T.setTop (mkF m 114 #[.val (.int x0)] [])) (T.setFrames fs) := by
  show Steps p.tables e below (T.setTop (mkF m 114 #[.val (.int x0)] [])) _
  refine XS.iloadN X.here hx rfl (hb hby d2_114) rfl ?_
  show Steps p.tables e below (T.setTop (mkF m 115 #[.val (.int x0)] [(.int x0)])) _
  refine XS.sipush X.here hx rfl (hb hby d2_115) ?_
  show Steps p.tables e below (T.setTop (mkF m 118 #[.val (.int x0)] [(.int (8304 : Int32)), (.int x0)])) _
  by_cases hc118 : x0 < (8304 : Int32)
  · refine XS.icmpYes X.here hx rfl (pc0 := 118) (pc' := 128) rfl (hb hby d2_118) rfl (tlt hc118).1 (by decide) (by decide) ?_
    have q_hc118 := (own_lt_iff rfl own_k8304).mp hc118
    exact wk2_128 X hx hZ hw hby hown hret x0 (by omega) hr
  · refine XS.icmpNo X.here hx rfl (hb hby d2_118) rfl (flt hc118).1 ?_
    show Steps p.tables e below (T.setTop (mkF m 121 #[.val (.int x0)] [])) _
    refine XS.iloadN X.here hx rfl (hb hby d2_121) rfl ?_
    show Steps p.tables e below (T.setTop (mkF m 122 #[.val (.int x0)] [(.int x0)])) _
    refine XS.sipush X.here hx rfl (hb hby d2_122) ?_
    show Steps p.tables e below (T.setTop (mkF m 125 #[.val (.int x0)] [(.int (8591 : Int32)), (.int x0)])) _
    by_cases hc125 : (8591 : Int32) < x0
    · refine XS.icmpNo X.here hx rfl (hb hby d2_125) rfl (tlt hc125).2.2.2 ?_
      have q_hc118 := mt (own_lt_iff rfl own_k8304).mpr hc118
      have q_hc125 := (own_lt_iff own_k8591 rfl).mp hc125
      exact wk2_128 X hx hZ hw hby hown hret x0 (by omega) hr
    · refine XS.icmpYes X.here hx rfl (pc0 := 125) (pc' := 191) rfl (hb hby d2_125) rfl (flt hc125).2.2.2 (by decide) (by decide) ?_
      show Steps p.tables e below (T.setTop (mkF m 191 #[.val (.int x0)] [])) _
      refine XS.iconst X.here hx rfl (hb hby d2_191) ?_
      show Steps p.tables e below (T.setTop (mkF m 192 #[.val (.int x0)] [(.int (1 : Int32))])) _
      refine XS.goto X.here hx rfl (pc0 := 192) (pc' := 196) rfl (hb hby d2_192) (by decide) (by decide) ?_
      show Steps p.tables e below (T.setTop (mkF m 196 #[.val (.int x0)] [(.int (1 : Int32))])) _
      have q_hc118 := mt (own_lt_iff rfl own_k8304).mpr hc118
      have q_hc125 := mt (own_lt_iff own_k8591 rfl).mpr hc125
      have hv : own_ns x0 = (1 : Int32) := by unfold own_ns; exact if_pos (by omega)
      rw [hv] at hr
      exact retN X hx (t := .boolean) hret (by simp) (hb hby d2_196) hr
set_option maxRecDepth 65536 in
set_option maxHeartbeats 40000000 in
theorem wk2_100 {p : Program} {l : Launch} {e : Env} {R : Room} {s : State} {m : MethodId} {args : Array Value} {below : List Frame} {meth : Method} {c : Code} {T : State} {locs : List Loc} {cells slots : Nat} {Z : State} {a0 : Array Value} (X : Stand p l e R s m args below meth c T locs cells slots) (hx : p.tables.exec = Jvm.exec) (hZ : Z.Warmed39 s.vm) (hw : ∀ d ∈ tables_1, d.before a0 Z = true) (hby : c.code = prog_304_method_13_code) (hown : s.vm.findClass "com/example/xylem/xylem/model/QName" = some m.cls) (hret : meth.sig.returnType = some .boolean) {fs : List Frame} (x0 : Int32) (hN : ¬ ((97 ≤ x0.toInt ∧ x0.toInt ≤ 122) ∨ (65 ≤ x0.toInt ∧ x0.toInt ≤ 90) ∨ (95 ≤ x0.toInt ∧ x0.toInt ≤ 95) ∨ (192 ≤ x0.toInt ∧ x0.toInt ≤ 214) ∨ (216 ≤ x0.toInt ∧ x0.toInt ≤ 246) ∨ (248 ≤ x0.toInt ∧ x0.toInt ≤ 767) ∨ (880 ≤ x0.toInt ∧ x0.toInt ≤ 893) ∨ (895 ≤ x0.toInt ∧ x0.toInt ≤ 8191))) (hr : ∀ (f : JFrame) (acts : List Action), f.method = m → f.locked = none → f.entered = [] → (doReturn e (T.setTop f) acts (some (.int (own_ns x0)))).1 = T.setFrames fs) : Steps p.tables e below (T.setTop (mkF m 100 #[.val (.int x0)] [])) (T.setFrames fs) := by
  show Steps p.tables e below (T.setTop (mkF m 100 #[.val (.int x0)] [])) _
  refine XS.iloadN X.here hx rfl (hb hby d2_100) rfl ?_
  show Steps p.tables e below (T.setTop (mkF m 101 #[.val (.int x0)] [(.int x0)])) _
  refine XS.sipush X.here hx rfl (hb hby d2_101) ?_
  show Steps p.tables e below (T.setTop (mkF m 104 #[.val (.int x0)] [(.int (8204 : Int32)), (.int x0)])) _
  by_cases hc104 : x0 < (8204 : Int32)
  · refine XS.icmpYes X.here hx rfl (pc0 := 104) (pc' := 114) rfl (hb hby d2_104) rfl (tlt hc104).1 (by decide) (by decide) ?_
    have q_hc104 := (own_lt_iff rfl own_k8204).mp hc104
    exact wk2_114 X hx hZ hw hby hown hret x0 (by omega) hr
  · refine XS.icmpNo X.here hx rfl (hb hby d2_104) rfl (flt hc104).1 ?_
    show Steps p.tables e below (T.setTop (mkF m 107 #[.val (.int x0)] [])) _
    refine XS.iloadN X.here hx rfl (hb hby d2_107) rfl ?_
    show Steps p.tables e below (T.setTop (mkF m 108 #[.val (.int x0)] [(.int x0)])) _
    refine XS.sipush X.here hx rfl (hb hby d2_108) ?_
    show Steps p.tables e below (T.setTop (mkF m 111 #[.val (.int x0)] [(.int (8205 : Int32)), (.int x0)])) _
    by_cases hc111 : (8205 : Int32) < x0
    · refine XS.icmpNo X.here hx rfl (hb hby d2_111) rfl (tlt hc111).2.2.2 ?_
      have q_hc104 := mt (own_lt_iff rfl own_k8204).mpr hc104
      have q_hc111 := (own_lt_iff own_k8205 rfl).mp hc111
      exact wk2_114 X hx hZ hw hby hown hret x0 (by omega) hr
    · refine XS.icmpYes X.here hx rfl (pc0 := 111) (pc' := 191) rfl (hb hby d2_111) rfl (flt hc111).2.2.2 (by decide) (by decide) ?_
      show Steps p.tables e below (T.setTop (mkF m 191 #[.val (.int x0)] [])) _
      refine XS.iconst X.here hx rfl (hb hby d2_191) ?_
      show Steps p.tables e below (T.setTop (mkF m 192 #[.val (.int x0)] [(.int (1 : Int32))])) _
      refine XS.goto X.here hx rfl (pc0 := 192) (pc' := 196) rfl (hb hby d2_192) (by decide) (by decide) ?_
      show Steps p.tables e below (T.setTop (mkF m 196 #[.val (.int x0)] [(.int (1 : Int32))])) _
      have q_hc104 := mt (own_lt_iff rfl own_k8204).mpr hc104
      have q_hc111 := mt (own_lt_iff own_k8205 rfl).mpr hc111
      have hv : own_ns x0 = (1 : Int32) := by unfold own_ns; exact if_pos (by omega)
      rw [hv] at hr
      exact retN X hx (t := .boolean) hret (by simp) (hb hby d2_196) hr
set_option maxRecDepth 65536 in
set_option maxHeartbeats 40000000 in
theorem wk2_86 {p : Program} {l : Launch} {e : Env} {R : Room} {s : State} {m : MethodId} {args : Array Value} {below : List Frame} {meth : Method} {c : Code} {T : State} {locs : List Loc} {cells slots : Nat} {Z : State} {a0 : Array Value} (X : Stand p l e R s m args below meth c T locs cells slots) (hx : p.tables.exec = Jvm.exec) (hZ : Z.Warmed39 s.vm) (hw : ∀ d ∈ tables_1, d.before a0 Z = true) (hby : c.code = prog_304_method_13_code) (hown : s.vm.findClass "com/example/xylem/xylem/model/QName" = some m.cls) (hret : meth.sig.returnType = some .boolean) {fs : List Frame} (x0 : Int32) (hN : ¬ ((97 ≤ x0.toInt ∧ x0.toInt ≤ 122) ∨ (65 ≤ x0.toInt ∧ x0.toInt ≤ 90) ∨ (95 ≤ x0.toInt ∧ x0.toInt ≤ 95) ∨ (192 ≤ x0.toInt ∧ x0.toInt ≤ 214) ∨ (216 ≤ x0.toInt ∧ x0.toInt ≤ 246) ∨ (248 ≤ x0.toInt ∧ x0.toInt ≤ 767) ∨ (880 ≤ x0.toInt ∧ x0.toInt ≤ 893))) (hr : ∀ (f : JFrame) (acts : List Action), f.method = m → f.locked = none → f.entered = [] → (doReturn e (T.setTop f) acts (some (.int (own_ns x0)))).1 = T.setFrames fs) : Steps p.tables e below (T.setTop (mkF m 86 #[.val (.int x0)] [])) (T.setFrames fs) := by
  show Steps p.tables e below (T.setTop (mkF m 86 #[.val (.int x0)] [])) _
  refine XS.iloadN X.here hx rfl (hb hby d2_86) rfl ?_
  show Steps p.tables e below (T.setTop (mkF m 87 #[.val (.int x0)] [(.int x0)])) _
  refine XS.sipush X.here hx rfl (hb hby d2_87) ?_
  show Steps p.tables e below (T.setTop (mkF m 90 #[.val (.int x0)] [(.int (895 : Int32)), (.int x0)])) _
  by_cases hc90 : x0 < (895 : Int32)
  · refine XS.icmpYes X.here hx rfl (pc0 := 90) (pc' := 100) rfl (hb hby d2_90) rfl (tlt hc90).1 (by decide) (by decide) ?_
    have q_hc90 := (own_lt_iff rfl own_k895).mp hc90
    exact wk2_100 X hx hZ hw hby hown hret x0 (by omega) hr
  · refine XS.icmpNo X.here hx rfl (hb hby d2_90) rfl (flt hc90).1 ?_
    show Steps p.tables e below (T.setTop (mkF m 93 #[.val (.int x0)] [])) _
    refine XS.iloadN X.here hx rfl (hb hby d2_93) rfl ?_
    show Steps p.tables e below (T.setTop (mkF m 94 #[.val (.int x0)] [(.int x0)])) _
    refine XS.sipush X.here hx rfl (hb hby d2_94) ?_
    show Steps p.tables e below (T.setTop (mkF m 97 #[.val (.int x0)] [(.int (8191 : Int32)), (.int x0)])) _
    by_cases hc97 : (8191 : Int32) < x0
    · refine XS.icmpNo X.here hx rfl (hb hby d2_97) rfl (tlt hc97).2.2.2 ?_
      have q_hc90 := mt (own_lt_iff rfl own_k895).mpr hc90
      have q_hc97 := (own_lt_iff own_k8191 rfl).mp hc97
      exact wk2_100 X hx hZ hw hby hown hret x0 (by omega) hr
    · refine XS.icmpYes X.here hx rfl (pc0 := 97) (pc' := 191) rfl (hb hby d2_97) rfl (flt hc97).2.2.2 (by decide) (by decide) ?_
      show Steps p.tables e below (T.setTop (mkF m 191 #[.val (.int x0)] [])) _
      refine XS.iconst X.here hx rfl (hb hby d2_191) ?_
      show Steps p.tables e below (T.setTop (mkF m 192 #[.val (.int x0)] [(.int (1 : Int32))])) _
      refine XS.goto X.here hx rfl (pc0 := 192) (pc' := 196) rfl (hb hby d2_192) (by decide) (by decide) ?_
      show Steps p.tables e below (T.setTop (mkF m 196 #[.val (.int x0)] [(.int (1 : Int32))])) _
      have q_hc90 := mt (own_lt_iff rfl own_k895).mpr hc90
      have q_hc97 := mt (own_lt_iff own_k8191 rfl).mpr hc97
      have hv : own_ns x0 = (1 : Int32) := by unfold own_ns; exact if_pos (by omega)
      rw [hv] at hr
      exact retN X hx (t := .boolean) hret (by simp) (hb hby d2_196) hr
set_option maxRecDepth 65536 in
set_option maxHeartbeats 40000000 in
theorem wk2_72 {p : Program} {l : Launch} {e : Env} {R : Room} {s : State} {m : MethodId} {args : Array Value} {below : List Frame} {meth : Method} {c : Code} {T : State} {locs : List Loc} {cells slots : Nat} {Z : State} {a0 : Array Value} (X : Stand p l e R s m args below meth c T locs cells slots) (hx : p.tables.exec = Jvm.exec) (hZ : Z.Warmed39 s.vm) (hw : ∀ d ∈ tables_1, d.before a0 Z = true) (hby : c.code = prog_304_method_13_code) (hown : s.vm.findClass "com/example/xylem/xylem/model/QName" = some m.cls) (hret : meth.sig.returnType = some .boolean) {fs : List Frame} (x0 : Int32) (hN : ¬ ((97 ≤ x0.toInt ∧ x0.toInt ≤ 122) ∨ (65 ≤ x0.toInt ∧ x0.toInt ≤ 90) ∨ (95 ≤ x0.toInt ∧ x0.toInt ≤ 95) ∨ (192 ≤ x0.toInt ∧ x0.toInt ≤ 214) ∨ (216 ≤ x0.toInt ∧ x0.toInt ≤ 246) ∨ (248 ≤ x0.toInt ∧ x0.toInt ≤ 767))) (hr : ∀ (f : JFrame) (acts : List Action), f.method = m → f.locked = none → f.entered = [] → (doReturn e (T.setTop f) acts (some (.int (own_ns x0)))).1 = T.setFrames fs) : Steps p.tables e below (T.setTop (mkF m 72 #[.val (.int x0)] [])) (T.setFrames fs) := by
  show Steps p.tables e below (T.setTop (mkF m 72 #[.val (.int x0)] [])) _
  refine XS.iloadN X.here hx rfl (hb hby d2_72) rfl ?_
  show Steps p.tables e below (T.setTop (mkF m 73 #[.val (.int x0)] [(.int x0)])) _
  refine XS.sipush X.here hx rfl (hb hby d2_73) ?_
  show Steps p.tables e below (T.setTop (mkF m 76 #[.val (.int x0)] [(.int (880 : Int32)), (.int x0)])) _
  by_cases hc76 : x0 < (880 : Int32)
  · refine XS.icmpYes X.here hx rfl (pc0 := 76) (pc' := 86) rfl (hb hby d2_76) rfl (tlt hc76).1 (by decide) (by decide) ?_
    have q_hc76 := (own_lt_iff rfl own_k880).mp hc76
    exact wk2_86 X hx hZ hw hby hown hret x0 (by omega) hr
  · refine XS.icmpNo X.here hx rfl (hb hby d2_76) rfl (flt hc76).1 ?_
    show Steps p.tables e below (T.setTop (mkF m 79 #[.val (.int x0)] [])) _
    refine XS.iloadN X.here hx rfl (hb hby d2_79) rfl ?_
    show Steps p.tables e below (T.setTop (mkF m 80 #[.val (.int x0)] [(.int x0)])) _
    refine XS.sipush X.here hx rfl (hb hby d2_80) ?_
    show Steps p.tables e below (T.setTop (mkF m 83 #[.val (.int x0)] [(.int (893 : Int32)), (.int x0)])) _
    by_cases hc83 : (893 : Int32) < x0
    · refine XS.icmpNo X.here hx rfl (hb hby d2_83) rfl (tlt hc83).2.2.2 ?_
      have q_hc76 := mt (own_lt_iff rfl own_k880).mpr hc76
      have q_hc83 := (own_lt_iff own_k893 rfl).mp hc83
      exact wk2_86 X hx hZ hw hby hown hret x0 (by omega) hr
    · refine XS.icmpYes X.here hx rfl (pc0 := 83) (pc' := 191) rfl (hb hby d2_83) rfl (flt hc83).2.2.2 (by decide) (by decide) ?_
      show Steps p.tables e below (T.setTop (mkF m 191 #[.val (.int x0)] [])) _
      refine XS.iconst X.here hx rfl (hb hby d2_191) ?_
      show Steps p.tables e below (T.setTop (mkF m 192 #[.val (.int x0)] [(.int (1 : Int32))])) _
      refine XS.goto X.here hx rfl (pc0 := 192) (pc' := 196) rfl (hb hby d2_192) (by decide) (by decide) ?_
      show Steps p.tables e below (T.setTop (mkF m 196 #[.val (.int x0)] [(.int (1 : Int32))])) _
      have q_hc76 := mt (own_lt_iff rfl own_k880).mpr hc76
      have q_hc83 := mt (own_lt_iff own_k893 rfl).mpr hc83
      have hv : own_ns x0 = (1 : Int32) := by unfold own_ns; exact if_pos (by omega)
      rw [hv] at hr
      exact retN X hx (t := .boolean) hret (by simp) (hb hby d2_196) hr
set_option maxRecDepth 65536 in
set_option maxHeartbeats 40000000 in
theorem wk2_58 {p : Program} {l : Launch} {e : Env} {R : Room} {s : State} {m : MethodId} {args : Array Value} {below : List Frame} {meth : Method} {c : Code} {T : State} {locs : List Loc} {cells slots : Nat} {Z : State} {a0 : Array Value} (X : Stand p l e R s m args below meth c T locs cells slots) (hx : p.tables.exec = Jvm.exec) (hZ : Z.Warmed39 s.vm) (hw : ∀ d ∈ tables_1, d.before a0 Z = true) (hby : c.code = prog_304_method_13_code) (hown : s.vm.findClass "com/example/xylem/xylem/model/QName" = some m.cls) (hret : meth.sig.returnType = some .boolean) {fs : List Frame} (x0 : Int32) (hN : ¬ ((97 ≤ x0.toInt ∧ x0.toInt ≤ 122) ∨ (65 ≤ x0.toInt ∧ x0.toInt ≤ 90) ∨ (95 ≤ x0.toInt ∧ x0.toInt ≤ 95) ∨ (192 ≤ x0.toInt ∧ x0.toInt ≤ 214) ∨ (216 ≤ x0.toInt ∧ x0.toInt ≤ 246))) (hr : ∀ (f : JFrame) (acts : List Action), f.method = m → f.locked = none → f.entered = [] → (doReturn e (T.setTop f) acts (some (.int (own_ns x0)))).1 = T.setFrames fs) : Steps p.tables e below (T.setTop (mkF m 58 #[.val (.int x0)] [])) (T.setFrames fs) := by
  show Steps p.tables e below (T.setTop (mkF m 58 #[.val (.int x0)] [])) _
  refine XS.iloadN X.here hx rfl (hb hby d2_58) rfl ?_
  show Steps p.tables e below (T.setTop (mkF m 59 #[.val (.int x0)] [(.int x0)])) _
  refine XS.sipush X.here hx rfl (hb hby d2_59) ?_
  show Steps p.tables e below (T.setTop (mkF m 62 #[.val (.int x0)] [(.int (248 : Int32)), (.int x0)])) _
  by_cases hc62 : x0 < (248 : Int32)
  · refine XS.icmpYes X.here hx rfl (pc0 := 62) (pc' := 72) rfl (hb hby d2_62) rfl (tlt hc62).1 (by decide) (by decide) ?_
    have q_hc62 := (own_lt_iff rfl own_k248).mp hc62
    exact wk2_72 X hx hZ hw hby hown hret x0 (by omega) hr
  · refine XS.icmpNo X.here hx rfl (hb hby d2_62) rfl (flt hc62).1 ?_
    show Steps p.tables e below (T.setTop (mkF m 65 #[.val (.int x0)] [])) _
    refine XS.iloadN X.here hx rfl (hb hby d2_65) rfl ?_
    show Steps p.tables e below (T.setTop (mkF m 66 #[.val (.int x0)] [(.int x0)])) _
    refine XS.sipush X.here hx rfl (hb hby d2_66) ?_
    show Steps p.tables e below (T.setTop (mkF m 69 #[.val (.int x0)] [(.int (767 : Int32)), (.int x0)])) _
    by_cases hc69 : (767 : Int32) < x0
    · refine XS.icmpNo X.here hx rfl (hb hby d2_69) rfl (tlt hc69).2.2.2 ?_
      have q_hc62 := mt (own_lt_iff rfl own_k248).mpr hc62
      have q_hc69 := (own_lt_iff own_k767 rfl).mp hc69
      exact wk2_72 X hx hZ hw hby hown hret x0 (by omega) hr
    · refine XS.icmpYes X.here hx rfl (pc0 := 69) (pc' := 191) rfl (hb hby d2_69) rfl (flt hc69).2.2.2 (by decide) (by decide) ?_
      show Steps p.tables e below (T.setTop (mkF m 191 #[.val (.int x0)] [])) _
      refine XS.iconst X.here hx rfl (hb hby d2_191) ?_
      show Steps p.tables e below (T.setTop (mkF m 192 #[.val (.int x0)] [(.int (1 : Int32))])) _
      refine XS.goto X.here hx rfl (pc0 := 192) (pc' := 196) rfl (hb hby d2_192) (by decide) (by decide) ?_
      show Steps p.tables e below (T.setTop (mkF m 196 #[.val (.int x0)] [(.int (1 : Int32))])) _
      have q_hc62 := mt (own_lt_iff rfl own_k248).mpr hc62
      have q_hc69 := mt (own_lt_iff own_k767 rfl).mpr hc69
      have hv : own_ns x0 = (1 : Int32) := by unfold own_ns; exact if_pos (by omega)
      rw [hv] at hr
      exact retN X hx (t := .boolean) hret (by simp) (hb hby d2_196) hr
set_option maxRecDepth 65536 in
set_option maxHeartbeats 40000000 in
theorem wk2_44 {p : Program} {l : Launch} {e : Env} {R : Room} {s : State} {m : MethodId} {args : Array Value} {below : List Frame} {meth : Method} {c : Code} {T : State} {locs : List Loc} {cells slots : Nat} {Z : State} {a0 : Array Value} (X : Stand p l e R s m args below meth c T locs cells slots) (hx : p.tables.exec = Jvm.exec) (hZ : Z.Warmed39 s.vm) (hw : ∀ d ∈ tables_1, d.before a0 Z = true) (hby : c.code = prog_304_method_13_code) (hown : s.vm.findClass "com/example/xylem/xylem/model/QName" = some m.cls) (hret : meth.sig.returnType = some .boolean) {fs : List Frame} (x0 : Int32) (hN : ¬ ((97 ≤ x0.toInt ∧ x0.toInt ≤ 122) ∨ (65 ≤ x0.toInt ∧ x0.toInt ≤ 90) ∨ (95 ≤ x0.toInt ∧ x0.toInt ≤ 95) ∨ (192 ≤ x0.toInt ∧ x0.toInt ≤ 214))) (hr : ∀ (f : JFrame) (acts : List Action), f.method = m → f.locked = none → f.entered = [] → (doReturn e (T.setTop f) acts (some (.int (own_ns x0)))).1 = T.setFrames fs) : Steps p.tables e below (T.setTop (mkF m 44 #[.val (.int x0)] [])) (T.setFrames fs) := by
  show Steps p.tables e below (T.setTop (mkF m 44 #[.val (.int x0)] [])) _
  refine XS.iloadN X.here hx rfl (hb hby d2_44) rfl ?_
  show Steps p.tables e below (T.setTop (mkF m 45 #[.val (.int x0)] [(.int x0)])) _
  refine XS.sipush X.here hx rfl (hb hby d2_45) ?_
  show Steps p.tables e below (T.setTop (mkF m 48 #[.val (.int x0)] [(.int (216 : Int32)), (.int x0)])) _
  by_cases hc48 : x0 < (216 : Int32)
  · refine XS.icmpYes X.here hx rfl (pc0 := 48) (pc' := 58) rfl (hb hby d2_48) rfl (tlt hc48).1 (by decide) (by decide) ?_
    have q_hc48 := (own_lt_iff rfl own_k216).mp hc48
    exact wk2_58 X hx hZ hw hby hown hret x0 (by omega) hr
  · refine XS.icmpNo X.here hx rfl (hb hby d2_48) rfl (flt hc48).1 ?_
    show Steps p.tables e below (T.setTop (mkF m 51 #[.val (.int x0)] [])) _
    refine XS.iloadN X.here hx rfl (hb hby d2_51) rfl ?_
    show Steps p.tables e below (T.setTop (mkF m 52 #[.val (.int x0)] [(.int x0)])) _
    refine XS.sipush X.here hx rfl (hb hby d2_52) ?_
    show Steps p.tables e below (T.setTop (mkF m 55 #[.val (.int x0)] [(.int (246 : Int32)), (.int x0)])) _
    by_cases hc55 : (246 : Int32) < x0
    · refine XS.icmpNo X.here hx rfl (hb hby d2_55) rfl (tlt hc55).2.2.2 ?_
      have q_hc48 := mt (own_lt_iff rfl own_k216).mpr hc48
      have q_hc55 := (own_lt_iff own_k246 rfl).mp hc55
      exact wk2_58 X hx hZ hw hby hown hret x0 (by omega) hr
    · refine XS.icmpYes X.here hx rfl (pc0 := 55) (pc' := 191) rfl (hb hby d2_55) rfl (flt hc55).2.2.2 (by decide) (by decide) ?_
      show Steps p.tables e below (T.setTop (mkF m 191 #[.val (.int x0)] [])) _
      refine XS.iconst X.here hx rfl (hb hby d2_191) ?_
      show Steps p.tables e below (T.setTop (mkF m 192 #[.val (.int x0)] [(.int (1 : Int32))])) _
      refine XS.goto X.here hx rfl (pc0 := 192) (pc' := 196) rfl (hb hby d2_192) (by decide) (by decide) ?_
      show Steps p.tables e below (T.setTop (mkF m 196 #[.val (.int x0)] [(.int (1 : Int32))])) _
      have q_hc48 := mt (own_lt_iff rfl own_k216).mpr hc48
      have q_hc55 := mt (own_lt_iff own_k246 rfl).mpr hc55
      have hv : own_ns x0 = (1 : Int32) := by unfold own_ns; exact if_pos (by omega)
      rw [hv] at hr
      exact retN X hx (t := .boolean) hret (by simp) (hb hby d2_196) hr
set_option maxRecDepth 65536 in
set_option maxHeartbeats 40000000 in
theorem wk2_30 {p : Program} {l : Launch} {e : Env} {R : Room} {s : State} {m : MethodId} {args : Array Value} {below : List Frame} {meth : Method} {c : Code} {T : State} {locs : List Loc} {cells slots : Nat} {Z : State} {a0 : Array Value} (X : Stand p l e R s m args below meth c T locs cells slots) (hx : p.tables.exec = Jvm.exec) (hZ : Z.Warmed39 s.vm) (hw : ∀ d ∈ tables_1, d.before a0 Z = true) (hby : c.code = prog_304_method_13_code) (hown : s.vm.findClass "com/example/xylem/xylem/model/QName" = some m.cls) (hret : meth.sig.returnType = some .boolean) {fs : List Frame} (x0 : Int32) (hN : ¬ ((97 ≤ x0.toInt ∧ x0.toInt ≤ 122) ∨ (65 ≤ x0.toInt ∧ x0.toInt ≤ 90) ∨ (95 ≤ x0.toInt ∧ x0.toInt ≤ 95))) (hr : ∀ (f : JFrame) (acts : List Action), f.method = m → f.locked = none → f.entered = [] → (doReturn e (T.setTop f) acts (some (.int (own_ns x0)))).1 = T.setFrames fs) : Steps p.tables e below (T.setTop (mkF m 30 #[.val (.int x0)] [])) (T.setFrames fs) := by
  show Steps p.tables e below (T.setTop (mkF m 30 #[.val (.int x0)] [])) _
  refine XS.iloadN X.here hx rfl (hb hby d2_30) rfl ?_
  show Steps p.tables e below (T.setTop (mkF m 31 #[.val (.int x0)] [(.int x0)])) _
  refine XS.sipush X.here hx rfl (hb hby d2_31) ?_
  show Steps p.tables e below (T.setTop (mkF m 34 #[.val (.int x0)] [(.int (192 : Int32)), (.int x0)])) _
  by_cases hc34 : x0 < (192 : Int32)
  · refine XS.icmpYes X.here hx rfl (pc0 := 34) (pc' := 44) rfl (hb hby d2_34) rfl (tlt hc34).1 (by decide) (by decide) ?_
    have q_hc34 := (own_lt_iff rfl own_k192).mp hc34
    exact wk2_44 X hx hZ hw hby hown hret x0 (by omega) hr
  · refine XS.icmpNo X.here hx rfl (hb hby d2_34) rfl (flt hc34).1 ?_
    show Steps p.tables e below (T.setTop (mkF m 37 #[.val (.int x0)] [])) _
    refine XS.iloadN X.here hx rfl (hb hby d2_37) rfl ?_
    show Steps p.tables e below (T.setTop (mkF m 38 #[.val (.int x0)] [(.int x0)])) _
    refine XS.sipush X.here hx rfl (hb hby d2_38) ?_
    show Steps p.tables e below (T.setTop (mkF m 41 #[.val (.int x0)] [(.int (214 : Int32)), (.int x0)])) _
    by_cases hc41 : (214 : Int32) < x0
    · refine XS.icmpNo X.here hx rfl (hb hby d2_41) rfl (tlt hc41).2.2.2 ?_
      have q_hc34 := mt (own_lt_iff rfl own_k192).mpr hc34
      have q_hc41 := (own_lt_iff own_k214 rfl).mp hc41
      exact wk2_44 X hx hZ hw hby hown hret x0 (by omega) hr
    · refine XS.icmpYes X.here hx rfl (pc0 := 41) (pc' := 191) rfl (hb hby d2_41) rfl (flt hc41).2.2.2 (by decide) (by decide) ?_
      show Steps p.tables e below (T.setTop (mkF m 191 #[.val (.int x0)] [])) _
      refine XS.iconst X.here hx rfl (hb hby d2_191) ?_
      show Steps p.tables e below (T.setTop (mkF m 192 #[.val (.int x0)] [(.int (1 : Int32))])) _
      refine XS.goto X.here hx rfl (pc0 := 192) (pc' := 196) rfl (hb hby d2_192) (by decide) (by decide) ?_
      show Steps p.tables e below (T.setTop (mkF m 196 #[.val (.int x0)] [(.int (1 : Int32))])) _
      have q_hc34 := mt (own_lt_iff rfl own_k192).mpr hc34
      have q_hc41 := mt (own_lt_iff own_k214 rfl).mpr hc41
      have hv : own_ns x0 = (1 : Int32) := by unfold own_ns; exact if_pos (by omega)
      rw [hv] at hr
      exact retN X hx (t := .boolean) hret (by simp) (hb hby d2_196) hr
set_option maxRecDepth 65536 in
set_option maxHeartbeats 40000000 in
theorem wk2_24 {p : Program} {l : Launch} {e : Env} {R : Room} {s : State} {m : MethodId} {args : Array Value} {below : List Frame} {meth : Method} {c : Code} {T : State} {locs : List Loc} {cells slots : Nat} {Z : State} {a0 : Array Value} (X : Stand p l e R s m args below meth c T locs cells slots) (hx : p.tables.exec = Jvm.exec) (hZ : Z.Warmed39 s.vm) (hw : ∀ d ∈ tables_1, d.before a0 Z = true) (hby : c.code = prog_304_method_13_code) (hown : s.vm.findClass "com/example/xylem/xylem/model/QName" = some m.cls) (hret : meth.sig.returnType = some .boolean) {fs : List Frame} (x0 : Int32) (hN : ¬ ((97 ≤ x0.toInt ∧ x0.toInt ≤ 122) ∨ (65 ≤ x0.toInt ∧ x0.toInt ≤ 90))) (hr : ∀ (f : JFrame) (acts : List Action), f.method = m → f.locked = none → f.entered = [] → (doReturn e (T.setTop f) acts (some (.int (own_ns x0)))).1 = T.setFrames fs) : Steps p.tables e below (T.setTop (mkF m 24 #[.val (.int x0)] [])) (T.setFrames fs) := by
  show Steps p.tables e below (T.setTop (mkF m 24 #[.val (.int x0)] [])) _
  refine XS.iloadN X.here hx rfl (hb hby d2_24) rfl ?_
  show Steps p.tables e below (T.setTop (mkF m 25 #[.val (.int x0)] [(.int x0)])) _
  refine XS.bipush X.here hx rfl (hb hby d2_25) ?_
  show Steps p.tables e below (T.setTop (mkF m 27 #[.val (.int x0)] [(.int (95 : Int32)), (.int x0)])) _
  by_cases hc27 : x0 = (95 : Int32)
  · refine XS.icmpYes X.here hx rfl (pc0 := 27) (pc' := 191) rfl (hb hby d2_27) rfl (teq hc27).1 (by decide) (by decide) ?_
    show Steps p.tables e below (T.setTop (mkF m 191 #[.val (.int x0)] [])) _
    refine XS.iconst X.here hx rfl (hb hby d2_191) ?_
    show Steps p.tables e below (T.setTop (mkF m 192 #[.val (.int x0)] [(.int (1 : Int32))])) _
    refine XS.goto X.here hx rfl (pc0 := 192) (pc' := 196) rfl (hb hby d2_192) (by decide) (by decide) ?_
    show Steps p.tables e below (T.setTop (mkF m 196 #[.val (.int x0)] [(.int (1 : Int32))])) _
    have q_hc27 := (own_eq_iff rfl own_k95).mp hc27
    have hv : own_ns x0 = (1 : Int32) := by unfold own_ns; exact if_pos (by omega)
    rw [hv] at hr
    exact retN X hx (t := .boolean) hret (by simp) (hb hby d2_196) hr
  · refine XS.icmpNo X.here hx rfl (hb hby d2_27) rfl (feq hc27).1 ?_
    have q_hc27 := mt (own_eq_iff rfl own_k95).mpr hc27
    exact wk2_30 X hx hZ hw hby hown hret x0 (by omega) hr
set_option maxRecDepth 65536 in
set_option maxHeartbeats 40000000 in
theorem wk2_12 {p : Program} {l : Launch} {e : Env} {R : Room} {s : State} {m : MethodId} {args : Array Value} {below : List Frame} {meth : Method} {c : Code} {T : State} {locs : List Loc} {cells slots : Nat} {Z : State} {a0 : Array Value} (X : Stand p l e R s m args below meth c T locs cells slots) (hx : p.tables.exec = Jvm.exec) (hZ : Z.Warmed39 s.vm) (hw : ∀ d ∈ tables_1, d.before a0 Z = true) (hby : c.code = prog_304_method_13_code) (hown : s.vm.findClass "com/example/xylem/xylem/model/QName" = some m.cls) (hret : meth.sig.returnType = some .boolean) {fs : List Frame} (x0 : Int32) (hN : ¬ ((97 ≤ x0.toInt ∧ x0.toInt ≤ 122))) (hr : ∀ (f : JFrame) (acts : List Action), f.method = m → f.locked = none → f.entered = [] → (doReturn e (T.setTop f) acts (some (.int (own_ns x0)))).1 = T.setFrames fs) : Steps p.tables e below (T.setTop (mkF m 12 #[.val (.int x0)] [])) (T.setFrames fs) := by
  show Steps p.tables e below (T.setTop (mkF m 12 #[.val (.int x0)] [])) _
  refine XS.iloadN X.here hx rfl (hb hby d2_12) rfl ?_
  show Steps p.tables e below (T.setTop (mkF m 13 #[.val (.int x0)] [(.int x0)])) _
  refine XS.bipush X.here hx rfl (hb hby d2_13) ?_
  show Steps p.tables e below (T.setTop (mkF m 15 #[.val (.int x0)] [(.int (65 : Int32)), (.int x0)])) _
  by_cases hc15 : x0 < (65 : Int32)
  · refine XS.icmpYes X.here hx rfl (pc0 := 15) (pc' := 24) rfl (hb hby d2_15) rfl (tlt hc15).1 (by decide) (by decide) ?_
    have q_hc15 := (own_lt_iff rfl own_k65).mp hc15
    exact wk2_24 X hx hZ hw hby hown hret x0 (by omega) hr
  · refine XS.icmpNo X.here hx rfl (hb hby d2_15) rfl (flt hc15).1 ?_
    show Steps p.tables e below (T.setTop (mkF m 18 #[.val (.int x0)] [])) _
    refine XS.iloadN X.here hx rfl (hb hby d2_18) rfl ?_
    show Steps p.tables e below (T.setTop (mkF m 19 #[.val (.int x0)] [(.int x0)])) _
    refine XS.bipush X.here hx rfl (hb hby d2_19) ?_
    show Steps p.tables e below (T.setTop (mkF m 21 #[.val (.int x0)] [(.int (90 : Int32)), (.int x0)])) _
    by_cases hc21 : (90 : Int32) < x0
    · refine XS.icmpNo X.here hx rfl (hb hby d2_21) rfl (tlt hc21).2.2.2 ?_
      have q_hc15 := mt (own_lt_iff rfl own_k65).mpr hc15
      have q_hc21 := (own_lt_iff own_k90 rfl).mp hc21
      exact wk2_24 X hx hZ hw hby hown hret x0 (by omega) hr
    · refine XS.icmpYes X.here hx rfl (pc0 := 21) (pc' := 191) rfl (hb hby d2_21) rfl (flt hc21).2.2.2 (by decide) (by decide) ?_
      show Steps p.tables e below (T.setTop (mkF m 191 #[.val (.int x0)] [])) _
      refine XS.iconst X.here hx rfl (hb hby d2_191) ?_
      show Steps p.tables e below (T.setTop (mkF m 192 #[.val (.int x0)] [(.int (1 : Int32))])) _
      refine XS.goto X.here hx rfl (pc0 := 192) (pc' := 196) rfl (hb hby d2_192) (by decide) (by decide) ?_
      show Steps p.tables e below (T.setTop (mkF m 196 #[.val (.int x0)] [(.int (1 : Int32))])) _
      have q_hc15 := mt (own_lt_iff rfl own_k65).mpr hc15
      have q_hc21 := mt (own_lt_iff own_k90 rfl).mpr hc21
      have hv : own_ns x0 = (1 : Int32) := by unfold own_ns; exact if_pos (by omega)
      rw [hv] at hr
      exact retN X hx (t := .boolean) hret (by simp) (hb hby d2_196) hr
set_option maxRecDepth 65536 in
set_option maxHeartbeats 40000000 in
theorem wk2_0 {p : Program} {l : Launch} {e : Env} {R : Room} {s : State} {m : MethodId} {args : Array Value} {below : List Frame} {meth : Method} {c : Code} {T : State} {locs : List Loc} {cells slots : Nat} {Z : State} {a0 : Array Value} (X : Stand p l e R s m args below meth c T locs cells slots) (hx : p.tables.exec = Jvm.exec) (hZ : Z.Warmed39 s.vm) (hw : ∀ d ∈ tables_1, d.before a0 Z = true) (hby : c.code = prog_304_method_13_code) (hown : s.vm.findClass "com/example/xylem/xylem/model/QName" = some m.cls) (hret : meth.sig.returnType = some .boolean) {fs : List Frame} (x0 : Int32)  (hr : ∀ (f : JFrame) (acts : List Action), f.method = m → f.locked = none → f.entered = [] → (doReturn e (T.setTop f) acts (some (.int (own_ns x0)))).1 = T.setFrames fs) : Steps p.tables e below (T.setTop (mkF m 0 #[.val (.int x0)] [])) (T.setFrames fs) := by
  show Steps p.tables e below (T.setTop (mkF m 0 #[.val (.int x0)] [])) _
  refine XS.iloadN X.here hx rfl (hb hby d2_0) rfl ?_
  show Steps p.tables e below (T.setTop (mkF m 1 #[.val (.int x0)] [(.int x0)])) _
  refine XS.bipush X.here hx rfl (hb hby d2_1) ?_
  show Steps p.tables e below (T.setTop (mkF m 3 #[.val (.int x0)] [(.int (97 : Int32)), (.int x0)])) _
  by_cases hc3 : x0 < (97 : Int32)
  · refine XS.icmpYes X.here hx rfl (pc0 := 3) (pc' := 12) rfl (hb hby d2_3) rfl (tlt hc3).1 (by decide) (by decide) ?_
    have q_hc3 := (own_lt_iff rfl own_k97).mp hc3
    exact wk2_12 X hx hZ hw hby hown hret x0 (by omega) hr
  · refine XS.icmpNo X.here hx rfl (hb hby d2_3) rfl (flt hc3).1 ?_
    show Steps p.tables e below (T.setTop (mkF m 6 #[.val (.int x0)] [])) _
    refine XS.iloadN X.here hx rfl (hb hby d2_6) rfl ?_
    show Steps p.tables e below (T.setTop (mkF m 7 #[.val (.int x0)] [(.int x0)])) _
    refine XS.bipush X.here hx rfl (hb hby d2_7) ?_
    show Steps p.tables e below (T.setTop (mkF m 9 #[.val (.int x0)] [(.int (122 : Int32)), (.int x0)])) _
    by_cases hc9 : (122 : Int32) < x0
    · refine XS.icmpNo X.here hx rfl (hb hby d2_9) rfl (tlt hc9).2.2.2 ?_
      have q_hc3 := mt (own_lt_iff rfl own_k97).mpr hc3
      have q_hc9 := (own_lt_iff own_k122 rfl).mp hc9
      exact wk2_12 X hx hZ hw hby hown hret x0 (by omega) hr
    · refine XS.icmpYes X.here hx rfl (pc0 := 9) (pc' := 191) rfl (hb hby d2_9) rfl (flt hc9).2.2.2 (by decide) (by decide) ?_
      show Steps p.tables e below (T.setTop (mkF m 191 #[.val (.int x0)] [])) _
      refine XS.iconst X.here hx rfl (hb hby d2_191) ?_
      show Steps p.tables e below (T.setTop (mkF m 192 #[.val (.int x0)] [(.int (1 : Int32))])) _
      refine XS.goto X.here hx rfl (pc0 := 192) (pc' := 196) rfl (hb hby d2_192) (by decide) (by decide) ?_
      show Steps p.tables e below (T.setTop (mkF m 196 #[.val (.int x0)] [(.int (1 : Int32))])) _
      have q_hc3 := mt (own_lt_iff rfl own_k97).mpr hc3
      have q_hc9 := mt (own_lt_iff own_k122 rfl).mpr hc9
      have hv : own_ns x0 = (1 : Int32) := by unfold own_ns; exact if_pos (by omega)
      rw [hv] at hr
      exact retN X hx (t := .boolean) hret (by simp) (hb hby d2_196) hr
def Q2 (x0 : Int32) (h0 : Heap) (n0 : Nat) (v : Option Value) (h : Heap) (L : List Loc) : Prop := v = some (.int (own_ns x0)) ∧ Fr n0 L ∧ h = h0
set_option maxRecDepth 65536 in
set_option maxHeartbeats 40000000 in
theorem rm2 (l : Launch) (Z : State) (a0 : Array Value) (hw : ∀ d ∈ tables_1, d.before a0 Z = true) (ws : List Jvm.Cond) (x0 : Int32) (h0 : Heap) (n0 : Nat) (Z0 : n0 ≤ h0.size)  :
    MetFree l (⟨"com/example/xylem/xylem/model/QName", "isNameStartChar", "(I)Z"⟩ : MethodName) (head1 (Jvm.Cond.code (⟨"com/example/xylem/xylem/model/QName", "isNameStartChar", "(I)Z"⟩ : MethodName) prog_304_method_13_code 1 (some .boolean) :: ws) ({ frames := 0, cells := 0, slots := 0, locals := 0 } : Room)) (fun as_ U => as_ = #[(.int x0)] ∧ Z.Warmed39 U.vm ∧ U.heap = h0) (fun _ _ _ _ _ => True) (fun _ U o U' => ∃ v L, o = .returned v ∧ Q2 x0 h0 n0 v U'.heap L ∧ FrameEnd U o U' L ({ frames := 0, cells := 0, slots := 0, locals := 0 } : Room).cells ({ frames := 0, cells := 0, slots := 0, locals := 0 } : Room).slots) := by
  refine MetFree.of_bodySF (plainFor_of_name pn_2) hisR ?_
  intro p e s m args below meth c s₁ Bd hml0 hP hK
  obtain ⟨rfl, hZ, hh⟩ := hP
  have hx := Bd.exec
  have hby := Bd.bytes
  have hml : c.maxLocals = 1 := hml0
  have hown : s.vm.findClass "com/example/xylem/xylem/model/QName" = some m.cls := findClass_of_methodNamed Bd.named
  have hnm := (name_of_methodNamed Bd.named Bd.method).1
  have X0 : Stand p l e ({ frames := 0, cells := 0, slots := 0, locals := 0 } : Room) s m #[(.int x0)] below meth c s₁ [] 0 0 := Stand.of_body Bd
  have e0 : s₁.heap = h0 := by rw [← hh, Bd.state]; rfl
  have N0 := Fr.nil n0
  have pre0 : ∀ t, Steps p.tables e below (s₁.setTop (mkF m 0 #[.val (.int x0)] [])) t → Steps p.tables e below (s₁.setTop (entryFrame m #[(.int x0)] 1)) t := fun t k => castTop (ef_2 m x0) k
  obtain ⟨fs, hr, hrun, hended, hW, hsame⟩ := X0.leave (v := some (.int (own_ns x0))) (fun h => by rw [Bd.returns] at h; cases h)
  refine ⟨_, _, pre0 _ ?_, hrun, hended, _, _, rfl, ?_, ⟨_, rfl⟩, hW, hsame.mono (by decide) (by decide)⟩
  · exact wk2_0 X0 hx hZ hw hby hown Bd.returns x0 hr
  · show Q2 x0 h0 n0 _ s₁.heap _
    rw [e0]
    exact ⟨rfl, N0, rfl⟩
def own_step (x0 t n : Int32) : Int32 := n + (if x0 < t then (0 : Int32) else (1 : Int32))
theorem own_step_t {x0 t : Int32} {A : Int} (k : t.toInt = A) (h : x0.toInt < A) (n : Int32) : own_step x0 t n = n := by
  unfold own_step; rw [if_pos ((own_lt_iff rfl k).mpr h)]; exact Int32.add_zero n
theorem own_step_f {x0 t : Int32} {A : Int} (k : t.toInt = A) (h : ¬ x0.toInt < A) (n : Int32) : own_step x0 t n = n + 1 := by
  unfold own_step; rw [if_neg (mt (own_lt_iff rfl k).mp h)]
set_option maxRecDepth 65536 in
set_option maxHeartbeats 40000000 in
theorem sp_2 {p : Program} {l : Launch} {e : Env} {R : Room} {s : State} {m : MethodId} {args : Array Value} {below : List Frame} {meth : Method} {c : Code} {T : State} {locs : List Loc} {cells slots : Nat} {Z : State} {a0 : Array Value} (X : Stand p l e R s m args below meth c T locs cells slots) (hx : p.tables.exec = Jvm.exec) (hZ : Z.Warmed39 s.vm) (hw : ∀ d ∈ tables_1, d.before a0 Z = true) (hby : c.code = method_3_code) (hown : s.vm.findClass "com/example/xylem/xylem/model/QNameIsNameStartCharPinLaw" = some m.cls) (x0 n r : Int32) (er : r = own_step x0 (65 : Int32) n) {target : State} (kt : Steps p.tables e below (T.setTop (mkF m 16 #[.val (.int x0), .val (.int r)] [])) target) : Steps p.tables e below (T.setTop (mkF m 2 #[.val (.int x0), .val (.int n)] [])) target := by
  show Steps p.tables e below (T.setTop (mkF m 2 #[.val (.int x0), .val (.int n)] [])) _
  refine XS.iloadN X.here hx rfl (hb hby d3_2) rfl ?_
  show Steps p.tables e below (T.setTop (mkF m 3 #[.val (.int x0), .val (.int n)] [(.int n)])) _
  refine XS.iloadN X.here hx rfl (hb hby d3_3) rfl ?_
  show Steps p.tables e below (T.setTop (mkF m 4 #[.val (.int x0), .val (.int n)] [(.int x0), (.int n)])) _
  refine XS.bipush X.here hx rfl (hb hby d3_4) ?_
  show Steps p.tables e below (T.setTop (mkF m 6 #[.val (.int x0), .val (.int n)] [(.int (65 : Int32)), (.int x0), (.int n)])) _
  by_cases hc6 : x0 < (65 : Int32)
  · refine XS.icmpYes X.here hx rfl (pc0 := 6) (pc' := 13) rfl (hb hby d3_6) rfl (tlt hc6).1 (by decide) (by decide) ?_
    show Steps p.tables e below (T.setTop (mkF m 13 #[.val (.int x0), .val (.int n)] [(.int n)])) _
    refine XS.iconst X.here hx rfl (hb hby d3_13) ?_
    show Steps p.tables e below (T.setTop (mkF m 14 #[.val (.int x0), .val (.int n)] [(.int (0 : Int32)), (.int n)])) _
    refine XS.iadd X.here hx rfl (hb hby d3_14) rfl ?_
    show Steps p.tables e below (T.setTop (mkF m 15 #[.val (.int x0), .val (.int n)] [(.int (n + (0 : Int32)))])) _
    refine XS.istoreN X.here hx rfl (hb hby d3_15) rfl (l' := #[.val (.int x0), .val (.int (n + (0 : Int32)))]) rfl ?_
    obtain rfl : r = (n + (0 : Int32)) := er.trans (by unfold own_step; first | exact if_pos hc6 | rfl | simp only [hc6, ↓reduceIte, eq_self])
    exact kt
  · refine XS.icmpNo X.here hx rfl (hb hby d3_6) rfl (flt hc6).1 ?_
    show Steps p.tables e below (T.setTop (mkF m 9 #[.val (.int x0), .val (.int n)] [(.int n)])) _
    refine XS.iconst X.here hx rfl (hb hby d3_9) ?_
    show Steps p.tables e below (T.setTop (mkF m 10 #[.val (.int x0), .val (.int n)] [(.int (1 : Int32)), (.int n)])) _
    refine XS.goto X.here hx rfl (pc0 := 10) (pc' := 14) rfl (hb hby d3_10) (by decide) (by decide) ?_
    show Steps p.tables e below (T.setTop (mkF m 14 #[.val (.int x0), .val (.int n)] [(.int (1 : Int32)), (.int n)])) _
    refine XS.iadd X.here hx rfl (hb hby d3_14) rfl ?_
    show Steps p.tables e below (T.setTop (mkF m 15 #[.val (.int x0), .val (.int n)] [(.int (n + (1 : Int32)))])) _
    refine XS.istoreN X.here hx rfl (hb hby d3_15) rfl (l' := #[.val (.int x0), .val (.int (n + (1 : Int32)))]) rfl ?_
    obtain rfl : r = (n + (1 : Int32)) := er.trans (by unfold own_step; first | exact if_neg hc6 | rfl | simp only [hc6, ↓reduceIte, eq_self])
    exact kt
set_option maxRecDepth 65536 in
set_option maxHeartbeats 40000000 in
theorem sp_16 {p : Program} {l : Launch} {e : Env} {R : Room} {s : State} {m : MethodId} {args : Array Value} {below : List Frame} {meth : Method} {c : Code} {T : State} {locs : List Loc} {cells slots : Nat} {Z : State} {a0 : Array Value} (X : Stand p l e R s m args below meth c T locs cells slots) (hx : p.tables.exec = Jvm.exec) (hZ : Z.Warmed39 s.vm) (hw : ∀ d ∈ tables_1, d.before a0 Z = true) (hby : c.code = method_3_code) (hown : s.vm.findClass "com/example/xylem/xylem/model/QNameIsNameStartCharPinLaw" = some m.cls) (x0 n r : Int32) (er : r = own_step x0 (91 : Int32) n) {target : State} (kt : Steps p.tables e below (T.setTop (mkF m 30 #[.val (.int x0), .val (.int r)] [])) target) : Steps p.tables e below (T.setTop (mkF m 16 #[.val (.int x0), .val (.int n)] [])) target := by
  show Steps p.tables e below (T.setTop (mkF m 16 #[.val (.int x0), .val (.int n)] [])) _
  refine XS.iloadN X.here hx rfl (hb hby d3_16) rfl ?_
  show Steps p.tables e below (T.setTop (mkF m 17 #[.val (.int x0), .val (.int n)] [(.int n)])) _
  refine XS.iloadN X.here hx rfl (hb hby d3_17) rfl ?_
  show Steps p.tables e below (T.setTop (mkF m 18 #[.val (.int x0), .val (.int n)] [(.int x0), (.int n)])) _
  refine XS.bipush X.here hx rfl (hb hby d3_18) ?_
  show Steps p.tables e below (T.setTop (mkF m 20 #[.val (.int x0), .val (.int n)] [(.int (91 : Int32)), (.int x0), (.int n)])) _
  by_cases hc20 : x0 < (91 : Int32)
  · refine XS.icmpYes X.here hx rfl (pc0 := 20) (pc' := 27) rfl (hb hby d3_20) rfl (tlt hc20).1 (by decide) (by decide) ?_
    show Steps p.tables e below (T.setTop (mkF m 27 #[.val (.int x0), .val (.int n)] [(.int n)])) _
    refine XS.iconst X.here hx rfl (hb hby d3_27) ?_
    show Steps p.tables e below (T.setTop (mkF m 28 #[.val (.int x0), .val (.int n)] [(.int (0 : Int32)), (.int n)])) _
    refine XS.iadd X.here hx rfl (hb hby d3_28) rfl ?_
    show Steps p.tables e below (T.setTop (mkF m 29 #[.val (.int x0), .val (.int n)] [(.int (n + (0 : Int32)))])) _
    refine XS.istoreN X.here hx rfl (hb hby d3_29) rfl (l' := #[.val (.int x0), .val (.int (n + (0 : Int32)))]) rfl ?_
    obtain rfl : r = (n + (0 : Int32)) := er.trans (by unfold own_step; first | exact if_pos hc20 | rfl | simp only [hc20, ↓reduceIte, eq_self])
    exact kt
  · refine XS.icmpNo X.here hx rfl (hb hby d3_20) rfl (flt hc20).1 ?_
    show Steps p.tables e below (T.setTop (mkF m 23 #[.val (.int x0), .val (.int n)] [(.int n)])) _
    refine XS.iconst X.here hx rfl (hb hby d3_23) ?_
    show Steps p.tables e below (T.setTop (mkF m 24 #[.val (.int x0), .val (.int n)] [(.int (1 : Int32)), (.int n)])) _
    refine XS.goto X.here hx rfl (pc0 := 24) (pc' := 28) rfl (hb hby d3_24) (by decide) (by decide) ?_
    show Steps p.tables e below (T.setTop (mkF m 28 #[.val (.int x0), .val (.int n)] [(.int (1 : Int32)), (.int n)])) _
    refine XS.iadd X.here hx rfl (hb hby d3_28) rfl ?_
    show Steps p.tables e below (T.setTop (mkF m 29 #[.val (.int x0), .val (.int n)] [(.int (n + (1 : Int32)))])) _
    refine XS.istoreN X.here hx rfl (hb hby d3_29) rfl (l' := #[.val (.int x0), .val (.int (n + (1 : Int32)))]) rfl ?_
    obtain rfl : r = (n + (1 : Int32)) := er.trans (by unfold own_step; first | exact if_neg hc20 | rfl | simp only [hc20, ↓reduceIte, eq_self])
    exact kt
set_option maxRecDepth 65536 in
set_option maxHeartbeats 40000000 in
theorem sp_30 {p : Program} {l : Launch} {e : Env} {R : Room} {s : State} {m : MethodId} {args : Array Value} {below : List Frame} {meth : Method} {c : Code} {T : State} {locs : List Loc} {cells slots : Nat} {Z : State} {a0 : Array Value} (X : Stand p l e R s m args below meth c T locs cells slots) (hx : p.tables.exec = Jvm.exec) (hZ : Z.Warmed39 s.vm) (hw : ∀ d ∈ tables_1, d.before a0 Z = true) (hby : c.code = method_3_code) (hown : s.vm.findClass "com/example/xylem/xylem/model/QNameIsNameStartCharPinLaw" = some m.cls) (x0 n r : Int32) (er : r = own_step x0 (95 : Int32) n) {target : State} (kt : Steps p.tables e below (T.setTop (mkF m 44 #[.val (.int x0), .val (.int r)] [])) target) : Steps p.tables e below (T.setTop (mkF m 30 #[.val (.int x0), .val (.int n)] [])) target := by
  show Steps p.tables e below (T.setTop (mkF m 30 #[.val (.int x0), .val (.int n)] [])) _
  refine XS.iloadN X.here hx rfl (hb hby d3_30) rfl ?_
  show Steps p.tables e below (T.setTop (mkF m 31 #[.val (.int x0), .val (.int n)] [(.int n)])) _
  refine XS.iloadN X.here hx rfl (hb hby d3_31) rfl ?_
  show Steps p.tables e below (T.setTop (mkF m 32 #[.val (.int x0), .val (.int n)] [(.int x0), (.int n)])) _
  refine XS.bipush X.here hx rfl (hb hby d3_32) ?_
  show Steps p.tables e below (T.setTop (mkF m 34 #[.val (.int x0), .val (.int n)] [(.int (95 : Int32)), (.int x0), (.int n)])) _
  by_cases hc34 : x0 < (95 : Int32)
  · refine XS.icmpYes X.here hx rfl (pc0 := 34) (pc' := 41) rfl (hb hby d3_34) rfl (tlt hc34).1 (by decide) (by decide) ?_
    show Steps p.tables e below (T.setTop (mkF m 41 #[.val (.int x0), .val (.int n)] [(.int n)])) _
    refine XS.iconst X.here hx rfl (hb hby d3_41) ?_
    show Steps p.tables e below (T.setTop (mkF m 42 #[.val (.int x0), .val (.int n)] [(.int (0 : Int32)), (.int n)])) _
    refine XS.iadd X.here hx rfl (hb hby d3_42) rfl ?_
    show Steps p.tables e below (T.setTop (mkF m 43 #[.val (.int x0), .val (.int n)] [(.int (n + (0 : Int32)))])) _
    refine XS.istoreN X.here hx rfl (hb hby d3_43) rfl (l' := #[.val (.int x0), .val (.int (n + (0 : Int32)))]) rfl ?_
    obtain rfl : r = (n + (0 : Int32)) := er.trans (by unfold own_step; first | exact if_pos hc34 | rfl | simp only [hc34, ↓reduceIte, eq_self])
    exact kt
  · refine XS.icmpNo X.here hx rfl (hb hby d3_34) rfl (flt hc34).1 ?_
    show Steps p.tables e below (T.setTop (mkF m 37 #[.val (.int x0), .val (.int n)] [(.int n)])) _
    refine XS.iconst X.here hx rfl (hb hby d3_37) ?_
    show Steps p.tables e below (T.setTop (mkF m 38 #[.val (.int x0), .val (.int n)] [(.int (1 : Int32)), (.int n)])) _
    refine XS.goto X.here hx rfl (pc0 := 38) (pc' := 42) rfl (hb hby d3_38) (by decide) (by decide) ?_
    show Steps p.tables e below (T.setTop (mkF m 42 #[.val (.int x0), .val (.int n)] [(.int (1 : Int32)), (.int n)])) _
    refine XS.iadd X.here hx rfl (hb hby d3_42) rfl ?_
    show Steps p.tables e below (T.setTop (mkF m 43 #[.val (.int x0), .val (.int n)] [(.int (n + (1 : Int32)))])) _
    refine XS.istoreN X.here hx rfl (hb hby d3_43) rfl (l' := #[.val (.int x0), .val (.int (n + (1 : Int32)))]) rfl ?_
    obtain rfl : r = (n + (1 : Int32)) := er.trans (by unfold own_step; first | exact if_neg hc34 | rfl | simp only [hc34, ↓reduceIte, eq_self])
    exact kt
set_option maxRecDepth 65536 in
set_option maxHeartbeats 40000000 in
theorem sp_44 {p : Program} {l : Launch} {e : Env} {R : Room} {s : State} {m : MethodId} {args : Array Value} {below : List Frame} {meth : Method} {c : Code} {T : State} {locs : List Loc} {cells slots : Nat} {Z : State} {a0 : Array Value} (X : Stand p l e R s m args below meth c T locs cells slots) (hx : p.tables.exec = Jvm.exec) (hZ : Z.Warmed39 s.vm) (hw : ∀ d ∈ tables_1, d.before a0 Z = true) (hby : c.code = method_3_code) (hown : s.vm.findClass "com/example/xylem/xylem/model/QNameIsNameStartCharPinLaw" = some m.cls) (x0 n r : Int32) (er : r = own_step x0 (96 : Int32) n) {target : State} (kt : Steps p.tables e below (T.setTop (mkF m 58 #[.val (.int x0), .val (.int r)] [])) target) : Steps p.tables e below (T.setTop (mkF m 44 #[.val (.int x0), .val (.int n)] [])) target := by
  show Steps p.tables e below (T.setTop (mkF m 44 #[.val (.int x0), .val (.int n)] [])) _
  refine XS.iloadN X.here hx rfl (hb hby d3_44) rfl ?_
  show Steps p.tables e below (T.setTop (mkF m 45 #[.val (.int x0), .val (.int n)] [(.int n)])) _
  refine XS.iloadN X.here hx rfl (hb hby d3_45) rfl ?_
  show Steps p.tables e below (T.setTop (mkF m 46 #[.val (.int x0), .val (.int n)] [(.int x0), (.int n)])) _
  refine XS.bipush X.here hx rfl (hb hby d3_46) ?_
  show Steps p.tables e below (T.setTop (mkF m 48 #[.val (.int x0), .val (.int n)] [(.int (96 : Int32)), (.int x0), (.int n)])) _
  by_cases hc48 : x0 < (96 : Int32)
  · refine XS.icmpYes X.here hx rfl (pc0 := 48) (pc' := 55) rfl (hb hby d3_48) rfl (tlt hc48).1 (by decide) (by decide) ?_
    show Steps p.tables e below (T.setTop (mkF m 55 #[.val (.int x0), .val (.int n)] [(.int n)])) _
    refine XS.iconst X.here hx rfl (hb hby d3_55) ?_
    show Steps p.tables e below (T.setTop (mkF m 56 #[.val (.int x0), .val (.int n)] [(.int (0 : Int32)), (.int n)])) _
    refine XS.iadd X.here hx rfl (hb hby d3_56) rfl ?_
    show Steps p.tables e below (T.setTop (mkF m 57 #[.val (.int x0), .val (.int n)] [(.int (n + (0 : Int32)))])) _
    refine XS.istoreN X.here hx rfl (hb hby d3_57) rfl (l' := #[.val (.int x0), .val (.int (n + (0 : Int32)))]) rfl ?_
    obtain rfl : r = (n + (0 : Int32)) := er.trans (by unfold own_step; first | exact if_pos hc48 | rfl | simp only [hc48, ↓reduceIte, eq_self])
    exact kt
  · refine XS.icmpNo X.here hx rfl (hb hby d3_48) rfl (flt hc48).1 ?_
    show Steps p.tables e below (T.setTop (mkF m 51 #[.val (.int x0), .val (.int n)] [(.int n)])) _
    refine XS.iconst X.here hx rfl (hb hby d3_51) ?_
    show Steps p.tables e below (T.setTop (mkF m 52 #[.val (.int x0), .val (.int n)] [(.int (1 : Int32)), (.int n)])) _
    refine XS.goto X.here hx rfl (pc0 := 52) (pc' := 56) rfl (hb hby d3_52) (by decide) (by decide) ?_
    show Steps p.tables e below (T.setTop (mkF m 56 #[.val (.int x0), .val (.int n)] [(.int (1 : Int32)), (.int n)])) _
    refine XS.iadd X.here hx rfl (hb hby d3_56) rfl ?_
    show Steps p.tables e below (T.setTop (mkF m 57 #[.val (.int x0), .val (.int n)] [(.int (n + (1 : Int32)))])) _
    refine XS.istoreN X.here hx rfl (hb hby d3_57) rfl (l' := #[.val (.int x0), .val (.int (n + (1 : Int32)))]) rfl ?_
    obtain rfl : r = (n + (1 : Int32)) := er.trans (by unfold own_step; first | exact if_neg hc48 | rfl | simp only [hc48, ↓reduceIte, eq_self])
    exact kt
set_option maxRecDepth 65536 in
set_option maxHeartbeats 40000000 in
theorem sp_58 {p : Program} {l : Launch} {e : Env} {R : Room} {s : State} {m : MethodId} {args : Array Value} {below : List Frame} {meth : Method} {c : Code} {T : State} {locs : List Loc} {cells slots : Nat} {Z : State} {a0 : Array Value} (X : Stand p l e R s m args below meth c T locs cells slots) (hx : p.tables.exec = Jvm.exec) (hZ : Z.Warmed39 s.vm) (hw : ∀ d ∈ tables_1, d.before a0 Z = true) (hby : c.code = method_3_code) (hown : s.vm.findClass "com/example/xylem/xylem/model/QNameIsNameStartCharPinLaw" = some m.cls) (x0 n r : Int32) (er : r = own_step x0 (97 : Int32) n) {target : State} (kt : Steps p.tables e below (T.setTop (mkF m 72 #[.val (.int x0), .val (.int r)] [])) target) : Steps p.tables e below (T.setTop (mkF m 58 #[.val (.int x0), .val (.int n)] [])) target := by
  show Steps p.tables e below (T.setTop (mkF m 58 #[.val (.int x0), .val (.int n)] [])) _
  refine XS.iloadN X.here hx rfl (hb hby d3_58) rfl ?_
  show Steps p.tables e below (T.setTop (mkF m 59 #[.val (.int x0), .val (.int n)] [(.int n)])) _
  refine XS.iloadN X.here hx rfl (hb hby d3_59) rfl ?_
  show Steps p.tables e below (T.setTop (mkF m 60 #[.val (.int x0), .val (.int n)] [(.int x0), (.int n)])) _
  refine XS.bipush X.here hx rfl (hb hby d3_60) ?_
  show Steps p.tables e below (T.setTop (mkF m 62 #[.val (.int x0), .val (.int n)] [(.int (97 : Int32)), (.int x0), (.int n)])) _
  by_cases hc62 : x0 < (97 : Int32)
  · refine XS.icmpYes X.here hx rfl (pc0 := 62) (pc' := 69) rfl (hb hby d3_62) rfl (tlt hc62).1 (by decide) (by decide) ?_
    show Steps p.tables e below (T.setTop (mkF m 69 #[.val (.int x0), .val (.int n)] [(.int n)])) _
    refine XS.iconst X.here hx rfl (hb hby d3_69) ?_
    show Steps p.tables e below (T.setTop (mkF m 70 #[.val (.int x0), .val (.int n)] [(.int (0 : Int32)), (.int n)])) _
    refine XS.iadd X.here hx rfl (hb hby d3_70) rfl ?_
    show Steps p.tables e below (T.setTop (mkF m 71 #[.val (.int x0), .val (.int n)] [(.int (n + (0 : Int32)))])) _
    refine XS.istoreN X.here hx rfl (hb hby d3_71) rfl (l' := #[.val (.int x0), .val (.int (n + (0 : Int32)))]) rfl ?_
    obtain rfl : r = (n + (0 : Int32)) := er.trans (by unfold own_step; first | exact if_pos hc62 | rfl | simp only [hc62, ↓reduceIte, eq_self])
    exact kt
  · refine XS.icmpNo X.here hx rfl (hb hby d3_62) rfl (flt hc62).1 ?_
    show Steps p.tables e below (T.setTop (mkF m 65 #[.val (.int x0), .val (.int n)] [(.int n)])) _
    refine XS.iconst X.here hx rfl (hb hby d3_65) ?_
    show Steps p.tables e below (T.setTop (mkF m 66 #[.val (.int x0), .val (.int n)] [(.int (1 : Int32)), (.int n)])) _
    refine XS.goto X.here hx rfl (pc0 := 66) (pc' := 70) rfl (hb hby d3_66) (by decide) (by decide) ?_
    show Steps p.tables e below (T.setTop (mkF m 70 #[.val (.int x0), .val (.int n)] [(.int (1 : Int32)), (.int n)])) _
    refine XS.iadd X.here hx rfl (hb hby d3_70) rfl ?_
    show Steps p.tables e below (T.setTop (mkF m 71 #[.val (.int x0), .val (.int n)] [(.int (n + (1 : Int32)))])) _
    refine XS.istoreN X.here hx rfl (hb hby d3_71) rfl (l' := #[.val (.int x0), .val (.int (n + (1 : Int32)))]) rfl ?_
    obtain rfl : r = (n + (1 : Int32)) := er.trans (by unfold own_step; first | exact if_neg hc62 | rfl | simp only [hc62, ↓reduceIte, eq_self])
    exact kt
set_option maxRecDepth 65536 in
set_option maxHeartbeats 40000000 in
theorem sp_72 {p : Program} {l : Launch} {e : Env} {R : Room} {s : State} {m : MethodId} {args : Array Value} {below : List Frame} {meth : Method} {c : Code} {T : State} {locs : List Loc} {cells slots : Nat} {Z : State} {a0 : Array Value} (X : Stand p l e R s m args below meth c T locs cells slots) (hx : p.tables.exec = Jvm.exec) (hZ : Z.Warmed39 s.vm) (hw : ∀ d ∈ tables_1, d.before a0 Z = true) (hby : c.code = method_3_code) (hown : s.vm.findClass "com/example/xylem/xylem/model/QNameIsNameStartCharPinLaw" = some m.cls) (x0 n r : Int32) (er : r = own_step x0 (123 : Int32) n) {target : State} (kt : Steps p.tables e below (T.setTop (mkF m 86 #[.val (.int x0), .val (.int r)] [])) target) : Steps p.tables e below (T.setTop (mkF m 72 #[.val (.int x0), .val (.int n)] [])) target := by
  show Steps p.tables e below (T.setTop (mkF m 72 #[.val (.int x0), .val (.int n)] [])) _
  refine XS.iloadN X.here hx rfl (hb hby d3_72) rfl ?_
  show Steps p.tables e below (T.setTop (mkF m 73 #[.val (.int x0), .val (.int n)] [(.int n)])) _
  refine XS.iloadN X.here hx rfl (hb hby d3_73) rfl ?_
  show Steps p.tables e below (T.setTop (mkF m 74 #[.val (.int x0), .val (.int n)] [(.int x0), (.int n)])) _
  refine XS.bipush X.here hx rfl (hb hby d3_74) ?_
  show Steps p.tables e below (T.setTop (mkF m 76 #[.val (.int x0), .val (.int n)] [(.int (123 : Int32)), (.int x0), (.int n)])) _
  by_cases hc76 : x0 < (123 : Int32)
  · refine XS.icmpYes X.here hx rfl (pc0 := 76) (pc' := 83) rfl (hb hby d3_76) rfl (tlt hc76).1 (by decide) (by decide) ?_
    show Steps p.tables e below (T.setTop (mkF m 83 #[.val (.int x0), .val (.int n)] [(.int n)])) _
    refine XS.iconst X.here hx rfl (hb hby d3_83) ?_
    show Steps p.tables e below (T.setTop (mkF m 84 #[.val (.int x0), .val (.int n)] [(.int (0 : Int32)), (.int n)])) _
    refine XS.iadd X.here hx rfl (hb hby d3_84) rfl ?_
    show Steps p.tables e below (T.setTop (mkF m 85 #[.val (.int x0), .val (.int n)] [(.int (n + (0 : Int32)))])) _
    refine XS.istoreN X.here hx rfl (hb hby d3_85) rfl (l' := #[.val (.int x0), .val (.int (n + (0 : Int32)))]) rfl ?_
    obtain rfl : r = (n + (0 : Int32)) := er.trans (by unfold own_step; first | exact if_pos hc76 | rfl | simp only [hc76, ↓reduceIte, eq_self])
    exact kt
  · refine XS.icmpNo X.here hx rfl (hb hby d3_76) rfl (flt hc76).1 ?_
    show Steps p.tables e below (T.setTop (mkF m 79 #[.val (.int x0), .val (.int n)] [(.int n)])) _
    refine XS.iconst X.here hx rfl (hb hby d3_79) ?_
    show Steps p.tables e below (T.setTop (mkF m 80 #[.val (.int x0), .val (.int n)] [(.int (1 : Int32)), (.int n)])) _
    refine XS.goto X.here hx rfl (pc0 := 80) (pc' := 84) rfl (hb hby d3_80) (by decide) (by decide) ?_
    show Steps p.tables e below (T.setTop (mkF m 84 #[.val (.int x0), .val (.int n)] [(.int (1 : Int32)), (.int n)])) _
    refine XS.iadd X.here hx rfl (hb hby d3_84) rfl ?_
    show Steps p.tables e below (T.setTop (mkF m 85 #[.val (.int x0), .val (.int n)] [(.int (n + (1 : Int32)))])) _
    refine XS.istoreN X.here hx rfl (hb hby d3_85) rfl (l' := #[.val (.int x0), .val (.int (n + (1 : Int32)))]) rfl ?_
    obtain rfl : r = (n + (1 : Int32)) := er.trans (by unfold own_step; first | exact if_neg hc76 | rfl | simp only [hc76, ↓reduceIte, eq_self])
    exact kt
set_option maxRecDepth 65536 in
set_option maxHeartbeats 40000000 in
theorem sp_86 {p : Program} {l : Launch} {e : Env} {R : Room} {s : State} {m : MethodId} {args : Array Value} {below : List Frame} {meth : Method} {c : Code} {T : State} {locs : List Loc} {cells slots : Nat} {Z : State} {a0 : Array Value} (X : Stand p l e R s m args below meth c T locs cells slots) (hx : p.tables.exec = Jvm.exec) (hZ : Z.Warmed39 s.vm) (hw : ∀ d ∈ tables_1, d.before a0 Z = true) (hby : c.code = method_3_code) (hown : s.vm.findClass "com/example/xylem/xylem/model/QNameIsNameStartCharPinLaw" = some m.cls) (x0 n r : Int32) (er : r = own_step x0 (192 : Int32) n) {target : State} (kt : Steps p.tables e below (T.setTop (mkF m 101 #[.val (.int x0), .val (.int r)] [])) target) : Steps p.tables e below (T.setTop (mkF m 86 #[.val (.int x0), .val (.int n)] [])) target := by
  show Steps p.tables e below (T.setTop (mkF m 86 #[.val (.int x0), .val (.int n)] [])) _
  refine XS.iloadN X.here hx rfl (hb hby d3_86) rfl ?_
  show Steps p.tables e below (T.setTop (mkF m 87 #[.val (.int x0), .val (.int n)] [(.int n)])) _
  refine XS.iloadN X.here hx rfl (hb hby d3_87) rfl ?_
  show Steps p.tables e below (T.setTop (mkF m 88 #[.val (.int x0), .val (.int n)] [(.int x0), (.int n)])) _
  refine XS.sipush X.here hx rfl (hb hby d3_88) ?_
  show Steps p.tables e below (T.setTop (mkF m 91 #[.val (.int x0), .val (.int n)] [(.int (192 : Int32)), (.int x0), (.int n)])) _
  by_cases hc91 : x0 < (192 : Int32)
  · refine XS.icmpYes X.here hx rfl (pc0 := 91) (pc' := 98) rfl (hb hby d3_91) rfl (tlt hc91).1 (by decide) (by decide) ?_
    show Steps p.tables e below (T.setTop (mkF m 98 #[.val (.int x0), .val (.int n)] [(.int n)])) _
    refine XS.iconst X.here hx rfl (hb hby d3_98) ?_
    show Steps p.tables e below (T.setTop (mkF m 99 #[.val (.int x0), .val (.int n)] [(.int (0 : Int32)), (.int n)])) _
    refine XS.iadd X.here hx rfl (hb hby d3_99) rfl ?_
    show Steps p.tables e below (T.setTop (mkF m 100 #[.val (.int x0), .val (.int n)] [(.int (n + (0 : Int32)))])) _
    refine XS.istoreN X.here hx rfl (hb hby d3_100) rfl (l' := #[.val (.int x0), .val (.int (n + (0 : Int32)))]) rfl ?_
    obtain rfl : r = (n + (0 : Int32)) := er.trans (by unfold own_step; first | exact if_pos hc91 | rfl | simp only [hc91, ↓reduceIte, eq_self])
    exact kt
  · refine XS.icmpNo X.here hx rfl (hb hby d3_91) rfl (flt hc91).1 ?_
    show Steps p.tables e below (T.setTop (mkF m 94 #[.val (.int x0), .val (.int n)] [(.int n)])) _
    refine XS.iconst X.here hx rfl (hb hby d3_94) ?_
    show Steps p.tables e below (T.setTop (mkF m 95 #[.val (.int x0), .val (.int n)] [(.int (1 : Int32)), (.int n)])) _
    refine XS.goto X.here hx rfl (pc0 := 95) (pc' := 99) rfl (hb hby d3_95) (by decide) (by decide) ?_
    show Steps p.tables e below (T.setTop (mkF m 99 #[.val (.int x0), .val (.int n)] [(.int (1 : Int32)), (.int n)])) _
    refine XS.iadd X.here hx rfl (hb hby d3_99) rfl ?_
    show Steps p.tables e below (T.setTop (mkF m 100 #[.val (.int x0), .val (.int n)] [(.int (n + (1 : Int32)))])) _
    refine XS.istoreN X.here hx rfl (hb hby d3_100) rfl (l' := #[.val (.int x0), .val (.int (n + (1 : Int32)))]) rfl ?_
    obtain rfl : r = (n + (1 : Int32)) := er.trans (by unfold own_step; first | exact if_neg hc91 | rfl | simp only [hc91, ↓reduceIte, eq_self])
    exact kt
set_option maxRecDepth 65536 in
set_option maxHeartbeats 40000000 in
theorem sp_101 {p : Program} {l : Launch} {e : Env} {R : Room} {s : State} {m : MethodId} {args : Array Value} {below : List Frame} {meth : Method} {c : Code} {T : State} {locs : List Loc} {cells slots : Nat} {Z : State} {a0 : Array Value} (X : Stand p l e R s m args below meth c T locs cells slots) (hx : p.tables.exec = Jvm.exec) (hZ : Z.Warmed39 s.vm) (hw : ∀ d ∈ tables_1, d.before a0 Z = true) (hby : c.code = method_3_code) (hown : s.vm.findClass "com/example/xylem/xylem/model/QNameIsNameStartCharPinLaw" = some m.cls) (x0 n r : Int32) (er : r = own_step x0 (215 : Int32) n) {target : State} (kt : Steps p.tables e below (T.setTop (mkF m 116 #[.val (.int x0), .val (.int r)] [])) target) : Steps p.tables e below (T.setTop (mkF m 101 #[.val (.int x0), .val (.int n)] [])) target := by
  show Steps p.tables e below (T.setTop (mkF m 101 #[.val (.int x0), .val (.int n)] [])) _
  refine XS.iloadN X.here hx rfl (hb hby d3_101) rfl ?_
  show Steps p.tables e below (T.setTop (mkF m 102 #[.val (.int x0), .val (.int n)] [(.int n)])) _
  refine XS.iloadN X.here hx rfl (hb hby d3_102) rfl ?_
  show Steps p.tables e below (T.setTop (mkF m 103 #[.val (.int x0), .val (.int n)] [(.int x0), (.int n)])) _
  refine XS.sipush X.here hx rfl (hb hby d3_103) ?_
  show Steps p.tables e below (T.setTop (mkF m 106 #[.val (.int x0), .val (.int n)] [(.int (215 : Int32)), (.int x0), (.int n)])) _
  by_cases hc106 : x0 < (215 : Int32)
  · refine XS.icmpYes X.here hx rfl (pc0 := 106) (pc' := 113) rfl (hb hby d3_106) rfl (tlt hc106).1 (by decide) (by decide) ?_
    show Steps p.tables e below (T.setTop (mkF m 113 #[.val (.int x0), .val (.int n)] [(.int n)])) _
    refine XS.iconst X.here hx rfl (hb hby d3_113) ?_
    show Steps p.tables e below (T.setTop (mkF m 114 #[.val (.int x0), .val (.int n)] [(.int (0 : Int32)), (.int n)])) _
    refine XS.iadd X.here hx rfl (hb hby d3_114) rfl ?_
    show Steps p.tables e below (T.setTop (mkF m 115 #[.val (.int x0), .val (.int n)] [(.int (n + (0 : Int32)))])) _
    refine XS.istoreN X.here hx rfl (hb hby d3_115) rfl (l' := #[.val (.int x0), .val (.int (n + (0 : Int32)))]) rfl ?_
    obtain rfl : r = (n + (0 : Int32)) := er.trans (by unfold own_step; first | exact if_pos hc106 | rfl | simp only [hc106, ↓reduceIte, eq_self])
    exact kt
  · refine XS.icmpNo X.here hx rfl (hb hby d3_106) rfl (flt hc106).1 ?_
    show Steps p.tables e below (T.setTop (mkF m 109 #[.val (.int x0), .val (.int n)] [(.int n)])) _
    refine XS.iconst X.here hx rfl (hb hby d3_109) ?_
    show Steps p.tables e below (T.setTop (mkF m 110 #[.val (.int x0), .val (.int n)] [(.int (1 : Int32)), (.int n)])) _
    refine XS.goto X.here hx rfl (pc0 := 110) (pc' := 114) rfl (hb hby d3_110) (by decide) (by decide) ?_
    show Steps p.tables e below (T.setTop (mkF m 114 #[.val (.int x0), .val (.int n)] [(.int (1 : Int32)), (.int n)])) _
    refine XS.iadd X.here hx rfl (hb hby d3_114) rfl ?_
    show Steps p.tables e below (T.setTop (mkF m 115 #[.val (.int x0), .val (.int n)] [(.int (n + (1 : Int32)))])) _
    refine XS.istoreN X.here hx rfl (hb hby d3_115) rfl (l' := #[.val (.int x0), .val (.int (n + (1 : Int32)))]) rfl ?_
    obtain rfl : r = (n + (1 : Int32)) := er.trans (by unfold own_step; first | exact if_neg hc106 | rfl | simp only [hc106, ↓reduceIte, eq_self])
    exact kt
set_option maxRecDepth 65536 in
set_option maxHeartbeats 40000000 in
theorem sp_116 {p : Program} {l : Launch} {e : Env} {R : Room} {s : State} {m : MethodId} {args : Array Value} {below : List Frame} {meth : Method} {c : Code} {T : State} {locs : List Loc} {cells slots : Nat} {Z : State} {a0 : Array Value} (X : Stand p l e R s m args below meth c T locs cells slots) (hx : p.tables.exec = Jvm.exec) (hZ : Z.Warmed39 s.vm) (hw : ∀ d ∈ tables_1, d.before a0 Z = true) (hby : c.code = method_3_code) (hown : s.vm.findClass "com/example/xylem/xylem/model/QNameIsNameStartCharPinLaw" = some m.cls) (x0 n r : Int32) (er : r = own_step x0 (216 : Int32) n) {target : State} (kt : Steps p.tables e below (T.setTop (mkF m 131 #[.val (.int x0), .val (.int r)] [])) target) : Steps p.tables e below (T.setTop (mkF m 116 #[.val (.int x0), .val (.int n)] [])) target := by
  show Steps p.tables e below (T.setTop (mkF m 116 #[.val (.int x0), .val (.int n)] [])) _
  refine XS.iloadN X.here hx rfl (hb hby d3_116) rfl ?_
  show Steps p.tables e below (T.setTop (mkF m 117 #[.val (.int x0), .val (.int n)] [(.int n)])) _
  refine XS.iloadN X.here hx rfl (hb hby d3_117) rfl ?_
  show Steps p.tables e below (T.setTop (mkF m 118 #[.val (.int x0), .val (.int n)] [(.int x0), (.int n)])) _
  refine XS.sipush X.here hx rfl (hb hby d3_118) ?_
  show Steps p.tables e below (T.setTop (mkF m 121 #[.val (.int x0), .val (.int n)] [(.int (216 : Int32)), (.int x0), (.int n)])) _
  by_cases hc121 : x0 < (216 : Int32)
  · refine XS.icmpYes X.here hx rfl (pc0 := 121) (pc' := 128) rfl (hb hby d3_121) rfl (tlt hc121).1 (by decide) (by decide) ?_
    show Steps p.tables e below (T.setTop (mkF m 128 #[.val (.int x0), .val (.int n)] [(.int n)])) _
    refine XS.iconst X.here hx rfl (hb hby d3_128) ?_
    show Steps p.tables e below (T.setTop (mkF m 129 #[.val (.int x0), .val (.int n)] [(.int (0 : Int32)), (.int n)])) _
    refine XS.iadd X.here hx rfl (hb hby d3_129) rfl ?_
    show Steps p.tables e below (T.setTop (mkF m 130 #[.val (.int x0), .val (.int n)] [(.int (n + (0 : Int32)))])) _
    refine XS.istoreN X.here hx rfl (hb hby d3_130) rfl (l' := #[.val (.int x0), .val (.int (n + (0 : Int32)))]) rfl ?_
    obtain rfl : r = (n + (0 : Int32)) := er.trans (by unfold own_step; first | exact if_pos hc121 | rfl | simp only [hc121, ↓reduceIte, eq_self])
    exact kt
  · refine XS.icmpNo X.here hx rfl (hb hby d3_121) rfl (flt hc121).1 ?_
    show Steps p.tables e below (T.setTop (mkF m 124 #[.val (.int x0), .val (.int n)] [(.int n)])) _
    refine XS.iconst X.here hx rfl (hb hby d3_124) ?_
    show Steps p.tables e below (T.setTop (mkF m 125 #[.val (.int x0), .val (.int n)] [(.int (1 : Int32)), (.int n)])) _
    refine XS.goto X.here hx rfl (pc0 := 125) (pc' := 129) rfl (hb hby d3_125) (by decide) (by decide) ?_
    show Steps p.tables e below (T.setTop (mkF m 129 #[.val (.int x0), .val (.int n)] [(.int (1 : Int32)), (.int n)])) _
    refine XS.iadd X.here hx rfl (hb hby d3_129) rfl ?_
    show Steps p.tables e below (T.setTop (mkF m 130 #[.val (.int x0), .val (.int n)] [(.int (n + (1 : Int32)))])) _
    refine XS.istoreN X.here hx rfl (hb hby d3_130) rfl (l' := #[.val (.int x0), .val (.int (n + (1 : Int32)))]) rfl ?_
    obtain rfl : r = (n + (1 : Int32)) := er.trans (by unfold own_step; first | exact if_neg hc121 | rfl | simp only [hc121, ↓reduceIte, eq_self])
    exact kt
set_option maxRecDepth 65536 in
set_option maxHeartbeats 40000000 in
theorem sp_131 {p : Program} {l : Launch} {e : Env} {R : Room} {s : State} {m : MethodId} {args : Array Value} {below : List Frame} {meth : Method} {c : Code} {T : State} {locs : List Loc} {cells slots : Nat} {Z : State} {a0 : Array Value} (X : Stand p l e R s m args below meth c T locs cells slots) (hx : p.tables.exec = Jvm.exec) (hZ : Z.Warmed39 s.vm) (hw : ∀ d ∈ tables_1, d.before a0 Z = true) (hby : c.code = method_3_code) (hown : s.vm.findClass "com/example/xylem/xylem/model/QNameIsNameStartCharPinLaw" = some m.cls) (x0 n r : Int32) (er : r = own_step x0 (247 : Int32) n) {target : State} (kt : Steps p.tables e below (T.setTop (mkF m 146 #[.val (.int x0), .val (.int r)] [])) target) : Steps p.tables e below (T.setTop (mkF m 131 #[.val (.int x0), .val (.int n)] [])) target := by
  show Steps p.tables e below (T.setTop (mkF m 131 #[.val (.int x0), .val (.int n)] [])) _
  refine XS.iloadN X.here hx rfl (hb hby d3_131) rfl ?_
  show Steps p.tables e below (T.setTop (mkF m 132 #[.val (.int x0), .val (.int n)] [(.int n)])) _
  refine XS.iloadN X.here hx rfl (hb hby d3_132) rfl ?_
  show Steps p.tables e below (T.setTop (mkF m 133 #[.val (.int x0), .val (.int n)] [(.int x0), (.int n)])) _
  refine XS.sipush X.here hx rfl (hb hby d3_133) ?_
  show Steps p.tables e below (T.setTop (mkF m 136 #[.val (.int x0), .val (.int n)] [(.int (247 : Int32)), (.int x0), (.int n)])) _
  by_cases hc136 : x0 < (247 : Int32)
  · refine XS.icmpYes X.here hx rfl (pc0 := 136) (pc' := 143) rfl (hb hby d3_136) rfl (tlt hc136).1 (by decide) (by decide) ?_
    show Steps p.tables e below (T.setTop (mkF m 143 #[.val (.int x0), .val (.int n)] [(.int n)])) _
    refine XS.iconst X.here hx rfl (hb hby d3_143) ?_
    show Steps p.tables e below (T.setTop (mkF m 144 #[.val (.int x0), .val (.int n)] [(.int (0 : Int32)), (.int n)])) _
    refine XS.iadd X.here hx rfl (hb hby d3_144) rfl ?_
    show Steps p.tables e below (T.setTop (mkF m 145 #[.val (.int x0), .val (.int n)] [(.int (n + (0 : Int32)))])) _
    refine XS.istoreN X.here hx rfl (hb hby d3_145) rfl (l' := #[.val (.int x0), .val (.int (n + (0 : Int32)))]) rfl ?_
    obtain rfl : r = (n + (0 : Int32)) := er.trans (by unfold own_step; first | exact if_pos hc136 | rfl | simp only [hc136, ↓reduceIte, eq_self])
    exact kt
  · refine XS.icmpNo X.here hx rfl (hb hby d3_136) rfl (flt hc136).1 ?_
    show Steps p.tables e below (T.setTop (mkF m 139 #[.val (.int x0), .val (.int n)] [(.int n)])) _
    refine XS.iconst X.here hx rfl (hb hby d3_139) ?_
    show Steps p.tables e below (T.setTop (mkF m 140 #[.val (.int x0), .val (.int n)] [(.int (1 : Int32)), (.int n)])) _
    refine XS.goto X.here hx rfl (pc0 := 140) (pc' := 144) rfl (hb hby d3_140) (by decide) (by decide) ?_
    show Steps p.tables e below (T.setTop (mkF m 144 #[.val (.int x0), .val (.int n)] [(.int (1 : Int32)), (.int n)])) _
    refine XS.iadd X.here hx rfl (hb hby d3_144) rfl ?_
    show Steps p.tables e below (T.setTop (mkF m 145 #[.val (.int x0), .val (.int n)] [(.int (n + (1 : Int32)))])) _
    refine XS.istoreN X.here hx rfl (hb hby d3_145) rfl (l' := #[.val (.int x0), .val (.int (n + (1 : Int32)))]) rfl ?_
    obtain rfl : r = (n + (1 : Int32)) := er.trans (by unfold own_step; first | exact if_neg hc136 | rfl | simp only [hc136, ↓reduceIte, eq_self])
    exact kt
set_option maxRecDepth 65536 in
set_option maxHeartbeats 40000000 in
theorem sp_146 {p : Program} {l : Launch} {e : Env} {R : Room} {s : State} {m : MethodId} {args : Array Value} {below : List Frame} {meth : Method} {c : Code} {T : State} {locs : List Loc} {cells slots : Nat} {Z : State} {a0 : Array Value} (X : Stand p l e R s m args below meth c T locs cells slots) (hx : p.tables.exec = Jvm.exec) (hZ : Z.Warmed39 s.vm) (hw : ∀ d ∈ tables_1, d.before a0 Z = true) (hby : c.code = method_3_code) (hown : s.vm.findClass "com/example/xylem/xylem/model/QNameIsNameStartCharPinLaw" = some m.cls) (x0 n r : Int32) (er : r = own_step x0 (248 : Int32) n) {target : State} (kt : Steps p.tables e below (T.setTop (mkF m 161 #[.val (.int x0), .val (.int r)] [])) target) : Steps p.tables e below (T.setTop (mkF m 146 #[.val (.int x0), .val (.int n)] [])) target := by
  show Steps p.tables e below (T.setTop (mkF m 146 #[.val (.int x0), .val (.int n)] [])) _
  refine XS.iloadN X.here hx rfl (hb hby d3_146) rfl ?_
  show Steps p.tables e below (T.setTop (mkF m 147 #[.val (.int x0), .val (.int n)] [(.int n)])) _
  refine XS.iloadN X.here hx rfl (hb hby d3_147) rfl ?_
  show Steps p.tables e below (T.setTop (mkF m 148 #[.val (.int x0), .val (.int n)] [(.int x0), (.int n)])) _
  refine XS.sipush X.here hx rfl (hb hby d3_148) ?_
  show Steps p.tables e below (T.setTop (mkF m 151 #[.val (.int x0), .val (.int n)] [(.int (248 : Int32)), (.int x0), (.int n)])) _
  by_cases hc151 : x0 < (248 : Int32)
  · refine XS.icmpYes X.here hx rfl (pc0 := 151) (pc' := 158) rfl (hb hby d3_151) rfl (tlt hc151).1 (by decide) (by decide) ?_
    show Steps p.tables e below (T.setTop (mkF m 158 #[.val (.int x0), .val (.int n)] [(.int n)])) _
    refine XS.iconst X.here hx rfl (hb hby d3_158) ?_
    show Steps p.tables e below (T.setTop (mkF m 159 #[.val (.int x0), .val (.int n)] [(.int (0 : Int32)), (.int n)])) _
    refine XS.iadd X.here hx rfl (hb hby d3_159) rfl ?_
    show Steps p.tables e below (T.setTop (mkF m 160 #[.val (.int x0), .val (.int n)] [(.int (n + (0 : Int32)))])) _
    refine XS.istoreN X.here hx rfl (hb hby d3_160) rfl (l' := #[.val (.int x0), .val (.int (n + (0 : Int32)))]) rfl ?_
    obtain rfl : r = (n + (0 : Int32)) := er.trans (by unfold own_step; first | exact if_pos hc151 | rfl | simp only [hc151, ↓reduceIte, eq_self])
    exact kt
  · refine XS.icmpNo X.here hx rfl (hb hby d3_151) rfl (flt hc151).1 ?_
    show Steps p.tables e below (T.setTop (mkF m 154 #[.val (.int x0), .val (.int n)] [(.int n)])) _
    refine XS.iconst X.here hx rfl (hb hby d3_154) ?_
    show Steps p.tables e below (T.setTop (mkF m 155 #[.val (.int x0), .val (.int n)] [(.int (1 : Int32)), (.int n)])) _
    refine XS.goto X.here hx rfl (pc0 := 155) (pc' := 159) rfl (hb hby d3_155) (by decide) (by decide) ?_
    show Steps p.tables e below (T.setTop (mkF m 159 #[.val (.int x0), .val (.int n)] [(.int (1 : Int32)), (.int n)])) _
    refine XS.iadd X.here hx rfl (hb hby d3_159) rfl ?_
    show Steps p.tables e below (T.setTop (mkF m 160 #[.val (.int x0), .val (.int n)] [(.int (n + (1 : Int32)))])) _
    refine XS.istoreN X.here hx rfl (hb hby d3_160) rfl (l' := #[.val (.int x0), .val (.int (n + (1 : Int32)))]) rfl ?_
    obtain rfl : r = (n + (1 : Int32)) := er.trans (by unfold own_step; first | exact if_neg hc151 | rfl | simp only [hc151, ↓reduceIte, eq_self])
    exact kt
set_option maxRecDepth 65536 in
set_option maxHeartbeats 40000000 in
theorem sp_161 {p : Program} {l : Launch} {e : Env} {R : Room} {s : State} {m : MethodId} {args : Array Value} {below : List Frame} {meth : Method} {c : Code} {T : State} {locs : List Loc} {cells slots : Nat} {Z : State} {a0 : Array Value} (X : Stand p l e R s m args below meth c T locs cells slots) (hx : p.tables.exec = Jvm.exec) (hZ : Z.Warmed39 s.vm) (hw : ∀ d ∈ tables_1, d.before a0 Z = true) (hby : c.code = method_3_code) (hown : s.vm.findClass "com/example/xylem/xylem/model/QNameIsNameStartCharPinLaw" = some m.cls) (x0 n r : Int32) (er : r = own_step x0 (768 : Int32) n) {target : State} (kt : Steps p.tables e below (T.setTop (mkF m 176 #[.val (.int x0), .val (.int r)] [])) target) : Steps p.tables e below (T.setTop (mkF m 161 #[.val (.int x0), .val (.int n)] [])) target := by
  show Steps p.tables e below (T.setTop (mkF m 161 #[.val (.int x0), .val (.int n)] [])) _
  refine XS.iloadN X.here hx rfl (hb hby d3_161) rfl ?_
  show Steps p.tables e below (T.setTop (mkF m 162 #[.val (.int x0), .val (.int n)] [(.int n)])) _
  refine XS.iloadN X.here hx rfl (hb hby d3_162) rfl ?_
  show Steps p.tables e below (T.setTop (mkF m 163 #[.val (.int x0), .val (.int n)] [(.int x0), (.int n)])) _
  refine XS.sipush X.here hx rfl (hb hby d3_163) ?_
  show Steps p.tables e below (T.setTop (mkF m 166 #[.val (.int x0), .val (.int n)] [(.int (768 : Int32)), (.int x0), (.int n)])) _
  by_cases hc166 : x0 < (768 : Int32)
  · refine XS.icmpYes X.here hx rfl (pc0 := 166) (pc' := 173) rfl (hb hby d3_166) rfl (tlt hc166).1 (by decide) (by decide) ?_
    show Steps p.tables e below (T.setTop (mkF m 173 #[.val (.int x0), .val (.int n)] [(.int n)])) _
    refine XS.iconst X.here hx rfl (hb hby d3_173) ?_
    show Steps p.tables e below (T.setTop (mkF m 174 #[.val (.int x0), .val (.int n)] [(.int (0 : Int32)), (.int n)])) _
    refine XS.iadd X.here hx rfl (hb hby d3_174) rfl ?_
    show Steps p.tables e below (T.setTop (mkF m 175 #[.val (.int x0), .val (.int n)] [(.int (n + (0 : Int32)))])) _
    refine XS.istoreN X.here hx rfl (hb hby d3_175) rfl (l' := #[.val (.int x0), .val (.int (n + (0 : Int32)))]) rfl ?_
    obtain rfl : r = (n + (0 : Int32)) := er.trans (by unfold own_step; first | exact if_pos hc166 | rfl | simp only [hc166, ↓reduceIte, eq_self])
    exact kt
  · refine XS.icmpNo X.here hx rfl (hb hby d3_166) rfl (flt hc166).1 ?_
    show Steps p.tables e below (T.setTop (mkF m 169 #[.val (.int x0), .val (.int n)] [(.int n)])) _
    refine XS.iconst X.here hx rfl (hb hby d3_169) ?_
    show Steps p.tables e below (T.setTop (mkF m 170 #[.val (.int x0), .val (.int n)] [(.int (1 : Int32)), (.int n)])) _
    refine XS.goto X.here hx rfl (pc0 := 170) (pc' := 174) rfl (hb hby d3_170) (by decide) (by decide) ?_
    show Steps p.tables e below (T.setTop (mkF m 174 #[.val (.int x0), .val (.int n)] [(.int (1 : Int32)), (.int n)])) _
    refine XS.iadd X.here hx rfl (hb hby d3_174) rfl ?_
    show Steps p.tables e below (T.setTop (mkF m 175 #[.val (.int x0), .val (.int n)] [(.int (n + (1 : Int32)))])) _
    refine XS.istoreN X.here hx rfl (hb hby d3_175) rfl (l' := #[.val (.int x0), .val (.int (n + (1 : Int32)))]) rfl ?_
    obtain rfl : r = (n + (1 : Int32)) := er.trans (by unfold own_step; first | exact if_neg hc166 | rfl | simp only [hc166, ↓reduceIte, eq_self])
    exact kt
set_option maxRecDepth 65536 in
set_option maxHeartbeats 40000000 in
theorem sp_176 {p : Program} {l : Launch} {e : Env} {R : Room} {s : State} {m : MethodId} {args : Array Value} {below : List Frame} {meth : Method} {c : Code} {T : State} {locs : List Loc} {cells slots : Nat} {Z : State} {a0 : Array Value} (X : Stand p l e R s m args below meth c T locs cells slots) (hx : p.tables.exec = Jvm.exec) (hZ : Z.Warmed39 s.vm) (hw : ∀ d ∈ tables_1, d.before a0 Z = true) (hby : c.code = method_3_code) (hown : s.vm.findClass "com/example/xylem/xylem/model/QNameIsNameStartCharPinLaw" = some m.cls) (x0 n r : Int32) (er : r = own_step x0 (880 : Int32) n) {target : State} (kt : Steps p.tables e below (T.setTop (mkF m 191 #[.val (.int x0), .val (.int r)] [])) target) : Steps p.tables e below (T.setTop (mkF m 176 #[.val (.int x0), .val (.int n)] [])) target := by
  show Steps p.tables e below (T.setTop (mkF m 176 #[.val (.int x0), .val (.int n)] [])) _
  refine XS.iloadN X.here hx rfl (hb hby d3_176) rfl ?_
  show Steps p.tables e below (T.setTop (mkF m 177 #[.val (.int x0), .val (.int n)] [(.int n)])) _
  refine XS.iloadN X.here hx rfl (hb hby d3_177) rfl ?_
  show Steps p.tables e below (T.setTop (mkF m 178 #[.val (.int x0), .val (.int n)] [(.int x0), (.int n)])) _
  refine XS.sipush X.here hx rfl (hb hby d3_178) ?_
  show Steps p.tables e below (T.setTop (mkF m 181 #[.val (.int x0), .val (.int n)] [(.int (880 : Int32)), (.int x0), (.int n)])) _
  by_cases hc181 : x0 < (880 : Int32)
  · refine XS.icmpYes X.here hx rfl (pc0 := 181) (pc' := 188) rfl (hb hby d3_181) rfl (tlt hc181).1 (by decide) (by decide) ?_
    show Steps p.tables e below (T.setTop (mkF m 188 #[.val (.int x0), .val (.int n)] [(.int n)])) _
    refine XS.iconst X.here hx rfl (hb hby d3_188) ?_
    show Steps p.tables e below (T.setTop (mkF m 189 #[.val (.int x0), .val (.int n)] [(.int (0 : Int32)), (.int n)])) _
    refine XS.iadd X.here hx rfl (hb hby d3_189) rfl ?_
    show Steps p.tables e below (T.setTop (mkF m 190 #[.val (.int x0), .val (.int n)] [(.int (n + (0 : Int32)))])) _
    refine XS.istoreN X.here hx rfl (hb hby d3_190) rfl (l' := #[.val (.int x0), .val (.int (n + (0 : Int32)))]) rfl ?_
    obtain rfl : r = (n + (0 : Int32)) := er.trans (by unfold own_step; first | exact if_pos hc181 | rfl | simp only [hc181, ↓reduceIte, eq_self])
    exact kt
  · refine XS.icmpNo X.here hx rfl (hb hby d3_181) rfl (flt hc181).1 ?_
    show Steps p.tables e below (T.setTop (mkF m 184 #[.val (.int x0), .val (.int n)] [(.int n)])) _
    refine XS.iconst X.here hx rfl (hb hby d3_184) ?_
    show Steps p.tables e below (T.setTop (mkF m 185 #[.val (.int x0), .val (.int n)] [(.int (1 : Int32)), (.int n)])) _
    refine XS.goto X.here hx rfl (pc0 := 185) (pc' := 189) rfl (hb hby d3_185) (by decide) (by decide) ?_
    show Steps p.tables e below (T.setTop (mkF m 189 #[.val (.int x0), .val (.int n)] [(.int (1 : Int32)), (.int n)])) _
    refine XS.iadd X.here hx rfl (hb hby d3_189) rfl ?_
    show Steps p.tables e below (T.setTop (mkF m 190 #[.val (.int x0), .val (.int n)] [(.int (n + (1 : Int32)))])) _
    refine XS.istoreN X.here hx rfl (hb hby d3_190) rfl (l' := #[.val (.int x0), .val (.int (n + (1 : Int32)))]) rfl ?_
    obtain rfl : r = (n + (1 : Int32)) := er.trans (by unfold own_step; first | exact if_neg hc181 | rfl | simp only [hc181, ↓reduceIte, eq_self])
    exact kt
set_option maxRecDepth 65536 in
set_option maxHeartbeats 40000000 in
theorem sp_191 {p : Program} {l : Launch} {e : Env} {R : Room} {s : State} {m : MethodId} {args : Array Value} {below : List Frame} {meth : Method} {c : Code} {T : State} {locs : List Loc} {cells slots : Nat} {Z : State} {a0 : Array Value} (X : Stand p l e R s m args below meth c T locs cells slots) (hx : p.tables.exec = Jvm.exec) (hZ : Z.Warmed39 s.vm) (hw : ∀ d ∈ tables_1, d.before a0 Z = true) (hby : c.code = method_3_code) (hown : s.vm.findClass "com/example/xylem/xylem/model/QNameIsNameStartCharPinLaw" = some m.cls) (x0 n r : Int32) (er : r = own_step x0 (894 : Int32) n) {target : State} (kt : Steps p.tables e below (T.setTop (mkF m 206 #[.val (.int x0), .val (.int r)] [])) target) : Steps p.tables e below (T.setTop (mkF m 191 #[.val (.int x0), .val (.int n)] [])) target := by
  show Steps p.tables e below (T.setTop (mkF m 191 #[.val (.int x0), .val (.int n)] [])) _
  refine XS.iloadN X.here hx rfl (hb hby d3_191) rfl ?_
  show Steps p.tables e below (T.setTop (mkF m 192 #[.val (.int x0), .val (.int n)] [(.int n)])) _
  refine XS.iloadN X.here hx rfl (hb hby d3_192) rfl ?_
  show Steps p.tables e below (T.setTop (mkF m 193 #[.val (.int x0), .val (.int n)] [(.int x0), (.int n)])) _
  refine XS.sipush X.here hx rfl (hb hby d3_193) ?_
  show Steps p.tables e below (T.setTop (mkF m 196 #[.val (.int x0), .val (.int n)] [(.int (894 : Int32)), (.int x0), (.int n)])) _
  by_cases hc196 : x0 < (894 : Int32)
  · refine XS.icmpYes X.here hx rfl (pc0 := 196) (pc' := 203) rfl (hb hby d3_196) rfl (tlt hc196).1 (by decide) (by decide) ?_
    show Steps p.tables e below (T.setTop (mkF m 203 #[.val (.int x0), .val (.int n)] [(.int n)])) _
    refine XS.iconst X.here hx rfl (hb hby d3_203) ?_
    show Steps p.tables e below (T.setTop (mkF m 204 #[.val (.int x0), .val (.int n)] [(.int (0 : Int32)), (.int n)])) _
    refine XS.iadd X.here hx rfl (hb hby d3_204) rfl ?_
    show Steps p.tables e below (T.setTop (mkF m 205 #[.val (.int x0), .val (.int n)] [(.int (n + (0 : Int32)))])) _
    refine XS.istoreN X.here hx rfl (hb hby d3_205) rfl (l' := #[.val (.int x0), .val (.int (n + (0 : Int32)))]) rfl ?_
    obtain rfl : r = (n + (0 : Int32)) := er.trans (by unfold own_step; first | exact if_pos hc196 | rfl | simp only [hc196, ↓reduceIte, eq_self])
    exact kt
  · refine XS.icmpNo X.here hx rfl (hb hby d3_196) rfl (flt hc196).1 ?_
    show Steps p.tables e below (T.setTop (mkF m 199 #[.val (.int x0), .val (.int n)] [(.int n)])) _
    refine XS.iconst X.here hx rfl (hb hby d3_199) ?_
    show Steps p.tables e below (T.setTop (mkF m 200 #[.val (.int x0), .val (.int n)] [(.int (1 : Int32)), (.int n)])) _
    refine XS.goto X.here hx rfl (pc0 := 200) (pc' := 204) rfl (hb hby d3_200) (by decide) (by decide) ?_
    show Steps p.tables e below (T.setTop (mkF m 204 #[.val (.int x0), .val (.int n)] [(.int (1 : Int32)), (.int n)])) _
    refine XS.iadd X.here hx rfl (hb hby d3_204) rfl ?_
    show Steps p.tables e below (T.setTop (mkF m 205 #[.val (.int x0), .val (.int n)] [(.int (n + (1 : Int32)))])) _
    refine XS.istoreN X.here hx rfl (hb hby d3_205) rfl (l' := #[.val (.int x0), .val (.int (n + (1 : Int32)))]) rfl ?_
    obtain rfl : r = (n + (1 : Int32)) := er.trans (by unfold own_step; first | exact if_neg hc196 | rfl | simp only [hc196, ↓reduceIte, eq_self])
    exact kt
set_option maxRecDepth 65536 in
set_option maxHeartbeats 40000000 in
theorem sp_206 {p : Program} {l : Launch} {e : Env} {R : Room} {s : State} {m : MethodId} {args : Array Value} {below : List Frame} {meth : Method} {c : Code} {T : State} {locs : List Loc} {cells slots : Nat} {Z : State} {a0 : Array Value} (X : Stand p l e R s m args below meth c T locs cells slots) (hx : p.tables.exec = Jvm.exec) (hZ : Z.Warmed39 s.vm) (hw : ∀ d ∈ tables_1, d.before a0 Z = true) (hby : c.code = method_3_code) (hown : s.vm.findClass "com/example/xylem/xylem/model/QNameIsNameStartCharPinLaw" = some m.cls) (x0 n r : Int32) (er : r = own_step x0 (895 : Int32) n) {target : State} (kt : Steps p.tables e below (T.setTop (mkF m 221 #[.val (.int x0), .val (.int r)] [])) target) : Steps p.tables e below (T.setTop (mkF m 206 #[.val (.int x0), .val (.int n)] [])) target := by
  show Steps p.tables e below (T.setTop (mkF m 206 #[.val (.int x0), .val (.int n)] [])) _
  refine XS.iloadN X.here hx rfl (hb hby d3_206) rfl ?_
  show Steps p.tables e below (T.setTop (mkF m 207 #[.val (.int x0), .val (.int n)] [(.int n)])) _
  refine XS.iloadN X.here hx rfl (hb hby d3_207) rfl ?_
  show Steps p.tables e below (T.setTop (mkF m 208 #[.val (.int x0), .val (.int n)] [(.int x0), (.int n)])) _
  refine XS.sipush X.here hx rfl (hb hby d3_208) ?_
  show Steps p.tables e below (T.setTop (mkF m 211 #[.val (.int x0), .val (.int n)] [(.int (895 : Int32)), (.int x0), (.int n)])) _
  by_cases hc211 : x0 < (895 : Int32)
  · refine XS.icmpYes X.here hx rfl (pc0 := 211) (pc' := 218) rfl (hb hby d3_211) rfl (tlt hc211).1 (by decide) (by decide) ?_
    show Steps p.tables e below (T.setTop (mkF m 218 #[.val (.int x0), .val (.int n)] [(.int n)])) _
    refine XS.iconst X.here hx rfl (hb hby d3_218) ?_
    show Steps p.tables e below (T.setTop (mkF m 219 #[.val (.int x0), .val (.int n)] [(.int (0 : Int32)), (.int n)])) _
    refine XS.iadd X.here hx rfl (hb hby d3_219) rfl ?_
    show Steps p.tables e below (T.setTop (mkF m 220 #[.val (.int x0), .val (.int n)] [(.int (n + (0 : Int32)))])) _
    refine XS.istoreN X.here hx rfl (hb hby d3_220) rfl (l' := #[.val (.int x0), .val (.int (n + (0 : Int32)))]) rfl ?_
    obtain rfl : r = (n + (0 : Int32)) := er.trans (by unfold own_step; first | exact if_pos hc211 | rfl | simp only [hc211, ↓reduceIte, eq_self])
    exact kt
  · refine XS.icmpNo X.here hx rfl (hb hby d3_211) rfl (flt hc211).1 ?_
    show Steps p.tables e below (T.setTop (mkF m 214 #[.val (.int x0), .val (.int n)] [(.int n)])) _
    refine XS.iconst X.here hx rfl (hb hby d3_214) ?_
    show Steps p.tables e below (T.setTop (mkF m 215 #[.val (.int x0), .val (.int n)] [(.int (1 : Int32)), (.int n)])) _
    refine XS.goto X.here hx rfl (pc0 := 215) (pc' := 219) rfl (hb hby d3_215) (by decide) (by decide) ?_
    show Steps p.tables e below (T.setTop (mkF m 219 #[.val (.int x0), .val (.int n)] [(.int (1 : Int32)), (.int n)])) _
    refine XS.iadd X.here hx rfl (hb hby d3_219) rfl ?_
    show Steps p.tables e below (T.setTop (mkF m 220 #[.val (.int x0), .val (.int n)] [(.int (n + (1 : Int32)))])) _
    refine XS.istoreN X.here hx rfl (hb hby d3_220) rfl (l' := #[.val (.int x0), .val (.int (n + (1 : Int32)))]) rfl ?_
    obtain rfl : r = (n + (1 : Int32)) := er.trans (by unfold own_step; first | exact if_neg hc211 | rfl | simp only [hc211, ↓reduceIte, eq_self])
    exact kt
set_option maxRecDepth 65536 in
set_option maxHeartbeats 40000000 in
theorem sp_221 {p : Program} {l : Launch} {e : Env} {R : Room} {s : State} {m : MethodId} {args : Array Value} {below : List Frame} {meth : Method} {c : Code} {T : State} {locs : List Loc} {cells slots : Nat} {Z : State} {a0 : Array Value} (X : Stand p l e R s m args below meth c T locs cells slots) (hx : p.tables.exec = Jvm.exec) (hZ : Z.Warmed39 s.vm) (hw : ∀ d ∈ tables_1, d.before a0 Z = true) (hby : c.code = method_3_code) (hown : s.vm.findClass "com/example/xylem/xylem/model/QNameIsNameStartCharPinLaw" = some m.cls) (x0 n r : Int32) (er : r = own_step x0 (8192 : Int32) n) {target : State} (kt : Steps p.tables e below (T.setTop (mkF m 236 #[.val (.int x0), .val (.int r)] [])) target) : Steps p.tables e below (T.setTop (mkF m 221 #[.val (.int x0), .val (.int n)] [])) target := by
  show Steps p.tables e below (T.setTop (mkF m 221 #[.val (.int x0), .val (.int n)] [])) _
  refine XS.iloadN X.here hx rfl (hb hby d3_221) rfl ?_
  show Steps p.tables e below (T.setTop (mkF m 222 #[.val (.int x0), .val (.int n)] [(.int n)])) _
  refine XS.iloadN X.here hx rfl (hb hby d3_222) rfl ?_
  show Steps p.tables e below (T.setTop (mkF m 223 #[.val (.int x0), .val (.int n)] [(.int x0), (.int n)])) _
  refine XS.sipush X.here hx rfl (hb hby d3_223) ?_
  show Steps p.tables e below (T.setTop (mkF m 226 #[.val (.int x0), .val (.int n)] [(.int (8192 : Int32)), (.int x0), (.int n)])) _
  by_cases hc226 : x0 < (8192 : Int32)
  · refine XS.icmpYes X.here hx rfl (pc0 := 226) (pc' := 233) rfl (hb hby d3_226) rfl (tlt hc226).1 (by decide) (by decide) ?_
    show Steps p.tables e below (T.setTop (mkF m 233 #[.val (.int x0), .val (.int n)] [(.int n)])) _
    refine XS.iconst X.here hx rfl (hb hby d3_233) ?_
    show Steps p.tables e below (T.setTop (mkF m 234 #[.val (.int x0), .val (.int n)] [(.int (0 : Int32)), (.int n)])) _
    refine XS.iadd X.here hx rfl (hb hby d3_234) rfl ?_
    show Steps p.tables e below (T.setTop (mkF m 235 #[.val (.int x0), .val (.int n)] [(.int (n + (0 : Int32)))])) _
    refine XS.istoreN X.here hx rfl (hb hby d3_235) rfl (l' := #[.val (.int x0), .val (.int (n + (0 : Int32)))]) rfl ?_
    obtain rfl : r = (n + (0 : Int32)) := er.trans (by unfold own_step; first | exact if_pos hc226 | rfl | simp only [hc226, ↓reduceIte, eq_self])
    exact kt
  · refine XS.icmpNo X.here hx rfl (hb hby d3_226) rfl (flt hc226).1 ?_
    show Steps p.tables e below (T.setTop (mkF m 229 #[.val (.int x0), .val (.int n)] [(.int n)])) _
    refine XS.iconst X.here hx rfl (hb hby d3_229) ?_
    show Steps p.tables e below (T.setTop (mkF m 230 #[.val (.int x0), .val (.int n)] [(.int (1 : Int32)), (.int n)])) _
    refine XS.goto X.here hx rfl (pc0 := 230) (pc' := 234) rfl (hb hby d3_230) (by decide) (by decide) ?_
    show Steps p.tables e below (T.setTop (mkF m 234 #[.val (.int x0), .val (.int n)] [(.int (1 : Int32)), (.int n)])) _
    refine XS.iadd X.here hx rfl (hb hby d3_234) rfl ?_
    show Steps p.tables e below (T.setTop (mkF m 235 #[.val (.int x0), .val (.int n)] [(.int (n + (1 : Int32)))])) _
    refine XS.istoreN X.here hx rfl (hb hby d3_235) rfl (l' := #[.val (.int x0), .val (.int (n + (1 : Int32)))]) rfl ?_
    obtain rfl : r = (n + (1 : Int32)) := er.trans (by unfold own_step; first | exact if_neg hc226 | rfl | simp only [hc226, ↓reduceIte, eq_self])
    exact kt
set_option maxRecDepth 65536 in
set_option maxHeartbeats 40000000 in
theorem sp_236 {p : Program} {l : Launch} {e : Env} {R : Room} {s : State} {m : MethodId} {args : Array Value} {below : List Frame} {meth : Method} {c : Code} {T : State} {locs : List Loc} {cells slots : Nat} {Z : State} {a0 : Array Value} (X : Stand p l e R s m args below meth c T locs cells slots) (hx : p.tables.exec = Jvm.exec) (hZ : Z.Warmed39 s.vm) (hw : ∀ d ∈ tables_1, d.before a0 Z = true) (hby : c.code = method_3_code) (hown : s.vm.findClass "com/example/xylem/xylem/model/QNameIsNameStartCharPinLaw" = some m.cls) (x0 n r : Int32) (er : r = own_step x0 (8204 : Int32) n) {target : State} (kt : Steps p.tables e below (T.setTop (mkF m 251 #[.val (.int x0), .val (.int r)] [])) target) : Steps p.tables e below (T.setTop (mkF m 236 #[.val (.int x0), .val (.int n)] [])) target := by
  show Steps p.tables e below (T.setTop (mkF m 236 #[.val (.int x0), .val (.int n)] [])) _
  refine XS.iloadN X.here hx rfl (hb hby d3_236) rfl ?_
  show Steps p.tables e below (T.setTop (mkF m 237 #[.val (.int x0), .val (.int n)] [(.int n)])) _
  refine XS.iloadN X.here hx rfl (hb hby d3_237) rfl ?_
  show Steps p.tables e below (T.setTop (mkF m 238 #[.val (.int x0), .val (.int n)] [(.int x0), (.int n)])) _
  refine XS.sipush X.here hx rfl (hb hby d3_238) ?_
  show Steps p.tables e below (T.setTop (mkF m 241 #[.val (.int x0), .val (.int n)] [(.int (8204 : Int32)), (.int x0), (.int n)])) _
  by_cases hc241 : x0 < (8204 : Int32)
  · refine XS.icmpYes X.here hx rfl (pc0 := 241) (pc' := 248) rfl (hb hby d3_241) rfl (tlt hc241).1 (by decide) (by decide) ?_
    show Steps p.tables e below (T.setTop (mkF m 248 #[.val (.int x0), .val (.int n)] [(.int n)])) _
    refine XS.iconst X.here hx rfl (hb hby d3_248) ?_
    show Steps p.tables e below (T.setTop (mkF m 249 #[.val (.int x0), .val (.int n)] [(.int (0 : Int32)), (.int n)])) _
    refine XS.iadd X.here hx rfl (hb hby d3_249) rfl ?_
    show Steps p.tables e below (T.setTop (mkF m 250 #[.val (.int x0), .val (.int n)] [(.int (n + (0 : Int32)))])) _
    refine XS.istoreN X.here hx rfl (hb hby d3_250) rfl (l' := #[.val (.int x0), .val (.int (n + (0 : Int32)))]) rfl ?_
    obtain rfl : r = (n + (0 : Int32)) := er.trans (by unfold own_step; first | exact if_pos hc241 | rfl | simp only [hc241, ↓reduceIte, eq_self])
    exact kt
  · refine XS.icmpNo X.here hx rfl (hb hby d3_241) rfl (flt hc241).1 ?_
    show Steps p.tables e below (T.setTop (mkF m 244 #[.val (.int x0), .val (.int n)] [(.int n)])) _
    refine XS.iconst X.here hx rfl (hb hby d3_244) ?_
    show Steps p.tables e below (T.setTop (mkF m 245 #[.val (.int x0), .val (.int n)] [(.int (1 : Int32)), (.int n)])) _
    refine XS.goto X.here hx rfl (pc0 := 245) (pc' := 249) rfl (hb hby d3_245) (by decide) (by decide) ?_
    show Steps p.tables e below (T.setTop (mkF m 249 #[.val (.int x0), .val (.int n)] [(.int (1 : Int32)), (.int n)])) _
    refine XS.iadd X.here hx rfl (hb hby d3_249) rfl ?_
    show Steps p.tables e below (T.setTop (mkF m 250 #[.val (.int x0), .val (.int n)] [(.int (n + (1 : Int32)))])) _
    refine XS.istoreN X.here hx rfl (hb hby d3_250) rfl (l' := #[.val (.int x0), .val (.int (n + (1 : Int32)))]) rfl ?_
    obtain rfl : r = (n + (1 : Int32)) := er.trans (by unfold own_step; first | exact if_neg hc241 | rfl | simp only [hc241, ↓reduceIte, eq_self])
    exact kt
set_option maxRecDepth 65536 in
set_option maxHeartbeats 40000000 in
theorem sp_251 {p : Program} {l : Launch} {e : Env} {R : Room} {s : State} {m : MethodId} {args : Array Value} {below : List Frame} {meth : Method} {c : Code} {T : State} {locs : List Loc} {cells slots : Nat} {Z : State} {a0 : Array Value} (X : Stand p l e R s m args below meth c T locs cells slots) (hx : p.tables.exec = Jvm.exec) (hZ : Z.Warmed39 s.vm) (hw : ∀ d ∈ tables_1, d.before a0 Z = true) (hby : c.code = method_3_code) (hown : s.vm.findClass "com/example/xylem/xylem/model/QNameIsNameStartCharPinLaw" = some m.cls) (x0 n r : Int32) (er : r = own_step x0 (8206 : Int32) n) {target : State} (kt : Steps p.tables e below (T.setTop (mkF m 266 #[.val (.int x0), .val (.int r)] [])) target) : Steps p.tables e below (T.setTop (mkF m 251 #[.val (.int x0), .val (.int n)] [])) target := by
  show Steps p.tables e below (T.setTop (mkF m 251 #[.val (.int x0), .val (.int n)] [])) _
  refine XS.iloadN X.here hx rfl (hb hby d3_251) rfl ?_
  show Steps p.tables e below (T.setTop (mkF m 252 #[.val (.int x0), .val (.int n)] [(.int n)])) _
  refine XS.iloadN X.here hx rfl (hb hby d3_252) rfl ?_
  show Steps p.tables e below (T.setTop (mkF m 253 #[.val (.int x0), .val (.int n)] [(.int x0), (.int n)])) _
  refine XS.sipush X.here hx rfl (hb hby d3_253) ?_
  show Steps p.tables e below (T.setTop (mkF m 256 #[.val (.int x0), .val (.int n)] [(.int (8206 : Int32)), (.int x0), (.int n)])) _
  by_cases hc256 : x0 < (8206 : Int32)
  · refine XS.icmpYes X.here hx rfl (pc0 := 256) (pc' := 263) rfl (hb hby d3_256) rfl (tlt hc256).1 (by decide) (by decide) ?_
    show Steps p.tables e below (T.setTop (mkF m 263 #[.val (.int x0), .val (.int n)] [(.int n)])) _
    refine XS.iconst X.here hx rfl (hb hby d3_263) ?_
    show Steps p.tables e below (T.setTop (mkF m 264 #[.val (.int x0), .val (.int n)] [(.int (0 : Int32)), (.int n)])) _
    refine XS.iadd X.here hx rfl (hb hby d3_264) rfl ?_
    show Steps p.tables e below (T.setTop (mkF m 265 #[.val (.int x0), .val (.int n)] [(.int (n + (0 : Int32)))])) _
    refine XS.istoreN X.here hx rfl (hb hby d3_265) rfl (l' := #[.val (.int x0), .val (.int (n + (0 : Int32)))]) rfl ?_
    obtain rfl : r = (n + (0 : Int32)) := er.trans (by unfold own_step; first | exact if_pos hc256 | rfl | simp only [hc256, ↓reduceIte, eq_self])
    exact kt
  · refine XS.icmpNo X.here hx rfl (hb hby d3_256) rfl (flt hc256).1 ?_
    show Steps p.tables e below (T.setTop (mkF m 259 #[.val (.int x0), .val (.int n)] [(.int n)])) _
    refine XS.iconst X.here hx rfl (hb hby d3_259) ?_
    show Steps p.tables e below (T.setTop (mkF m 260 #[.val (.int x0), .val (.int n)] [(.int (1 : Int32)), (.int n)])) _
    refine XS.goto X.here hx rfl (pc0 := 260) (pc' := 264) rfl (hb hby d3_260) (by decide) (by decide) ?_
    show Steps p.tables e below (T.setTop (mkF m 264 #[.val (.int x0), .val (.int n)] [(.int (1 : Int32)), (.int n)])) _
    refine XS.iadd X.here hx rfl (hb hby d3_264) rfl ?_
    show Steps p.tables e below (T.setTop (mkF m 265 #[.val (.int x0), .val (.int n)] [(.int (n + (1 : Int32)))])) _
    refine XS.istoreN X.here hx rfl (hb hby d3_265) rfl (l' := #[.val (.int x0), .val (.int (n + (1 : Int32)))]) rfl ?_
    obtain rfl : r = (n + (1 : Int32)) := er.trans (by unfold own_step; first | exact if_neg hc256 | rfl | simp only [hc256, ↓reduceIte, eq_self])
    exact kt
set_option maxRecDepth 65536 in
set_option maxHeartbeats 40000000 in
theorem sp_266 {p : Program} {l : Launch} {e : Env} {R : Room} {s : State} {m : MethodId} {args : Array Value} {below : List Frame} {meth : Method} {c : Code} {T : State} {locs : List Loc} {cells slots : Nat} {Z : State} {a0 : Array Value} (X : Stand p l e R s m args below meth c T locs cells slots) (hx : p.tables.exec = Jvm.exec) (hZ : Z.Warmed39 s.vm) (hw : ∀ d ∈ tables_1, d.before a0 Z = true) (hby : c.code = method_3_code) (hown : s.vm.findClass "com/example/xylem/xylem/model/QNameIsNameStartCharPinLaw" = some m.cls) (x0 n r : Int32) (er : r = own_step x0 (8304 : Int32) n) {target : State} (kt : Steps p.tables e below (T.setTop (mkF m 281 #[.val (.int x0), .val (.int r)] [])) target) : Steps p.tables e below (T.setTop (mkF m 266 #[.val (.int x0), .val (.int n)] [])) target := by
  show Steps p.tables e below (T.setTop (mkF m 266 #[.val (.int x0), .val (.int n)] [])) _
  refine XS.iloadN X.here hx rfl (hb hby d3_266) rfl ?_
  show Steps p.tables e below (T.setTop (mkF m 267 #[.val (.int x0), .val (.int n)] [(.int n)])) _
  refine XS.iloadN X.here hx rfl (hb hby d3_267) rfl ?_
  show Steps p.tables e below (T.setTop (mkF m 268 #[.val (.int x0), .val (.int n)] [(.int x0), (.int n)])) _
  refine XS.sipush X.here hx rfl (hb hby d3_268) ?_
  show Steps p.tables e below (T.setTop (mkF m 271 #[.val (.int x0), .val (.int n)] [(.int (8304 : Int32)), (.int x0), (.int n)])) _
  by_cases hc271 : x0 < (8304 : Int32)
  · refine XS.icmpYes X.here hx rfl (pc0 := 271) (pc' := 278) rfl (hb hby d3_271) rfl (tlt hc271).1 (by decide) (by decide) ?_
    show Steps p.tables e below (T.setTop (mkF m 278 #[.val (.int x0), .val (.int n)] [(.int n)])) _
    refine XS.iconst X.here hx rfl (hb hby d3_278) ?_
    show Steps p.tables e below (T.setTop (mkF m 279 #[.val (.int x0), .val (.int n)] [(.int (0 : Int32)), (.int n)])) _
    refine XS.iadd X.here hx rfl (hb hby d3_279) rfl ?_
    show Steps p.tables e below (T.setTop (mkF m 280 #[.val (.int x0), .val (.int n)] [(.int (n + (0 : Int32)))])) _
    refine XS.istoreN X.here hx rfl (hb hby d3_280) rfl (l' := #[.val (.int x0), .val (.int (n + (0 : Int32)))]) rfl ?_
    obtain rfl : r = (n + (0 : Int32)) := er.trans (by unfold own_step; first | exact if_pos hc271 | rfl | simp only [hc271, ↓reduceIte, eq_self])
    exact kt
  · refine XS.icmpNo X.here hx rfl (hb hby d3_271) rfl (flt hc271).1 ?_
    show Steps p.tables e below (T.setTop (mkF m 274 #[.val (.int x0), .val (.int n)] [(.int n)])) _
    refine XS.iconst X.here hx rfl (hb hby d3_274) ?_
    show Steps p.tables e below (T.setTop (mkF m 275 #[.val (.int x0), .val (.int n)] [(.int (1 : Int32)), (.int n)])) _
    refine XS.goto X.here hx rfl (pc0 := 275) (pc' := 279) rfl (hb hby d3_275) (by decide) (by decide) ?_
    show Steps p.tables e below (T.setTop (mkF m 279 #[.val (.int x0), .val (.int n)] [(.int (1 : Int32)), (.int n)])) _
    refine XS.iadd X.here hx rfl (hb hby d3_279) rfl ?_
    show Steps p.tables e below (T.setTop (mkF m 280 #[.val (.int x0), .val (.int n)] [(.int (n + (1 : Int32)))])) _
    refine XS.istoreN X.here hx rfl (hb hby d3_280) rfl (l' := #[.val (.int x0), .val (.int (n + (1 : Int32)))]) rfl ?_
    obtain rfl : r = (n + (1 : Int32)) := er.trans (by unfold own_step; first | exact if_neg hc271 | rfl | simp only [hc271, ↓reduceIte, eq_self])
    exact kt
set_option maxRecDepth 65536 in
set_option maxHeartbeats 40000000 in
theorem sp_281 {p : Program} {l : Launch} {e : Env} {R : Room} {s : State} {m : MethodId} {args : Array Value} {below : List Frame} {meth : Method} {c : Code} {T : State} {locs : List Loc} {cells slots : Nat} {Z : State} {a0 : Array Value} (X : Stand p l e R s m args below meth c T locs cells slots) (hx : p.tables.exec = Jvm.exec) (hZ : Z.Warmed39 s.vm) (hw : ∀ d ∈ tables_1, d.before a0 Z = true) (hby : c.code = method_3_code) (hown : s.vm.findClass "com/example/xylem/xylem/model/QNameIsNameStartCharPinLaw" = some m.cls) (x0 n r : Int32) (er : r = own_step x0 (8592 : Int32) n) {target : State} (kt : Steps p.tables e below (T.setTop (mkF m 296 #[.val (.int x0), .val (.int r)] [])) target) : Steps p.tables e below (T.setTop (mkF m 281 #[.val (.int x0), .val (.int n)] [])) target := by
  show Steps p.tables e below (T.setTop (mkF m 281 #[.val (.int x0), .val (.int n)] [])) _
  refine XS.iloadN X.here hx rfl (hb hby d3_281) rfl ?_
  show Steps p.tables e below (T.setTop (mkF m 282 #[.val (.int x0), .val (.int n)] [(.int n)])) _
  refine XS.iloadN X.here hx rfl (hb hby d3_282) rfl ?_
  show Steps p.tables e below (T.setTop (mkF m 283 #[.val (.int x0), .val (.int n)] [(.int x0), (.int n)])) _
  refine XS.sipush X.here hx rfl (hb hby d3_283) ?_
  show Steps p.tables e below (T.setTop (mkF m 286 #[.val (.int x0), .val (.int n)] [(.int (8592 : Int32)), (.int x0), (.int n)])) _
  by_cases hc286 : x0 < (8592 : Int32)
  · refine XS.icmpYes X.here hx rfl (pc0 := 286) (pc' := 293) rfl (hb hby d3_286) rfl (tlt hc286).1 (by decide) (by decide) ?_
    show Steps p.tables e below (T.setTop (mkF m 293 #[.val (.int x0), .val (.int n)] [(.int n)])) _
    refine XS.iconst X.here hx rfl (hb hby d3_293) ?_
    show Steps p.tables e below (T.setTop (mkF m 294 #[.val (.int x0), .val (.int n)] [(.int (0 : Int32)), (.int n)])) _
    refine XS.iadd X.here hx rfl (hb hby d3_294) rfl ?_
    show Steps p.tables e below (T.setTop (mkF m 295 #[.val (.int x0), .val (.int n)] [(.int (n + (0 : Int32)))])) _
    refine XS.istoreN X.here hx rfl (hb hby d3_295) rfl (l' := #[.val (.int x0), .val (.int (n + (0 : Int32)))]) rfl ?_
    obtain rfl : r = (n + (0 : Int32)) := er.trans (by unfold own_step; first | exact if_pos hc286 | rfl | simp only [hc286, ↓reduceIte, eq_self])
    exact kt
  · refine XS.icmpNo X.here hx rfl (hb hby d3_286) rfl (flt hc286).1 ?_
    show Steps p.tables e below (T.setTop (mkF m 289 #[.val (.int x0), .val (.int n)] [(.int n)])) _
    refine XS.iconst X.here hx rfl (hb hby d3_289) ?_
    show Steps p.tables e below (T.setTop (mkF m 290 #[.val (.int x0), .val (.int n)] [(.int (1 : Int32)), (.int n)])) _
    refine XS.goto X.here hx rfl (pc0 := 290) (pc' := 294) rfl (hb hby d3_290) (by decide) (by decide) ?_
    show Steps p.tables e below (T.setTop (mkF m 294 #[.val (.int x0), .val (.int n)] [(.int (1 : Int32)), (.int n)])) _
    refine XS.iadd X.here hx rfl (hb hby d3_294) rfl ?_
    show Steps p.tables e below (T.setTop (mkF m 295 #[.val (.int x0), .val (.int n)] [(.int (n + (1 : Int32)))])) _
    refine XS.istoreN X.here hx rfl (hb hby d3_295) rfl (l' := #[.val (.int x0), .val (.int (n + (1 : Int32)))]) rfl ?_
    obtain rfl : r = (n + (1 : Int32)) := er.trans (by unfold own_step; first | exact if_neg hc286 | rfl | simp only [hc286, ↓reduceIte, eq_self])
    exact kt
set_option maxRecDepth 65536 in
set_option maxHeartbeats 40000000 in
theorem sp_296 {p : Program} {l : Launch} {e : Env} {R : Room} {s : State} {m : MethodId} {args : Array Value} {below : List Frame} {meth : Method} {c : Code} {T : State} {locs : List Loc} {cells slots : Nat} {Z : State} {a0 : Array Value} (X : Stand p l e R s m args below meth c T locs cells slots) (hx : p.tables.exec = Jvm.exec) (hZ : Z.Warmed39 s.vm) (hw : ∀ d ∈ tables_1, d.before a0 Z = true) (hby : c.code = method_3_code) (hown : s.vm.findClass "com/example/xylem/xylem/model/QNameIsNameStartCharPinLaw" = some m.cls) (x0 n r : Int32) (er : r = own_step x0 (11264 : Int32) n) {target : State} (kt : Steps p.tables e below (T.setTop (mkF m 311 #[.val (.int x0), .val (.int r)] [])) target) : Steps p.tables e below (T.setTop (mkF m 296 #[.val (.int x0), .val (.int n)] [])) target := by
  show Steps p.tables e below (T.setTop (mkF m 296 #[.val (.int x0), .val (.int n)] [])) _
  refine XS.iloadN X.here hx rfl (hb hby d3_296) rfl ?_
  show Steps p.tables e below (T.setTop (mkF m 297 #[.val (.int x0), .val (.int n)] [(.int n)])) _
  refine XS.iloadN X.here hx rfl (hb hby d3_297) rfl ?_
  show Steps p.tables e below (T.setTop (mkF m 298 #[.val (.int x0), .val (.int n)] [(.int x0), (.int n)])) _
  refine XS.sipush X.here hx rfl (hb hby d3_298) ?_
  show Steps p.tables e below (T.setTop (mkF m 301 #[.val (.int x0), .val (.int n)] [(.int (11264 : Int32)), (.int x0), (.int n)])) _
  by_cases hc301 : x0 < (11264 : Int32)
  · refine XS.icmpYes X.here hx rfl (pc0 := 301) (pc' := 308) rfl (hb hby d3_301) rfl (tlt hc301).1 (by decide) (by decide) ?_
    show Steps p.tables e below (T.setTop (mkF m 308 #[.val (.int x0), .val (.int n)] [(.int n)])) _
    refine XS.iconst X.here hx rfl (hb hby d3_308) ?_
    show Steps p.tables e below (T.setTop (mkF m 309 #[.val (.int x0), .val (.int n)] [(.int (0 : Int32)), (.int n)])) _
    refine XS.iadd X.here hx rfl (hb hby d3_309) rfl ?_
    show Steps p.tables e below (T.setTop (mkF m 310 #[.val (.int x0), .val (.int n)] [(.int (n + (0 : Int32)))])) _
    refine XS.istoreN X.here hx rfl (hb hby d3_310) rfl (l' := #[.val (.int x0), .val (.int (n + (0 : Int32)))]) rfl ?_
    obtain rfl : r = (n + (0 : Int32)) := er.trans (by unfold own_step; first | exact if_pos hc301 | rfl | simp only [hc301, ↓reduceIte, eq_self])
    exact kt
  · refine XS.icmpNo X.here hx rfl (hb hby d3_301) rfl (flt hc301).1 ?_
    show Steps p.tables e below (T.setTop (mkF m 304 #[.val (.int x0), .val (.int n)] [(.int n)])) _
    refine XS.iconst X.here hx rfl (hb hby d3_304) ?_
    show Steps p.tables e below (T.setTop (mkF m 305 #[.val (.int x0), .val (.int n)] [(.int (1 : Int32)), (.int n)])) _
    refine XS.goto X.here hx rfl (pc0 := 305) (pc' := 309) rfl (hb hby d3_305) (by decide) (by decide) ?_
    show Steps p.tables e below (T.setTop (mkF m 309 #[.val (.int x0), .val (.int n)] [(.int (1 : Int32)), (.int n)])) _
    refine XS.iadd X.here hx rfl (hb hby d3_309) rfl ?_
    show Steps p.tables e below (T.setTop (mkF m 310 #[.val (.int x0), .val (.int n)] [(.int (n + (1 : Int32)))])) _
    refine XS.istoreN X.here hx rfl (hb hby d3_310) rfl (l' := #[.val (.int x0), .val (.int (n + (1 : Int32)))]) rfl ?_
    obtain rfl : r = (n + (1 : Int32)) := er.trans (by unfold own_step; first | exact if_neg hc301 | rfl | simp only [hc301, ↓reduceIte, eq_self])
    exact kt
set_option maxRecDepth 65536 in
set_option maxHeartbeats 40000000 in
theorem sp_311 {p : Program} {l : Launch} {e : Env} {R : Room} {s : State} {m : MethodId} {args : Array Value} {below : List Frame} {meth : Method} {c : Code} {T : State} {locs : List Loc} {cells slots : Nat} {Z : State} {a0 : Array Value} (X : Stand p l e R s m args below meth c T locs cells slots) (hx : p.tables.exec = Jvm.exec) (hZ : Z.Warmed39 s.vm) (hw : ∀ d ∈ tables_1, d.before a0 Z = true) (hby : c.code = method_3_code) (hown : s.vm.findClass "com/example/xylem/xylem/model/QNameIsNameStartCharPinLaw" = some m.cls) (x0 n r : Int32) (er : r = own_step x0 (12272 : Int32) n) {target : State} (kt : Steps p.tables e below (T.setTop (mkF m 326 #[.val (.int x0), .val (.int r)] [])) target) : Steps p.tables e below (T.setTop (mkF m 311 #[.val (.int x0), .val (.int n)] [])) target := by
  show Steps p.tables e below (T.setTop (mkF m 311 #[.val (.int x0), .val (.int n)] [])) _
  refine XS.iloadN X.here hx rfl (hb hby d3_311) rfl ?_
  show Steps p.tables e below (T.setTop (mkF m 312 #[.val (.int x0), .val (.int n)] [(.int n)])) _
  refine XS.iloadN X.here hx rfl (hb hby d3_312) rfl ?_
  show Steps p.tables e below (T.setTop (mkF m 313 #[.val (.int x0), .val (.int n)] [(.int x0), (.int n)])) _
  refine XS.sipush X.here hx rfl (hb hby d3_313) ?_
  show Steps p.tables e below (T.setTop (mkF m 316 #[.val (.int x0), .val (.int n)] [(.int (12272 : Int32)), (.int x0), (.int n)])) _
  by_cases hc316 : x0 < (12272 : Int32)
  · refine XS.icmpYes X.here hx rfl (pc0 := 316) (pc' := 323) rfl (hb hby d3_316) rfl (tlt hc316).1 (by decide) (by decide) ?_
    show Steps p.tables e below (T.setTop (mkF m 323 #[.val (.int x0), .val (.int n)] [(.int n)])) _
    refine XS.iconst X.here hx rfl (hb hby d3_323) ?_
    show Steps p.tables e below (T.setTop (mkF m 324 #[.val (.int x0), .val (.int n)] [(.int (0 : Int32)), (.int n)])) _
    refine XS.iadd X.here hx rfl (hb hby d3_324) rfl ?_
    show Steps p.tables e below (T.setTop (mkF m 325 #[.val (.int x0), .val (.int n)] [(.int (n + (0 : Int32)))])) _
    refine XS.istoreN X.here hx rfl (hb hby d3_325) rfl (l' := #[.val (.int x0), .val (.int (n + (0 : Int32)))]) rfl ?_
    obtain rfl : r = (n + (0 : Int32)) := er.trans (by unfold own_step; first | exact if_pos hc316 | rfl | simp only [hc316, ↓reduceIte, eq_self])
    exact kt
  · refine XS.icmpNo X.here hx rfl (hb hby d3_316) rfl (flt hc316).1 ?_
    show Steps p.tables e below (T.setTop (mkF m 319 #[.val (.int x0), .val (.int n)] [(.int n)])) _
    refine XS.iconst X.here hx rfl (hb hby d3_319) ?_
    show Steps p.tables e below (T.setTop (mkF m 320 #[.val (.int x0), .val (.int n)] [(.int (1 : Int32)), (.int n)])) _
    refine XS.goto X.here hx rfl (pc0 := 320) (pc' := 324) rfl (hb hby d3_320) (by decide) (by decide) ?_
    show Steps p.tables e below (T.setTop (mkF m 324 #[.val (.int x0), .val (.int n)] [(.int (1 : Int32)), (.int n)])) _
    refine XS.iadd X.here hx rfl (hb hby d3_324) rfl ?_
    show Steps p.tables e below (T.setTop (mkF m 325 #[.val (.int x0), .val (.int n)] [(.int (n + (1 : Int32)))])) _
    refine XS.istoreN X.here hx rfl (hb hby d3_325) rfl (l' := #[.val (.int x0), .val (.int (n + (1 : Int32)))]) rfl ?_
    obtain rfl : r = (n + (1 : Int32)) := er.trans (by unfold own_step; first | exact if_neg hc316 | rfl | simp only [hc316, ↓reduceIte, eq_self])
    exact kt
set_option maxRecDepth 65536 in
set_option maxHeartbeats 40000000 in
theorem sp_326 {p : Program} {l : Launch} {e : Env} {R : Room} {s : State} {m : MethodId} {args : Array Value} {below : List Frame} {meth : Method} {c : Code} {T : State} {locs : List Loc} {cells slots : Nat} {Z : State} {a0 : Array Value} (X : Stand p l e R s m args below meth c T locs cells slots) (hx : p.tables.exec = Jvm.exec) (hZ : Z.Warmed39 s.vm) (hw : ∀ d ∈ tables_1, d.before a0 Z = true) (hby : c.code = method_3_code) (hown : s.vm.findClass "com/example/xylem/xylem/model/QNameIsNameStartCharPinLaw" = some m.cls) (x0 n r : Int32) (er : r = own_step x0 (12289 : Int32) n) {target : State} (kt : Steps p.tables e below (T.setTop (mkF m 341 #[.val (.int x0), .val (.int r)] [])) target) : Steps p.tables e below (T.setTop (mkF m 326 #[.val (.int x0), .val (.int n)] [])) target := by
  show Steps p.tables e below (T.setTop (mkF m 326 #[.val (.int x0), .val (.int n)] [])) _
  refine XS.iloadN X.here hx rfl (hb hby d3_326) rfl ?_
  show Steps p.tables e below (T.setTop (mkF m 327 #[.val (.int x0), .val (.int n)] [(.int n)])) _
  refine XS.iloadN X.here hx rfl (hb hby d3_327) rfl ?_
  show Steps p.tables e below (T.setTop (mkF m 328 #[.val (.int x0), .val (.int n)] [(.int x0), (.int n)])) _
  refine XS.sipush X.here hx rfl (hb hby d3_328) ?_
  show Steps p.tables e below (T.setTop (mkF m 331 #[.val (.int x0), .val (.int n)] [(.int (12289 : Int32)), (.int x0), (.int n)])) _
  by_cases hc331 : x0 < (12289 : Int32)
  · refine XS.icmpYes X.here hx rfl (pc0 := 331) (pc' := 338) rfl (hb hby d3_331) rfl (tlt hc331).1 (by decide) (by decide) ?_
    show Steps p.tables e below (T.setTop (mkF m 338 #[.val (.int x0), .val (.int n)] [(.int n)])) _
    refine XS.iconst X.here hx rfl (hb hby d3_338) ?_
    show Steps p.tables e below (T.setTop (mkF m 339 #[.val (.int x0), .val (.int n)] [(.int (0 : Int32)), (.int n)])) _
    refine XS.iadd X.here hx rfl (hb hby d3_339) rfl ?_
    show Steps p.tables e below (T.setTop (mkF m 340 #[.val (.int x0), .val (.int n)] [(.int (n + (0 : Int32)))])) _
    refine XS.istoreN X.here hx rfl (hb hby d3_340) rfl (l' := #[.val (.int x0), .val (.int (n + (0 : Int32)))]) rfl ?_
    obtain rfl : r = (n + (0 : Int32)) := er.trans (by unfold own_step; first | exact if_pos hc331 | rfl | simp only [hc331, ↓reduceIte, eq_self])
    exact kt
  · refine XS.icmpNo X.here hx rfl (hb hby d3_331) rfl (flt hc331).1 ?_
    show Steps p.tables e below (T.setTop (mkF m 334 #[.val (.int x0), .val (.int n)] [(.int n)])) _
    refine XS.iconst X.here hx rfl (hb hby d3_334) ?_
    show Steps p.tables e below (T.setTop (mkF m 335 #[.val (.int x0), .val (.int n)] [(.int (1 : Int32)), (.int n)])) _
    refine XS.goto X.here hx rfl (pc0 := 335) (pc' := 339) rfl (hb hby d3_335) (by decide) (by decide) ?_
    show Steps p.tables e below (T.setTop (mkF m 339 #[.val (.int x0), .val (.int n)] [(.int (1 : Int32)), (.int n)])) _
    refine XS.iadd X.here hx rfl (hb hby d3_339) rfl ?_
    show Steps p.tables e below (T.setTop (mkF m 340 #[.val (.int x0), .val (.int n)] [(.int (n + (1 : Int32)))])) _
    refine XS.istoreN X.here hx rfl (hb hby d3_340) rfl (l' := #[.val (.int x0), .val (.int (n + (1 : Int32)))]) rfl ?_
    obtain rfl : r = (n + (1 : Int32)) := er.trans (by unfold own_step; first | exact if_neg hc331 | rfl | simp only [hc331, ↓reduceIte, eq_self])
    exact kt
set_option maxRecDepth 65536 in
set_option maxHeartbeats 40000000 in
theorem sp_341 {p : Program} {l : Launch} {e : Env} {R : Room} {s : State} {m : MethodId} {args : Array Value} {below : List Frame} {meth : Method} {c : Code} {T : State} {locs : List Loc} {cells slots : Nat} {Z : State} {a0 : Array Value} (X : Stand p l e R s m args below meth c T locs cells slots) (hx : p.tables.exec = Jvm.exec) (hZ : Z.Warmed39 s.vm) (hw : ∀ d ∈ tables_1, d.before a0 Z = true) (hby : c.code = method_3_code) (hown : s.vm.findClass "com/example/xylem/xylem/model/QNameIsNameStartCharPinLaw" = some m.cls) (x0 n r : Int32) (er : r = own_step x0 (55296 : Int32) n) {target : State} (kt : Steps p.tables e below (T.setTop (mkF m 355 #[.val (.int x0), .val (.int r)] [])) target) : Steps p.tables e below (T.setTop (mkF m 341 #[.val (.int x0), .val (.int n)] [])) target := by
  show Steps p.tables e below (T.setTop (mkF m 341 #[.val (.int x0), .val (.int n)] [])) _
  refine XS.iloadN X.here hx rfl (hb hby d3_341) rfl ?_
  show Steps p.tables e below (T.setTop (mkF m 342 #[.val (.int x0), .val (.int n)] [(.int n)])) _
  refine XS.iloadN X.here hx rfl (hb hby d3_342) rfl ?_
  show Steps p.tables e below (T.setTop (mkF m 343 #[.val (.int x0), .val (.int n)] [(.int x0), (.int n)])) _
  refine X.ldcInt hx hown (mvT hZ (hw _ (List.mem_of_getElem? (i := 6) rfl))) (g := (mkF m 343 #[.val (.int x0), .val (.int n)] [(.int x0), (.int n)])) rfl (hb hby d3_343) _ ?_
  show Steps p.tables e below (T.setTop (mkF m 345 #[.val (.int x0), .val (.int n)] [(.int (55296 : Int32)), (.int x0), (.int n)])) _
  by_cases hc345 : x0 < (55296 : Int32)
  · refine XS.icmpYes X.here hx rfl (pc0 := 345) (pc' := 352) rfl (hb hby d3_345) rfl (tlt hc345).1 (by decide) (by decide) ?_
    show Steps p.tables e below (T.setTop (mkF m 352 #[.val (.int x0), .val (.int n)] [(.int n)])) _
    refine XS.iconst X.here hx rfl (hb hby d3_352) ?_
    show Steps p.tables e below (T.setTop (mkF m 353 #[.val (.int x0), .val (.int n)] [(.int (0 : Int32)), (.int n)])) _
    refine XS.iadd X.here hx rfl (hb hby d3_353) rfl ?_
    show Steps p.tables e below (T.setTop (mkF m 354 #[.val (.int x0), .val (.int n)] [(.int (n + (0 : Int32)))])) _
    refine XS.istoreN X.here hx rfl (hb hby d3_354) rfl (l' := #[.val (.int x0), .val (.int (n + (0 : Int32)))]) rfl ?_
    obtain rfl : r = (n + (0 : Int32)) := er.trans (by unfold own_step; first | exact if_pos hc345 | rfl | simp only [hc345, ↓reduceIte, eq_self])
    exact kt
  · refine XS.icmpNo X.here hx rfl (hb hby d3_345) rfl (flt hc345).1 ?_
    show Steps p.tables e below (T.setTop (mkF m 348 #[.val (.int x0), .val (.int n)] [(.int n)])) _
    refine XS.iconst X.here hx rfl (hb hby d3_348) ?_
    show Steps p.tables e below (T.setTop (mkF m 349 #[.val (.int x0), .val (.int n)] [(.int (1 : Int32)), (.int n)])) _
    refine XS.goto X.here hx rfl (pc0 := 349) (pc' := 353) rfl (hb hby d3_349) (by decide) (by decide) ?_
    show Steps p.tables e below (T.setTop (mkF m 353 #[.val (.int x0), .val (.int n)] [(.int (1 : Int32)), (.int n)])) _
    refine XS.iadd X.here hx rfl (hb hby d3_353) rfl ?_
    show Steps p.tables e below (T.setTop (mkF m 354 #[.val (.int x0), .val (.int n)] [(.int (n + (1 : Int32)))])) _
    refine XS.istoreN X.here hx rfl (hb hby d3_354) rfl (l' := #[.val (.int x0), .val (.int (n + (1 : Int32)))]) rfl ?_
    obtain rfl : r = (n + (1 : Int32)) := er.trans (by unfold own_step; first | exact if_neg hc345 | rfl | simp only [hc345, ↓reduceIte, eq_self])
    exact kt
set_option maxRecDepth 65536 in
set_option maxHeartbeats 40000000 in
theorem sp_355 {p : Program} {l : Launch} {e : Env} {R : Room} {s : State} {m : MethodId} {args : Array Value} {below : List Frame} {meth : Method} {c : Code} {T : State} {locs : List Loc} {cells slots : Nat} {Z : State} {a0 : Array Value} (X : Stand p l e R s m args below meth c T locs cells slots) (hx : p.tables.exec = Jvm.exec) (hZ : Z.Warmed39 s.vm) (hw : ∀ d ∈ tables_1, d.before a0 Z = true) (hby : c.code = method_3_code) (hown : s.vm.findClass "com/example/xylem/xylem/model/QNameIsNameStartCharPinLaw" = some m.cls) (x0 n r : Int32) (er : r = own_step x0 (63744 : Int32) n) {target : State} (kt : Steps p.tables e below (T.setTop (mkF m 369 #[.val (.int x0), .val (.int r)] [])) target) : Steps p.tables e below (T.setTop (mkF m 355 #[.val (.int x0), .val (.int n)] [])) target := by
  show Steps p.tables e below (T.setTop (mkF m 355 #[.val (.int x0), .val (.int n)] [])) _
  refine XS.iloadN X.here hx rfl (hb hby d3_355) rfl ?_
  show Steps p.tables e below (T.setTop (mkF m 356 #[.val (.int x0), .val (.int n)] [(.int n)])) _
  refine XS.iloadN X.here hx rfl (hb hby d3_356) rfl ?_
  show Steps p.tables e below (T.setTop (mkF m 357 #[.val (.int x0), .val (.int n)] [(.int x0), (.int n)])) _
  refine X.ldcInt hx hown (mvT hZ (hw _ (List.mem_of_getElem? (i := 7) rfl))) (g := (mkF m 357 #[.val (.int x0), .val (.int n)] [(.int x0), (.int n)])) rfl (hb hby d3_357) _ ?_
  show Steps p.tables e below (T.setTop (mkF m 359 #[.val (.int x0), .val (.int n)] [(.int (63744 : Int32)), (.int x0), (.int n)])) _
  by_cases hc359 : x0 < (63744 : Int32)
  · refine XS.icmpYes X.here hx rfl (pc0 := 359) (pc' := 366) rfl (hb hby d3_359) rfl (tlt hc359).1 (by decide) (by decide) ?_
    show Steps p.tables e below (T.setTop (mkF m 366 #[.val (.int x0), .val (.int n)] [(.int n)])) _
    refine XS.iconst X.here hx rfl (hb hby d3_366) ?_
    show Steps p.tables e below (T.setTop (mkF m 367 #[.val (.int x0), .val (.int n)] [(.int (0 : Int32)), (.int n)])) _
    refine XS.iadd X.here hx rfl (hb hby d3_367) rfl ?_
    show Steps p.tables e below (T.setTop (mkF m 368 #[.val (.int x0), .val (.int n)] [(.int (n + (0 : Int32)))])) _
    refine XS.istoreN X.here hx rfl (hb hby d3_368) rfl (l' := #[.val (.int x0), .val (.int (n + (0 : Int32)))]) rfl ?_
    obtain rfl : r = (n + (0 : Int32)) := er.trans (by unfold own_step; first | exact if_pos hc359 | rfl | simp only [hc359, ↓reduceIte, eq_self])
    exact kt
  · refine XS.icmpNo X.here hx rfl (hb hby d3_359) rfl (flt hc359).1 ?_
    show Steps p.tables e below (T.setTop (mkF m 362 #[.val (.int x0), .val (.int n)] [(.int n)])) _
    refine XS.iconst X.here hx rfl (hb hby d3_362) ?_
    show Steps p.tables e below (T.setTop (mkF m 363 #[.val (.int x0), .val (.int n)] [(.int (1 : Int32)), (.int n)])) _
    refine XS.goto X.here hx rfl (pc0 := 363) (pc' := 367) rfl (hb hby d3_363) (by decide) (by decide) ?_
    show Steps p.tables e below (T.setTop (mkF m 367 #[.val (.int x0), .val (.int n)] [(.int (1 : Int32)), (.int n)])) _
    refine XS.iadd X.here hx rfl (hb hby d3_367) rfl ?_
    show Steps p.tables e below (T.setTop (mkF m 368 #[.val (.int x0), .val (.int n)] [(.int (n + (1 : Int32)))])) _
    refine XS.istoreN X.here hx rfl (hb hby d3_368) rfl (l' := #[.val (.int x0), .val (.int (n + (1 : Int32)))]) rfl ?_
    obtain rfl : r = (n + (1 : Int32)) := er.trans (by unfold own_step; first | exact if_neg hc359 | rfl | simp only [hc359, ↓reduceIte, eq_self])
    exact kt
set_option maxRecDepth 65536 in
set_option maxHeartbeats 40000000 in
theorem sp_369 {p : Program} {l : Launch} {e : Env} {R : Room} {s : State} {m : MethodId} {args : Array Value} {below : List Frame} {meth : Method} {c : Code} {T : State} {locs : List Loc} {cells slots : Nat} {Z : State} {a0 : Array Value} (X : Stand p l e R s m args below meth c T locs cells slots) (hx : p.tables.exec = Jvm.exec) (hZ : Z.Warmed39 s.vm) (hw : ∀ d ∈ tables_1, d.before a0 Z = true) (hby : c.code = method_3_code) (hown : s.vm.findClass "com/example/xylem/xylem/model/QNameIsNameStartCharPinLaw" = some m.cls) (x0 n r : Int32) (er : r = own_step x0 (64976 : Int32) n) {target : State} (kt : Steps p.tables e below (T.setTop (mkF m 383 #[.val (.int x0), .val (.int r)] [])) target) : Steps p.tables e below (T.setTop (mkF m 369 #[.val (.int x0), .val (.int n)] [])) target := by
  show Steps p.tables e below (T.setTop (mkF m 369 #[.val (.int x0), .val (.int n)] [])) _
  refine XS.iloadN X.here hx rfl (hb hby d3_369) rfl ?_
  show Steps p.tables e below (T.setTop (mkF m 370 #[.val (.int x0), .val (.int n)] [(.int n)])) _
  refine XS.iloadN X.here hx rfl (hb hby d3_370) rfl ?_
  show Steps p.tables e below (T.setTop (mkF m 371 #[.val (.int x0), .val (.int n)] [(.int x0), (.int n)])) _
  refine X.ldcInt hx hown (mvT hZ (hw _ (List.mem_of_getElem? (i := 8) rfl))) (g := (mkF m 371 #[.val (.int x0), .val (.int n)] [(.int x0), (.int n)])) rfl (hb hby d3_371) _ ?_
  show Steps p.tables e below (T.setTop (mkF m 373 #[.val (.int x0), .val (.int n)] [(.int (64976 : Int32)), (.int x0), (.int n)])) _
  by_cases hc373 : x0 < (64976 : Int32)
  · refine XS.icmpYes X.here hx rfl (pc0 := 373) (pc' := 380) rfl (hb hby d3_373) rfl (tlt hc373).1 (by decide) (by decide) ?_
    show Steps p.tables e below (T.setTop (mkF m 380 #[.val (.int x0), .val (.int n)] [(.int n)])) _
    refine XS.iconst X.here hx rfl (hb hby d3_380) ?_
    show Steps p.tables e below (T.setTop (mkF m 381 #[.val (.int x0), .val (.int n)] [(.int (0 : Int32)), (.int n)])) _
    refine XS.iadd X.here hx rfl (hb hby d3_381) rfl ?_
    show Steps p.tables e below (T.setTop (mkF m 382 #[.val (.int x0), .val (.int n)] [(.int (n + (0 : Int32)))])) _
    refine XS.istoreN X.here hx rfl (hb hby d3_382) rfl (l' := #[.val (.int x0), .val (.int (n + (0 : Int32)))]) rfl ?_
    obtain rfl : r = (n + (0 : Int32)) := er.trans (by unfold own_step; first | exact if_pos hc373 | rfl | simp only [hc373, ↓reduceIte, eq_self])
    exact kt
  · refine XS.icmpNo X.here hx rfl (hb hby d3_373) rfl (flt hc373).1 ?_
    show Steps p.tables e below (T.setTop (mkF m 376 #[.val (.int x0), .val (.int n)] [(.int n)])) _
    refine XS.iconst X.here hx rfl (hb hby d3_376) ?_
    show Steps p.tables e below (T.setTop (mkF m 377 #[.val (.int x0), .val (.int n)] [(.int (1 : Int32)), (.int n)])) _
    refine XS.goto X.here hx rfl (pc0 := 377) (pc' := 381) rfl (hb hby d3_377) (by decide) (by decide) ?_
    show Steps p.tables e below (T.setTop (mkF m 381 #[.val (.int x0), .val (.int n)] [(.int (1 : Int32)), (.int n)])) _
    refine XS.iadd X.here hx rfl (hb hby d3_381) rfl ?_
    show Steps p.tables e below (T.setTop (mkF m 382 #[.val (.int x0), .val (.int n)] [(.int (n + (1 : Int32)))])) _
    refine XS.istoreN X.here hx rfl (hb hby d3_382) rfl (l' := #[.val (.int x0), .val (.int (n + (1 : Int32)))]) rfl ?_
    obtain rfl : r = (n + (1 : Int32)) := er.trans (by unfold own_step; first | exact if_neg hc373 | rfl | simp only [hc373, ↓reduceIte, eq_self])
    exact kt
set_option maxRecDepth 65536 in
set_option maxHeartbeats 40000000 in
theorem sp_383 {p : Program} {l : Launch} {e : Env} {R : Room} {s : State} {m : MethodId} {args : Array Value} {below : List Frame} {meth : Method} {c : Code} {T : State} {locs : List Loc} {cells slots : Nat} {Z : State} {a0 : Array Value} (X : Stand p l e R s m args below meth c T locs cells slots) (hx : p.tables.exec = Jvm.exec) (hZ : Z.Warmed39 s.vm) (hw : ∀ d ∈ tables_1, d.before a0 Z = true) (hby : c.code = method_3_code) (hown : s.vm.findClass "com/example/xylem/xylem/model/QNameIsNameStartCharPinLaw" = some m.cls) (x0 n r : Int32) (er : r = own_step x0 (65008 : Int32) n) {target : State} (kt : Steps p.tables e below (T.setTop (mkF m 397 #[.val (.int x0), .val (.int r)] [])) target) : Steps p.tables e below (T.setTop (mkF m 383 #[.val (.int x0), .val (.int n)] [])) target := by
  show Steps p.tables e below (T.setTop (mkF m 383 #[.val (.int x0), .val (.int n)] [])) _
  refine XS.iloadN X.here hx rfl (hb hby d3_383) rfl ?_
  show Steps p.tables e below (T.setTop (mkF m 384 #[.val (.int x0), .val (.int n)] [(.int n)])) _
  refine XS.iloadN X.here hx rfl (hb hby d3_384) rfl ?_
  show Steps p.tables e below (T.setTop (mkF m 385 #[.val (.int x0), .val (.int n)] [(.int x0), (.int n)])) _
  refine X.ldcInt hx hown (mvT hZ (hw _ (List.mem_of_getElem? (i := 9) rfl))) (g := (mkF m 385 #[.val (.int x0), .val (.int n)] [(.int x0), (.int n)])) rfl (hb hby d3_385) _ ?_
  show Steps p.tables e below (T.setTop (mkF m 387 #[.val (.int x0), .val (.int n)] [(.int (65008 : Int32)), (.int x0), (.int n)])) _
  by_cases hc387 : x0 < (65008 : Int32)
  · refine XS.icmpYes X.here hx rfl (pc0 := 387) (pc' := 394) rfl (hb hby d3_387) rfl (tlt hc387).1 (by decide) (by decide) ?_
    show Steps p.tables e below (T.setTop (mkF m 394 #[.val (.int x0), .val (.int n)] [(.int n)])) _
    refine XS.iconst X.here hx rfl (hb hby d3_394) ?_
    show Steps p.tables e below (T.setTop (mkF m 395 #[.val (.int x0), .val (.int n)] [(.int (0 : Int32)), (.int n)])) _
    refine XS.iadd X.here hx rfl (hb hby d3_395) rfl ?_
    show Steps p.tables e below (T.setTop (mkF m 396 #[.val (.int x0), .val (.int n)] [(.int (n + (0 : Int32)))])) _
    refine XS.istoreN X.here hx rfl (hb hby d3_396) rfl (l' := #[.val (.int x0), .val (.int (n + (0 : Int32)))]) rfl ?_
    obtain rfl : r = (n + (0 : Int32)) := er.trans (by unfold own_step; first | exact if_pos hc387 | rfl | simp only [hc387, ↓reduceIte, eq_self])
    exact kt
  · refine XS.icmpNo X.here hx rfl (hb hby d3_387) rfl (flt hc387).1 ?_
    show Steps p.tables e below (T.setTop (mkF m 390 #[.val (.int x0), .val (.int n)] [(.int n)])) _
    refine XS.iconst X.here hx rfl (hb hby d3_390) ?_
    show Steps p.tables e below (T.setTop (mkF m 391 #[.val (.int x0), .val (.int n)] [(.int (1 : Int32)), (.int n)])) _
    refine XS.goto X.here hx rfl (pc0 := 391) (pc' := 395) rfl (hb hby d3_391) (by decide) (by decide) ?_
    show Steps p.tables e below (T.setTop (mkF m 395 #[.val (.int x0), .val (.int n)] [(.int (1 : Int32)), (.int n)])) _
    refine XS.iadd X.here hx rfl (hb hby d3_395) rfl ?_
    show Steps p.tables e below (T.setTop (mkF m 396 #[.val (.int x0), .val (.int n)] [(.int (n + (1 : Int32)))])) _
    refine XS.istoreN X.here hx rfl (hb hby d3_396) rfl (l' := #[.val (.int x0), .val (.int (n + (1 : Int32)))]) rfl ?_
    obtain rfl : r = (n + (1 : Int32)) := er.trans (by unfold own_step; first | exact if_neg hc387 | rfl | simp only [hc387, ↓reduceIte, eq_self])
    exact kt
set_option maxRecDepth 65536 in
set_option maxHeartbeats 40000000 in
theorem sp_397 {p : Program} {l : Launch} {e : Env} {R : Room} {s : State} {m : MethodId} {args : Array Value} {below : List Frame} {meth : Method} {c : Code} {T : State} {locs : List Loc} {cells slots : Nat} {Z : State} {a0 : Array Value} (X : Stand p l e R s m args below meth c T locs cells slots) (hx : p.tables.exec = Jvm.exec) (hZ : Z.Warmed39 s.vm) (hw : ∀ d ∈ tables_1, d.before a0 Z = true) (hby : c.code = method_3_code) (hown : s.vm.findClass "com/example/xylem/xylem/model/QNameIsNameStartCharPinLaw" = some m.cls) (x0 n r : Int32) (er : r = own_step x0 (65534 : Int32) n) {target : State} (kt : Steps p.tables e below (T.setTop (mkF m 411 #[.val (.int x0), .val (.int r)] [])) target) : Steps p.tables e below (T.setTop (mkF m 397 #[.val (.int x0), .val (.int n)] [])) target := by
  show Steps p.tables e below (T.setTop (mkF m 397 #[.val (.int x0), .val (.int n)] [])) _
  refine XS.iloadN X.here hx rfl (hb hby d3_397) rfl ?_
  show Steps p.tables e below (T.setTop (mkF m 398 #[.val (.int x0), .val (.int n)] [(.int n)])) _
  refine XS.iloadN X.here hx rfl (hb hby d3_398) rfl ?_
  show Steps p.tables e below (T.setTop (mkF m 399 #[.val (.int x0), .val (.int n)] [(.int x0), (.int n)])) _
  refine X.ldcInt hx hown (mvT hZ (hw _ (List.mem_of_getElem? (i := 10) rfl))) (g := (mkF m 399 #[.val (.int x0), .val (.int n)] [(.int x0), (.int n)])) rfl (hb hby d3_399) _ ?_
  show Steps p.tables e below (T.setTop (mkF m 401 #[.val (.int x0), .val (.int n)] [(.int (65534 : Int32)), (.int x0), (.int n)])) _
  by_cases hc401 : x0 < (65534 : Int32)
  · refine XS.icmpYes X.here hx rfl (pc0 := 401) (pc' := 408) rfl (hb hby d3_401) rfl (tlt hc401).1 (by decide) (by decide) ?_
    show Steps p.tables e below (T.setTop (mkF m 408 #[.val (.int x0), .val (.int n)] [(.int n)])) _
    refine XS.iconst X.here hx rfl (hb hby d3_408) ?_
    show Steps p.tables e below (T.setTop (mkF m 409 #[.val (.int x0), .val (.int n)] [(.int (0 : Int32)), (.int n)])) _
    refine XS.iadd X.here hx rfl (hb hby d3_409) rfl ?_
    show Steps p.tables e below (T.setTop (mkF m 410 #[.val (.int x0), .val (.int n)] [(.int (n + (0 : Int32)))])) _
    refine XS.istoreN X.here hx rfl (hb hby d3_410) rfl (l' := #[.val (.int x0), .val (.int (n + (0 : Int32)))]) rfl ?_
    obtain rfl : r = (n + (0 : Int32)) := er.trans (by unfold own_step; first | exact if_pos hc401 | rfl | simp only [hc401, ↓reduceIte, eq_self])
    exact kt
  · refine XS.icmpNo X.here hx rfl (hb hby d3_401) rfl (flt hc401).1 ?_
    show Steps p.tables e below (T.setTop (mkF m 404 #[.val (.int x0), .val (.int n)] [(.int n)])) _
    refine XS.iconst X.here hx rfl (hb hby d3_404) ?_
    show Steps p.tables e below (T.setTop (mkF m 405 #[.val (.int x0), .val (.int n)] [(.int (1 : Int32)), (.int n)])) _
    refine XS.goto X.here hx rfl (pc0 := 405) (pc' := 409) rfl (hb hby d3_405) (by decide) (by decide) ?_
    show Steps p.tables e below (T.setTop (mkF m 409 #[.val (.int x0), .val (.int n)] [(.int (1 : Int32)), (.int n)])) _
    refine XS.iadd X.here hx rfl (hb hby d3_409) rfl ?_
    show Steps p.tables e below (T.setTop (mkF m 410 #[.val (.int x0), .val (.int n)] [(.int (n + (1 : Int32)))])) _
    refine XS.istoreN X.here hx rfl (hb hby d3_410) rfl (l' := #[.val (.int x0), .val (.int (n + (1 : Int32)))]) rfl ?_
    obtain rfl : r = (n + (1 : Int32)) := er.trans (by unfold own_step; first | exact if_neg hc401 | rfl | simp only [hc401, ↓reduceIte, eq_self])
    exact kt
set_option maxRecDepth 65536 in
set_option maxHeartbeats 40000000 in
theorem sp_411 {p : Program} {l : Launch} {e : Env} {R : Room} {s : State} {m : MethodId} {args : Array Value} {below : List Frame} {meth : Method} {c : Code} {T : State} {locs : List Loc} {cells slots : Nat} {Z : State} {a0 : Array Value} (X : Stand p l e R s m args below meth c T locs cells slots) (hx : p.tables.exec = Jvm.exec) (hZ : Z.Warmed39 s.vm) (hw : ∀ d ∈ tables_1, d.before a0 Z = true) (hby : c.code = method_3_code) (hown : s.vm.findClass "com/example/xylem/xylem/model/QNameIsNameStartCharPinLaw" = some m.cls) (x0 n r : Int32) (er : r = own_step x0 (65536 : Int32) n) {target : State} (kt : Steps p.tables e below (T.setTop (mkF m 425 #[.val (.int x0), .val (.int r)] [])) target) : Steps p.tables e below (T.setTop (mkF m 411 #[.val (.int x0), .val (.int n)] [])) target := by
  show Steps p.tables e below (T.setTop (mkF m 411 #[.val (.int x0), .val (.int n)] [])) _
  refine XS.iloadN X.here hx rfl (hb hby d3_411) rfl ?_
  show Steps p.tables e below (T.setTop (mkF m 412 #[.val (.int x0), .val (.int n)] [(.int n)])) _
  refine XS.iloadN X.here hx rfl (hb hby d3_412) rfl ?_
  show Steps p.tables e below (T.setTop (mkF m 413 #[.val (.int x0), .val (.int n)] [(.int x0), (.int n)])) _
  refine X.ldcInt hx hown (mvT hZ (hw _ (List.mem_of_getElem? (i := 11) rfl))) (g := (mkF m 413 #[.val (.int x0), .val (.int n)] [(.int x0), (.int n)])) rfl (hb hby d3_413) _ ?_
  show Steps p.tables e below (T.setTop (mkF m 415 #[.val (.int x0), .val (.int n)] [(.int (65536 : Int32)), (.int x0), (.int n)])) _
  by_cases hc415 : x0 < (65536 : Int32)
  · refine XS.icmpYes X.here hx rfl (pc0 := 415) (pc' := 422) rfl (hb hby d3_415) rfl (tlt hc415).1 (by decide) (by decide) ?_
    show Steps p.tables e below (T.setTop (mkF m 422 #[.val (.int x0), .val (.int n)] [(.int n)])) _
    refine XS.iconst X.here hx rfl (hb hby d3_422) ?_
    show Steps p.tables e below (T.setTop (mkF m 423 #[.val (.int x0), .val (.int n)] [(.int (0 : Int32)), (.int n)])) _
    refine XS.iadd X.here hx rfl (hb hby d3_423) rfl ?_
    show Steps p.tables e below (T.setTop (mkF m 424 #[.val (.int x0), .val (.int n)] [(.int (n + (0 : Int32)))])) _
    refine XS.istoreN X.here hx rfl (hb hby d3_424) rfl (l' := #[.val (.int x0), .val (.int (n + (0 : Int32)))]) rfl ?_
    obtain rfl : r = (n + (0 : Int32)) := er.trans (by unfold own_step; first | exact if_pos hc415 | rfl | simp only [hc415, ↓reduceIte, eq_self])
    exact kt
  · refine XS.icmpNo X.here hx rfl (hb hby d3_415) rfl (flt hc415).1 ?_
    show Steps p.tables e below (T.setTop (mkF m 418 #[.val (.int x0), .val (.int n)] [(.int n)])) _
    refine XS.iconst X.here hx rfl (hb hby d3_418) ?_
    show Steps p.tables e below (T.setTop (mkF m 419 #[.val (.int x0), .val (.int n)] [(.int (1 : Int32)), (.int n)])) _
    refine XS.goto X.here hx rfl (pc0 := 419) (pc' := 423) rfl (hb hby d3_419) (by decide) (by decide) ?_
    show Steps p.tables e below (T.setTop (mkF m 423 #[.val (.int x0), .val (.int n)] [(.int (1 : Int32)), (.int n)])) _
    refine XS.iadd X.here hx rfl (hb hby d3_423) rfl ?_
    show Steps p.tables e below (T.setTop (mkF m 424 #[.val (.int x0), .val (.int n)] [(.int (n + (1 : Int32)))])) _
    refine XS.istoreN X.here hx rfl (hb hby d3_424) rfl (l' := #[.val (.int x0), .val (.int (n + (1 : Int32)))]) rfl ?_
    obtain rfl : r = (n + (1 : Int32)) := er.trans (by unfold own_step; first | exact if_neg hc415 | rfl | simp only [hc415, ↓reduceIte, eq_self])
    exact kt
set_option maxRecDepth 65536 in
set_option maxHeartbeats 40000000 in
theorem sp_425 {p : Program} {l : Launch} {e : Env} {R : Room} {s : State} {m : MethodId} {args : Array Value} {below : List Frame} {meth : Method} {c : Code} {T : State} {locs : List Loc} {cells slots : Nat} {Z : State} {a0 : Array Value} (X : Stand p l e R s m args below meth c T locs cells slots) (hx : p.tables.exec = Jvm.exec) (hZ : Z.Warmed39 s.vm) (hw : ∀ d ∈ tables_1, d.before a0 Z = true) (hby : c.code = method_3_code) (hown : s.vm.findClass "com/example/xylem/xylem/model/QNameIsNameStartCharPinLaw" = some m.cls) (x0 n r : Int32) (er : r = own_step x0 (983040 : Int32) n) {target : State} (kt : Steps p.tables e below (T.setTop (mkF m 439 #[.val (.int x0), .val (.int r)] [])) target) : Steps p.tables e below (T.setTop (mkF m 425 #[.val (.int x0), .val (.int n)] [])) target := by
  show Steps p.tables e below (T.setTop (mkF m 425 #[.val (.int x0), .val (.int n)] [])) _
  refine XS.iloadN X.here hx rfl (hb hby d3_425) rfl ?_
  show Steps p.tables e below (T.setTop (mkF m 426 #[.val (.int x0), .val (.int n)] [(.int n)])) _
  refine XS.iloadN X.here hx rfl (hb hby d3_426) rfl ?_
  show Steps p.tables e below (T.setTop (mkF m 427 #[.val (.int x0), .val (.int n)] [(.int x0), (.int n)])) _
  refine X.ldcInt hx hown (mvT hZ (hw _ (List.mem_of_getElem? (i := 12) rfl))) (g := (mkF m 427 #[.val (.int x0), .val (.int n)] [(.int x0), (.int n)])) rfl (hb hby d3_427) _ ?_
  show Steps p.tables e below (T.setTop (mkF m 429 #[.val (.int x0), .val (.int n)] [(.int (983040 : Int32)), (.int x0), (.int n)])) _
  by_cases hc429 : x0 < (983040 : Int32)
  · refine XS.icmpYes X.here hx rfl (pc0 := 429) (pc' := 436) rfl (hb hby d3_429) rfl (tlt hc429).1 (by decide) (by decide) ?_
    show Steps p.tables e below (T.setTop (mkF m 436 #[.val (.int x0), .val (.int n)] [(.int n)])) _
    refine XS.iconst X.here hx rfl (hb hby d3_436) ?_
    show Steps p.tables e below (T.setTop (mkF m 437 #[.val (.int x0), .val (.int n)] [(.int (0 : Int32)), (.int n)])) _
    refine XS.iadd X.here hx rfl (hb hby d3_437) rfl ?_
    show Steps p.tables e below (T.setTop (mkF m 438 #[.val (.int x0), .val (.int n)] [(.int (n + (0 : Int32)))])) _
    refine XS.istoreN X.here hx rfl (hb hby d3_438) rfl (l' := #[.val (.int x0), .val (.int (n + (0 : Int32)))]) rfl ?_
    obtain rfl : r = (n + (0 : Int32)) := er.trans (by unfold own_step; first | exact if_pos hc429 | rfl | simp only [hc429, ↓reduceIte, eq_self])
    exact kt
  · refine XS.icmpNo X.here hx rfl (hb hby d3_429) rfl (flt hc429).1 ?_
    show Steps p.tables e below (T.setTop (mkF m 432 #[.val (.int x0), .val (.int n)] [(.int n)])) _
    refine XS.iconst X.here hx rfl (hb hby d3_432) ?_
    show Steps p.tables e below (T.setTop (mkF m 433 #[.val (.int x0), .val (.int n)] [(.int (1 : Int32)), (.int n)])) _
    refine XS.goto X.here hx rfl (pc0 := 433) (pc' := 437) rfl (hb hby d3_433) (by decide) (by decide) ?_
    show Steps p.tables e below (T.setTop (mkF m 437 #[.val (.int x0), .val (.int n)] [(.int (1 : Int32)), (.int n)])) _
    refine XS.iadd X.here hx rfl (hb hby d3_437) rfl ?_
    show Steps p.tables e below (T.setTop (mkF m 438 #[.val (.int x0), .val (.int n)] [(.int (n + (1 : Int32)))])) _
    refine XS.istoreN X.here hx rfl (hb hby d3_438) rfl (l' := #[.val (.int x0), .val (.int (n + (1 : Int32)))]) rfl ?_
    obtain rfl : r = (n + (1 : Int32)) := er.trans (by unfold own_step; first | exact if_neg hc429 | rfl | simp only [hc429, ↓reduceIte, eq_self])
    exact kt
def own_cnt (x0 : Int32) : Int32 := (own_step x0 (983040 : Int32) (own_step x0 (65536 : Int32) (own_step x0 (65534 : Int32) (own_step x0 (65008 : Int32) (own_step x0 (64976 : Int32) (own_step x0 (63744 : Int32) (own_step x0 (55296 : Int32) (own_step x0 (12289 : Int32) (own_step x0 (12272 : Int32) (own_step x0 (11264 : Int32) (own_step x0 (8592 : Int32) (own_step x0 (8304 : Int32) (own_step x0 (8206 : Int32) (own_step x0 (8204 : Int32) (own_step x0 (8192 : Int32) (own_step x0 (895 : Int32) (own_step x0 (894 : Int32) (own_step x0 (880 : Int32) (own_step x0 (768 : Int32) (own_step x0 (248 : Int32) (own_step x0 (247 : Int32) (own_step x0 (216 : Int32) (own_step x0 (215 : Int32) (own_step x0 (192 : Int32) (own_step x0 (123 : Int32) (own_step x0 (97 : Int32) (own_step x0 (96 : Int32) (own_step x0 (95 : Int32) (own_step x0 (91 : Int32) (own_step x0 (65 : Int32) (0 : Int32)))))))))))))))))))))))))))))))
def own_sp (x0 : Int32) : Int32 := if (own_cnt x0 &&& (1 : Int32)) = (1 : Int32) then (1 : Int32) else (0 : Int32)
theorem own_iv_0 (x0 : Int32) (h2 : x0.toInt < 65) : own_sp x0 = own_ns x0 := by
  have e : own_cnt x0 = 0 := by
    unfold own_cnt
    rw [own_step_t own_k983040 (by omega), own_step_t own_k65536 (by omega), own_step_t own_k65534 (by omega), own_step_t own_k65008 (by omega), own_step_t own_k64976 (by omega), own_step_t own_k63744 (by omega), own_step_t own_k55296 (by omega), own_step_t own_k12289 (by omega), own_step_t own_k12272 (by omega), own_step_t own_k11264 (by omega), own_step_t own_k8592 (by omega), own_step_t own_k8304 (by omega), own_step_t own_k8206 (by omega), own_step_t own_k8204 (by omega), own_step_t own_k8192 (by omega), own_step_t own_k895 (by omega), own_step_t own_k894 (by omega), own_step_t own_k880 (by omega), own_step_t own_k768 (by omega), own_step_t own_k248 (by omega), own_step_t own_k247 (by omega), own_step_t own_k216 (by omega), own_step_t own_k215 (by omega), own_step_t own_k192 (by omega), own_step_t own_k123 (by omega), own_step_t own_k97 (by omega), own_step_t own_k96 (by omega), own_step_t own_k95 (by omega), own_step_t own_k91 (by omega), own_step_t own_k65 (by omega)]
  have e1 : own_sp x0 = 0 := by unfold own_sp; rw [e]; decide
  have e2 : own_ns x0 = 0 := by unfold own_ns; exact if_neg (by omega)
  rw [e1, e2]
theorem own_iv_1 (x0 : Int32) (h1 : 65 ≤ x0.toInt) (h2 : x0.toInt < 91) : own_sp x0 = own_ns x0 := by
  have e : own_cnt x0 = 1 := by
    unfold own_cnt
    rw [own_step_t own_k983040 (by omega), own_step_t own_k65536 (by omega), own_step_t own_k65534 (by omega), own_step_t own_k65008 (by omega), own_step_t own_k64976 (by omega), own_step_t own_k63744 (by omega), own_step_t own_k55296 (by omega), own_step_t own_k12289 (by omega), own_step_t own_k12272 (by omega), own_step_t own_k11264 (by omega), own_step_t own_k8592 (by omega), own_step_t own_k8304 (by omega), own_step_t own_k8206 (by omega), own_step_t own_k8204 (by omega), own_step_t own_k8192 (by omega), own_step_t own_k895 (by omega), own_step_t own_k894 (by omega), own_step_t own_k880 (by omega), own_step_t own_k768 (by omega), own_step_t own_k248 (by omega), own_step_t own_k247 (by omega), own_step_t own_k216 (by omega), own_step_t own_k215 (by omega), own_step_t own_k192 (by omega), own_step_t own_k123 (by omega), own_step_t own_k97 (by omega), own_step_t own_k96 (by omega), own_step_t own_k95 (by omega), own_step_t own_k91 (by omega), own_step_f own_k65 (by omega)]
    decide
  have e1 : own_sp x0 = 1 := by unfold own_sp; rw [e]; decide
  have e2 : own_ns x0 = 1 := by unfold own_ns; exact if_pos (by omega)
  rw [e1, e2]
theorem own_iv_2 (x0 : Int32) (h1 : 91 ≤ x0.toInt) (h2 : x0.toInt < 95) : own_sp x0 = own_ns x0 := by
  have e : own_cnt x0 = 2 := by
    unfold own_cnt
    rw [own_step_t own_k983040 (by omega), own_step_t own_k65536 (by omega), own_step_t own_k65534 (by omega), own_step_t own_k65008 (by omega), own_step_t own_k64976 (by omega), own_step_t own_k63744 (by omega), own_step_t own_k55296 (by omega), own_step_t own_k12289 (by omega), own_step_t own_k12272 (by omega), own_step_t own_k11264 (by omega), own_step_t own_k8592 (by omega), own_step_t own_k8304 (by omega), own_step_t own_k8206 (by omega), own_step_t own_k8204 (by omega), own_step_t own_k8192 (by omega), own_step_t own_k895 (by omega), own_step_t own_k894 (by omega), own_step_t own_k880 (by omega), own_step_t own_k768 (by omega), own_step_t own_k248 (by omega), own_step_t own_k247 (by omega), own_step_t own_k216 (by omega), own_step_t own_k215 (by omega), own_step_t own_k192 (by omega), own_step_t own_k123 (by omega), own_step_t own_k97 (by omega), own_step_t own_k96 (by omega), own_step_t own_k95 (by omega), own_step_f own_k91 (by omega), own_step_f own_k65 (by omega)]
    decide
  have e1 : own_sp x0 = 0 := by unfold own_sp; rw [e]; decide
  have e2 : own_ns x0 = 0 := by unfold own_ns; exact if_neg (by omega)
  rw [e1, e2]
theorem own_iv_3 (x0 : Int32) (h1 : 95 ≤ x0.toInt) (h2 : x0.toInt < 96) : own_sp x0 = own_ns x0 := by
  have e : own_cnt x0 = 3 := by
    unfold own_cnt
    rw [own_step_t own_k983040 (by omega), own_step_t own_k65536 (by omega), own_step_t own_k65534 (by omega), own_step_t own_k65008 (by omega), own_step_t own_k64976 (by omega), own_step_t own_k63744 (by omega), own_step_t own_k55296 (by omega), own_step_t own_k12289 (by omega), own_step_t own_k12272 (by omega), own_step_t own_k11264 (by omega), own_step_t own_k8592 (by omega), own_step_t own_k8304 (by omega), own_step_t own_k8206 (by omega), own_step_t own_k8204 (by omega), own_step_t own_k8192 (by omega), own_step_t own_k895 (by omega), own_step_t own_k894 (by omega), own_step_t own_k880 (by omega), own_step_t own_k768 (by omega), own_step_t own_k248 (by omega), own_step_t own_k247 (by omega), own_step_t own_k216 (by omega), own_step_t own_k215 (by omega), own_step_t own_k192 (by omega), own_step_t own_k123 (by omega), own_step_t own_k97 (by omega), own_step_t own_k96 (by omega), own_step_f own_k95 (by omega), own_step_f own_k91 (by omega), own_step_f own_k65 (by omega)]
    decide
  have e1 : own_sp x0 = 1 := by unfold own_sp; rw [e]; decide
  have e2 : own_ns x0 = 1 := by unfold own_ns; exact if_pos (by omega)
  rw [e1, e2]
theorem own_iv_4 (x0 : Int32) (h1 : 96 ≤ x0.toInt) (h2 : x0.toInt < 97) : own_sp x0 = own_ns x0 := by
  have e : own_cnt x0 = 4 := by
    unfold own_cnt
    rw [own_step_t own_k983040 (by omega), own_step_t own_k65536 (by omega), own_step_t own_k65534 (by omega), own_step_t own_k65008 (by omega), own_step_t own_k64976 (by omega), own_step_t own_k63744 (by omega), own_step_t own_k55296 (by omega), own_step_t own_k12289 (by omega), own_step_t own_k12272 (by omega), own_step_t own_k11264 (by omega), own_step_t own_k8592 (by omega), own_step_t own_k8304 (by omega), own_step_t own_k8206 (by omega), own_step_t own_k8204 (by omega), own_step_t own_k8192 (by omega), own_step_t own_k895 (by omega), own_step_t own_k894 (by omega), own_step_t own_k880 (by omega), own_step_t own_k768 (by omega), own_step_t own_k248 (by omega), own_step_t own_k247 (by omega), own_step_t own_k216 (by omega), own_step_t own_k215 (by omega), own_step_t own_k192 (by omega), own_step_t own_k123 (by omega), own_step_t own_k97 (by omega), own_step_f own_k96 (by omega), own_step_f own_k95 (by omega), own_step_f own_k91 (by omega), own_step_f own_k65 (by omega)]
    decide
  have e1 : own_sp x0 = 0 := by unfold own_sp; rw [e]; decide
  have e2 : own_ns x0 = 0 := by unfold own_ns; exact if_neg (by omega)
  rw [e1, e2]
theorem own_iv_5 (x0 : Int32) (h1 : 97 ≤ x0.toInt) (h2 : x0.toInt < 123) : own_sp x0 = own_ns x0 := by
  have e : own_cnt x0 = 5 := by
    unfold own_cnt
    rw [own_step_t own_k983040 (by omega), own_step_t own_k65536 (by omega), own_step_t own_k65534 (by omega), own_step_t own_k65008 (by omega), own_step_t own_k64976 (by omega), own_step_t own_k63744 (by omega), own_step_t own_k55296 (by omega), own_step_t own_k12289 (by omega), own_step_t own_k12272 (by omega), own_step_t own_k11264 (by omega), own_step_t own_k8592 (by omega), own_step_t own_k8304 (by omega), own_step_t own_k8206 (by omega), own_step_t own_k8204 (by omega), own_step_t own_k8192 (by omega), own_step_t own_k895 (by omega), own_step_t own_k894 (by omega), own_step_t own_k880 (by omega), own_step_t own_k768 (by omega), own_step_t own_k248 (by omega), own_step_t own_k247 (by omega), own_step_t own_k216 (by omega), own_step_t own_k215 (by omega), own_step_t own_k192 (by omega), own_step_t own_k123 (by omega), own_step_f own_k97 (by omega), own_step_f own_k96 (by omega), own_step_f own_k95 (by omega), own_step_f own_k91 (by omega), own_step_f own_k65 (by omega)]
    decide
  have e1 : own_sp x0 = 1 := by unfold own_sp; rw [e]; decide
  have e2 : own_ns x0 = 1 := by unfold own_ns; exact if_pos (by omega)
  rw [e1, e2]
theorem own_iv_6 (x0 : Int32) (h1 : 123 ≤ x0.toInt) (h2 : x0.toInt < 192) : own_sp x0 = own_ns x0 := by
  have e : own_cnt x0 = 6 := by
    unfold own_cnt
    rw [own_step_t own_k983040 (by omega), own_step_t own_k65536 (by omega), own_step_t own_k65534 (by omega), own_step_t own_k65008 (by omega), own_step_t own_k64976 (by omega), own_step_t own_k63744 (by omega), own_step_t own_k55296 (by omega), own_step_t own_k12289 (by omega), own_step_t own_k12272 (by omega), own_step_t own_k11264 (by omega), own_step_t own_k8592 (by omega), own_step_t own_k8304 (by omega), own_step_t own_k8206 (by omega), own_step_t own_k8204 (by omega), own_step_t own_k8192 (by omega), own_step_t own_k895 (by omega), own_step_t own_k894 (by omega), own_step_t own_k880 (by omega), own_step_t own_k768 (by omega), own_step_t own_k248 (by omega), own_step_t own_k247 (by omega), own_step_t own_k216 (by omega), own_step_t own_k215 (by omega), own_step_t own_k192 (by omega), own_step_f own_k123 (by omega), own_step_f own_k97 (by omega), own_step_f own_k96 (by omega), own_step_f own_k95 (by omega), own_step_f own_k91 (by omega), own_step_f own_k65 (by omega)]
    decide
  have e1 : own_sp x0 = 0 := by unfold own_sp; rw [e]; decide
  have e2 : own_ns x0 = 0 := by unfold own_ns; exact if_neg (by omega)
  rw [e1, e2]
theorem own_iv_7 (x0 : Int32) (h1 : 192 ≤ x0.toInt) (h2 : x0.toInt < 215) : own_sp x0 = own_ns x0 := by
  have e : own_cnt x0 = 7 := by
    unfold own_cnt
    rw [own_step_t own_k983040 (by omega), own_step_t own_k65536 (by omega), own_step_t own_k65534 (by omega), own_step_t own_k65008 (by omega), own_step_t own_k64976 (by omega), own_step_t own_k63744 (by omega), own_step_t own_k55296 (by omega), own_step_t own_k12289 (by omega), own_step_t own_k12272 (by omega), own_step_t own_k11264 (by omega), own_step_t own_k8592 (by omega), own_step_t own_k8304 (by omega), own_step_t own_k8206 (by omega), own_step_t own_k8204 (by omega), own_step_t own_k8192 (by omega), own_step_t own_k895 (by omega), own_step_t own_k894 (by omega), own_step_t own_k880 (by omega), own_step_t own_k768 (by omega), own_step_t own_k248 (by omega), own_step_t own_k247 (by omega), own_step_t own_k216 (by omega), own_step_t own_k215 (by omega), own_step_f own_k192 (by omega), own_step_f own_k123 (by omega), own_step_f own_k97 (by omega), own_step_f own_k96 (by omega), own_step_f own_k95 (by omega), own_step_f own_k91 (by omega), own_step_f own_k65 (by omega)]
    decide
  have e1 : own_sp x0 = 1 := by unfold own_sp; rw [e]; decide
  have e2 : own_ns x0 = 1 := by unfold own_ns; exact if_pos (by omega)
  rw [e1, e2]
theorem own_iv_8 (x0 : Int32) (h1 : 215 ≤ x0.toInt) (h2 : x0.toInt < 216) : own_sp x0 = own_ns x0 := by
  have e : own_cnt x0 = 8 := by
    unfold own_cnt
    rw [own_step_t own_k983040 (by omega), own_step_t own_k65536 (by omega), own_step_t own_k65534 (by omega), own_step_t own_k65008 (by omega), own_step_t own_k64976 (by omega), own_step_t own_k63744 (by omega), own_step_t own_k55296 (by omega), own_step_t own_k12289 (by omega), own_step_t own_k12272 (by omega), own_step_t own_k11264 (by omega), own_step_t own_k8592 (by omega), own_step_t own_k8304 (by omega), own_step_t own_k8206 (by omega), own_step_t own_k8204 (by omega), own_step_t own_k8192 (by omega), own_step_t own_k895 (by omega), own_step_t own_k894 (by omega), own_step_t own_k880 (by omega), own_step_t own_k768 (by omega), own_step_t own_k248 (by omega), own_step_t own_k247 (by omega), own_step_t own_k216 (by omega), own_step_f own_k215 (by omega), own_step_f own_k192 (by omega), own_step_f own_k123 (by omega), own_step_f own_k97 (by omega), own_step_f own_k96 (by omega), own_step_f own_k95 (by omega), own_step_f own_k91 (by omega), own_step_f own_k65 (by omega)]
    decide
  have e1 : own_sp x0 = 0 := by unfold own_sp; rw [e]; decide
  have e2 : own_ns x0 = 0 := by unfold own_ns; exact if_neg (by omega)
  rw [e1, e2]
theorem own_iv_9 (x0 : Int32) (h1 : 216 ≤ x0.toInt) (h2 : x0.toInt < 247) : own_sp x0 = own_ns x0 := by
  have e : own_cnt x0 = 9 := by
    unfold own_cnt
    rw [own_step_t own_k983040 (by omega), own_step_t own_k65536 (by omega), own_step_t own_k65534 (by omega), own_step_t own_k65008 (by omega), own_step_t own_k64976 (by omega), own_step_t own_k63744 (by omega), own_step_t own_k55296 (by omega), own_step_t own_k12289 (by omega), own_step_t own_k12272 (by omega), own_step_t own_k11264 (by omega), own_step_t own_k8592 (by omega), own_step_t own_k8304 (by omega), own_step_t own_k8206 (by omega), own_step_t own_k8204 (by omega), own_step_t own_k8192 (by omega), own_step_t own_k895 (by omega), own_step_t own_k894 (by omega), own_step_t own_k880 (by omega), own_step_t own_k768 (by omega), own_step_t own_k248 (by omega), own_step_t own_k247 (by omega), own_step_f own_k216 (by omega), own_step_f own_k215 (by omega), own_step_f own_k192 (by omega), own_step_f own_k123 (by omega), own_step_f own_k97 (by omega), own_step_f own_k96 (by omega), own_step_f own_k95 (by omega), own_step_f own_k91 (by omega), own_step_f own_k65 (by omega)]
    decide
  have e1 : own_sp x0 = 1 := by unfold own_sp; rw [e]; decide
  have e2 : own_ns x0 = 1 := by unfold own_ns; exact if_pos (by omega)
  rw [e1, e2]
theorem own_iv_10 (x0 : Int32) (h1 : 247 ≤ x0.toInt) (h2 : x0.toInt < 248) : own_sp x0 = own_ns x0 := by
  have e : own_cnt x0 = 10 := by
    unfold own_cnt
    rw [own_step_t own_k983040 (by omega), own_step_t own_k65536 (by omega), own_step_t own_k65534 (by omega), own_step_t own_k65008 (by omega), own_step_t own_k64976 (by omega), own_step_t own_k63744 (by omega), own_step_t own_k55296 (by omega), own_step_t own_k12289 (by omega), own_step_t own_k12272 (by omega), own_step_t own_k11264 (by omega), own_step_t own_k8592 (by omega), own_step_t own_k8304 (by omega), own_step_t own_k8206 (by omega), own_step_t own_k8204 (by omega), own_step_t own_k8192 (by omega), own_step_t own_k895 (by omega), own_step_t own_k894 (by omega), own_step_t own_k880 (by omega), own_step_t own_k768 (by omega), own_step_t own_k248 (by omega), own_step_f own_k247 (by omega), own_step_f own_k216 (by omega), own_step_f own_k215 (by omega), own_step_f own_k192 (by omega), own_step_f own_k123 (by omega), own_step_f own_k97 (by omega), own_step_f own_k96 (by omega), own_step_f own_k95 (by omega), own_step_f own_k91 (by omega), own_step_f own_k65 (by omega)]
    decide
  have e1 : own_sp x0 = 0 := by unfold own_sp; rw [e]; decide
  have e2 : own_ns x0 = 0 := by unfold own_ns; exact if_neg (by omega)
  rw [e1, e2]
theorem own_iv_11 (x0 : Int32) (h1 : 248 ≤ x0.toInt) (h2 : x0.toInt < 768) : own_sp x0 = own_ns x0 := by
  have e : own_cnt x0 = 11 := by
    unfold own_cnt
    rw [own_step_t own_k983040 (by omega), own_step_t own_k65536 (by omega), own_step_t own_k65534 (by omega), own_step_t own_k65008 (by omega), own_step_t own_k64976 (by omega), own_step_t own_k63744 (by omega), own_step_t own_k55296 (by omega), own_step_t own_k12289 (by omega), own_step_t own_k12272 (by omega), own_step_t own_k11264 (by omega), own_step_t own_k8592 (by omega), own_step_t own_k8304 (by omega), own_step_t own_k8206 (by omega), own_step_t own_k8204 (by omega), own_step_t own_k8192 (by omega), own_step_t own_k895 (by omega), own_step_t own_k894 (by omega), own_step_t own_k880 (by omega), own_step_t own_k768 (by omega), own_step_f own_k248 (by omega), own_step_f own_k247 (by omega), own_step_f own_k216 (by omega), own_step_f own_k215 (by omega), own_step_f own_k192 (by omega), own_step_f own_k123 (by omega), own_step_f own_k97 (by omega), own_step_f own_k96 (by omega), own_step_f own_k95 (by omega), own_step_f own_k91 (by omega), own_step_f own_k65 (by omega)]
    decide
  have e1 : own_sp x0 = 1 := by unfold own_sp; rw [e]; decide
  have e2 : own_ns x0 = 1 := by unfold own_ns; exact if_pos (by omega)
  rw [e1, e2]
theorem own_iv_12 (x0 : Int32) (h1 : 768 ≤ x0.toInt) (h2 : x0.toInt < 880) : own_sp x0 = own_ns x0 := by
  have e : own_cnt x0 = 12 := by
    unfold own_cnt
    rw [own_step_t own_k983040 (by omega), own_step_t own_k65536 (by omega), own_step_t own_k65534 (by omega), own_step_t own_k65008 (by omega), own_step_t own_k64976 (by omega), own_step_t own_k63744 (by omega), own_step_t own_k55296 (by omega), own_step_t own_k12289 (by omega), own_step_t own_k12272 (by omega), own_step_t own_k11264 (by omega), own_step_t own_k8592 (by omega), own_step_t own_k8304 (by omega), own_step_t own_k8206 (by omega), own_step_t own_k8204 (by omega), own_step_t own_k8192 (by omega), own_step_t own_k895 (by omega), own_step_t own_k894 (by omega), own_step_t own_k880 (by omega), own_step_f own_k768 (by omega), own_step_f own_k248 (by omega), own_step_f own_k247 (by omega), own_step_f own_k216 (by omega), own_step_f own_k215 (by omega), own_step_f own_k192 (by omega), own_step_f own_k123 (by omega), own_step_f own_k97 (by omega), own_step_f own_k96 (by omega), own_step_f own_k95 (by omega), own_step_f own_k91 (by omega), own_step_f own_k65 (by omega)]
    decide
  have e1 : own_sp x0 = 0 := by unfold own_sp; rw [e]; decide
  have e2 : own_ns x0 = 0 := by unfold own_ns; exact if_neg (by omega)
  rw [e1, e2]
theorem own_iv_13 (x0 : Int32) (h1 : 880 ≤ x0.toInt) (h2 : x0.toInt < 894) : own_sp x0 = own_ns x0 := by
  have e : own_cnt x0 = 13 := by
    unfold own_cnt
    rw [own_step_t own_k983040 (by omega), own_step_t own_k65536 (by omega), own_step_t own_k65534 (by omega), own_step_t own_k65008 (by omega), own_step_t own_k64976 (by omega), own_step_t own_k63744 (by omega), own_step_t own_k55296 (by omega), own_step_t own_k12289 (by omega), own_step_t own_k12272 (by omega), own_step_t own_k11264 (by omega), own_step_t own_k8592 (by omega), own_step_t own_k8304 (by omega), own_step_t own_k8206 (by omega), own_step_t own_k8204 (by omega), own_step_t own_k8192 (by omega), own_step_t own_k895 (by omega), own_step_t own_k894 (by omega), own_step_f own_k880 (by omega), own_step_f own_k768 (by omega), own_step_f own_k248 (by omega), own_step_f own_k247 (by omega), own_step_f own_k216 (by omega), own_step_f own_k215 (by omega), own_step_f own_k192 (by omega), own_step_f own_k123 (by omega), own_step_f own_k97 (by omega), own_step_f own_k96 (by omega), own_step_f own_k95 (by omega), own_step_f own_k91 (by omega), own_step_f own_k65 (by omega)]
    decide
  have e1 : own_sp x0 = 1 := by unfold own_sp; rw [e]; decide
  have e2 : own_ns x0 = 1 := by unfold own_ns; exact if_pos (by omega)
  rw [e1, e2]
theorem own_iv_14 (x0 : Int32) (h1 : 894 ≤ x0.toInt) (h2 : x0.toInt < 895) : own_sp x0 = own_ns x0 := by
  have e : own_cnt x0 = 14 := by
    unfold own_cnt
    rw [own_step_t own_k983040 (by omega), own_step_t own_k65536 (by omega), own_step_t own_k65534 (by omega), own_step_t own_k65008 (by omega), own_step_t own_k64976 (by omega), own_step_t own_k63744 (by omega), own_step_t own_k55296 (by omega), own_step_t own_k12289 (by omega), own_step_t own_k12272 (by omega), own_step_t own_k11264 (by omega), own_step_t own_k8592 (by omega), own_step_t own_k8304 (by omega), own_step_t own_k8206 (by omega), own_step_t own_k8204 (by omega), own_step_t own_k8192 (by omega), own_step_t own_k895 (by omega), own_step_f own_k894 (by omega), own_step_f own_k880 (by omega), own_step_f own_k768 (by omega), own_step_f own_k248 (by omega), own_step_f own_k247 (by omega), own_step_f own_k216 (by omega), own_step_f own_k215 (by omega), own_step_f own_k192 (by omega), own_step_f own_k123 (by omega), own_step_f own_k97 (by omega), own_step_f own_k96 (by omega), own_step_f own_k95 (by omega), own_step_f own_k91 (by omega), own_step_f own_k65 (by omega)]
    decide
  have e1 : own_sp x0 = 0 := by unfold own_sp; rw [e]; decide
  have e2 : own_ns x0 = 0 := by unfold own_ns; exact if_neg (by omega)
  rw [e1, e2]
theorem own_iv_15 (x0 : Int32) (h1 : 895 ≤ x0.toInt) (h2 : x0.toInt < 8192) : own_sp x0 = own_ns x0 := by
  have e : own_cnt x0 = 15 := by
    unfold own_cnt
    rw [own_step_t own_k983040 (by omega), own_step_t own_k65536 (by omega), own_step_t own_k65534 (by omega), own_step_t own_k65008 (by omega), own_step_t own_k64976 (by omega), own_step_t own_k63744 (by omega), own_step_t own_k55296 (by omega), own_step_t own_k12289 (by omega), own_step_t own_k12272 (by omega), own_step_t own_k11264 (by omega), own_step_t own_k8592 (by omega), own_step_t own_k8304 (by omega), own_step_t own_k8206 (by omega), own_step_t own_k8204 (by omega), own_step_t own_k8192 (by omega), own_step_f own_k895 (by omega), own_step_f own_k894 (by omega), own_step_f own_k880 (by omega), own_step_f own_k768 (by omega), own_step_f own_k248 (by omega), own_step_f own_k247 (by omega), own_step_f own_k216 (by omega), own_step_f own_k215 (by omega), own_step_f own_k192 (by omega), own_step_f own_k123 (by omega), own_step_f own_k97 (by omega), own_step_f own_k96 (by omega), own_step_f own_k95 (by omega), own_step_f own_k91 (by omega), own_step_f own_k65 (by omega)]
    decide
  have e1 : own_sp x0 = 1 := by unfold own_sp; rw [e]; decide
  have e2 : own_ns x0 = 1 := by unfold own_ns; exact if_pos (by omega)
  rw [e1, e2]
theorem own_iv_16 (x0 : Int32) (h1 : 8192 ≤ x0.toInt) (h2 : x0.toInt < 8204) : own_sp x0 = own_ns x0 := by
  have e : own_cnt x0 = 16 := by
    unfold own_cnt
    rw [own_step_t own_k983040 (by omega), own_step_t own_k65536 (by omega), own_step_t own_k65534 (by omega), own_step_t own_k65008 (by omega), own_step_t own_k64976 (by omega), own_step_t own_k63744 (by omega), own_step_t own_k55296 (by omega), own_step_t own_k12289 (by omega), own_step_t own_k12272 (by omega), own_step_t own_k11264 (by omega), own_step_t own_k8592 (by omega), own_step_t own_k8304 (by omega), own_step_t own_k8206 (by omega), own_step_t own_k8204 (by omega), own_step_f own_k8192 (by omega), own_step_f own_k895 (by omega), own_step_f own_k894 (by omega), own_step_f own_k880 (by omega), own_step_f own_k768 (by omega), own_step_f own_k248 (by omega), own_step_f own_k247 (by omega), own_step_f own_k216 (by omega), own_step_f own_k215 (by omega), own_step_f own_k192 (by omega), own_step_f own_k123 (by omega), own_step_f own_k97 (by omega), own_step_f own_k96 (by omega), own_step_f own_k95 (by omega), own_step_f own_k91 (by omega), own_step_f own_k65 (by omega)]
    decide
  have e1 : own_sp x0 = 0 := by unfold own_sp; rw [e]; decide
  have e2 : own_ns x0 = 0 := by unfold own_ns; exact if_neg (by omega)
  rw [e1, e2]
theorem own_iv_17 (x0 : Int32) (h1 : 8204 ≤ x0.toInt) (h2 : x0.toInt < 8206) : own_sp x0 = own_ns x0 := by
  have e : own_cnt x0 = 17 := by
    unfold own_cnt
    rw [own_step_t own_k983040 (by omega), own_step_t own_k65536 (by omega), own_step_t own_k65534 (by omega), own_step_t own_k65008 (by omega), own_step_t own_k64976 (by omega), own_step_t own_k63744 (by omega), own_step_t own_k55296 (by omega), own_step_t own_k12289 (by omega), own_step_t own_k12272 (by omega), own_step_t own_k11264 (by omega), own_step_t own_k8592 (by omega), own_step_t own_k8304 (by omega), own_step_t own_k8206 (by omega), own_step_f own_k8204 (by omega), own_step_f own_k8192 (by omega), own_step_f own_k895 (by omega), own_step_f own_k894 (by omega), own_step_f own_k880 (by omega), own_step_f own_k768 (by omega), own_step_f own_k248 (by omega), own_step_f own_k247 (by omega), own_step_f own_k216 (by omega), own_step_f own_k215 (by omega), own_step_f own_k192 (by omega), own_step_f own_k123 (by omega), own_step_f own_k97 (by omega), own_step_f own_k96 (by omega), own_step_f own_k95 (by omega), own_step_f own_k91 (by omega), own_step_f own_k65 (by omega)]
    decide
  have e1 : own_sp x0 = 1 := by unfold own_sp; rw [e]; decide
  have e2 : own_ns x0 = 1 := by unfold own_ns; exact if_pos (by omega)
  rw [e1, e2]
theorem own_iv_18 (x0 : Int32) (h1 : 8206 ≤ x0.toInt) (h2 : x0.toInt < 8304) : own_sp x0 = own_ns x0 := by
  have e : own_cnt x0 = 18 := by
    unfold own_cnt
    rw [own_step_t own_k983040 (by omega), own_step_t own_k65536 (by omega), own_step_t own_k65534 (by omega), own_step_t own_k65008 (by omega), own_step_t own_k64976 (by omega), own_step_t own_k63744 (by omega), own_step_t own_k55296 (by omega), own_step_t own_k12289 (by omega), own_step_t own_k12272 (by omega), own_step_t own_k11264 (by omega), own_step_t own_k8592 (by omega), own_step_t own_k8304 (by omega), own_step_f own_k8206 (by omega), own_step_f own_k8204 (by omega), own_step_f own_k8192 (by omega), own_step_f own_k895 (by omega), own_step_f own_k894 (by omega), own_step_f own_k880 (by omega), own_step_f own_k768 (by omega), own_step_f own_k248 (by omega), own_step_f own_k247 (by omega), own_step_f own_k216 (by omega), own_step_f own_k215 (by omega), own_step_f own_k192 (by omega), own_step_f own_k123 (by omega), own_step_f own_k97 (by omega), own_step_f own_k96 (by omega), own_step_f own_k95 (by omega), own_step_f own_k91 (by omega), own_step_f own_k65 (by omega)]
    decide
  have e1 : own_sp x0 = 0 := by unfold own_sp; rw [e]; decide
  have e2 : own_ns x0 = 0 := by unfold own_ns; exact if_neg (by omega)
  rw [e1, e2]
theorem own_iv_19 (x0 : Int32) (h1 : 8304 ≤ x0.toInt) (h2 : x0.toInt < 8592) : own_sp x0 = own_ns x0 := by
  have e : own_cnt x0 = 19 := by
    unfold own_cnt
    rw [own_step_t own_k983040 (by omega), own_step_t own_k65536 (by omega), own_step_t own_k65534 (by omega), own_step_t own_k65008 (by omega), own_step_t own_k64976 (by omega), own_step_t own_k63744 (by omega), own_step_t own_k55296 (by omega), own_step_t own_k12289 (by omega), own_step_t own_k12272 (by omega), own_step_t own_k11264 (by omega), own_step_t own_k8592 (by omega), own_step_f own_k8304 (by omega), own_step_f own_k8206 (by omega), own_step_f own_k8204 (by omega), own_step_f own_k8192 (by omega), own_step_f own_k895 (by omega), own_step_f own_k894 (by omega), own_step_f own_k880 (by omega), own_step_f own_k768 (by omega), own_step_f own_k248 (by omega), own_step_f own_k247 (by omega), own_step_f own_k216 (by omega), own_step_f own_k215 (by omega), own_step_f own_k192 (by omega), own_step_f own_k123 (by omega), own_step_f own_k97 (by omega), own_step_f own_k96 (by omega), own_step_f own_k95 (by omega), own_step_f own_k91 (by omega), own_step_f own_k65 (by omega)]
    decide
  have e1 : own_sp x0 = 1 := by unfold own_sp; rw [e]; decide
  have e2 : own_ns x0 = 1 := by unfold own_ns; exact if_pos (by omega)
  rw [e1, e2]
theorem own_iv_20 (x0 : Int32) (h1 : 8592 ≤ x0.toInt) (h2 : x0.toInt < 11264) : own_sp x0 = own_ns x0 := by
  have e : own_cnt x0 = 20 := by
    unfold own_cnt
    rw [own_step_t own_k983040 (by omega), own_step_t own_k65536 (by omega), own_step_t own_k65534 (by omega), own_step_t own_k65008 (by omega), own_step_t own_k64976 (by omega), own_step_t own_k63744 (by omega), own_step_t own_k55296 (by omega), own_step_t own_k12289 (by omega), own_step_t own_k12272 (by omega), own_step_t own_k11264 (by omega), own_step_f own_k8592 (by omega), own_step_f own_k8304 (by omega), own_step_f own_k8206 (by omega), own_step_f own_k8204 (by omega), own_step_f own_k8192 (by omega), own_step_f own_k895 (by omega), own_step_f own_k894 (by omega), own_step_f own_k880 (by omega), own_step_f own_k768 (by omega), own_step_f own_k248 (by omega), own_step_f own_k247 (by omega), own_step_f own_k216 (by omega), own_step_f own_k215 (by omega), own_step_f own_k192 (by omega), own_step_f own_k123 (by omega), own_step_f own_k97 (by omega), own_step_f own_k96 (by omega), own_step_f own_k95 (by omega), own_step_f own_k91 (by omega), own_step_f own_k65 (by omega)]
    decide
  have e1 : own_sp x0 = 0 := by unfold own_sp; rw [e]; decide
  have e2 : own_ns x0 = 0 := by unfold own_ns; exact if_neg (by omega)
  rw [e1, e2]
theorem own_iv_21 (x0 : Int32) (h1 : 11264 ≤ x0.toInt) (h2 : x0.toInt < 12272) : own_sp x0 = own_ns x0 := by
  have e : own_cnt x0 = 21 := by
    unfold own_cnt
    rw [own_step_t own_k983040 (by omega), own_step_t own_k65536 (by omega), own_step_t own_k65534 (by omega), own_step_t own_k65008 (by omega), own_step_t own_k64976 (by omega), own_step_t own_k63744 (by omega), own_step_t own_k55296 (by omega), own_step_t own_k12289 (by omega), own_step_t own_k12272 (by omega), own_step_f own_k11264 (by omega), own_step_f own_k8592 (by omega), own_step_f own_k8304 (by omega), own_step_f own_k8206 (by omega), own_step_f own_k8204 (by omega), own_step_f own_k8192 (by omega), own_step_f own_k895 (by omega), own_step_f own_k894 (by omega), own_step_f own_k880 (by omega), own_step_f own_k768 (by omega), own_step_f own_k248 (by omega), own_step_f own_k247 (by omega), own_step_f own_k216 (by omega), own_step_f own_k215 (by omega), own_step_f own_k192 (by omega), own_step_f own_k123 (by omega), own_step_f own_k97 (by omega), own_step_f own_k96 (by omega), own_step_f own_k95 (by omega), own_step_f own_k91 (by omega), own_step_f own_k65 (by omega)]
    decide
  have e1 : own_sp x0 = 1 := by unfold own_sp; rw [e]; decide
  have e2 : own_ns x0 = 1 := by unfold own_ns; exact if_pos (by omega)
  rw [e1, e2]
theorem own_iv_22 (x0 : Int32) (h1 : 12272 ≤ x0.toInt) (h2 : x0.toInt < 12289) : own_sp x0 = own_ns x0 := by
  have e : own_cnt x0 = 22 := by
    unfold own_cnt
    rw [own_step_t own_k983040 (by omega), own_step_t own_k65536 (by omega), own_step_t own_k65534 (by omega), own_step_t own_k65008 (by omega), own_step_t own_k64976 (by omega), own_step_t own_k63744 (by omega), own_step_t own_k55296 (by omega), own_step_t own_k12289 (by omega), own_step_f own_k12272 (by omega), own_step_f own_k11264 (by omega), own_step_f own_k8592 (by omega), own_step_f own_k8304 (by omega), own_step_f own_k8206 (by omega), own_step_f own_k8204 (by omega), own_step_f own_k8192 (by omega), own_step_f own_k895 (by omega), own_step_f own_k894 (by omega), own_step_f own_k880 (by omega), own_step_f own_k768 (by omega), own_step_f own_k248 (by omega), own_step_f own_k247 (by omega), own_step_f own_k216 (by omega), own_step_f own_k215 (by omega), own_step_f own_k192 (by omega), own_step_f own_k123 (by omega), own_step_f own_k97 (by omega), own_step_f own_k96 (by omega), own_step_f own_k95 (by omega), own_step_f own_k91 (by omega), own_step_f own_k65 (by omega)]
    decide
  have e1 : own_sp x0 = 0 := by unfold own_sp; rw [e]; decide
  have e2 : own_ns x0 = 0 := by unfold own_ns; exact if_neg (by omega)
  rw [e1, e2]
theorem own_iv_23 (x0 : Int32) (h1 : 12289 ≤ x0.toInt) (h2 : x0.toInt < 55296) : own_sp x0 = own_ns x0 := by
  have e : own_cnt x0 = 23 := by
    unfold own_cnt
    rw [own_step_t own_k983040 (by omega), own_step_t own_k65536 (by omega), own_step_t own_k65534 (by omega), own_step_t own_k65008 (by omega), own_step_t own_k64976 (by omega), own_step_t own_k63744 (by omega), own_step_t own_k55296 (by omega), own_step_f own_k12289 (by omega), own_step_f own_k12272 (by omega), own_step_f own_k11264 (by omega), own_step_f own_k8592 (by omega), own_step_f own_k8304 (by omega), own_step_f own_k8206 (by omega), own_step_f own_k8204 (by omega), own_step_f own_k8192 (by omega), own_step_f own_k895 (by omega), own_step_f own_k894 (by omega), own_step_f own_k880 (by omega), own_step_f own_k768 (by omega), own_step_f own_k248 (by omega), own_step_f own_k247 (by omega), own_step_f own_k216 (by omega), own_step_f own_k215 (by omega), own_step_f own_k192 (by omega), own_step_f own_k123 (by omega), own_step_f own_k97 (by omega), own_step_f own_k96 (by omega), own_step_f own_k95 (by omega), own_step_f own_k91 (by omega), own_step_f own_k65 (by omega)]
    decide
  have e1 : own_sp x0 = 1 := by unfold own_sp; rw [e]; decide
  have e2 : own_ns x0 = 1 := by unfold own_ns; exact if_pos (by omega)
  rw [e1, e2]
theorem own_iv_24 (x0 : Int32) (h1 : 55296 ≤ x0.toInt) (h2 : x0.toInt < 63744) : own_sp x0 = own_ns x0 := by
  have e : own_cnt x0 = 24 := by
    unfold own_cnt
    rw [own_step_t own_k983040 (by omega), own_step_t own_k65536 (by omega), own_step_t own_k65534 (by omega), own_step_t own_k65008 (by omega), own_step_t own_k64976 (by omega), own_step_t own_k63744 (by omega), own_step_f own_k55296 (by omega), own_step_f own_k12289 (by omega), own_step_f own_k12272 (by omega), own_step_f own_k11264 (by omega), own_step_f own_k8592 (by omega), own_step_f own_k8304 (by omega), own_step_f own_k8206 (by omega), own_step_f own_k8204 (by omega), own_step_f own_k8192 (by omega), own_step_f own_k895 (by omega), own_step_f own_k894 (by omega), own_step_f own_k880 (by omega), own_step_f own_k768 (by omega), own_step_f own_k248 (by omega), own_step_f own_k247 (by omega), own_step_f own_k216 (by omega), own_step_f own_k215 (by omega), own_step_f own_k192 (by omega), own_step_f own_k123 (by omega), own_step_f own_k97 (by omega), own_step_f own_k96 (by omega), own_step_f own_k95 (by omega), own_step_f own_k91 (by omega), own_step_f own_k65 (by omega)]
    decide
  have e1 : own_sp x0 = 0 := by unfold own_sp; rw [e]; decide
  have e2 : own_ns x0 = 0 := by unfold own_ns; exact if_neg (by omega)
  rw [e1, e2]
theorem own_iv_25 (x0 : Int32) (h1 : 63744 ≤ x0.toInt) (h2 : x0.toInt < 64976) : own_sp x0 = own_ns x0 := by
  have e : own_cnt x0 = 25 := by
    unfold own_cnt
    rw [own_step_t own_k983040 (by omega), own_step_t own_k65536 (by omega), own_step_t own_k65534 (by omega), own_step_t own_k65008 (by omega), own_step_t own_k64976 (by omega), own_step_f own_k63744 (by omega), own_step_f own_k55296 (by omega), own_step_f own_k12289 (by omega), own_step_f own_k12272 (by omega), own_step_f own_k11264 (by omega), own_step_f own_k8592 (by omega), own_step_f own_k8304 (by omega), own_step_f own_k8206 (by omega), own_step_f own_k8204 (by omega), own_step_f own_k8192 (by omega), own_step_f own_k895 (by omega), own_step_f own_k894 (by omega), own_step_f own_k880 (by omega), own_step_f own_k768 (by omega), own_step_f own_k248 (by omega), own_step_f own_k247 (by omega), own_step_f own_k216 (by omega), own_step_f own_k215 (by omega), own_step_f own_k192 (by omega), own_step_f own_k123 (by omega), own_step_f own_k97 (by omega), own_step_f own_k96 (by omega), own_step_f own_k95 (by omega), own_step_f own_k91 (by omega), own_step_f own_k65 (by omega)]
    decide
  have e1 : own_sp x0 = 1 := by unfold own_sp; rw [e]; decide
  have e2 : own_ns x0 = 1 := by unfold own_ns; exact if_pos (by omega)
  rw [e1, e2]
theorem own_iv_26 (x0 : Int32) (h1 : 64976 ≤ x0.toInt) (h2 : x0.toInt < 65008) : own_sp x0 = own_ns x0 := by
  have e : own_cnt x0 = 26 := by
    unfold own_cnt
    rw [own_step_t own_k983040 (by omega), own_step_t own_k65536 (by omega), own_step_t own_k65534 (by omega), own_step_t own_k65008 (by omega), own_step_f own_k64976 (by omega), own_step_f own_k63744 (by omega), own_step_f own_k55296 (by omega), own_step_f own_k12289 (by omega), own_step_f own_k12272 (by omega), own_step_f own_k11264 (by omega), own_step_f own_k8592 (by omega), own_step_f own_k8304 (by omega), own_step_f own_k8206 (by omega), own_step_f own_k8204 (by omega), own_step_f own_k8192 (by omega), own_step_f own_k895 (by omega), own_step_f own_k894 (by omega), own_step_f own_k880 (by omega), own_step_f own_k768 (by omega), own_step_f own_k248 (by omega), own_step_f own_k247 (by omega), own_step_f own_k216 (by omega), own_step_f own_k215 (by omega), own_step_f own_k192 (by omega), own_step_f own_k123 (by omega), own_step_f own_k97 (by omega), own_step_f own_k96 (by omega), own_step_f own_k95 (by omega), own_step_f own_k91 (by omega), own_step_f own_k65 (by omega)]
    decide
  have e1 : own_sp x0 = 0 := by unfold own_sp; rw [e]; decide
  have e2 : own_ns x0 = 0 := by unfold own_ns; exact if_neg (by omega)
  rw [e1, e2]
theorem own_iv_27 (x0 : Int32) (h1 : 65008 ≤ x0.toInt) (h2 : x0.toInt < 65534) : own_sp x0 = own_ns x0 := by
  have e : own_cnt x0 = 27 := by
    unfold own_cnt
    rw [own_step_t own_k983040 (by omega), own_step_t own_k65536 (by omega), own_step_t own_k65534 (by omega), own_step_f own_k65008 (by omega), own_step_f own_k64976 (by omega), own_step_f own_k63744 (by omega), own_step_f own_k55296 (by omega), own_step_f own_k12289 (by omega), own_step_f own_k12272 (by omega), own_step_f own_k11264 (by omega), own_step_f own_k8592 (by omega), own_step_f own_k8304 (by omega), own_step_f own_k8206 (by omega), own_step_f own_k8204 (by omega), own_step_f own_k8192 (by omega), own_step_f own_k895 (by omega), own_step_f own_k894 (by omega), own_step_f own_k880 (by omega), own_step_f own_k768 (by omega), own_step_f own_k248 (by omega), own_step_f own_k247 (by omega), own_step_f own_k216 (by omega), own_step_f own_k215 (by omega), own_step_f own_k192 (by omega), own_step_f own_k123 (by omega), own_step_f own_k97 (by omega), own_step_f own_k96 (by omega), own_step_f own_k95 (by omega), own_step_f own_k91 (by omega), own_step_f own_k65 (by omega)]
    decide
  have e1 : own_sp x0 = 1 := by unfold own_sp; rw [e]; decide
  have e2 : own_ns x0 = 1 := by unfold own_ns; exact if_pos (by omega)
  rw [e1, e2]
theorem own_iv_28 (x0 : Int32) (h1 : 65534 ≤ x0.toInt) (h2 : x0.toInt < 65536) : own_sp x0 = own_ns x0 := by
  have e : own_cnt x0 = 28 := by
    unfold own_cnt
    rw [own_step_t own_k983040 (by omega), own_step_t own_k65536 (by omega), own_step_f own_k65534 (by omega), own_step_f own_k65008 (by omega), own_step_f own_k64976 (by omega), own_step_f own_k63744 (by omega), own_step_f own_k55296 (by omega), own_step_f own_k12289 (by omega), own_step_f own_k12272 (by omega), own_step_f own_k11264 (by omega), own_step_f own_k8592 (by omega), own_step_f own_k8304 (by omega), own_step_f own_k8206 (by omega), own_step_f own_k8204 (by omega), own_step_f own_k8192 (by omega), own_step_f own_k895 (by omega), own_step_f own_k894 (by omega), own_step_f own_k880 (by omega), own_step_f own_k768 (by omega), own_step_f own_k248 (by omega), own_step_f own_k247 (by omega), own_step_f own_k216 (by omega), own_step_f own_k215 (by omega), own_step_f own_k192 (by omega), own_step_f own_k123 (by omega), own_step_f own_k97 (by omega), own_step_f own_k96 (by omega), own_step_f own_k95 (by omega), own_step_f own_k91 (by omega), own_step_f own_k65 (by omega)]
    decide
  have e1 : own_sp x0 = 0 := by unfold own_sp; rw [e]; decide
  have e2 : own_ns x0 = 0 := by unfold own_ns; exact if_neg (by omega)
  rw [e1, e2]
theorem own_iv_29 (x0 : Int32) (h1 : 65536 ≤ x0.toInt) (h2 : x0.toInt < 983040) : own_sp x0 = own_ns x0 := by
  have e : own_cnt x0 = 29 := by
    unfold own_cnt
    rw [own_step_t own_k983040 (by omega), own_step_f own_k65536 (by omega), own_step_f own_k65534 (by omega), own_step_f own_k65008 (by omega), own_step_f own_k64976 (by omega), own_step_f own_k63744 (by omega), own_step_f own_k55296 (by omega), own_step_f own_k12289 (by omega), own_step_f own_k12272 (by omega), own_step_f own_k11264 (by omega), own_step_f own_k8592 (by omega), own_step_f own_k8304 (by omega), own_step_f own_k8206 (by omega), own_step_f own_k8204 (by omega), own_step_f own_k8192 (by omega), own_step_f own_k895 (by omega), own_step_f own_k894 (by omega), own_step_f own_k880 (by omega), own_step_f own_k768 (by omega), own_step_f own_k248 (by omega), own_step_f own_k247 (by omega), own_step_f own_k216 (by omega), own_step_f own_k215 (by omega), own_step_f own_k192 (by omega), own_step_f own_k123 (by omega), own_step_f own_k97 (by omega), own_step_f own_k96 (by omega), own_step_f own_k95 (by omega), own_step_f own_k91 (by omega), own_step_f own_k65 (by omega)]
    decide
  have e1 : own_sp x0 = 1 := by unfold own_sp; rw [e]; decide
  have e2 : own_ns x0 = 1 := by unfold own_ns; exact if_pos (by omega)
  rw [e1, e2]
theorem own_iv_30 (x0 : Int32) (h1 : 983040 ≤ x0.toInt) : own_sp x0 = own_ns x0 := by
  have e : own_cnt x0 = 30 := by
    unfold own_cnt
    rw [own_step_f own_k983040 (by omega), own_step_f own_k65536 (by omega), own_step_f own_k65534 (by omega), own_step_f own_k65008 (by omega), own_step_f own_k64976 (by omega), own_step_f own_k63744 (by omega), own_step_f own_k55296 (by omega), own_step_f own_k12289 (by omega), own_step_f own_k12272 (by omega), own_step_f own_k11264 (by omega), own_step_f own_k8592 (by omega), own_step_f own_k8304 (by omega), own_step_f own_k8206 (by omega), own_step_f own_k8204 (by omega), own_step_f own_k8192 (by omega), own_step_f own_k895 (by omega), own_step_f own_k894 (by omega), own_step_f own_k880 (by omega), own_step_f own_k768 (by omega), own_step_f own_k248 (by omega), own_step_f own_k247 (by omega), own_step_f own_k216 (by omega), own_step_f own_k215 (by omega), own_step_f own_k192 (by omega), own_step_f own_k123 (by omega), own_step_f own_k97 (by omega), own_step_f own_k96 (by omega), own_step_f own_k95 (by omega), own_step_f own_k91 (by omega), own_step_f own_k65 (by omega)]
    decide
  have e1 : own_sp x0 = 0 := by unfold own_sp; rw [e]; decide
  have e2 : own_ns x0 = 0 := by unfold own_ns; exact if_neg (by omega)
  rw [e1, e2]
theorem own_same (x0 : Int32) : own_sp x0 = own_ns x0 := by
  by_cases h0 : x0.toInt < 65
  · exact own_iv_0 x0 h0
  by_cases h1 : x0.toInt < 91
  · exact own_iv_1 x0 (by omega) h1
  by_cases h2 : x0.toInt < 95
  · exact own_iv_2 x0 (by omega) h2
  by_cases h3 : x0.toInt < 96
  · exact own_iv_3 x0 (by omega) h3
  by_cases h4 : x0.toInt < 97
  · exact own_iv_4 x0 (by omega) h4
  by_cases h5 : x0.toInt < 123
  · exact own_iv_5 x0 (by omega) h5
  by_cases h6 : x0.toInt < 192
  · exact own_iv_6 x0 (by omega) h6
  by_cases h7 : x0.toInt < 215
  · exact own_iv_7 x0 (by omega) h7
  by_cases h8 : x0.toInt < 216
  · exact own_iv_8 x0 (by omega) h8
  by_cases h9 : x0.toInt < 247
  · exact own_iv_9 x0 (by omega) h9
  by_cases h10 : x0.toInt < 248
  · exact own_iv_10 x0 (by omega) h10
  by_cases h11 : x0.toInt < 768
  · exact own_iv_11 x0 (by omega) h11
  by_cases h12 : x0.toInt < 880
  · exact own_iv_12 x0 (by omega) h12
  by_cases h13 : x0.toInt < 894
  · exact own_iv_13 x0 (by omega) h13
  by_cases h14 : x0.toInt < 895
  · exact own_iv_14 x0 (by omega) h14
  by_cases h15 : x0.toInt < 8192
  · exact own_iv_15 x0 (by omega) h15
  by_cases h16 : x0.toInt < 8204
  · exact own_iv_16 x0 (by omega) h16
  by_cases h17 : x0.toInt < 8206
  · exact own_iv_17 x0 (by omega) h17
  by_cases h18 : x0.toInt < 8304
  · exact own_iv_18 x0 (by omega) h18
  by_cases h19 : x0.toInt < 8592
  · exact own_iv_19 x0 (by omega) h19
  by_cases h20 : x0.toInt < 11264
  · exact own_iv_20 x0 (by omega) h20
  by_cases h21 : x0.toInt < 12272
  · exact own_iv_21 x0 (by omega) h21
  by_cases h22 : x0.toInt < 12289
  · exact own_iv_22 x0 (by omega) h22
  by_cases h23 : x0.toInt < 55296
  · exact own_iv_23 x0 (by omega) h23
  by_cases h24 : x0.toInt < 63744
  · exact own_iv_24 x0 (by omega) h24
  by_cases h25 : x0.toInt < 64976
  · exact own_iv_25 x0 (by omega) h25
  by_cases h26 : x0.toInt < 65008
  · exact own_iv_26 x0 (by omega) h26
  by_cases h27 : x0.toInt < 65534
  · exact own_iv_27 x0 (by omega) h27
  by_cases h28 : x0.toInt < 65536
  · exact own_iv_28 x0 (by omega) h28
  by_cases h29 : x0.toInt < 983040
  · exact own_iv_29 x0 (by omega) h29
  exact own_iv_30 x0 (by omega)
set_option maxRecDepth 65536 in
set_option maxHeartbeats 40000000 in
theorem wk3 {p : Program} {l : Launch} {e : Env} {R : Room} {s : State} {m : MethodId} {args : Array Value} {below : List Frame} {meth : Method} {c : Code} {T : State} {locs : List Loc} {cells slots : Nat} {Z : State} {a0 : Array Value} (X : Stand p l e R s m args below meth c T locs cells slots) (hx : p.tables.exec = Jvm.exec) (hZ : Z.Warmed39 s.vm) (hw : ∀ d ∈ tables_1, d.before a0 Z = true) (hby : c.code = method_3_code) (hown : s.vm.findClass "com/example/xylem/xylem/model/QNameIsNameStartCharPinLaw" = some m.cls) (hret : meth.sig.returnType = some .boolean) {fs : List Frame} (x0 : Int32) (hr : ∀ (f : JFrame) (acts : List Action), f.method = m → f.locked = none → f.entered = [] → (doReturn e (T.setTop f) acts (some (.int (own_sp x0)))).1 = T.setFrames fs) : Steps p.tables e below (T.setTop (mkF m 0 #[.val (.int x0), .unset] [])) (T.setFrames fs) := by
  show Steps p.tables e below (T.setTop (mkF m 0 #[.val (.int x0), .unset] [])) _
  refine XS.iconst X.here hx rfl (hb hby d3_0) ?_
  show Steps p.tables e below (T.setTop (mkF m 1 #[.val (.int x0), .unset] [(.int (0 : Int32))])) _
  refine XS.istoreN X.here hx rfl (hb hby d3_1) rfl (l' := #[.val (.int x0), .val (.int (0 : Int32))]) rfl ?_
  show Steps p.tables e below (T.setTop (mkF m 2 #[.val (.int x0), .val (.int (0 : Int32))] [])) _
  refine sp_2 X hx hZ hw hby hown x0 _ _ rfl ?_
  refine sp_16 X hx hZ hw hby hown x0 _ _ rfl ?_
  refine sp_30 X hx hZ hw hby hown x0 _ _ rfl ?_
  refine sp_44 X hx hZ hw hby hown x0 _ _ rfl ?_
  refine sp_58 X hx hZ hw hby hown x0 _ _ rfl ?_
  refine sp_72 X hx hZ hw hby hown x0 _ _ rfl ?_
  refine sp_86 X hx hZ hw hby hown x0 _ _ rfl ?_
  refine sp_101 X hx hZ hw hby hown x0 _ _ rfl ?_
  refine sp_116 X hx hZ hw hby hown x0 _ _ rfl ?_
  refine sp_131 X hx hZ hw hby hown x0 _ _ rfl ?_
  refine sp_146 X hx hZ hw hby hown x0 _ _ rfl ?_
  refine sp_161 X hx hZ hw hby hown x0 _ _ rfl ?_
  refine sp_176 X hx hZ hw hby hown x0 _ _ rfl ?_
  refine sp_191 X hx hZ hw hby hown x0 _ _ rfl ?_
  refine sp_206 X hx hZ hw hby hown x0 _ _ rfl ?_
  refine sp_221 X hx hZ hw hby hown x0 _ _ rfl ?_
  refine sp_236 X hx hZ hw hby hown x0 _ _ rfl ?_
  refine sp_251 X hx hZ hw hby hown x0 _ _ rfl ?_
  refine sp_266 X hx hZ hw hby hown x0 _ _ rfl ?_
  refine sp_281 X hx hZ hw hby hown x0 _ _ rfl ?_
  refine sp_296 X hx hZ hw hby hown x0 _ _ rfl ?_
  refine sp_311 X hx hZ hw hby hown x0 _ _ rfl ?_
  refine sp_326 X hx hZ hw hby hown x0 _ _ rfl ?_
  refine sp_341 X hx hZ hw hby hown x0 _ _ rfl ?_
  refine sp_355 X hx hZ hw hby hown x0 _ _ rfl ?_
  refine sp_369 X hx hZ hw hby hown x0 _ _ rfl ?_
  refine sp_383 X hx hZ hw hby hown x0 _ _ rfl ?_
  refine sp_397 X hx hZ hw hby hown x0 _ _ rfl ?_
  refine sp_411 X hx hZ hw hby hown x0 _ _ rfl ?_
  refine sp_425 X hx hZ hw hby hown x0 _ _ rfl ?_
  show Steps p.tables e below (T.setTop (mkF m 439 #[.val (.int x0), .val (.int (own_cnt x0))] [])) _
  refine XS.iloadN X.here hx rfl (hb hby d3_439) rfl ?_
  show Steps p.tables e below (T.setTop (mkF m 440 #[.val (.int x0), .val (.int (own_cnt x0))] [(.int (own_cnt x0))])) _
  refine XS.iconst X.here hx rfl (hb hby d3_440) ?_
  show Steps p.tables e below (T.setTop (mkF m 441 #[.val (.int x0), .val (.int (own_cnt x0))] [(.int (1 : Int32)), (.int (own_cnt x0))])) _
  refine XS.iand X.here hx rfl (hb hby d3_441) rfl ?_
  show Steps p.tables e below (T.setTop (mkF m 442 #[.val (.int x0), .val (.int (own_cnt x0))] [(.int ((own_cnt x0) &&& (1 : Int32)))])) _
  refine XS.iconst X.here hx rfl (hb hby d3_442) ?_
  show Steps p.tables e below (T.setTop (mkF m 443 #[.val (.int x0), .val (.int (own_cnt x0))] [(.int (1 : Int32)), (.int ((own_cnt x0) &&& (1 : Int32)))])) _
  by_cases hc443 : ((own_cnt x0) &&& (1 : Int32)) = (1 : Int32)
  · refine XS.icmpNo X.here hx rfl (hb hby d3_443) rfl (teq hc443).2 ?_
    show Steps p.tables e below (T.setTop (mkF m 446 #[.val (.int x0), .val (.int (own_cnt x0))] [])) _
    refine XS.iconst X.here hx rfl (hb hby d3_446) ?_
    show Steps p.tables e below (T.setTop (mkF m 447 #[.val (.int x0), .val (.int (own_cnt x0))] [(.int (1 : Int32))])) _
    refine XS.goto X.here hx rfl (pc0 := 447) (pc' := 451) rfl (hb hby d3_447) (by decide) (by decide) ?_
    show Steps p.tables e below (T.setTop (mkF m 451 #[.val (.int x0), .val (.int (own_cnt x0))] [(.int (1 : Int32))])) _
    have hv : own_sp x0 = (1 : Int32) := by unfold own_sp; exact if_pos hc443
    rw [hv] at hr
    exact retN X hx (t := .boolean) hret (by simp) (hb hby d3_451) hr
  · refine XS.icmpYes X.here hx rfl (pc0 := 443) (pc' := 450) rfl (hb hby d3_443) rfl (feq hc443).2 (by decide) (by decide) ?_
    show Steps p.tables e below (T.setTop (mkF m 450 #[.val (.int x0), .val (.int (own_cnt x0))] [])) _
    refine XS.iconst X.here hx rfl (hb hby d3_450) ?_
    show Steps p.tables e below (T.setTop (mkF m 451 #[.val (.int x0), .val (.int (own_cnt x0))] [(.int (0 : Int32))])) _
    have hv : own_sp x0 = (0 : Int32) := by unfold own_sp; exact if_neg hc443
    rw [hv] at hr
    exact retN X hx (t := .boolean) hret (by simp) (hb hby d3_451) hr
def Q3 (x0 : Int32) (h0 : Heap) (n0 : Nat) (v : Option Value) (h : Heap) (L : List Loc) : Prop := v = some (.int (own_sp x0)) ∧ Fr n0 L ∧ h = h0
set_option maxRecDepth 65536 in
set_option maxHeartbeats 40000000 in
theorem rm3 (l : Launch) (Z : State) (a0 : Array Value) (hw : ∀ d ∈ tables_1, d.before a0 Z = true) (ws : List Jvm.Cond) (x0 : Int32) (h0 : Heap) (n0 : Nat) (Z0 : n0 ≤ h0.size)  :
    MetFree l (⟨"com/example/xylem/xylem/model/QNameIsNameStartCharPinLaw", "spec", "(I)Z"⟩ : MethodName) (head1 (Jvm.Cond.code (⟨"com/example/xylem/xylem/model/QNameIsNameStartCharPinLaw", "spec", "(I)Z"⟩ : MethodName) method_3_code 2 (some .boolean) :: ws) ({ frames := 0, cells := 0, slots := 0, locals := 0 } : Room)) (fun as_ U => as_ = #[(.int x0)] ∧ Z.Warmed39 U.vm ∧ U.heap = h0) (fun _ _ _ _ _ => True) (fun _ U o U' => ∃ v L, o = .returned v ∧ Q3 x0 h0 n0 v U'.heap L ∧ FrameEnd U o U' L ({ frames := 0, cells := 0, slots := 0, locals := 0 } : Room).cells ({ frames := 0, cells := 0, slots := 0, locals := 0 } : Room).slots) := by
  refine MetFree.of_bodySF (plainFor_of_name pn_3) hisR ?_
  intro p e s m args below meth c s₁ Bd hml0 hP hK
  obtain ⟨rfl, hZ, hh⟩ := hP
  have hx := Bd.exec
  have hby := Bd.bytes
  have hml : c.maxLocals = 2 := hml0
  have hown : s.vm.findClass "com/example/xylem/xylem/model/QNameIsNameStartCharPinLaw" = some m.cls := findClass_of_methodNamed Bd.named
  have hnm := (name_of_methodNamed Bd.named Bd.method).1
  have X0 : Stand p l e ({ frames := 0, cells := 0, slots := 0, locals := 0 } : Room) s m #[(.int x0)] below meth c s₁ [] 0 0 := Stand.of_body Bd
  have e0 : s₁.heap = h0 := by rw [← hh, Bd.state]; rfl
  have N0 := Fr.nil n0
  have pre0 : ∀ t, Steps p.tables e below (s₁.setTop (mkF m 0 #[.val (.int x0), .unset] [])) t → Steps p.tables e below (s₁.setTop (entryFrame m #[(.int x0)] 2)) t := fun t k => castTop (ef_3 m x0) k
  obtain ⟨fs, hr, hrun, hended, hW, hsame⟩ := X0.leave (v := some (.int (own_sp x0))) (fun h => by rw [Bd.returns] at h; cases h)
  refine ⟨_, _, pre0 _ ?_, hrun, hended, _, _, rfl, ?_, ⟨_, rfl⟩, hW, hsame.mono (by decide) (by decide)⟩
  · exact wk3 X0 hx hZ hw hby hown Bd.returns x0 hr
  · show Q3 x0 h0 n0 _ s₁.heap _
    rw [e0]
    exact ⟨rfl, N0, rfl⟩
def Q1 (h0 : Heap) (n0 : Nat) (v : Option Value) (h : Heap) (L : List Loc) : Prop := (∃ w : Int32, v = some (.int w)) ∧ Fr n0 L ∧ n0 ≤ h.size
set_option maxRecDepth 65536 in
set_option maxHeartbeats 40000000 in
theorem rm1 (l : Launch) (Z : State) (a0 : Array Value) (hw : ∀ d ∈ tables_1, d.before a0 Z = true) (ws : List Jvm.Cond) (x0 : Int32) (h0 : Heap) (n0 : Nat) (Z0 : n0 ≤ h0.size) (hi : ¬ x0 < 0 ∧ x0 < (30 : Int32)) :
    MetFree l (⟨"com/example/xylem/xylem/model/QNameIsNameStartCharPinLaw", "edge", "(I)I"⟩ : MethodName) (head1 (Jvm.Cond.code (⟨"com/example/xylem/xylem/model/QNameIsNameStartCharPinLaw", "edge", "(I)I"⟩ : MethodName) method_2_code 2 (some .int) :: ws) ({ frames := 0, cells := 1, slots := 30, locals := 0 } : Room)) (fun as_ U => as_ = #[(.int x0)] ∧ Z.Warmed39 U.vm ∧ U.heap = h0) (fun _ _ _ _ _ => True) (fun _ U o U' => ∃ v L, o = .returned v ∧ Q1 h0 n0 v U'.heap L ∧ FrameEnd U o U' L ({ frames := 0, cells := 1, slots := 30, locals := 0 } : Room).cells ({ frames := 0, cells := 1, slots := 30, locals := 0 } : Room).slots) := by
  refine MetFree.of_bodySF (plainFor_of_name pn_1) hisR ?_
  intro p e s m args below meth c s₁ Bd hml0 hP hK
  obtain ⟨rfl, hZ, hh⟩ := hP
  have hx := Bd.exec
  have hby := Bd.bytes
  have hml : c.maxLocals = 2 := hml0
  have hown : s.vm.findClass "com/example/xylem/xylem/model/QNameIsNameStartCharPinLaw" = some m.cls := findClass_of_methodNamed Bd.named
  have hnm := (name_of_methodNamed Bd.named Bd.method).1
  have X0 : Stand p l e ({ frames := 0, cells := 1, slots := 30, locals := 0 } : Room) s m #[(.int x0)] below meth c s₁ [] 0 0 := Stand.of_body Bd
  have e0 : s₁.heap = h0 := by rw [← hh, Bd.state]; rfl
  have N0 := Fr.nil n0
  have pre0 : ∀ t, Steps p.tables e below (s₁.setTop (mkF m 0 #[.val (.int x0), .unset] [])) t → Steps p.tables e below (s₁.setTop (entryFrame m #[(.int x0)] 2)) t := fun t k => castTop (ef_1 m x0) k
  obtain ⟨T1, h1, k1, X1, e1, E1, A1, st1⟩ := newP X0 hx hZ (hw _ (List.mem_of_getElem? (i := 5) rfl)) e0 (g := (mkF m 2 #[.val (.int x0), .unset] [(.int (30 : Int32))])) rfl (hb hby d1_2) rfl (by decide) (cap := 30) (by decide) (by decide) (by decide) (by decide)
  obtain ⟨b1, g1⟩ : ∃ z, z = h0.size := ⟨_, rfl⟩
  rw [← g1] at A1 st1
  have I1 : own_ia Z h1 b1 (30 : Int32) := own_ia_new A1
  have gb1 : n0 ≤ b1 := Nat.le_trans Z0 (Nat.le_of_eq g1.symm)
  have Z1 : n0 ≤ h1.size := Nat.le_trans Z0 E1.1
  obtain ⟨T2, h2, lc2, X2, e2, I2, N2, Z2, st2⟩ := own_fill X1 hx hZ e1 I1 N0 gb1 Z1 (0 : Int32) (65 : Int32) (by decide) (g := (mkF m 8 #[.val (.int x0), .unset] [(.int (65 : Int32)), (.int (0 : Int32)), (.ref b1), (.ref b1)])) rfl rfl (hb hby d1_8)
  obtain ⟨T3, h3, lc3, X3, e3, I3, N3, Z3, st3⟩ := own_fill X2 hx hZ e2 I2 N2 gb1 Z2 (1 : Int32) (91 : Int32) (by decide) (g := (mkF m 13 #[.val (.int x0), .unset] [(.int (91 : Int32)), (.int (1 : Int32)), (.ref b1), (.ref b1)])) rfl rfl (hb hby d1_13)
  obtain ⟨T4, h4, lc4, X4, e4, I4, N4, Z4, st4⟩ := own_fill X3 hx hZ e3 I3 N3 gb1 Z3 (2 : Int32) (95 : Int32) (by decide) (g := (mkF m 18 #[.val (.int x0), .unset] [(.int (95 : Int32)), (.int (2 : Int32)), (.ref b1), (.ref b1)])) rfl rfl (hb hby d1_18)
  obtain ⟨T5, h5, lc5, X5, e5, I5, N5, Z5, st5⟩ := own_fill X4 hx hZ e4 I4 N4 gb1 Z4 (3 : Int32) (96 : Int32) (by decide) (g := (mkF m 23 #[.val (.int x0), .unset] [(.int (96 : Int32)), (.int (3 : Int32)), (.ref b1), (.ref b1)])) rfl rfl (hb hby d1_23)
  obtain ⟨T6, h6, lc6, X6, e6, I6, N6, Z6, st6⟩ := own_fill X5 hx hZ e5 I5 N5 gb1 Z5 (4 : Int32) (97 : Int32) (by decide) (g := (mkF m 28 #[.val (.int x0), .unset] [(.int (97 : Int32)), (.int (4 : Int32)), (.ref b1), (.ref b1)])) rfl rfl (hb hby d1_28)
  obtain ⟨T7, h7, lc7, X7, e7, I7, N7, Z7, st7⟩ := own_fill X6 hx hZ e6 I6 N6 gb1 Z6 (5 : Int32) (123 : Int32) (by decide) (g := (mkF m 33 #[.val (.int x0), .unset] [(.int (123 : Int32)), (.int (5 : Int32)), (.ref b1), (.ref b1)])) rfl rfl (hb hby d1_33)
  obtain ⟨T8, h8, lc8, X8, e8, I8, N8, Z8, st8⟩ := own_fill X7 hx hZ e7 I7 N7 gb1 Z7 (6 : Int32) (192 : Int32) (by decide) (g := (mkF m 40 #[.val (.int x0), .unset] [(.int (192 : Int32)), (.int (6 : Int32)), (.ref b1), (.ref b1)])) rfl rfl (hb hby d1_40)
  obtain ⟨T9, h9, lc9, X9, e9, I9, N9, Z9, st9⟩ := own_fill X8 hx hZ e8 I8 N8 gb1 Z8 (7 : Int32) (215 : Int32) (by decide) (g := (mkF m 47 #[.val (.int x0), .unset] [(.int (215 : Int32)), (.int (7 : Int32)), (.ref b1), (.ref b1)])) rfl rfl (hb hby d1_47)
  obtain ⟨T10, h10, lc10, X10, e10, I10, N10, Z10, st10⟩ := own_fill X9 hx hZ e9 I9 N9 gb1 Z9 (8 : Int32) (216 : Int32) (by decide) (g := (mkF m 54 #[.val (.int x0), .unset] [(.int (216 : Int32)), (.int (8 : Int32)), (.ref b1), (.ref b1)])) rfl rfl (hb hby d1_54)
  obtain ⟨T11, h11, lc11, X11, e11, I11, N11, Z11, st11⟩ := own_fill X10 hx hZ e10 I10 N10 gb1 Z10 (9 : Int32) (247 : Int32) (by decide) (g := (mkF m 61 #[.val (.int x0), .unset] [(.int (247 : Int32)), (.int (9 : Int32)), (.ref b1), (.ref b1)])) rfl rfl (hb hby d1_61)
  obtain ⟨T12, h12, lc12, X12, e12, I12, N12, Z12, st12⟩ := own_fill X11 hx hZ e11 I11 N11 gb1 Z11 (10 : Int32) (248 : Int32) (by decide) (g := (mkF m 68 #[.val (.int x0), .unset] [(.int (248 : Int32)), (.int (10 : Int32)), (.ref b1), (.ref b1)])) rfl rfl (hb hby d1_68)
  obtain ⟨T13, h13, lc13, X13, e13, I13, N13, Z13, st13⟩ := own_fill X12 hx hZ e12 I12 N12 gb1 Z12 (11 : Int32) (768 : Int32) (by decide) (g := (mkF m 75 #[.val (.int x0), .unset] [(.int (768 : Int32)), (.int (11 : Int32)), (.ref b1), (.ref b1)])) rfl rfl (hb hby d1_75)
  obtain ⟨T14, h14, lc14, X14, e14, I14, N14, Z14, st14⟩ := own_fill X13 hx hZ e13 I13 N13 gb1 Z13 (12 : Int32) (880 : Int32) (by decide) (g := (mkF m 82 #[.val (.int x0), .unset] [(.int (880 : Int32)), (.int (12 : Int32)), (.ref b1), (.ref b1)])) rfl rfl (hb hby d1_82)
  obtain ⟨T15, h15, lc15, X15, e15, I15, N15, Z15, st15⟩ := own_fill X14 hx hZ e14 I14 N14 gb1 Z14 (13 : Int32) (894 : Int32) (by decide) (g := (mkF m 89 #[.val (.int x0), .unset] [(.int (894 : Int32)), (.int (13 : Int32)), (.ref b1), (.ref b1)])) rfl rfl (hb hby d1_89)
  obtain ⟨T16, h16, lc16, X16, e16, I16, N16, Z16, st16⟩ := own_fill X15 hx hZ e15 I15 N15 gb1 Z15 (14 : Int32) (895 : Int32) (by decide) (g := (mkF m 96 #[.val (.int x0), .unset] [(.int (895 : Int32)), (.int (14 : Int32)), (.ref b1), (.ref b1)])) rfl rfl (hb hby d1_96)
  obtain ⟨T17, h17, lc17, X17, e17, I17, N17, Z17, st17⟩ := own_fill X16 hx hZ e16 I16 N16 gb1 Z16 (15 : Int32) (8192 : Int32) (by decide) (g := (mkF m 103 #[.val (.int x0), .unset] [(.int (8192 : Int32)), (.int (15 : Int32)), (.ref b1), (.ref b1)])) rfl rfl (hb hby d1_103)
  obtain ⟨T18, h18, lc18, X18, e18, I18, N18, Z18, st18⟩ := own_fill X17 hx hZ e17 I17 N17 gb1 Z17 (16 : Int32) (8204 : Int32) (by decide) (g := (mkF m 110 #[.val (.int x0), .unset] [(.int (8204 : Int32)), (.int (16 : Int32)), (.ref b1), (.ref b1)])) rfl rfl (hb hby d1_110)
  obtain ⟨T19, h19, lc19, X19, e19, I19, N19, Z19, st19⟩ := own_fill X18 hx hZ e18 I18 N18 gb1 Z18 (17 : Int32) (8206 : Int32) (by decide) (g := (mkF m 117 #[.val (.int x0), .unset] [(.int (8206 : Int32)), (.int (17 : Int32)), (.ref b1), (.ref b1)])) rfl rfl (hb hby d1_117)
  obtain ⟨T20, h20, lc20, X20, e20, I20, N20, Z20, st20⟩ := own_fill X19 hx hZ e19 I19 N19 gb1 Z19 (18 : Int32) (8304 : Int32) (by decide) (g := (mkF m 124 #[.val (.int x0), .unset] [(.int (8304 : Int32)), (.int (18 : Int32)), (.ref b1), (.ref b1)])) rfl rfl (hb hby d1_124)
  obtain ⟨T21, h21, lc21, X21, e21, I21, N21, Z21, st21⟩ := own_fill X20 hx hZ e20 I20 N20 gb1 Z20 (19 : Int32) (8592 : Int32) (by decide) (g := (mkF m 131 #[.val (.int x0), .unset] [(.int (8592 : Int32)), (.int (19 : Int32)), (.ref b1), (.ref b1)])) rfl rfl (hb hby d1_131)
  obtain ⟨T22, h22, lc22, X22, e22, I22, N22, Z22, st22⟩ := own_fill X21 hx hZ e21 I21 N21 gb1 Z21 (20 : Int32) (11264 : Int32) (by decide) (g := (mkF m 138 #[.val (.int x0), .unset] [(.int (11264 : Int32)), (.int (20 : Int32)), (.ref b1), (.ref b1)])) rfl rfl (hb hby d1_138)
  obtain ⟨T23, h23, lc23, X23, e23, I23, N23, Z23, st23⟩ := own_fill X22 hx hZ e22 I22 N22 gb1 Z22 (21 : Int32) (12272 : Int32) (by decide) (g := (mkF m 145 #[.val (.int x0), .unset] [(.int (12272 : Int32)), (.int (21 : Int32)), (.ref b1), (.ref b1)])) rfl rfl (hb hby d1_145)
  obtain ⟨T24, h24, lc24, X24, e24, I24, N24, Z24, st24⟩ := own_fill X23 hx hZ e23 I23 N23 gb1 Z23 (22 : Int32) (12289 : Int32) (by decide) (g := (mkF m 152 #[.val (.int x0), .unset] [(.int (12289 : Int32)), (.int (22 : Int32)), (.ref b1), (.ref b1)])) rfl rfl (hb hby d1_152)
  obtain ⟨T25, h25, lc25, X25, e25, I25, N25, Z25, st25⟩ := own_fill X24 hx hZ e24 I24 N24 gb1 Z24 (23 : Int32) (55296 : Int32) (by decide) (g := (mkF m 158 #[.val (.int x0), .unset] [(.int (55296 : Int32)), (.int (23 : Int32)), (.ref b1), (.ref b1)])) rfl rfl (hb hby d1_158)
  obtain ⟨T26, h26, lc26, X26, e26, I26, N26, Z26, st26⟩ := own_fill X25 hx hZ e25 I25 N25 gb1 Z25 (24 : Int32) (63744 : Int32) (by decide) (g := (mkF m 164 #[.val (.int x0), .unset] [(.int (63744 : Int32)), (.int (24 : Int32)), (.ref b1), (.ref b1)])) rfl rfl (hb hby d1_164)
  obtain ⟨T27, h27, lc27, X27, e27, I27, N27, Z27, st27⟩ := own_fill X26 hx hZ e26 I26 N26 gb1 Z26 (25 : Int32) (64976 : Int32) (by decide) (g := (mkF m 170 #[.val (.int x0), .unset] [(.int (64976 : Int32)), (.int (25 : Int32)), (.ref b1), (.ref b1)])) rfl rfl (hb hby d1_170)
  obtain ⟨T28, h28, lc28, X28, e28, I28, N28, Z28, st28⟩ := own_fill X27 hx hZ e27 I27 N27 gb1 Z27 (26 : Int32) (65008 : Int32) (by decide) (g := (mkF m 176 #[.val (.int x0), .unset] [(.int (65008 : Int32)), (.int (26 : Int32)), (.ref b1), (.ref b1)])) rfl rfl (hb hby d1_176)
  obtain ⟨T29, h29, lc29, X29, e29, I29, N29, Z29, st29⟩ := own_fill X28 hx hZ e28 I28 N28 gb1 Z28 (27 : Int32) (65534 : Int32) (by decide) (g := (mkF m 182 #[.val (.int x0), .unset] [(.int (65534 : Int32)), (.int (27 : Int32)), (.ref b1), (.ref b1)])) rfl rfl (hb hby d1_182)
  obtain ⟨T30, h30, lc30, X30, e30, I30, N30, Z30, st30⟩ := own_fill X29 hx hZ e29 I29 N29 gb1 Z29 (28 : Int32) (65536 : Int32) (by decide) (g := (mkF m 188 #[.val (.int x0), .unset] [(.int (65536 : Int32)), (.int (28 : Int32)), (.ref b1), (.ref b1)])) rfl rfl (hb hby d1_188)
  obtain ⟨T31, h31, lc31, X31, e31, I31, N31, Z31, st31⟩ := own_fill X30 hx hZ e30 I30 N30 gb1 Z30 (29 : Int32) (983040 : Int32) (by decide) (g := (mkF m 194 #[.val (.int x0), .unset] [(.int (983040 : Int32)), (.int (29 : Int32)), (.ref b1), (.ref b1)])) rfl rfl (hb hby d1_194)
  obtain ⟨cl, Ar, Sz, Hz⟩ := I31
  have hin := inb_of Sz hi
  obtain ⟨w, hat⟩ := Hz x0.toNatClampNeg (Nat.lt_of_not_le fun q => hin (Or.inr q))
  obtain ⟨fs, hr, hrun, hended, hW, hsame⟩ := X31.leave (v := some (.int w)) (fun h => by rw [Bd.returns] at h; cases h)
  refine ⟨_, _, pre0 _ ?_, hrun, hended, _, _, rfl, ?_, ⟨_, rfl⟩, hW, hsame.mono (by decide) (by decide)⟩
  · show Steps p.tables e below (s₁.setTop (mkF m 0 #[.val (.int x0), .unset] [])) _
    refine XS.bipush X0.here hx rfl (hb hby d1_0) ?_
    show Steps p.tables e below (s₁.setTop (mkF m 2 #[.val (.int x0), .unset] [(.int (30 : Int32))])) _
    refine st1 _ ?_
    show Steps p.tables e below (T1.setTop (mkF m 4 #[.val (.int x0), .unset] [(.ref b1)])) _
    refine XS.dup X1.here hx rfl (hb hby d1_4) rfl rfl ?_
    show Steps p.tables e below (T1.setTop (mkF m 5 #[.val (.int x0), .unset] [(.ref b1), (.ref b1)])) _
    refine XS.iconst X1.here hx rfl (hb hby d1_5) ?_
    show Steps p.tables e below (T1.setTop (mkF m 6 #[.val (.int x0), .unset] [(.int (0 : Int32)), (.ref b1), (.ref b1)])) _
    refine XS.bipush X1.here hx rfl (hb hby d1_6) ?_
    show Steps p.tables e below (T1.setTop (mkF m 8 #[.val (.int x0), .unset] [(.int (65 : Int32)), (.int (0 : Int32)), (.ref b1), (.ref b1)])) _
    refine st2 _ ?_
    show Steps p.tables e below (T2.setTop (mkF m 9 #[.val (.int x0), .unset] [(.ref b1)])) _
    refine XS.dup X2.here hx rfl (hb hby d1_9) rfl rfl ?_
    show Steps p.tables e below (T2.setTop (mkF m 10 #[.val (.int x0), .unset] [(.ref b1), (.ref b1)])) _
    refine XS.iconst X2.here hx rfl (hb hby d1_10) ?_
    show Steps p.tables e below (T2.setTop (mkF m 11 #[.val (.int x0), .unset] [(.int (1 : Int32)), (.ref b1), (.ref b1)])) _
    refine XS.bipush X2.here hx rfl (hb hby d1_11) ?_
    show Steps p.tables e below (T2.setTop (mkF m 13 #[.val (.int x0), .unset] [(.int (91 : Int32)), (.int (1 : Int32)), (.ref b1), (.ref b1)])) _
    refine st3 _ ?_
    show Steps p.tables e below (T3.setTop (mkF m 14 #[.val (.int x0), .unset] [(.ref b1)])) _
    refine XS.dup X3.here hx rfl (hb hby d1_14) rfl rfl ?_
    show Steps p.tables e below (T3.setTop (mkF m 15 #[.val (.int x0), .unset] [(.ref b1), (.ref b1)])) _
    refine XS.iconst X3.here hx rfl (hb hby d1_15) ?_
    show Steps p.tables e below (T3.setTop (mkF m 16 #[.val (.int x0), .unset] [(.int (2 : Int32)), (.ref b1), (.ref b1)])) _
    refine XS.bipush X3.here hx rfl (hb hby d1_16) ?_
    show Steps p.tables e below (T3.setTop (mkF m 18 #[.val (.int x0), .unset] [(.int (95 : Int32)), (.int (2 : Int32)), (.ref b1), (.ref b1)])) _
    refine st4 _ ?_
    show Steps p.tables e below (T4.setTop (mkF m 19 #[.val (.int x0), .unset] [(.ref b1)])) _
    refine XS.dup X4.here hx rfl (hb hby d1_19) rfl rfl ?_
    show Steps p.tables e below (T4.setTop (mkF m 20 #[.val (.int x0), .unset] [(.ref b1), (.ref b1)])) _
    refine XS.iconst X4.here hx rfl (hb hby d1_20) ?_
    show Steps p.tables e below (T4.setTop (mkF m 21 #[.val (.int x0), .unset] [(.int (3 : Int32)), (.ref b1), (.ref b1)])) _
    refine XS.bipush X4.here hx rfl (hb hby d1_21) ?_
    show Steps p.tables e below (T4.setTop (mkF m 23 #[.val (.int x0), .unset] [(.int (96 : Int32)), (.int (3 : Int32)), (.ref b1), (.ref b1)])) _
    refine st5 _ ?_
    show Steps p.tables e below (T5.setTop (mkF m 24 #[.val (.int x0), .unset] [(.ref b1)])) _
    refine XS.dup X5.here hx rfl (hb hby d1_24) rfl rfl ?_
    show Steps p.tables e below (T5.setTop (mkF m 25 #[.val (.int x0), .unset] [(.ref b1), (.ref b1)])) _
    refine XS.iconst X5.here hx rfl (hb hby d1_25) ?_
    show Steps p.tables e below (T5.setTop (mkF m 26 #[.val (.int x0), .unset] [(.int (4 : Int32)), (.ref b1), (.ref b1)])) _
    refine XS.bipush X5.here hx rfl (hb hby d1_26) ?_
    show Steps p.tables e below (T5.setTop (mkF m 28 #[.val (.int x0), .unset] [(.int (97 : Int32)), (.int (4 : Int32)), (.ref b1), (.ref b1)])) _
    refine st6 _ ?_
    show Steps p.tables e below (T6.setTop (mkF m 29 #[.val (.int x0), .unset] [(.ref b1)])) _
    refine XS.dup X6.here hx rfl (hb hby d1_29) rfl rfl ?_
    show Steps p.tables e below (T6.setTop (mkF m 30 #[.val (.int x0), .unset] [(.ref b1), (.ref b1)])) _
    refine XS.iconst X6.here hx rfl (hb hby d1_30) ?_
    show Steps p.tables e below (T6.setTop (mkF m 31 #[.val (.int x0), .unset] [(.int (5 : Int32)), (.ref b1), (.ref b1)])) _
    refine XS.bipush X6.here hx rfl (hb hby d1_31) ?_
    show Steps p.tables e below (T6.setTop (mkF m 33 #[.val (.int x0), .unset] [(.int (123 : Int32)), (.int (5 : Int32)), (.ref b1), (.ref b1)])) _
    refine st7 _ ?_
    show Steps p.tables e below (T7.setTop (mkF m 34 #[.val (.int x0), .unset] [(.ref b1)])) _
    refine XS.dup X7.here hx rfl (hb hby d1_34) rfl rfl ?_
    show Steps p.tables e below (T7.setTop (mkF m 35 #[.val (.int x0), .unset] [(.ref b1), (.ref b1)])) _
    refine XS.bipush X7.here hx rfl (hb hby d1_35) ?_
    show Steps p.tables e below (T7.setTop (mkF m 37 #[.val (.int x0), .unset] [(.int (6 : Int32)), (.ref b1), (.ref b1)])) _
    refine XS.sipush X7.here hx rfl (hb hby d1_37) ?_
    show Steps p.tables e below (T7.setTop (mkF m 40 #[.val (.int x0), .unset] [(.int (192 : Int32)), (.int (6 : Int32)), (.ref b1), (.ref b1)])) _
    refine st8 _ ?_
    show Steps p.tables e below (T8.setTop (mkF m 41 #[.val (.int x0), .unset] [(.ref b1)])) _
    refine XS.dup X8.here hx rfl (hb hby d1_41) rfl rfl ?_
    show Steps p.tables e below (T8.setTop (mkF m 42 #[.val (.int x0), .unset] [(.ref b1), (.ref b1)])) _
    refine XS.bipush X8.here hx rfl (hb hby d1_42) ?_
    show Steps p.tables e below (T8.setTop (mkF m 44 #[.val (.int x0), .unset] [(.int (7 : Int32)), (.ref b1), (.ref b1)])) _
    refine XS.sipush X8.here hx rfl (hb hby d1_44) ?_
    show Steps p.tables e below (T8.setTop (mkF m 47 #[.val (.int x0), .unset] [(.int (215 : Int32)), (.int (7 : Int32)), (.ref b1), (.ref b1)])) _
    refine st9 _ ?_
    show Steps p.tables e below (T9.setTop (mkF m 48 #[.val (.int x0), .unset] [(.ref b1)])) _
    refine XS.dup X9.here hx rfl (hb hby d1_48) rfl rfl ?_
    show Steps p.tables e below (T9.setTop (mkF m 49 #[.val (.int x0), .unset] [(.ref b1), (.ref b1)])) _
    refine XS.bipush X9.here hx rfl (hb hby d1_49) ?_
    show Steps p.tables e below (T9.setTop (mkF m 51 #[.val (.int x0), .unset] [(.int (8 : Int32)), (.ref b1), (.ref b1)])) _
    refine XS.sipush X9.here hx rfl (hb hby d1_51) ?_
    show Steps p.tables e below (T9.setTop (mkF m 54 #[.val (.int x0), .unset] [(.int (216 : Int32)), (.int (8 : Int32)), (.ref b1), (.ref b1)])) _
    refine st10 _ ?_
    show Steps p.tables e below (T10.setTop (mkF m 55 #[.val (.int x0), .unset] [(.ref b1)])) _
    refine XS.dup X10.here hx rfl (hb hby d1_55) rfl rfl ?_
    show Steps p.tables e below (T10.setTop (mkF m 56 #[.val (.int x0), .unset] [(.ref b1), (.ref b1)])) _
    refine XS.bipush X10.here hx rfl (hb hby d1_56) ?_
    show Steps p.tables e below (T10.setTop (mkF m 58 #[.val (.int x0), .unset] [(.int (9 : Int32)), (.ref b1), (.ref b1)])) _
    refine XS.sipush X10.here hx rfl (hb hby d1_58) ?_
    show Steps p.tables e below (T10.setTop (mkF m 61 #[.val (.int x0), .unset] [(.int (247 : Int32)), (.int (9 : Int32)), (.ref b1), (.ref b1)])) _
    refine st11 _ ?_
    show Steps p.tables e below (T11.setTop (mkF m 62 #[.val (.int x0), .unset] [(.ref b1)])) _
    refine XS.dup X11.here hx rfl (hb hby d1_62) rfl rfl ?_
    show Steps p.tables e below (T11.setTop (mkF m 63 #[.val (.int x0), .unset] [(.ref b1), (.ref b1)])) _
    refine XS.bipush X11.here hx rfl (hb hby d1_63) ?_
    show Steps p.tables e below (T11.setTop (mkF m 65 #[.val (.int x0), .unset] [(.int (10 : Int32)), (.ref b1), (.ref b1)])) _
    refine XS.sipush X11.here hx rfl (hb hby d1_65) ?_
    show Steps p.tables e below (T11.setTop (mkF m 68 #[.val (.int x0), .unset] [(.int (248 : Int32)), (.int (10 : Int32)), (.ref b1), (.ref b1)])) _
    refine st12 _ ?_
    show Steps p.tables e below (T12.setTop (mkF m 69 #[.val (.int x0), .unset] [(.ref b1)])) _
    refine XS.dup X12.here hx rfl (hb hby d1_69) rfl rfl ?_
    show Steps p.tables e below (T12.setTop (mkF m 70 #[.val (.int x0), .unset] [(.ref b1), (.ref b1)])) _
    refine XS.bipush X12.here hx rfl (hb hby d1_70) ?_
    show Steps p.tables e below (T12.setTop (mkF m 72 #[.val (.int x0), .unset] [(.int (11 : Int32)), (.ref b1), (.ref b1)])) _
    refine XS.sipush X12.here hx rfl (hb hby d1_72) ?_
    show Steps p.tables e below (T12.setTop (mkF m 75 #[.val (.int x0), .unset] [(.int (768 : Int32)), (.int (11 : Int32)), (.ref b1), (.ref b1)])) _
    refine st13 _ ?_
    show Steps p.tables e below (T13.setTop (mkF m 76 #[.val (.int x0), .unset] [(.ref b1)])) _
    refine XS.dup X13.here hx rfl (hb hby d1_76) rfl rfl ?_
    show Steps p.tables e below (T13.setTop (mkF m 77 #[.val (.int x0), .unset] [(.ref b1), (.ref b1)])) _
    refine XS.bipush X13.here hx rfl (hb hby d1_77) ?_
    show Steps p.tables e below (T13.setTop (mkF m 79 #[.val (.int x0), .unset] [(.int (12 : Int32)), (.ref b1), (.ref b1)])) _
    refine XS.sipush X13.here hx rfl (hb hby d1_79) ?_
    show Steps p.tables e below (T13.setTop (mkF m 82 #[.val (.int x0), .unset] [(.int (880 : Int32)), (.int (12 : Int32)), (.ref b1), (.ref b1)])) _
    refine st14 _ ?_
    show Steps p.tables e below (T14.setTop (mkF m 83 #[.val (.int x0), .unset] [(.ref b1)])) _
    refine XS.dup X14.here hx rfl (hb hby d1_83) rfl rfl ?_
    show Steps p.tables e below (T14.setTop (mkF m 84 #[.val (.int x0), .unset] [(.ref b1), (.ref b1)])) _
    refine XS.bipush X14.here hx rfl (hb hby d1_84) ?_
    show Steps p.tables e below (T14.setTop (mkF m 86 #[.val (.int x0), .unset] [(.int (13 : Int32)), (.ref b1), (.ref b1)])) _
    refine XS.sipush X14.here hx rfl (hb hby d1_86) ?_
    show Steps p.tables e below (T14.setTop (mkF m 89 #[.val (.int x0), .unset] [(.int (894 : Int32)), (.int (13 : Int32)), (.ref b1), (.ref b1)])) _
    refine st15 _ ?_
    show Steps p.tables e below (T15.setTop (mkF m 90 #[.val (.int x0), .unset] [(.ref b1)])) _
    refine XS.dup X15.here hx rfl (hb hby d1_90) rfl rfl ?_
    show Steps p.tables e below (T15.setTop (mkF m 91 #[.val (.int x0), .unset] [(.ref b1), (.ref b1)])) _
    refine XS.bipush X15.here hx rfl (hb hby d1_91) ?_
    show Steps p.tables e below (T15.setTop (mkF m 93 #[.val (.int x0), .unset] [(.int (14 : Int32)), (.ref b1), (.ref b1)])) _
    refine XS.sipush X15.here hx rfl (hb hby d1_93) ?_
    show Steps p.tables e below (T15.setTop (mkF m 96 #[.val (.int x0), .unset] [(.int (895 : Int32)), (.int (14 : Int32)), (.ref b1), (.ref b1)])) _
    refine st16 _ ?_
    show Steps p.tables e below (T16.setTop (mkF m 97 #[.val (.int x0), .unset] [(.ref b1)])) _
    refine XS.dup X16.here hx rfl (hb hby d1_97) rfl rfl ?_
    show Steps p.tables e below (T16.setTop (mkF m 98 #[.val (.int x0), .unset] [(.ref b1), (.ref b1)])) _
    refine XS.bipush X16.here hx rfl (hb hby d1_98) ?_
    show Steps p.tables e below (T16.setTop (mkF m 100 #[.val (.int x0), .unset] [(.int (15 : Int32)), (.ref b1), (.ref b1)])) _
    refine XS.sipush X16.here hx rfl (hb hby d1_100) ?_
    show Steps p.tables e below (T16.setTop (mkF m 103 #[.val (.int x0), .unset] [(.int (8192 : Int32)), (.int (15 : Int32)), (.ref b1), (.ref b1)])) _
    refine st17 _ ?_
    show Steps p.tables e below (T17.setTop (mkF m 104 #[.val (.int x0), .unset] [(.ref b1)])) _
    refine XS.dup X17.here hx rfl (hb hby d1_104) rfl rfl ?_
    show Steps p.tables e below (T17.setTop (mkF m 105 #[.val (.int x0), .unset] [(.ref b1), (.ref b1)])) _
    refine XS.bipush X17.here hx rfl (hb hby d1_105) ?_
    show Steps p.tables e below (T17.setTop (mkF m 107 #[.val (.int x0), .unset] [(.int (16 : Int32)), (.ref b1), (.ref b1)])) _
    refine XS.sipush X17.here hx rfl (hb hby d1_107) ?_
    show Steps p.tables e below (T17.setTop (mkF m 110 #[.val (.int x0), .unset] [(.int (8204 : Int32)), (.int (16 : Int32)), (.ref b1), (.ref b1)])) _
    refine st18 _ ?_
    show Steps p.tables e below (T18.setTop (mkF m 111 #[.val (.int x0), .unset] [(.ref b1)])) _
    refine XS.dup X18.here hx rfl (hb hby d1_111) rfl rfl ?_
    show Steps p.tables e below (T18.setTop (mkF m 112 #[.val (.int x0), .unset] [(.ref b1), (.ref b1)])) _
    refine XS.bipush X18.here hx rfl (hb hby d1_112) ?_
    show Steps p.tables e below (T18.setTop (mkF m 114 #[.val (.int x0), .unset] [(.int (17 : Int32)), (.ref b1), (.ref b1)])) _
    refine XS.sipush X18.here hx rfl (hb hby d1_114) ?_
    show Steps p.tables e below (T18.setTop (mkF m 117 #[.val (.int x0), .unset] [(.int (8206 : Int32)), (.int (17 : Int32)), (.ref b1), (.ref b1)])) _
    refine st19 _ ?_
    show Steps p.tables e below (T19.setTop (mkF m 118 #[.val (.int x0), .unset] [(.ref b1)])) _
    refine XS.dup X19.here hx rfl (hb hby d1_118) rfl rfl ?_
    show Steps p.tables e below (T19.setTop (mkF m 119 #[.val (.int x0), .unset] [(.ref b1), (.ref b1)])) _
    refine XS.bipush X19.here hx rfl (hb hby d1_119) ?_
    show Steps p.tables e below (T19.setTop (mkF m 121 #[.val (.int x0), .unset] [(.int (18 : Int32)), (.ref b1), (.ref b1)])) _
    refine XS.sipush X19.here hx rfl (hb hby d1_121) ?_
    show Steps p.tables e below (T19.setTop (mkF m 124 #[.val (.int x0), .unset] [(.int (8304 : Int32)), (.int (18 : Int32)), (.ref b1), (.ref b1)])) _
    refine st20 _ ?_
    show Steps p.tables e below (T20.setTop (mkF m 125 #[.val (.int x0), .unset] [(.ref b1)])) _
    refine XS.dup X20.here hx rfl (hb hby d1_125) rfl rfl ?_
    show Steps p.tables e below (T20.setTop (mkF m 126 #[.val (.int x0), .unset] [(.ref b1), (.ref b1)])) _
    refine XS.bipush X20.here hx rfl (hb hby d1_126) ?_
    show Steps p.tables e below (T20.setTop (mkF m 128 #[.val (.int x0), .unset] [(.int (19 : Int32)), (.ref b1), (.ref b1)])) _
    refine XS.sipush X20.here hx rfl (hb hby d1_128) ?_
    show Steps p.tables e below (T20.setTop (mkF m 131 #[.val (.int x0), .unset] [(.int (8592 : Int32)), (.int (19 : Int32)), (.ref b1), (.ref b1)])) _
    refine st21 _ ?_
    show Steps p.tables e below (T21.setTop (mkF m 132 #[.val (.int x0), .unset] [(.ref b1)])) _
    refine XS.dup X21.here hx rfl (hb hby d1_132) rfl rfl ?_
    show Steps p.tables e below (T21.setTop (mkF m 133 #[.val (.int x0), .unset] [(.ref b1), (.ref b1)])) _
    refine XS.bipush X21.here hx rfl (hb hby d1_133) ?_
    show Steps p.tables e below (T21.setTop (mkF m 135 #[.val (.int x0), .unset] [(.int (20 : Int32)), (.ref b1), (.ref b1)])) _
    refine XS.sipush X21.here hx rfl (hb hby d1_135) ?_
    show Steps p.tables e below (T21.setTop (mkF m 138 #[.val (.int x0), .unset] [(.int (11264 : Int32)), (.int (20 : Int32)), (.ref b1), (.ref b1)])) _
    refine st22 _ ?_
    show Steps p.tables e below (T22.setTop (mkF m 139 #[.val (.int x0), .unset] [(.ref b1)])) _
    refine XS.dup X22.here hx rfl (hb hby d1_139) rfl rfl ?_
    show Steps p.tables e below (T22.setTop (mkF m 140 #[.val (.int x0), .unset] [(.ref b1), (.ref b1)])) _
    refine XS.bipush X22.here hx rfl (hb hby d1_140) ?_
    show Steps p.tables e below (T22.setTop (mkF m 142 #[.val (.int x0), .unset] [(.int (21 : Int32)), (.ref b1), (.ref b1)])) _
    refine XS.sipush X22.here hx rfl (hb hby d1_142) ?_
    show Steps p.tables e below (T22.setTop (mkF m 145 #[.val (.int x0), .unset] [(.int (12272 : Int32)), (.int (21 : Int32)), (.ref b1), (.ref b1)])) _
    refine st23 _ ?_
    show Steps p.tables e below (T23.setTop (mkF m 146 #[.val (.int x0), .unset] [(.ref b1)])) _
    refine XS.dup X23.here hx rfl (hb hby d1_146) rfl rfl ?_
    show Steps p.tables e below (T23.setTop (mkF m 147 #[.val (.int x0), .unset] [(.ref b1), (.ref b1)])) _
    refine XS.bipush X23.here hx rfl (hb hby d1_147) ?_
    show Steps p.tables e below (T23.setTop (mkF m 149 #[.val (.int x0), .unset] [(.int (22 : Int32)), (.ref b1), (.ref b1)])) _
    refine XS.sipush X23.here hx rfl (hb hby d1_149) ?_
    show Steps p.tables e below (T23.setTop (mkF m 152 #[.val (.int x0), .unset] [(.int (12289 : Int32)), (.int (22 : Int32)), (.ref b1), (.ref b1)])) _
    refine st24 _ ?_
    show Steps p.tables e below (T24.setTop (mkF m 153 #[.val (.int x0), .unset] [(.ref b1)])) _
    refine XS.dup X24.here hx rfl (hb hby d1_153) rfl rfl ?_
    show Steps p.tables e below (T24.setTop (mkF m 154 #[.val (.int x0), .unset] [(.ref b1), (.ref b1)])) _
    refine XS.bipush X24.here hx rfl (hb hby d1_154) ?_
    show Steps p.tables e below (T24.setTop (mkF m 156 #[.val (.int x0), .unset] [(.int (23 : Int32)), (.ref b1), (.ref b1)])) _
    refine X24.ldcInt hx hown (mvT hZ (hw _ (List.mem_of_getElem? (i := 6) rfl))) (g := (mkF m 156 #[.val (.int x0), .unset] [(.int (23 : Int32)), (.ref b1), (.ref b1)])) rfl (hb hby d1_156) _ ?_
    show Steps p.tables e below (T24.setTop (mkF m 158 #[.val (.int x0), .unset] [(.int (55296 : Int32)), (.int (23 : Int32)), (.ref b1), (.ref b1)])) _
    refine st25 _ ?_
    show Steps p.tables e below (T25.setTop (mkF m 159 #[.val (.int x0), .unset] [(.ref b1)])) _
    refine XS.dup X25.here hx rfl (hb hby d1_159) rfl rfl ?_
    show Steps p.tables e below (T25.setTop (mkF m 160 #[.val (.int x0), .unset] [(.ref b1), (.ref b1)])) _
    refine XS.bipush X25.here hx rfl (hb hby d1_160) ?_
    show Steps p.tables e below (T25.setTop (mkF m 162 #[.val (.int x0), .unset] [(.int (24 : Int32)), (.ref b1), (.ref b1)])) _
    refine X25.ldcInt hx hown (mvT hZ (hw _ (List.mem_of_getElem? (i := 7) rfl))) (g := (mkF m 162 #[.val (.int x0), .unset] [(.int (24 : Int32)), (.ref b1), (.ref b1)])) rfl (hb hby d1_162) _ ?_
    show Steps p.tables e below (T25.setTop (mkF m 164 #[.val (.int x0), .unset] [(.int (63744 : Int32)), (.int (24 : Int32)), (.ref b1), (.ref b1)])) _
    refine st26 _ ?_
    show Steps p.tables e below (T26.setTop (mkF m 165 #[.val (.int x0), .unset] [(.ref b1)])) _
    refine XS.dup X26.here hx rfl (hb hby d1_165) rfl rfl ?_
    show Steps p.tables e below (T26.setTop (mkF m 166 #[.val (.int x0), .unset] [(.ref b1), (.ref b1)])) _
    refine XS.bipush X26.here hx rfl (hb hby d1_166) ?_
    show Steps p.tables e below (T26.setTop (mkF m 168 #[.val (.int x0), .unset] [(.int (25 : Int32)), (.ref b1), (.ref b1)])) _
    refine X26.ldcInt hx hown (mvT hZ (hw _ (List.mem_of_getElem? (i := 8) rfl))) (g := (mkF m 168 #[.val (.int x0), .unset] [(.int (25 : Int32)), (.ref b1), (.ref b1)])) rfl (hb hby d1_168) _ ?_
    show Steps p.tables e below (T26.setTop (mkF m 170 #[.val (.int x0), .unset] [(.int (64976 : Int32)), (.int (25 : Int32)), (.ref b1), (.ref b1)])) _
    refine st27 _ ?_
    show Steps p.tables e below (T27.setTop (mkF m 171 #[.val (.int x0), .unset] [(.ref b1)])) _
    refine XS.dup X27.here hx rfl (hb hby d1_171) rfl rfl ?_
    show Steps p.tables e below (T27.setTop (mkF m 172 #[.val (.int x0), .unset] [(.ref b1), (.ref b1)])) _
    refine XS.bipush X27.here hx rfl (hb hby d1_172) ?_
    show Steps p.tables e below (T27.setTop (mkF m 174 #[.val (.int x0), .unset] [(.int (26 : Int32)), (.ref b1), (.ref b1)])) _
    refine X27.ldcInt hx hown (mvT hZ (hw _ (List.mem_of_getElem? (i := 9) rfl))) (g := (mkF m 174 #[.val (.int x0), .unset] [(.int (26 : Int32)), (.ref b1), (.ref b1)])) rfl (hb hby d1_174) _ ?_
    show Steps p.tables e below (T27.setTop (mkF m 176 #[.val (.int x0), .unset] [(.int (65008 : Int32)), (.int (26 : Int32)), (.ref b1), (.ref b1)])) _
    refine st28 _ ?_
    show Steps p.tables e below (T28.setTop (mkF m 177 #[.val (.int x0), .unset] [(.ref b1)])) _
    refine XS.dup X28.here hx rfl (hb hby d1_177) rfl rfl ?_
    show Steps p.tables e below (T28.setTop (mkF m 178 #[.val (.int x0), .unset] [(.ref b1), (.ref b1)])) _
    refine XS.bipush X28.here hx rfl (hb hby d1_178) ?_
    show Steps p.tables e below (T28.setTop (mkF m 180 #[.val (.int x0), .unset] [(.int (27 : Int32)), (.ref b1), (.ref b1)])) _
    refine X28.ldcInt hx hown (mvT hZ (hw _ (List.mem_of_getElem? (i := 10) rfl))) (g := (mkF m 180 #[.val (.int x0), .unset] [(.int (27 : Int32)), (.ref b1), (.ref b1)])) rfl (hb hby d1_180) _ ?_
    show Steps p.tables e below (T28.setTop (mkF m 182 #[.val (.int x0), .unset] [(.int (65534 : Int32)), (.int (27 : Int32)), (.ref b1), (.ref b1)])) _
    refine st29 _ ?_
    show Steps p.tables e below (T29.setTop (mkF m 183 #[.val (.int x0), .unset] [(.ref b1)])) _
    refine XS.dup X29.here hx rfl (hb hby d1_183) rfl rfl ?_
    show Steps p.tables e below (T29.setTop (mkF m 184 #[.val (.int x0), .unset] [(.ref b1), (.ref b1)])) _
    refine XS.bipush X29.here hx rfl (hb hby d1_184) ?_
    show Steps p.tables e below (T29.setTop (mkF m 186 #[.val (.int x0), .unset] [(.int (28 : Int32)), (.ref b1), (.ref b1)])) _
    refine X29.ldcInt hx hown (mvT hZ (hw _ (List.mem_of_getElem? (i := 11) rfl))) (g := (mkF m 186 #[.val (.int x0), .unset] [(.int (28 : Int32)), (.ref b1), (.ref b1)])) rfl (hb hby d1_186) _ ?_
    show Steps p.tables e below (T29.setTop (mkF m 188 #[.val (.int x0), .unset] [(.int (65536 : Int32)), (.int (28 : Int32)), (.ref b1), (.ref b1)])) _
    refine st30 _ ?_
    show Steps p.tables e below (T30.setTop (mkF m 189 #[.val (.int x0), .unset] [(.ref b1)])) _
    refine XS.dup X30.here hx rfl (hb hby d1_189) rfl rfl ?_
    show Steps p.tables e below (T30.setTop (mkF m 190 #[.val (.int x0), .unset] [(.ref b1), (.ref b1)])) _
    refine XS.bipush X30.here hx rfl (hb hby d1_190) ?_
    show Steps p.tables e below (T30.setTop (mkF m 192 #[.val (.int x0), .unset] [(.int (29 : Int32)), (.ref b1), (.ref b1)])) _
    refine X30.ldcInt hx hown (mvT hZ (hw _ (List.mem_of_getElem? (i := 12) rfl))) (g := (mkF m 192 #[.val (.int x0), .unset] [(.int (29 : Int32)), (.ref b1), (.ref b1)])) rfl (hb hby d1_192) _ ?_
    show Steps p.tables e below (T30.setTop (mkF m 194 #[.val (.int x0), .unset] [(.int (983040 : Int32)), (.int (29 : Int32)), (.ref b1), (.ref b1)])) _
    refine st31 _ ?_
    show Steps p.tables e below (T31.setTop (mkF m 195 #[.val (.int x0), .unset] [(.ref b1)])) _
    refine XS.astoreN X31.here hx rfl (hb hby d1_195) rfl rfl (l' := #[.val (.int x0), .val (.ref b1)]) rfl ?_
    show Steps p.tables e below (T31.setTop (mkF m 196 #[.val (.int x0), .val (.ref b1)] [])) _
    refine XS.aloadN X31.here hx rfl (hb hby d1_196) rfl rfl ?_
    show Steps p.tables e below (T31.setTop (mkF m 197 #[.val (.int x0), .val (.ref b1)] [(.ref b1)])) _
    refine XS.iloadN X31.here hx rfl (hb hby d1_197) rfl ?_
    show Steps p.tables e below (T31.setTop (mkF m 198 #[.val (.int x0), .val (.ref b1)] [(.int x0), (.ref b1)])) _
    refine X31.iaload hx (j := x0) (v := (.int w)) (by rw [e31]; exact Ar.1) (State.isArrayOf_alike hZ.alike Ar.2.1) Ar.2.2 hin hat (g := (mkF m 198 #[.val (.int x0), .val (.ref b1)] [(.int x0), (.ref b1)])) rfl rfl (hb hby d1_198) _ ?_
    show Steps p.tables e below (T31.setTop (mkF m 199 #[.val (.int x0), .val (.ref b1)] [(.int w)])) _
    exact retI X31 hx Bd.returns (hb hby d1_199) hr
  · show Q1 h0 n0 _ T31.heap _
    rw [e31]
    exact ⟨⟨w, rfl⟩, N31, Z31⟩
theorem own_idx (i1 : Int32) : ¬ ((i1 &&& (2147483647 : Int32)) - (((i1 &&& (2147483647 : Int32)) / (30 : Int32)) * (30 : Int32))) < 0 ∧ ((i1 &&& (2147483647 : Int32)) - (((i1 &&& (2147483647 : Int32)) / (30 : Int32)) * (30 : Int32))) < (30 : Int32) := by
  have h1 := c_mask i1 (2147483647 : Int32) 31 (by decide) (by decide)
  generalize (i1 &&& (2147483647 : Int32)) = z at *
  have h2 : z.toInt = i1.toInt % 2147483648 := h1
  have hd := (c_idiv z (30 : Int32) 30 (by decide) (by decide)).1 (by omega)
  have hm := c_imul (z / (30 : Int32)) (30 : Int32)
  rw [show (30 : Int32).toInt = 30 from by decide] at hm
  have hs := c_isub z ((z / (30 : Int32)) * (30 : Int32))
  have r1 := rng32 ((z / (30 : Int32)) * (30 : Int32))
  have r2 := rng32 (z - (z / (30 : Int32)) * (30 : Int32))
  have r3 := rng32 z
  rw [Int32.lt_iff_toInt_lt, Int32.lt_iff_toInt_lt, show (30 : Int32).toInt = 30 from by decide, show (0 : Int32).toInt = 0 from by decide]
  omega
def Q0 (h0 : Heap) (n0 : Nat) (v : Option Value) (h : Heap) (L : List Loc) : Prop := v = some (.int 1) ∧ Fr n0 L
set_option maxRecDepth 65536 in
set_option maxHeartbeats 40000000 in
theorem rm0 (l : Launch) (Z : State) (a0 : Array Value) (hw : ∀ d ∈ tables_1, d.before a0 Z = true) (ws : List Jvm.Cond) (i0 i1 i2 : Int32) (h0 : Heap) (n0 : Nat) (Z0 : n0 ≤ h0.size)  :
    MetFree l x (head1 (Jvm.Cond.code x code maxLocals ret :: ws) room_1) (fun as_ U => as_ = #[(.int i0), (.int i1), (.int i2)] ∧ Z.Warmed39 U.vm ∧ U.heap = h0) (fun _ _ _ _ _ => True) (fun _ U o U' => ∃ v L, o = .returned v ∧ Q0 h0 n0 v U'.heap L ∧ FrameEnd U o U' L 1 30) := by
  refine MetFree.of_bodySF (plainFor_of_name pn_0) hisR ?_
  intro p e s m args below meth c s₁ Bd hml0 hP hK
  obtain ⟨rfl, hZ, hh⟩ := hP
  have hx := Bd.exec
  have hby := Bd.bytes
  have hml : c.maxLocals = 4 := hml0
  have hown : s.vm.findClass "com/example/xylem/xylem/model/QNameIsNameStartCharPinLaw" = some m.cls := findClass_of_methodNamed Bd.named
  have hnm := (name_of_methodNamed Bd.named Bd.method).1
  have X0 : Stand p l e room_1 s m #[(.int i0), (.int i1), (.int i2)] below meth c s₁ [] 0 0 := Stand.of_body Bd
  have e0 : s₁.heap = h0 := by rw [← hh, Bd.state]; rfl
  have N0 := Fr.nil n0
  have pre0 : ∀ t, Steps p.tables e below (s₁.setTop (mkF m 0 #[.val (.int i0), .val (.int i1), .val (.int i2), .unset] [])) t → Steps p.tables e below (s₁.setTop (entryFrame m #[(.int i0), (.int i1), (.int i2)] maxLocals)) t := fun t k => castTop (ef_0 m i0 i1 i2) k
  obtain ⟨_, _, ⟨T1, L1, k1, n1⟩, -, X1, ⟨Lc1, hQ1, l1, y1, z1⟩, st1⟩ := Jvm.LawKit.callS X0 hx (y := (⟨"com/example/xylem/xylem/model/QNameIsNameStartCharPinLaw", "edge", "(I)I"⟩ : MethodName)) hown (mvT hZ (hw _ (List.mem_of_getElem? (i := 1) rfl))) (mvT hZ (hw _ (List.mem_of_getElem? (i := 2) rfl))) (mvT hZ (hw _ (List.mem_of_getElem? (i := 3) rfl))) (mvT hZ (hw _ (List.mem_of_getElem? (i := 4) rfl))) (by decide) (backOf (W := 0) (rm1 l Z a0 hw [] ((i1 &&& (2147483647 : Int32)) - (((i1 &&& (2147483647 : Int32)) / (30 : Int32)) * (30 : Int32))) h0 n0 Z0 (own_idx i1)) hZ (hw _ (List.mem_of_getElem? (i := 4) rfl)) (hw _ (List.mem_of_getElem? (i := 3) rfl)) (by decide) (by decide)) (g := (mkF m 7 #[.val (.int i0), .val (.int i1), .val (.int i2), .unset] [(.int ((i1 &&& (2147483647 : Int32)) - (((i1 &&& (2147483647 : Int32)) / (30 : Int32)) * (30 : Int32))))])) rfl (by rw [hml]; rfl) (argsL := [(.int ((i1 &&& (2147483647 : Int32)) - (((i1 &&& (2147483647 : Int32)) / (30 : Int32)) * (30 : Int32))))]) (rest := []) (lenOf pd_1 rfl) rfl (by show 2 * 0 + _ ≤ _; exact Nat.le_of_eq rfl) (hb hby at_7) (fun _ _ => ⟨rfl, e0, (by decide : 0 + 1 ≤ _), (by decide : 0 + 30 ≤ _)⟩)
  dsimp only [Pt.U, Pt.locs, Pt.cells, Pt.slots] at X1 l1 y1 z1 st1 hQ1
  subst l1 y1 z1
  obtain ⟨⟨w, rfl⟩, N1q, Z1⟩ := hQ1
  have hE0 := (own_same i0).symm
  have hE1 := (own_same (w + ((i2 &&& (3 : Int32)) - (2 : Int32)))).symm
  have N1 := Fr.app N0 N1q
  obtain ⟨_, _, ⟨T2, L2, k2, n2⟩, -, X2, ⟨Lc2, hQ2, l2, y2, z2⟩, st2⟩ := Jvm.LawKit.callS X1 hx (y := (⟨"com/example/xylem/xylem/model/QName", "isNameStartChar", "(I)Z"⟩ : MethodName)) hown (mvT hZ (hw _ (List.mem_of_getElem? (i := 13) rfl))) (mvT hZ (hw _ (List.mem_of_getElem? (i := 14) rfl))) (mvT hZ (hw _ (List.mem_of_getElem? (i := 15) rfl))) (mvT hZ (hw _ (List.mem_of_getElem? (i := 16) rfl))) (by decide) (backOf (W := 0) (rm2 l Z a0 hw [] i0 T1.heap n0 Z1) hZ (hw _ (List.mem_of_getElem? (i := 16) rfl)) (hw _ (List.mem_of_getElem? (i := 15) rfl)) (by decide) (by decide)) (g := (mkF m 18 #[.val (.int i0), .val (.int i1), .val (.int i2), .val (.int (w + ((i2 &&& (3 : Int32)) - (2 : Int32))))] [(.int i0)])) rfl (by rw [hml]; rfl) (argsL := [(.int i0)]) (rest := []) (lenOf pd_2 rfl) rfl (by show 2 * 0 + _ ≤ _; exact Nat.le_of_eq rfl) (hb hby at_18) (fun _ _ => ⟨rfl, rfl, (by decide : 1 + 0 ≤ _), (by decide : 30 + 0 ≤ _)⟩)
  dsimp only [Pt.U, Pt.locs, Pt.cells, Pt.slots] at X2 l2 y2 z2 st2 hQ2
  subst l2 y2 z2
  obtain ⟨rfl, N2q, eh2⟩ := hQ2
  have Z2 : n0 ≤ T2.heap.size := by rw [eh2]; exact Z1
  have N2 := Fr.app N1 N2q
  obtain ⟨_, _, ⟨T3, L3, k3, n3⟩, -, X3, ⟨Lc3, hQ3, l3, y3, z3⟩, st3⟩ := Jvm.LawKit.callS X2 hx (y := (⟨"com/example/xylem/xylem/model/QNameIsNameStartCharPinLaw", "spec", "(I)Z"⟩ : MethodName)) hown (mvT hZ (hw _ (List.mem_of_getElem? (i := 20) rfl))) (mvT hZ (hw _ (List.mem_of_getElem? (i := 21) rfl))) (mvT hZ (hw _ (List.mem_of_getElem? (i := 3) rfl))) (mvT hZ (hw _ (List.mem_of_getElem? (i := 22) rfl))) (by decide) (backOf (W := 1) (rm3 l Z a0 hw [] i0 T2.heap n0 Z2) hZ (hw _ (List.mem_of_getElem? (i := 22) rfl)) (hw _ (List.mem_of_getElem? (i := 3) rfl)) (by decide) (by decide)) (g := (mkF m 22 #[.val (.int i0), .val (.int i1), .val (.int i2), .val (.int (w + ((i2 &&& (3 : Int32)) - (2 : Int32))))] [(.int i0), (.int (own_ns i0))])) rfl (by rw [hml]; rfl) (argsL := [(.int i0)]) (rest := [(.int (own_ns i0))]) (lenOf pd_3 rfl) rfl (by show 2 * 0 + _ ≤ _; exact Nat.le_of_eq rfl) (hb hby at_22) (fun _ _ => ⟨rfl, rfl, (by decide : 1 + 0 ≤ _), (by decide : 30 + 0 ≤ _)⟩)
  dsimp only [Pt.U, Pt.locs, Pt.cells, Pt.slots] at X3 l3 y3 z3 st3 hQ3
  subst l3 y3 z3
  obtain ⟨rfl, N3q, eh3⟩ := hQ3
  have Z3 : n0 ≤ T3.heap.size := by rw [eh3]; exact Z2
  have N3 := Fr.app N2 N3q
  obtain ⟨_, _, ⟨T4, L4, k4, n4⟩, -, X4, ⟨Lc4, hQ4, l4, y4, z4⟩, st4⟩ := Jvm.LawKit.callS X3 hx (y := (⟨"com/example/xylem/xylem/model/QName", "isNameStartChar", "(I)Z"⟩ : MethodName)) hown (mvT hZ (hw _ (List.mem_of_getElem? (i := 13) rfl))) (mvT hZ (hw _ (List.mem_of_getElem? (i := 14) rfl))) (mvT hZ (hw _ (List.mem_of_getElem? (i := 15) rfl))) (mvT hZ (hw _ (List.mem_of_getElem? (i := 16) rfl))) (by decide) (backOf (W := 0) (rm2 l Z a0 hw [] (w + ((i2 &&& (3 : Int32)) - (2 : Int32))) T3.heap n0 Z3) hZ (hw _ (List.mem_of_getElem? (i := 16) rfl)) (hw _ (List.mem_of_getElem? (i := 15) rfl)) (by decide) (by decide)) (g := (mkF m 29 #[.val (.int i0), .val (.int i1), .val (.int i2), .val (.int (w + ((i2 &&& (3 : Int32)) - (2 : Int32))))] [(.int (w + ((i2 &&& (3 : Int32)) - (2 : Int32))))])) rfl (by rw [hml]; rfl) (argsL := [(.int (w + ((i2 &&& (3 : Int32)) - (2 : Int32))))]) (rest := []) (lenOf pd_2 rfl) rfl (by show 2 * 0 + _ ≤ _; exact Nat.le_of_eq rfl) (hb hby at_29) (fun _ _ => ⟨rfl, rfl, (by decide : 1 + 0 ≤ _), (by decide : 30 + 0 ≤ _)⟩)
  dsimp only [Pt.U, Pt.locs, Pt.cells, Pt.slots] at X4 l4 y4 z4 st4 hQ4
  subst l4 y4 z4
  obtain ⟨rfl, N4q, eh4⟩ := hQ4
  have Z4 : n0 ≤ T4.heap.size := by rw [eh4]; exact Z3
  have N4 := Fr.app N3 N4q
  obtain ⟨_, _, ⟨T5, L5, k5, n5⟩, -, X5, ⟨Lc5, hQ5, l5, y5, z5⟩, st5⟩ := Jvm.LawKit.callS X4 hx (y := (⟨"com/example/xylem/xylem/model/QNameIsNameStartCharPinLaw", "spec", "(I)Z"⟩ : MethodName)) hown (mvT hZ (hw _ (List.mem_of_getElem? (i := 20) rfl))) (mvT hZ (hw _ (List.mem_of_getElem? (i := 21) rfl))) (mvT hZ (hw _ (List.mem_of_getElem? (i := 3) rfl))) (mvT hZ (hw _ (List.mem_of_getElem? (i := 22) rfl))) (by decide) (backOf (W := 1) (rm3 l Z a0 hw [] (w + ((i2 &&& (3 : Int32)) - (2 : Int32))) T4.heap n0 Z4) hZ (hw _ (List.mem_of_getElem? (i := 22) rfl)) (hw _ (List.mem_of_getElem? (i := 3) rfl)) (by decide) (by decide)) (g := (mkF m 33 #[.val (.int i0), .val (.int i1), .val (.int i2), .val (.int (w + ((i2 &&& (3 : Int32)) - (2 : Int32))))] [(.int (w + ((i2 &&& (3 : Int32)) - (2 : Int32)))), (.int (own_ns (w + ((i2 &&& (3 : Int32)) - (2 : Int32)))))])) rfl (by rw [hml]; rfl) (argsL := [(.int (w + ((i2 &&& (3 : Int32)) - (2 : Int32))))]) (rest := [(.int (own_ns (w + ((i2 &&& (3 : Int32)) - (2 : Int32)))))]) (lenOf pd_3 rfl) rfl (by show 2 * 0 + _ ≤ _; exact Nat.le_of_eq rfl) (hb hby at_33) (fun _ _ => ⟨rfl, rfl, (by decide : 1 + 0 ≤ _), (by decide : 30 + 0 ≤ _)⟩)
  dsimp only [Pt.U, Pt.locs, Pt.cells, Pt.slots] at X5 l5 y5 z5 st5 hQ5
  subst l5 y5 z5
  obtain ⟨rfl, N5q, eh5⟩ := hQ5
  have Z5 : n0 ≤ T5.heap.size := by rw [eh5]; exact Z4
  have N5 := Fr.app N4 N5q
  obtain ⟨fs, hr, hrun, hended, hW, hsame⟩ := X5.leave (v := some (.int (1 : Int32))) (fun h => by rw [Bd.returns] at h; cases h)
  refine ⟨_, _, pre0 _ ?_, hrun, hended, _, _, rfl, ?_, ⟨_, rfl⟩, hW, hsame.mono (by decide) (by decide)⟩
  · show Steps p.tables e below (s₁.setTop (mkF m 0 #[.val (.int i0), .val (.int i1), .val (.int i2), .unset] [])) _
    refine XS.iloadN X0.here hx rfl (hb hby at_0) rfl ?_
    show Steps p.tables e below (s₁.setTop (mkF m 1 #[.val (.int i0), .val (.int i1), .val (.int i2), .unset] [(.int i1)])) _
    refine X0.ldcInt hx hown (mvT hZ (hw _ (List.mem_of_getElem? (i := 0) rfl))) (g := (mkF m 1 #[.val (.int i0), .val (.int i1), .val (.int i2), .unset] [(.int i1)])) rfl (hb hby at_1) _ ?_
    show Steps p.tables e below (s₁.setTop (mkF m 3 #[.val (.int i0), .val (.int i1), .val (.int i2), .unset] [(.int (2147483647 : Int32)), (.int i1)])) _
    refine XS.iand X0.here hx rfl (hb hby at_3) rfl ?_
    show Steps p.tables e below (s₁.setTop (mkF m 4 #[.val (.int i0), .val (.int i1), .val (.int i2), .unset] [(.int (i1 &&& (2147483647 : Int32)))])) _
    refine XS.bipush X0.here hx rfl (hb hby at_4) ?_
    show Steps p.tables e below (s₁.setTop (mkF m 6 #[.val (.int i0), .val (.int i1), .val (.int i2), .unset] [(.int (30 : Int32)), (.int (i1 &&& (2147483647 : Int32)))])) _
    refine XS.irem X0.here hx rfl (hb hby at_6) rfl (by decide) ?_
    refine st1 _ ?_
    show Steps p.tables e below (T1.setTop (mkF m 10 #[.val (.int i0), .val (.int i1), .val (.int i2), .unset] [(.int w)])) _
    refine XS.iloadN X1.here hx rfl (hb hby at_10) rfl ?_
    show Steps p.tables e below (T1.setTop (mkF m 11 #[.val (.int i0), .val (.int i1), .val (.int i2), .unset] [(.int i2), (.int w)])) _
    refine XS.iconst X1.here hx rfl (hb hby at_11) ?_
    show Steps p.tables e below (T1.setTop (mkF m 12 #[.val (.int i0), .val (.int i1), .val (.int i2), .unset] [(.int (3 : Int32)), (.int i2), (.int w)])) _
    refine XS.iand X1.here hx rfl (hb hby at_12) rfl ?_
    show Steps p.tables e below (T1.setTop (mkF m 13 #[.val (.int i0), .val (.int i1), .val (.int i2), .unset] [(.int (i2 &&& (3 : Int32))), (.int w)])) _
    refine XS.iconst X1.here hx rfl (hb hby at_13) ?_
    show Steps p.tables e below (T1.setTop (mkF m 14 #[.val (.int i0), .val (.int i1), .val (.int i2), .unset] [(.int (2 : Int32)), (.int (i2 &&& (3 : Int32))), (.int w)])) _
    refine XS.isub X1.here hx rfl (hb hby at_14) rfl ?_
    show Steps p.tables e below (T1.setTop (mkF m 15 #[.val (.int i0), .val (.int i1), .val (.int i2), .unset] [(.int ((i2 &&& (3 : Int32)) - (2 : Int32))), (.int w)])) _
    refine XS.iadd X1.here hx rfl (hb hby at_15) rfl ?_
    show Steps p.tables e below (T1.setTop (mkF m 16 #[.val (.int i0), .val (.int i1), .val (.int i2), .unset] [(.int (w + ((i2 &&& (3 : Int32)) - (2 : Int32))))])) _
    refine XS.istoreN X1.here hx rfl (hb hby at_16) rfl (l' := #[.val (.int i0), .val (.int i1), .val (.int i2), .val (.int (w + ((i2 &&& (3 : Int32)) - (2 : Int32))))]) rfl ?_
    show Steps p.tables e below (T1.setTop (mkF m 17 #[.val (.int i0), .val (.int i1), .val (.int i2), .val (.int (w + ((i2 &&& (3 : Int32)) - (2 : Int32))))] [])) _
    refine XS.iloadN X1.here hx rfl (hb hby at_17) rfl ?_
    refine st2 _ ?_
    show Steps p.tables e below (T2.setTop (mkF m 21 #[.val (.int i0), .val (.int i1), .val (.int i2), .val (.int (w + ((i2 &&& (3 : Int32)) - (2 : Int32))))] [(.int (own_ns i0))])) _
    refine XS.iloadN X2.here hx rfl (hb hby at_21) rfl ?_
    refine st3 _ ?_
    show Steps p.tables e below (T3.setTop (mkF m 25 #[.val (.int i0), .val (.int i1), .val (.int i2), .val (.int (w + ((i2 &&& (3 : Int32)) - (2 : Int32))))] [(.int (own_sp i0)), (.int (own_ns i0))])) _
    refine XS.icmpNo X3.here hx rfl (hb hby at_25) rfl (teq hE0).2 ?_
    show Steps p.tables e below (T3.setTop (mkF m 28 #[.val (.int i0), .val (.int i1), .val (.int i2), .val (.int (w + ((i2 &&& (3 : Int32)) - (2 : Int32))))] [])) _
    refine XS.iloadN X3.here hx rfl (hb hby at_28) rfl ?_
    refine st4 _ ?_
    show Steps p.tables e below (T4.setTop (mkF m 32 #[.val (.int i0), .val (.int i1), .val (.int i2), .val (.int (w + ((i2 &&& (3 : Int32)) - (2 : Int32))))] [(.int (own_ns (w + ((i2 &&& (3 : Int32)) - (2 : Int32)))))])) _
    refine XS.iloadN X4.here hx rfl (hb hby at_32) rfl ?_
    refine st5 _ ?_
    show Steps p.tables e below (T5.setTop (mkF m 36 #[.val (.int i0), .val (.int i1), .val (.int i2), .val (.int (w + ((i2 &&& (3 : Int32)) - (2 : Int32))))] [(.int (own_sp (w + ((i2 &&& (3 : Int32)) - (2 : Int32))))), (.int (own_ns (w + ((i2 &&& (3 : Int32)) - (2 : Int32)))))])) _
    refine XS.icmpNo X5.here hx rfl (hb hby at_36) rfl (teq hE1).2 ?_
    show Steps p.tables e below (T5.setTop (mkF m 39 #[.val (.int i0), .val (.int i1), .val (.int i2), .val (.int (w + ((i2 &&& (3 : Int32)) - (2 : Int32))))] [])) _
    refine XS.iconst X5.here hx rfl (hb hby at_39) ?_
    show Steps p.tables e below (T5.setTop (mkF m 40 #[.val (.int i0), .val (.int i1), .val (.int i2), .val (.int (w + ((i2 &&& (3 : Int32)) - (2 : Int32))))] [(.int (1 : Int32))])) _
    refine XS.goto X5.here hx rfl (pc0 := 40) (pc' := 44) rfl (hb hby at_40) (by decide) (by decide) ?_
    show Steps p.tables e below (T5.setTop (mkF m 44 #[.val (.int i0), .val (.int i1), .val (.int i2), .val (.int (w + ((i2 &&& (3 : Int32)) - (2 : Int32))))] [(.int (1 : Int32))])) _
    exact retN X5 hx (t := .boolean) Bd.returns (by simp) (hb hby at_44) hr
  · show Q0 h0 n0 _ T5.heap _
    exact ⟨rfl, N5⟩
set_option maxRecDepth 65536 in
set_option maxHeartbeats 40000000 in
theorem comes_1 {Post : Tables → Env → Array Value → State → Outcome → State → Prop} (hpost : ∀ tb e args s v u, (limb_1_1.after args s (.returned v) u = true ∧ limb_1_2.after args s (.returned v) u = true ∧ True) → FrameEnd s (.returned v) u (Jvm.fieldLocs frame_1_writes args s ++ Jvm.arrayLocs frame_1_arrays args s ++ Jvm.staticLocs frame_1_statics s) 16 128 → Post tb e args s (.returned v) u) :
    ArmFor flags0 classFile x code maxLocals ret World_1 tables_1 room_1 Calls_1 rest_1 Pre_1 Post := by
  intro l hfl _ _ p e ha hc hk s m args below hf hA hF happ hP
  obtain ⟨hcalls, hrest, hpre⟩ := hP
  obtain ⟨-, -, -, hnamed, -, -, -, hat⟩ := (Spec.applies_iff hf).mp happ
  obtain ⟨hg, hn⟩ := and_e (Cond.before_iff.mp (show (Jvm.Cond.and given_1 narrow_1).before args s = true from hpre))
  obtain ⟨hv0, hu0⟩ := and_e hg
  obtain ⟨hv1, hu1⟩ := and_e hu0
  obtain ⟨hv2, hu2⟩ := and_e hu1
  obtain ⟨w0, w1, w2, rfl⟩ : ∃ w0 w1 w2 : Value, args = #[w0, w1, w2] := by
    have hs : args.size = 3 := by simpa [Cond.value, given_1] using hv0
    obtain ⟨L⟩ := args
    match L, hs with
    | [w0, w1, w2], _ => exact ⟨w0, w1, w2, rfl⟩
  have hw := fun d (hd : d ∈ tables_1) => atoms_spec (ws := Jvm.Cond.code x code maxLocals ret :: tables_1) hat d (List.mem_cons_of_mem _ hd)
  obtain ⟨i0, ei0⟩ := is_v hv1
  obtain rfl : w0 = (.int i0) := Option.some.inj ei0
  obtain ⟨i1, ei1⟩ := is_v hv2
  obtain rfl : w1 = (.int i1) := Option.some.inj ei1
  obtain ⟨i2, ei2⟩ := is_v hu2
  obtain rfl : w2 = (.int i2) := Option.some.inj ei2
  obtain ⟨n, o, h1, h2, h3, _, L, rfl, ⟨rfl, N⟩, hq⟩ := rm0 l s _ hw tables_1 i0 i1 i2 s.heap s.heap.size (Nat.le_refl _)  p e ha hc hk s m _ below hf ((Spec.applies_iff_loose hf).mp happ).1 ⟨rfl, State.Warmed39.refl s, rfl⟩ trivial
  refine ⟨n, _, h1, h2, h3, hpost _ _ _ _ _ _ ⟨Cond.after_iff.mpr rfl, Cond.after_iff.mpr (eq_i res_at (Term.int_eval (1)) rfl), trivial⟩ ⟨hq.1, hq.2.1, (hq.2.2.sift fun y hy => Or.inr (N y hy)).mono (by decide) (by decide)⟩⟩
theorem main_1_1 : Claimed_1_1 := comes_1 fun _ _ _ _ _ _ h hF => ⟨h.1, hF⟩
theorem main_1_2 : Claimed_1_2 := comes_1 fun _ _ _ _ _ _ h hF => ⟨h.2.1, hF⟩
end Jvm.Pilot.@@N@@
namespace Jvm.Pilot.@@N@@
open Jvm Jvm.ClassFile Sem Op Lib Jvm.Free Jvm.Stand Jvm.Pilot.@@N@@.Jvm.D
/-! MADE BY PROGRAM (witnessworld.py) out of the Statement's table words and the real class files: 10 classes; the members and pool entries that the words name. The judged class is class 1, her method 3. -/
namespace start1
open Jvm.ClassFile
def u (s : String) : CpInfo := .utf8 (stringToUtf16 s)
/-- a pool by its gaps: so many unusable entries, then the entry; so many at the end -/
def gap : Nat → List CpInfo → List CpInfo
  | 0, r => r
  | n + 1, r => .unusable :: gap n r
def poolList (es : List (Nat × CpInfo)) (last : Nat) : List CpInfo := es.foldr (fun e r => gap e.1 (e.2 :: r)) (gap last [])
def pool (es : List (Nat × CpInfo)) (last : Nat) : Array CpInfo := ⟨poolList es last⟩
def fileOf (pool : Array CpInfo) (this : Nat) (attrs : Array Attribute := #[]) (ms : Array MethodInfo := #[]) (fl : Nat := 33) (sup : Nat := 0) (ifs : Array Nat := #[]) (fds : Array FieldInfo := #[]) : ClassFile where
  minorVersion := 0
  majorVersion := 65
  constantPool := pool
  accessFlags := fl
  thisClass := this
  superClass := sup
  interfaces := ifs
  fields := fds
  methods := ms
  attributes := attrs
def plain (name : String) (sup : Option ClassId) : Class where
  name := name
  kind := .ordinary
  loader := none
  accessFlags := 33
  super := sup
  interfaces := #[]
  cf := none
  fields := #[]
  methods := #[]
  instanceTypes := #[]
  staticTypes := #[]
  resolved := #[]
  callSites := []
  init := .initialized
  statics := none
  mirror := none

def pool0 : Array CpInfo := pool [(5, u "<init>"), (0, u "()V"), (1, .class_ 10), (1, u "java/lang/Object")] 113

def k0m0 : Method := { name := "<init>", desc := "()V", sig := { parameters := [], returnType := none }, accessFlags := 1, code := none }
/-- java/lang/Object -/
def k0 : Class := { plain "java/lang/Object" none with
  accessFlags := 33
  interfaces := #[]
  cf := some (fileOf pool0 8 #[] #[{ accessFlags := 1, nameIndex := 5, descriptorIndex := 6, attributes := #[] }] 33 0 #[] #[])
  fields := #[]
  methods := #[k0m0]
  instanceTypes := #[]
  staticTypes := #[]
  resolved := Array.replicate 124 none
  statics := none }

def pool1 : Array CpInfo := pool [(2, .class_ 4), (1, u "java/lang/Object"), (0, u "<init>"), (0, u "()V"), (0, .integer 55296), (0, .integer 63744), (0, .integer 64976), (0, .integer 65008), (0, .integer 65534), (0, .integer 65536), (0, .integer 983040), (0, .integer 2147483647), (0, .methodref 16 17), (0, .class_ 18), (0, .nameAndType 19 20), (0, u "com/example/xylem/xylem/model/QNameIsNameStartCharPinLaw"), (0, u "edge"), (0, u "(I)I"), (0, .methodref 22 23), (0, .class_ 24), (0, .nameAndType 25 26), (0, u "com/example/xylem/xylem/model/QName"), (0, u "isNameStartChar"), (0, u "(I)Z"), (0, .methodref 16 28), (0, .nameAndType 29 26), (0, u "spec"), (3, u "law"), (0, u "(III)Z")] 2

def k1m0 : Method := { name := "<init>", desc := "()V", sig := { parameters := [], returnType := none }, accessFlags := 1, code := none }
def k1c1 : Code := { maxStack := 4, maxLocals := 2, code := method_2_code, exceptionTable := #[], attributes := #[] }
def k1m1 : Method := { name := "edge", desc := "(I)I", sig := { parameters := [.int], returnType := some .int }, accessFlags := 10, code := some k1c1 }
def k1c2 : Code := { maxStack := 3, maxLocals := 2, code := method_3_code, exceptionTable := #[], attributes := #[] }
def k1m2 : Method := { name := "spec", desc := "(I)Z", sig := { parameters := [.int], returnType := some .boolean }, accessFlags := 10, code := some k1c2 }
def k1c3 : Code := { maxStack := 3, maxLocals := 4, code := code, exceptionTable := #[], attributes := #[] }
def k1m3 : Method := { name := "law", desc := "(III)Z", sig := { parameters := [.int, .int, .int], returnType := some .boolean }, accessFlags := 9, code := some k1c3 }
/-- com/example/xylem/xylem/model/QNameIsNameStartCharPinLaw -/
def k1 : Class := { plain "com/example/xylem/xylem/model/QNameIsNameStartCharPinLaw" (some 0) with
  accessFlags := 49
  interfaces := #[]
  cf := some (fileOf pool1 16 #[] #[{ accessFlags := 1, nameIndex := 5, descriptorIndex := 6, attributes := #[] }, { accessFlags := 10, nameIndex := 19, descriptorIndex := 20, attributes := #[] }, { accessFlags := 10, nameIndex := 29, descriptorIndex := 26, attributes := #[] }, { accessFlags := 9, nameIndex := 33, descriptorIndex := 34, attributes := #[] }] 49 2 #[] #[])
  fields := #[]
  methods := #[k1m0, k1m1, k1m2, k1m3]
  instanceTypes := #[]
  staticTypes := #[]
  resolved := Array.replicate 37 none
  statics := none }

def pool2 : Array CpInfo := pool [(1, .class_ 2), (0, u "java/lang/Comparable"), (0, .class_ 4), (0, u "java/lang/Object")] 7

/-- java/lang/Comparable -/
def k2 : Class := { plain "java/lang/Comparable" (some 0) with
  accessFlags := 1537
  interfaces := #[]
  cf := some (fileOf pool2 1 #[] #[] 1537 3 #[] #[])
  fields := #[]
  methods := #[]
  instanceTypes := #[]
  staticTypes := #[]
  resolved := Array.replicate 12 none
  statics := none }

def pool3 : Array CpInfo := pool [(2, .class_ 4), (1, u "java/lang/Object"), (11, .class_ 18), (1, u "com/example/xylem/xylem/model/QName"), (0, u "namespaceUri"), (0, u "Ljava/lang/String;"), (2, u "localName"), (2, u "prefix"), (47, u "isNameStartChar"), (0, u "(I)Z"), (19, .integer 55295), (1, .integer 65533), (0, .integer 65536), (1, .integer 63744), (0, .integer 64975), (0, .integer 65008), (0, .integer 983039), (18, .class_ 123), (0, u "java/lang/Comparable")] 33

def k3c0 : Code := { maxStack := 2, maxLocals := 1, code := prog_304_method_13_code, exceptionTable := #[], attributes := #[] }
def k3m0 : Method := { name := "isNameStartChar", desc := "(I)Z", sig := { parameters := [.int], returnType := some .boolean }, accessFlags := 9, code := some k3c0 }
/-- com/example/xylem/xylem/model/QName -/
def k3 : Class := { plain "com/example/xylem/xylem/model/QName" (some 0) with
  accessFlags := 49
  interfaces := #[2]
  cf := some (fileOf pool3 16 #[] #[{ accessFlags := 9, nameIndex := 74, descriptorIndex := 75, attributes := #[] }] 49 2 #[122] #[{ accessFlags := 18, nameIndex := 19, descriptorIndex := 20, attributes := #[] }, { accessFlags := 18, nameIndex := 23, descriptorIndex := 20, attributes := #[] }, { accessFlags := 18, nameIndex := 26, descriptorIndex := 20, attributes := #[] }])
  fields := #[{ name := "namespaceUri", type := (.object "java/lang/String"), accessFlags := 18, slot := 0, constantValue := 0 }, { name := "localName", type := (.object "java/lang/String"), accessFlags := 18, slot := 1, constantValue := 0 }, { name := "prefix", type := (.object "java/lang/String"), accessFlags := 18, slot := 2, constantValue := 0 }]
  methods := #[k3m0]
  instanceTypes := #[(.object "java/lang/String"), (.object "java/lang/String"), (.object "java/lang/String")]
  staticTypes := #[]
  resolved := Array.replicate 157 none
  statics := none }

def pool4 : Array CpInfo := pool [(1, u "java/lang/Cloneable"), (0, .class_ 1), (0, u "java/lang/Object"), (0, .class_ 3)] 3

/-- java/lang/Cloneable -/
def k4 : Class := { plain "java/lang/Cloneable" (some 0) with
  accessFlags := 1537
  interfaces := #[]
  cf := some (fileOf pool4 2 #[] #[] 1537 4 #[] #[])
  fields := #[]
  methods := #[]
  instanceTypes := #[]
  staticTypes := #[]
  resolved := Array.replicate 8 none
  statics := none }

def pool5 : Array CpInfo := pool [(1, u "java/io/Serializable"), (0, .class_ 1), (0, u "java/lang/Object"), (0, .class_ 3)] 3

/-- java/io/Serializable -/
def k5 : Class := { plain "java/io/Serializable" (some 0) with
  accessFlags := 1537
  interfaces := #[]
  cf := some (fileOf pool5 2 #[] #[] 1537 4 #[] #[])
  fields := #[]
  methods := #[]
  instanceTypes := #[]
  staticTypes := #[]
  resolved := Array.replicate 8 none
  statics := none }

/-- the primitive byte -/
def k6 : Class := { plain "byte" none with kind := .primitive 'B', accessFlags := 0x411 }
/-- [B -/
def k7 : Class := { plain "[B" (some 0) with kind := .array 6 .byte, interfaces := #[4, 5], accessFlags := 1041 }

/-- the primitive int -/
def k8 : Class := { plain "int" none with kind := .primitive 'I', accessFlags := 0x411 }
/-- [I -/
def k9 : Class := { plain "[I" (some 0) with kind := .array 8 .int, interfaces := #[4, 5], accessFlags := 1041 }

def heap : Heap := #[]
def classes : Array Class := #[k0, k1, k2, k3, k4, k5, k6, k7, k8, k9]
def interned : List (Array UInt16 × Addr) := []
def slotsUsed : Nat := 0
def theMethod : MethodId := ⟨1, 3⟩
def args0 : Array Value := #[.int 5, .int 7, .int 0]
def aboutOver (below : List Frame) : State where
  vm := { classes := classes, interned := interned.toArray }
  heap := heap
  slotsUsed := slotsUsed
  threads := #[{ frames := .invoking theMethod args0 :: below }]
def below0 : List Frame := [.native { method := ⟨0, 0⟩, args := #[] }]
def about1 : State := aboutOver below0
def p0 : Program := .bare "" "" ""
def e0 : Env := launch0.env 0 0 0
theorem w_frames : about1.frames = Frame.invoking theMethod args0 :: below0 := rfl
set_option maxRecDepth 65536 in
theorem w_args : argsFit about1.vm theMethod args0 = true := by decide +kernel
set_option maxRecDepth 65536 in
theorem w_heap : heapFits about1 = true := by decide +kernel
set_option maxRecDepth 65536 in
theorem w_runnable : about1.curStatus? = some .runnable := by decide +kernel
set_option maxRecDepth 65536 in
theorem w_alone : about1.alone = true := by decide +kernel
set_option maxRecDepth 65536 in
theorem w_named : about1.methodNamed? x = some theMethod := by decide +kernel
set_option maxRecDepth 65536 in
theorem w_hears : about1.hears theMethod below0 = true := by decide +kernel
set_option maxRecDepth 65536 in
theorem w_ripe : about1.ripe theMethod args0 below0 = true := by decide +kernel
theorem w_running : about1.status = .running := rfl
set_option maxRecDepth 65536 in
theorem w_room : about1.hasRoom e0.platform room_1 = true :=
  launch0.hasRoom_least _ room_1 (by decide +kernel) (by decide +kernel) (by decide +kernel) (by decide +kernel) (by decide +kernel) (by decide +kernel)
theorem allAtoms_all (ts : List Jvm.Cond) (a : Array Jvm.Value) (st : Jvm.State) : (allAtoms ts).before a st = ts.all (fun c => c.before a st) := by
  induction ts with
  | nil => rfl
  | cons c t ih =>
    show (Jvm.Cond.and c (allAtoms t)).before a st = _
    rw [Jvm.Cond.before_and, ih, List.all_cons]
def words1 : List Jvm.Cond := Jvm.Cond.code x code maxLocals ret :: tables_1
/-- a 'code' word, met by the world's own term for the bytes: nothing is compared byte by byte -/
theorem code_word {y : MethodName} {bytes : ByteArray} {mx : Nat} {rt : Option FieldType} {a : Array Value} {s : State} {m : MethodId} {meth : Method} {c : Code} (h1 : s.methodNamed? y = some m) (h2 : s.vm.method? m = some meth) (h3 : meth.code = some c) (h4 : c.code = bytes)
    (h5 : (c.maxLocals == mx && c.exceptionTable.isEmpty && decide (c.maxStack ≤ mostOperands) && decide (meth.sig.returnType = rt) && !meth.locks && decide (parseMethodDescriptor y.desc = some meth.sig)) = true) : (Jvm.Cond.code y bytes mx rt).before a s = true := by
  simp only [Bool.and_eq_true, beq_iff_eq, Bool.not_eq_true', decide_eq_true_eq] at h5
  obtain ⟨⟨⟨⟨⟨g1, g2⟩, g3⟩, g4⟩, g5⟩, g6⟩ := h5
  simp [Cond.before, Cond.holds, Cond.value, h1, h2, h3, h4, g1, g2, g3, g4, g5, g6]
def isCode : Jvm.Cond → Bool
  | .code _ _ _ _ => true
  | _ => false
theorem all_split {L : List Jvm.Cond} {P : Jvm.Cond → Bool} (h1 : L.all (fun c => isCode c || P c) = true) (h2 : ∀ c ∈ L.filter isCode, P c = true) : L.all P = true := by
  refine List.all_eq_true.mpr fun c hc => ?_
  have h := List.all_eq_true.mp h1 c hc
  rcases Bool.eq_false_or_eq_true (isCode c) with hi | hi
  · exact h2 c (List.mem_filter.mpr ⟨hc, hi⟩)
  · simpa [hi] using h
set_option maxRecDepth 65536 in
theorem w_c0 : (Jvm.Cond.code x code maxLocals ret).before args0 about1 = true := code_word (m := ⟨1, 3⟩) (meth := k1m3) (c := k1c3) (by decide +kernel) rfl rfl rfl (by decide +kernel)
set_option maxRecDepth 65536 in
theorem w_c1 : (Jvm.Cond.code ({ cls := "com/example/xylem/xylem/model/QNameIsNameStartCharPinLaw", name := "edge", desc := "(I)I" } : Jvm.MethodName) method_2_code (2 : Nat) (Option.some Jvm.ClassFile.FieldType.int)).before args0 about1 = true := code_word (m := ⟨1, 1⟩) (meth := k1m1) (c := k1c1) (by decide +kernel) rfl rfl rfl (by decide +kernel)
set_option maxRecDepth 65536 in
theorem w_c2 : (Jvm.Cond.code ({ cls := "com/example/xylem/xylem/model/QName", name := "isNameStartChar", desc := "(I)Z" } : Jvm.MethodName) prog_304_method_13_code (1 : Nat) (Option.some Jvm.ClassFile.FieldType.boolean)).before args0 about1 = true := code_word (m := ⟨3, 0⟩) (meth := k3m0) (c := k3c0) (by decide +kernel) rfl rfl rfl (by decide +kernel)
set_option maxRecDepth 65536 in
theorem w_c3 : (Jvm.Cond.code ({ cls := "com/example/xylem/xylem/model/QNameIsNameStartCharPinLaw", name := "spec", desc := "(I)Z" } : Jvm.MethodName) method_3_code (2 : Nat) (Option.some Jvm.ClassFile.FieldType.boolean)).before args0 about1 = true := code_word (m := ⟨1, 2⟩) (meth := k1m2) (c := k1c2) (by decide +kernel) rfl rfl rfl (by decide +kernel)
def codes1 : List Jvm.Cond := [Jvm.Cond.code x code maxLocals ret, Jvm.Cond.code ({ cls := "com/example/xylem/xylem/model/QNameIsNameStartCharPinLaw", name := "edge", desc := "(I)I" } : Jvm.MethodName) method_2_code (2 : Nat) (Option.some Jvm.ClassFile.FieldType.int), Jvm.Cond.code ({ cls := "com/example/xylem/xylem/model/QName", name := "isNameStartChar", desc := "(I)Z" } : Jvm.MethodName) prog_304_method_13_code (1 : Nat) (Option.some Jvm.ClassFile.FieldType.boolean), Jvm.Cond.code ({ cls := "com/example/xylem/xylem/model/QNameIsNameStartCharPinLaw", name := "spec", desc := "(I)Z" } : Jvm.MethodName) method_3_code (2 : Nat) (Option.some Jvm.ClassFile.FieldType.boolean)]
set_option maxRecDepth 65536 in
theorem codes_eq : words1.filter isCode = codes1 := rfl
theorem w_codes : ∀ c ∈ words1.filter isCode, c.before args0 about1 = true := by
  rw [codes_eq]
  intro c hc
  simp only [codes1, List.mem_cons, List.not_mem_nil, or_false] at hc
  rcases hc with rfl | rfl | rfl | rfl
  · exact w_c0
  · exact w_c1
  · exact w_c2
  · exact w_c3
set_option maxRecDepth 65536 in
theorem w_t1 : (words1.take 24).all (fun c => isCode c || c.before args0 about1) = true := by decide +kernel
set_option maxRecDepth 65536 in
theorem w_t2 : (words1.drop 24).all (fun c => isCode c || c.before args0 about1) = true := by decide +kernel
theorem w_tables : (allAtoms (Jvm.Cond.code x code maxLocals ret :: tables_1)).before args0 about1 = true := by
  rw [allAtoms_all]
  show words1.all (fun c => c.before args0 about1) = true
  refine all_split ?_ w_codes
  rw [← List.take_append_drop 24 words1, List.all_append, w_t1, w_t2]
  rfl
set_option maxRecDepth 65536 in
theorem w_case : (Jvm.Cond.and given_1 narrow_1).before args0 about1 = true := by decide +kernel
theorem w_applies : (headSpec (Jvm.Cond.code x code maxLocals ret :: tables_1) room_1).applies x e0.platform about1 = true :=
  (Spec.applies_iff w_frames).mpr ⟨w_running, w_runnable, w_alone, w_named, w_hears, w_ripe, w_room, w_tables⟩
theorem atStart : AtStart classFile x code maxLocals ret World_1 tables_1 room_1 Calls_1 rest_1 Pre_1 launch0 p0 e0 about1 theMethod args0 below0 :=
  ⟨lists_1, trivial, launch0.admits_env _ _ _, launch0.least_env, fairChoices_fair.cas, fairChoices_fair.clock, w_frames, w_args, w_heap, w_applies, trivial, trivial, w_case⟩
end start1
theorem witness_1 : WitnessClaimed_1 := ⟨start1.p0, start1.e0, start1.about1, start1.theMethod, start1.args0, start1.below0, start1.atStart⟩
end Jvm.Pilot.@@N@@
