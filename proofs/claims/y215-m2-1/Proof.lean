import JvmDerived
import JvmDerived.Pilot.@@N@@Statement
import JvmDerived.Pilot.@@N@@Code
set_option linter.unusedVariables false
set_option linter.unusedSimpArgs false
namespace Jvm.RoadKit
open Sem ClassFile Op Lib Jvm.Stand Jvm.Free Jvm.LawKit
section New
variable {p : Program} {l : Launch} {e : Env} {R : Room} {s : State} {m : MethodId} {args : Array Value} {below : List Frame} {meth : Method} {c : Code} {T : State} {locs : List Loc} {cells slots : Nat}
theorem retI (X : Stand p l e R s m args below meth c T locs cells slots) (hx : p.tables.exec = Jvm.exec) {pc : Nat} {Ls : Array Slot} {z : Int32} {rest : List Value} (hret : meth.sig.returnType = some .int) (hd : decode c.code pc = .ok (.ireturn, 1)) {fs : List Frame}
    (hl : ∀ (f : JFrame) (acts : List Action), f.method = m → f.locked = none → f.entered = [] → (doReturn e (T.setTop f) acts (some (.int z))).1 = T.setFrames fs) : Steps p.tables e below (T.setTop (mkF m pc Ls (.int z :: rest))) (T.setFrames fs) := by
  have hm' : T.vm.method? m = some meth := X.method'
  have hn : narrow .int (.int z) = .int z := rfl
  show Steps p.tables e below (T.setTop { method := m, pc := pc, locals := Ls, stack := _ :: rest, locked := none }) _
  jvm_step X.here [X.here.top, hx, hd, hm', hret, hn]
  first | (intro acts; rw [hl _ acts rfl rfl rfl]) | rw [hl _ _ rfl rfl rfl]
  exact Steps.refl _
end New
end Jvm.RoadKit
namespace Jvm.Pilot.@@N@@
open Jvm Jvm.ClassFile Sem Op Lib Jvm.Free Jvm.Stand Jvm.LawKit Jvm.RoadKit Bundle Jvm.Pilot.@@N@@.Jvm.D
theorem d2_0 : decode jdk_30_method_1_code 0 = .ok (.aload_n 0, 1) := by decide +kernel
theorem d2_1 : decode jdk_30_method_1_code 1 = .ok (.invokespecial 1, 3) := by decide +kernel
theorem d2_4 : decode jdk_30_method_1_code 4 = .ok (.return_, 1) := by decide +kernel
theorem d1_0 : decode prog_7_method_1_code 0 = .ok (.aload_n 0, 1) := by decide +kernel
theorem d1_1 : decode prog_7_method_1_code 1 = .ok (.invokespecial 3, 3) := by decide +kernel
theorem pd0 : parseMethodDescriptor "()V" = some ⟨[], none⟩ := by decide +kernel
theorem d1_4 : decode prog_7_method_1_code 4 = .ok (.aload_n 0, 1) := by decide +kernel
theorem d1_5 : decode prog_7_method_1_code 5 = .ok (.iload_n 1, 1) := by decide +kernel
theorem d1_6 : decode prog_7_method_1_code 6 = .ok (.putfield 9, 3) := by decide +kernel
theorem d1_9 : decode prog_7_method_1_code 9 = .ok (.aload_n 0, 1) := by decide +kernel
theorem d1_10 : decode prog_7_method_1_code 10 = .ok (.iload_n 2, 1) := by decide +kernel
theorem d1_11 : decode prog_7_method_1_code 11 = .ok (.putfield 15, 3) := by decide +kernel
theorem d1_14 : decode prog_7_method_1_code 14 = .ok (.aload_n 0, 1) := by decide +kernel
theorem d1_15 : decode prog_7_method_1_code 15 = .ok (.iload_n 3, 1) := by decide +kernel
theorem d1_16 : decode prog_7_method_1_code 16 = .ok (.putfield 18, 3) := by decide +kernel
theorem d1_19 : decode prog_7_method_1_code 19 = .ok (.aload_n 0, 1) := by decide +kernel
theorem d1_20 : decode prog_7_method_1_code 20 = .ok (.iload 4, 2) := by decide +kernel
theorem d1_22 : decode prog_7_method_1_code 22 = .ok (.putfield 21, 3) := by decide +kernel
theorem d1_25 : decode prog_7_method_1_code 25 = .ok (.aload_n 0, 1) := by decide +kernel
theorem d1_26 : decode prog_7_method_1_code 26 = .ok (.iload 5, 2) := by decide +kernel
theorem d1_28 : decode prog_7_method_1_code 28 = .ok (.putfield 24, 3) := by decide +kernel
theorem d1_31 : decode prog_7_method_1_code 31 = .ok (.return_, 1) := by decide +kernel
theorem d4_0 : decode prog_7_method_2_code 0 = .ok (.aload_n 0, 1) := by decide +kernel
theorem d4_1 : decode prog_7_method_2_code 1 = .ok (.getfield 9, 3) := by decide +kernel
theorem d4_4 : decode prog_7_method_2_code 4 = .ok (.iconst (-1), 1) := by decide +kernel
theorem d4_5 : decode prog_7_method_2_code 5 = .ok (.if_icmp .eq 21, 3) := by decide +kernel
theorem d4_26 : decode prog_7_method_2_code 26 = .ok (.aload_n 0, 1) := by decide +kernel
theorem d4_27 : decode prog_7_method_2_code 27 = .ok (.getfield 18, 3) := by decide +kernel
theorem d4_30 : decode prog_7_method_2_code 30 = .ok (.iconst (-1), 1) := by decide +kernel
theorem d4_31 : decode prog_7_method_2_code 31 = .ok (.if_icmp .eq 18, 3) := by decide +kernel
theorem d4_49 : decode prog_7_method_2_code 49 = .ok (.iload_n 1, 1) := by decide +kernel
theorem d4_50 : decode prog_7_method_2_code 50 = .ok (.ldc 27, 2) := by decide +kernel
theorem d4_52 : decode prog_7_method_2_code 52 = .ok (.if_icmp .gt 11, 3) := by decide +kernel
theorem d4_63 : decode prog_7_method_2_code 63 = .ok (.aload_n 0, 1) := by decide +kernel
theorem d4_64 : decode prog_7_method_2_code 64 = .ok (.getfield 24, 3) := by decide +kernel
theorem d4_67 : decode prog_7_method_2_code 67 = .ok (.istore_n 2, 1) := by decide +kernel
theorem d4_55 : decode prog_7_method_2_code 55 = .ok (.aload_n 0, 1) := by decide +kernel
theorem d4_56 : decode prog_7_method_2_code 56 = .ok (.getfield 21, 3) := by decide +kernel
theorem d4_59 : decode prog_7_method_2_code 59 = .ok (.istore_n 2, 1) := by decide +kernel
theorem d4_60 : decode prog_7_method_2_code 60 = .ok (.goto 8, 3) := by decide +kernel
theorem d4_34 : decode prog_7_method_2_code 34 = .ok (.iload_n 1, 1) := by decide +kernel
theorem d4_35 : decode prog_7_method_2_code 35 = .ok (.sipush 255, 3) := by decide +kernel
theorem d4_38 : decode prog_7_method_2_code 38 = .ok (.if_icmp .gt 11, 3) := by decide +kernel
theorem d4_41 : decode prog_7_method_2_code 41 = .ok (.aload_n 0, 1) := by decide +kernel
theorem d4_42 : decode prog_7_method_2_code 42 = .ok (.getfield 18, 3) := by decide +kernel
theorem d4_45 : decode prog_7_method_2_code 45 = .ok (.istore_n 2, 1) := by decide +kernel
theorem d4_46 : decode prog_7_method_2_code 46 = .ok (.goto 22, 3) := by decide +kernel
theorem d4_8 : decode prog_7_method_2_code 8 = .ok (.iload_n 1, 1) := by decide +kernel
theorem d4_9 : decode prog_7_method_2_code 9 = .ok (.aload_n 0, 1) := by decide +kernel
theorem d4_10 : decode prog_7_method_2_code 10 = .ok (.getfield 15, 3) := by decide +kernel
theorem d4_13 : decode prog_7_method_2_code 13 = .ok (.if_icmp .gt 13, 3) := by decide +kernel
theorem d4_16 : decode prog_7_method_2_code 16 = .ok (.aload_n 0, 1) := by decide +kernel
theorem d4_17 : decode prog_7_method_2_code 17 = .ok (.getfield 9, 3) := by decide +kernel
theorem d4_20 : decode prog_7_method_2_code 20 = .ok (.iload_n 1, 1) := by decide +kernel
theorem d4_21 : decode prog_7_method_2_code 21 = .ok (.ior, 1) := by decide +kernel
theorem d4_22 : decode prog_7_method_2_code 22 = .ok (.istore_n 2, 1) := by decide +kernel
theorem d4_23 : decode prog_7_method_2_code 23 = .ok (.goto 45, 3) := by decide +kernel
theorem d4_68 : decode prog_7_method_2_code 68 = .ok (.iload_n 2, 1) := by decide +kernel
theorem d4_69 : decode prog_7_method_2_code 69 = .ok (.ireturn, 1) := by decide +kernel
theorem d5_0 : decode method_2_code 0 = .ok (.iload_n 1, 1) := by decide +kernel
theorem d5_1 : decode method_2_code 1 = .ok (.sipush 256, 3) := by decide +kernel
theorem d5_4 : decode method_2_code 4 = .ok (.if_icmp .ge 7, 3) := by decide +kernel
theorem d5_7 : decode method_2_code 7 = .ok (.iconst 1, 1) := by decide +kernel
theorem d5_8 : decode method_2_code 8 = .ok (.goto 4, 3) := by decide +kernel
theorem d5_11 : decode method_2_code 11 = .ok (.iconst 0, 1) := by decide +kernel
theorem d5_12 : decode method_2_code 12 = .ok (.istore_n 2, 1) := by decide +kernel
theorem d5_13 : decode method_2_code 13 = .ok (.iload_n 1, 1) := by decide +kernel
theorem d5_14 : decode method_2_code 14 = .ok (.ldc 7, 2) := by decide +kernel
theorem d5_16 : decode method_2_code 16 = .ok (.if_icmp .ge 7, 3) := by decide +kernel
theorem d5_19 : decode method_2_code 19 = .ok (.iconst 1, 1) := by decide +kernel
theorem d5_20 : decode method_2_code 20 = .ok (.goto 4, 3) := by decide +kernel
theorem d5_23 : decode method_2_code 23 = .ok (.iconst 0, 1) := by decide +kernel
theorem d5_24 : decode method_2_code 24 = .ok (.istore_n 3, 1) := by decide +kernel
theorem d5_25 : decode method_2_code 25 = .ok (.iload_n 0, 1) := by decide +kernel
theorem d5_26 : decode method_2_code 26 = .ok (.ifCond .ne 27, 3) := by decide +kernel
theorem d5_29 : decode method_2_code 29 = .ok (.iload_n 2, 1) := by decide +kernel
theorem d5_30 : decode method_2_code 30 = .ok (.ifCond .eq 9, 3) := by decide +kernel
theorem d5_39 : decode method_2_code 39 = .ok (.iload_n 3, 1) := by decide +kernel
theorem d5_40 : decode method_2_code 40 = .ok (.ifCond .eq 9, 3) := by decide +kernel
theorem d5_49 : decode method_2_code 49 = .ok (.sipush 198, 3) := by decide +kernel
theorem d5_43 : decode method_2_code 43 = .ok (.sipush 197, 3) := by decide +kernel
theorem d5_46 : decode method_2_code 46 = .ok (.goto 6, 3) := by decide +kernel
theorem d5_33 : decode method_2_code 33 = .ok (.sipush 196, 3) := by decide +kernel
theorem d5_36 : decode method_2_code 36 = .ok (.goto 16, 3) := by decide +kernel
theorem d5_52 : decode method_2_code 52 = .ok (.ireturn, 1) := by decide +kernel
theorem d5_53 : decode method_2_code 53 = .ok (.iload_n 0, 1) := by decide +kernel
theorem d5_54 : decode method_2_code 54 = .ok (.iconst 1, 1) := by decide +kernel
theorem d5_55 : decode method_2_code 55 = .ok (.if_icmp .ne 27, 3) := by decide +kernel
theorem d5_58 : decode method_2_code 58 = .ok (.iload_n 2, 1) := by decide +kernel
theorem d5_59 : decode method_2_code 59 = .ok (.ifCond .eq 9, 3) := by decide +kernel
theorem d5_68 : decode method_2_code 68 = .ok (.iload_n 3, 1) := by decide +kernel
theorem d5_69 : decode method_2_code 69 = .ok (.ifCond .eq 9, 3) := by decide +kernel
theorem d5_78 : decode method_2_code 78 = .ok (.sipush 201, 3) := by decide +kernel
theorem d5_72 : decode method_2_code 72 = .ok (.sipush 200, 3) := by decide +kernel
theorem d5_75 : decode method_2_code 75 = .ok (.goto 6, 3) := by decide +kernel
theorem d5_62 : decode method_2_code 62 = .ok (.sipush 199, 3) := by decide +kernel
theorem d5_65 : decode method_2_code 65 = .ok (.goto 16, 3) := by decide +kernel
theorem d5_81 : decode method_2_code 81 = .ok (.ireturn, 1) := by decide +kernel
theorem d5_82 : decode method_2_code 82 = .ok (.iload_n 0, 1) := by decide +kernel
theorem d5_83 : decode method_2_code 83 = .ok (.iconst 2, 1) := by decide +kernel
theorem d5_84 : decode method_2_code 84 = .ok (.if_icmp .ne 41, 3) := by decide +kernel
theorem d5_87 : decode method_2_code 87 = .ok (.iload_n 1, 1) := by decide +kernel
theorem d5_88 : decode method_2_code 88 = .ok (.bipush 32, 2) := by decide +kernel
theorem d5_90 : decode method_2_code 90 = .ok (.if_icmp .ge 11, 3) := by decide +kernel
theorem d5_93 : decode method_2_code 93 = .ok (.sipush 160, 3) := by decide +kernel
theorem d5_96 : decode method_2_code 96 = .ok (.iload_n 1, 1) := by decide +kernel
theorem d5_97 : decode method_2_code 97 = .ok (.iadd, 1) := by decide +kernel
theorem d5_98 : decode method_2_code 98 = .ok (.goto 26, 3) := by decide +kernel
theorem d5_101 : decode method_2_code 101 = .ok (.iload_n 2, 1) := by decide +kernel
theorem d5_102 : decode method_2_code 102 = .ok (.ifCond .eq 9, 3) := by decide +kernel
theorem d5_111 : decode method_2_code 111 = .ok (.iload_n 3, 1) := by decide +kernel
theorem d5_112 : decode method_2_code 112 = .ok (.ifCond .eq 9, 3) := by decide +kernel
theorem d5_121 : decode method_2_code 121 = .ok (.sipush 219, 3) := by decide +kernel
theorem d5_115 : decode method_2_code 115 = .ok (.sipush 218, 3) := by decide +kernel
theorem d5_118 : decode method_2_code 118 = .ok (.goto 6, 3) := by decide +kernel
theorem d5_105 : decode method_2_code 105 = .ok (.sipush 217, 3) := by decide +kernel
theorem d5_108 : decode method_2_code 108 = .ok (.goto 16, 3) := by decide +kernel
theorem d5_124 : decode method_2_code 124 = .ok (.ireturn, 1) := by decide +kernel
theorem d5_125 : decode method_2_code 125 = .ok (.iload_n 0, 1) := by decide +kernel
theorem d5_126 : decode method_2_code 126 = .ok (.iconst 3, 1) := by decide +kernel
theorem d5_127 : decode method_2_code 127 = .ok (.if_icmp .ne 31, 3) := by decide +kernel
theorem d5_130 : decode method_2_code 130 = .ok (.iload_n 1, 1) := by decide +kernel
theorem d5_131 : decode method_2_code 131 = .ok (.bipush 16, 2) := by decide +kernel
theorem d5_133 : decode method_2_code 133 = .ok (.if_icmp .ge 11, 3) := by decide +kernel
theorem d5_136 : decode method_2_code 136 = .ok (.sipush 144, 3) := by decide +kernel
theorem d5_139 : decode method_2_code 139 = .ok (.iload_n 1, 1) := by decide +kernel
theorem d5_140 : decode method_2_code 140 = .ok (.iadd, 1) := by decide +kernel
theorem d5_141 : decode method_2_code 141 = .ok (.goto 16, 3) := by decide +kernel
theorem d5_144 : decode method_2_code 144 = .ok (.iload_n 3, 1) := by decide +kernel
theorem d5_145 : decode method_2_code 145 = .ok (.ifCond .eq 9, 3) := by decide +kernel
theorem d5_154 : decode method_2_code 154 = .ok (.sipush 221, 3) := by decide +kernel
theorem d5_148 : decode method_2_code 148 = .ok (.sipush 220, 3) := by decide +kernel
theorem d5_151 : decode method_2_code 151 = .ok (.goto 6, 3) := by decide +kernel
theorem d5_157 : decode method_2_code 157 = .ok (.ireturn, 1) := by decide +kernel
theorem d5_158 : decode method_2_code 158 = .ok (.iload_n 1, 1) := by decide +kernel
theorem d5_159 : decode method_2_code 159 = .ok (.bipush 16, 2) := by decide +kernel
theorem d5_161 : decode method_2_code 161 = .ok (.if_icmp .ge 11, 3) := by decide +kernel
theorem d5_164 : decode method_2_code 164 = .ok (.sipush 128, 3) := by decide +kernel
theorem d5_167 : decode method_2_code 167 = .ok (.iload_n 1, 1) := by decide +kernel
theorem d5_168 : decode method_2_code 168 = .ok (.iadd, 1) := by decide +kernel
theorem d5_169 : decode method_2_code 169 = .ok (.goto 16, 3) := by decide +kernel
theorem d5_172 : decode method_2_code 172 = .ok (.iload_n 3, 1) := by decide +kernel
theorem d5_173 : decode method_2_code 173 = .ok (.ifCond .eq 9, 3) := by decide +kernel
theorem d5_182 : decode method_2_code 182 = .ok (.sipush 223, 3) := by decide +kernel
theorem d5_176 : decode method_2_code 176 = .ok (.sipush 222, 3) := by decide +kernel
theorem d5_179 : decode method_2_code 179 = .ok (.goto 6, 3) := by decide +kernel
theorem d5_185 : decode method_2_code 185 = .ok (.ireturn, 1) := by decide +kernel
theorem pd1 : parseMethodDescriptor "(IIIII)V" = some ⟨[.int, .int, .int, .int, .int], none⟩ := by decide +kernel
theorem pd2 : parseMethodDescriptor "(I)I" = some ⟨[.int], some .int⟩ := by decide +kernel
theorem pd3 : parseMethodDescriptor "(II)I" = some ⟨[.int, .int], some .int⟩ := by decide +kernel
theorem pn0 : plainName "java/lang/Record" = true := by first | (simp [plainName, overriddenIn]; done) | decide +kernel
theorem pn1 : plainName "com/example/furoshiki/furoshiki/Format$SizedFormats" = true := by first | (simp [plainName, overriddenIn]; done) | decide +kernel
theorem pn2 : plainName "com/example/furoshiki/furoshiki/SizedFormatsFormatForPinLaw" = true := by first | (simp [plainName, overriddenIn]; done) | decide +kernel
theorem ef2 (m : MethodId) (x0 : Addr) : entryFrame m #[(.ref x0)] 1 = mkF m 0 #[.val (.ref x0)] [] := by first | (simp [entryFrame, mkF, argsToLocals, Value.category]; done) | rfl
def Q2 (Z : State) (a0 : Addr) (h0 : Heap) (n0 : Nat) (v : Option Value) (h : Heap) (L : List Loc) : Prop := v = none ∧ Fr n0 L ∧ h = h0
set_option maxRecDepth 65536 in
set_option maxHeartbeats 40000000 in
theorem rm2 (l : Launch) (Z : State) (a0' : Array Value) (hw : ∀ d ∈ tables_1, d.before a0' Z = true) (ws : List Jvm.Cond) (a0 : Addr) (h0 : Heap) (n0 : Nat) (Z0 : n0 ≤ h0.size) :
    MetFree l (⟨"java/lang/Record", "<init>", "()V"⟩ : MethodName) (head1 (Jvm.Cond.code (⟨"java/lang/Record", "<init>", "()V"⟩ : MethodName) jdk_30_method_1_code 1 none :: ws) ({ frames := 1, cells := 0, slots := 0, locals := 12 } : Room)) (fun a U => a = #[(.ref a0)] ∧ Z.Warmed39 U.vm ∧ U.heap = h0) (fun _ _ _ _ _ => True) (fun _ U o U' => ∃ v L, o = .returned v ∧ Q2 Z a0 h0 n0 v U'.heap L ∧ FrameEnd U o U' L ({ frames := 1, cells := 0, slots := 0, locals := 12 } : Room).cells ({ frames := 1, cells := 0, slots := 0, locals := 12 } : Room).slots) := by
  refine MetFree.of_bodySF (plainFor_of_name pn0) hisR ?_
  intro p e s m args below meth c s₁ Bd hml0 hP hK
  obtain ⟨rfl, hZ, hh⟩ := hP
  have hx := Bd.exec
  have hby := Bd.bytes
  have hml : c.maxLocals = 1 := hml0
  have hown : s.vm.findClass "java/lang/Record" = some m.cls := findClass_of_methodNamed Bd.named
  have hnm := (name_of_methodNamed Bd.named Bd.method).1
  have X0 : Stand p l e ({ frames := 1, cells := 0, slots := 0, locals := 12 } : Room) s m #[(.ref a0)] below meth c s₁ [] 0 0 := Stand.of_body Bd
  have e0 : s₁.heap = h0 := by rw [← hh, Bd.state]; rfl
  have N0 := Fr.nil n0
  have pre0 : ∀ t, Steps p.tables e below (s₁.setTop (mkF m 0 #[.val (.ref a0)] [])) t → Steps p.tables e below (s₁.setTop (entryFrame m #[(.ref a0)] 1)) t := fun t k => castTop (ef2 m a0) k
  obtain ⟨T1, X1, e1, st1⟩ := initO X0 hx hZ hown (hw _ (List.mem_of_getElem? (i := 12) rfl)) (hw _ (List.mem_of_getElem? (i := 13) rfl)) (hw _ (List.mem_of_getElem? (i := 14) rfl)) e0 (g := (mkF m 1 #[.val (.ref a0)] [(.ref a0)])) rfl (by rw [hml]; rfl) rfl (hb hby d2_1) (by decide) (W := 0) (by show 2 * 0 + _ ≤ _; exact Nat.le_of_eq rfl) (by decide)
  have pre2 : ∀ t, Steps p.tables e below (T1.setTop (mkF m 4 #[.val (.ref a0)] [])) t → Steps p.tables e below (s₁.setTop (entryFrame m #[(.ref a0)] 1)) t := fun t k => pre0 t (by
    show Steps p.tables e below (s₁.setTop (mkF m 0 #[.val (.ref a0)] [])) _
    refine XS.aloadN X0.here hx rfl (hb hby d2_0) rfl rfl ?_
    show Steps p.tables e below (s₁.setTop (mkF m 1 #[.val (.ref a0)] [(.ref a0)])) _
    refine st1 _ ?_
    exact k)
  obtain ⟨fs, hr, hrun, hended, hW, hsame⟩ := X1.leave (v := none) (fun _ => rfl)
  exact ⟨_, _, pre2 _ (X1.returnOut hx Bd.returns (hb hby d2_4) hr), hrun, hended, _, _, rfl, ⟨rfl, N0, e1⟩, ⟨_, rfl⟩, hW, hsame.mono (by decide) (by decide)⟩
theorem ef1 (m : MethodId) (x0 : Addr) (x1 : Int32) (x2 : Int32) (x3 : Int32) (x4 : Int32) (x5 : Int32) : entryFrame m #[(.ref x0), (.int x1), (.int x2), (.int x3), (.int x4), (.int x5)] 6 = mkF m 0 #[.val (.ref x0), .val (.int x1), .val (.int x2), .val (.int x3), .val (.int x4), .val (.int x5)] [] := by first | (simp [entryFrame, mkF, argsToLocals, Value.category]; done) | rfl
def Q1 (Z : State) (a0 : Addr) (p1 : Int32) (p2 : Int32) (p3 : Int32) (p4 : Int32) (p5 : Int32) (wa0_fix : Int32) (wa0_fixMax : Int32) (wa0_format8 : Int32) (wa0_format16 : Int32) (wa0_format32 : Int32) (h0 : Heap) (n0 : Nat) (v : Option Value) (h : Heap) (L : List Loc) : Prop := v = none ∧ Fr n0 L ∧ Keep h0 h [a0] ∧ Exa Z h a0 "com/example/furoshiki/furoshiki/Format$SizedFormats" ∧ Fld Z h a0 "com/example/furoshiki/furoshiki/Format$SizedFormats" "fix" "I" (.int p1) ∧ Fld Z h a0 "com/example/furoshiki/furoshiki/Format$SizedFormats" "fixMax" "I" (.int p2) ∧ Fld Z h a0 "com/example/furoshiki/furoshiki/Format$SizedFormats" "format8" "I" (.int p3) ∧ Fld Z h a0 "com/example/furoshiki/furoshiki/Format$SizedFormats" "format16" "I" (.int p4) ∧ Fld Z h a0 "com/example/furoshiki/furoshiki/Format$SizedFormats" "format32" "I" (.int p5)
set_option maxRecDepth 65536 in
set_option maxHeartbeats 40000000 in
theorem rm1 (l : Launch) (Z : State) (a0' : Array Value) (hw : ∀ d ∈ tables_1, d.before a0' Z = true) (ws : List Jvm.Cond) (a0 : Addr) (p1 : Int32) (p2 : Int32) (p3 : Int32) (p4 : Int32) (p5 : Int32) (wa0_fix : Int32) (wa0_fixMax : Int32) (wa0_format8 : Int32) (wa0_format16 : Int32) (wa0_format32 : Int32) (h0 : Heap) (n0 : Nat) (Z0 : n0 ≤ h0.size) (E_a0 : Exa Z h0 a0 "com/example/furoshiki/furoshiki/Format$SizedFormats") (F_wa0_fix : Fld Z h0 a0 "com/example/furoshiki/furoshiki/Format$SizedFormats" "fix" "I" (.int wa0_fix)) (F_wa0_fixMax : Fld Z h0 a0 "com/example/furoshiki/furoshiki/Format$SizedFormats" "fixMax" "I" (.int wa0_fixMax)) (F_wa0_format8 : Fld Z h0 a0 "com/example/furoshiki/furoshiki/Format$SizedFormats" "format8" "I" (.int wa0_format8)) (F_wa0_format16 : Fld Z h0 a0 "com/example/furoshiki/furoshiki/Format$SizedFormats" "format16" "I" (.int wa0_format16)) (F_wa0_format32 : Fld Z h0 a0 "com/example/furoshiki/furoshiki/Format$SizedFormats" "format32" "I" (.int wa0_format32)) (g_a0 : n0 ≤ a0) :
    MetFree l (⟨"com/example/furoshiki/furoshiki/Format$SizedFormats", "<init>", "(IIIII)V"⟩ : MethodName) (head1 (Jvm.Cond.code (⟨"com/example/furoshiki/furoshiki/Format$SizedFormats", "<init>", "(IIIII)V"⟩ : MethodName) prog_7_method_1_code 6 none :: ws) ({ frames := 2, cells := 0, slots := 0, locals := 24 } : Room)) (fun a U => a = #[(.ref a0), (.int p1), (.int p2), (.int p3), (.int p4), (.int p5)] ∧ Z.Warmed39 U.vm ∧ U.heap = h0) (fun _ _ _ _ _ => True) (fun _ U o U' => ∃ v L, o = .returned v ∧ Q1 Z a0 p1 p2 p3 p4 p5 wa0_fix wa0_fixMax wa0_format8 wa0_format16 wa0_format32 h0 n0 v U'.heap L ∧ FrameEnd U o U' L ({ frames := 2, cells := 0, slots := 0, locals := 24 } : Room).cells ({ frames := 2, cells := 0, slots := 0, locals := 24 } : Room).slots) := by
  refine MetFree.of_bodySF (plainFor_of_name pn1) hisR ?_
  intro p e s m args below meth c s₁ Bd hml0 hP hK
  obtain ⟨rfl, hZ, hh⟩ := hP
  have hx := Bd.exec
  have hby := Bd.bytes
  have hml : c.maxLocals = 6 := hml0
  have hown : s.vm.findClass "com/example/furoshiki/furoshiki/Format$SizedFormats" = some m.cls := findClass_of_methodNamed Bd.named
  have hnm := (name_of_methodNamed Bd.named Bd.method).1
  have X0 : Stand p l e ({ frames := 2, cells := 0, slots := 0, locals := 24 } : Room) s m #[(.ref a0), (.int p1), (.int p2), (.int p3), (.int p4), (.int p5)] below meth c s₁ [] 0 0 := Stand.of_body Bd
  have e0 : s₁.heap = h0 := by rw [← hh, Bd.state]; rfl
  have N0 := Fr.nil n0
  have pre0 : ∀ t, Steps p.tables e below (s₁.setTop (mkF m 0 #[.val (.ref a0), .val (.int p1), .val (.int p2), .val (.int p3), .val (.int p4), .val (.int p5)] [])) t → Steps p.tables e below (s₁.setTop (entryFrame m #[(.ref a0), (.int p1), (.int p2), (.int p3), (.int p4), (.int p5)] 6)) t := fun t k => castTop (ef1 m a0 p1 p2 p3 p4 p5) k
  obtain ⟨_, _, ⟨T1, L1, k1, n1⟩, -, X1, ⟨Lc1, hQ1, l1, y1, z1⟩, st1⟩ := X0.specialBack hx (y := (⟨"java/lang/Record", "<init>", "()V"⟩ : MethodName)) rfl hown (mvT hZ (hw _ (List.mem_of_getElem? (i := 7) rfl))) (mvT hZ (hw _ (List.mem_of_getElem? (i := 8) rfl))) (mvT hZ (hw _ (List.mem_of_getElem? (i := 11) rfl))) (by decide) (backOf (W := 0) (rm2 l Z a0' hw [] a0 h0 n0 Z0) hZ (hw _ (List.mem_of_getElem? (i := 11) rfl)) (hw _ (List.mem_of_getElem? (i := 10) rfl)) (by decide) (by decide)) (g := (mkF m 1 #[.val (.ref a0), .val (.int p1), .val (.int p2), .val (.int p3), .val (.int p4), .val (.int p5)] [(.ref a0)])) rfl (by rw [hml]; rfl) (Steps.refl _) (a := a0) (argsL := []) (rest := []) (lenOf pd0 rfl) rfl (by show 2 * 0 + _ ≤ _; exact Nat.le_of_eq rfl) (hb hby d1_1) (fun _ _ => ⟨rfl, e0, (by decide : 0 + 0 ≤ _), (by decide : 0 + 0 ≤ _)⟩)
  dsimp only [Pt.U, Pt.locs, Pt.cells, Pt.slots] at X1 l1 y1 z1 st1 hQ1
  subst l1 y1 z1
  obtain ⟨rfl, N1q, e1⟩ := hQ1
  have N1 := Fr.app N0 N1q
  obtain ⟨T2, h2, X2, e2, W2, st2⟩ := putF X1 hx hZ hown (host := "") (Or.inl (hw _ (List.mem_of_getElem? (i := 15) rfl))) Via.refl e1 F_wa0_fix E_a0 (Or.inr ⟨(hw _ (List.mem_of_getElem? (i := 16) rfl)), rfl, hnm⟩) (hw _ (List.mem_of_getElem? (i := 2) rfl)) (ty := .int) (by decide) rfl rfl (g := (mkF m 6 #[.val (.ref a0), .val (.int p1), .val (.int p2), .val (.int p3), .val (.int p4), .val (.int p5)] [(.int p1), (.ref a0)])) rfl rfl (hb hby d1_6)
  have Z2 : n0 ≤ h2.size := Nat.le_trans Z0 (Keep.of_wr W2).1
  have N2 := Fr.snoc X2 N1 g_a0
  have KC2 : Keep h0 h2 [a0] := (Keep.refl h0 [a0]).wr W2 (Or.inl (List.mem_of_getElem? (i := 0) rfl))
  have Fw2 := F_wa0_fix.same W2
  have y3 := (E_a0.wr W2)
  have y4 := (F_wa0_fixMax.other W2 (Or.inr (slot_ne (Or.inr (hw _ (List.mem_of_getElem? (i := 18) rfl))) (Or.inr (hw _ (List.mem_of_getElem? (i := 16) rfl))) (by decide) (t := .int) (t' := .int) (by decide) (by decide))))
  obtain ⟨T5, h5, X5, e5, W5, st5⟩ := putF X2 hx hZ hown (host := "") (Or.inl (hw _ (List.mem_of_getElem? (i := 17) rfl))) Via.refl e2 y4 y3 (Or.inr ⟨(hw _ (List.mem_of_getElem? (i := 18) rfl)), rfl, hnm⟩) (hw _ (List.mem_of_getElem? (i := 2) rfl)) (ty := .int) (by decide) rfl rfl (g := (mkF m 11 #[.val (.ref a0), .val (.int p1), .val (.int p2), .val (.int p3), .val (.int p4), .val (.int p5)] [(.int p2), (.ref a0)])) rfl rfl (hb hby d1_11)
  have Z5 : n0 ≤ h5.size := Nat.le_trans Z2 (Keep.of_wr W5).1
  have N5 := Fr.snoc X5 N2 g_a0
  have KC5 : Keep h0 h5 [a0] := KC2.wr W5 (Or.inl (List.mem_of_getElem? (i := 0) rfl))
  have Fw5 := y4.same W5
  have y6 := (y3.wr W5)
  have y7 := ((F_wa0_format8.other W2 (Or.inr (slot_ne (Or.inr (hw _ (List.mem_of_getElem? (i := 20) rfl))) (Or.inr (hw _ (List.mem_of_getElem? (i := 16) rfl))) (by decide) (t := .int) (t' := .int) (by decide) (by decide)))).other W5 (Or.inr (slot_ne (Or.inr (hw _ (List.mem_of_getElem? (i := 20) rfl))) (Or.inr (hw _ (List.mem_of_getElem? (i := 18) rfl))) (by decide) (t := .int) (t' := .int) (by decide) (by decide))))
  obtain ⟨T8, h8, X8, e8, W8, st8⟩ := putF X5 hx hZ hown (host := "") (Or.inl (hw _ (List.mem_of_getElem? (i := 19) rfl))) Via.refl e5 y7 y6 (Or.inr ⟨(hw _ (List.mem_of_getElem? (i := 20) rfl)), rfl, hnm⟩) (hw _ (List.mem_of_getElem? (i := 2) rfl)) (ty := .int) (by decide) rfl rfl (g := (mkF m 16 #[.val (.ref a0), .val (.int p1), .val (.int p2), .val (.int p3), .val (.int p4), .val (.int p5)] [(.int p3), (.ref a0)])) rfl rfl (hb hby d1_16)
  have Z8 : n0 ≤ h8.size := Nat.le_trans Z5 (Keep.of_wr W8).1
  have N8 := Fr.snoc X8 N5 g_a0
  have KC8 : Keep h0 h8 [a0] := KC5.wr W8 (Or.inl (List.mem_of_getElem? (i := 0) rfl))
  have Fw8 := y7.same W8
  have y9 := (y6.wr W8)
  have y10 := (((F_wa0_format16.other W2 (Or.inr (slot_ne (Or.inr (hw _ (List.mem_of_getElem? (i := 22) rfl))) (Or.inr (hw _ (List.mem_of_getElem? (i := 16) rfl))) (by decide) (t := .int) (t' := .int) (by decide) (by decide)))).other W5 (Or.inr (slot_ne (Or.inr (hw _ (List.mem_of_getElem? (i := 22) rfl))) (Or.inr (hw _ (List.mem_of_getElem? (i := 18) rfl))) (by decide) (t := .int) (t' := .int) (by decide) (by decide)))).other W8 (Or.inr (slot_ne (Or.inr (hw _ (List.mem_of_getElem? (i := 22) rfl))) (Or.inr (hw _ (List.mem_of_getElem? (i := 20) rfl))) (by decide) (t := .int) (t' := .int) (by decide) (by decide))))
  obtain ⟨T11, h11, X11, e11, W11, st11⟩ := putF X8 hx hZ hown (host := "") (Or.inl (hw _ (List.mem_of_getElem? (i := 21) rfl))) Via.refl e8 y10 y9 (Or.inr ⟨(hw _ (List.mem_of_getElem? (i := 22) rfl)), rfl, hnm⟩) (hw _ (List.mem_of_getElem? (i := 2) rfl)) (ty := .int) (by decide) rfl rfl (g := (mkF m 22 #[.val (.ref a0), .val (.int p1), .val (.int p2), .val (.int p3), .val (.int p4), .val (.int p5)] [(.int p4), (.ref a0)])) rfl rfl (hb hby d1_22)
  have Z11 : n0 ≤ h11.size := Nat.le_trans Z8 (Keep.of_wr W11).1
  have N11 := Fr.snoc X11 N8 g_a0
  have KC11 : Keep h0 h11 [a0] := KC8.wr W11 (Or.inl (List.mem_of_getElem? (i := 0) rfl))
  have Fw11 := y10.same W11
  have y12 := (y9.wr W11)
  have y13 := ((((F_wa0_format32.other W2 (Or.inr (slot_ne (Or.inr (hw _ (List.mem_of_getElem? (i := 24) rfl))) (Or.inr (hw _ (List.mem_of_getElem? (i := 16) rfl))) (by decide) (t := .int) (t' := .int) (by decide) (by decide)))).other W5 (Or.inr (slot_ne (Or.inr (hw _ (List.mem_of_getElem? (i := 24) rfl))) (Or.inr (hw _ (List.mem_of_getElem? (i := 18) rfl))) (by decide) (t := .int) (t' := .int) (by decide) (by decide)))).other W8 (Or.inr (slot_ne (Or.inr (hw _ (List.mem_of_getElem? (i := 24) rfl))) (Or.inr (hw _ (List.mem_of_getElem? (i := 20) rfl))) (by decide) (t := .int) (t' := .int) (by decide) (by decide)))).other W11 (Or.inr (slot_ne (Or.inr (hw _ (List.mem_of_getElem? (i := 24) rfl))) (Or.inr (hw _ (List.mem_of_getElem? (i := 22) rfl))) (by decide) (t := .int) (t' := .int) (by decide) (by decide))))
  obtain ⟨T14, h14, X14, e14, W14, st14⟩ := putF X11 hx hZ hown (host := "") (Or.inl (hw _ (List.mem_of_getElem? (i := 23) rfl))) Via.refl e11 y13 y12 (Or.inr ⟨(hw _ (List.mem_of_getElem? (i := 24) rfl)), rfl, hnm⟩) (hw _ (List.mem_of_getElem? (i := 2) rfl)) (ty := .int) (by decide) rfl rfl (g := (mkF m 28 #[.val (.ref a0), .val (.int p1), .val (.int p2), .val (.int p3), .val (.int p4), .val (.int p5)] [(.int p5), (.ref a0)])) rfl rfl (hb hby d1_28)
  have Z14 : n0 ≤ h14.size := Nat.le_trans Z11 (Keep.of_wr W14).1
  have N14 := Fr.snoc X14 N11 g_a0
  have KC14 : Keep h0 h14 [a0] := KC11.wr W14 (Or.inl (List.mem_of_getElem? (i := 0) rfl))
  have Fw14 := y13.same W14
  have pre15 : ∀ t, Steps p.tables e below (T14.setTop (mkF m 31 #[.val (.ref a0), .val (.int p1), .val (.int p2), .val (.int p3), .val (.int p4), .val (.int p5)] [])) t → Steps p.tables e below (s₁.setTop (entryFrame m #[(.ref a0), (.int p1), (.int p2), (.int p3), (.int p4), (.int p5)] 6)) t := fun t k => pre0 t (by
    show Steps p.tables e below (s₁.setTop (mkF m 0 #[.val (.ref a0), .val (.int p1), .val (.int p2), .val (.int p3), .val (.int p4), .val (.int p5)] [])) _
    refine XS.aloadN X0.here hx rfl (hb hby d1_0) rfl rfl ?_
    show Steps p.tables e below (s₁.setTop (mkF m 1 #[.val (.ref a0), .val (.int p1), .val (.int p2), .val (.int p3), .val (.int p4), .val (.int p5)] [(.ref a0)])) _
    refine st1.trans ?_
    show Steps p.tables e below (T1.setTop (mkF m 4 #[.val (.ref a0), .val (.int p1), .val (.int p2), .val (.int p3), .val (.int p4), .val (.int p5)] [])) _
    refine XS.aloadN X1.here hx rfl (hb hby d1_4) rfl rfl ?_
    show Steps p.tables e below (T1.setTop (mkF m 5 #[.val (.ref a0), .val (.int p1), .val (.int p2), .val (.int p3), .val (.int p4), .val (.int p5)] [(.ref a0)])) _
    refine XS.iloadN X1.here hx rfl (hb hby d1_5) rfl ?_
    show Steps p.tables e below (T1.setTop (mkF m 6 #[.val (.ref a0), .val (.int p1), .val (.int p2), .val (.int p3), .val (.int p4), .val (.int p5)] [(.int p1), (.ref a0)])) _
    refine st2 _ ?_
    show Steps p.tables e below (T2.setTop (mkF m 9 #[.val (.ref a0), .val (.int p1), .val (.int p2), .val (.int p3), .val (.int p4), .val (.int p5)] [])) _
    refine XS.aloadN X2.here hx rfl (hb hby d1_9) rfl rfl ?_
    show Steps p.tables e below (T2.setTop (mkF m 10 #[.val (.ref a0), .val (.int p1), .val (.int p2), .val (.int p3), .val (.int p4), .val (.int p5)] [(.ref a0)])) _
    refine XS.iloadN X2.here hx rfl (hb hby d1_10) rfl ?_
    show Steps p.tables e below (T2.setTop (mkF m 11 #[.val (.ref a0), .val (.int p1), .val (.int p2), .val (.int p3), .val (.int p4), .val (.int p5)] [(.int p2), (.ref a0)])) _
    refine st5 _ ?_
    show Steps p.tables e below (T5.setTop (mkF m 14 #[.val (.ref a0), .val (.int p1), .val (.int p2), .val (.int p3), .val (.int p4), .val (.int p5)] [])) _
    refine XS.aloadN X5.here hx rfl (hb hby d1_14) rfl rfl ?_
    show Steps p.tables e below (T5.setTop (mkF m 15 #[.val (.ref a0), .val (.int p1), .val (.int p2), .val (.int p3), .val (.int p4), .val (.int p5)] [(.ref a0)])) _
    refine XS.iloadN X5.here hx rfl (hb hby d1_15) rfl ?_
    show Steps p.tables e below (T5.setTop (mkF m 16 #[.val (.ref a0), .val (.int p1), .val (.int p2), .val (.int p3), .val (.int p4), .val (.int p5)] [(.int p3), (.ref a0)])) _
    refine st8 _ ?_
    show Steps p.tables e below (T8.setTop (mkF m 19 #[.val (.ref a0), .val (.int p1), .val (.int p2), .val (.int p3), .val (.int p4), .val (.int p5)] [])) _
    refine XS.aloadN X8.here hx rfl (hb hby d1_19) rfl rfl ?_
    show Steps p.tables e below (T8.setTop (mkF m 20 #[.val (.ref a0), .val (.int p1), .val (.int p2), .val (.int p3), .val (.int p4), .val (.int p5)] [(.ref a0)])) _
    refine XS.iload X8.here hx rfl (hb hby d1_20) rfl ?_
    show Steps p.tables e below (T8.setTop (mkF m 22 #[.val (.ref a0), .val (.int p1), .val (.int p2), .val (.int p3), .val (.int p4), .val (.int p5)] [(.int p4), (.ref a0)])) _
    refine st11 _ ?_
    show Steps p.tables e below (T11.setTop (mkF m 25 #[.val (.ref a0), .val (.int p1), .val (.int p2), .val (.int p3), .val (.int p4), .val (.int p5)] [])) _
    refine XS.aloadN X11.here hx rfl (hb hby d1_25) rfl rfl ?_
    show Steps p.tables e below (T11.setTop (mkF m 26 #[.val (.ref a0), .val (.int p1), .val (.int p2), .val (.int p3), .val (.int p4), .val (.int p5)] [(.ref a0)])) _
    refine XS.iload X11.here hx rfl (hb hby d1_26) rfl ?_
    show Steps p.tables e below (T11.setTop (mkF m 28 #[.val (.ref a0), .val (.int p1), .val (.int p2), .val (.int p3), .val (.int p4), .val (.int p5)] [(.int p5), (.ref a0)])) _
    refine st14 _ ?_
    exact k)
  obtain ⟨fs, hr, hrun, hended, hW, hsame⟩ := X14.leave (v := none) (fun _ => rfl)
  have y16 := (y12.wr W14)
  have y17 := ((((Fw2.other W5 (Or.inr (slot_ne (Or.inr (hw _ (List.mem_of_getElem? (i := 16) rfl))) (Or.inr (hw _ (List.mem_of_getElem? (i := 18) rfl))) (by decide) (t := .int) (t' := .int) (by decide) (by decide)))).other W8 (Or.inr (slot_ne (Or.inr (hw _ (List.mem_of_getElem? (i := 16) rfl))) (Or.inr (hw _ (List.mem_of_getElem? (i := 20) rfl))) (by decide) (t := .int) (t' := .int) (by decide) (by decide)))).other W11 (Or.inr (slot_ne (Or.inr (hw _ (List.mem_of_getElem? (i := 16) rfl))) (Or.inr (hw _ (List.mem_of_getElem? (i := 22) rfl))) (by decide) (t := .int) (t' := .int) (by decide) (by decide)))).other W14 (Or.inr (slot_ne (Or.inr (hw _ (List.mem_of_getElem? (i := 16) rfl))) (Or.inr (hw _ (List.mem_of_getElem? (i := 24) rfl))) (by decide) (t := .int) (t' := .int) (by decide) (by decide))))
  have y18 := (((Fw5.other W8 (Or.inr (slot_ne (Or.inr (hw _ (List.mem_of_getElem? (i := 18) rfl))) (Or.inr (hw _ (List.mem_of_getElem? (i := 20) rfl))) (by decide) (t := .int) (t' := .int) (by decide) (by decide)))).other W11 (Or.inr (slot_ne (Or.inr (hw _ (List.mem_of_getElem? (i := 18) rfl))) (Or.inr (hw _ (List.mem_of_getElem? (i := 22) rfl))) (by decide) (t := .int) (t' := .int) (by decide) (by decide)))).other W14 (Or.inr (slot_ne (Or.inr (hw _ (List.mem_of_getElem? (i := 18) rfl))) (Or.inr (hw _ (List.mem_of_getElem? (i := 24) rfl))) (by decide) (t := .int) (t' := .int) (by decide) (by decide))))
  have y19 := ((Fw8.other W11 (Or.inr (slot_ne (Or.inr (hw _ (List.mem_of_getElem? (i := 20) rfl))) (Or.inr (hw _ (List.mem_of_getElem? (i := 22) rfl))) (by decide) (t := .int) (t' := .int) (by decide) (by decide)))).other W14 (Or.inr (slot_ne (Or.inr (hw _ (List.mem_of_getElem? (i := 20) rfl))) (Or.inr (hw _ (List.mem_of_getElem? (i := 24) rfl))) (by decide) (t := .int) (t' := .int) (by decide) (by decide))))
  have y20 := (Fw11.other W14 (Or.inr (slot_ne (Or.inr (hw _ (List.mem_of_getElem? (i := 22) rfl))) (Or.inr (hw _ (List.mem_of_getElem? (i := 24) rfl))) (by decide) (t := .int) (t' := .int) (by decide) (by decide))))
  exact ⟨_, _, pre15 _ (X14.returnOut hx Bd.returns (hb hby d1_31) hr), hrun, hended, _, _, rfl, (by show Q1 Z a0 p1 p2 p3 p4 p5 wa0_fix wa0_fixMax wa0_format8 wa0_format16 wa0_format32 h0 n0 _ T14.heap _; rw [e14]; exact ⟨rfl, N14, KC14, y16, y17, y18, y19, y20, Fw14⟩), ⟨_, rfl⟩, hW, hsame.mono (by decide) (by decide)⟩
def f4_m47 (p1 : Int32) (wa0_fix : Int32) (wa0_format8 : Int32) (wa0_format32 : Int32) (wa0_format16 : Int32) (wa0_fixMax : Int32) : Int32 := (if wa0_fix = (-1 : Int32) then (if wa0_format8 = (-1 : Int32) then (if (65535 : Int32) < p1 then wa0_format32 else wa0_format16) else (if (255 : Int32) < p1 then (if (65535 : Int32) < p1 then wa0_format32 else wa0_format16) else wa0_format8)) else (if wa0_fixMax < p1 then (if wa0_format8 = (-1 : Int32) then (if (65535 : Int32) < p1 then wa0_format32 else wa0_format16) else (if (255 : Int32) < p1 then (if (65535 : Int32) < p1 then wa0_format32 else wa0_format16) else wa0_format8)) else (wa0_fix ||| p1)))
def F4 (p1 : Int32) (wa0_fix : Int32) (wa0_format8 : Int32) (wa0_format32 : Int32) (wa0_format16 : Int32) (wa0_fixMax : Int32) : Int32 := (f4_m47 p1 wa0_fix wa0_format8 wa0_format32 wa0_format16 wa0_fixMax)
theorem ef4 (m : MethodId) (x0 : Addr) (x1 : Int32) : entryFrame m #[(.ref x0), (.int x1)] 3 = mkF m 0 #[.val (.ref x0), .val (.int x1), .unset] [] := by first | (simp [entryFrame, mkF, argsToLocals, Value.category]; done) | rfl
def Q4 (Z : State) (a0 : Addr) (p1 : Int32) (wa0_fix : Int32) (wa0_format8 : Int32) (wa0_format32 : Int32) (wa0_format16 : Int32) (wa0_fixMax : Int32) (h0 : Heap) (n0 : Nat) (v : Option Value) (h : Heap) (L : List Loc) : Prop := v = some (.int (F4 p1 wa0_fix wa0_format8 wa0_format32 wa0_format16 wa0_fixMax)) ∧ Fr n0 L ∧ h = h0
set_option maxRecDepth 65536 in
set_option maxHeartbeats 40000000 in
theorem rm4 (l : Launch) (Z : State) (a0' : Array Value) (hw : ∀ d ∈ tables_1, d.before a0' Z = true) (ws : List Jvm.Cond) (a0 : Addr) (p1 : Int32) (wa0_fix : Int32) (wa0_format8 : Int32) (wa0_format32 : Int32) (wa0_format16 : Int32) (wa0_fixMax : Int32) (h0 : Heap) (n0 : Nat) (Z0 : n0 ≤ h0.size) (F_wa0_fix : Fld Z h0 a0 "com/example/furoshiki/furoshiki/Format$SizedFormats" "fix" "I" (.int wa0_fix)) (F_wa0_format8 : Fld Z h0 a0 "com/example/furoshiki/furoshiki/Format$SizedFormats" "format8" "I" (.int wa0_format8)) (F_wa0_format32 : Fld Z h0 a0 "com/example/furoshiki/furoshiki/Format$SizedFormats" "format32" "I" (.int wa0_format32)) (F_wa0_format16 : Fld Z h0 a0 "com/example/furoshiki/furoshiki/Format$SizedFormats" "format16" "I" (.int wa0_format16)) (F_wa0_fixMax : Fld Z h0 a0 "com/example/furoshiki/furoshiki/Format$SizedFormats" "fixMax" "I" (.int wa0_fixMax)) :
    MetFree l (⟨"com/example/furoshiki/furoshiki/Format$SizedFormats", "formatFor", "(I)I"⟩ : MethodName) (head1 (Jvm.Cond.code (⟨"com/example/furoshiki/furoshiki/Format$SizedFormats", "formatFor", "(I)I"⟩ : MethodName) prog_7_method_2_code 3 (some .int) :: ws) ({ frames := 0, cells := 0, slots := 0, locals := 0 } : Room)) (fun a U => a = #[(.ref a0), (.int p1)] ∧ Z.Warmed39 U.vm ∧ U.heap = h0) (fun _ _ _ _ _ => True) (fun _ U o U' => ∃ v L, o = .returned v ∧ Q4 Z a0 p1 wa0_fix wa0_format8 wa0_format32 wa0_format16 wa0_fixMax h0 n0 v U'.heap L ∧ FrameEnd U o U' L ({ frames := 0, cells := 0, slots := 0, locals := 0 } : Room).cells ({ frames := 0, cells := 0, slots := 0, locals := 0 } : Room).slots) := by
  refine MetFree.of_bodySF (plainFor_of_name pn1) hisR ?_
  intro p e s m args below meth c s₁ Bd hml0 hP hK
  obtain ⟨rfl, hZ, hh⟩ := hP
  have hx := Bd.exec
  have hby := Bd.bytes
  have hml : c.maxLocals = 3 := hml0
  have hown : s.vm.findClass "com/example/furoshiki/furoshiki/Format$SizedFormats" = some m.cls := findClass_of_methodNamed Bd.named
  have hnm := (name_of_methodNamed Bd.named Bd.method).1
  have X0 : Stand p l e ({ frames := 0, cells := 0, slots := 0, locals := 0 } : Room) s m #[(.ref a0), (.int p1)] below meth c s₁ [] 0 0 := Stand.of_body Bd
  have e0 : s₁.heap = h0 := by rw [← hh, Bd.state]; rfl
  have N0 := Fr.nil n0
  have pre0 : ∀ t, Steps p.tables e below (s₁.setTop (mkF m 0 #[.val (.ref a0), .val (.int p1), .unset] [])) t → Steps p.tables e below (s₁.setTop (entryFrame m #[(.ref a0), (.int p1)] 3)) t := fun t k => castTop (ef4 m a0 p1) k
  obtain ⟨T1, X1, e1, st1⟩ := getF X0 hx hZ hown (host := "") (Or.inl (hw _ (List.mem_of_getElem? (i := 15) rfl))) Via.refl e0 F_wa0_fix (g := (mkF m 1 #[.val (.ref a0), .val (.int p1), .unset] [(.ref a0)])) rfl rfl (hb hby d4_1)
  have pre2 : ∀ t, Steps p.tables e below (T1.setTop (mkF m 5 #[.val (.ref a0), .val (.int p1), .unset] [(.int (-1 : Int32)), (.int wa0_fix)])) t → Steps p.tables e below (s₁.setTop (entryFrame m #[(.ref a0), (.int p1)] 3)) t := fun t k => pre0 t (by
    show Steps p.tables e below (s₁.setTop (mkF m 0 #[.val (.ref a0), .val (.int p1), .unset] [])) _
    refine XS.aloadN X0.here hx rfl (hb hby d4_0) rfl rfl ?_
    show Steps p.tables e below (s₁.setTop (mkF m 1 #[.val (.ref a0), .val (.int p1), .unset] [(.ref a0)])) _
    refine st1 _ ?_
    show Steps p.tables e below (T1.setTop (mkF m 4 #[.val (.ref a0), .val (.int p1), .unset] [(.int wa0_fix)])) _
    refine XS.iconst X1.here hx rfl (hb hby d4_4) ?_
    exact k)
  obtain ⟨T3, L3, X3, e3, N3, pre3⟩ : ∃ (T' : State) (locs' : List Loc), Stand p l e ({ frames := 0, cells := 0, slots := 0, locals := 0 } : Room) s m #[(.ref a0), (.int p1)] below meth c T' locs' 0 0 ∧ T'.heap = h0 ∧ Fr n0 locs' ∧ ∀ t, Steps p.tables e below (T'.setTop (mkF m 68 #[.val (.ref a0), .val (.int p1), .val (.int (f4_m47 p1 wa0_fix wa0_format8 wa0_format32 wa0_format16 wa0_fixMax))] [])) t → Steps p.tables e below (s₁.setTop (entryFrame m #[(.ref a0), (.int p1)] 3)) t := by
    by_cases hc5_3 : wa0_fix = (-1 : Int32)
    · obtain ⟨T4, X4, e4, st4⟩ := getF X1 hx hZ hown (host := "") (Or.inl (hw _ (List.mem_of_getElem? (i := 19) rfl))) Via.refl e1 F_wa0_format8 (g := (mkF m 27 #[.val (.ref a0), .val (.int p1), .unset] [(.ref a0)])) rfl rfl (hb hby d4_27)
      have pre5 : ∀ t, Steps p.tables e below (T4.setTop (mkF m 31 #[.val (.ref a0), .val (.int p1), .unset] [(.int (-1 : Int32)), (.int wa0_format8)])) t → Steps p.tables e below (s₁.setTop (entryFrame m #[(.ref a0), (.int p1)] 3)) t := fun t k => pre2 t (by
        show Steps p.tables e below (T1.setTop (mkF m 5 #[.val (.ref a0), .val (.int p1), .unset] [(.int (-1 : Int32)), (.int wa0_fix)])) _
        refine XS.icmpYes X1.here hx rfl (pc0 := 5) (pc' := 26) rfl (hb hby d4_5) rfl (teq hc5_3).1 (by decide) (by decide) ?_
        show Steps p.tables e below (T1.setTop (mkF m 26 #[.val (.ref a0), .val (.int p1), .unset] [])) _
        refine XS.aloadN X1.here hx rfl (hb hby d4_26) rfl rfl ?_
        show Steps p.tables e below (T1.setTop (mkF m 27 #[.val (.ref a0), .val (.int p1), .unset] [(.ref a0)])) _
        refine st4 _ ?_
        show Steps p.tables e below (T4.setTop (mkF m 30 #[.val (.ref a0), .val (.int p1), .unset] [(.int wa0_format8)])) _
        refine XS.iconst X4.here hx rfl (hb hby d4_30) ?_
        exact k)
      by_cases hc31_6 : wa0_format8 = (-1 : Int32)
      · have pre7 : ∀ t, Steps p.tables e below (T4.setTop (mkF m 52 #[.val (.ref a0), .val (.int p1), .unset] [(.int (65535 : Int32)), (.int p1)])) t → Steps p.tables e below (s₁.setTop (entryFrame m #[(.ref a0), (.int p1)] 3)) t := fun t k => pre5 t (by
          show Steps p.tables e below (T4.setTop (mkF m 31 #[.val (.ref a0), .val (.int p1), .unset] [(.int (-1 : Int32)), (.int wa0_format8)])) _
          refine XS.icmpYes X4.here hx rfl (pc0 := 31) (pc' := 49) rfl (hb hby d4_31) rfl (teq hc31_6).1 (by decide) (by decide) ?_
          show Steps p.tables e below (T4.setTop (mkF m 49 #[.val (.ref a0), .val (.int p1), .unset] [])) _
          refine XS.iloadN X4.here hx rfl (hb hby d4_49) rfl ?_
          show Steps p.tables e below (T4.setTop (mkF m 50 #[.val (.ref a0), .val (.int p1), .unset] [(.int p1)])) _
          refine X4.ldcInt hx hown (mvT hZ (hw _ (List.mem_of_getElem? (i := 35) rfl))) (g := (mkF m 50 #[.val (.ref a0), .val (.int p1), .unset] [(.int p1)])) rfl (hb hby d4_50) _ ?_
          exact k)
        by_cases hc52_8 : (65535 : Int32) < p1
        · obtain ⟨T9, X9, e9, st9⟩ := getF X4 hx hZ hown (host := "") (Or.inl (hw _ (List.mem_of_getElem? (i := 23) rfl))) Via.refl e4 F_wa0_format32 (g := (mkF m 64 #[.val (.ref a0), .val (.int p1), .unset] [(.ref a0)])) rfl rfl (hb hby d4_64)
          have pre10 : ∀ t, Steps p.tables e below (T9.setTop (mkF m 68 #[.val (.ref a0), .val (.int p1), .val (.int wa0_format32)] [])) t → Steps p.tables e below (s₁.setTop (entryFrame m #[(.ref a0), (.int p1)] 3)) t := fun t k => pre7 t (by
            show Steps p.tables e below (T4.setTop (mkF m 52 #[.val (.ref a0), .val (.int p1), .unset] [(.int (65535 : Int32)), (.int p1)])) _
            refine XS.icmpYes X4.here hx rfl (pc0 := 52) (pc' := 63) rfl (hb hby d4_52) rfl (tlt hc52_8).2.2.1 (by decide) (by decide) ?_
            show Steps p.tables e below (T4.setTop (mkF m 63 #[.val (.ref a0), .val (.int p1), .unset] [])) _
            refine XS.aloadN X4.here hx rfl (hb hby d4_63) rfl rfl ?_
            show Steps p.tables e below (T4.setTop (mkF m 64 #[.val (.ref a0), .val (.int p1), .unset] [(.ref a0)])) _
            refine st9 _ ?_
            show Steps p.tables e below (T9.setTop (mkF m 67 #[.val (.ref a0), .val (.int p1), .unset] [(.int wa0_format32)])) _
            refine XS.istoreN X9.here hx rfl (hb hby d4_67) rfl (l' := #[.val (.ref a0), .val (.int p1), .val (.int wa0_format32)]) rfl ?_
            exact k)
          have q_f4_m47 : f4_m47 p1 wa0_fix wa0_format8 wa0_format32 wa0_format16 wa0_fixMax = wa0_format32 := by unfold f4_m47; rw [if_pos hc5_3, if_pos hc31_6, if_pos hc52_8]
          rw [q_f4_m47]
          exact ⟨T9, _, X9, e9, N0, pre10⟩
        obtain ⟨T11, X11, e11, st11⟩ := getF X4 hx hZ hown (host := "") (Or.inl (hw _ (List.mem_of_getElem? (i := 21) rfl))) Via.refl e4 F_wa0_format16 (g := (mkF m 56 #[.val (.ref a0), .val (.int p1), .unset] [(.ref a0)])) rfl rfl (hb hby d4_56)
        have pre12 : ∀ t, Steps p.tables e below (T11.setTop (mkF m 68 #[.val (.ref a0), .val (.int p1), .val (.int wa0_format16)] [])) t → Steps p.tables e below (s₁.setTop (entryFrame m #[(.ref a0), (.int p1)] 3)) t := fun t k => pre7 t (by
          show Steps p.tables e below (T4.setTop (mkF m 52 #[.val (.ref a0), .val (.int p1), .unset] [(.int (65535 : Int32)), (.int p1)])) _
          refine XS.icmpNo X4.here hx rfl (hb hby d4_52) rfl (flt hc52_8).2.2.1 ?_
          show Steps p.tables e below (T4.setTop (mkF m 55 #[.val (.ref a0), .val (.int p1), .unset] [])) _
          refine XS.aloadN X4.here hx rfl (hb hby d4_55) rfl rfl ?_
          show Steps p.tables e below (T4.setTop (mkF m 56 #[.val (.ref a0), .val (.int p1), .unset] [(.ref a0)])) _
          refine st11 _ ?_
          show Steps p.tables e below (T11.setTop (mkF m 59 #[.val (.ref a0), .val (.int p1), .unset] [(.int wa0_format16)])) _
          refine XS.istoreN X11.here hx rfl (hb hby d4_59) rfl (l' := #[.val (.ref a0), .val (.int p1), .val (.int wa0_format16)]) rfl ?_
          show Steps p.tables e below (T11.setTop (mkF m 60 #[.val (.ref a0), .val (.int p1), .val (.int wa0_format16)] [])) _
          refine XS.goto X11.here hx rfl (pc0 := 60) (pc' := 68) rfl (hb hby d4_60) (by decide) (by decide) ?_
          exact k)
        have q_f4_m47 : f4_m47 p1 wa0_fix wa0_format8 wa0_format32 wa0_format16 wa0_fixMax = wa0_format16 := by unfold f4_m47; rw [if_pos hc5_3, if_pos hc31_6, if_neg hc52_8]
        rw [q_f4_m47]
        exact ⟨T11, _, X11, e11, N0, pre12⟩
      have pre13 : ∀ t, Steps p.tables e below (T4.setTop (mkF m 38 #[.val (.ref a0), .val (.int p1), .unset] [(.int (255 : Int32)), (.int p1)])) t → Steps p.tables e below (s₁.setTop (entryFrame m #[(.ref a0), (.int p1)] 3)) t := fun t k => pre5 t (by
        show Steps p.tables e below (T4.setTop (mkF m 31 #[.val (.ref a0), .val (.int p1), .unset] [(.int (-1 : Int32)), (.int wa0_format8)])) _
        refine XS.icmpNo X4.here hx rfl (hb hby d4_31) rfl (feq hc31_6).1 ?_
        show Steps p.tables e below (T4.setTop (mkF m 34 #[.val (.ref a0), .val (.int p1), .unset] [])) _
        refine XS.iloadN X4.here hx rfl (hb hby d4_34) rfl ?_
        show Steps p.tables e below (T4.setTop (mkF m 35 #[.val (.ref a0), .val (.int p1), .unset] [(.int p1)])) _
        refine XS.sipush X4.here hx rfl (hb hby d4_35) ?_
        exact k)
      by_cases hc38_14 : (255 : Int32) < p1
      · have pre15 : ∀ t, Steps p.tables e below (T4.setTop (mkF m 52 #[.val (.ref a0), .val (.int p1), .unset] [(.int (65535 : Int32)), (.int p1)])) t → Steps p.tables e below (s₁.setTop (entryFrame m #[(.ref a0), (.int p1)] 3)) t := fun t k => pre13 t (by
          show Steps p.tables e below (T4.setTop (mkF m 38 #[.val (.ref a0), .val (.int p1), .unset] [(.int (255 : Int32)), (.int p1)])) _
          refine XS.icmpYes X4.here hx rfl (pc0 := 38) (pc' := 49) rfl (hb hby d4_38) rfl (tlt hc38_14).2.2.1 (by decide) (by decide) ?_
          show Steps p.tables e below (T4.setTop (mkF m 49 #[.val (.ref a0), .val (.int p1), .unset] [])) _
          refine XS.iloadN X4.here hx rfl (hb hby d4_49) rfl ?_
          show Steps p.tables e below (T4.setTop (mkF m 50 #[.val (.ref a0), .val (.int p1), .unset] [(.int p1)])) _
          refine X4.ldcInt hx hown (mvT hZ (hw _ (List.mem_of_getElem? (i := 35) rfl))) (g := (mkF m 50 #[.val (.ref a0), .val (.int p1), .unset] [(.int p1)])) rfl (hb hby d4_50) _ ?_
          exact k)
        by_cases hc52_16 : (65535 : Int32) < p1
        · obtain ⟨T17, X17, e17, st17⟩ := getF X4 hx hZ hown (host := "") (Or.inl (hw _ (List.mem_of_getElem? (i := 23) rfl))) Via.refl e4 F_wa0_format32 (g := (mkF m 64 #[.val (.ref a0), .val (.int p1), .unset] [(.ref a0)])) rfl rfl (hb hby d4_64)
          have pre18 : ∀ t, Steps p.tables e below (T17.setTop (mkF m 68 #[.val (.ref a0), .val (.int p1), .val (.int wa0_format32)] [])) t → Steps p.tables e below (s₁.setTop (entryFrame m #[(.ref a0), (.int p1)] 3)) t := fun t k => pre15 t (by
            show Steps p.tables e below (T4.setTop (mkF m 52 #[.val (.ref a0), .val (.int p1), .unset] [(.int (65535 : Int32)), (.int p1)])) _
            refine XS.icmpYes X4.here hx rfl (pc0 := 52) (pc' := 63) rfl (hb hby d4_52) rfl (tlt hc52_16).2.2.1 (by decide) (by decide) ?_
            show Steps p.tables e below (T4.setTop (mkF m 63 #[.val (.ref a0), .val (.int p1), .unset] [])) _
            refine XS.aloadN X4.here hx rfl (hb hby d4_63) rfl rfl ?_
            show Steps p.tables e below (T4.setTop (mkF m 64 #[.val (.ref a0), .val (.int p1), .unset] [(.ref a0)])) _
            refine st17 _ ?_
            show Steps p.tables e below (T17.setTop (mkF m 67 #[.val (.ref a0), .val (.int p1), .unset] [(.int wa0_format32)])) _
            refine XS.istoreN X17.here hx rfl (hb hby d4_67) rfl (l' := #[.val (.ref a0), .val (.int p1), .val (.int wa0_format32)]) rfl ?_
            exact k)
          have q_f4_m47 : f4_m47 p1 wa0_fix wa0_format8 wa0_format32 wa0_format16 wa0_fixMax = wa0_format32 := by unfold f4_m47; rw [if_pos hc5_3, if_neg hc31_6, if_pos hc38_14, if_pos hc52_16]
          rw [q_f4_m47]
          exact ⟨T17, _, X17, e17, N0, pre18⟩
        obtain ⟨T19, X19, e19, st19⟩ := getF X4 hx hZ hown (host := "") (Or.inl (hw _ (List.mem_of_getElem? (i := 21) rfl))) Via.refl e4 F_wa0_format16 (g := (mkF m 56 #[.val (.ref a0), .val (.int p1), .unset] [(.ref a0)])) rfl rfl (hb hby d4_56)
        have pre20 : ∀ t, Steps p.tables e below (T19.setTop (mkF m 68 #[.val (.ref a0), .val (.int p1), .val (.int wa0_format16)] [])) t → Steps p.tables e below (s₁.setTop (entryFrame m #[(.ref a0), (.int p1)] 3)) t := fun t k => pre15 t (by
          show Steps p.tables e below (T4.setTop (mkF m 52 #[.val (.ref a0), .val (.int p1), .unset] [(.int (65535 : Int32)), (.int p1)])) _
          refine XS.icmpNo X4.here hx rfl (hb hby d4_52) rfl (flt hc52_16).2.2.1 ?_
          show Steps p.tables e below (T4.setTop (mkF m 55 #[.val (.ref a0), .val (.int p1), .unset] [])) _
          refine XS.aloadN X4.here hx rfl (hb hby d4_55) rfl rfl ?_
          show Steps p.tables e below (T4.setTop (mkF m 56 #[.val (.ref a0), .val (.int p1), .unset] [(.ref a0)])) _
          refine st19 _ ?_
          show Steps p.tables e below (T19.setTop (mkF m 59 #[.val (.ref a0), .val (.int p1), .unset] [(.int wa0_format16)])) _
          refine XS.istoreN X19.here hx rfl (hb hby d4_59) rfl (l' := #[.val (.ref a0), .val (.int p1), .val (.int wa0_format16)]) rfl ?_
          show Steps p.tables e below (T19.setTop (mkF m 60 #[.val (.ref a0), .val (.int p1), .val (.int wa0_format16)] [])) _
          refine XS.goto X19.here hx rfl (pc0 := 60) (pc' := 68) rfl (hb hby d4_60) (by decide) (by decide) ?_
          exact k)
        have q_f4_m47 : f4_m47 p1 wa0_fix wa0_format8 wa0_format32 wa0_format16 wa0_fixMax = wa0_format16 := by unfold f4_m47; rw [if_pos hc5_3, if_neg hc31_6, if_pos hc38_14, if_neg hc52_16]
        rw [q_f4_m47]
        exact ⟨T19, _, X19, e19, N0, pre20⟩
      obtain ⟨T21, X21, e21, st21⟩ := getF X4 hx hZ hown (host := "") (Or.inl (hw _ (List.mem_of_getElem? (i := 19) rfl))) Via.refl e4 F_wa0_format8 (g := (mkF m 42 #[.val (.ref a0), .val (.int p1), .unset] [(.ref a0)])) rfl rfl (hb hby d4_42)
      have pre22 : ∀ t, Steps p.tables e below (T21.setTop (mkF m 68 #[.val (.ref a0), .val (.int p1), .val (.int wa0_format8)] [])) t → Steps p.tables e below (s₁.setTop (entryFrame m #[(.ref a0), (.int p1)] 3)) t := fun t k => pre13 t (by
        show Steps p.tables e below (T4.setTop (mkF m 38 #[.val (.ref a0), .val (.int p1), .unset] [(.int (255 : Int32)), (.int p1)])) _
        refine XS.icmpNo X4.here hx rfl (hb hby d4_38) rfl (flt hc38_14).2.2.1 ?_
        show Steps p.tables e below (T4.setTop (mkF m 41 #[.val (.ref a0), .val (.int p1), .unset] [])) _
        refine XS.aloadN X4.here hx rfl (hb hby d4_41) rfl rfl ?_
        show Steps p.tables e below (T4.setTop (mkF m 42 #[.val (.ref a0), .val (.int p1), .unset] [(.ref a0)])) _
        refine st21 _ ?_
        show Steps p.tables e below (T21.setTop (mkF m 45 #[.val (.ref a0), .val (.int p1), .unset] [(.int wa0_format8)])) _
        refine XS.istoreN X21.here hx rfl (hb hby d4_45) rfl (l' := #[.val (.ref a0), .val (.int p1), .val (.int wa0_format8)]) rfl ?_
        show Steps p.tables e below (T21.setTop (mkF m 46 #[.val (.ref a0), .val (.int p1), .val (.int wa0_format8)] [])) _
        refine XS.goto X21.here hx rfl (pc0 := 46) (pc' := 68) rfl (hb hby d4_46) (by decide) (by decide) ?_
        exact k)
      have q_f4_m47 : f4_m47 p1 wa0_fix wa0_format8 wa0_format32 wa0_format16 wa0_fixMax = wa0_format8 := by unfold f4_m47; rw [if_pos hc5_3, if_neg hc31_6, if_neg hc38_14]
      rw [q_f4_m47]
      exact ⟨T21, _, X21, e21, N0, pre22⟩
    obtain ⟨T23, X23, e23, st23⟩ := getF X1 hx hZ hown (host := "") (Or.inl (hw _ (List.mem_of_getElem? (i := 17) rfl))) Via.refl e1 F_wa0_fixMax (g := (mkF m 10 #[.val (.ref a0), .val (.int p1), .unset] [(.ref a0), (.int p1)])) rfl rfl (hb hby d4_10)
    have pre24 : ∀ t, Steps p.tables e below (T23.setTop (mkF m 13 #[.val (.ref a0), .val (.int p1), .unset] [(.int wa0_fixMax), (.int p1)])) t → Steps p.tables e below (s₁.setTop (entryFrame m #[(.ref a0), (.int p1)] 3)) t := fun t k => pre2 t (by
      show Steps p.tables e below (T1.setTop (mkF m 5 #[.val (.ref a0), .val (.int p1), .unset] [(.int (-1 : Int32)), (.int wa0_fix)])) _
      refine XS.icmpNo X1.here hx rfl (hb hby d4_5) rfl (feq hc5_3).1 ?_
      show Steps p.tables e below (T1.setTop (mkF m 8 #[.val (.ref a0), .val (.int p1), .unset] [])) _
      refine XS.iloadN X1.here hx rfl (hb hby d4_8) rfl ?_
      show Steps p.tables e below (T1.setTop (mkF m 9 #[.val (.ref a0), .val (.int p1), .unset] [(.int p1)])) _
      refine XS.aloadN X1.here hx rfl (hb hby d4_9) rfl rfl ?_
      show Steps p.tables e below (T1.setTop (mkF m 10 #[.val (.ref a0), .val (.int p1), .unset] [(.ref a0), (.int p1)])) _
      refine st23 _ ?_
      exact k)
    by_cases hc13_25 : wa0_fixMax < p1
    · obtain ⟨T26, X26, e26, st26⟩ := getF X23 hx hZ hown (host := "") (Or.inl (hw _ (List.mem_of_getElem? (i := 19) rfl))) Via.refl e23 F_wa0_format8 (g := (mkF m 27 #[.val (.ref a0), .val (.int p1), .unset] [(.ref a0)])) rfl rfl (hb hby d4_27)
      have pre27 : ∀ t, Steps p.tables e below (T26.setTop (mkF m 31 #[.val (.ref a0), .val (.int p1), .unset] [(.int (-1 : Int32)), (.int wa0_format8)])) t → Steps p.tables e below (s₁.setTop (entryFrame m #[(.ref a0), (.int p1)] 3)) t := fun t k => pre24 t (by
        show Steps p.tables e below (T23.setTop (mkF m 13 #[.val (.ref a0), .val (.int p1), .unset] [(.int wa0_fixMax), (.int p1)])) _
        refine XS.icmpYes X23.here hx rfl (pc0 := 13) (pc' := 26) rfl (hb hby d4_13) rfl (tlt hc13_25).2.2.1 (by decide) (by decide) ?_
        show Steps p.tables e below (T23.setTop (mkF m 26 #[.val (.ref a0), .val (.int p1), .unset] [])) _
        refine XS.aloadN X23.here hx rfl (hb hby d4_26) rfl rfl ?_
        show Steps p.tables e below (T23.setTop (mkF m 27 #[.val (.ref a0), .val (.int p1), .unset] [(.ref a0)])) _
        refine st26 _ ?_
        show Steps p.tables e below (T26.setTop (mkF m 30 #[.val (.ref a0), .val (.int p1), .unset] [(.int wa0_format8)])) _
        refine XS.iconst X26.here hx rfl (hb hby d4_30) ?_
        exact k)
      by_cases hc31_28 : wa0_format8 = (-1 : Int32)
      · have pre29 : ∀ t, Steps p.tables e below (T26.setTop (mkF m 52 #[.val (.ref a0), .val (.int p1), .unset] [(.int (65535 : Int32)), (.int p1)])) t → Steps p.tables e below (s₁.setTop (entryFrame m #[(.ref a0), (.int p1)] 3)) t := fun t k => pre27 t (by
          show Steps p.tables e below (T26.setTop (mkF m 31 #[.val (.ref a0), .val (.int p1), .unset] [(.int (-1 : Int32)), (.int wa0_format8)])) _
          refine XS.icmpYes X26.here hx rfl (pc0 := 31) (pc' := 49) rfl (hb hby d4_31) rfl (teq hc31_28).1 (by decide) (by decide) ?_
          show Steps p.tables e below (T26.setTop (mkF m 49 #[.val (.ref a0), .val (.int p1), .unset] [])) _
          refine XS.iloadN X26.here hx rfl (hb hby d4_49) rfl ?_
          show Steps p.tables e below (T26.setTop (mkF m 50 #[.val (.ref a0), .val (.int p1), .unset] [(.int p1)])) _
          refine X26.ldcInt hx hown (mvT hZ (hw _ (List.mem_of_getElem? (i := 35) rfl))) (g := (mkF m 50 #[.val (.ref a0), .val (.int p1), .unset] [(.int p1)])) rfl (hb hby d4_50) _ ?_
          exact k)
        by_cases hc52_30 : (65535 : Int32) < p1
        · obtain ⟨T31, X31, e31, st31⟩ := getF X26 hx hZ hown (host := "") (Or.inl (hw _ (List.mem_of_getElem? (i := 23) rfl))) Via.refl e26 F_wa0_format32 (g := (mkF m 64 #[.val (.ref a0), .val (.int p1), .unset] [(.ref a0)])) rfl rfl (hb hby d4_64)
          have pre32 : ∀ t, Steps p.tables e below (T31.setTop (mkF m 68 #[.val (.ref a0), .val (.int p1), .val (.int wa0_format32)] [])) t → Steps p.tables e below (s₁.setTop (entryFrame m #[(.ref a0), (.int p1)] 3)) t := fun t k => pre29 t (by
            show Steps p.tables e below (T26.setTop (mkF m 52 #[.val (.ref a0), .val (.int p1), .unset] [(.int (65535 : Int32)), (.int p1)])) _
            refine XS.icmpYes X26.here hx rfl (pc0 := 52) (pc' := 63) rfl (hb hby d4_52) rfl (tlt hc52_30).2.2.1 (by decide) (by decide) ?_
            show Steps p.tables e below (T26.setTop (mkF m 63 #[.val (.ref a0), .val (.int p1), .unset] [])) _
            refine XS.aloadN X26.here hx rfl (hb hby d4_63) rfl rfl ?_
            show Steps p.tables e below (T26.setTop (mkF m 64 #[.val (.ref a0), .val (.int p1), .unset] [(.ref a0)])) _
            refine st31 _ ?_
            show Steps p.tables e below (T31.setTop (mkF m 67 #[.val (.ref a0), .val (.int p1), .unset] [(.int wa0_format32)])) _
            refine XS.istoreN X31.here hx rfl (hb hby d4_67) rfl (l' := #[.val (.ref a0), .val (.int p1), .val (.int wa0_format32)]) rfl ?_
            exact k)
          have q_f4_m47 : f4_m47 p1 wa0_fix wa0_format8 wa0_format32 wa0_format16 wa0_fixMax = wa0_format32 := by unfold f4_m47; rw [if_neg hc5_3, if_pos hc13_25, if_pos hc31_28, if_pos hc52_30]
          rw [q_f4_m47]
          exact ⟨T31, _, X31, e31, N0, pre32⟩
        obtain ⟨T33, X33, e33, st33⟩ := getF X26 hx hZ hown (host := "") (Or.inl (hw _ (List.mem_of_getElem? (i := 21) rfl))) Via.refl e26 F_wa0_format16 (g := (mkF m 56 #[.val (.ref a0), .val (.int p1), .unset] [(.ref a0)])) rfl rfl (hb hby d4_56)
        have pre34 : ∀ t, Steps p.tables e below (T33.setTop (mkF m 68 #[.val (.ref a0), .val (.int p1), .val (.int wa0_format16)] [])) t → Steps p.tables e below (s₁.setTop (entryFrame m #[(.ref a0), (.int p1)] 3)) t := fun t k => pre29 t (by
          show Steps p.tables e below (T26.setTop (mkF m 52 #[.val (.ref a0), .val (.int p1), .unset] [(.int (65535 : Int32)), (.int p1)])) _
          refine XS.icmpNo X26.here hx rfl (hb hby d4_52) rfl (flt hc52_30).2.2.1 ?_
          show Steps p.tables e below (T26.setTop (mkF m 55 #[.val (.ref a0), .val (.int p1), .unset] [])) _
          refine XS.aloadN X26.here hx rfl (hb hby d4_55) rfl rfl ?_
          show Steps p.tables e below (T26.setTop (mkF m 56 #[.val (.ref a0), .val (.int p1), .unset] [(.ref a0)])) _
          refine st33 _ ?_
          show Steps p.tables e below (T33.setTop (mkF m 59 #[.val (.ref a0), .val (.int p1), .unset] [(.int wa0_format16)])) _
          refine XS.istoreN X33.here hx rfl (hb hby d4_59) rfl (l' := #[.val (.ref a0), .val (.int p1), .val (.int wa0_format16)]) rfl ?_
          show Steps p.tables e below (T33.setTop (mkF m 60 #[.val (.ref a0), .val (.int p1), .val (.int wa0_format16)] [])) _
          refine XS.goto X33.here hx rfl (pc0 := 60) (pc' := 68) rfl (hb hby d4_60) (by decide) (by decide) ?_
          exact k)
        have q_f4_m47 : f4_m47 p1 wa0_fix wa0_format8 wa0_format32 wa0_format16 wa0_fixMax = wa0_format16 := by unfold f4_m47; rw [if_neg hc5_3, if_pos hc13_25, if_pos hc31_28, if_neg hc52_30]
        rw [q_f4_m47]
        exact ⟨T33, _, X33, e33, N0, pre34⟩
      have pre35 : ∀ t, Steps p.tables e below (T26.setTop (mkF m 38 #[.val (.ref a0), .val (.int p1), .unset] [(.int (255 : Int32)), (.int p1)])) t → Steps p.tables e below (s₁.setTop (entryFrame m #[(.ref a0), (.int p1)] 3)) t := fun t k => pre27 t (by
        show Steps p.tables e below (T26.setTop (mkF m 31 #[.val (.ref a0), .val (.int p1), .unset] [(.int (-1 : Int32)), (.int wa0_format8)])) _
        refine XS.icmpNo X26.here hx rfl (hb hby d4_31) rfl (feq hc31_28).1 ?_
        show Steps p.tables e below (T26.setTop (mkF m 34 #[.val (.ref a0), .val (.int p1), .unset] [])) _
        refine XS.iloadN X26.here hx rfl (hb hby d4_34) rfl ?_
        show Steps p.tables e below (T26.setTop (mkF m 35 #[.val (.ref a0), .val (.int p1), .unset] [(.int p1)])) _
        refine XS.sipush X26.here hx rfl (hb hby d4_35) ?_
        exact k)
      by_cases hc38_36 : (255 : Int32) < p1
      · have pre37 : ∀ t, Steps p.tables e below (T26.setTop (mkF m 52 #[.val (.ref a0), .val (.int p1), .unset] [(.int (65535 : Int32)), (.int p1)])) t → Steps p.tables e below (s₁.setTop (entryFrame m #[(.ref a0), (.int p1)] 3)) t := fun t k => pre35 t (by
          show Steps p.tables e below (T26.setTop (mkF m 38 #[.val (.ref a0), .val (.int p1), .unset] [(.int (255 : Int32)), (.int p1)])) _
          refine XS.icmpYes X26.here hx rfl (pc0 := 38) (pc' := 49) rfl (hb hby d4_38) rfl (tlt hc38_36).2.2.1 (by decide) (by decide) ?_
          show Steps p.tables e below (T26.setTop (mkF m 49 #[.val (.ref a0), .val (.int p1), .unset] [])) _
          refine XS.iloadN X26.here hx rfl (hb hby d4_49) rfl ?_
          show Steps p.tables e below (T26.setTop (mkF m 50 #[.val (.ref a0), .val (.int p1), .unset] [(.int p1)])) _
          refine X26.ldcInt hx hown (mvT hZ (hw _ (List.mem_of_getElem? (i := 35) rfl))) (g := (mkF m 50 #[.val (.ref a0), .val (.int p1), .unset] [(.int p1)])) rfl (hb hby d4_50) _ ?_
          exact k)
        by_cases hc52_38 : (65535 : Int32) < p1
        · obtain ⟨T39, X39, e39, st39⟩ := getF X26 hx hZ hown (host := "") (Or.inl (hw _ (List.mem_of_getElem? (i := 23) rfl))) Via.refl e26 F_wa0_format32 (g := (mkF m 64 #[.val (.ref a0), .val (.int p1), .unset] [(.ref a0)])) rfl rfl (hb hby d4_64)
          have pre40 : ∀ t, Steps p.tables e below (T39.setTop (mkF m 68 #[.val (.ref a0), .val (.int p1), .val (.int wa0_format32)] [])) t → Steps p.tables e below (s₁.setTop (entryFrame m #[(.ref a0), (.int p1)] 3)) t := fun t k => pre37 t (by
            show Steps p.tables e below (T26.setTop (mkF m 52 #[.val (.ref a0), .val (.int p1), .unset] [(.int (65535 : Int32)), (.int p1)])) _
            refine XS.icmpYes X26.here hx rfl (pc0 := 52) (pc' := 63) rfl (hb hby d4_52) rfl (tlt hc52_38).2.2.1 (by decide) (by decide) ?_
            show Steps p.tables e below (T26.setTop (mkF m 63 #[.val (.ref a0), .val (.int p1), .unset] [])) _
            refine XS.aloadN X26.here hx rfl (hb hby d4_63) rfl rfl ?_
            show Steps p.tables e below (T26.setTop (mkF m 64 #[.val (.ref a0), .val (.int p1), .unset] [(.ref a0)])) _
            refine st39 _ ?_
            show Steps p.tables e below (T39.setTop (mkF m 67 #[.val (.ref a0), .val (.int p1), .unset] [(.int wa0_format32)])) _
            refine XS.istoreN X39.here hx rfl (hb hby d4_67) rfl (l' := #[.val (.ref a0), .val (.int p1), .val (.int wa0_format32)]) rfl ?_
            exact k)
          have q_f4_m47 : f4_m47 p1 wa0_fix wa0_format8 wa0_format32 wa0_format16 wa0_fixMax = wa0_format32 := by unfold f4_m47; rw [if_neg hc5_3, if_pos hc13_25, if_neg hc31_28, if_pos hc38_36, if_pos hc52_38]
          rw [q_f4_m47]
          exact ⟨T39, _, X39, e39, N0, pre40⟩
        obtain ⟨T41, X41, e41, st41⟩ := getF X26 hx hZ hown (host := "") (Or.inl (hw _ (List.mem_of_getElem? (i := 21) rfl))) Via.refl e26 F_wa0_format16 (g := (mkF m 56 #[.val (.ref a0), .val (.int p1), .unset] [(.ref a0)])) rfl rfl (hb hby d4_56)
        have pre42 : ∀ t, Steps p.tables e below (T41.setTop (mkF m 68 #[.val (.ref a0), .val (.int p1), .val (.int wa0_format16)] [])) t → Steps p.tables e below (s₁.setTop (entryFrame m #[(.ref a0), (.int p1)] 3)) t := fun t k => pre37 t (by
          show Steps p.tables e below (T26.setTop (mkF m 52 #[.val (.ref a0), .val (.int p1), .unset] [(.int (65535 : Int32)), (.int p1)])) _
          refine XS.icmpNo X26.here hx rfl (hb hby d4_52) rfl (flt hc52_38).2.2.1 ?_
          show Steps p.tables e below (T26.setTop (mkF m 55 #[.val (.ref a0), .val (.int p1), .unset] [])) _
          refine XS.aloadN X26.here hx rfl (hb hby d4_55) rfl rfl ?_
          show Steps p.tables e below (T26.setTop (mkF m 56 #[.val (.ref a0), .val (.int p1), .unset] [(.ref a0)])) _
          refine st41 _ ?_
          show Steps p.tables e below (T41.setTop (mkF m 59 #[.val (.ref a0), .val (.int p1), .unset] [(.int wa0_format16)])) _
          refine XS.istoreN X41.here hx rfl (hb hby d4_59) rfl (l' := #[.val (.ref a0), .val (.int p1), .val (.int wa0_format16)]) rfl ?_
          show Steps p.tables e below (T41.setTop (mkF m 60 #[.val (.ref a0), .val (.int p1), .val (.int wa0_format16)] [])) _
          refine XS.goto X41.here hx rfl (pc0 := 60) (pc' := 68) rfl (hb hby d4_60) (by decide) (by decide) ?_
          exact k)
        have q_f4_m47 : f4_m47 p1 wa0_fix wa0_format8 wa0_format32 wa0_format16 wa0_fixMax = wa0_format16 := by unfold f4_m47; rw [if_neg hc5_3, if_pos hc13_25, if_neg hc31_28, if_pos hc38_36, if_neg hc52_38]
        rw [q_f4_m47]
        exact ⟨T41, _, X41, e41, N0, pre42⟩
      obtain ⟨T43, X43, e43, st43⟩ := getF X26 hx hZ hown (host := "") (Or.inl (hw _ (List.mem_of_getElem? (i := 19) rfl))) Via.refl e26 F_wa0_format8 (g := (mkF m 42 #[.val (.ref a0), .val (.int p1), .unset] [(.ref a0)])) rfl rfl (hb hby d4_42)
      have pre44 : ∀ t, Steps p.tables e below (T43.setTop (mkF m 68 #[.val (.ref a0), .val (.int p1), .val (.int wa0_format8)] [])) t → Steps p.tables e below (s₁.setTop (entryFrame m #[(.ref a0), (.int p1)] 3)) t := fun t k => pre35 t (by
        show Steps p.tables e below (T26.setTop (mkF m 38 #[.val (.ref a0), .val (.int p1), .unset] [(.int (255 : Int32)), (.int p1)])) _
        refine XS.icmpNo X26.here hx rfl (hb hby d4_38) rfl (flt hc38_36).2.2.1 ?_
        show Steps p.tables e below (T26.setTop (mkF m 41 #[.val (.ref a0), .val (.int p1), .unset] [])) _
        refine XS.aloadN X26.here hx rfl (hb hby d4_41) rfl rfl ?_
        show Steps p.tables e below (T26.setTop (mkF m 42 #[.val (.ref a0), .val (.int p1), .unset] [(.ref a0)])) _
        refine st43 _ ?_
        show Steps p.tables e below (T43.setTop (mkF m 45 #[.val (.ref a0), .val (.int p1), .unset] [(.int wa0_format8)])) _
        refine XS.istoreN X43.here hx rfl (hb hby d4_45) rfl (l' := #[.val (.ref a0), .val (.int p1), .val (.int wa0_format8)]) rfl ?_
        show Steps p.tables e below (T43.setTop (mkF m 46 #[.val (.ref a0), .val (.int p1), .val (.int wa0_format8)] [])) _
        refine XS.goto X43.here hx rfl (pc0 := 46) (pc' := 68) rfl (hb hby d4_46) (by decide) (by decide) ?_
        exact k)
      have q_f4_m47 : f4_m47 p1 wa0_fix wa0_format8 wa0_format32 wa0_format16 wa0_fixMax = wa0_format8 := by unfold f4_m47; rw [if_neg hc5_3, if_pos hc13_25, if_neg hc31_28, if_neg hc38_36]
      rw [q_f4_m47]
      exact ⟨T43, _, X43, e43, N0, pre44⟩
    obtain ⟨T45, X45, e45, st45⟩ := getF X23 hx hZ hown (host := "") (Or.inl (hw _ (List.mem_of_getElem? (i := 15) rfl))) Via.refl e23 F_wa0_fix (g := (mkF m 17 #[.val (.ref a0), .val (.int p1), .unset] [(.ref a0)])) rfl rfl (hb hby d4_17)
    have pre46 : ∀ t, Steps p.tables e below (T45.setTop (mkF m 68 #[.val (.ref a0), .val (.int p1), .val (.int (wa0_fix ||| p1))] [])) t → Steps p.tables e below (s₁.setTop (entryFrame m #[(.ref a0), (.int p1)] 3)) t := fun t k => pre24 t (by
      show Steps p.tables e below (T23.setTop (mkF m 13 #[.val (.ref a0), .val (.int p1), .unset] [(.int wa0_fixMax), (.int p1)])) _
      refine XS.icmpNo X23.here hx rfl (hb hby d4_13) rfl (flt hc13_25).2.2.1 ?_
      show Steps p.tables e below (T23.setTop (mkF m 16 #[.val (.ref a0), .val (.int p1), .unset] [])) _
      refine XS.aloadN X23.here hx rfl (hb hby d4_16) rfl rfl ?_
      show Steps p.tables e below (T23.setTop (mkF m 17 #[.val (.ref a0), .val (.int p1), .unset] [(.ref a0)])) _
      refine st45 _ ?_
      show Steps p.tables e below (T45.setTop (mkF m 20 #[.val (.ref a0), .val (.int p1), .unset] [(.int wa0_fix)])) _
      refine XS.iloadN X45.here hx rfl (hb hby d4_20) rfl ?_
      show Steps p.tables e below (T45.setTop (mkF m 21 #[.val (.ref a0), .val (.int p1), .unset] [(.int p1), (.int wa0_fix)])) _
      refine XS.ior X45.here hx rfl (hb hby d4_21) rfl ?_
      show Steps p.tables e below (T45.setTop (mkF m 22 #[.val (.ref a0), .val (.int p1), .unset] [(.int (wa0_fix ||| p1))])) _
      refine XS.istoreN X45.here hx rfl (hb hby d4_22) rfl (l' := #[.val (.ref a0), .val (.int p1), .val (.int (wa0_fix ||| p1))]) rfl ?_
      show Steps p.tables e below (T45.setTop (mkF m 23 #[.val (.ref a0), .val (.int p1), .val (.int (wa0_fix ||| p1))] [])) _
      refine XS.goto X45.here hx rfl (pc0 := 23) (pc' := 68) rfl (hb hby d4_23) (by decide) (by decide) ?_
      exact k)
    have q_f4_m47 : f4_m47 p1 wa0_fix wa0_format8 wa0_format32 wa0_format16 wa0_fixMax = (wa0_fix ||| p1) := by unfold f4_m47; rw [if_neg hc5_3, if_neg hc13_25]
    rw [q_f4_m47]
    exact ⟨T45, _, X45, e45, N0, pre46⟩
  have pre48 : ∀ t, Steps p.tables e below (T3.setTop (mkF m 69 #[.val (.ref a0), .val (.int p1), .val (.int (f4_m47 p1 wa0_fix wa0_format8 wa0_format32 wa0_format16 wa0_fixMax))] [(.int (f4_m47 p1 wa0_fix wa0_format8 wa0_format32 wa0_format16 wa0_fixMax))])) t → Steps p.tables e below (s₁.setTop (entryFrame m #[(.ref a0), (.int p1)] 3)) t := fun t k => pre3 t (by
    show Steps p.tables e below (T3.setTop (mkF m 68 #[.val (.ref a0), .val (.int p1), .val (.int (f4_m47 p1 wa0_fix wa0_format8 wa0_format32 wa0_format16 wa0_fixMax))] [])) _
    refine XS.iloadN X3.here hx rfl (hb hby d4_68) rfl ?_
    exact k)
  obtain ⟨fs, hr, hrun, hended, hW, hsame⟩ := X3.leave (v := some (.int (f4_m47 p1 wa0_fix wa0_format8 wa0_format32 wa0_format16 wa0_fixMax))) (fun h => by rw [Bd.returns] at h; cases h)
  have hF : (F4 p1 wa0_fix wa0_format8 wa0_format32 wa0_format16 wa0_fixMax) = (f4_m47 p1 wa0_fix wa0_format8 wa0_format32 wa0_format16 wa0_fixMax) := by rfl
  exact ⟨_, _, pre48 _ (retI X3 hx Bd.returns (hb hby d4_69) hr), hrun, hended, _, _, rfl, ⟨by rw [hF], N3, e3⟩, ⟨_, rfl⟩, hW, hsame.mono (by decide) (by decide)⟩
def f5_m5 (p0 : Int32) (p1 : Int32) : Int32 := (if p1 < (256 : Int32) then (1 : Int32) else (0 : Int32))
def f5_m10 (p0 : Int32) (p1 : Int32) : Int32 := (if p1 < (65536 : Int32) then (1 : Int32) else (0 : Int32))
def f5_m20 (p0 : Int32) (p1 : Int32) : Int32 := (if (f5_m5 p0 p1) = (0 : Int32) then (if (f5_m10 p0 p1) = (0 : Int32) then (198 : Int32) else (197 : Int32)) else (196 : Int32))
def f5_m30 (p0 : Int32) (p1 : Int32) : Int32 := (if (f5_m5 p0 p1) = (0 : Int32) then (if (f5_m10 p0 p1) = (0 : Int32) then (201 : Int32) else (200 : Int32)) else (199 : Int32))
def f5_m43 (p0 : Int32) (p1 : Int32) : Int32 := (if p1 < (32 : Int32) then ((160 : Int32) + p1) else (if (f5_m5 p0 p1) = (0 : Int32) then (if (f5_m10 p0 p1) = (0 : Int32) then (219 : Int32) else (218 : Int32)) else (217 : Int32)))
def f5_m53 (p0 : Int32) (p1 : Int32) : Int32 := (if p1 < (16 : Int32) then ((144 : Int32) + p1) else (if (f5_m10 p0 p1) = (0 : Int32) then (221 : Int32) else (220 : Int32)))
def f5_m61 (p0 : Int32) (p1 : Int32) : Int32 := (if p1 < (16 : Int32) then ((128 : Int32) + p1) else (if (f5_m10 p0 p1) = (0 : Int32) then (223 : Int32) else (222 : Int32)))
def F5 (p0 : Int32) (p1 : Int32) : Int32 := (if p0 = (0 : Int32) then (f5_m20 p0 p1) else (if p0 = (1 : Int32) then (f5_m30 p0 p1) else (if p0 = (2 : Int32) then (f5_m43 p0 p1) else (if p0 = (3 : Int32) then (f5_m53 p0 p1) else (f5_m61 p0 p1)))))
theorem ef5 (m : MethodId) (x0 : Int32) (x1 : Int32) : entryFrame m #[(.int x0), (.int x1)] 4 = mkF m 0 #[.val (.int x0), .val (.int x1), .unset, .unset] [] := by first | (simp [entryFrame, mkF, argsToLocals, Value.category]; done) | rfl
def Q5 (Z : State) (p0 : Int32) (p1 : Int32) (h0 : Heap) (n0 : Nat) (v : Option Value) (h : Heap) (L : List Loc) : Prop := v = some (.int (F5 p0 p1)) ∧ Fr n0 L ∧ h = h0
set_option maxRecDepth 65536 in
set_option maxHeartbeats 40000000 in
theorem rm5 (l : Launch) (Z : State) (a0' : Array Value) (hw : ∀ d ∈ tables_1, d.before a0' Z = true) (ws : List Jvm.Cond) (p0 : Int32) (p1 : Int32) (h0 : Heap) (n0 : Nat) (Z0 : n0 ≤ h0.size) :
    MetFree l (⟨"com/example/furoshiki/furoshiki/SizedFormatsFormatForPinLaw", "expected", "(II)I"⟩ : MethodName) (head1 (Jvm.Cond.code (⟨"com/example/furoshiki/furoshiki/SizedFormatsFormatForPinLaw", "expected", "(II)I"⟩ : MethodName) method_2_code 4 (some .int) :: ws) ({ frames := 0, cells := 0, slots := 0, locals := 0 } : Room)) (fun a U => a = #[(.int p0), (.int p1)] ∧ Z.Warmed39 U.vm ∧ U.heap = h0) (fun _ _ _ _ _ => True) (fun _ U o U' => ∃ v L, o = .returned v ∧ Q5 Z p0 p1 h0 n0 v U'.heap L ∧ FrameEnd U o U' L ({ frames := 0, cells := 0, slots := 0, locals := 0 } : Room).cells ({ frames := 0, cells := 0, slots := 0, locals := 0 } : Room).slots) := by
  refine MetFree.of_bodySF (plainFor_of_name pn2) hisR ?_
  intro p e s m args below meth c s₁ Bd hml0 hP hK
  obtain ⟨rfl, hZ, hh⟩ := hP
  have hx := Bd.exec
  have hby := Bd.bytes
  have hml : c.maxLocals = 4 := hml0
  have hown : s.vm.findClass "com/example/furoshiki/furoshiki/SizedFormatsFormatForPinLaw" = some m.cls := findClass_of_methodNamed Bd.named
  have hnm := (name_of_methodNamed Bd.named Bd.method).1
  have X0 : Stand p l e ({ frames := 0, cells := 0, slots := 0, locals := 0 } : Room) s m #[(.int p0), (.int p1)] below meth c s₁ [] 0 0 := Stand.of_body Bd
  have e0 : s₁.heap = h0 := by rw [← hh, Bd.state]; rfl
  have N0 := Fr.nil n0
  have pre0 : ∀ t, Steps p.tables e below (s₁.setTop (mkF m 0 #[.val (.int p0), .val (.int p1), .unset, .unset] [])) t → Steps p.tables e below (s₁.setTop (entryFrame m #[(.int p0), (.int p1)] 4)) t := fun t k => castTop (ef5 m p0 p1) k
  have pre1 : ∀ t, Steps p.tables e below (s₁.setTop (mkF m 4 #[.val (.int p0), .val (.int p1), .unset, .unset] [(.int (256 : Int32)), (.int p1)])) t → Steps p.tables e below (s₁.setTop (entryFrame m #[(.int p0), (.int p1)] 4)) t := fun t k => pre0 t (by
    show Steps p.tables e below (s₁.setTop (mkF m 0 #[.val (.int p0), .val (.int p1), .unset, .unset] [])) _
    refine XS.iloadN X0.here hx rfl (hb hby d5_0) rfl ?_
    show Steps p.tables e below (s₁.setTop (mkF m 1 #[.val (.int p0), .val (.int p1), .unset, .unset] [(.int p1)])) _
    refine XS.sipush X0.here hx rfl (hb hby d5_1) ?_
    exact k)
  obtain ⟨T2, L2, X2, e2, N2, pre2⟩ : ∃ (T' : State) (locs' : List Loc), Stand p l e ({ frames := 0, cells := 0, slots := 0, locals := 0 } : Room) s m #[(.int p0), (.int p1)] below meth c T' locs' 0 0 ∧ T'.heap = h0 ∧ Fr n0 locs' ∧ ∀ t, Steps p.tables e below (T'.setTop (mkF m 12 #[.val (.int p0), .val (.int p1), .unset, .unset] [(.int (f5_m5 p0 p1))])) t → Steps p.tables e below (s₁.setTop (entryFrame m #[(.int p0), (.int p1)] 4)) t := by
    by_cases hc4_2 : p1 < (256 : Int32)
    · have pre3 : ∀ t, Steps p.tables e below (s₁.setTop (mkF m 12 #[.val (.int p0), .val (.int p1), .unset, .unset] [(.int (1 : Int32))])) t → Steps p.tables e below (s₁.setTop (entryFrame m #[(.int p0), (.int p1)] 4)) t := fun t k => pre1 t (by
        show Steps p.tables e below (s₁.setTop (mkF m 4 #[.val (.int p0), .val (.int p1), .unset, .unset] [(.int (256 : Int32)), (.int p1)])) _
        refine XS.icmpNo X0.here hx rfl (hb hby d5_4) rfl (tlt hc4_2).2.1 ?_
        show Steps p.tables e below (s₁.setTop (mkF m 7 #[.val (.int p0), .val (.int p1), .unset, .unset] [])) _
        refine XS.iconst X0.here hx rfl (hb hby d5_7) ?_
        show Steps p.tables e below (s₁.setTop (mkF m 8 #[.val (.int p0), .val (.int p1), .unset, .unset] [(.int (1 : Int32))])) _
        refine XS.goto X0.here hx rfl (pc0 := 8) (pc' := 12) rfl (hb hby d5_8) (by decide) (by decide) ?_
        exact k)
      have q_f5_m5 : f5_m5 p0 p1 = (1 : Int32) := by unfold f5_m5; rw [if_pos hc4_2]
      rw [q_f5_m5]
      exact ⟨s₁, _, X0, e0, N0, pre3⟩
    have pre4 : ∀ t, Steps p.tables e below (s₁.setTop (mkF m 12 #[.val (.int p0), .val (.int p1), .unset, .unset] [(.int (0 : Int32))])) t → Steps p.tables e below (s₁.setTop (entryFrame m #[(.int p0), (.int p1)] 4)) t := fun t k => pre1 t (by
      show Steps p.tables e below (s₁.setTop (mkF m 4 #[.val (.int p0), .val (.int p1), .unset, .unset] [(.int (256 : Int32)), (.int p1)])) _
      refine XS.icmpYes X0.here hx rfl (pc0 := 4) (pc' := 11) rfl (hb hby d5_4) rfl (flt hc4_2).2.1 (by decide) (by decide) ?_
      show Steps p.tables e below (s₁.setTop (mkF m 11 #[.val (.int p0), .val (.int p1), .unset, .unset] [])) _
      refine XS.iconst X0.here hx rfl (hb hby d5_11) ?_
      exact k)
    have q_f5_m5 : f5_m5 p0 p1 = (0 : Int32) := by unfold f5_m5; rw [if_neg hc4_2]
    rw [q_f5_m5]
    exact ⟨s₁, _, X0, e0, N0, pre4⟩
  have pre6 : ∀ t, Steps p.tables e below (T2.setTop (mkF m 16 #[.val (.int p0), .val (.int p1), .val (.int (f5_m5 p0 p1)), .unset] [(.int (65536 : Int32)), (.int p1)])) t → Steps p.tables e below (s₁.setTop (entryFrame m #[(.int p0), (.int p1)] 4)) t := fun t k => pre2 t (by
    show Steps p.tables e below (T2.setTop (mkF m 12 #[.val (.int p0), .val (.int p1), .unset, .unset] [(.int (f5_m5 p0 p1))])) _
    refine XS.istoreN X2.here hx rfl (hb hby d5_12) rfl (l' := #[.val (.int p0), .val (.int p1), .val (.int (f5_m5 p0 p1)), .unset]) rfl ?_
    show Steps p.tables e below (T2.setTop (mkF m 13 #[.val (.int p0), .val (.int p1), .val (.int (f5_m5 p0 p1)), .unset] [])) _
    refine XS.iloadN X2.here hx rfl (hb hby d5_13) rfl ?_
    show Steps p.tables e below (T2.setTop (mkF m 14 #[.val (.int p0), .val (.int p1), .val (.int (f5_m5 p0 p1)), .unset] [(.int p1)])) _
    refine X2.ldcInt hx hown (mvT hZ (hw _ (List.mem_of_getElem? (i := 34) rfl))) (g := (mkF m 14 #[.val (.int p0), .val (.int p1), .val (.int (f5_m5 p0 p1)), .unset] [(.int p1)])) rfl (hb hby d5_14) _ ?_
    exact k)
  obtain ⟨T7, L7, X7, e7, N7, pre7⟩ : ∃ (T' : State) (locs' : List Loc), Stand p l e ({ frames := 0, cells := 0, slots := 0, locals := 0 } : Room) s m #[(.int p0), (.int p1)] below meth c T' locs' 0 0 ∧ T'.heap = h0 ∧ Fr n0 locs' ∧ ∀ t, Steps p.tables e below (T'.setTop (mkF m 24 #[.val (.int p0), .val (.int p1), .val (.int (f5_m5 p0 p1)), .unset] [(.int (f5_m10 p0 p1))])) t → Steps p.tables e below (s₁.setTop (entryFrame m #[(.int p0), (.int p1)] 4)) t := by
    by_cases hc16_7 : p1 < (65536 : Int32)
    · have pre8 : ∀ t, Steps p.tables e below (T2.setTop (mkF m 24 #[.val (.int p0), .val (.int p1), .val (.int (f5_m5 p0 p1)), .unset] [(.int (1 : Int32))])) t → Steps p.tables e below (s₁.setTop (entryFrame m #[(.int p0), (.int p1)] 4)) t := fun t k => pre6 t (by
        show Steps p.tables e below (T2.setTop (mkF m 16 #[.val (.int p0), .val (.int p1), .val (.int (f5_m5 p0 p1)), .unset] [(.int (65536 : Int32)), (.int p1)])) _
        refine XS.icmpNo X2.here hx rfl (hb hby d5_16) rfl (tlt hc16_7).2.1 ?_
        show Steps p.tables e below (T2.setTop (mkF m 19 #[.val (.int p0), .val (.int p1), .val (.int (f5_m5 p0 p1)), .unset] [])) _
        refine XS.iconst X2.here hx rfl (hb hby d5_19) ?_
        show Steps p.tables e below (T2.setTop (mkF m 20 #[.val (.int p0), .val (.int p1), .val (.int (f5_m5 p0 p1)), .unset] [(.int (1 : Int32))])) _
        refine XS.goto X2.here hx rfl (pc0 := 20) (pc' := 24) rfl (hb hby d5_20) (by decide) (by decide) ?_
        exact k)
      have q_f5_m10 : f5_m10 p0 p1 = (1 : Int32) := by unfold f5_m10; rw [if_pos hc16_7]
      rw [q_f5_m10]
      exact ⟨T2, _, X2, e2, N2, pre8⟩
    have pre9 : ∀ t, Steps p.tables e below (T2.setTop (mkF m 24 #[.val (.int p0), .val (.int p1), .val (.int (f5_m5 p0 p1)), .unset] [(.int (0 : Int32))])) t → Steps p.tables e below (s₁.setTop (entryFrame m #[(.int p0), (.int p1)] 4)) t := fun t k => pre6 t (by
      show Steps p.tables e below (T2.setTop (mkF m 16 #[.val (.int p0), .val (.int p1), .val (.int (f5_m5 p0 p1)), .unset] [(.int (65536 : Int32)), (.int p1)])) _
      refine XS.icmpYes X2.here hx rfl (pc0 := 16) (pc' := 23) rfl (hb hby d5_16) rfl (flt hc16_7).2.1 (by decide) (by decide) ?_
      show Steps p.tables e below (T2.setTop (mkF m 23 #[.val (.int p0), .val (.int p1), .val (.int (f5_m5 p0 p1)), .unset] [])) _
      refine XS.iconst X2.here hx rfl (hb hby d5_23) ?_
      exact k)
    have q_f5_m10 : f5_m10 p0 p1 = (0 : Int32) := by unfold f5_m10; rw [if_neg hc16_7]
    rw [q_f5_m10]
    exact ⟨T2, _, X2, e2, N2, pre9⟩
  have pre11 : ∀ t, Steps p.tables e below (T7.setTop (mkF m 26 #[.val (.int p0), .val (.int p1), .val (.int (f5_m5 p0 p1)), .val (.int (f5_m10 p0 p1))] [(.int p0)])) t → Steps p.tables e below (s₁.setTop (entryFrame m #[(.int p0), (.int p1)] 4)) t := fun t k => pre7 t (by
    show Steps p.tables e below (T7.setTop (mkF m 24 #[.val (.int p0), .val (.int p1), .val (.int (f5_m5 p0 p1)), .unset] [(.int (f5_m10 p0 p1))])) _
    refine XS.istoreN X7.here hx rfl (hb hby d5_24) rfl (l' := #[.val (.int p0), .val (.int p1), .val (.int (f5_m5 p0 p1)), .val (.int (f5_m10 p0 p1))]) rfl ?_
    show Steps p.tables e below (T7.setTop (mkF m 25 #[.val (.int p0), .val (.int p1), .val (.int (f5_m5 p0 p1)), .val (.int (f5_m10 p0 p1))] [])) _
    refine XS.iloadN X7.here hx rfl (hb hby d5_25) rfl ?_
    exact k)
  by_cases hc26_12 : p0 = (0 : Int32)
  · have pre13 : ∀ t, Steps p.tables e below (T7.setTop (mkF m 30 #[.val (.int p0), .val (.int p1), .val (.int (f5_m5 p0 p1)), .val (.int (f5_m10 p0 p1))] [(.int (f5_m5 p0 p1))])) t → Steps p.tables e below (s₁.setTop (entryFrame m #[(.int p0), (.int p1)] 4)) t := fun t k => pre11 t (by
      show Steps p.tables e below (T7.setTop (mkF m 26 #[.val (.int p0), .val (.int p1), .val (.int (f5_m5 p0 p1)), .val (.int (f5_m10 p0 p1))] [(.int p0)])) _
      refine XS.ifNo X7.here hx rfl (hb hby d5_26) rfl ((if0 _ _).trans (teq hc26_12).2) ?_
      show Steps p.tables e below (T7.setTop (mkF m 29 #[.val (.int p0), .val (.int p1), .val (.int (f5_m5 p0 p1)), .val (.int (f5_m10 p0 p1))] [])) _
      refine XS.iloadN X7.here hx rfl (hb hby d5_29) rfl ?_
      exact k)
    obtain ⟨T14, L14, X14, e14, N14, pre14⟩ : ∃ (T' : State) (locs' : List Loc), Stand p l e ({ frames := 0, cells := 0, slots := 0, locals := 0 } : Room) s m #[(.int p0), (.int p1)] below meth c T' locs' 0 0 ∧ T'.heap = h0 ∧ Fr n0 locs' ∧ ∀ t, Steps p.tables e below (T'.setTop (mkF m 52 #[.val (.int p0), .val (.int p1), .val (.int (f5_m5 p0 p1)), .val (.int (f5_m10 p0 p1))] [(.int (f5_m20 p0 p1))])) t → Steps p.tables e below (s₁.setTop (entryFrame m #[(.int p0), (.int p1)] 4)) t := by
      by_cases hc30_14 : (f5_m5 p0 p1) = (0 : Int32)
      · have pre15 : ∀ t, Steps p.tables e below (T7.setTop (mkF m 40 #[.val (.int p0), .val (.int p1), .val (.int (f5_m5 p0 p1)), .val (.int (f5_m10 p0 p1))] [(.int (f5_m10 p0 p1))])) t → Steps p.tables e below (s₁.setTop (entryFrame m #[(.int p0), (.int p1)] 4)) t := fun t k => pre13 t (by
          show Steps p.tables e below (T7.setTop (mkF m 30 #[.val (.int p0), .val (.int p1), .val (.int (f5_m5 p0 p1)), .val (.int (f5_m10 p0 p1))] [(.int (f5_m5 p0 p1))])) _
          refine XS.ifYes X7.here hx rfl (pc0 := 30) (pc' := 39) rfl (hb hby d5_30) rfl ((if0 _ _).trans (teq hc30_14).1) (by decide) (by decide) ?_
          show Steps p.tables e below (T7.setTop (mkF m 39 #[.val (.int p0), .val (.int p1), .val (.int (f5_m5 p0 p1)), .val (.int (f5_m10 p0 p1))] [])) _
          refine XS.iloadN X7.here hx rfl (hb hby d5_39) rfl ?_
          exact k)
        by_cases hc40_16 : (f5_m10 p0 p1) = (0 : Int32)
        · have pre17 : ∀ t, Steps p.tables e below (T7.setTop (mkF m 52 #[.val (.int p0), .val (.int p1), .val (.int (f5_m5 p0 p1)), .val (.int (f5_m10 p0 p1))] [(.int (198 : Int32))])) t → Steps p.tables e below (s₁.setTop (entryFrame m #[(.int p0), (.int p1)] 4)) t := fun t k => pre15 t (by
            show Steps p.tables e below (T7.setTop (mkF m 40 #[.val (.int p0), .val (.int p1), .val (.int (f5_m5 p0 p1)), .val (.int (f5_m10 p0 p1))] [(.int (f5_m10 p0 p1))])) _
            refine XS.ifYes X7.here hx rfl (pc0 := 40) (pc' := 49) rfl (hb hby d5_40) rfl ((if0 _ _).trans (teq hc40_16).1) (by decide) (by decide) ?_
            show Steps p.tables e below (T7.setTop (mkF m 49 #[.val (.int p0), .val (.int p1), .val (.int (f5_m5 p0 p1)), .val (.int (f5_m10 p0 p1))] [])) _
            refine XS.sipush X7.here hx rfl (hb hby d5_49) ?_
            exact k)
          have q_f5_m20 : f5_m20 p0 p1 = (198 : Int32) := by unfold f5_m20; rw [if_pos hc30_14, if_pos hc40_16]
          rw [q_f5_m20]
          exact ⟨T7, _, X7, e7, N7, pre17⟩
        have pre18 : ∀ t, Steps p.tables e below (T7.setTop (mkF m 52 #[.val (.int p0), .val (.int p1), .val (.int (f5_m5 p0 p1)), .val (.int (f5_m10 p0 p1))] [(.int (197 : Int32))])) t → Steps p.tables e below (s₁.setTop (entryFrame m #[(.int p0), (.int p1)] 4)) t := fun t k => pre15 t (by
          show Steps p.tables e below (T7.setTop (mkF m 40 #[.val (.int p0), .val (.int p1), .val (.int (f5_m5 p0 p1)), .val (.int (f5_m10 p0 p1))] [(.int (f5_m10 p0 p1))])) _
          refine XS.ifNo X7.here hx rfl (hb hby d5_40) rfl ((if0 _ _).trans (feq hc40_16).1) ?_
          show Steps p.tables e below (T7.setTop (mkF m 43 #[.val (.int p0), .val (.int p1), .val (.int (f5_m5 p0 p1)), .val (.int (f5_m10 p0 p1))] [])) _
          refine XS.sipush X7.here hx rfl (hb hby d5_43) ?_
          show Steps p.tables e below (T7.setTop (mkF m 46 #[.val (.int p0), .val (.int p1), .val (.int (f5_m5 p0 p1)), .val (.int (f5_m10 p0 p1))] [(.int (197 : Int32))])) _
          refine XS.goto X7.here hx rfl (pc0 := 46) (pc' := 52) rfl (hb hby d5_46) (by decide) (by decide) ?_
          exact k)
        have q_f5_m20 : f5_m20 p0 p1 = (197 : Int32) := by unfold f5_m20; rw [if_pos hc30_14, if_neg hc40_16]
        rw [q_f5_m20]
        exact ⟨T7, _, X7, e7, N7, pre18⟩
      have pre19 : ∀ t, Steps p.tables e below (T7.setTop (mkF m 52 #[.val (.int p0), .val (.int p1), .val (.int (f5_m5 p0 p1)), .val (.int (f5_m10 p0 p1))] [(.int (196 : Int32))])) t → Steps p.tables e below (s₁.setTop (entryFrame m #[(.int p0), (.int p1)] 4)) t := fun t k => pre13 t (by
        show Steps p.tables e below (T7.setTop (mkF m 30 #[.val (.int p0), .val (.int p1), .val (.int (f5_m5 p0 p1)), .val (.int (f5_m10 p0 p1))] [(.int (f5_m5 p0 p1))])) _
        refine XS.ifNo X7.here hx rfl (hb hby d5_30) rfl ((if0 _ _).trans (feq hc30_14).1) ?_
        show Steps p.tables e below (T7.setTop (mkF m 33 #[.val (.int p0), .val (.int p1), .val (.int (f5_m5 p0 p1)), .val (.int (f5_m10 p0 p1))] [])) _
        refine XS.sipush X7.here hx rfl (hb hby d5_33) ?_
        show Steps p.tables e below (T7.setTop (mkF m 36 #[.val (.int p0), .val (.int p1), .val (.int (f5_m5 p0 p1)), .val (.int (f5_m10 p0 p1))] [(.int (196 : Int32))])) _
        refine XS.goto X7.here hx rfl (pc0 := 36) (pc' := 52) rfl (hb hby d5_36) (by decide) (by decide) ?_
        exact k)
      have q_f5_m20 : f5_m20 p0 p1 = (196 : Int32) := by unfold f5_m20; rw [if_neg hc30_14]
      rw [q_f5_m20]
      exact ⟨T7, _, X7, e7, N7, pre19⟩
    obtain ⟨fs, hr, hrun, hended, hW, hsame⟩ := X14.leave (v := some (.int (f5_m20 p0 p1))) (fun h => by rw [Bd.returns] at h; cases h)
    have hF : (F5 p0 p1) = (f5_m20 p0 p1) := by unfold F5; rw [if_pos hc26_12]
    exact ⟨_, _, pre14 _ (retI X14 hx Bd.returns (hb hby d5_52) hr), hrun, hended, _, _, rfl, ⟨by rw [hF], N14, e14⟩, ⟨_, rfl⟩, hW, hsame.mono (by decide) (by decide)⟩
  have pre21 : ∀ t, Steps p.tables e below (T7.setTop (mkF m 55 #[.val (.int p0), .val (.int p1), .val (.int (f5_m5 p0 p1)), .val (.int (f5_m10 p0 p1))] [(.int (1 : Int32)), (.int p0)])) t → Steps p.tables e below (s₁.setTop (entryFrame m #[(.int p0), (.int p1)] 4)) t := fun t k => pre11 t (by
    show Steps p.tables e below (T7.setTop (mkF m 26 #[.val (.int p0), .val (.int p1), .val (.int (f5_m5 p0 p1)), .val (.int (f5_m10 p0 p1))] [(.int p0)])) _
    refine XS.ifYes X7.here hx rfl (pc0 := 26) (pc' := 53) rfl (hb hby d5_26) rfl ((if0 _ _).trans (feq hc26_12).2) (by decide) (by decide) ?_
    show Steps p.tables e below (T7.setTop (mkF m 53 #[.val (.int p0), .val (.int p1), .val (.int (f5_m5 p0 p1)), .val (.int (f5_m10 p0 p1))] [])) _
    refine XS.iloadN X7.here hx rfl (hb hby d5_53) rfl ?_
    show Steps p.tables e below (T7.setTop (mkF m 54 #[.val (.int p0), .val (.int p1), .val (.int (f5_m5 p0 p1)), .val (.int (f5_m10 p0 p1))] [(.int p0)])) _
    refine XS.iconst X7.here hx rfl (hb hby d5_54) ?_
    exact k)
  by_cases hc55_22 : p0 = (1 : Int32)
  · have pre23 : ∀ t, Steps p.tables e below (T7.setTop (mkF m 59 #[.val (.int p0), .val (.int p1), .val (.int (f5_m5 p0 p1)), .val (.int (f5_m10 p0 p1))] [(.int (f5_m5 p0 p1))])) t → Steps p.tables e below (s₁.setTop (entryFrame m #[(.int p0), (.int p1)] 4)) t := fun t k => pre21 t (by
      show Steps p.tables e below (T7.setTop (mkF m 55 #[.val (.int p0), .val (.int p1), .val (.int (f5_m5 p0 p1)), .val (.int (f5_m10 p0 p1))] [(.int (1 : Int32)), (.int p0)])) _
      refine XS.icmpNo X7.here hx rfl (hb hby d5_55) rfl (teq hc55_22).2 ?_
      show Steps p.tables e below (T7.setTop (mkF m 58 #[.val (.int p0), .val (.int p1), .val (.int (f5_m5 p0 p1)), .val (.int (f5_m10 p0 p1))] [])) _
      refine XS.iloadN X7.here hx rfl (hb hby d5_58) rfl ?_
      exact k)
    obtain ⟨T24, L24, X24, e24, N24, pre24⟩ : ∃ (T' : State) (locs' : List Loc), Stand p l e ({ frames := 0, cells := 0, slots := 0, locals := 0 } : Room) s m #[(.int p0), (.int p1)] below meth c T' locs' 0 0 ∧ T'.heap = h0 ∧ Fr n0 locs' ∧ ∀ t, Steps p.tables e below (T'.setTop (mkF m 81 #[.val (.int p0), .val (.int p1), .val (.int (f5_m5 p0 p1)), .val (.int (f5_m10 p0 p1))] [(.int (f5_m30 p0 p1))])) t → Steps p.tables e below (s₁.setTop (entryFrame m #[(.int p0), (.int p1)] 4)) t := by
      by_cases hc59_24 : (f5_m5 p0 p1) = (0 : Int32)
      · have pre25 : ∀ t, Steps p.tables e below (T7.setTop (mkF m 69 #[.val (.int p0), .val (.int p1), .val (.int (f5_m5 p0 p1)), .val (.int (f5_m10 p0 p1))] [(.int (f5_m10 p0 p1))])) t → Steps p.tables e below (s₁.setTop (entryFrame m #[(.int p0), (.int p1)] 4)) t := fun t k => pre23 t (by
          show Steps p.tables e below (T7.setTop (mkF m 59 #[.val (.int p0), .val (.int p1), .val (.int (f5_m5 p0 p1)), .val (.int (f5_m10 p0 p1))] [(.int (f5_m5 p0 p1))])) _
          refine XS.ifYes X7.here hx rfl (pc0 := 59) (pc' := 68) rfl (hb hby d5_59) rfl ((if0 _ _).trans (teq hc59_24).1) (by decide) (by decide) ?_
          show Steps p.tables e below (T7.setTop (mkF m 68 #[.val (.int p0), .val (.int p1), .val (.int (f5_m5 p0 p1)), .val (.int (f5_m10 p0 p1))] [])) _
          refine XS.iloadN X7.here hx rfl (hb hby d5_68) rfl ?_
          exact k)
        by_cases hc69_26 : (f5_m10 p0 p1) = (0 : Int32)
        · have pre27 : ∀ t, Steps p.tables e below (T7.setTop (mkF m 81 #[.val (.int p0), .val (.int p1), .val (.int (f5_m5 p0 p1)), .val (.int (f5_m10 p0 p1))] [(.int (201 : Int32))])) t → Steps p.tables e below (s₁.setTop (entryFrame m #[(.int p0), (.int p1)] 4)) t := fun t k => pre25 t (by
            show Steps p.tables e below (T7.setTop (mkF m 69 #[.val (.int p0), .val (.int p1), .val (.int (f5_m5 p0 p1)), .val (.int (f5_m10 p0 p1))] [(.int (f5_m10 p0 p1))])) _
            refine XS.ifYes X7.here hx rfl (pc0 := 69) (pc' := 78) rfl (hb hby d5_69) rfl ((if0 _ _).trans (teq hc69_26).1) (by decide) (by decide) ?_
            show Steps p.tables e below (T7.setTop (mkF m 78 #[.val (.int p0), .val (.int p1), .val (.int (f5_m5 p0 p1)), .val (.int (f5_m10 p0 p1))] [])) _
            refine XS.sipush X7.here hx rfl (hb hby d5_78) ?_
            exact k)
          have q_f5_m30 : f5_m30 p0 p1 = (201 : Int32) := by unfold f5_m30; rw [if_pos hc59_24, if_pos hc69_26]
          rw [q_f5_m30]
          exact ⟨T7, _, X7, e7, N7, pre27⟩
        have pre28 : ∀ t, Steps p.tables e below (T7.setTop (mkF m 81 #[.val (.int p0), .val (.int p1), .val (.int (f5_m5 p0 p1)), .val (.int (f5_m10 p0 p1))] [(.int (200 : Int32))])) t → Steps p.tables e below (s₁.setTop (entryFrame m #[(.int p0), (.int p1)] 4)) t := fun t k => pre25 t (by
          show Steps p.tables e below (T7.setTop (mkF m 69 #[.val (.int p0), .val (.int p1), .val (.int (f5_m5 p0 p1)), .val (.int (f5_m10 p0 p1))] [(.int (f5_m10 p0 p1))])) _
          refine XS.ifNo X7.here hx rfl (hb hby d5_69) rfl ((if0 _ _).trans (feq hc69_26).1) ?_
          show Steps p.tables e below (T7.setTop (mkF m 72 #[.val (.int p0), .val (.int p1), .val (.int (f5_m5 p0 p1)), .val (.int (f5_m10 p0 p1))] [])) _
          refine XS.sipush X7.here hx rfl (hb hby d5_72) ?_
          show Steps p.tables e below (T7.setTop (mkF m 75 #[.val (.int p0), .val (.int p1), .val (.int (f5_m5 p0 p1)), .val (.int (f5_m10 p0 p1))] [(.int (200 : Int32))])) _
          refine XS.goto X7.here hx rfl (pc0 := 75) (pc' := 81) rfl (hb hby d5_75) (by decide) (by decide) ?_
          exact k)
        have q_f5_m30 : f5_m30 p0 p1 = (200 : Int32) := by unfold f5_m30; rw [if_pos hc59_24, if_neg hc69_26]
        rw [q_f5_m30]
        exact ⟨T7, _, X7, e7, N7, pre28⟩
      have pre29 : ∀ t, Steps p.tables e below (T7.setTop (mkF m 81 #[.val (.int p0), .val (.int p1), .val (.int (f5_m5 p0 p1)), .val (.int (f5_m10 p0 p1))] [(.int (199 : Int32))])) t → Steps p.tables e below (s₁.setTop (entryFrame m #[(.int p0), (.int p1)] 4)) t := fun t k => pre23 t (by
        show Steps p.tables e below (T7.setTop (mkF m 59 #[.val (.int p0), .val (.int p1), .val (.int (f5_m5 p0 p1)), .val (.int (f5_m10 p0 p1))] [(.int (f5_m5 p0 p1))])) _
        refine XS.ifNo X7.here hx rfl (hb hby d5_59) rfl ((if0 _ _).trans (feq hc59_24).1) ?_
        show Steps p.tables e below (T7.setTop (mkF m 62 #[.val (.int p0), .val (.int p1), .val (.int (f5_m5 p0 p1)), .val (.int (f5_m10 p0 p1))] [])) _
        refine XS.sipush X7.here hx rfl (hb hby d5_62) ?_
        show Steps p.tables e below (T7.setTop (mkF m 65 #[.val (.int p0), .val (.int p1), .val (.int (f5_m5 p0 p1)), .val (.int (f5_m10 p0 p1))] [(.int (199 : Int32))])) _
        refine XS.goto X7.here hx rfl (pc0 := 65) (pc' := 81) rfl (hb hby d5_65) (by decide) (by decide) ?_
        exact k)
      have q_f5_m30 : f5_m30 p0 p1 = (199 : Int32) := by unfold f5_m30; rw [if_neg hc59_24]
      rw [q_f5_m30]
      exact ⟨T7, _, X7, e7, N7, pre29⟩
    obtain ⟨fs, hr, hrun, hended, hW, hsame⟩ := X24.leave (v := some (.int (f5_m30 p0 p1))) (fun h => by rw [Bd.returns] at h; cases h)
    have hF : (F5 p0 p1) = (f5_m30 p0 p1) := by unfold F5; rw [if_neg hc26_12, if_pos hc55_22]
    exact ⟨_, _, pre24 _ (retI X24 hx Bd.returns (hb hby d5_81) hr), hrun, hended, _, _, rfl, ⟨by rw [hF], N24, e24⟩, ⟨_, rfl⟩, hW, hsame.mono (by decide) (by decide)⟩
  have pre31 : ∀ t, Steps p.tables e below (T7.setTop (mkF m 84 #[.val (.int p0), .val (.int p1), .val (.int (f5_m5 p0 p1)), .val (.int (f5_m10 p0 p1))] [(.int (2 : Int32)), (.int p0)])) t → Steps p.tables e below (s₁.setTop (entryFrame m #[(.int p0), (.int p1)] 4)) t := fun t k => pre21 t (by
    show Steps p.tables e below (T7.setTop (mkF m 55 #[.val (.int p0), .val (.int p1), .val (.int (f5_m5 p0 p1)), .val (.int (f5_m10 p0 p1))] [(.int (1 : Int32)), (.int p0)])) _
    refine XS.icmpYes X7.here hx rfl (pc0 := 55) (pc' := 82) rfl (hb hby d5_55) rfl (feq hc55_22).2 (by decide) (by decide) ?_
    show Steps p.tables e below (T7.setTop (mkF m 82 #[.val (.int p0), .val (.int p1), .val (.int (f5_m5 p0 p1)), .val (.int (f5_m10 p0 p1))] [])) _
    refine XS.iloadN X7.here hx rfl (hb hby d5_82) rfl ?_
    show Steps p.tables e below (T7.setTop (mkF m 83 #[.val (.int p0), .val (.int p1), .val (.int (f5_m5 p0 p1)), .val (.int (f5_m10 p0 p1))] [(.int p0)])) _
    refine XS.iconst X7.here hx rfl (hb hby d5_83) ?_
    exact k)
  by_cases hc84_32 : p0 = (2 : Int32)
  · have pre33 : ∀ t, Steps p.tables e below (T7.setTop (mkF m 90 #[.val (.int p0), .val (.int p1), .val (.int (f5_m5 p0 p1)), .val (.int (f5_m10 p0 p1))] [(.int (32 : Int32)), (.int p1)])) t → Steps p.tables e below (s₁.setTop (entryFrame m #[(.int p0), (.int p1)] 4)) t := fun t k => pre31 t (by
      show Steps p.tables e below (T7.setTop (mkF m 84 #[.val (.int p0), .val (.int p1), .val (.int (f5_m5 p0 p1)), .val (.int (f5_m10 p0 p1))] [(.int (2 : Int32)), (.int p0)])) _
      refine XS.icmpNo X7.here hx rfl (hb hby d5_84) rfl (teq hc84_32).2 ?_
      show Steps p.tables e below (T7.setTop (mkF m 87 #[.val (.int p0), .val (.int p1), .val (.int (f5_m5 p0 p1)), .val (.int (f5_m10 p0 p1))] [])) _
      refine XS.iloadN X7.here hx rfl (hb hby d5_87) rfl ?_
      show Steps p.tables e below (T7.setTop (mkF m 88 #[.val (.int p0), .val (.int p1), .val (.int (f5_m5 p0 p1)), .val (.int (f5_m10 p0 p1))] [(.int p1)])) _
      refine XS.bipush X7.here hx rfl (hb hby d5_88) ?_
      exact k)
    obtain ⟨T34, L34, X34, e34, N34, pre34⟩ : ∃ (T' : State) (locs' : List Loc), Stand p l e ({ frames := 0, cells := 0, slots := 0, locals := 0 } : Room) s m #[(.int p0), (.int p1)] below meth c T' locs' 0 0 ∧ T'.heap = h0 ∧ Fr n0 locs' ∧ ∀ t, Steps p.tables e below (T'.setTop (mkF m 124 #[.val (.int p0), .val (.int p1), .val (.int (f5_m5 p0 p1)), .val (.int (f5_m10 p0 p1))] [(.int (f5_m43 p0 p1))])) t → Steps p.tables e below (s₁.setTop (entryFrame m #[(.int p0), (.int p1)] 4)) t := by
      by_cases hc90_34 : p1 < (32 : Int32)
      · have pre35 : ∀ t, Steps p.tables e below (T7.setTop (mkF m 124 #[.val (.int p0), .val (.int p1), .val (.int (f5_m5 p0 p1)), .val (.int (f5_m10 p0 p1))] [(.int ((160 : Int32) + p1))])) t → Steps p.tables e below (s₁.setTop (entryFrame m #[(.int p0), (.int p1)] 4)) t := fun t k => pre33 t (by
          show Steps p.tables e below (T7.setTop (mkF m 90 #[.val (.int p0), .val (.int p1), .val (.int (f5_m5 p0 p1)), .val (.int (f5_m10 p0 p1))] [(.int (32 : Int32)), (.int p1)])) _
          refine XS.icmpNo X7.here hx rfl (hb hby d5_90) rfl (tlt hc90_34).2.1 ?_
          show Steps p.tables e below (T7.setTop (mkF m 93 #[.val (.int p0), .val (.int p1), .val (.int (f5_m5 p0 p1)), .val (.int (f5_m10 p0 p1))] [])) _
          refine XS.sipush X7.here hx rfl (hb hby d5_93) ?_
          show Steps p.tables e below (T7.setTop (mkF m 96 #[.val (.int p0), .val (.int p1), .val (.int (f5_m5 p0 p1)), .val (.int (f5_m10 p0 p1))] [(.int (160 : Int32))])) _
          refine XS.iloadN X7.here hx rfl (hb hby d5_96) rfl ?_
          show Steps p.tables e below (T7.setTop (mkF m 97 #[.val (.int p0), .val (.int p1), .val (.int (f5_m5 p0 p1)), .val (.int (f5_m10 p0 p1))] [(.int p1), (.int (160 : Int32))])) _
          refine XS.iadd X7.here hx rfl (hb hby d5_97) rfl ?_
          show Steps p.tables e below (T7.setTop (mkF m 98 #[.val (.int p0), .val (.int p1), .val (.int (f5_m5 p0 p1)), .val (.int (f5_m10 p0 p1))] [(.int ((160 : Int32) + p1))])) _
          refine XS.goto X7.here hx rfl (pc0 := 98) (pc' := 124) rfl (hb hby d5_98) (by decide) (by decide) ?_
          exact k)
        have q_f5_m43 : f5_m43 p0 p1 = ((160 : Int32) + p1) := by unfold f5_m43; rw [if_pos hc90_34]
        rw [q_f5_m43]
        exact ⟨T7, _, X7, e7, N7, pre35⟩
      have pre36 : ∀ t, Steps p.tables e below (T7.setTop (mkF m 102 #[.val (.int p0), .val (.int p1), .val (.int (f5_m5 p0 p1)), .val (.int (f5_m10 p0 p1))] [(.int (f5_m5 p0 p1))])) t → Steps p.tables e below (s₁.setTop (entryFrame m #[(.int p0), (.int p1)] 4)) t := fun t k => pre33 t (by
        show Steps p.tables e below (T7.setTop (mkF m 90 #[.val (.int p0), .val (.int p1), .val (.int (f5_m5 p0 p1)), .val (.int (f5_m10 p0 p1))] [(.int (32 : Int32)), (.int p1)])) _
        refine XS.icmpYes X7.here hx rfl (pc0 := 90) (pc' := 101) rfl (hb hby d5_90) rfl (flt hc90_34).2.1 (by decide) (by decide) ?_
        show Steps p.tables e below (T7.setTop (mkF m 101 #[.val (.int p0), .val (.int p1), .val (.int (f5_m5 p0 p1)), .val (.int (f5_m10 p0 p1))] [])) _
        refine XS.iloadN X7.here hx rfl (hb hby d5_101) rfl ?_
        exact k)
      by_cases hc102_37 : (f5_m5 p0 p1) = (0 : Int32)
      · have pre38 : ∀ t, Steps p.tables e below (T7.setTop (mkF m 112 #[.val (.int p0), .val (.int p1), .val (.int (f5_m5 p0 p1)), .val (.int (f5_m10 p0 p1))] [(.int (f5_m10 p0 p1))])) t → Steps p.tables e below (s₁.setTop (entryFrame m #[(.int p0), (.int p1)] 4)) t := fun t k => pre36 t (by
          show Steps p.tables e below (T7.setTop (mkF m 102 #[.val (.int p0), .val (.int p1), .val (.int (f5_m5 p0 p1)), .val (.int (f5_m10 p0 p1))] [(.int (f5_m5 p0 p1))])) _
          refine XS.ifYes X7.here hx rfl (pc0 := 102) (pc' := 111) rfl (hb hby d5_102) rfl ((if0 _ _).trans (teq hc102_37).1) (by decide) (by decide) ?_
          show Steps p.tables e below (T7.setTop (mkF m 111 #[.val (.int p0), .val (.int p1), .val (.int (f5_m5 p0 p1)), .val (.int (f5_m10 p0 p1))] [])) _
          refine XS.iloadN X7.here hx rfl (hb hby d5_111) rfl ?_
          exact k)
        by_cases hc112_39 : (f5_m10 p0 p1) = (0 : Int32)
        · have pre40 : ∀ t, Steps p.tables e below (T7.setTop (mkF m 124 #[.val (.int p0), .val (.int p1), .val (.int (f5_m5 p0 p1)), .val (.int (f5_m10 p0 p1))] [(.int (219 : Int32))])) t → Steps p.tables e below (s₁.setTop (entryFrame m #[(.int p0), (.int p1)] 4)) t := fun t k => pre38 t (by
            show Steps p.tables e below (T7.setTop (mkF m 112 #[.val (.int p0), .val (.int p1), .val (.int (f5_m5 p0 p1)), .val (.int (f5_m10 p0 p1))] [(.int (f5_m10 p0 p1))])) _
            refine XS.ifYes X7.here hx rfl (pc0 := 112) (pc' := 121) rfl (hb hby d5_112) rfl ((if0 _ _).trans (teq hc112_39).1) (by decide) (by decide) ?_
            show Steps p.tables e below (T7.setTop (mkF m 121 #[.val (.int p0), .val (.int p1), .val (.int (f5_m5 p0 p1)), .val (.int (f5_m10 p0 p1))] [])) _
            refine XS.sipush X7.here hx rfl (hb hby d5_121) ?_
            exact k)
          have q_f5_m43 : f5_m43 p0 p1 = (219 : Int32) := by unfold f5_m43; rw [if_neg hc90_34, if_pos hc102_37, if_pos hc112_39]
          rw [q_f5_m43]
          exact ⟨T7, _, X7, e7, N7, pre40⟩
        have pre41 : ∀ t, Steps p.tables e below (T7.setTop (mkF m 124 #[.val (.int p0), .val (.int p1), .val (.int (f5_m5 p0 p1)), .val (.int (f5_m10 p0 p1))] [(.int (218 : Int32))])) t → Steps p.tables e below (s₁.setTop (entryFrame m #[(.int p0), (.int p1)] 4)) t := fun t k => pre38 t (by
          show Steps p.tables e below (T7.setTop (mkF m 112 #[.val (.int p0), .val (.int p1), .val (.int (f5_m5 p0 p1)), .val (.int (f5_m10 p0 p1))] [(.int (f5_m10 p0 p1))])) _
          refine XS.ifNo X7.here hx rfl (hb hby d5_112) rfl ((if0 _ _).trans (feq hc112_39).1) ?_
          show Steps p.tables e below (T7.setTop (mkF m 115 #[.val (.int p0), .val (.int p1), .val (.int (f5_m5 p0 p1)), .val (.int (f5_m10 p0 p1))] [])) _
          refine XS.sipush X7.here hx rfl (hb hby d5_115) ?_
          show Steps p.tables e below (T7.setTop (mkF m 118 #[.val (.int p0), .val (.int p1), .val (.int (f5_m5 p0 p1)), .val (.int (f5_m10 p0 p1))] [(.int (218 : Int32))])) _
          refine XS.goto X7.here hx rfl (pc0 := 118) (pc' := 124) rfl (hb hby d5_118) (by decide) (by decide) ?_
          exact k)
        have q_f5_m43 : f5_m43 p0 p1 = (218 : Int32) := by unfold f5_m43; rw [if_neg hc90_34, if_pos hc102_37, if_neg hc112_39]
        rw [q_f5_m43]
        exact ⟨T7, _, X7, e7, N7, pre41⟩
      have pre42 : ∀ t, Steps p.tables e below (T7.setTop (mkF m 124 #[.val (.int p0), .val (.int p1), .val (.int (f5_m5 p0 p1)), .val (.int (f5_m10 p0 p1))] [(.int (217 : Int32))])) t → Steps p.tables e below (s₁.setTop (entryFrame m #[(.int p0), (.int p1)] 4)) t := fun t k => pre36 t (by
        show Steps p.tables e below (T7.setTop (mkF m 102 #[.val (.int p0), .val (.int p1), .val (.int (f5_m5 p0 p1)), .val (.int (f5_m10 p0 p1))] [(.int (f5_m5 p0 p1))])) _
        refine XS.ifNo X7.here hx rfl (hb hby d5_102) rfl ((if0 _ _).trans (feq hc102_37).1) ?_
        show Steps p.tables e below (T7.setTop (mkF m 105 #[.val (.int p0), .val (.int p1), .val (.int (f5_m5 p0 p1)), .val (.int (f5_m10 p0 p1))] [])) _
        refine XS.sipush X7.here hx rfl (hb hby d5_105) ?_
        show Steps p.tables e below (T7.setTop (mkF m 108 #[.val (.int p0), .val (.int p1), .val (.int (f5_m5 p0 p1)), .val (.int (f5_m10 p0 p1))] [(.int (217 : Int32))])) _
        refine XS.goto X7.here hx rfl (pc0 := 108) (pc' := 124) rfl (hb hby d5_108) (by decide) (by decide) ?_
        exact k)
      have q_f5_m43 : f5_m43 p0 p1 = (217 : Int32) := by unfold f5_m43; rw [if_neg hc90_34, if_neg hc102_37]
      rw [q_f5_m43]
      exact ⟨T7, _, X7, e7, N7, pre42⟩
    obtain ⟨fs, hr, hrun, hended, hW, hsame⟩ := X34.leave (v := some (.int (f5_m43 p0 p1))) (fun h => by rw [Bd.returns] at h; cases h)
    have hF : (F5 p0 p1) = (f5_m43 p0 p1) := by unfold F5; rw [if_neg hc26_12, if_neg hc55_22, if_pos hc84_32]
    exact ⟨_, _, pre34 _ (retI X34 hx Bd.returns (hb hby d5_124) hr), hrun, hended, _, _, rfl, ⟨by rw [hF], N34, e34⟩, ⟨_, rfl⟩, hW, hsame.mono (by decide) (by decide)⟩
  have pre44 : ∀ t, Steps p.tables e below (T7.setTop (mkF m 127 #[.val (.int p0), .val (.int p1), .val (.int (f5_m5 p0 p1)), .val (.int (f5_m10 p0 p1))] [(.int (3 : Int32)), (.int p0)])) t → Steps p.tables e below (s₁.setTop (entryFrame m #[(.int p0), (.int p1)] 4)) t := fun t k => pre31 t (by
    show Steps p.tables e below (T7.setTop (mkF m 84 #[.val (.int p0), .val (.int p1), .val (.int (f5_m5 p0 p1)), .val (.int (f5_m10 p0 p1))] [(.int (2 : Int32)), (.int p0)])) _
    refine XS.icmpYes X7.here hx rfl (pc0 := 84) (pc' := 125) rfl (hb hby d5_84) rfl (feq hc84_32).2 (by decide) (by decide) ?_
    show Steps p.tables e below (T7.setTop (mkF m 125 #[.val (.int p0), .val (.int p1), .val (.int (f5_m5 p0 p1)), .val (.int (f5_m10 p0 p1))] [])) _
    refine XS.iloadN X7.here hx rfl (hb hby d5_125) rfl ?_
    show Steps p.tables e below (T7.setTop (mkF m 126 #[.val (.int p0), .val (.int p1), .val (.int (f5_m5 p0 p1)), .val (.int (f5_m10 p0 p1))] [(.int p0)])) _
    refine XS.iconst X7.here hx rfl (hb hby d5_126) ?_
    exact k)
  by_cases hc127_45 : p0 = (3 : Int32)
  · have pre46 : ∀ t, Steps p.tables e below (T7.setTop (mkF m 133 #[.val (.int p0), .val (.int p1), .val (.int (f5_m5 p0 p1)), .val (.int (f5_m10 p0 p1))] [(.int (16 : Int32)), (.int p1)])) t → Steps p.tables e below (s₁.setTop (entryFrame m #[(.int p0), (.int p1)] 4)) t := fun t k => pre44 t (by
      show Steps p.tables e below (T7.setTop (mkF m 127 #[.val (.int p0), .val (.int p1), .val (.int (f5_m5 p0 p1)), .val (.int (f5_m10 p0 p1))] [(.int (3 : Int32)), (.int p0)])) _
      refine XS.icmpNo X7.here hx rfl (hb hby d5_127) rfl (teq hc127_45).2 ?_
      show Steps p.tables e below (T7.setTop (mkF m 130 #[.val (.int p0), .val (.int p1), .val (.int (f5_m5 p0 p1)), .val (.int (f5_m10 p0 p1))] [])) _
      refine XS.iloadN X7.here hx rfl (hb hby d5_130) rfl ?_
      show Steps p.tables e below (T7.setTop (mkF m 131 #[.val (.int p0), .val (.int p1), .val (.int (f5_m5 p0 p1)), .val (.int (f5_m10 p0 p1))] [(.int p1)])) _
      refine XS.bipush X7.here hx rfl (hb hby d5_131) ?_
      exact k)
    obtain ⟨T47, L47, X47, e47, N47, pre47⟩ : ∃ (T' : State) (locs' : List Loc), Stand p l e ({ frames := 0, cells := 0, slots := 0, locals := 0 } : Room) s m #[(.int p0), (.int p1)] below meth c T' locs' 0 0 ∧ T'.heap = h0 ∧ Fr n0 locs' ∧ ∀ t, Steps p.tables e below (T'.setTop (mkF m 157 #[.val (.int p0), .val (.int p1), .val (.int (f5_m5 p0 p1)), .val (.int (f5_m10 p0 p1))] [(.int (f5_m53 p0 p1))])) t → Steps p.tables e below (s₁.setTop (entryFrame m #[(.int p0), (.int p1)] 4)) t := by
      by_cases hc133_47 : p1 < (16 : Int32)
      · have pre48 : ∀ t, Steps p.tables e below (T7.setTop (mkF m 157 #[.val (.int p0), .val (.int p1), .val (.int (f5_m5 p0 p1)), .val (.int (f5_m10 p0 p1))] [(.int ((144 : Int32) + p1))])) t → Steps p.tables e below (s₁.setTop (entryFrame m #[(.int p0), (.int p1)] 4)) t := fun t k => pre46 t (by
          show Steps p.tables e below (T7.setTop (mkF m 133 #[.val (.int p0), .val (.int p1), .val (.int (f5_m5 p0 p1)), .val (.int (f5_m10 p0 p1))] [(.int (16 : Int32)), (.int p1)])) _
          refine XS.icmpNo X7.here hx rfl (hb hby d5_133) rfl (tlt hc133_47).2.1 ?_
          show Steps p.tables e below (T7.setTop (mkF m 136 #[.val (.int p0), .val (.int p1), .val (.int (f5_m5 p0 p1)), .val (.int (f5_m10 p0 p1))] [])) _
          refine XS.sipush X7.here hx rfl (hb hby d5_136) ?_
          show Steps p.tables e below (T7.setTop (mkF m 139 #[.val (.int p0), .val (.int p1), .val (.int (f5_m5 p0 p1)), .val (.int (f5_m10 p0 p1))] [(.int (144 : Int32))])) _
          refine XS.iloadN X7.here hx rfl (hb hby d5_139) rfl ?_
          show Steps p.tables e below (T7.setTop (mkF m 140 #[.val (.int p0), .val (.int p1), .val (.int (f5_m5 p0 p1)), .val (.int (f5_m10 p0 p1))] [(.int p1), (.int (144 : Int32))])) _
          refine XS.iadd X7.here hx rfl (hb hby d5_140) rfl ?_
          show Steps p.tables e below (T7.setTop (mkF m 141 #[.val (.int p0), .val (.int p1), .val (.int (f5_m5 p0 p1)), .val (.int (f5_m10 p0 p1))] [(.int ((144 : Int32) + p1))])) _
          refine XS.goto X7.here hx rfl (pc0 := 141) (pc' := 157) rfl (hb hby d5_141) (by decide) (by decide) ?_
          exact k)
        have q_f5_m53 : f5_m53 p0 p1 = ((144 : Int32) + p1) := by unfold f5_m53; rw [if_pos hc133_47]
        rw [q_f5_m53]
        exact ⟨T7, _, X7, e7, N7, pre48⟩
      have pre49 : ∀ t, Steps p.tables e below (T7.setTop (mkF m 145 #[.val (.int p0), .val (.int p1), .val (.int (f5_m5 p0 p1)), .val (.int (f5_m10 p0 p1))] [(.int (f5_m10 p0 p1))])) t → Steps p.tables e below (s₁.setTop (entryFrame m #[(.int p0), (.int p1)] 4)) t := fun t k => pre46 t (by
        show Steps p.tables e below (T7.setTop (mkF m 133 #[.val (.int p0), .val (.int p1), .val (.int (f5_m5 p0 p1)), .val (.int (f5_m10 p0 p1))] [(.int (16 : Int32)), (.int p1)])) _
        refine XS.icmpYes X7.here hx rfl (pc0 := 133) (pc' := 144) rfl (hb hby d5_133) rfl (flt hc133_47).2.1 (by decide) (by decide) ?_
        show Steps p.tables e below (T7.setTop (mkF m 144 #[.val (.int p0), .val (.int p1), .val (.int (f5_m5 p0 p1)), .val (.int (f5_m10 p0 p1))] [])) _
        refine XS.iloadN X7.here hx rfl (hb hby d5_144) rfl ?_
        exact k)
      by_cases hc145_50 : (f5_m10 p0 p1) = (0 : Int32)
      · have pre51 : ∀ t, Steps p.tables e below (T7.setTop (mkF m 157 #[.val (.int p0), .val (.int p1), .val (.int (f5_m5 p0 p1)), .val (.int (f5_m10 p0 p1))] [(.int (221 : Int32))])) t → Steps p.tables e below (s₁.setTop (entryFrame m #[(.int p0), (.int p1)] 4)) t := fun t k => pre49 t (by
          show Steps p.tables e below (T7.setTop (mkF m 145 #[.val (.int p0), .val (.int p1), .val (.int (f5_m5 p0 p1)), .val (.int (f5_m10 p0 p1))] [(.int (f5_m10 p0 p1))])) _
          refine XS.ifYes X7.here hx rfl (pc0 := 145) (pc' := 154) rfl (hb hby d5_145) rfl ((if0 _ _).trans (teq hc145_50).1) (by decide) (by decide) ?_
          show Steps p.tables e below (T7.setTop (mkF m 154 #[.val (.int p0), .val (.int p1), .val (.int (f5_m5 p0 p1)), .val (.int (f5_m10 p0 p1))] [])) _
          refine XS.sipush X7.here hx rfl (hb hby d5_154) ?_
          exact k)
        have q_f5_m53 : f5_m53 p0 p1 = (221 : Int32) := by unfold f5_m53; rw [if_neg hc133_47, if_pos hc145_50]
        rw [q_f5_m53]
        exact ⟨T7, _, X7, e7, N7, pre51⟩
      have pre52 : ∀ t, Steps p.tables e below (T7.setTop (mkF m 157 #[.val (.int p0), .val (.int p1), .val (.int (f5_m5 p0 p1)), .val (.int (f5_m10 p0 p1))] [(.int (220 : Int32))])) t → Steps p.tables e below (s₁.setTop (entryFrame m #[(.int p0), (.int p1)] 4)) t := fun t k => pre49 t (by
        show Steps p.tables e below (T7.setTop (mkF m 145 #[.val (.int p0), .val (.int p1), .val (.int (f5_m5 p0 p1)), .val (.int (f5_m10 p0 p1))] [(.int (f5_m10 p0 p1))])) _
        refine XS.ifNo X7.here hx rfl (hb hby d5_145) rfl ((if0 _ _).trans (feq hc145_50).1) ?_
        show Steps p.tables e below (T7.setTop (mkF m 148 #[.val (.int p0), .val (.int p1), .val (.int (f5_m5 p0 p1)), .val (.int (f5_m10 p0 p1))] [])) _
        refine XS.sipush X7.here hx rfl (hb hby d5_148) ?_
        show Steps p.tables e below (T7.setTop (mkF m 151 #[.val (.int p0), .val (.int p1), .val (.int (f5_m5 p0 p1)), .val (.int (f5_m10 p0 p1))] [(.int (220 : Int32))])) _
        refine XS.goto X7.here hx rfl (pc0 := 151) (pc' := 157) rfl (hb hby d5_151) (by decide) (by decide) ?_
        exact k)
      have q_f5_m53 : f5_m53 p0 p1 = (220 : Int32) := by unfold f5_m53; rw [if_neg hc133_47, if_neg hc145_50]
      rw [q_f5_m53]
      exact ⟨T7, _, X7, e7, N7, pre52⟩
    obtain ⟨fs, hr, hrun, hended, hW, hsame⟩ := X47.leave (v := some (.int (f5_m53 p0 p1))) (fun h => by rw [Bd.returns] at h; cases h)
    have hF : (F5 p0 p1) = (f5_m53 p0 p1) := by unfold F5; rw [if_neg hc26_12, if_neg hc55_22, if_neg hc84_32, if_pos hc127_45]
    exact ⟨_, _, pre47 _ (retI X47 hx Bd.returns (hb hby d5_157) hr), hrun, hended, _, _, rfl, ⟨by rw [hF], N47, e47⟩, ⟨_, rfl⟩, hW, hsame.mono (by decide) (by decide)⟩
  have pre54 : ∀ t, Steps p.tables e below (T7.setTop (mkF m 161 #[.val (.int p0), .val (.int p1), .val (.int (f5_m5 p0 p1)), .val (.int (f5_m10 p0 p1))] [(.int (16 : Int32)), (.int p1)])) t → Steps p.tables e below (s₁.setTop (entryFrame m #[(.int p0), (.int p1)] 4)) t := fun t k => pre44 t (by
    show Steps p.tables e below (T7.setTop (mkF m 127 #[.val (.int p0), .val (.int p1), .val (.int (f5_m5 p0 p1)), .val (.int (f5_m10 p0 p1))] [(.int (3 : Int32)), (.int p0)])) _
    refine XS.icmpYes X7.here hx rfl (pc0 := 127) (pc' := 158) rfl (hb hby d5_127) rfl (feq hc127_45).2 (by decide) (by decide) ?_
    show Steps p.tables e below (T7.setTop (mkF m 158 #[.val (.int p0), .val (.int p1), .val (.int (f5_m5 p0 p1)), .val (.int (f5_m10 p0 p1))] [])) _
    refine XS.iloadN X7.here hx rfl (hb hby d5_158) rfl ?_
    show Steps p.tables e below (T7.setTop (mkF m 159 #[.val (.int p0), .val (.int p1), .val (.int (f5_m5 p0 p1)), .val (.int (f5_m10 p0 p1))] [(.int p1)])) _
    refine XS.bipush X7.here hx rfl (hb hby d5_159) ?_
    exact k)
  obtain ⟨T55, L55, X55, e55, N55, pre55⟩ : ∃ (T' : State) (locs' : List Loc), Stand p l e ({ frames := 0, cells := 0, slots := 0, locals := 0 } : Room) s m #[(.int p0), (.int p1)] below meth c T' locs' 0 0 ∧ T'.heap = h0 ∧ Fr n0 locs' ∧ ∀ t, Steps p.tables e below (T'.setTop (mkF m 185 #[.val (.int p0), .val (.int p1), .val (.int (f5_m5 p0 p1)), .val (.int (f5_m10 p0 p1))] [(.int (f5_m61 p0 p1))])) t → Steps p.tables e below (s₁.setTop (entryFrame m #[(.int p0), (.int p1)] 4)) t := by
    by_cases hc161_55 : p1 < (16 : Int32)
    · have pre56 : ∀ t, Steps p.tables e below (T7.setTop (mkF m 185 #[.val (.int p0), .val (.int p1), .val (.int (f5_m5 p0 p1)), .val (.int (f5_m10 p0 p1))] [(.int ((128 : Int32) + p1))])) t → Steps p.tables e below (s₁.setTop (entryFrame m #[(.int p0), (.int p1)] 4)) t := fun t k => pre54 t (by
        show Steps p.tables e below (T7.setTop (mkF m 161 #[.val (.int p0), .val (.int p1), .val (.int (f5_m5 p0 p1)), .val (.int (f5_m10 p0 p1))] [(.int (16 : Int32)), (.int p1)])) _
        refine XS.icmpNo X7.here hx rfl (hb hby d5_161) rfl (tlt hc161_55).2.1 ?_
        show Steps p.tables e below (T7.setTop (mkF m 164 #[.val (.int p0), .val (.int p1), .val (.int (f5_m5 p0 p1)), .val (.int (f5_m10 p0 p1))] [])) _
        refine XS.sipush X7.here hx rfl (hb hby d5_164) ?_
        show Steps p.tables e below (T7.setTop (mkF m 167 #[.val (.int p0), .val (.int p1), .val (.int (f5_m5 p0 p1)), .val (.int (f5_m10 p0 p1))] [(.int (128 : Int32))])) _
        refine XS.iloadN X7.here hx rfl (hb hby d5_167) rfl ?_
        show Steps p.tables e below (T7.setTop (mkF m 168 #[.val (.int p0), .val (.int p1), .val (.int (f5_m5 p0 p1)), .val (.int (f5_m10 p0 p1))] [(.int p1), (.int (128 : Int32))])) _
        refine XS.iadd X7.here hx rfl (hb hby d5_168) rfl ?_
        show Steps p.tables e below (T7.setTop (mkF m 169 #[.val (.int p0), .val (.int p1), .val (.int (f5_m5 p0 p1)), .val (.int (f5_m10 p0 p1))] [(.int ((128 : Int32) + p1))])) _
        refine XS.goto X7.here hx rfl (pc0 := 169) (pc' := 185) rfl (hb hby d5_169) (by decide) (by decide) ?_
        exact k)
      have q_f5_m61 : f5_m61 p0 p1 = ((128 : Int32) + p1) := by unfold f5_m61; rw [if_pos hc161_55]
      rw [q_f5_m61]
      exact ⟨T7, _, X7, e7, N7, pre56⟩
    have pre57 : ∀ t, Steps p.tables e below (T7.setTop (mkF m 173 #[.val (.int p0), .val (.int p1), .val (.int (f5_m5 p0 p1)), .val (.int (f5_m10 p0 p1))] [(.int (f5_m10 p0 p1))])) t → Steps p.tables e below (s₁.setTop (entryFrame m #[(.int p0), (.int p1)] 4)) t := fun t k => pre54 t (by
      show Steps p.tables e below (T7.setTop (mkF m 161 #[.val (.int p0), .val (.int p1), .val (.int (f5_m5 p0 p1)), .val (.int (f5_m10 p0 p1))] [(.int (16 : Int32)), (.int p1)])) _
      refine XS.icmpYes X7.here hx rfl (pc0 := 161) (pc' := 172) rfl (hb hby d5_161) rfl (flt hc161_55).2.1 (by decide) (by decide) ?_
      show Steps p.tables e below (T7.setTop (mkF m 172 #[.val (.int p0), .val (.int p1), .val (.int (f5_m5 p0 p1)), .val (.int (f5_m10 p0 p1))] [])) _
      refine XS.iloadN X7.here hx rfl (hb hby d5_172) rfl ?_
      exact k)
    by_cases hc173_58 : (f5_m10 p0 p1) = (0 : Int32)
    · have pre59 : ∀ t, Steps p.tables e below (T7.setTop (mkF m 185 #[.val (.int p0), .val (.int p1), .val (.int (f5_m5 p0 p1)), .val (.int (f5_m10 p0 p1))] [(.int (223 : Int32))])) t → Steps p.tables e below (s₁.setTop (entryFrame m #[(.int p0), (.int p1)] 4)) t := fun t k => pre57 t (by
        show Steps p.tables e below (T7.setTop (mkF m 173 #[.val (.int p0), .val (.int p1), .val (.int (f5_m5 p0 p1)), .val (.int (f5_m10 p0 p1))] [(.int (f5_m10 p0 p1))])) _
        refine XS.ifYes X7.here hx rfl (pc0 := 173) (pc' := 182) rfl (hb hby d5_173) rfl ((if0 _ _).trans (teq hc173_58).1) (by decide) (by decide) ?_
        show Steps p.tables e below (T7.setTop (mkF m 182 #[.val (.int p0), .val (.int p1), .val (.int (f5_m5 p0 p1)), .val (.int (f5_m10 p0 p1))] [])) _
        refine XS.sipush X7.here hx rfl (hb hby d5_182) ?_
        exact k)
      have q_f5_m61 : f5_m61 p0 p1 = (223 : Int32) := by unfold f5_m61; rw [if_neg hc161_55, if_pos hc173_58]
      rw [q_f5_m61]
      exact ⟨T7, _, X7, e7, N7, pre59⟩
    have pre60 : ∀ t, Steps p.tables e below (T7.setTop (mkF m 185 #[.val (.int p0), .val (.int p1), .val (.int (f5_m5 p0 p1)), .val (.int (f5_m10 p0 p1))] [(.int (222 : Int32))])) t → Steps p.tables e below (s₁.setTop (entryFrame m #[(.int p0), (.int p1)] 4)) t := fun t k => pre57 t (by
      show Steps p.tables e below (T7.setTop (mkF m 173 #[.val (.int p0), .val (.int p1), .val (.int (f5_m5 p0 p1)), .val (.int (f5_m10 p0 p1))] [(.int (f5_m10 p0 p1))])) _
      refine XS.ifNo X7.here hx rfl (hb hby d5_173) rfl ((if0 _ _).trans (feq hc173_58).1) ?_
      show Steps p.tables e below (T7.setTop (mkF m 176 #[.val (.int p0), .val (.int p1), .val (.int (f5_m5 p0 p1)), .val (.int (f5_m10 p0 p1))] [])) _
      refine XS.sipush X7.here hx rfl (hb hby d5_176) ?_
      show Steps p.tables e below (T7.setTop (mkF m 179 #[.val (.int p0), .val (.int p1), .val (.int (f5_m5 p0 p1)), .val (.int (f5_m10 p0 p1))] [(.int (222 : Int32))])) _
      refine XS.goto X7.here hx rfl (pc0 := 179) (pc' := 185) rfl (hb hby d5_179) (by decide) (by decide) ?_
      exact k)
    have q_f5_m61 : f5_m61 p0 p1 = (222 : Int32) := by unfold f5_m61; rw [if_neg hc161_55, if_neg hc173_58]
    rw [q_f5_m61]
    exact ⟨T7, _, X7, e7, N7, pre60⟩
  obtain ⟨fs, hr, hrun, hended, hW, hsame⟩ := X55.leave (v := some (.int (f5_m61 p0 p1))) (fun h => by rw [Bd.returns] at h; cases h)
  have hF : (F5 p0 p1) = (f5_m61 p0 p1) := by unfold F5; rw [if_neg hc26_12, if_neg hc55_22, if_neg hc84_32, if_neg hc127_45]
  exact ⟨_, _, pre55 _ (retI X55 hx Bd.returns (hb hby d5_185) hr), hrun, hended, _, _, rfl, ⟨by rw [hF], N55, e55⟩, ⟨_, rfl⟩, hW, hsame.mono (by decide) (by decide)⟩
def F0 (p0 : Int32) (p1 : Int32) (p2 : Int32) : Int32 := (if ((p0 &&& (2147483647 : Int32)) % (5 : Int32)) = (0 : Int32) then (if (F4 (((p1 &&& (2147483647 : Int32)).toUInt32 >>> ((p2 &&& (31 : Int32)) &&& 31).toUInt32).toInt32) (-1 : Int32) (196 : Int32) (198 : Int32) (197 : Int32) (-1 : Int32)) = (F5 ((p0 &&& (2147483647 : Int32)) % (5 : Int32)) (((p1 &&& (2147483647 : Int32)).toUInt32 >>> ((p2 &&& (31 : Int32)) &&& 31).toUInt32).toInt32)) then (1 : Int32) else (0 : Int32)) else (if ((p0 &&& (2147483647 : Int32)) % (5 : Int32)) = (1 : Int32) then (if (F4 (((p1 &&& (2147483647 : Int32)).toUInt32 >>> ((p2 &&& (31 : Int32)) &&& 31).toUInt32).toInt32) (-1 : Int32) (199 : Int32) (201 : Int32) (200 : Int32) (-1 : Int32)) = (F5 ((p0 &&& (2147483647 : Int32)) % (5 : Int32)) (((p1 &&& (2147483647 : Int32)).toUInt32 >>> ((p2 &&& (31 : Int32)) &&& 31).toUInt32).toInt32)) then (1 : Int32) else (0 : Int32)) else (if ((p0 &&& (2147483647 : Int32)) % (5 : Int32)) = (2 : Int32) then (if (F4 (((p1 &&& (2147483647 : Int32)).toUInt32 >>> ((p2 &&& (31 : Int32)) &&& 31).toUInt32).toInt32) (160 : Int32) (217 : Int32) (219 : Int32) (218 : Int32) (31 : Int32)) = (F5 ((p0 &&& (2147483647 : Int32)) % (5 : Int32)) (((p1 &&& (2147483647 : Int32)).toUInt32 >>> ((p2 &&& (31 : Int32)) &&& 31).toUInt32).toInt32)) then (1 : Int32) else (0 : Int32)) else (if ((p0 &&& (2147483647 : Int32)) % (5 : Int32)) = (3 : Int32) then (if (F4 (((p1 &&& (2147483647 : Int32)).toUInt32 >>> ((p2 &&& (31 : Int32)) &&& 31).toUInt32).toInt32) (144 : Int32) (-1 : Int32) (221 : Int32) (220 : Int32) (15 : Int32)) = (F5 ((p0 &&& (2147483647 : Int32)) % (5 : Int32)) (((p1 &&& (2147483647 : Int32)).toUInt32 >>> ((p2 &&& (31 : Int32)) &&& 31).toUInt32).toInt32)) then (1 : Int32) else (0 : Int32)) else (if (F4 (((p1 &&& (2147483647 : Int32)).toUInt32 >>> ((p2 &&& (31 : Int32)) &&& 31).toUInt32).toInt32) (128 : Int32) (-1 : Int32) (223 : Int32) (222 : Int32) (15 : Int32)) = (F5 ((p0 &&& (2147483647 : Int32)) % (5 : Int32)) (((p1 &&& (2147483647 : Int32)).toUInt32 >>> ((p2 &&& (31 : Int32)) &&& 31).toUInt32).toInt32)) then (1 : Int32) else (0 : Int32))))))
theorem ef0 (m : MethodId) (x0 : Int32) (x1 : Int32) (x2 : Int32) : entryFrame m #[(.int x0), (.int x1), (.int x2)] maxLocals = mkF m 0 #[.val (.int x0), .val (.int x1), .val (.int x2), .unset, .unset, .unset] [] := by first | (simp [entryFrame, mkF, argsToLocals, Value.category, maxLocals]; done) | rfl
def Q0 (Z : State) (p0 : Int32) (p1 : Int32) (p2 : Int32) (h0 : Heap) (n0 : Nat) (v : Option Value) (h : Heap) (L : List Loc) : Prop := v = some (.int (F0 p0 p1 p2)) ∧ Fr n0 L
set_option maxRecDepth 65536 in
set_option maxHeartbeats 40000000 in
theorem rm0 (l : Launch) (Z : State) (a0' : Array Value) (hw : ∀ d ∈ tables_1, d.before a0' Z = true) (ws : List Jvm.Cond) (p0 : Int32) (p1 : Int32) (p2 : Int32) (h0 : Heap) (n0 : Nat) (Z0 : n0 ≤ h0.size) :
    MetFree l x (head1 (Jvm.Cond.code x code maxLocals ret :: ws) room_1) (fun a U => a = #[(.int p0), (.int p1), (.int p2)] ∧ Z.Warmed39 U.vm ∧ U.heap = h0) (fun _ _ _ _ _ => True) (fun _ U o U' => ∃ v L, o = .returned v ∧ Q0 Z p0 p1 p2 h0 n0 v U'.heap L ∧ FrameEnd U o U' L 1 5) := by
  refine MetFree.of_bodySF (plainFor_of_name pn2) hisR ?_
  intro p e s m args below meth c s₁ Bd hml0 hP hK
  obtain ⟨rfl, hZ, hh⟩ := hP
  have hx := Bd.exec
  have hby := Bd.bytes
  have hml : c.maxLocals = 6 := hml0
  have hown : s.vm.findClass "com/example/furoshiki/furoshiki/SizedFormatsFormatForPinLaw" = some m.cls := findClass_of_methodNamed Bd.named
  have hnm := (name_of_methodNamed Bd.named Bd.method).1
  have X0 : Stand p l e room_1 s m #[(.int p0), (.int p1), (.int p2)] below meth c s₁ [] 0 0 := Stand.of_body Bd
  have e0 : s₁.heap = h0 := by rw [← hh, Bd.state]; rfl
  have N0 := Fr.nil n0
  have pre0 : ∀ t, Steps p.tables e below (s₁.setTop (mkF m 0 #[.val (.int p0), .val (.int p1), .val (.int p2), .unset, .unset, .unset] [])) t → Steps p.tables e below (s₁.setTop (entryFrame m #[(.int p0), (.int p1), (.int p2)] maxLocals)) t := fun t k => castTop (ef0 m p0 p1 p2) k
  have pre1 : ∀ t, Steps p.tables e below (s₁.setTop (mkF m 19 #[.val (.int p0), .val (.int p1), .val (.int p2), .val (.int ((p0 &&& (2147483647 : Int32)) % (5 : Int32))), .val (.int (((p1 &&& (2147483647 : Int32)).toUInt32 >>> ((p2 &&& (31 : Int32)) &&& 31).toUInt32).toInt32)), .unset] [(.int ((p0 &&& (2147483647 : Int32)) % (5 : Int32)))])) t → Steps p.tables e below (s₁.setTop (entryFrame m #[(.int p0), (.int p1), (.int p2)] maxLocals)) t := fun t k => pre0 t (by
    show Steps p.tables e below (s₁.setTop (mkF m 0 #[.val (.int p0), .val (.int p1), .val (.int p2), .unset, .unset, .unset] [])) _
    refine XS.iloadN X0.here hx rfl (hb hby at_0) rfl ?_
    show Steps p.tables e below (s₁.setTop (mkF m 1 #[.val (.int p0), .val (.int p1), .val (.int p2), .unset, .unset, .unset] [(.int p0)])) _
    refine X0.ldcInt hx hown (mvT hZ (hw _ (List.mem_of_getElem? (i := 0) rfl))) (g := (mkF m 1 #[.val (.int p0), .val (.int p1), .val (.int p2), .unset, .unset, .unset] [(.int p0)])) rfl (hb hby at_1) _ ?_
    show Steps p.tables e below (s₁.setTop (mkF m 3 #[.val (.int p0), .val (.int p1), .val (.int p2), .unset, .unset, .unset] [(.int (2147483647 : Int32)), (.int p0)])) _
    refine XS.iand X0.here hx rfl (hb hby at_3) rfl ?_
    show Steps p.tables e below (s₁.setTop (mkF m 4 #[.val (.int p0), .val (.int p1), .val (.int p2), .unset, .unset, .unset] [(.int (p0 &&& (2147483647 : Int32)))])) _
    refine XS.iconst X0.here hx rfl (hb hby at_4) ?_
    show Steps p.tables e below (s₁.setTop (mkF m 5 #[.val (.int p0), .val (.int p1), .val (.int p2), .unset, .unset, .unset] [(.int (5 : Int32)), (.int (p0 &&& (2147483647 : Int32)))])) _
    refine Jvm.RoadKit.iremM X0 hx rfl (hb hby at_5) rfl (by decide) ?_
    show Steps p.tables e below (s₁.setTop (mkF m 6 #[.val (.int p0), .val (.int p1), .val (.int p2), .unset, .unset, .unset] [(.int ((p0 &&& (2147483647 : Int32)) % (5 : Int32)))])) _
    refine XS.istoreN X0.here hx rfl (hb hby at_6) rfl (l' := #[.val (.int p0), .val (.int p1), .val (.int p2), .val (.int ((p0 &&& (2147483647 : Int32)) % (5 : Int32))), .unset, .unset]) rfl ?_
    show Steps p.tables e below (s₁.setTop (mkF m 7 #[.val (.int p0), .val (.int p1), .val (.int p2), .val (.int ((p0 &&& (2147483647 : Int32)) % (5 : Int32))), .unset, .unset] [])) _
    refine XS.iloadN X0.here hx rfl (hb hby at_7) rfl ?_
    show Steps p.tables e below (s₁.setTop (mkF m 8 #[.val (.int p0), .val (.int p1), .val (.int p2), .val (.int ((p0 &&& (2147483647 : Int32)) % (5 : Int32))), .unset, .unset] [(.int p1)])) _
    refine X0.ldcInt hx hown (mvT hZ (hw _ (List.mem_of_getElem? (i := 0) rfl))) (g := (mkF m 8 #[.val (.int p0), .val (.int p1), .val (.int p2), .val (.int ((p0 &&& (2147483647 : Int32)) % (5 : Int32))), .unset, .unset] [(.int p1)])) rfl (hb hby at_8) _ ?_
    show Steps p.tables e below (s₁.setTop (mkF m 10 #[.val (.int p0), .val (.int p1), .val (.int p2), .val (.int ((p0 &&& (2147483647 : Int32)) % (5 : Int32))), .unset, .unset] [(.int (2147483647 : Int32)), (.int p1)])) _
    refine XS.iand X0.here hx rfl (hb hby at_10) rfl ?_
    show Steps p.tables e below (s₁.setTop (mkF m 11 #[.val (.int p0), .val (.int p1), .val (.int p2), .val (.int ((p0 &&& (2147483647 : Int32)) % (5 : Int32))), .unset, .unset] [(.int (p1 &&& (2147483647 : Int32)))])) _
    refine XS.iloadN X0.here hx rfl (hb hby at_11) rfl ?_
    show Steps p.tables e below (s₁.setTop (mkF m 12 #[.val (.int p0), .val (.int p1), .val (.int p2), .val (.int ((p0 &&& (2147483647 : Int32)) % (5 : Int32))), .unset, .unset] [(.int p2), (.int (p1 &&& (2147483647 : Int32)))])) _
    refine XS.bipush X0.here hx rfl (hb hby at_12) ?_
    show Steps p.tables e below (s₁.setTop (mkF m 14 #[.val (.int p0), .val (.int p1), .val (.int p2), .val (.int ((p0 &&& (2147483647 : Int32)) % (5 : Int32))), .unset, .unset] [(.int (31 : Int32)), (.int p2), (.int (p1 &&& (2147483647 : Int32)))])) _
    refine XS.iand X0.here hx rfl (hb hby at_14) rfl ?_
    show Steps p.tables e below (s₁.setTop (mkF m 15 #[.val (.int p0), .val (.int p1), .val (.int p2), .val (.int ((p0 &&& (2147483647 : Int32)) % (5 : Int32))), .unset, .unset] [(.int (p2 &&& (31 : Int32))), (.int (p1 &&& (2147483647 : Int32)))])) _
    refine XS.iushr X0.here hx rfl (hb hby at_15) rfl ?_
    show Steps p.tables e below (s₁.setTop (mkF m 16 #[.val (.int p0), .val (.int p1), .val (.int p2), .val (.int ((p0 &&& (2147483647 : Int32)) % (5 : Int32))), .unset, .unset] [(.int (((p1 &&& (2147483647 : Int32)).toUInt32 >>> ((p2 &&& (31 : Int32)) &&& 31).toUInt32).toInt32))])) _
    refine XS.istore X0.here hx rfl (hb hby at_16) rfl (l' := #[.val (.int p0), .val (.int p1), .val (.int p2), .val (.int ((p0 &&& (2147483647 : Int32)) % (5 : Int32))), .val (.int (((p1 &&& (2147483647 : Int32)).toUInt32 >>> ((p2 &&& (31 : Int32)) &&& 31).toUInt32).toInt32)), .unset]) rfl ?_
    show Steps p.tables e below (s₁.setTop (mkF m 18 #[.val (.int p0), .val (.int p1), .val (.int p2), .val (.int ((p0 &&& (2147483647 : Int32)) % (5 : Int32))), .val (.int (((p1 &&& (2147483647 : Int32)).toUInt32 >>> ((p2 &&& (31 : Int32)) &&& 31).toUInt32).toInt32)), .unset] [])) _
    refine XS.iloadN X0.here hx rfl (hb hby at_18) rfl ?_
    exact k)
  by_cases hc19_2 : ((p0 &&& (2147483647 : Int32)) % (5 : Int32)) = (0 : Int32)
  · obtain ⟨T3, h3, X3, e3, E3, A3, D3, -, st3⟩ := newO X0 hx hZ hown (hw _ (List.mem_of_getElem? (i := 1) rfl)) (hw _ (List.mem_of_getElem? (i := 2) rfl)) (hw _ (List.mem_of_getElem? (i := 3) rfl)) e0 (g := (mkF m 22 #[.val (.int p0), .val (.int p1), .val (.int p2), .val (.int ((p0 &&& (2147483647 : Int32)) % (5 : Int32))), .val (.int (((p1 &&& (2147483647 : Int32)).toUInt32 >>> ((p2 &&& (31 : Int32)) &&& 31).toUInt32).toInt32)), .unset] [])) rfl (hb hby at_22) (by decide) (by decide)
    obtain ⟨b3, g3⟩ : ∃ z, z = h0.size := ⟨_, rfl⟩
    rw [← g3] at A3 D3 st3
    have g_b3 : n0 ≤ b3 := Nat.le_trans Z0 (Nat.le_of_eq g3.symm)
    have Z3 : n0 ≤ h3.size := Nat.le_trans Z0 E3.1
    have F3_fix : Fld Z h3 b3 "com/example/furoshiki/furoshiki/Format$SizedFormats" "fix" "I" (.int (0 : Int32)) := D3 (Or.inr (hw _ (List.mem_of_getElem? (i := 16) rfl))) (ty := .int) (by decide)
    have F3_fixMax : Fld Z h3 b3 "com/example/furoshiki/furoshiki/Format$SizedFormats" "fixMax" "I" (.int (0 : Int32)) := D3 (Or.inr (hw _ (List.mem_of_getElem? (i := 18) rfl))) (ty := .int) (by decide)
    have F3_format8 : Fld Z h3 b3 "com/example/furoshiki/furoshiki/Format$SizedFormats" "format8" "I" (.int (0 : Int32)) := D3 (Or.inr (hw _ (List.mem_of_getElem? (i := 20) rfl))) (ty := .int) (by decide)
    have F3_format16 : Fld Z h3 b3 "com/example/furoshiki/furoshiki/Format$SizedFormats" "format16" "I" (.int (0 : Int32)) := D3 (Or.inr (hw _ (List.mem_of_getElem? (i := 22) rfl))) (ty := .int) (by decide)
    have F3_format32 : Fld Z h3 b3 "com/example/furoshiki/furoshiki/Format$SizedFormats" "format32" "I" (.int (0 : Int32)) := D3 (Or.inr (hw _ (List.mem_of_getElem? (i := 24) rfl))) (ty := .int) (by decide)
    obtain ⟨_, _, ⟨T4, L4, k4, n4⟩, -, X4, ⟨Lc4, hQ4, l4, y4, z4⟩, st4⟩ := X3.specialBack hx (y := (⟨"com/example/furoshiki/furoshiki/Format$SizedFormats", "<init>", "(IIIII)V"⟩ : MethodName)) rfl hown (mvT hZ (hw _ (List.mem_of_getElem? (i := 4) rfl))) (mvT hZ (hw _ (List.mem_of_getElem? (i := 5) rfl))) (mvT hZ (hw _ (List.mem_of_getElem? (i := 6) rfl))) (by decide) (backOf (W := 1) (rm1 l Z a0' hw [] b3 (-1 : Int32) (-1 : Int32) (196 : Int32) (197 : Int32) (198 : Int32) (0 : Int32) (0 : Int32) (0 : Int32) (0 : Int32) (0 : Int32) h3 n0 Z3 A3 F3_fix F3_fixMax F3_format8 F3_format16 F3_format32 g_b3) hZ (hw _ (List.mem_of_getElem? (i := 6) rfl)) (hw _ (List.mem_of_getElem? (i := 3) rfl)) (by decide) (by decide)) (g := (mkF m 37 #[.val (.int p0), .val (.int p1), .val (.int p2), .val (.int ((p0 &&& (2147483647 : Int32)) % (5 : Int32))), .val (.int (((p1 &&& (2147483647 : Int32)).toUInt32 >>> ((p2 &&& (31 : Int32)) &&& 31).toUInt32).toInt32)), .unset] [(.int (198 : Int32)), (.int (197 : Int32)), (.int (196 : Int32)), (.int (-1 : Int32)), (.int (-1 : Int32)), (.ref b3), (.ref b3)])) rfl (by rw [hml]; rfl) (Steps.refl _) (a := b3) (argsL := [(.int (-1 : Int32)), (.int (-1 : Int32)), (.int (196 : Int32)), (.int (197 : Int32)), (.int (198 : Int32))]) (rest := [(.ref b3)]) (lenOf pd1 rfl) rfl (by show 2 * 0 + _ ≤ _; exact Nat.le_of_eq rfl) (hb hby at_37) (fun _ _ => ⟨rfl, e3, (by decide : 1 + 0 ≤ _), (by decide : 5 + 0 ≤ _)⟩)
    dsimp only [Pt.U, Pt.locs, Pt.cells, Pt.slots] at X4 l4 y4 z4 st4 hQ4
    subst l4 y4 z4
    obtain ⟨rfl, N4q, K4, u4_0, u4_1, u4_2, u4_3, u4_4, u4_5⟩ := hQ4
    have N4 := Fr.app N0 N4q
    have Z4 : n0 ≤ T4.heap.size := Nat.le_trans Z3 K4.1
    obtain ⟨cq5, kq5, q5a, q5b, q5c⟩ := isOf hZ rfl u4_0
    obtain ⟨_, _, ⟨T5, L5, k5, n5⟩, -, X5, ⟨Lc5, hQ5, l5, y5, z5⟩, st5⟩ := X4.virtualBack hx (y := (⟨"com/example/furoshiki/furoshiki/Format$SizedFormats", "formatFor", "(I)I"⟩ : MethodName)) (z := (⟨"com/example/furoshiki/furoshiki/Format$SizedFormats", "formatFor", "(I)I"⟩ : MethodName)) hown (mvT hZ (hw _ (List.mem_of_getElem? (i := 25) rfl))) (mvT hZ (hw _ (List.mem_of_getElem? (i := 26) rfl))) (notFace_of_selects (args := #[]) (mvT hZ (hw _ (List.mem_of_getElem? (i := 28) rfl)))) (mvT hZ (hw _ (List.mem_of_getElem? (i := 28) rfl))) (mvT hZ (hw _ (List.mem_of_getElem? (i := 27) rfl))) (by decide) (backOf (W := 0) (rm4 l Z a0' hw [] b3 (((p1 &&& (2147483647 : Int32)).toUInt32 >>> ((p2 &&& (31 : Int32)) &&& 31).toUInt32).toInt32) (-1 : Int32) (196 : Int32) (198 : Int32) (197 : Int32) (-1 : Int32) T4.heap n0 Z4 u4_1 u4_3 u4_5 u4_4 u4_2) hZ (hw _ (List.mem_of_getElem? (i := 29) rfl)) (hw _ (List.mem_of_getElem? (i := 3) rfl)) (by decide) (by decide)) q5a q5c (g := (mkF m 158 #[.val (.int p0), .val (.int p1), .val (.int p2), .val (.int ((p0 &&& (2147483647 : Int32)) % (5 : Int32))), .val (.int (((p1 &&& (2147483647 : Int32)).toUInt32 >>> ((p2 &&& (31 : Int32)) &&& 31).toUInt32).toInt32)), .val (.ref b3)] [(.int (((p1 &&& (2147483647 : Int32)).toUInt32 >>> ((p2 &&& (31 : Int32)) &&& 31).toUInt32).toInt32)), (.ref b3)])) rfl (by rw [hml]; rfl) (Steps.refl _) (argsL := [(.int (((p1 &&& (2147483647 : Int32)).toUInt32 >>> ((p2 &&& (31 : Int32)) &&& 31).toUInt32).toInt32))]) (rest := []) (lenOf pd2 rfl) rfl (by show 2 * 0 + _ ≤ _; exact Nat.le_of_eq rfl) (hb hby at_158) (fun _ _ => ⟨rfl, rfl, (by decide : 1 + 0 ≤ _), (by decide : 5 + 0 ≤ _)⟩)
    dsimp only [Pt.U, Pt.locs, Pt.cells, Pt.slots] at X5 l5 y5 z5 st5 hQ5
    subst l5 y5 z5
    obtain ⟨rfl, N5q, e5⟩ := hQ5
    have N5 := Fr.app N4 N5q
    obtain ⟨_, _, ⟨T6, L6, k6, n6⟩, -, X6, ⟨Lc6, hQ6, l6, y6, z6⟩, st6⟩ := Jvm.LawKit.callS X5 hx (y := (⟨"com/example/furoshiki/furoshiki/SizedFormatsFormatForPinLaw", "expected", "(II)I"⟩ : MethodName)) hown (mvT hZ (hw _ (List.mem_of_getElem? (i := 30) rfl))) (mvT hZ (hw _ (List.mem_of_getElem? (i := 31) rfl))) (mvT hZ (hw _ (List.mem_of_getElem? (i := 32) rfl))) (mvT hZ (hw _ (List.mem_of_getElem? (i := 33) rfl))) (by decide) (backOf (W := 1) (rm5 l Z a0' hw [] ((p0 &&& (2147483647 : Int32)) % (5 : Int32)) (((p1 &&& (2147483647 : Int32)).toUInt32 >>> ((p2 &&& (31 : Int32)) &&& 31).toUInt32).toInt32) T4.heap n0 Z4) hZ (hw _ (List.mem_of_getElem? (i := 33) rfl)) (hw _ (List.mem_of_getElem? (i := 32) rfl)) (by decide) (by decide)) (g := (mkF m 164 #[.val (.int p0), .val (.int p1), .val (.int p2), .val (.int ((p0 &&& (2147483647 : Int32)) % (5 : Int32))), .val (.int (((p1 &&& (2147483647 : Int32)).toUInt32 >>> ((p2 &&& (31 : Int32)) &&& 31).toUInt32).toInt32)), .val (.ref b3)] [(.int (((p1 &&& (2147483647 : Int32)).toUInt32 >>> ((p2 &&& (31 : Int32)) &&& 31).toUInt32).toInt32)), (.int ((p0 &&& (2147483647 : Int32)) % (5 : Int32))), (.int (F4 (((p1 &&& (2147483647 : Int32)).toUInt32 >>> ((p2 &&& (31 : Int32)) &&& 31).toUInt32).toInt32) (-1 : Int32) (196 : Int32) (198 : Int32) (197 : Int32) (-1 : Int32)))])) rfl (by rw [hml]; rfl) (argsL := [(.int ((p0 &&& (2147483647 : Int32)) % (5 : Int32))), (.int (((p1 &&& (2147483647 : Int32)).toUInt32 >>> ((p2 &&& (31 : Int32)) &&& 31).toUInt32).toInt32))]) (rest := [(.int (F4 (((p1 &&& (2147483647 : Int32)).toUInt32 >>> ((p2 &&& (31 : Int32)) &&& 31).toUInt32).toInt32) (-1 : Int32) (196 : Int32) (198 : Int32) (197 : Int32) (-1 : Int32)))]) (lenOf pd3 rfl) rfl (by show 2 * 0 + _ ≤ _; exact Nat.le_of_eq rfl) (hb hby at_164) (fun _ _ => ⟨rfl, e5, (by decide : 1 + 0 ≤ _), (by decide : 5 + 0 ≤ _)⟩)
    dsimp only [Pt.U, Pt.locs, Pt.cells, Pt.slots] at X6 l6 y6 z6 st6 hQ6
    subst l6 y6 z6
    obtain ⟨rfl, N6q, e6⟩ := hQ6
    have N6 := Fr.app N5 N6q
    have pre7 : ∀ t, Steps p.tables e below (T6.setTop (mkF m 167 #[.val (.int p0), .val (.int p1), .val (.int p2), .val (.int ((p0 &&& (2147483647 : Int32)) % (5 : Int32))), .val (.int (((p1 &&& (2147483647 : Int32)).toUInt32 >>> ((p2 &&& (31 : Int32)) &&& 31).toUInt32).toInt32)), .val (.ref b3)] [(.int (F5 ((p0 &&& (2147483647 : Int32)) % (5 : Int32)) (((p1 &&& (2147483647 : Int32)).toUInt32 >>> ((p2 &&& (31 : Int32)) &&& 31).toUInt32).toInt32))), (.int (F4 (((p1 &&& (2147483647 : Int32)).toUInt32 >>> ((p2 &&& (31 : Int32)) &&& 31).toUInt32).toInt32) (-1 : Int32) (196 : Int32) (198 : Int32) (197 : Int32) (-1 : Int32)))])) t → Steps p.tables e below (s₁.setTop (entryFrame m #[(.int p0), (.int p1), (.int p2)] maxLocals)) t := fun t k => pre1 t (by
      show Steps p.tables e below (s₁.setTop (mkF m 19 #[.val (.int p0), .val (.int p1), .val (.int p2), .val (.int ((p0 &&& (2147483647 : Int32)) % (5 : Int32))), .val (.int (((p1 &&& (2147483647 : Int32)).toUInt32 >>> ((p2 &&& (31 : Int32)) &&& 31).toUInt32).toInt32)), .unset] [(.int ((p0 &&& (2147483647 : Int32)) % (5 : Int32)))])) _
      refine XS.ifNo X0.here hx rfl (hb hby at_19) rfl ((if0 _ _).trans (teq hc19_2).2) ?_
      show Steps p.tables e below (s₁.setTop (mkF m 22 #[.val (.int p0), .val (.int p1), .val (.int p2), .val (.int ((p0 &&& (2147483647 : Int32)) % (5 : Int32))), .val (.int (((p1 &&& (2147483647 : Int32)).toUInt32 >>> ((p2 &&& (31 : Int32)) &&& 31).toUInt32).toInt32)), .unset] [])) _
      refine st3 _ ?_
      show Steps p.tables e below (T3.setTop (mkF m 25 #[.val (.int p0), .val (.int p1), .val (.int p2), .val (.int ((p0 &&& (2147483647 : Int32)) % (5 : Int32))), .val (.int (((p1 &&& (2147483647 : Int32)).toUInt32 >>> ((p2 &&& (31 : Int32)) &&& 31).toUInt32).toInt32)), .unset] [(.ref b3)])) _
      refine XS.dup X3.here hx rfl (hb hby at_25) rfl rfl ?_
      show Steps p.tables e below (T3.setTop (mkF m 26 #[.val (.int p0), .val (.int p1), .val (.int p2), .val (.int ((p0 &&& (2147483647 : Int32)) % (5 : Int32))), .val (.int (((p1 &&& (2147483647 : Int32)).toUInt32 >>> ((p2 &&& (31 : Int32)) &&& 31).toUInt32).toInt32)), .unset] [(.ref b3), (.ref b3)])) _
      refine XS.iconst X3.here hx rfl (hb hby at_26) ?_
      show Steps p.tables e below (T3.setTop (mkF m 27 #[.val (.int p0), .val (.int p1), .val (.int p2), .val (.int ((p0 &&& (2147483647 : Int32)) % (5 : Int32))), .val (.int (((p1 &&& (2147483647 : Int32)).toUInt32 >>> ((p2 &&& (31 : Int32)) &&& 31).toUInt32).toInt32)), .unset] [(.int (-1 : Int32)), (.ref b3), (.ref b3)])) _
      refine XS.iconst X3.here hx rfl (hb hby at_27) ?_
      show Steps p.tables e below (T3.setTop (mkF m 28 #[.val (.int p0), .val (.int p1), .val (.int p2), .val (.int ((p0 &&& (2147483647 : Int32)) % (5 : Int32))), .val (.int (((p1 &&& (2147483647 : Int32)).toUInt32 >>> ((p2 &&& (31 : Int32)) &&& 31).toUInt32).toInt32)), .unset] [(.int (-1 : Int32)), (.int (-1 : Int32)), (.ref b3), (.ref b3)])) _
      refine XS.sipush X3.here hx rfl (hb hby at_28) ?_
      show Steps p.tables e below (T3.setTop (mkF m 31 #[.val (.int p0), .val (.int p1), .val (.int p2), .val (.int ((p0 &&& (2147483647 : Int32)) % (5 : Int32))), .val (.int (((p1 &&& (2147483647 : Int32)).toUInt32 >>> ((p2 &&& (31 : Int32)) &&& 31).toUInt32).toInt32)), .unset] [(.int (196 : Int32)), (.int (-1 : Int32)), (.int (-1 : Int32)), (.ref b3), (.ref b3)])) _
      refine XS.sipush X3.here hx rfl (hb hby at_31) ?_
      show Steps p.tables e below (T3.setTop (mkF m 34 #[.val (.int p0), .val (.int p1), .val (.int p2), .val (.int ((p0 &&& (2147483647 : Int32)) % (5 : Int32))), .val (.int (((p1 &&& (2147483647 : Int32)).toUInt32 >>> ((p2 &&& (31 : Int32)) &&& 31).toUInt32).toInt32)), .unset] [(.int (197 : Int32)), (.int (196 : Int32)), (.int (-1 : Int32)), (.int (-1 : Int32)), (.ref b3), (.ref b3)])) _
      refine XS.sipush X3.here hx rfl (hb hby at_34) ?_
      show Steps p.tables e below (T3.setTop (mkF m 37 #[.val (.int p0), .val (.int p1), .val (.int p2), .val (.int ((p0 &&& (2147483647 : Int32)) % (5 : Int32))), .val (.int (((p1 &&& (2147483647 : Int32)).toUInt32 >>> ((p2 &&& (31 : Int32)) &&& 31).toUInt32).toInt32)), .unset] [(.int (198 : Int32)), (.int (197 : Int32)), (.int (196 : Int32)), (.int (-1 : Int32)), (.int (-1 : Int32)), (.ref b3), (.ref b3)])) _
      refine st4.trans ?_
      show Steps p.tables e below (T4.setTop (mkF m 40 #[.val (.int p0), .val (.int p1), .val (.int p2), .val (.int ((p0 &&& (2147483647 : Int32)) % (5 : Int32))), .val (.int (((p1 &&& (2147483647 : Int32)).toUInt32 >>> ((p2 &&& (31 : Int32)) &&& 31).toUInt32).toInt32)), .unset] [(.ref b3)])) _
      refine XS.astore X4.here hx rfl (hb hby at_40) rfl rfl (l' := #[.val (.int p0), .val (.int p1), .val (.int p2), .val (.int ((p0 &&& (2147483647 : Int32)) % (5 : Int32))), .val (.int (((p1 &&& (2147483647 : Int32)).toUInt32 >>> ((p2 &&& (31 : Int32)) &&& 31).toUInt32).toInt32)), .val (.ref b3)]) rfl ?_
      show Steps p.tables e below (T4.setTop (mkF m 42 #[.val (.int p0), .val (.int p1), .val (.int p2), .val (.int ((p0 &&& (2147483647 : Int32)) % (5 : Int32))), .val (.int (((p1 &&& (2147483647 : Int32)).toUInt32 >>> ((p2 &&& (31 : Int32)) &&& 31).toUInt32).toInt32)), .val (.ref b3)] [])) _
      refine XS.goto X4.here hx rfl (pc0 := 42) (pc' := 154) rfl (hb hby at_42) (by decide) (by decide) ?_
      show Steps p.tables e below (T4.setTop (mkF m 154 #[.val (.int p0), .val (.int p1), .val (.int p2), .val (.int ((p0 &&& (2147483647 : Int32)) % (5 : Int32))), .val (.int (((p1 &&& (2147483647 : Int32)).toUInt32 >>> ((p2 &&& (31 : Int32)) &&& 31).toUInt32).toInt32)), .val (.ref b3)] [])) _
      refine XS.aload X4.here hx rfl (hb hby at_154) rfl rfl ?_
      show Steps p.tables e below (T4.setTop (mkF m 156 #[.val (.int p0), .val (.int p1), .val (.int p2), .val (.int ((p0 &&& (2147483647 : Int32)) % (5 : Int32))), .val (.int (((p1 &&& (2147483647 : Int32)).toUInt32 >>> ((p2 &&& (31 : Int32)) &&& 31).toUInt32).toInt32)), .val (.ref b3)] [(.ref b3)])) _
      refine XS.iload X4.here hx rfl (hb hby at_156) rfl ?_
      show Steps p.tables e below (T4.setTop (mkF m 158 #[.val (.int p0), .val (.int p1), .val (.int p2), .val (.int ((p0 &&& (2147483647 : Int32)) % (5 : Int32))), .val (.int (((p1 &&& (2147483647 : Int32)).toUInt32 >>> ((p2 &&& (31 : Int32)) &&& 31).toUInt32).toInt32)), .val (.ref b3)] [(.int (((p1 &&& (2147483647 : Int32)).toUInt32 >>> ((p2 &&& (31 : Int32)) &&& 31).toUInt32).toInt32)), (.ref b3)])) _
      refine st5.trans ?_
      show Steps p.tables e below (T5.setTop (mkF m 161 #[.val (.int p0), .val (.int p1), .val (.int p2), .val (.int ((p0 &&& (2147483647 : Int32)) % (5 : Int32))), .val (.int (((p1 &&& (2147483647 : Int32)).toUInt32 >>> ((p2 &&& (31 : Int32)) &&& 31).toUInt32).toInt32)), .val (.ref b3)] [(.int (F4 (((p1 &&& (2147483647 : Int32)).toUInt32 >>> ((p2 &&& (31 : Int32)) &&& 31).toUInt32).toInt32) (-1 : Int32) (196 : Int32) (198 : Int32) (197 : Int32) (-1 : Int32)))])) _
      refine XS.iloadN X5.here hx rfl (hb hby at_161) rfl ?_
      show Steps p.tables e below (T5.setTop (mkF m 162 #[.val (.int p0), .val (.int p1), .val (.int p2), .val (.int ((p0 &&& (2147483647 : Int32)) % (5 : Int32))), .val (.int (((p1 &&& (2147483647 : Int32)).toUInt32 >>> ((p2 &&& (31 : Int32)) &&& 31).toUInt32).toInt32)), .val (.ref b3)] [(.int ((p0 &&& (2147483647 : Int32)) % (5 : Int32))), (.int (F4 (((p1 &&& (2147483647 : Int32)).toUInt32 >>> ((p2 &&& (31 : Int32)) &&& 31).toUInt32).toInt32) (-1 : Int32) (196 : Int32) (198 : Int32) (197 : Int32) (-1 : Int32)))])) _
      refine XS.iload X5.here hx rfl (hb hby at_162) rfl ?_
      show Steps p.tables e below (T5.setTop (mkF m 164 #[.val (.int p0), .val (.int p1), .val (.int p2), .val (.int ((p0 &&& (2147483647 : Int32)) % (5 : Int32))), .val (.int (((p1 &&& (2147483647 : Int32)).toUInt32 >>> ((p2 &&& (31 : Int32)) &&& 31).toUInt32).toInt32)), .val (.ref b3)] [(.int (((p1 &&& (2147483647 : Int32)).toUInt32 >>> ((p2 &&& (31 : Int32)) &&& 31).toUInt32).toInt32)), (.int ((p0 &&& (2147483647 : Int32)) % (5 : Int32))), (.int (F4 (((p1 &&& (2147483647 : Int32)).toUInt32 >>> ((p2 &&& (31 : Int32)) &&& 31).toUInt32).toInt32) (-1 : Int32) (196 : Int32) (198 : Int32) (197 : Int32) (-1 : Int32)))])) _
      refine st6 _ ?_
      exact k)
    by_cases hc167_8 : (F4 (((p1 &&& (2147483647 : Int32)).toUInt32 >>> ((p2 &&& (31 : Int32)) &&& 31).toUInt32).toInt32) (-1 : Int32) (196 : Int32) (198 : Int32) (197 : Int32) (-1 : Int32)) = (F5 ((p0 &&& (2147483647 : Int32)) % (5 : Int32)) (((p1 &&& (2147483647 : Int32)).toUInt32 >>> ((p2 &&& (31 : Int32)) &&& 31).toUInt32).toInt32))
    · have pre9 : ∀ t, Steps p.tables e below (T6.setTop (mkF m 175 #[.val (.int p0), .val (.int p1), .val (.int p2), .val (.int ((p0 &&& (2147483647 : Int32)) % (5 : Int32))), .val (.int (((p1 &&& (2147483647 : Int32)).toUInt32 >>> ((p2 &&& (31 : Int32)) &&& 31).toUInt32).toInt32)), .val (.ref b3)] [(.int (1 : Int32))])) t → Steps p.tables e below (s₁.setTop (entryFrame m #[(.int p0), (.int p1), (.int p2)] maxLocals)) t := fun t k => pre7 t (by
        show Steps p.tables e below (T6.setTop (mkF m 167 #[.val (.int p0), .val (.int p1), .val (.int p2), .val (.int ((p0 &&& (2147483647 : Int32)) % (5 : Int32))), .val (.int (((p1 &&& (2147483647 : Int32)).toUInt32 >>> ((p2 &&& (31 : Int32)) &&& 31).toUInt32).toInt32)), .val (.ref b3)] [(.int (F5 ((p0 &&& (2147483647 : Int32)) % (5 : Int32)) (((p1 &&& (2147483647 : Int32)).toUInt32 >>> ((p2 &&& (31 : Int32)) &&& 31).toUInt32).toInt32))), (.int (F4 (((p1 &&& (2147483647 : Int32)).toUInt32 >>> ((p2 &&& (31 : Int32)) &&& 31).toUInt32).toInt32) (-1 : Int32) (196 : Int32) (198 : Int32) (197 : Int32) (-1 : Int32)))])) _
        refine XS.icmpNo X6.here hx rfl (hb hby at_167) rfl (teq hc167_8).2 ?_
        show Steps p.tables e below (T6.setTop (mkF m 170 #[.val (.int p0), .val (.int p1), .val (.int p2), .val (.int ((p0 &&& (2147483647 : Int32)) % (5 : Int32))), .val (.int (((p1 &&& (2147483647 : Int32)).toUInt32 >>> ((p2 &&& (31 : Int32)) &&& 31).toUInt32).toInt32)), .val (.ref b3)] [])) _
        refine XS.iconst X6.here hx rfl (hb hby at_170) ?_
        show Steps p.tables e below (T6.setTop (mkF m 171 #[.val (.int p0), .val (.int p1), .val (.int p2), .val (.int ((p0 &&& (2147483647 : Int32)) % (5 : Int32))), .val (.int (((p1 &&& (2147483647 : Int32)).toUInt32 >>> ((p2 &&& (31 : Int32)) &&& 31).toUInt32).toInt32)), .val (.ref b3)] [(.int (1 : Int32))])) _
        refine XS.goto X6.here hx rfl (pc0 := 171) (pc' := 175) rfl (hb hby at_171) (by decide) (by decide) ?_
        exact k)
      obtain ⟨fs, hr, hrun, hended, hW, hsame⟩ := X6.leave (v := some (.int (1 : Int32))) (fun h => by rw [Bd.returns] at h; cases h)
      have hF : (F0 p0 p1 p2) = (1 : Int32) := by unfold F0; rw [if_pos hc19_2, if_pos hc167_8]
      exact ⟨_, _, pre9 _ (retN X6 hx (t := .boolean) Bd.returns (by simp) (hb hby at_175) hr), hrun, hended, _, _, rfl, ⟨by rw [hF], N6⟩, ⟨_, rfl⟩, hW, hsame.mono (by decide) (by decide)⟩
    have pre10 : ∀ t, Steps p.tables e below (T6.setTop (mkF m 175 #[.val (.int p0), .val (.int p1), .val (.int p2), .val (.int ((p0 &&& (2147483647 : Int32)) % (5 : Int32))), .val (.int (((p1 &&& (2147483647 : Int32)).toUInt32 >>> ((p2 &&& (31 : Int32)) &&& 31).toUInt32).toInt32)), .val (.ref b3)] [(.int (0 : Int32))])) t → Steps p.tables e below (s₁.setTop (entryFrame m #[(.int p0), (.int p1), (.int p2)] maxLocals)) t := fun t k => pre7 t (by
      show Steps p.tables e below (T6.setTop (mkF m 167 #[.val (.int p0), .val (.int p1), .val (.int p2), .val (.int ((p0 &&& (2147483647 : Int32)) % (5 : Int32))), .val (.int (((p1 &&& (2147483647 : Int32)).toUInt32 >>> ((p2 &&& (31 : Int32)) &&& 31).toUInt32).toInt32)), .val (.ref b3)] [(.int (F5 ((p0 &&& (2147483647 : Int32)) % (5 : Int32)) (((p1 &&& (2147483647 : Int32)).toUInt32 >>> ((p2 &&& (31 : Int32)) &&& 31).toUInt32).toInt32))), (.int (F4 (((p1 &&& (2147483647 : Int32)).toUInt32 >>> ((p2 &&& (31 : Int32)) &&& 31).toUInt32).toInt32) (-1 : Int32) (196 : Int32) (198 : Int32) (197 : Int32) (-1 : Int32)))])) _
      refine XS.icmpYes X6.here hx rfl (pc0 := 167) (pc' := 174) rfl (hb hby at_167) rfl (feq hc167_8).2 (by decide) (by decide) ?_
      show Steps p.tables e below (T6.setTop (mkF m 174 #[.val (.int p0), .val (.int p1), .val (.int p2), .val (.int ((p0 &&& (2147483647 : Int32)) % (5 : Int32))), .val (.int (((p1 &&& (2147483647 : Int32)).toUInt32 >>> ((p2 &&& (31 : Int32)) &&& 31).toUInt32).toInt32)), .val (.ref b3)] [])) _
      refine XS.iconst X6.here hx rfl (hb hby at_174) ?_
      exact k)
    obtain ⟨fs, hr, hrun, hended, hW, hsame⟩ := X6.leave (v := some (.int (0 : Int32))) (fun h => by rw [Bd.returns] at h; cases h)
    have hF : (F0 p0 p1 p2) = (0 : Int32) := by unfold F0; rw [if_pos hc19_2, if_neg hc167_8]
    exact ⟨_, _, pre10 _ (retN X6 hx (t := .boolean) Bd.returns (by simp) (hb hby at_175) hr), hrun, hended, _, _, rfl, ⟨by rw [hF], N6⟩, ⟨_, rfl⟩, hW, hsame.mono (by decide) (by decide)⟩
  have pre11 : ∀ t, Steps p.tables e below (s₁.setTop (mkF m 47 #[.val (.int p0), .val (.int p1), .val (.int p2), .val (.int ((p0 &&& (2147483647 : Int32)) % (5 : Int32))), .val (.int (((p1 &&& (2147483647 : Int32)).toUInt32 >>> ((p2 &&& (31 : Int32)) &&& 31).toUInt32).toInt32)), .unset] [(.int (1 : Int32)), (.int ((p0 &&& (2147483647 : Int32)) % (5 : Int32)))])) t → Steps p.tables e below (s₁.setTop (entryFrame m #[(.int p0), (.int p1), (.int p2)] maxLocals)) t := fun t k => pre1 t (by
    show Steps p.tables e below (s₁.setTop (mkF m 19 #[.val (.int p0), .val (.int p1), .val (.int p2), .val (.int ((p0 &&& (2147483647 : Int32)) % (5 : Int32))), .val (.int (((p1 &&& (2147483647 : Int32)).toUInt32 >>> ((p2 &&& (31 : Int32)) &&& 31).toUInt32).toInt32)), .unset] [(.int ((p0 &&& (2147483647 : Int32)) % (5 : Int32)))])) _
    refine XS.ifYes X0.here hx rfl (pc0 := 19) (pc' := 45) rfl (hb hby at_19) rfl ((if0 _ _).trans (feq hc19_2).2) (by decide) (by decide) ?_
    show Steps p.tables e below (s₁.setTop (mkF m 45 #[.val (.int p0), .val (.int p1), .val (.int p2), .val (.int ((p0 &&& (2147483647 : Int32)) % (5 : Int32))), .val (.int (((p1 &&& (2147483647 : Int32)).toUInt32 >>> ((p2 &&& (31 : Int32)) &&& 31).toUInt32).toInt32)), .unset] [])) _
    refine XS.iloadN X0.here hx rfl (hb hby at_45) rfl ?_
    show Steps p.tables e below (s₁.setTop (mkF m 46 #[.val (.int p0), .val (.int p1), .val (.int p2), .val (.int ((p0 &&& (2147483647 : Int32)) % (5 : Int32))), .val (.int (((p1 &&& (2147483647 : Int32)).toUInt32 >>> ((p2 &&& (31 : Int32)) &&& 31).toUInt32).toInt32)), .unset] [(.int ((p0 &&& (2147483647 : Int32)) % (5 : Int32)))])) _
    refine XS.iconst X0.here hx rfl (hb hby at_46) ?_
    exact k)
  by_cases hc47_12 : ((p0 &&& (2147483647 : Int32)) % (5 : Int32)) = (1 : Int32)
  · obtain ⟨T13, h13, X13, e13, E13, A13, D13, -, st13⟩ := newO X0 hx hZ hown (hw _ (List.mem_of_getElem? (i := 1) rfl)) (hw _ (List.mem_of_getElem? (i := 2) rfl)) (hw _ (List.mem_of_getElem? (i := 3) rfl)) e0 (g := (mkF m 50 #[.val (.int p0), .val (.int p1), .val (.int p2), .val (.int ((p0 &&& (2147483647 : Int32)) % (5 : Int32))), .val (.int (((p1 &&& (2147483647 : Int32)).toUInt32 >>> ((p2 &&& (31 : Int32)) &&& 31).toUInt32).toInt32)), .unset] [])) rfl (hb hby at_50) (by decide) (by decide)
    obtain ⟨b13, g13⟩ : ∃ z, z = h0.size := ⟨_, rfl⟩
    rw [← g13] at A13 D13 st13
    have g_b13 : n0 ≤ b13 := Nat.le_trans Z0 (Nat.le_of_eq g13.symm)
    have Z13 : n0 ≤ h13.size := Nat.le_trans Z0 E13.1
    have F13_fix : Fld Z h13 b13 "com/example/furoshiki/furoshiki/Format$SizedFormats" "fix" "I" (.int (0 : Int32)) := D13 (Or.inr (hw _ (List.mem_of_getElem? (i := 16) rfl))) (ty := .int) (by decide)
    have F13_fixMax : Fld Z h13 b13 "com/example/furoshiki/furoshiki/Format$SizedFormats" "fixMax" "I" (.int (0 : Int32)) := D13 (Or.inr (hw _ (List.mem_of_getElem? (i := 18) rfl))) (ty := .int) (by decide)
    have F13_format8 : Fld Z h13 b13 "com/example/furoshiki/furoshiki/Format$SizedFormats" "format8" "I" (.int (0 : Int32)) := D13 (Or.inr (hw _ (List.mem_of_getElem? (i := 20) rfl))) (ty := .int) (by decide)
    have F13_format16 : Fld Z h13 b13 "com/example/furoshiki/furoshiki/Format$SizedFormats" "format16" "I" (.int (0 : Int32)) := D13 (Or.inr (hw _ (List.mem_of_getElem? (i := 22) rfl))) (ty := .int) (by decide)
    have F13_format32 : Fld Z h13 b13 "com/example/furoshiki/furoshiki/Format$SizedFormats" "format32" "I" (.int (0 : Int32)) := D13 (Or.inr (hw _ (List.mem_of_getElem? (i := 24) rfl))) (ty := .int) (by decide)
    obtain ⟨_, _, ⟨T14, L14, k14, n14⟩, -, X14, ⟨Lc14, hQ14, l14, y14, z14⟩, st14⟩ := X13.specialBack hx (y := (⟨"com/example/furoshiki/furoshiki/Format$SizedFormats", "<init>", "(IIIII)V"⟩ : MethodName)) rfl hown (mvT hZ (hw _ (List.mem_of_getElem? (i := 4) rfl))) (mvT hZ (hw _ (List.mem_of_getElem? (i := 5) rfl))) (mvT hZ (hw _ (List.mem_of_getElem? (i := 6) rfl))) (by decide) (backOf (W := 1) (rm1 l Z a0' hw [] b13 (-1 : Int32) (-1 : Int32) (199 : Int32) (200 : Int32) (201 : Int32) (0 : Int32) (0 : Int32) (0 : Int32) (0 : Int32) (0 : Int32) h13 n0 Z13 A13 F13_fix F13_fixMax F13_format8 F13_format16 F13_format32 g_b13) hZ (hw _ (List.mem_of_getElem? (i := 6) rfl)) (hw _ (List.mem_of_getElem? (i := 3) rfl)) (by decide) (by decide)) (g := (mkF m 65 #[.val (.int p0), .val (.int p1), .val (.int p2), .val (.int ((p0 &&& (2147483647 : Int32)) % (5 : Int32))), .val (.int (((p1 &&& (2147483647 : Int32)).toUInt32 >>> ((p2 &&& (31 : Int32)) &&& 31).toUInt32).toInt32)), .unset] [(.int (201 : Int32)), (.int (200 : Int32)), (.int (199 : Int32)), (.int (-1 : Int32)), (.int (-1 : Int32)), (.ref b13), (.ref b13)])) rfl (by rw [hml]; rfl) (Steps.refl _) (a := b13) (argsL := [(.int (-1 : Int32)), (.int (-1 : Int32)), (.int (199 : Int32)), (.int (200 : Int32)), (.int (201 : Int32))]) (rest := [(.ref b13)]) (lenOf pd1 rfl) rfl (by show 2 * 0 + _ ≤ _; exact Nat.le_of_eq rfl) (hb hby at_65) (fun _ _ => ⟨rfl, e13, (by decide : 1 + 0 ≤ _), (by decide : 5 + 0 ≤ _)⟩)
    dsimp only [Pt.U, Pt.locs, Pt.cells, Pt.slots] at X14 l14 y14 z14 st14 hQ14
    subst l14 y14 z14
    obtain ⟨rfl, N14q, K14, u14_0, u14_1, u14_2, u14_3, u14_4, u14_5⟩ := hQ14
    have N14 := Fr.app N0 N14q
    have Z14 : n0 ≤ T14.heap.size := Nat.le_trans Z13 K14.1
    obtain ⟨cq15, kq15, q15a, q15b, q15c⟩ := isOf hZ rfl u14_0
    obtain ⟨_, _, ⟨T15, L15, k15, n15⟩, -, X15, ⟨Lc15, hQ15, l15, y15, z15⟩, st15⟩ := X14.virtualBack hx (y := (⟨"com/example/furoshiki/furoshiki/Format$SizedFormats", "formatFor", "(I)I"⟩ : MethodName)) (z := (⟨"com/example/furoshiki/furoshiki/Format$SizedFormats", "formatFor", "(I)I"⟩ : MethodName)) hown (mvT hZ (hw _ (List.mem_of_getElem? (i := 25) rfl))) (mvT hZ (hw _ (List.mem_of_getElem? (i := 26) rfl))) (notFace_of_selects (args := #[]) (mvT hZ (hw _ (List.mem_of_getElem? (i := 28) rfl)))) (mvT hZ (hw _ (List.mem_of_getElem? (i := 28) rfl))) (mvT hZ (hw _ (List.mem_of_getElem? (i := 27) rfl))) (by decide) (backOf (W := 0) (rm4 l Z a0' hw [] b13 (((p1 &&& (2147483647 : Int32)).toUInt32 >>> ((p2 &&& (31 : Int32)) &&& 31).toUInt32).toInt32) (-1 : Int32) (199 : Int32) (201 : Int32) (200 : Int32) (-1 : Int32) T14.heap n0 Z14 u14_1 u14_3 u14_5 u14_4 u14_2) hZ (hw _ (List.mem_of_getElem? (i := 29) rfl)) (hw _ (List.mem_of_getElem? (i := 3) rfl)) (by decide) (by decide)) q15a q15c (g := (mkF m 158 #[.val (.int p0), .val (.int p1), .val (.int p2), .val (.int ((p0 &&& (2147483647 : Int32)) % (5 : Int32))), .val (.int (((p1 &&& (2147483647 : Int32)).toUInt32 >>> ((p2 &&& (31 : Int32)) &&& 31).toUInt32).toInt32)), .val (.ref b13)] [(.int (((p1 &&& (2147483647 : Int32)).toUInt32 >>> ((p2 &&& (31 : Int32)) &&& 31).toUInt32).toInt32)), (.ref b13)])) rfl (by rw [hml]; rfl) (Steps.refl _) (argsL := [(.int (((p1 &&& (2147483647 : Int32)).toUInt32 >>> ((p2 &&& (31 : Int32)) &&& 31).toUInt32).toInt32))]) (rest := []) (lenOf pd2 rfl) rfl (by show 2 * 0 + _ ≤ _; exact Nat.le_of_eq rfl) (hb hby at_158) (fun _ _ => ⟨rfl, rfl, (by decide : 1 + 0 ≤ _), (by decide : 5 + 0 ≤ _)⟩)
    dsimp only [Pt.U, Pt.locs, Pt.cells, Pt.slots] at X15 l15 y15 z15 st15 hQ15
    subst l15 y15 z15
    obtain ⟨rfl, N15q, e15⟩ := hQ15
    have N15 := Fr.app N14 N15q
    obtain ⟨_, _, ⟨T16, L16, k16, n16⟩, -, X16, ⟨Lc16, hQ16, l16, y16, z16⟩, st16⟩ := Jvm.LawKit.callS X15 hx (y := (⟨"com/example/furoshiki/furoshiki/SizedFormatsFormatForPinLaw", "expected", "(II)I"⟩ : MethodName)) hown (mvT hZ (hw _ (List.mem_of_getElem? (i := 30) rfl))) (mvT hZ (hw _ (List.mem_of_getElem? (i := 31) rfl))) (mvT hZ (hw _ (List.mem_of_getElem? (i := 32) rfl))) (mvT hZ (hw _ (List.mem_of_getElem? (i := 33) rfl))) (by decide) (backOf (W := 1) (rm5 l Z a0' hw [] ((p0 &&& (2147483647 : Int32)) % (5 : Int32)) (((p1 &&& (2147483647 : Int32)).toUInt32 >>> ((p2 &&& (31 : Int32)) &&& 31).toUInt32).toInt32) T14.heap n0 Z14) hZ (hw _ (List.mem_of_getElem? (i := 33) rfl)) (hw _ (List.mem_of_getElem? (i := 32) rfl)) (by decide) (by decide)) (g := (mkF m 164 #[.val (.int p0), .val (.int p1), .val (.int p2), .val (.int ((p0 &&& (2147483647 : Int32)) % (5 : Int32))), .val (.int (((p1 &&& (2147483647 : Int32)).toUInt32 >>> ((p2 &&& (31 : Int32)) &&& 31).toUInt32).toInt32)), .val (.ref b13)] [(.int (((p1 &&& (2147483647 : Int32)).toUInt32 >>> ((p2 &&& (31 : Int32)) &&& 31).toUInt32).toInt32)), (.int ((p0 &&& (2147483647 : Int32)) % (5 : Int32))), (.int (F4 (((p1 &&& (2147483647 : Int32)).toUInt32 >>> ((p2 &&& (31 : Int32)) &&& 31).toUInt32).toInt32) (-1 : Int32) (199 : Int32) (201 : Int32) (200 : Int32) (-1 : Int32)))])) rfl (by rw [hml]; rfl) (argsL := [(.int ((p0 &&& (2147483647 : Int32)) % (5 : Int32))), (.int (((p1 &&& (2147483647 : Int32)).toUInt32 >>> ((p2 &&& (31 : Int32)) &&& 31).toUInt32).toInt32))]) (rest := [(.int (F4 (((p1 &&& (2147483647 : Int32)).toUInt32 >>> ((p2 &&& (31 : Int32)) &&& 31).toUInt32).toInt32) (-1 : Int32) (199 : Int32) (201 : Int32) (200 : Int32) (-1 : Int32)))]) (lenOf pd3 rfl) rfl (by show 2 * 0 + _ ≤ _; exact Nat.le_of_eq rfl) (hb hby at_164) (fun _ _ => ⟨rfl, e15, (by decide : 1 + 0 ≤ _), (by decide : 5 + 0 ≤ _)⟩)
    dsimp only [Pt.U, Pt.locs, Pt.cells, Pt.slots] at X16 l16 y16 z16 st16 hQ16
    subst l16 y16 z16
    obtain ⟨rfl, N16q, e16⟩ := hQ16
    have N16 := Fr.app N15 N16q
    have pre17 : ∀ t, Steps p.tables e below (T16.setTop (mkF m 167 #[.val (.int p0), .val (.int p1), .val (.int p2), .val (.int ((p0 &&& (2147483647 : Int32)) % (5 : Int32))), .val (.int (((p1 &&& (2147483647 : Int32)).toUInt32 >>> ((p2 &&& (31 : Int32)) &&& 31).toUInt32).toInt32)), .val (.ref b13)] [(.int (F5 ((p0 &&& (2147483647 : Int32)) % (5 : Int32)) (((p1 &&& (2147483647 : Int32)).toUInt32 >>> ((p2 &&& (31 : Int32)) &&& 31).toUInt32).toInt32))), (.int (F4 (((p1 &&& (2147483647 : Int32)).toUInt32 >>> ((p2 &&& (31 : Int32)) &&& 31).toUInt32).toInt32) (-1 : Int32) (199 : Int32) (201 : Int32) (200 : Int32) (-1 : Int32)))])) t → Steps p.tables e below (s₁.setTop (entryFrame m #[(.int p0), (.int p1), (.int p2)] maxLocals)) t := fun t k => pre11 t (by
      show Steps p.tables e below (s₁.setTop (mkF m 47 #[.val (.int p0), .val (.int p1), .val (.int p2), .val (.int ((p0 &&& (2147483647 : Int32)) % (5 : Int32))), .val (.int (((p1 &&& (2147483647 : Int32)).toUInt32 >>> ((p2 &&& (31 : Int32)) &&& 31).toUInt32).toInt32)), .unset] [(.int (1 : Int32)), (.int ((p0 &&& (2147483647 : Int32)) % (5 : Int32)))])) _
      refine XS.icmpNo X0.here hx rfl (hb hby at_47) rfl (teq hc47_12).2 ?_
      show Steps p.tables e below (s₁.setTop (mkF m 50 #[.val (.int p0), .val (.int p1), .val (.int p2), .val (.int ((p0 &&& (2147483647 : Int32)) % (5 : Int32))), .val (.int (((p1 &&& (2147483647 : Int32)).toUInt32 >>> ((p2 &&& (31 : Int32)) &&& 31).toUInt32).toInt32)), .unset] [])) _
      refine st13 _ ?_
      show Steps p.tables e below (T13.setTop (mkF m 53 #[.val (.int p0), .val (.int p1), .val (.int p2), .val (.int ((p0 &&& (2147483647 : Int32)) % (5 : Int32))), .val (.int (((p1 &&& (2147483647 : Int32)).toUInt32 >>> ((p2 &&& (31 : Int32)) &&& 31).toUInt32).toInt32)), .unset] [(.ref b13)])) _
      refine XS.dup X13.here hx rfl (hb hby at_53) rfl rfl ?_
      show Steps p.tables e below (T13.setTop (mkF m 54 #[.val (.int p0), .val (.int p1), .val (.int p2), .val (.int ((p0 &&& (2147483647 : Int32)) % (5 : Int32))), .val (.int (((p1 &&& (2147483647 : Int32)).toUInt32 >>> ((p2 &&& (31 : Int32)) &&& 31).toUInt32).toInt32)), .unset] [(.ref b13), (.ref b13)])) _
      refine XS.iconst X13.here hx rfl (hb hby at_54) ?_
      show Steps p.tables e below (T13.setTop (mkF m 55 #[.val (.int p0), .val (.int p1), .val (.int p2), .val (.int ((p0 &&& (2147483647 : Int32)) % (5 : Int32))), .val (.int (((p1 &&& (2147483647 : Int32)).toUInt32 >>> ((p2 &&& (31 : Int32)) &&& 31).toUInt32).toInt32)), .unset] [(.int (-1 : Int32)), (.ref b13), (.ref b13)])) _
      refine XS.iconst X13.here hx rfl (hb hby at_55) ?_
      show Steps p.tables e below (T13.setTop (mkF m 56 #[.val (.int p0), .val (.int p1), .val (.int p2), .val (.int ((p0 &&& (2147483647 : Int32)) % (5 : Int32))), .val (.int (((p1 &&& (2147483647 : Int32)).toUInt32 >>> ((p2 &&& (31 : Int32)) &&& 31).toUInt32).toInt32)), .unset] [(.int (-1 : Int32)), (.int (-1 : Int32)), (.ref b13), (.ref b13)])) _
      refine XS.sipush X13.here hx rfl (hb hby at_56) ?_
      show Steps p.tables e below (T13.setTop (mkF m 59 #[.val (.int p0), .val (.int p1), .val (.int p2), .val (.int ((p0 &&& (2147483647 : Int32)) % (5 : Int32))), .val (.int (((p1 &&& (2147483647 : Int32)).toUInt32 >>> ((p2 &&& (31 : Int32)) &&& 31).toUInt32).toInt32)), .unset] [(.int (199 : Int32)), (.int (-1 : Int32)), (.int (-1 : Int32)), (.ref b13), (.ref b13)])) _
      refine XS.sipush X13.here hx rfl (hb hby at_59) ?_
      show Steps p.tables e below (T13.setTop (mkF m 62 #[.val (.int p0), .val (.int p1), .val (.int p2), .val (.int ((p0 &&& (2147483647 : Int32)) % (5 : Int32))), .val (.int (((p1 &&& (2147483647 : Int32)).toUInt32 >>> ((p2 &&& (31 : Int32)) &&& 31).toUInt32).toInt32)), .unset] [(.int (200 : Int32)), (.int (199 : Int32)), (.int (-1 : Int32)), (.int (-1 : Int32)), (.ref b13), (.ref b13)])) _
      refine XS.sipush X13.here hx rfl (hb hby at_62) ?_
      show Steps p.tables e below (T13.setTop (mkF m 65 #[.val (.int p0), .val (.int p1), .val (.int p2), .val (.int ((p0 &&& (2147483647 : Int32)) % (5 : Int32))), .val (.int (((p1 &&& (2147483647 : Int32)).toUInt32 >>> ((p2 &&& (31 : Int32)) &&& 31).toUInt32).toInt32)), .unset] [(.int (201 : Int32)), (.int (200 : Int32)), (.int (199 : Int32)), (.int (-1 : Int32)), (.int (-1 : Int32)), (.ref b13), (.ref b13)])) _
      refine st14.trans ?_
      show Steps p.tables e below (T14.setTop (mkF m 68 #[.val (.int p0), .val (.int p1), .val (.int p2), .val (.int ((p0 &&& (2147483647 : Int32)) % (5 : Int32))), .val (.int (((p1 &&& (2147483647 : Int32)).toUInt32 >>> ((p2 &&& (31 : Int32)) &&& 31).toUInt32).toInt32)), .unset] [(.ref b13)])) _
      refine XS.astore X14.here hx rfl (hb hby at_68) rfl rfl (l' := #[.val (.int p0), .val (.int p1), .val (.int p2), .val (.int ((p0 &&& (2147483647 : Int32)) % (5 : Int32))), .val (.int (((p1 &&& (2147483647 : Int32)).toUInt32 >>> ((p2 &&& (31 : Int32)) &&& 31).toUInt32).toInt32)), .val (.ref b13)]) rfl ?_
      show Steps p.tables e below (T14.setTop (mkF m 70 #[.val (.int p0), .val (.int p1), .val (.int p2), .val (.int ((p0 &&& (2147483647 : Int32)) % (5 : Int32))), .val (.int (((p1 &&& (2147483647 : Int32)).toUInt32 >>> ((p2 &&& (31 : Int32)) &&& 31).toUInt32).toInt32)), .val (.ref b13)] [])) _
      refine XS.goto X14.here hx rfl (pc0 := 70) (pc' := 154) rfl (hb hby at_70) (by decide) (by decide) ?_
      show Steps p.tables e below (T14.setTop (mkF m 154 #[.val (.int p0), .val (.int p1), .val (.int p2), .val (.int ((p0 &&& (2147483647 : Int32)) % (5 : Int32))), .val (.int (((p1 &&& (2147483647 : Int32)).toUInt32 >>> ((p2 &&& (31 : Int32)) &&& 31).toUInt32).toInt32)), .val (.ref b13)] [])) _
      refine XS.aload X14.here hx rfl (hb hby at_154) rfl rfl ?_
      show Steps p.tables e below (T14.setTop (mkF m 156 #[.val (.int p0), .val (.int p1), .val (.int p2), .val (.int ((p0 &&& (2147483647 : Int32)) % (5 : Int32))), .val (.int (((p1 &&& (2147483647 : Int32)).toUInt32 >>> ((p2 &&& (31 : Int32)) &&& 31).toUInt32).toInt32)), .val (.ref b13)] [(.ref b13)])) _
      refine XS.iload X14.here hx rfl (hb hby at_156) rfl ?_
      show Steps p.tables e below (T14.setTop (mkF m 158 #[.val (.int p0), .val (.int p1), .val (.int p2), .val (.int ((p0 &&& (2147483647 : Int32)) % (5 : Int32))), .val (.int (((p1 &&& (2147483647 : Int32)).toUInt32 >>> ((p2 &&& (31 : Int32)) &&& 31).toUInt32).toInt32)), .val (.ref b13)] [(.int (((p1 &&& (2147483647 : Int32)).toUInt32 >>> ((p2 &&& (31 : Int32)) &&& 31).toUInt32).toInt32)), (.ref b13)])) _
      refine st15.trans ?_
      show Steps p.tables e below (T15.setTop (mkF m 161 #[.val (.int p0), .val (.int p1), .val (.int p2), .val (.int ((p0 &&& (2147483647 : Int32)) % (5 : Int32))), .val (.int (((p1 &&& (2147483647 : Int32)).toUInt32 >>> ((p2 &&& (31 : Int32)) &&& 31).toUInt32).toInt32)), .val (.ref b13)] [(.int (F4 (((p1 &&& (2147483647 : Int32)).toUInt32 >>> ((p2 &&& (31 : Int32)) &&& 31).toUInt32).toInt32) (-1 : Int32) (199 : Int32) (201 : Int32) (200 : Int32) (-1 : Int32)))])) _
      refine XS.iloadN X15.here hx rfl (hb hby at_161) rfl ?_
      show Steps p.tables e below (T15.setTop (mkF m 162 #[.val (.int p0), .val (.int p1), .val (.int p2), .val (.int ((p0 &&& (2147483647 : Int32)) % (5 : Int32))), .val (.int (((p1 &&& (2147483647 : Int32)).toUInt32 >>> ((p2 &&& (31 : Int32)) &&& 31).toUInt32).toInt32)), .val (.ref b13)] [(.int ((p0 &&& (2147483647 : Int32)) % (5 : Int32))), (.int (F4 (((p1 &&& (2147483647 : Int32)).toUInt32 >>> ((p2 &&& (31 : Int32)) &&& 31).toUInt32).toInt32) (-1 : Int32) (199 : Int32) (201 : Int32) (200 : Int32) (-1 : Int32)))])) _
      refine XS.iload X15.here hx rfl (hb hby at_162) rfl ?_
      show Steps p.tables e below (T15.setTop (mkF m 164 #[.val (.int p0), .val (.int p1), .val (.int p2), .val (.int ((p0 &&& (2147483647 : Int32)) % (5 : Int32))), .val (.int (((p1 &&& (2147483647 : Int32)).toUInt32 >>> ((p2 &&& (31 : Int32)) &&& 31).toUInt32).toInt32)), .val (.ref b13)] [(.int (((p1 &&& (2147483647 : Int32)).toUInt32 >>> ((p2 &&& (31 : Int32)) &&& 31).toUInt32).toInt32)), (.int ((p0 &&& (2147483647 : Int32)) % (5 : Int32))), (.int (F4 (((p1 &&& (2147483647 : Int32)).toUInt32 >>> ((p2 &&& (31 : Int32)) &&& 31).toUInt32).toInt32) (-1 : Int32) (199 : Int32) (201 : Int32) (200 : Int32) (-1 : Int32)))])) _
      refine st16 _ ?_
      exact k)
    by_cases hc167_18 : (F4 (((p1 &&& (2147483647 : Int32)).toUInt32 >>> ((p2 &&& (31 : Int32)) &&& 31).toUInt32).toInt32) (-1 : Int32) (199 : Int32) (201 : Int32) (200 : Int32) (-1 : Int32)) = (F5 ((p0 &&& (2147483647 : Int32)) % (5 : Int32)) (((p1 &&& (2147483647 : Int32)).toUInt32 >>> ((p2 &&& (31 : Int32)) &&& 31).toUInt32).toInt32))
    · have pre19 : ∀ t, Steps p.tables e below (T16.setTop (mkF m 175 #[.val (.int p0), .val (.int p1), .val (.int p2), .val (.int ((p0 &&& (2147483647 : Int32)) % (5 : Int32))), .val (.int (((p1 &&& (2147483647 : Int32)).toUInt32 >>> ((p2 &&& (31 : Int32)) &&& 31).toUInt32).toInt32)), .val (.ref b13)] [(.int (1 : Int32))])) t → Steps p.tables e below (s₁.setTop (entryFrame m #[(.int p0), (.int p1), (.int p2)] maxLocals)) t := fun t k => pre17 t (by
        show Steps p.tables e below (T16.setTop (mkF m 167 #[.val (.int p0), .val (.int p1), .val (.int p2), .val (.int ((p0 &&& (2147483647 : Int32)) % (5 : Int32))), .val (.int (((p1 &&& (2147483647 : Int32)).toUInt32 >>> ((p2 &&& (31 : Int32)) &&& 31).toUInt32).toInt32)), .val (.ref b13)] [(.int (F5 ((p0 &&& (2147483647 : Int32)) % (5 : Int32)) (((p1 &&& (2147483647 : Int32)).toUInt32 >>> ((p2 &&& (31 : Int32)) &&& 31).toUInt32).toInt32))), (.int (F4 (((p1 &&& (2147483647 : Int32)).toUInt32 >>> ((p2 &&& (31 : Int32)) &&& 31).toUInt32).toInt32) (-1 : Int32) (199 : Int32) (201 : Int32) (200 : Int32) (-1 : Int32)))])) _
        refine XS.icmpNo X16.here hx rfl (hb hby at_167) rfl (teq hc167_18).2 ?_
        show Steps p.tables e below (T16.setTop (mkF m 170 #[.val (.int p0), .val (.int p1), .val (.int p2), .val (.int ((p0 &&& (2147483647 : Int32)) % (5 : Int32))), .val (.int (((p1 &&& (2147483647 : Int32)).toUInt32 >>> ((p2 &&& (31 : Int32)) &&& 31).toUInt32).toInt32)), .val (.ref b13)] [])) _
        refine XS.iconst X16.here hx rfl (hb hby at_170) ?_
        show Steps p.tables e below (T16.setTop (mkF m 171 #[.val (.int p0), .val (.int p1), .val (.int p2), .val (.int ((p0 &&& (2147483647 : Int32)) % (5 : Int32))), .val (.int (((p1 &&& (2147483647 : Int32)).toUInt32 >>> ((p2 &&& (31 : Int32)) &&& 31).toUInt32).toInt32)), .val (.ref b13)] [(.int (1 : Int32))])) _
        refine XS.goto X16.here hx rfl (pc0 := 171) (pc' := 175) rfl (hb hby at_171) (by decide) (by decide) ?_
        exact k)
      obtain ⟨fs, hr, hrun, hended, hW, hsame⟩ := X16.leave (v := some (.int (1 : Int32))) (fun h => by rw [Bd.returns] at h; cases h)
      have hF : (F0 p0 p1 p2) = (1 : Int32) := by unfold F0; rw [if_neg hc19_2, if_pos hc47_12, if_pos hc167_18]
      exact ⟨_, _, pre19 _ (retN X16 hx (t := .boolean) Bd.returns (by simp) (hb hby at_175) hr), hrun, hended, _, _, rfl, ⟨by rw [hF], N16⟩, ⟨_, rfl⟩, hW, hsame.mono (by decide) (by decide)⟩
    have pre20 : ∀ t, Steps p.tables e below (T16.setTop (mkF m 175 #[.val (.int p0), .val (.int p1), .val (.int p2), .val (.int ((p0 &&& (2147483647 : Int32)) % (5 : Int32))), .val (.int (((p1 &&& (2147483647 : Int32)).toUInt32 >>> ((p2 &&& (31 : Int32)) &&& 31).toUInt32).toInt32)), .val (.ref b13)] [(.int (0 : Int32))])) t → Steps p.tables e below (s₁.setTop (entryFrame m #[(.int p0), (.int p1), (.int p2)] maxLocals)) t := fun t k => pre17 t (by
      show Steps p.tables e below (T16.setTop (mkF m 167 #[.val (.int p0), .val (.int p1), .val (.int p2), .val (.int ((p0 &&& (2147483647 : Int32)) % (5 : Int32))), .val (.int (((p1 &&& (2147483647 : Int32)).toUInt32 >>> ((p2 &&& (31 : Int32)) &&& 31).toUInt32).toInt32)), .val (.ref b13)] [(.int (F5 ((p0 &&& (2147483647 : Int32)) % (5 : Int32)) (((p1 &&& (2147483647 : Int32)).toUInt32 >>> ((p2 &&& (31 : Int32)) &&& 31).toUInt32).toInt32))), (.int (F4 (((p1 &&& (2147483647 : Int32)).toUInt32 >>> ((p2 &&& (31 : Int32)) &&& 31).toUInt32).toInt32) (-1 : Int32) (199 : Int32) (201 : Int32) (200 : Int32) (-1 : Int32)))])) _
      refine XS.icmpYes X16.here hx rfl (pc0 := 167) (pc' := 174) rfl (hb hby at_167) rfl (feq hc167_18).2 (by decide) (by decide) ?_
      show Steps p.tables e below (T16.setTop (mkF m 174 #[.val (.int p0), .val (.int p1), .val (.int p2), .val (.int ((p0 &&& (2147483647 : Int32)) % (5 : Int32))), .val (.int (((p1 &&& (2147483647 : Int32)).toUInt32 >>> ((p2 &&& (31 : Int32)) &&& 31).toUInt32).toInt32)), .val (.ref b13)] [])) _
      refine XS.iconst X16.here hx rfl (hb hby at_174) ?_
      exact k)
    obtain ⟨fs, hr, hrun, hended, hW, hsame⟩ := X16.leave (v := some (.int (0 : Int32))) (fun h => by rw [Bd.returns] at h; cases h)
    have hF : (F0 p0 p1 p2) = (0 : Int32) := by unfold F0; rw [if_neg hc19_2, if_pos hc47_12, if_neg hc167_18]
    exact ⟨_, _, pre20 _ (retN X16 hx (t := .boolean) Bd.returns (by simp) (hb hby at_175) hr), hrun, hended, _, _, rfl, ⟨by rw [hF], N16⟩, ⟨_, rfl⟩, hW, hsame.mono (by decide) (by decide)⟩
  have pre21 : ∀ t, Steps p.tables e below (s₁.setTop (mkF m 75 #[.val (.int p0), .val (.int p1), .val (.int p2), .val (.int ((p0 &&& (2147483647 : Int32)) % (5 : Int32))), .val (.int (((p1 &&& (2147483647 : Int32)).toUInt32 >>> ((p2 &&& (31 : Int32)) &&& 31).toUInt32).toInt32)), .unset] [(.int (2 : Int32)), (.int ((p0 &&& (2147483647 : Int32)) % (5 : Int32)))])) t → Steps p.tables e below (s₁.setTop (entryFrame m #[(.int p0), (.int p1), (.int p2)] maxLocals)) t := fun t k => pre11 t (by
    show Steps p.tables e below (s₁.setTop (mkF m 47 #[.val (.int p0), .val (.int p1), .val (.int p2), .val (.int ((p0 &&& (2147483647 : Int32)) % (5 : Int32))), .val (.int (((p1 &&& (2147483647 : Int32)).toUInt32 >>> ((p2 &&& (31 : Int32)) &&& 31).toUInt32).toInt32)), .unset] [(.int (1 : Int32)), (.int ((p0 &&& (2147483647 : Int32)) % (5 : Int32)))])) _
    refine XS.icmpYes X0.here hx rfl (pc0 := 47) (pc' := 73) rfl (hb hby at_47) rfl (feq hc47_12).2 (by decide) (by decide) ?_
    show Steps p.tables e below (s₁.setTop (mkF m 73 #[.val (.int p0), .val (.int p1), .val (.int p2), .val (.int ((p0 &&& (2147483647 : Int32)) % (5 : Int32))), .val (.int (((p1 &&& (2147483647 : Int32)).toUInt32 >>> ((p2 &&& (31 : Int32)) &&& 31).toUInt32).toInt32)), .unset] [])) _
    refine XS.iloadN X0.here hx rfl (hb hby at_73) rfl ?_
    show Steps p.tables e below (s₁.setTop (mkF m 74 #[.val (.int p0), .val (.int p1), .val (.int p2), .val (.int ((p0 &&& (2147483647 : Int32)) % (5 : Int32))), .val (.int (((p1 &&& (2147483647 : Int32)).toUInt32 >>> ((p2 &&& (31 : Int32)) &&& 31).toUInt32).toInt32)), .unset] [(.int ((p0 &&& (2147483647 : Int32)) % (5 : Int32)))])) _
    refine XS.iconst X0.here hx rfl (hb hby at_74) ?_
    exact k)
  by_cases hc75_22 : ((p0 &&& (2147483647 : Int32)) % (5 : Int32)) = (2 : Int32)
  · obtain ⟨T23, h23, X23, e23, E23, A23, D23, -, st23⟩ := newO X0 hx hZ hown (hw _ (List.mem_of_getElem? (i := 1) rfl)) (hw _ (List.mem_of_getElem? (i := 2) rfl)) (hw _ (List.mem_of_getElem? (i := 3) rfl)) e0 (g := (mkF m 78 #[.val (.int p0), .val (.int p1), .val (.int p2), .val (.int ((p0 &&& (2147483647 : Int32)) % (5 : Int32))), .val (.int (((p1 &&& (2147483647 : Int32)).toUInt32 >>> ((p2 &&& (31 : Int32)) &&& 31).toUInt32).toInt32)), .unset] [])) rfl (hb hby at_78) (by decide) (by decide)
    obtain ⟨b23, g23⟩ : ∃ z, z = h0.size := ⟨_, rfl⟩
    rw [← g23] at A23 D23 st23
    have g_b23 : n0 ≤ b23 := Nat.le_trans Z0 (Nat.le_of_eq g23.symm)
    have Z23 : n0 ≤ h23.size := Nat.le_trans Z0 E23.1
    have F23_fix : Fld Z h23 b23 "com/example/furoshiki/furoshiki/Format$SizedFormats" "fix" "I" (.int (0 : Int32)) := D23 (Or.inr (hw _ (List.mem_of_getElem? (i := 16) rfl))) (ty := .int) (by decide)
    have F23_fixMax : Fld Z h23 b23 "com/example/furoshiki/furoshiki/Format$SizedFormats" "fixMax" "I" (.int (0 : Int32)) := D23 (Or.inr (hw _ (List.mem_of_getElem? (i := 18) rfl))) (ty := .int) (by decide)
    have F23_format8 : Fld Z h23 b23 "com/example/furoshiki/furoshiki/Format$SizedFormats" "format8" "I" (.int (0 : Int32)) := D23 (Or.inr (hw _ (List.mem_of_getElem? (i := 20) rfl))) (ty := .int) (by decide)
    have F23_format16 : Fld Z h23 b23 "com/example/furoshiki/furoshiki/Format$SizedFormats" "format16" "I" (.int (0 : Int32)) := D23 (Or.inr (hw _ (List.mem_of_getElem? (i := 22) rfl))) (ty := .int) (by decide)
    have F23_format32 : Fld Z h23 b23 "com/example/furoshiki/furoshiki/Format$SizedFormats" "format32" "I" (.int (0 : Int32)) := D23 (Or.inr (hw _ (List.mem_of_getElem? (i := 24) rfl))) (ty := .int) (by decide)
    obtain ⟨_, _, ⟨T24, L24, k24, n24⟩, -, X24, ⟨Lc24, hQ24, l24, y24, z24⟩, st24⟩ := X23.specialBack hx (y := (⟨"com/example/furoshiki/furoshiki/Format$SizedFormats", "<init>", "(IIIII)V"⟩ : MethodName)) rfl hown (mvT hZ (hw _ (List.mem_of_getElem? (i := 4) rfl))) (mvT hZ (hw _ (List.mem_of_getElem? (i := 5) rfl))) (mvT hZ (hw _ (List.mem_of_getElem? (i := 6) rfl))) (by decide) (backOf (W := 1) (rm1 l Z a0' hw [] b23 (160 : Int32) (31 : Int32) (217 : Int32) (218 : Int32) (219 : Int32) (0 : Int32) (0 : Int32) (0 : Int32) (0 : Int32) (0 : Int32) h23 n0 Z23 A23 F23_fix F23_fixMax F23_format8 F23_format16 F23_format32 g_b23) hZ (hw _ (List.mem_of_getElem? (i := 6) rfl)) (hw _ (List.mem_of_getElem? (i := 3) rfl)) (by decide) (by decide)) (g := (mkF m 96 #[.val (.int p0), .val (.int p1), .val (.int p2), .val (.int ((p0 &&& (2147483647 : Int32)) % (5 : Int32))), .val (.int (((p1 &&& (2147483647 : Int32)).toUInt32 >>> ((p2 &&& (31 : Int32)) &&& 31).toUInt32).toInt32)), .unset] [(.int (219 : Int32)), (.int (218 : Int32)), (.int (217 : Int32)), (.int (31 : Int32)), (.int (160 : Int32)), (.ref b23), (.ref b23)])) rfl (by rw [hml]; rfl) (Steps.refl _) (a := b23) (argsL := [(.int (160 : Int32)), (.int (31 : Int32)), (.int (217 : Int32)), (.int (218 : Int32)), (.int (219 : Int32))]) (rest := [(.ref b23)]) (lenOf pd1 rfl) rfl (by show 2 * 0 + _ ≤ _; exact Nat.le_of_eq rfl) (hb hby at_96) (fun _ _ => ⟨rfl, e23, (by decide : 1 + 0 ≤ _), (by decide : 5 + 0 ≤ _)⟩)
    dsimp only [Pt.U, Pt.locs, Pt.cells, Pt.slots] at X24 l24 y24 z24 st24 hQ24
    subst l24 y24 z24
    obtain ⟨rfl, N24q, K24, u24_0, u24_1, u24_2, u24_3, u24_4, u24_5⟩ := hQ24
    have N24 := Fr.app N0 N24q
    have Z24 : n0 ≤ T24.heap.size := Nat.le_trans Z23 K24.1
    obtain ⟨cq25, kq25, q25a, q25b, q25c⟩ := isOf hZ rfl u24_0
    obtain ⟨_, _, ⟨T25, L25, k25, n25⟩, -, X25, ⟨Lc25, hQ25, l25, y25, z25⟩, st25⟩ := X24.virtualBack hx (y := (⟨"com/example/furoshiki/furoshiki/Format$SizedFormats", "formatFor", "(I)I"⟩ : MethodName)) (z := (⟨"com/example/furoshiki/furoshiki/Format$SizedFormats", "formatFor", "(I)I"⟩ : MethodName)) hown (mvT hZ (hw _ (List.mem_of_getElem? (i := 25) rfl))) (mvT hZ (hw _ (List.mem_of_getElem? (i := 26) rfl))) (notFace_of_selects (args := #[]) (mvT hZ (hw _ (List.mem_of_getElem? (i := 28) rfl)))) (mvT hZ (hw _ (List.mem_of_getElem? (i := 28) rfl))) (mvT hZ (hw _ (List.mem_of_getElem? (i := 27) rfl))) (by decide) (backOf (W := 0) (rm4 l Z a0' hw [] b23 (((p1 &&& (2147483647 : Int32)).toUInt32 >>> ((p2 &&& (31 : Int32)) &&& 31).toUInt32).toInt32) (160 : Int32) (217 : Int32) (219 : Int32) (218 : Int32) (31 : Int32) T24.heap n0 Z24 u24_1 u24_3 u24_5 u24_4 u24_2) hZ (hw _ (List.mem_of_getElem? (i := 29) rfl)) (hw _ (List.mem_of_getElem? (i := 3) rfl)) (by decide) (by decide)) q25a q25c (g := (mkF m 158 #[.val (.int p0), .val (.int p1), .val (.int p2), .val (.int ((p0 &&& (2147483647 : Int32)) % (5 : Int32))), .val (.int (((p1 &&& (2147483647 : Int32)).toUInt32 >>> ((p2 &&& (31 : Int32)) &&& 31).toUInt32).toInt32)), .val (.ref b23)] [(.int (((p1 &&& (2147483647 : Int32)).toUInt32 >>> ((p2 &&& (31 : Int32)) &&& 31).toUInt32).toInt32)), (.ref b23)])) rfl (by rw [hml]; rfl) (Steps.refl _) (argsL := [(.int (((p1 &&& (2147483647 : Int32)).toUInt32 >>> ((p2 &&& (31 : Int32)) &&& 31).toUInt32).toInt32))]) (rest := []) (lenOf pd2 rfl) rfl (by show 2 * 0 + _ ≤ _; exact Nat.le_of_eq rfl) (hb hby at_158) (fun _ _ => ⟨rfl, rfl, (by decide : 1 + 0 ≤ _), (by decide : 5 + 0 ≤ _)⟩)
    dsimp only [Pt.U, Pt.locs, Pt.cells, Pt.slots] at X25 l25 y25 z25 st25 hQ25
    subst l25 y25 z25
    obtain ⟨rfl, N25q, e25⟩ := hQ25
    have N25 := Fr.app N24 N25q
    obtain ⟨_, _, ⟨T26, L26, k26, n26⟩, -, X26, ⟨Lc26, hQ26, l26, y26, z26⟩, st26⟩ := Jvm.LawKit.callS X25 hx (y := (⟨"com/example/furoshiki/furoshiki/SizedFormatsFormatForPinLaw", "expected", "(II)I"⟩ : MethodName)) hown (mvT hZ (hw _ (List.mem_of_getElem? (i := 30) rfl))) (mvT hZ (hw _ (List.mem_of_getElem? (i := 31) rfl))) (mvT hZ (hw _ (List.mem_of_getElem? (i := 32) rfl))) (mvT hZ (hw _ (List.mem_of_getElem? (i := 33) rfl))) (by decide) (backOf (W := 1) (rm5 l Z a0' hw [] ((p0 &&& (2147483647 : Int32)) % (5 : Int32)) (((p1 &&& (2147483647 : Int32)).toUInt32 >>> ((p2 &&& (31 : Int32)) &&& 31).toUInt32).toInt32) T24.heap n0 Z24) hZ (hw _ (List.mem_of_getElem? (i := 33) rfl)) (hw _ (List.mem_of_getElem? (i := 32) rfl)) (by decide) (by decide)) (g := (mkF m 164 #[.val (.int p0), .val (.int p1), .val (.int p2), .val (.int ((p0 &&& (2147483647 : Int32)) % (5 : Int32))), .val (.int (((p1 &&& (2147483647 : Int32)).toUInt32 >>> ((p2 &&& (31 : Int32)) &&& 31).toUInt32).toInt32)), .val (.ref b23)] [(.int (((p1 &&& (2147483647 : Int32)).toUInt32 >>> ((p2 &&& (31 : Int32)) &&& 31).toUInt32).toInt32)), (.int ((p0 &&& (2147483647 : Int32)) % (5 : Int32))), (.int (F4 (((p1 &&& (2147483647 : Int32)).toUInt32 >>> ((p2 &&& (31 : Int32)) &&& 31).toUInt32).toInt32) (160 : Int32) (217 : Int32) (219 : Int32) (218 : Int32) (31 : Int32)))])) rfl (by rw [hml]; rfl) (argsL := [(.int ((p0 &&& (2147483647 : Int32)) % (5 : Int32))), (.int (((p1 &&& (2147483647 : Int32)).toUInt32 >>> ((p2 &&& (31 : Int32)) &&& 31).toUInt32).toInt32))]) (rest := [(.int (F4 (((p1 &&& (2147483647 : Int32)).toUInt32 >>> ((p2 &&& (31 : Int32)) &&& 31).toUInt32).toInt32) (160 : Int32) (217 : Int32) (219 : Int32) (218 : Int32) (31 : Int32)))]) (lenOf pd3 rfl) rfl (by show 2 * 0 + _ ≤ _; exact Nat.le_of_eq rfl) (hb hby at_164) (fun _ _ => ⟨rfl, e25, (by decide : 1 + 0 ≤ _), (by decide : 5 + 0 ≤ _)⟩)
    dsimp only [Pt.U, Pt.locs, Pt.cells, Pt.slots] at X26 l26 y26 z26 st26 hQ26
    subst l26 y26 z26
    obtain ⟨rfl, N26q, e26⟩ := hQ26
    have N26 := Fr.app N25 N26q
    have pre27 : ∀ t, Steps p.tables e below (T26.setTop (mkF m 167 #[.val (.int p0), .val (.int p1), .val (.int p2), .val (.int ((p0 &&& (2147483647 : Int32)) % (5 : Int32))), .val (.int (((p1 &&& (2147483647 : Int32)).toUInt32 >>> ((p2 &&& (31 : Int32)) &&& 31).toUInt32).toInt32)), .val (.ref b23)] [(.int (F5 ((p0 &&& (2147483647 : Int32)) % (5 : Int32)) (((p1 &&& (2147483647 : Int32)).toUInt32 >>> ((p2 &&& (31 : Int32)) &&& 31).toUInt32).toInt32))), (.int (F4 (((p1 &&& (2147483647 : Int32)).toUInt32 >>> ((p2 &&& (31 : Int32)) &&& 31).toUInt32).toInt32) (160 : Int32) (217 : Int32) (219 : Int32) (218 : Int32) (31 : Int32)))])) t → Steps p.tables e below (s₁.setTop (entryFrame m #[(.int p0), (.int p1), (.int p2)] maxLocals)) t := fun t k => pre21 t (by
      show Steps p.tables e below (s₁.setTop (mkF m 75 #[.val (.int p0), .val (.int p1), .val (.int p2), .val (.int ((p0 &&& (2147483647 : Int32)) % (5 : Int32))), .val (.int (((p1 &&& (2147483647 : Int32)).toUInt32 >>> ((p2 &&& (31 : Int32)) &&& 31).toUInt32).toInt32)), .unset] [(.int (2 : Int32)), (.int ((p0 &&& (2147483647 : Int32)) % (5 : Int32)))])) _
      refine XS.icmpNo X0.here hx rfl (hb hby at_75) rfl (teq hc75_22).2 ?_
      show Steps p.tables e below (s₁.setTop (mkF m 78 #[.val (.int p0), .val (.int p1), .val (.int p2), .val (.int ((p0 &&& (2147483647 : Int32)) % (5 : Int32))), .val (.int (((p1 &&& (2147483647 : Int32)).toUInt32 >>> ((p2 &&& (31 : Int32)) &&& 31).toUInt32).toInt32)), .unset] [])) _
      refine st23 _ ?_
      show Steps p.tables e below (T23.setTop (mkF m 81 #[.val (.int p0), .val (.int p1), .val (.int p2), .val (.int ((p0 &&& (2147483647 : Int32)) % (5 : Int32))), .val (.int (((p1 &&& (2147483647 : Int32)).toUInt32 >>> ((p2 &&& (31 : Int32)) &&& 31).toUInt32).toInt32)), .unset] [(.ref b23)])) _
      refine XS.dup X23.here hx rfl (hb hby at_81) rfl rfl ?_
      show Steps p.tables e below (T23.setTop (mkF m 82 #[.val (.int p0), .val (.int p1), .val (.int p2), .val (.int ((p0 &&& (2147483647 : Int32)) % (5 : Int32))), .val (.int (((p1 &&& (2147483647 : Int32)).toUInt32 >>> ((p2 &&& (31 : Int32)) &&& 31).toUInt32).toInt32)), .unset] [(.ref b23), (.ref b23)])) _
      refine XS.sipush X23.here hx rfl (hb hby at_82) ?_
      show Steps p.tables e below (T23.setTop (mkF m 85 #[.val (.int p0), .val (.int p1), .val (.int p2), .val (.int ((p0 &&& (2147483647 : Int32)) % (5 : Int32))), .val (.int (((p1 &&& (2147483647 : Int32)).toUInt32 >>> ((p2 &&& (31 : Int32)) &&& 31).toUInt32).toInt32)), .unset] [(.int (160 : Int32)), (.ref b23), (.ref b23)])) _
      refine XS.bipush X23.here hx rfl (hb hby at_85) ?_
      show Steps p.tables e below (T23.setTop (mkF m 87 #[.val (.int p0), .val (.int p1), .val (.int p2), .val (.int ((p0 &&& (2147483647 : Int32)) % (5 : Int32))), .val (.int (((p1 &&& (2147483647 : Int32)).toUInt32 >>> ((p2 &&& (31 : Int32)) &&& 31).toUInt32).toInt32)), .unset] [(.int (31 : Int32)), (.int (160 : Int32)), (.ref b23), (.ref b23)])) _
      refine XS.sipush X23.here hx rfl (hb hby at_87) ?_
      show Steps p.tables e below (T23.setTop (mkF m 90 #[.val (.int p0), .val (.int p1), .val (.int p2), .val (.int ((p0 &&& (2147483647 : Int32)) % (5 : Int32))), .val (.int (((p1 &&& (2147483647 : Int32)).toUInt32 >>> ((p2 &&& (31 : Int32)) &&& 31).toUInt32).toInt32)), .unset] [(.int (217 : Int32)), (.int (31 : Int32)), (.int (160 : Int32)), (.ref b23), (.ref b23)])) _
      refine XS.sipush X23.here hx rfl (hb hby at_90) ?_
      show Steps p.tables e below (T23.setTop (mkF m 93 #[.val (.int p0), .val (.int p1), .val (.int p2), .val (.int ((p0 &&& (2147483647 : Int32)) % (5 : Int32))), .val (.int (((p1 &&& (2147483647 : Int32)).toUInt32 >>> ((p2 &&& (31 : Int32)) &&& 31).toUInt32).toInt32)), .unset] [(.int (218 : Int32)), (.int (217 : Int32)), (.int (31 : Int32)), (.int (160 : Int32)), (.ref b23), (.ref b23)])) _
      refine XS.sipush X23.here hx rfl (hb hby at_93) ?_
      show Steps p.tables e below (T23.setTop (mkF m 96 #[.val (.int p0), .val (.int p1), .val (.int p2), .val (.int ((p0 &&& (2147483647 : Int32)) % (5 : Int32))), .val (.int (((p1 &&& (2147483647 : Int32)).toUInt32 >>> ((p2 &&& (31 : Int32)) &&& 31).toUInt32).toInt32)), .unset] [(.int (219 : Int32)), (.int (218 : Int32)), (.int (217 : Int32)), (.int (31 : Int32)), (.int (160 : Int32)), (.ref b23), (.ref b23)])) _
      refine st24.trans ?_
      show Steps p.tables e below (T24.setTop (mkF m 99 #[.val (.int p0), .val (.int p1), .val (.int p2), .val (.int ((p0 &&& (2147483647 : Int32)) % (5 : Int32))), .val (.int (((p1 &&& (2147483647 : Int32)).toUInt32 >>> ((p2 &&& (31 : Int32)) &&& 31).toUInt32).toInt32)), .unset] [(.ref b23)])) _
      refine XS.astore X24.here hx rfl (hb hby at_99) rfl rfl (l' := #[.val (.int p0), .val (.int p1), .val (.int p2), .val (.int ((p0 &&& (2147483647 : Int32)) % (5 : Int32))), .val (.int (((p1 &&& (2147483647 : Int32)).toUInt32 >>> ((p2 &&& (31 : Int32)) &&& 31).toUInt32).toInt32)), .val (.ref b23)]) rfl ?_
      show Steps p.tables e below (T24.setTop (mkF m 101 #[.val (.int p0), .val (.int p1), .val (.int p2), .val (.int ((p0 &&& (2147483647 : Int32)) % (5 : Int32))), .val (.int (((p1 &&& (2147483647 : Int32)).toUInt32 >>> ((p2 &&& (31 : Int32)) &&& 31).toUInt32).toInt32)), .val (.ref b23)] [])) _
      refine XS.goto X24.here hx rfl (pc0 := 101) (pc' := 154) rfl (hb hby at_101) (by decide) (by decide) ?_
      show Steps p.tables e below (T24.setTop (mkF m 154 #[.val (.int p0), .val (.int p1), .val (.int p2), .val (.int ((p0 &&& (2147483647 : Int32)) % (5 : Int32))), .val (.int (((p1 &&& (2147483647 : Int32)).toUInt32 >>> ((p2 &&& (31 : Int32)) &&& 31).toUInt32).toInt32)), .val (.ref b23)] [])) _
      refine XS.aload X24.here hx rfl (hb hby at_154) rfl rfl ?_
      show Steps p.tables e below (T24.setTop (mkF m 156 #[.val (.int p0), .val (.int p1), .val (.int p2), .val (.int ((p0 &&& (2147483647 : Int32)) % (5 : Int32))), .val (.int (((p1 &&& (2147483647 : Int32)).toUInt32 >>> ((p2 &&& (31 : Int32)) &&& 31).toUInt32).toInt32)), .val (.ref b23)] [(.ref b23)])) _
      refine XS.iload X24.here hx rfl (hb hby at_156) rfl ?_
      show Steps p.tables e below (T24.setTop (mkF m 158 #[.val (.int p0), .val (.int p1), .val (.int p2), .val (.int ((p0 &&& (2147483647 : Int32)) % (5 : Int32))), .val (.int (((p1 &&& (2147483647 : Int32)).toUInt32 >>> ((p2 &&& (31 : Int32)) &&& 31).toUInt32).toInt32)), .val (.ref b23)] [(.int (((p1 &&& (2147483647 : Int32)).toUInt32 >>> ((p2 &&& (31 : Int32)) &&& 31).toUInt32).toInt32)), (.ref b23)])) _
      refine st25.trans ?_
      show Steps p.tables e below (T25.setTop (mkF m 161 #[.val (.int p0), .val (.int p1), .val (.int p2), .val (.int ((p0 &&& (2147483647 : Int32)) % (5 : Int32))), .val (.int (((p1 &&& (2147483647 : Int32)).toUInt32 >>> ((p2 &&& (31 : Int32)) &&& 31).toUInt32).toInt32)), .val (.ref b23)] [(.int (F4 (((p1 &&& (2147483647 : Int32)).toUInt32 >>> ((p2 &&& (31 : Int32)) &&& 31).toUInt32).toInt32) (160 : Int32) (217 : Int32) (219 : Int32) (218 : Int32) (31 : Int32)))])) _
      refine XS.iloadN X25.here hx rfl (hb hby at_161) rfl ?_
      show Steps p.tables e below (T25.setTop (mkF m 162 #[.val (.int p0), .val (.int p1), .val (.int p2), .val (.int ((p0 &&& (2147483647 : Int32)) % (5 : Int32))), .val (.int (((p1 &&& (2147483647 : Int32)).toUInt32 >>> ((p2 &&& (31 : Int32)) &&& 31).toUInt32).toInt32)), .val (.ref b23)] [(.int ((p0 &&& (2147483647 : Int32)) % (5 : Int32))), (.int (F4 (((p1 &&& (2147483647 : Int32)).toUInt32 >>> ((p2 &&& (31 : Int32)) &&& 31).toUInt32).toInt32) (160 : Int32) (217 : Int32) (219 : Int32) (218 : Int32) (31 : Int32)))])) _
      refine XS.iload X25.here hx rfl (hb hby at_162) rfl ?_
      show Steps p.tables e below (T25.setTop (mkF m 164 #[.val (.int p0), .val (.int p1), .val (.int p2), .val (.int ((p0 &&& (2147483647 : Int32)) % (5 : Int32))), .val (.int (((p1 &&& (2147483647 : Int32)).toUInt32 >>> ((p2 &&& (31 : Int32)) &&& 31).toUInt32).toInt32)), .val (.ref b23)] [(.int (((p1 &&& (2147483647 : Int32)).toUInt32 >>> ((p2 &&& (31 : Int32)) &&& 31).toUInt32).toInt32)), (.int ((p0 &&& (2147483647 : Int32)) % (5 : Int32))), (.int (F4 (((p1 &&& (2147483647 : Int32)).toUInt32 >>> ((p2 &&& (31 : Int32)) &&& 31).toUInt32).toInt32) (160 : Int32) (217 : Int32) (219 : Int32) (218 : Int32) (31 : Int32)))])) _
      refine st26 _ ?_
      exact k)
    by_cases hc167_28 : (F4 (((p1 &&& (2147483647 : Int32)).toUInt32 >>> ((p2 &&& (31 : Int32)) &&& 31).toUInt32).toInt32) (160 : Int32) (217 : Int32) (219 : Int32) (218 : Int32) (31 : Int32)) = (F5 ((p0 &&& (2147483647 : Int32)) % (5 : Int32)) (((p1 &&& (2147483647 : Int32)).toUInt32 >>> ((p2 &&& (31 : Int32)) &&& 31).toUInt32).toInt32))
    · have pre29 : ∀ t, Steps p.tables e below (T26.setTop (mkF m 175 #[.val (.int p0), .val (.int p1), .val (.int p2), .val (.int ((p0 &&& (2147483647 : Int32)) % (5 : Int32))), .val (.int (((p1 &&& (2147483647 : Int32)).toUInt32 >>> ((p2 &&& (31 : Int32)) &&& 31).toUInt32).toInt32)), .val (.ref b23)] [(.int (1 : Int32))])) t → Steps p.tables e below (s₁.setTop (entryFrame m #[(.int p0), (.int p1), (.int p2)] maxLocals)) t := fun t k => pre27 t (by
        show Steps p.tables e below (T26.setTop (mkF m 167 #[.val (.int p0), .val (.int p1), .val (.int p2), .val (.int ((p0 &&& (2147483647 : Int32)) % (5 : Int32))), .val (.int (((p1 &&& (2147483647 : Int32)).toUInt32 >>> ((p2 &&& (31 : Int32)) &&& 31).toUInt32).toInt32)), .val (.ref b23)] [(.int (F5 ((p0 &&& (2147483647 : Int32)) % (5 : Int32)) (((p1 &&& (2147483647 : Int32)).toUInt32 >>> ((p2 &&& (31 : Int32)) &&& 31).toUInt32).toInt32))), (.int (F4 (((p1 &&& (2147483647 : Int32)).toUInt32 >>> ((p2 &&& (31 : Int32)) &&& 31).toUInt32).toInt32) (160 : Int32) (217 : Int32) (219 : Int32) (218 : Int32) (31 : Int32)))])) _
        refine XS.icmpNo X26.here hx rfl (hb hby at_167) rfl (teq hc167_28).2 ?_
        show Steps p.tables e below (T26.setTop (mkF m 170 #[.val (.int p0), .val (.int p1), .val (.int p2), .val (.int ((p0 &&& (2147483647 : Int32)) % (5 : Int32))), .val (.int (((p1 &&& (2147483647 : Int32)).toUInt32 >>> ((p2 &&& (31 : Int32)) &&& 31).toUInt32).toInt32)), .val (.ref b23)] [])) _
        refine XS.iconst X26.here hx rfl (hb hby at_170) ?_
        show Steps p.tables e below (T26.setTop (mkF m 171 #[.val (.int p0), .val (.int p1), .val (.int p2), .val (.int ((p0 &&& (2147483647 : Int32)) % (5 : Int32))), .val (.int (((p1 &&& (2147483647 : Int32)).toUInt32 >>> ((p2 &&& (31 : Int32)) &&& 31).toUInt32).toInt32)), .val (.ref b23)] [(.int (1 : Int32))])) _
        refine XS.goto X26.here hx rfl (pc0 := 171) (pc' := 175) rfl (hb hby at_171) (by decide) (by decide) ?_
        exact k)
      obtain ⟨fs, hr, hrun, hended, hW, hsame⟩ := X26.leave (v := some (.int (1 : Int32))) (fun h => by rw [Bd.returns] at h; cases h)
      have hF : (F0 p0 p1 p2) = (1 : Int32) := by unfold F0; rw [if_neg hc19_2, if_neg hc47_12, if_pos hc75_22, if_pos hc167_28]
      exact ⟨_, _, pre29 _ (retN X26 hx (t := .boolean) Bd.returns (by simp) (hb hby at_175) hr), hrun, hended, _, _, rfl, ⟨by rw [hF], N26⟩, ⟨_, rfl⟩, hW, hsame.mono (by decide) (by decide)⟩
    have pre30 : ∀ t, Steps p.tables e below (T26.setTop (mkF m 175 #[.val (.int p0), .val (.int p1), .val (.int p2), .val (.int ((p0 &&& (2147483647 : Int32)) % (5 : Int32))), .val (.int (((p1 &&& (2147483647 : Int32)).toUInt32 >>> ((p2 &&& (31 : Int32)) &&& 31).toUInt32).toInt32)), .val (.ref b23)] [(.int (0 : Int32))])) t → Steps p.tables e below (s₁.setTop (entryFrame m #[(.int p0), (.int p1), (.int p2)] maxLocals)) t := fun t k => pre27 t (by
      show Steps p.tables e below (T26.setTop (mkF m 167 #[.val (.int p0), .val (.int p1), .val (.int p2), .val (.int ((p0 &&& (2147483647 : Int32)) % (5 : Int32))), .val (.int (((p1 &&& (2147483647 : Int32)).toUInt32 >>> ((p2 &&& (31 : Int32)) &&& 31).toUInt32).toInt32)), .val (.ref b23)] [(.int (F5 ((p0 &&& (2147483647 : Int32)) % (5 : Int32)) (((p1 &&& (2147483647 : Int32)).toUInt32 >>> ((p2 &&& (31 : Int32)) &&& 31).toUInt32).toInt32))), (.int (F4 (((p1 &&& (2147483647 : Int32)).toUInt32 >>> ((p2 &&& (31 : Int32)) &&& 31).toUInt32).toInt32) (160 : Int32) (217 : Int32) (219 : Int32) (218 : Int32) (31 : Int32)))])) _
      refine XS.icmpYes X26.here hx rfl (pc0 := 167) (pc' := 174) rfl (hb hby at_167) rfl (feq hc167_28).2 (by decide) (by decide) ?_
      show Steps p.tables e below (T26.setTop (mkF m 174 #[.val (.int p0), .val (.int p1), .val (.int p2), .val (.int ((p0 &&& (2147483647 : Int32)) % (5 : Int32))), .val (.int (((p1 &&& (2147483647 : Int32)).toUInt32 >>> ((p2 &&& (31 : Int32)) &&& 31).toUInt32).toInt32)), .val (.ref b23)] [])) _
      refine XS.iconst X26.here hx rfl (hb hby at_174) ?_
      exact k)
    obtain ⟨fs, hr, hrun, hended, hW, hsame⟩ := X26.leave (v := some (.int (0 : Int32))) (fun h => by rw [Bd.returns] at h; cases h)
    have hF : (F0 p0 p1 p2) = (0 : Int32) := by unfold F0; rw [if_neg hc19_2, if_neg hc47_12, if_pos hc75_22, if_neg hc167_28]
    exact ⟨_, _, pre30 _ (retN X26 hx (t := .boolean) Bd.returns (by simp) (hb hby at_175) hr), hrun, hended, _, _, rfl, ⟨by rw [hF], N26⟩, ⟨_, rfl⟩, hW, hsame.mono (by decide) (by decide)⟩
  have pre31 : ∀ t, Steps p.tables e below (s₁.setTop (mkF m 106 #[.val (.int p0), .val (.int p1), .val (.int p2), .val (.int ((p0 &&& (2147483647 : Int32)) % (5 : Int32))), .val (.int (((p1 &&& (2147483647 : Int32)).toUInt32 >>> ((p2 &&& (31 : Int32)) &&& 31).toUInt32).toInt32)), .unset] [(.int (3 : Int32)), (.int ((p0 &&& (2147483647 : Int32)) % (5 : Int32)))])) t → Steps p.tables e below (s₁.setTop (entryFrame m #[(.int p0), (.int p1), (.int p2)] maxLocals)) t := fun t k => pre21 t (by
    show Steps p.tables e below (s₁.setTop (mkF m 75 #[.val (.int p0), .val (.int p1), .val (.int p2), .val (.int ((p0 &&& (2147483647 : Int32)) % (5 : Int32))), .val (.int (((p1 &&& (2147483647 : Int32)).toUInt32 >>> ((p2 &&& (31 : Int32)) &&& 31).toUInt32).toInt32)), .unset] [(.int (2 : Int32)), (.int ((p0 &&& (2147483647 : Int32)) % (5 : Int32)))])) _
    refine XS.icmpYes X0.here hx rfl (pc0 := 75) (pc' := 104) rfl (hb hby at_75) rfl (feq hc75_22).2 (by decide) (by decide) ?_
    show Steps p.tables e below (s₁.setTop (mkF m 104 #[.val (.int p0), .val (.int p1), .val (.int p2), .val (.int ((p0 &&& (2147483647 : Int32)) % (5 : Int32))), .val (.int (((p1 &&& (2147483647 : Int32)).toUInt32 >>> ((p2 &&& (31 : Int32)) &&& 31).toUInt32).toInt32)), .unset] [])) _
    refine XS.iloadN X0.here hx rfl (hb hby at_104) rfl ?_
    show Steps p.tables e below (s₁.setTop (mkF m 105 #[.val (.int p0), .val (.int p1), .val (.int p2), .val (.int ((p0 &&& (2147483647 : Int32)) % (5 : Int32))), .val (.int (((p1 &&& (2147483647 : Int32)).toUInt32 >>> ((p2 &&& (31 : Int32)) &&& 31).toUInt32).toInt32)), .unset] [(.int ((p0 &&& (2147483647 : Int32)) % (5 : Int32)))])) _
    refine XS.iconst X0.here hx rfl (hb hby at_105) ?_
    exact k)
  by_cases hc106_32 : ((p0 &&& (2147483647 : Int32)) % (5 : Int32)) = (3 : Int32)
  · obtain ⟨T33, h33, X33, e33, E33, A33, D33, -, st33⟩ := newO X0 hx hZ hown (hw _ (List.mem_of_getElem? (i := 1) rfl)) (hw _ (List.mem_of_getElem? (i := 2) rfl)) (hw _ (List.mem_of_getElem? (i := 3) rfl)) e0 (g := (mkF m 109 #[.val (.int p0), .val (.int p1), .val (.int p2), .val (.int ((p0 &&& (2147483647 : Int32)) % (5 : Int32))), .val (.int (((p1 &&& (2147483647 : Int32)).toUInt32 >>> ((p2 &&& (31 : Int32)) &&& 31).toUInt32).toInt32)), .unset] [])) rfl (hb hby at_109) (by decide) (by decide)
    obtain ⟨b33, g33⟩ : ∃ z, z = h0.size := ⟨_, rfl⟩
    rw [← g33] at A33 D33 st33
    have g_b33 : n0 ≤ b33 := Nat.le_trans Z0 (Nat.le_of_eq g33.symm)
    have Z33 : n0 ≤ h33.size := Nat.le_trans Z0 E33.1
    have F33_fix : Fld Z h33 b33 "com/example/furoshiki/furoshiki/Format$SizedFormats" "fix" "I" (.int (0 : Int32)) := D33 (Or.inr (hw _ (List.mem_of_getElem? (i := 16) rfl))) (ty := .int) (by decide)
    have F33_fixMax : Fld Z h33 b33 "com/example/furoshiki/furoshiki/Format$SizedFormats" "fixMax" "I" (.int (0 : Int32)) := D33 (Or.inr (hw _ (List.mem_of_getElem? (i := 18) rfl))) (ty := .int) (by decide)
    have F33_format8 : Fld Z h33 b33 "com/example/furoshiki/furoshiki/Format$SizedFormats" "format8" "I" (.int (0 : Int32)) := D33 (Or.inr (hw _ (List.mem_of_getElem? (i := 20) rfl))) (ty := .int) (by decide)
    have F33_format16 : Fld Z h33 b33 "com/example/furoshiki/furoshiki/Format$SizedFormats" "format16" "I" (.int (0 : Int32)) := D33 (Or.inr (hw _ (List.mem_of_getElem? (i := 22) rfl))) (ty := .int) (by decide)
    have F33_format32 : Fld Z h33 b33 "com/example/furoshiki/furoshiki/Format$SizedFormats" "format32" "I" (.int (0 : Int32)) := D33 (Or.inr (hw _ (List.mem_of_getElem? (i := 24) rfl))) (ty := .int) (by decide)
    obtain ⟨_, _, ⟨T34, L34, k34, n34⟩, -, X34, ⟨Lc34, hQ34, l34, y34, z34⟩, st34⟩ := X33.specialBack hx (y := (⟨"com/example/furoshiki/furoshiki/Format$SizedFormats", "<init>", "(IIIII)V"⟩ : MethodName)) rfl hown (mvT hZ (hw _ (List.mem_of_getElem? (i := 4) rfl))) (mvT hZ (hw _ (List.mem_of_getElem? (i := 5) rfl))) (mvT hZ (hw _ (List.mem_of_getElem? (i := 6) rfl))) (by decide) (backOf (W := 1) (rm1 l Z a0' hw [] b33 (144 : Int32) (15 : Int32) (-1 : Int32) (220 : Int32) (221 : Int32) (0 : Int32) (0 : Int32) (0 : Int32) (0 : Int32) (0 : Int32) h33 n0 Z33 A33 F33_fix F33_fixMax F33_format8 F33_format16 F33_format32 g_b33) hZ (hw _ (List.mem_of_getElem? (i := 6) rfl)) (hw _ (List.mem_of_getElem? (i := 3) rfl)) (by decide) (by decide)) (g := (mkF m 125 #[.val (.int p0), .val (.int p1), .val (.int p2), .val (.int ((p0 &&& (2147483647 : Int32)) % (5 : Int32))), .val (.int (((p1 &&& (2147483647 : Int32)).toUInt32 >>> ((p2 &&& (31 : Int32)) &&& 31).toUInt32).toInt32)), .unset] [(.int (221 : Int32)), (.int (220 : Int32)), (.int (-1 : Int32)), (.int (15 : Int32)), (.int (144 : Int32)), (.ref b33), (.ref b33)])) rfl (by rw [hml]; rfl) (Steps.refl _) (a := b33) (argsL := [(.int (144 : Int32)), (.int (15 : Int32)), (.int (-1 : Int32)), (.int (220 : Int32)), (.int (221 : Int32))]) (rest := [(.ref b33)]) (lenOf pd1 rfl) rfl (by show 2 * 0 + _ ≤ _; exact Nat.le_of_eq rfl) (hb hby at_125) (fun _ _ => ⟨rfl, e33, (by decide : 1 + 0 ≤ _), (by decide : 5 + 0 ≤ _)⟩)
    dsimp only [Pt.U, Pt.locs, Pt.cells, Pt.slots] at X34 l34 y34 z34 st34 hQ34
    subst l34 y34 z34
    obtain ⟨rfl, N34q, K34, u34_0, u34_1, u34_2, u34_3, u34_4, u34_5⟩ := hQ34
    have N34 := Fr.app N0 N34q
    have Z34 : n0 ≤ T34.heap.size := Nat.le_trans Z33 K34.1
    obtain ⟨cq35, kq35, q35a, q35b, q35c⟩ := isOf hZ rfl u34_0
    obtain ⟨_, _, ⟨T35, L35, k35, n35⟩, -, X35, ⟨Lc35, hQ35, l35, y35, z35⟩, st35⟩ := X34.virtualBack hx (y := (⟨"com/example/furoshiki/furoshiki/Format$SizedFormats", "formatFor", "(I)I"⟩ : MethodName)) (z := (⟨"com/example/furoshiki/furoshiki/Format$SizedFormats", "formatFor", "(I)I"⟩ : MethodName)) hown (mvT hZ (hw _ (List.mem_of_getElem? (i := 25) rfl))) (mvT hZ (hw _ (List.mem_of_getElem? (i := 26) rfl))) (notFace_of_selects (args := #[]) (mvT hZ (hw _ (List.mem_of_getElem? (i := 28) rfl)))) (mvT hZ (hw _ (List.mem_of_getElem? (i := 28) rfl))) (mvT hZ (hw _ (List.mem_of_getElem? (i := 27) rfl))) (by decide) (backOf (W := 0) (rm4 l Z a0' hw [] b33 (((p1 &&& (2147483647 : Int32)).toUInt32 >>> ((p2 &&& (31 : Int32)) &&& 31).toUInt32).toInt32) (144 : Int32) (-1 : Int32) (221 : Int32) (220 : Int32) (15 : Int32) T34.heap n0 Z34 u34_1 u34_3 u34_5 u34_4 u34_2) hZ (hw _ (List.mem_of_getElem? (i := 29) rfl)) (hw _ (List.mem_of_getElem? (i := 3) rfl)) (by decide) (by decide)) q35a q35c (g := (mkF m 158 #[.val (.int p0), .val (.int p1), .val (.int p2), .val (.int ((p0 &&& (2147483647 : Int32)) % (5 : Int32))), .val (.int (((p1 &&& (2147483647 : Int32)).toUInt32 >>> ((p2 &&& (31 : Int32)) &&& 31).toUInt32).toInt32)), .val (.ref b33)] [(.int (((p1 &&& (2147483647 : Int32)).toUInt32 >>> ((p2 &&& (31 : Int32)) &&& 31).toUInt32).toInt32)), (.ref b33)])) rfl (by rw [hml]; rfl) (Steps.refl _) (argsL := [(.int (((p1 &&& (2147483647 : Int32)).toUInt32 >>> ((p2 &&& (31 : Int32)) &&& 31).toUInt32).toInt32))]) (rest := []) (lenOf pd2 rfl) rfl (by show 2 * 0 + _ ≤ _; exact Nat.le_of_eq rfl) (hb hby at_158) (fun _ _ => ⟨rfl, rfl, (by decide : 1 + 0 ≤ _), (by decide : 5 + 0 ≤ _)⟩)
    dsimp only [Pt.U, Pt.locs, Pt.cells, Pt.slots] at X35 l35 y35 z35 st35 hQ35
    subst l35 y35 z35
    obtain ⟨rfl, N35q, e35⟩ := hQ35
    have N35 := Fr.app N34 N35q
    obtain ⟨_, _, ⟨T36, L36, k36, n36⟩, -, X36, ⟨Lc36, hQ36, l36, y36, z36⟩, st36⟩ := Jvm.LawKit.callS X35 hx (y := (⟨"com/example/furoshiki/furoshiki/SizedFormatsFormatForPinLaw", "expected", "(II)I"⟩ : MethodName)) hown (mvT hZ (hw _ (List.mem_of_getElem? (i := 30) rfl))) (mvT hZ (hw _ (List.mem_of_getElem? (i := 31) rfl))) (mvT hZ (hw _ (List.mem_of_getElem? (i := 32) rfl))) (mvT hZ (hw _ (List.mem_of_getElem? (i := 33) rfl))) (by decide) (backOf (W := 1) (rm5 l Z a0' hw [] ((p0 &&& (2147483647 : Int32)) % (5 : Int32)) (((p1 &&& (2147483647 : Int32)).toUInt32 >>> ((p2 &&& (31 : Int32)) &&& 31).toUInt32).toInt32) T34.heap n0 Z34) hZ (hw _ (List.mem_of_getElem? (i := 33) rfl)) (hw _ (List.mem_of_getElem? (i := 32) rfl)) (by decide) (by decide)) (g := (mkF m 164 #[.val (.int p0), .val (.int p1), .val (.int p2), .val (.int ((p0 &&& (2147483647 : Int32)) % (5 : Int32))), .val (.int (((p1 &&& (2147483647 : Int32)).toUInt32 >>> ((p2 &&& (31 : Int32)) &&& 31).toUInt32).toInt32)), .val (.ref b33)] [(.int (((p1 &&& (2147483647 : Int32)).toUInt32 >>> ((p2 &&& (31 : Int32)) &&& 31).toUInt32).toInt32)), (.int ((p0 &&& (2147483647 : Int32)) % (5 : Int32))), (.int (F4 (((p1 &&& (2147483647 : Int32)).toUInt32 >>> ((p2 &&& (31 : Int32)) &&& 31).toUInt32).toInt32) (144 : Int32) (-1 : Int32) (221 : Int32) (220 : Int32) (15 : Int32)))])) rfl (by rw [hml]; rfl) (argsL := [(.int ((p0 &&& (2147483647 : Int32)) % (5 : Int32))), (.int (((p1 &&& (2147483647 : Int32)).toUInt32 >>> ((p2 &&& (31 : Int32)) &&& 31).toUInt32).toInt32))]) (rest := [(.int (F4 (((p1 &&& (2147483647 : Int32)).toUInt32 >>> ((p2 &&& (31 : Int32)) &&& 31).toUInt32).toInt32) (144 : Int32) (-1 : Int32) (221 : Int32) (220 : Int32) (15 : Int32)))]) (lenOf pd3 rfl) rfl (by show 2 * 0 + _ ≤ _; exact Nat.le_of_eq rfl) (hb hby at_164) (fun _ _ => ⟨rfl, e35, (by decide : 1 + 0 ≤ _), (by decide : 5 + 0 ≤ _)⟩)
    dsimp only [Pt.U, Pt.locs, Pt.cells, Pt.slots] at X36 l36 y36 z36 st36 hQ36
    subst l36 y36 z36
    obtain ⟨rfl, N36q, e36⟩ := hQ36
    have N36 := Fr.app N35 N36q
    have pre37 : ∀ t, Steps p.tables e below (T36.setTop (mkF m 167 #[.val (.int p0), .val (.int p1), .val (.int p2), .val (.int ((p0 &&& (2147483647 : Int32)) % (5 : Int32))), .val (.int (((p1 &&& (2147483647 : Int32)).toUInt32 >>> ((p2 &&& (31 : Int32)) &&& 31).toUInt32).toInt32)), .val (.ref b33)] [(.int (F5 ((p0 &&& (2147483647 : Int32)) % (5 : Int32)) (((p1 &&& (2147483647 : Int32)).toUInt32 >>> ((p2 &&& (31 : Int32)) &&& 31).toUInt32).toInt32))), (.int (F4 (((p1 &&& (2147483647 : Int32)).toUInt32 >>> ((p2 &&& (31 : Int32)) &&& 31).toUInt32).toInt32) (144 : Int32) (-1 : Int32) (221 : Int32) (220 : Int32) (15 : Int32)))])) t → Steps p.tables e below (s₁.setTop (entryFrame m #[(.int p0), (.int p1), (.int p2)] maxLocals)) t := fun t k => pre31 t (by
      show Steps p.tables e below (s₁.setTop (mkF m 106 #[.val (.int p0), .val (.int p1), .val (.int p2), .val (.int ((p0 &&& (2147483647 : Int32)) % (5 : Int32))), .val (.int (((p1 &&& (2147483647 : Int32)).toUInt32 >>> ((p2 &&& (31 : Int32)) &&& 31).toUInt32).toInt32)), .unset] [(.int (3 : Int32)), (.int ((p0 &&& (2147483647 : Int32)) % (5 : Int32)))])) _
      refine XS.icmpNo X0.here hx rfl (hb hby at_106) rfl (teq hc106_32).2 ?_
      show Steps p.tables e below (s₁.setTop (mkF m 109 #[.val (.int p0), .val (.int p1), .val (.int p2), .val (.int ((p0 &&& (2147483647 : Int32)) % (5 : Int32))), .val (.int (((p1 &&& (2147483647 : Int32)).toUInt32 >>> ((p2 &&& (31 : Int32)) &&& 31).toUInt32).toInt32)), .unset] [])) _
      refine st33 _ ?_
      show Steps p.tables e below (T33.setTop (mkF m 112 #[.val (.int p0), .val (.int p1), .val (.int p2), .val (.int ((p0 &&& (2147483647 : Int32)) % (5 : Int32))), .val (.int (((p1 &&& (2147483647 : Int32)).toUInt32 >>> ((p2 &&& (31 : Int32)) &&& 31).toUInt32).toInt32)), .unset] [(.ref b33)])) _
      refine XS.dup X33.here hx rfl (hb hby at_112) rfl rfl ?_
      show Steps p.tables e below (T33.setTop (mkF m 113 #[.val (.int p0), .val (.int p1), .val (.int p2), .val (.int ((p0 &&& (2147483647 : Int32)) % (5 : Int32))), .val (.int (((p1 &&& (2147483647 : Int32)).toUInt32 >>> ((p2 &&& (31 : Int32)) &&& 31).toUInt32).toInt32)), .unset] [(.ref b33), (.ref b33)])) _
      refine XS.sipush X33.here hx rfl (hb hby at_113) ?_
      show Steps p.tables e below (T33.setTop (mkF m 116 #[.val (.int p0), .val (.int p1), .val (.int p2), .val (.int ((p0 &&& (2147483647 : Int32)) % (5 : Int32))), .val (.int (((p1 &&& (2147483647 : Int32)).toUInt32 >>> ((p2 &&& (31 : Int32)) &&& 31).toUInt32).toInt32)), .unset] [(.int (144 : Int32)), (.ref b33), (.ref b33)])) _
      refine XS.bipush X33.here hx rfl (hb hby at_116) ?_
      show Steps p.tables e below (T33.setTop (mkF m 118 #[.val (.int p0), .val (.int p1), .val (.int p2), .val (.int ((p0 &&& (2147483647 : Int32)) % (5 : Int32))), .val (.int (((p1 &&& (2147483647 : Int32)).toUInt32 >>> ((p2 &&& (31 : Int32)) &&& 31).toUInt32).toInt32)), .unset] [(.int (15 : Int32)), (.int (144 : Int32)), (.ref b33), (.ref b33)])) _
      refine XS.iconst X33.here hx rfl (hb hby at_118) ?_
      show Steps p.tables e below (T33.setTop (mkF m 119 #[.val (.int p0), .val (.int p1), .val (.int p2), .val (.int ((p0 &&& (2147483647 : Int32)) % (5 : Int32))), .val (.int (((p1 &&& (2147483647 : Int32)).toUInt32 >>> ((p2 &&& (31 : Int32)) &&& 31).toUInt32).toInt32)), .unset] [(.int (-1 : Int32)), (.int (15 : Int32)), (.int (144 : Int32)), (.ref b33), (.ref b33)])) _
      refine XS.sipush X33.here hx rfl (hb hby at_119) ?_
      show Steps p.tables e below (T33.setTop (mkF m 122 #[.val (.int p0), .val (.int p1), .val (.int p2), .val (.int ((p0 &&& (2147483647 : Int32)) % (5 : Int32))), .val (.int (((p1 &&& (2147483647 : Int32)).toUInt32 >>> ((p2 &&& (31 : Int32)) &&& 31).toUInt32).toInt32)), .unset] [(.int (220 : Int32)), (.int (-1 : Int32)), (.int (15 : Int32)), (.int (144 : Int32)), (.ref b33), (.ref b33)])) _
      refine XS.sipush X33.here hx rfl (hb hby at_122) ?_
      show Steps p.tables e below (T33.setTop (mkF m 125 #[.val (.int p0), .val (.int p1), .val (.int p2), .val (.int ((p0 &&& (2147483647 : Int32)) % (5 : Int32))), .val (.int (((p1 &&& (2147483647 : Int32)).toUInt32 >>> ((p2 &&& (31 : Int32)) &&& 31).toUInt32).toInt32)), .unset] [(.int (221 : Int32)), (.int (220 : Int32)), (.int (-1 : Int32)), (.int (15 : Int32)), (.int (144 : Int32)), (.ref b33), (.ref b33)])) _
      refine st34.trans ?_
      show Steps p.tables e below (T34.setTop (mkF m 128 #[.val (.int p0), .val (.int p1), .val (.int p2), .val (.int ((p0 &&& (2147483647 : Int32)) % (5 : Int32))), .val (.int (((p1 &&& (2147483647 : Int32)).toUInt32 >>> ((p2 &&& (31 : Int32)) &&& 31).toUInt32).toInt32)), .unset] [(.ref b33)])) _
      refine XS.astore X34.here hx rfl (hb hby at_128) rfl rfl (l' := #[.val (.int p0), .val (.int p1), .val (.int p2), .val (.int ((p0 &&& (2147483647 : Int32)) % (5 : Int32))), .val (.int (((p1 &&& (2147483647 : Int32)).toUInt32 >>> ((p2 &&& (31 : Int32)) &&& 31).toUInt32).toInt32)), .val (.ref b33)]) rfl ?_
      show Steps p.tables e below (T34.setTop (mkF m 130 #[.val (.int p0), .val (.int p1), .val (.int p2), .val (.int ((p0 &&& (2147483647 : Int32)) % (5 : Int32))), .val (.int (((p1 &&& (2147483647 : Int32)).toUInt32 >>> ((p2 &&& (31 : Int32)) &&& 31).toUInt32).toInt32)), .val (.ref b33)] [])) _
      refine XS.goto X34.here hx rfl (pc0 := 130) (pc' := 154) rfl (hb hby at_130) (by decide) (by decide) ?_
      show Steps p.tables e below (T34.setTop (mkF m 154 #[.val (.int p0), .val (.int p1), .val (.int p2), .val (.int ((p0 &&& (2147483647 : Int32)) % (5 : Int32))), .val (.int (((p1 &&& (2147483647 : Int32)).toUInt32 >>> ((p2 &&& (31 : Int32)) &&& 31).toUInt32).toInt32)), .val (.ref b33)] [])) _
      refine XS.aload X34.here hx rfl (hb hby at_154) rfl rfl ?_
      show Steps p.tables e below (T34.setTop (mkF m 156 #[.val (.int p0), .val (.int p1), .val (.int p2), .val (.int ((p0 &&& (2147483647 : Int32)) % (5 : Int32))), .val (.int (((p1 &&& (2147483647 : Int32)).toUInt32 >>> ((p2 &&& (31 : Int32)) &&& 31).toUInt32).toInt32)), .val (.ref b33)] [(.ref b33)])) _
      refine XS.iload X34.here hx rfl (hb hby at_156) rfl ?_
      show Steps p.tables e below (T34.setTop (mkF m 158 #[.val (.int p0), .val (.int p1), .val (.int p2), .val (.int ((p0 &&& (2147483647 : Int32)) % (5 : Int32))), .val (.int (((p1 &&& (2147483647 : Int32)).toUInt32 >>> ((p2 &&& (31 : Int32)) &&& 31).toUInt32).toInt32)), .val (.ref b33)] [(.int (((p1 &&& (2147483647 : Int32)).toUInt32 >>> ((p2 &&& (31 : Int32)) &&& 31).toUInt32).toInt32)), (.ref b33)])) _
      refine st35.trans ?_
      show Steps p.tables e below (T35.setTop (mkF m 161 #[.val (.int p0), .val (.int p1), .val (.int p2), .val (.int ((p0 &&& (2147483647 : Int32)) % (5 : Int32))), .val (.int (((p1 &&& (2147483647 : Int32)).toUInt32 >>> ((p2 &&& (31 : Int32)) &&& 31).toUInt32).toInt32)), .val (.ref b33)] [(.int (F4 (((p1 &&& (2147483647 : Int32)).toUInt32 >>> ((p2 &&& (31 : Int32)) &&& 31).toUInt32).toInt32) (144 : Int32) (-1 : Int32) (221 : Int32) (220 : Int32) (15 : Int32)))])) _
      refine XS.iloadN X35.here hx rfl (hb hby at_161) rfl ?_
      show Steps p.tables e below (T35.setTop (mkF m 162 #[.val (.int p0), .val (.int p1), .val (.int p2), .val (.int ((p0 &&& (2147483647 : Int32)) % (5 : Int32))), .val (.int (((p1 &&& (2147483647 : Int32)).toUInt32 >>> ((p2 &&& (31 : Int32)) &&& 31).toUInt32).toInt32)), .val (.ref b33)] [(.int ((p0 &&& (2147483647 : Int32)) % (5 : Int32))), (.int (F4 (((p1 &&& (2147483647 : Int32)).toUInt32 >>> ((p2 &&& (31 : Int32)) &&& 31).toUInt32).toInt32) (144 : Int32) (-1 : Int32) (221 : Int32) (220 : Int32) (15 : Int32)))])) _
      refine XS.iload X35.here hx rfl (hb hby at_162) rfl ?_
      show Steps p.tables e below (T35.setTop (mkF m 164 #[.val (.int p0), .val (.int p1), .val (.int p2), .val (.int ((p0 &&& (2147483647 : Int32)) % (5 : Int32))), .val (.int (((p1 &&& (2147483647 : Int32)).toUInt32 >>> ((p2 &&& (31 : Int32)) &&& 31).toUInt32).toInt32)), .val (.ref b33)] [(.int (((p1 &&& (2147483647 : Int32)).toUInt32 >>> ((p2 &&& (31 : Int32)) &&& 31).toUInt32).toInt32)), (.int ((p0 &&& (2147483647 : Int32)) % (5 : Int32))), (.int (F4 (((p1 &&& (2147483647 : Int32)).toUInt32 >>> ((p2 &&& (31 : Int32)) &&& 31).toUInt32).toInt32) (144 : Int32) (-1 : Int32) (221 : Int32) (220 : Int32) (15 : Int32)))])) _
      refine st36 _ ?_
      exact k)
    by_cases hc167_38 : (F4 (((p1 &&& (2147483647 : Int32)).toUInt32 >>> ((p2 &&& (31 : Int32)) &&& 31).toUInt32).toInt32) (144 : Int32) (-1 : Int32) (221 : Int32) (220 : Int32) (15 : Int32)) = (F5 ((p0 &&& (2147483647 : Int32)) % (5 : Int32)) (((p1 &&& (2147483647 : Int32)).toUInt32 >>> ((p2 &&& (31 : Int32)) &&& 31).toUInt32).toInt32))
    · have pre39 : ∀ t, Steps p.tables e below (T36.setTop (mkF m 175 #[.val (.int p0), .val (.int p1), .val (.int p2), .val (.int ((p0 &&& (2147483647 : Int32)) % (5 : Int32))), .val (.int (((p1 &&& (2147483647 : Int32)).toUInt32 >>> ((p2 &&& (31 : Int32)) &&& 31).toUInt32).toInt32)), .val (.ref b33)] [(.int (1 : Int32))])) t → Steps p.tables e below (s₁.setTop (entryFrame m #[(.int p0), (.int p1), (.int p2)] maxLocals)) t := fun t k => pre37 t (by
        show Steps p.tables e below (T36.setTop (mkF m 167 #[.val (.int p0), .val (.int p1), .val (.int p2), .val (.int ((p0 &&& (2147483647 : Int32)) % (5 : Int32))), .val (.int (((p1 &&& (2147483647 : Int32)).toUInt32 >>> ((p2 &&& (31 : Int32)) &&& 31).toUInt32).toInt32)), .val (.ref b33)] [(.int (F5 ((p0 &&& (2147483647 : Int32)) % (5 : Int32)) (((p1 &&& (2147483647 : Int32)).toUInt32 >>> ((p2 &&& (31 : Int32)) &&& 31).toUInt32).toInt32))), (.int (F4 (((p1 &&& (2147483647 : Int32)).toUInt32 >>> ((p2 &&& (31 : Int32)) &&& 31).toUInt32).toInt32) (144 : Int32) (-1 : Int32) (221 : Int32) (220 : Int32) (15 : Int32)))])) _
        refine XS.icmpNo X36.here hx rfl (hb hby at_167) rfl (teq hc167_38).2 ?_
        show Steps p.tables e below (T36.setTop (mkF m 170 #[.val (.int p0), .val (.int p1), .val (.int p2), .val (.int ((p0 &&& (2147483647 : Int32)) % (5 : Int32))), .val (.int (((p1 &&& (2147483647 : Int32)).toUInt32 >>> ((p2 &&& (31 : Int32)) &&& 31).toUInt32).toInt32)), .val (.ref b33)] [])) _
        refine XS.iconst X36.here hx rfl (hb hby at_170) ?_
        show Steps p.tables e below (T36.setTop (mkF m 171 #[.val (.int p0), .val (.int p1), .val (.int p2), .val (.int ((p0 &&& (2147483647 : Int32)) % (5 : Int32))), .val (.int (((p1 &&& (2147483647 : Int32)).toUInt32 >>> ((p2 &&& (31 : Int32)) &&& 31).toUInt32).toInt32)), .val (.ref b33)] [(.int (1 : Int32))])) _
        refine XS.goto X36.here hx rfl (pc0 := 171) (pc' := 175) rfl (hb hby at_171) (by decide) (by decide) ?_
        exact k)
      obtain ⟨fs, hr, hrun, hended, hW, hsame⟩ := X36.leave (v := some (.int (1 : Int32))) (fun h => by rw [Bd.returns] at h; cases h)
      have hF : (F0 p0 p1 p2) = (1 : Int32) := by unfold F0; rw [if_neg hc19_2, if_neg hc47_12, if_neg hc75_22, if_pos hc106_32, if_pos hc167_38]
      exact ⟨_, _, pre39 _ (retN X36 hx (t := .boolean) Bd.returns (by simp) (hb hby at_175) hr), hrun, hended, _, _, rfl, ⟨by rw [hF], N36⟩, ⟨_, rfl⟩, hW, hsame.mono (by decide) (by decide)⟩
    have pre40 : ∀ t, Steps p.tables e below (T36.setTop (mkF m 175 #[.val (.int p0), .val (.int p1), .val (.int p2), .val (.int ((p0 &&& (2147483647 : Int32)) % (5 : Int32))), .val (.int (((p1 &&& (2147483647 : Int32)).toUInt32 >>> ((p2 &&& (31 : Int32)) &&& 31).toUInt32).toInt32)), .val (.ref b33)] [(.int (0 : Int32))])) t → Steps p.tables e below (s₁.setTop (entryFrame m #[(.int p0), (.int p1), (.int p2)] maxLocals)) t := fun t k => pre37 t (by
      show Steps p.tables e below (T36.setTop (mkF m 167 #[.val (.int p0), .val (.int p1), .val (.int p2), .val (.int ((p0 &&& (2147483647 : Int32)) % (5 : Int32))), .val (.int (((p1 &&& (2147483647 : Int32)).toUInt32 >>> ((p2 &&& (31 : Int32)) &&& 31).toUInt32).toInt32)), .val (.ref b33)] [(.int (F5 ((p0 &&& (2147483647 : Int32)) % (5 : Int32)) (((p1 &&& (2147483647 : Int32)).toUInt32 >>> ((p2 &&& (31 : Int32)) &&& 31).toUInt32).toInt32))), (.int (F4 (((p1 &&& (2147483647 : Int32)).toUInt32 >>> ((p2 &&& (31 : Int32)) &&& 31).toUInt32).toInt32) (144 : Int32) (-1 : Int32) (221 : Int32) (220 : Int32) (15 : Int32)))])) _
      refine XS.icmpYes X36.here hx rfl (pc0 := 167) (pc' := 174) rfl (hb hby at_167) rfl (feq hc167_38).2 (by decide) (by decide) ?_
      show Steps p.tables e below (T36.setTop (mkF m 174 #[.val (.int p0), .val (.int p1), .val (.int p2), .val (.int ((p0 &&& (2147483647 : Int32)) % (5 : Int32))), .val (.int (((p1 &&& (2147483647 : Int32)).toUInt32 >>> ((p2 &&& (31 : Int32)) &&& 31).toUInt32).toInt32)), .val (.ref b33)] [])) _
      refine XS.iconst X36.here hx rfl (hb hby at_174) ?_
      exact k)
    obtain ⟨fs, hr, hrun, hended, hW, hsame⟩ := X36.leave (v := some (.int (0 : Int32))) (fun h => by rw [Bd.returns] at h; cases h)
    have hF : (F0 p0 p1 p2) = (0 : Int32) := by unfold F0; rw [if_neg hc19_2, if_neg hc47_12, if_neg hc75_22, if_pos hc106_32, if_neg hc167_38]
    exact ⟨_, _, pre40 _ (retN X36 hx (t := .boolean) Bd.returns (by simp) (hb hby at_175) hr), hrun, hended, _, _, rfl, ⟨by rw [hF], N36⟩, ⟨_, rfl⟩, hW, hsame.mono (by decide) (by decide)⟩
  obtain ⟨T41, h41, X41, e41, E41, A41, D41, -, st41⟩ := newO X0 hx hZ hown (hw _ (List.mem_of_getElem? (i := 1) rfl)) (hw _ (List.mem_of_getElem? (i := 2) rfl)) (hw _ (List.mem_of_getElem? (i := 3) rfl)) e0 (g := (mkF m 133 #[.val (.int p0), .val (.int p1), .val (.int p2), .val (.int ((p0 &&& (2147483647 : Int32)) % (5 : Int32))), .val (.int (((p1 &&& (2147483647 : Int32)).toUInt32 >>> ((p2 &&& (31 : Int32)) &&& 31).toUInt32).toInt32)), .unset] [])) rfl (hb hby at_133) (by decide) (by decide)
  obtain ⟨b41, g41⟩ : ∃ z, z = h0.size := ⟨_, rfl⟩
  rw [← g41] at A41 D41 st41
  have g_b41 : n0 ≤ b41 := Nat.le_trans Z0 (Nat.le_of_eq g41.symm)
  have Z41 : n0 ≤ h41.size := Nat.le_trans Z0 E41.1
  have F41_fix : Fld Z h41 b41 "com/example/furoshiki/furoshiki/Format$SizedFormats" "fix" "I" (.int (0 : Int32)) := D41 (Or.inr (hw _ (List.mem_of_getElem? (i := 16) rfl))) (ty := .int) (by decide)
  have F41_fixMax : Fld Z h41 b41 "com/example/furoshiki/furoshiki/Format$SizedFormats" "fixMax" "I" (.int (0 : Int32)) := D41 (Or.inr (hw _ (List.mem_of_getElem? (i := 18) rfl))) (ty := .int) (by decide)
  have F41_format8 : Fld Z h41 b41 "com/example/furoshiki/furoshiki/Format$SizedFormats" "format8" "I" (.int (0 : Int32)) := D41 (Or.inr (hw _ (List.mem_of_getElem? (i := 20) rfl))) (ty := .int) (by decide)
  have F41_format16 : Fld Z h41 b41 "com/example/furoshiki/furoshiki/Format$SizedFormats" "format16" "I" (.int (0 : Int32)) := D41 (Or.inr (hw _ (List.mem_of_getElem? (i := 22) rfl))) (ty := .int) (by decide)
  have F41_format32 : Fld Z h41 b41 "com/example/furoshiki/furoshiki/Format$SizedFormats" "format32" "I" (.int (0 : Int32)) := D41 (Or.inr (hw _ (List.mem_of_getElem? (i := 24) rfl))) (ty := .int) (by decide)
  obtain ⟨_, _, ⟨T42, L42, k42, n42⟩, -, X42, ⟨Lc42, hQ42, l42, y42, z42⟩, st42⟩ := X41.specialBack hx (y := (⟨"com/example/furoshiki/furoshiki/Format$SizedFormats", "<init>", "(IIIII)V"⟩ : MethodName)) rfl hown (mvT hZ (hw _ (List.mem_of_getElem? (i := 4) rfl))) (mvT hZ (hw _ (List.mem_of_getElem? (i := 5) rfl))) (mvT hZ (hw _ (List.mem_of_getElem? (i := 6) rfl))) (by decide) (backOf (W := 1) (rm1 l Z a0' hw [] b41 (128 : Int32) (15 : Int32) (-1 : Int32) (222 : Int32) (223 : Int32) (0 : Int32) (0 : Int32) (0 : Int32) (0 : Int32) (0 : Int32) h41 n0 Z41 A41 F41_fix F41_fixMax F41_format8 F41_format16 F41_format32 g_b41) hZ (hw _ (List.mem_of_getElem? (i := 6) rfl)) (hw _ (List.mem_of_getElem? (i := 3) rfl)) (by decide) (by decide)) (g := (mkF m 149 #[.val (.int p0), .val (.int p1), .val (.int p2), .val (.int ((p0 &&& (2147483647 : Int32)) % (5 : Int32))), .val (.int (((p1 &&& (2147483647 : Int32)).toUInt32 >>> ((p2 &&& (31 : Int32)) &&& 31).toUInt32).toInt32)), .unset] [(.int (223 : Int32)), (.int (222 : Int32)), (.int (-1 : Int32)), (.int (15 : Int32)), (.int (128 : Int32)), (.ref b41), (.ref b41)])) rfl (by rw [hml]; rfl) (Steps.refl _) (a := b41) (argsL := [(.int (128 : Int32)), (.int (15 : Int32)), (.int (-1 : Int32)), (.int (222 : Int32)), (.int (223 : Int32))]) (rest := [(.ref b41)]) (lenOf pd1 rfl) rfl (by show 2 * 0 + _ ≤ _; exact Nat.le_of_eq rfl) (hb hby at_149) (fun _ _ => ⟨rfl, e41, (by decide : 1 + 0 ≤ _), (by decide : 5 + 0 ≤ _)⟩)
  dsimp only [Pt.U, Pt.locs, Pt.cells, Pt.slots] at X42 l42 y42 z42 st42 hQ42
  subst l42 y42 z42
  obtain ⟨rfl, N42q, K42, u42_0, u42_1, u42_2, u42_3, u42_4, u42_5⟩ := hQ42
  have N42 := Fr.app N0 N42q
  have Z42 : n0 ≤ T42.heap.size := Nat.le_trans Z41 K42.1
  obtain ⟨cq43, kq43, q43a, q43b, q43c⟩ := isOf hZ rfl u42_0
  obtain ⟨_, _, ⟨T43, L43, k43, n43⟩, -, X43, ⟨Lc43, hQ43, l43, y43, z43⟩, st43⟩ := X42.virtualBack hx (y := (⟨"com/example/furoshiki/furoshiki/Format$SizedFormats", "formatFor", "(I)I"⟩ : MethodName)) (z := (⟨"com/example/furoshiki/furoshiki/Format$SizedFormats", "formatFor", "(I)I"⟩ : MethodName)) hown (mvT hZ (hw _ (List.mem_of_getElem? (i := 25) rfl))) (mvT hZ (hw _ (List.mem_of_getElem? (i := 26) rfl))) (notFace_of_selects (args := #[]) (mvT hZ (hw _ (List.mem_of_getElem? (i := 28) rfl)))) (mvT hZ (hw _ (List.mem_of_getElem? (i := 28) rfl))) (mvT hZ (hw _ (List.mem_of_getElem? (i := 27) rfl))) (by decide) (backOf (W := 0) (rm4 l Z a0' hw [] b41 (((p1 &&& (2147483647 : Int32)).toUInt32 >>> ((p2 &&& (31 : Int32)) &&& 31).toUInt32).toInt32) (128 : Int32) (-1 : Int32) (223 : Int32) (222 : Int32) (15 : Int32) T42.heap n0 Z42 u42_1 u42_3 u42_5 u42_4 u42_2) hZ (hw _ (List.mem_of_getElem? (i := 29) rfl)) (hw _ (List.mem_of_getElem? (i := 3) rfl)) (by decide) (by decide)) q43a q43c (g := (mkF m 158 #[.val (.int p0), .val (.int p1), .val (.int p2), .val (.int ((p0 &&& (2147483647 : Int32)) % (5 : Int32))), .val (.int (((p1 &&& (2147483647 : Int32)).toUInt32 >>> ((p2 &&& (31 : Int32)) &&& 31).toUInt32).toInt32)), .val (.ref b41)] [(.int (((p1 &&& (2147483647 : Int32)).toUInt32 >>> ((p2 &&& (31 : Int32)) &&& 31).toUInt32).toInt32)), (.ref b41)])) rfl (by rw [hml]; rfl) (Steps.refl _) (argsL := [(.int (((p1 &&& (2147483647 : Int32)).toUInt32 >>> ((p2 &&& (31 : Int32)) &&& 31).toUInt32).toInt32))]) (rest := []) (lenOf pd2 rfl) rfl (by show 2 * 0 + _ ≤ _; exact Nat.le_of_eq rfl) (hb hby at_158) (fun _ _ => ⟨rfl, rfl, (by decide : 1 + 0 ≤ _), (by decide : 5 + 0 ≤ _)⟩)
  dsimp only [Pt.U, Pt.locs, Pt.cells, Pt.slots] at X43 l43 y43 z43 st43 hQ43
  subst l43 y43 z43
  obtain ⟨rfl, N43q, e43⟩ := hQ43
  have N43 := Fr.app N42 N43q
  obtain ⟨_, _, ⟨T44, L44, k44, n44⟩, -, X44, ⟨Lc44, hQ44, l44, y44, z44⟩, st44⟩ := Jvm.LawKit.callS X43 hx (y := (⟨"com/example/furoshiki/furoshiki/SizedFormatsFormatForPinLaw", "expected", "(II)I"⟩ : MethodName)) hown (mvT hZ (hw _ (List.mem_of_getElem? (i := 30) rfl))) (mvT hZ (hw _ (List.mem_of_getElem? (i := 31) rfl))) (mvT hZ (hw _ (List.mem_of_getElem? (i := 32) rfl))) (mvT hZ (hw _ (List.mem_of_getElem? (i := 33) rfl))) (by decide) (backOf (W := 1) (rm5 l Z a0' hw [] ((p0 &&& (2147483647 : Int32)) % (5 : Int32)) (((p1 &&& (2147483647 : Int32)).toUInt32 >>> ((p2 &&& (31 : Int32)) &&& 31).toUInt32).toInt32) T42.heap n0 Z42) hZ (hw _ (List.mem_of_getElem? (i := 33) rfl)) (hw _ (List.mem_of_getElem? (i := 32) rfl)) (by decide) (by decide)) (g := (mkF m 164 #[.val (.int p0), .val (.int p1), .val (.int p2), .val (.int ((p0 &&& (2147483647 : Int32)) % (5 : Int32))), .val (.int (((p1 &&& (2147483647 : Int32)).toUInt32 >>> ((p2 &&& (31 : Int32)) &&& 31).toUInt32).toInt32)), .val (.ref b41)] [(.int (((p1 &&& (2147483647 : Int32)).toUInt32 >>> ((p2 &&& (31 : Int32)) &&& 31).toUInt32).toInt32)), (.int ((p0 &&& (2147483647 : Int32)) % (5 : Int32))), (.int (F4 (((p1 &&& (2147483647 : Int32)).toUInt32 >>> ((p2 &&& (31 : Int32)) &&& 31).toUInt32).toInt32) (128 : Int32) (-1 : Int32) (223 : Int32) (222 : Int32) (15 : Int32)))])) rfl (by rw [hml]; rfl) (argsL := [(.int ((p0 &&& (2147483647 : Int32)) % (5 : Int32))), (.int (((p1 &&& (2147483647 : Int32)).toUInt32 >>> ((p2 &&& (31 : Int32)) &&& 31).toUInt32).toInt32))]) (rest := [(.int (F4 (((p1 &&& (2147483647 : Int32)).toUInt32 >>> ((p2 &&& (31 : Int32)) &&& 31).toUInt32).toInt32) (128 : Int32) (-1 : Int32) (223 : Int32) (222 : Int32) (15 : Int32)))]) (lenOf pd3 rfl) rfl (by show 2 * 0 + _ ≤ _; exact Nat.le_of_eq rfl) (hb hby at_164) (fun _ _ => ⟨rfl, e43, (by decide : 1 + 0 ≤ _), (by decide : 5 + 0 ≤ _)⟩)
  dsimp only [Pt.U, Pt.locs, Pt.cells, Pt.slots] at X44 l44 y44 z44 st44 hQ44
  subst l44 y44 z44
  obtain ⟨rfl, N44q, e44⟩ := hQ44
  have N44 := Fr.app N43 N44q
  have pre45 : ∀ t, Steps p.tables e below (T44.setTop (mkF m 167 #[.val (.int p0), .val (.int p1), .val (.int p2), .val (.int ((p0 &&& (2147483647 : Int32)) % (5 : Int32))), .val (.int (((p1 &&& (2147483647 : Int32)).toUInt32 >>> ((p2 &&& (31 : Int32)) &&& 31).toUInt32).toInt32)), .val (.ref b41)] [(.int (F5 ((p0 &&& (2147483647 : Int32)) % (5 : Int32)) (((p1 &&& (2147483647 : Int32)).toUInt32 >>> ((p2 &&& (31 : Int32)) &&& 31).toUInt32).toInt32))), (.int (F4 (((p1 &&& (2147483647 : Int32)).toUInt32 >>> ((p2 &&& (31 : Int32)) &&& 31).toUInt32).toInt32) (128 : Int32) (-1 : Int32) (223 : Int32) (222 : Int32) (15 : Int32)))])) t → Steps p.tables e below (s₁.setTop (entryFrame m #[(.int p0), (.int p1), (.int p2)] maxLocals)) t := fun t k => pre31 t (by
    show Steps p.tables e below (s₁.setTop (mkF m 106 #[.val (.int p0), .val (.int p1), .val (.int p2), .val (.int ((p0 &&& (2147483647 : Int32)) % (5 : Int32))), .val (.int (((p1 &&& (2147483647 : Int32)).toUInt32 >>> ((p2 &&& (31 : Int32)) &&& 31).toUInt32).toInt32)), .unset] [(.int (3 : Int32)), (.int ((p0 &&& (2147483647 : Int32)) % (5 : Int32)))])) _
    refine XS.icmpYes X0.here hx rfl (pc0 := 106) (pc' := 133) rfl (hb hby at_106) rfl (feq hc106_32).2 (by decide) (by decide) ?_
    show Steps p.tables e below (s₁.setTop (mkF m 133 #[.val (.int p0), .val (.int p1), .val (.int p2), .val (.int ((p0 &&& (2147483647 : Int32)) % (5 : Int32))), .val (.int (((p1 &&& (2147483647 : Int32)).toUInt32 >>> ((p2 &&& (31 : Int32)) &&& 31).toUInt32).toInt32)), .unset] [])) _
    refine st41 _ ?_
    show Steps p.tables e below (T41.setTop (mkF m 136 #[.val (.int p0), .val (.int p1), .val (.int p2), .val (.int ((p0 &&& (2147483647 : Int32)) % (5 : Int32))), .val (.int (((p1 &&& (2147483647 : Int32)).toUInt32 >>> ((p2 &&& (31 : Int32)) &&& 31).toUInt32).toInt32)), .unset] [(.ref b41)])) _
    refine XS.dup X41.here hx rfl (hb hby at_136) rfl rfl ?_
    show Steps p.tables e below (T41.setTop (mkF m 137 #[.val (.int p0), .val (.int p1), .val (.int p2), .val (.int ((p0 &&& (2147483647 : Int32)) % (5 : Int32))), .val (.int (((p1 &&& (2147483647 : Int32)).toUInt32 >>> ((p2 &&& (31 : Int32)) &&& 31).toUInt32).toInt32)), .unset] [(.ref b41), (.ref b41)])) _
    refine XS.sipush X41.here hx rfl (hb hby at_137) ?_
    show Steps p.tables e below (T41.setTop (mkF m 140 #[.val (.int p0), .val (.int p1), .val (.int p2), .val (.int ((p0 &&& (2147483647 : Int32)) % (5 : Int32))), .val (.int (((p1 &&& (2147483647 : Int32)).toUInt32 >>> ((p2 &&& (31 : Int32)) &&& 31).toUInt32).toInt32)), .unset] [(.int (128 : Int32)), (.ref b41), (.ref b41)])) _
    refine XS.bipush X41.here hx rfl (hb hby at_140) ?_
    show Steps p.tables e below (T41.setTop (mkF m 142 #[.val (.int p0), .val (.int p1), .val (.int p2), .val (.int ((p0 &&& (2147483647 : Int32)) % (5 : Int32))), .val (.int (((p1 &&& (2147483647 : Int32)).toUInt32 >>> ((p2 &&& (31 : Int32)) &&& 31).toUInt32).toInt32)), .unset] [(.int (15 : Int32)), (.int (128 : Int32)), (.ref b41), (.ref b41)])) _
    refine XS.iconst X41.here hx rfl (hb hby at_142) ?_
    show Steps p.tables e below (T41.setTop (mkF m 143 #[.val (.int p0), .val (.int p1), .val (.int p2), .val (.int ((p0 &&& (2147483647 : Int32)) % (5 : Int32))), .val (.int (((p1 &&& (2147483647 : Int32)).toUInt32 >>> ((p2 &&& (31 : Int32)) &&& 31).toUInt32).toInt32)), .unset] [(.int (-1 : Int32)), (.int (15 : Int32)), (.int (128 : Int32)), (.ref b41), (.ref b41)])) _
    refine XS.sipush X41.here hx rfl (hb hby at_143) ?_
    show Steps p.tables e below (T41.setTop (mkF m 146 #[.val (.int p0), .val (.int p1), .val (.int p2), .val (.int ((p0 &&& (2147483647 : Int32)) % (5 : Int32))), .val (.int (((p1 &&& (2147483647 : Int32)).toUInt32 >>> ((p2 &&& (31 : Int32)) &&& 31).toUInt32).toInt32)), .unset] [(.int (222 : Int32)), (.int (-1 : Int32)), (.int (15 : Int32)), (.int (128 : Int32)), (.ref b41), (.ref b41)])) _
    refine XS.sipush X41.here hx rfl (hb hby at_146) ?_
    show Steps p.tables e below (T41.setTop (mkF m 149 #[.val (.int p0), .val (.int p1), .val (.int p2), .val (.int ((p0 &&& (2147483647 : Int32)) % (5 : Int32))), .val (.int (((p1 &&& (2147483647 : Int32)).toUInt32 >>> ((p2 &&& (31 : Int32)) &&& 31).toUInt32).toInt32)), .unset] [(.int (223 : Int32)), (.int (222 : Int32)), (.int (-1 : Int32)), (.int (15 : Int32)), (.int (128 : Int32)), (.ref b41), (.ref b41)])) _
    refine st42.trans ?_
    show Steps p.tables e below (T42.setTop (mkF m 152 #[.val (.int p0), .val (.int p1), .val (.int p2), .val (.int ((p0 &&& (2147483647 : Int32)) % (5 : Int32))), .val (.int (((p1 &&& (2147483647 : Int32)).toUInt32 >>> ((p2 &&& (31 : Int32)) &&& 31).toUInt32).toInt32)), .unset] [(.ref b41)])) _
    refine XS.astore X42.here hx rfl (hb hby at_152) rfl rfl (l' := #[.val (.int p0), .val (.int p1), .val (.int p2), .val (.int ((p0 &&& (2147483647 : Int32)) % (5 : Int32))), .val (.int (((p1 &&& (2147483647 : Int32)).toUInt32 >>> ((p2 &&& (31 : Int32)) &&& 31).toUInt32).toInt32)), .val (.ref b41)]) rfl ?_
    show Steps p.tables e below (T42.setTop (mkF m 154 #[.val (.int p0), .val (.int p1), .val (.int p2), .val (.int ((p0 &&& (2147483647 : Int32)) % (5 : Int32))), .val (.int (((p1 &&& (2147483647 : Int32)).toUInt32 >>> ((p2 &&& (31 : Int32)) &&& 31).toUInt32).toInt32)), .val (.ref b41)] [])) _
    refine XS.aload X42.here hx rfl (hb hby at_154) rfl rfl ?_
    show Steps p.tables e below (T42.setTop (mkF m 156 #[.val (.int p0), .val (.int p1), .val (.int p2), .val (.int ((p0 &&& (2147483647 : Int32)) % (5 : Int32))), .val (.int (((p1 &&& (2147483647 : Int32)).toUInt32 >>> ((p2 &&& (31 : Int32)) &&& 31).toUInt32).toInt32)), .val (.ref b41)] [(.ref b41)])) _
    refine XS.iload X42.here hx rfl (hb hby at_156) rfl ?_
    show Steps p.tables e below (T42.setTop (mkF m 158 #[.val (.int p0), .val (.int p1), .val (.int p2), .val (.int ((p0 &&& (2147483647 : Int32)) % (5 : Int32))), .val (.int (((p1 &&& (2147483647 : Int32)).toUInt32 >>> ((p2 &&& (31 : Int32)) &&& 31).toUInt32).toInt32)), .val (.ref b41)] [(.int (((p1 &&& (2147483647 : Int32)).toUInt32 >>> ((p2 &&& (31 : Int32)) &&& 31).toUInt32).toInt32)), (.ref b41)])) _
    refine st43.trans ?_
    show Steps p.tables e below (T43.setTop (mkF m 161 #[.val (.int p0), .val (.int p1), .val (.int p2), .val (.int ((p0 &&& (2147483647 : Int32)) % (5 : Int32))), .val (.int (((p1 &&& (2147483647 : Int32)).toUInt32 >>> ((p2 &&& (31 : Int32)) &&& 31).toUInt32).toInt32)), .val (.ref b41)] [(.int (F4 (((p1 &&& (2147483647 : Int32)).toUInt32 >>> ((p2 &&& (31 : Int32)) &&& 31).toUInt32).toInt32) (128 : Int32) (-1 : Int32) (223 : Int32) (222 : Int32) (15 : Int32)))])) _
    refine XS.iloadN X43.here hx rfl (hb hby at_161) rfl ?_
    show Steps p.tables e below (T43.setTop (mkF m 162 #[.val (.int p0), .val (.int p1), .val (.int p2), .val (.int ((p0 &&& (2147483647 : Int32)) % (5 : Int32))), .val (.int (((p1 &&& (2147483647 : Int32)).toUInt32 >>> ((p2 &&& (31 : Int32)) &&& 31).toUInt32).toInt32)), .val (.ref b41)] [(.int ((p0 &&& (2147483647 : Int32)) % (5 : Int32))), (.int (F4 (((p1 &&& (2147483647 : Int32)).toUInt32 >>> ((p2 &&& (31 : Int32)) &&& 31).toUInt32).toInt32) (128 : Int32) (-1 : Int32) (223 : Int32) (222 : Int32) (15 : Int32)))])) _
    refine XS.iload X43.here hx rfl (hb hby at_162) rfl ?_
    show Steps p.tables e below (T43.setTop (mkF m 164 #[.val (.int p0), .val (.int p1), .val (.int p2), .val (.int ((p0 &&& (2147483647 : Int32)) % (5 : Int32))), .val (.int (((p1 &&& (2147483647 : Int32)).toUInt32 >>> ((p2 &&& (31 : Int32)) &&& 31).toUInt32).toInt32)), .val (.ref b41)] [(.int (((p1 &&& (2147483647 : Int32)).toUInt32 >>> ((p2 &&& (31 : Int32)) &&& 31).toUInt32).toInt32)), (.int ((p0 &&& (2147483647 : Int32)) % (5 : Int32))), (.int (F4 (((p1 &&& (2147483647 : Int32)).toUInt32 >>> ((p2 &&& (31 : Int32)) &&& 31).toUInt32).toInt32) (128 : Int32) (-1 : Int32) (223 : Int32) (222 : Int32) (15 : Int32)))])) _
    refine st44 _ ?_
    exact k)
  by_cases hc167_46 : (F4 (((p1 &&& (2147483647 : Int32)).toUInt32 >>> ((p2 &&& (31 : Int32)) &&& 31).toUInt32).toInt32) (128 : Int32) (-1 : Int32) (223 : Int32) (222 : Int32) (15 : Int32)) = (F5 ((p0 &&& (2147483647 : Int32)) % (5 : Int32)) (((p1 &&& (2147483647 : Int32)).toUInt32 >>> ((p2 &&& (31 : Int32)) &&& 31).toUInt32).toInt32))
  · have pre47 : ∀ t, Steps p.tables e below (T44.setTop (mkF m 175 #[.val (.int p0), .val (.int p1), .val (.int p2), .val (.int ((p0 &&& (2147483647 : Int32)) % (5 : Int32))), .val (.int (((p1 &&& (2147483647 : Int32)).toUInt32 >>> ((p2 &&& (31 : Int32)) &&& 31).toUInt32).toInt32)), .val (.ref b41)] [(.int (1 : Int32))])) t → Steps p.tables e below (s₁.setTop (entryFrame m #[(.int p0), (.int p1), (.int p2)] maxLocals)) t := fun t k => pre45 t (by
      show Steps p.tables e below (T44.setTop (mkF m 167 #[.val (.int p0), .val (.int p1), .val (.int p2), .val (.int ((p0 &&& (2147483647 : Int32)) % (5 : Int32))), .val (.int (((p1 &&& (2147483647 : Int32)).toUInt32 >>> ((p2 &&& (31 : Int32)) &&& 31).toUInt32).toInt32)), .val (.ref b41)] [(.int (F5 ((p0 &&& (2147483647 : Int32)) % (5 : Int32)) (((p1 &&& (2147483647 : Int32)).toUInt32 >>> ((p2 &&& (31 : Int32)) &&& 31).toUInt32).toInt32))), (.int (F4 (((p1 &&& (2147483647 : Int32)).toUInt32 >>> ((p2 &&& (31 : Int32)) &&& 31).toUInt32).toInt32) (128 : Int32) (-1 : Int32) (223 : Int32) (222 : Int32) (15 : Int32)))])) _
      refine XS.icmpNo X44.here hx rfl (hb hby at_167) rfl (teq hc167_46).2 ?_
      show Steps p.tables e below (T44.setTop (mkF m 170 #[.val (.int p0), .val (.int p1), .val (.int p2), .val (.int ((p0 &&& (2147483647 : Int32)) % (5 : Int32))), .val (.int (((p1 &&& (2147483647 : Int32)).toUInt32 >>> ((p2 &&& (31 : Int32)) &&& 31).toUInt32).toInt32)), .val (.ref b41)] [])) _
      refine XS.iconst X44.here hx rfl (hb hby at_170) ?_
      show Steps p.tables e below (T44.setTop (mkF m 171 #[.val (.int p0), .val (.int p1), .val (.int p2), .val (.int ((p0 &&& (2147483647 : Int32)) % (5 : Int32))), .val (.int (((p1 &&& (2147483647 : Int32)).toUInt32 >>> ((p2 &&& (31 : Int32)) &&& 31).toUInt32).toInt32)), .val (.ref b41)] [(.int (1 : Int32))])) _
      refine XS.goto X44.here hx rfl (pc0 := 171) (pc' := 175) rfl (hb hby at_171) (by decide) (by decide) ?_
      exact k)
    obtain ⟨fs, hr, hrun, hended, hW, hsame⟩ := X44.leave (v := some (.int (1 : Int32))) (fun h => by rw [Bd.returns] at h; cases h)
    have hF : (F0 p0 p1 p2) = (1 : Int32) := by unfold F0; rw [if_neg hc19_2, if_neg hc47_12, if_neg hc75_22, if_neg hc106_32, if_pos hc167_46]
    exact ⟨_, _, pre47 _ (retN X44 hx (t := .boolean) Bd.returns (by simp) (hb hby at_175) hr), hrun, hended, _, _, rfl, ⟨by rw [hF], N44⟩, ⟨_, rfl⟩, hW, hsame.mono (by decide) (by decide)⟩
  have pre48 : ∀ t, Steps p.tables e below (T44.setTop (mkF m 175 #[.val (.int p0), .val (.int p1), .val (.int p2), .val (.int ((p0 &&& (2147483647 : Int32)) % (5 : Int32))), .val (.int (((p1 &&& (2147483647 : Int32)).toUInt32 >>> ((p2 &&& (31 : Int32)) &&& 31).toUInt32).toInt32)), .val (.ref b41)] [(.int (0 : Int32))])) t → Steps p.tables e below (s₁.setTop (entryFrame m #[(.int p0), (.int p1), (.int p2)] maxLocals)) t := fun t k => pre45 t (by
    show Steps p.tables e below (T44.setTop (mkF m 167 #[.val (.int p0), .val (.int p1), .val (.int p2), .val (.int ((p0 &&& (2147483647 : Int32)) % (5 : Int32))), .val (.int (((p1 &&& (2147483647 : Int32)).toUInt32 >>> ((p2 &&& (31 : Int32)) &&& 31).toUInt32).toInt32)), .val (.ref b41)] [(.int (F5 ((p0 &&& (2147483647 : Int32)) % (5 : Int32)) (((p1 &&& (2147483647 : Int32)).toUInt32 >>> ((p2 &&& (31 : Int32)) &&& 31).toUInt32).toInt32))), (.int (F4 (((p1 &&& (2147483647 : Int32)).toUInt32 >>> ((p2 &&& (31 : Int32)) &&& 31).toUInt32).toInt32) (128 : Int32) (-1 : Int32) (223 : Int32) (222 : Int32) (15 : Int32)))])) _
    refine XS.icmpYes X44.here hx rfl (pc0 := 167) (pc' := 174) rfl (hb hby at_167) rfl (feq hc167_46).2 (by decide) (by decide) ?_
    show Steps p.tables e below (T44.setTop (mkF m 174 #[.val (.int p0), .val (.int p1), .val (.int p2), .val (.int ((p0 &&& (2147483647 : Int32)) % (5 : Int32))), .val (.int (((p1 &&& (2147483647 : Int32)).toUInt32 >>> ((p2 &&& (31 : Int32)) &&& 31).toUInt32).toInt32)), .val (.ref b41)] [])) _
    refine XS.iconst X44.here hx rfl (hb hby at_174) ?_
    exact k)
  obtain ⟨fs, hr, hrun, hended, hW, hsame⟩ := X44.leave (v := some (.int (0 : Int32))) (fun h => by rw [Bd.returns] at h; cases h)
  have hF : (F0 p0 p1 p2) = (0 : Int32) := by unfold F0; rw [if_neg hc19_2, if_neg hc47_12, if_neg hc75_22, if_neg hc106_32, if_neg hc167_46]
  exact ⟨_, _, pre48 _ (retN X44 hx (t := .boolean) Bd.returns (by simp) (hb hby at_175) hr), hrun, hended, _, _, rfl, ⟨by rw [hF], N44⟩, ⟨_, rfl⟩, hW, hsame.mono (by decide) (by decide)⟩
theorem own_lit (x : Int32) (n : Nat) (h0 : 0 ≤ x.toInt) (h : x.toInt < n) (hn : n ≤ 2147483647) : ∃ k : Fin n, x = Int32.ofNat k.1 := by
  obtain ⟨k, hk⟩ : ∃ k : Nat, x.toInt = k := ⟨x.toInt.toNat, by omega⟩
  refine ⟨⟨k, by omega⟩, ?_⟩
  apply Int32.toInt_inj.mp
  rw [Int32.toInt_ofNat_of_lt (show k < 2 ^ 31 by omega), hk]
theorem own_shr (x : Int32) (s : UInt32) (h : 0 ≤ x.toInt) : 0 ≤ ((x.toUInt32 >>> s).toInt32).toInt := by
  have e : (x.toUInt32 >>> s).toNat = x.toUInt32.toNat >>> (s.toNat % 32) := UInt32.toNat_shiftRight _ _
  have l : x.toUInt32.toNat >>> (s.toNat % 32) ≤ x.toUInt32.toNat := by rw [Nat.shiftRight_eq_div_pow]; exact Nat.div_le_self _ _
  have b : x.toUInt32.toNat < 2147483648 := by
    have q : x.toInt = x.toBitVec.toInt := rfl
    rw [q, BitVec.toInt_eq_toNat_cond] at h
    have w : x.toUInt32.toNat = x.toBitVec.toNat := rfl
    rw [w]
    split at h <;> omega
  have t : ((x.toUInt32 >>> s).toInt32).toInt = (x.toUInt32 >>> s).toBitVec.toInt := rfl
  rw [t, BitVec.toInt_eq_toNat_cond]
  have w : (x.toUInt32 >>> s).toBitVec.toNat = (x.toUInt32 >>> s).toNat := rfl
  rw [w]
  split <;> omega
theorem own_or32 : ∀ k : Fin 32, ((160 : Int32) ||| Int32.ofNat k.1) = (160 : Int32) + Int32.ofNat k.1 := by decide
theorem own_or16 : ∀ k : Fin 16, ((144 : Int32) ||| Int32.ofNat k.1) = (144 : Int32) + Int32.ofNat k.1 ∧ ((128 : Int32) ||| Int32.ofNat k.1) = (128 : Int32) + Int32.ofNat k.1 := by decide
theorem own_gt (a b : Int32) (x : Int32) (h : a.toInt + 1 = b.toInt) : a < x ↔ ¬ x < b := by
  rw [Int32.lt_iff_toInt_lt, Int32.lt_iff_toInt_lt]; omega
theorem own_0 (x : Int32) : F4 x (-1) 196 198 197 (-1) = F5 0 x := by
  unfold F4 f4_m47 F5 f5_m20 f5_m5 f5_m10
  simp only [own_gt 255 256 x (by decide), own_gt 65535 65536 x (by decide)]
  by_cases h1 : x < 256 <;> by_cases h2 : x < 65536 <;> simp [h1, h2]
theorem own_1 (x : Int32) : F4 x (-1) 199 201 200 (-1) = F5 1 x := by
  unfold F4 f4_m47 F5 f5_m30 f5_m5 f5_m10
  simp only [own_gt 255 256 x (by decide), own_gt 65535 65536 x (by decide)]
  by_cases h1 : x < 256 <;> by_cases h2 : x < 65536 <;> simp [h1, h2]
theorem own_2 (x : Int32) (h : 0 ≤ x.toInt) : F4 x 160 217 219 218 31 = F5 2 x := by
  unfold F4 f4_m47 F5 f5_m43 f5_m5 f5_m10
  simp only [own_gt 255 256 x (by decide), own_gt 65535 65536 x (by decide), own_gt 31 32 x (by decide)]
  by_cases h0 : x < 32
  · obtain ⟨k, rfl⟩ := own_lit x 32 h (by rw [Int32.lt_iff_toInt_lt] at h0; exact h0) (by omega)
    have := own_or32 k
    simp [h0, this]
  · by_cases h1 : x < 256 <;> by_cases h2 : x < 65536 <;> simp [h0, h1, h2]
theorem own_3 (x : Int32) (h : 0 ≤ x.toInt) : F4 x 144 (-1) 221 220 15 = F5 3 x := by
  unfold F4 f4_m47 F5 f5_m53 f5_m10
  simp only [own_gt 65535 65536 x (by decide), own_gt 15 16 x (by decide)]
  by_cases h0 : x < 16
  · obtain ⟨k, rfl⟩ := own_lit x 16 h (by rw [Int32.lt_iff_toInt_lt] at h0; exact h0) (by omega)
    have := (own_or16 k).1
    simp [h0, this]
  · by_cases h2 : x < 65536 <;> simp [h0, h2]
theorem own_4 (x : Int32) (h : 0 ≤ x.toInt) : F4 x 128 (-1) 223 222 15 = F5 4 x := by
  unfold F4 f4_m47 F5 f5_m61 f5_m10
  simp only [own_gt 65535 65536 x (by decide), own_gt 15 16 x (by decide)]
  by_cases h0 : x < 16
  · obtain ⟨k, rfl⟩ := own_lit x 16 h (by rw [Int32.lt_iff_toInt_lt] at h0; exact h0) (by omega)
    have := (own_or16 k).2
    simp [h0, this]
  · by_cases h2 : x < 65536 <;> simp [h0, h2]
theorem own_law (p0 p1 p2 : Int32) : F0 p0 p1 p2 = 1 := by
  have em0 : (p0 &&& (2147483647 : Int32)).toInt = p0.toInt % (2 ^ 31 : Nat) := c_mask p0 2147483647 31 (by decide) (by decide)
  have em1 : (p1 &&& (2147483647 : Int32)).toInt = p1.toInt % (2 ^ 31 : Nat) := c_mask p1 2147483647 31 (by decide) (by decide)
  have er := (c_irem (p0 &&& (2147483647 : Int32)) 5 5 (by decide)).1 (by omega)
  have hs := own_shr (p1 &&& (2147483647 : Int32)) ((p2 &&& (31 : Int32)) &&& 31).toUInt32 (by omega)
  unfold F0
  generalize (((p1 &&& (2147483647 : Int32)).toUInt32 >>> ((p2 &&& (31 : Int32)) &&& 31).toUInt32).toInt32) = x at *
  generalize (p0 &&& (2147483647 : Int32)) % 5 = r at *
  have q : r.toInt = 0 ∨ r.toInt = 1 ∨ r.toInt = 2 ∨ r.toInt = 3 ∨ r.toInt = 4 := by omega
  rcases q with q | q | q | q | q
  · rw [show r = 0 from Int32.toInt_inj.mp q, if_pos rfl, if_pos (own_0 x)]
  · rw [show r = 1 from Int32.toInt_inj.mp q, if_neg (by decide), if_pos rfl, if_pos (own_1 x)]
  · rw [show r = 2 from Int32.toInt_inj.mp q, if_neg (by decide), if_neg (by decide), if_pos rfl, if_pos (own_2 x hs)]
  · rw [show r = 3 from Int32.toInt_inj.mp q, if_neg (by decide), if_neg (by decide), if_neg (by decide), if_pos rfl, if_pos (own_3 x hs)]
  · rw [show r = 4 from Int32.toInt_inj.mp q, if_neg (by decide), if_neg (by decide), if_neg (by decide), if_neg (by decide), if_pos (own_4 x hs)]
set_option maxRecDepth 65536 in
set_option maxHeartbeats 40000000 in
theorem comes_1 {Post : Tables → Env → Array Value → State → Outcome → State → Prop} (hpost : ∀ tb e args s v u, (limb_1_1.after args s (.returned v) u = true ∧ limb_1_2.after args s (.returned v) u = true ∧ True) → FrameEnd s (.returned v) u (Jvm.fieldLocs frame_1_writes args s ++ Jvm.arrayLocs frame_1_arrays args s ++ Jvm.staticLocs frame_1_statics s) 16 128 → Post tb e args s (.returned v) u) :
    ArmFor flags0 classFile x code maxLocals ret World_1 tables_1 room_1 Calls_1 rest_1 Pre_1 Post := by
  intro l hfl _ _ p e ha hc hk s m args below hf hA hF happ hP
  obtain ⟨hcalls, hrest, hpre⟩ := hP
  obtain ⟨-, -, -, hnamed, -, -, -, hat⟩ := (Spec.applies_iff hf).mp happ
  obtain ⟨hg, hn⟩ := and_e (Cond.before_iff.mp (show (Jvm.Cond.and given_1 narrow_1).before args s = true from hpre))
  obtain ⟨hcount, g0⟩ := and_e hg
  obtain ⟨ga0, g1⟩ := and_e g0
  obtain ⟨ga1, g2⟩ := and_e g1
  obtain ⟨w0, w1, w2, rfl⟩ : ∃ w0 w1 w2 : Value, args = #[w0, w1, w2] := by
    have hs : args.size = 3 := by simpa [Cond.value, given_1] using hcount
    obtain ⟨L⟩ := args
    match L, hs with
    | [w0, w1, w2], _ => exact ⟨w0, w1, w2, rfl⟩
  have hw := fun d (hd : d ∈ tables_1) => atoms_spec (ws := Jvm.Cond.code x code maxLocals ret :: tables_1) hat d (List.mem_cons_of_mem _ hd)
  obtain ⟨i0, ei0⟩ := is_v ga0
  obtain rfl : w0 = (.int i0) := Option.some.inj ei0
  obtain ⟨i1, ei1⟩ := is_v ga1
  obtain rfl : w1 = (.int i1) := Option.some.inj ei1
  obtain ⟨i2, ei2⟩ := is_v g2
  obtain rfl : w2 = (.int i2) := Option.some.inj ei2
  obtain ⟨n, o, h1, h2, h3, _, L, rfl, ⟨rfl, N⟩, hq⟩ := rm0 l s _ hw tables_1 i0 i1 i2 s.heap s.heap.size (Nat.le_refl _) p e ha hc hk s m _ below hf ((Spec.applies_iff_loose hf).mp happ).1 ⟨rfl, State.Warmed39.refl s, rfl⟩ trivial
  have hlaw := own_law i0 i1 i2
  refine ⟨n, _, h1, h2, h3, hpost _ _ _ _ _ _ ⟨Cond.after_iff.mpr rfl, Cond.after_iff.mpr (eq_i res_at (Term.int_eval (1)) (congrArg Value.int hlaw)), trivial⟩ ⟨hq.1, hq.2.1, (hq.2.2.sift fun y hy => Or.inr (N y hy)).mono (by decide) (by decide)⟩⟩
theorem main_1_1 : Claimed_1_1 := comes_1 fun _ _ _ _ _ _ h hF => ⟨h.1, hF⟩
theorem main_1_2 : Claimed_1_2 := comes_1 fun _ _ _ _ _ _ h hF => ⟨h.2.1, hF⟩
end Jvm.Pilot.@@N@@
namespace Jvm.Pilot.@@N@@
open Jvm Jvm.ClassFile Sem Op Lib Jvm.Free Jvm.Stand Jvm.Pilot.@@N@@.Jvm.D
/-! MADE BY PROGRAM (witnessworld.py) out of the Statement's table words and the real class files: 10 classes; the members and pool entries that the words name. The judged class is class 1, her method 2. -/
namespace start1
open Jvm.ClassFile
def u (s : String) : CpInfo := .utf8 (stringToUtf16 s)
/-- a pool by its gaps: so many unusable entries, then the entry; so many at the end -/
def gap : Nat → List CpInfo → List CpInfo
  | 0, r => r
  | n + 1, r => .unusable :: gap n r
def poolList (es : List (Nat × CpInfo)) (last : Nat) : List CpInfo := es.foldr (fun e r => gap e.1 (e.2 :: r)) (gap last [])
def pool (es : List (Nat × CpInfo)) (last : Nat) : Array CpInfo := ⟨poolList es last⟩
def fileOf (pool : Array CpInfo) (this : Nat) (attrs : Array Attribute := #[]) (ms : Array MethodInfo := #[]) (fl : Nat := 33) (sup : Nat := 0) (ifs : Array Nat := #[]) (fds : Array FieldInfo := #[]) : ClassFile where
  minorVersion := 0
  majorVersion := 65
  constantPool := pool
  accessFlags := fl
  thisClass := this
  superClass := sup
  interfaces := ifs
  fields := fds
  methods := ms
  attributes := attrs
def plain (name : String) (sup : Option ClassId) : Class where
  name := name
  kind := .ordinary
  loader := none
  accessFlags := 33
  super := sup
  interfaces := #[]
  cf := none
  fields := #[]
  methods := #[]
  instanceTypes := #[]
  staticTypes := #[]
  resolved := #[]
  callSites := []
  init := .initialized
  statics := none
  mirror := none

def pool0 : Array CpInfo := pool [(5, u "<init>"), (0, u "()V"), (1, .class_ 10), (1, u "java/lang/Object")] 113

def k0c0 : Code := { maxStack := 0, maxLocals := 1, code := object_method_1_code, exceptionTable := #[], attributes := #[] }
def k0m0 : Method := { name := "<init>", desc := "()V", sig := { parameters := [], returnType := none }, accessFlags := 1, code := some k0c0 }
/-- java/lang/Object -/
def k0 : Class := { plain "java/lang/Object" none with
  accessFlags := 33
  interfaces := #[]
  cf := some (fileOf pool0 8 #[] #[{ accessFlags := 1, nameIndex := 5, descriptorIndex := 6, attributes := #[] }] 33 0 #[] #[])
  fields := #[]
  methods := #[k0m0]
  instanceTypes := #[]
  staticTypes := #[]
  resolved := Array.replicate 124 none
  statics := none }

def pool1 : Array CpInfo := pool [(2, .class_ 4), (1, u "java/lang/Object"), (0, u "<init>"), (0, u "()V"), (0, .integer 65536), (0, .integer 2147483647), (0, .class_ 10), (0, u "com/example/furoshiki/furoshiki/Format$SizedFormats"), (2, .methodref 9 14), (0, .nameAndType 5 15), (0, u "(IIIII)V"), (0, .methodref 9 17), (0, .nameAndType 18 19), (0, u "formatFor"), (0, u "(I)I"), (0, .methodref 21 22), (0, .class_ 23), (0, .nameAndType 24 25), (0, u "com/example/furoshiki/furoshiki/SizedFormatsFormatForPinLaw"), (0, u "expected"), (0, u "(II)I"), (3, u "law"), (0, u "(III)Z")] 4

def k1m0 : Method := { name := "<init>", desc := "()V", sig := { parameters := [], returnType := none }, accessFlags := 2, code := none }
def k1c1 : Code := { maxStack := 2, maxLocals := 4, code := method_2_code, exceptionTable := #[], attributes := #[] }
def k1m1 : Method := { name := "expected", desc := "(II)I", sig := { parameters := [.int, .int], returnType := some .int }, accessFlags := 10, code := some k1c1 }
def k1c2 : Code := { maxStack := 7, maxLocals := 6, code := code, exceptionTable := #[], attributes := #[] }
def k1m2 : Method := { name := "law", desc := "(III)Z", sig := { parameters := [.int, .int, .int], returnType := some .boolean }, accessFlags := 9, code := some k1c2 }
/-- com/example/furoshiki/furoshiki/SizedFormatsFormatForPinLaw -/
def k1 : Class := { plain "com/example/furoshiki/furoshiki/SizedFormatsFormatForPinLaw" (some 0) with
  accessFlags := 49
  interfaces := #[]
  cf := some (fileOf pool1 21 #[] #[{ accessFlags := 2, nameIndex := 5, descriptorIndex := 6, attributes := #[] }, { accessFlags := 10, nameIndex := 24, descriptorIndex := 25, attributes := #[] }, { accessFlags := 9, nameIndex := 29, descriptorIndex := 30, attributes := #[] }] 49 2 #[] #[])
  fields := #[]
  methods := #[k1m0, k1m1, k1m2]
  instanceTypes := #[]
  staticTypes := #[]
  resolved := Array.replicate 35 none
  statics := none }

def pool2 : Array CpInfo := pool [(1, .methodref 2 3), (0, .class_ 4), (0, .nameAndType 5 6), (0, u "java/lang/Object"), (0, u "<init>"), (0, u "()V"), (0, .class_ 8), (0, u "java/lang/Record")] 13

def k2c0 : Code := { maxStack := 1, maxLocals := 1, code := jdk_30_method_1_code, exceptionTable := #[], attributes := #[] }
def k2m0 : Method := { name := "<init>", desc := "()V", sig := { parameters := [], returnType := none }, accessFlags := 4, code := some k2c0 }
/-- java/lang/Record -/
def k2 : Class := { plain "java/lang/Record" (some 0) with
  accessFlags := 1057
  interfaces := #[]
  cf := some (fileOf pool2 7 #[] #[{ accessFlags := 4, nameIndex := 5, descriptorIndex := 6, attributes := #[] }] 1057 2 #[] #[])
  fields := #[]
  methods := #[k2m0]
  instanceTypes := #[]
  staticTypes := #[]
  resolved := Array.replicate 22 none
  statics := none }

def pool3 : Array CpInfo := pool [(1, .class_ 2), (0, u "com/example/furoshiki/furoshiki/Format"), (0, .methodref 4 5), (0, .class_ 6), (0, .nameAndType 7 8), (0, u "java/lang/Record"), (0, u "<init>"), (0, u "()V"), (0, .fieldref 10 11), (0, .class_ 12), (0, .nameAndType 13 14), (0, u "com/example/furoshiki/furoshiki/Format$SizedFormats"), (0, u "fix"), (0, u "I"), (0, .fieldref 10 16), (0, .nameAndType 17 14), (0, u "fixMax"), (0, .fieldref 10 19), (0, .nameAndType 20 14), (0, u "format8"), (0, .fieldref 10 22), (0, .nameAndType 23 14), (0, u "format16"), (0, .fieldref 10 25), (0, .nameAndType 26 14), (0, u "format32"), (0, .integer 65535), (12, u "(IIIII)V"), (3, u "formatFor"), (0, u "(I)I")] 30

def k3c0 : Code := { maxStack := 2, maxLocals := 6, code := prog_7_method_1_code, exceptionTable := #[], attributes := #[] }
def k3m0 : Method := { name := "<init>", desc := "(IIIII)V", sig := { parameters := [.int, .int, .int, .int, .int], returnType := none }, accessFlags := 0, code := some k3c0 }
def k3c1 : Code := { maxStack := 2, maxLocals := 3, code := prog_7_method_2_code, exceptionTable := #[], attributes := #[] }
def k3m1 : Method := { name := "formatFor", desc := "(I)I", sig := { parameters := [.int], returnType := some .int }, accessFlags := 0, code := some k3c1 }
/-- com/example/furoshiki/furoshiki/Format$SizedFormats -/
def k3 : Class := { plain "com/example/furoshiki/furoshiki/Format$SizedFormats" (some 2) with
  accessFlags := 48
  interfaces := #[]
  cf := some (fileOf pool3 10 #[.nestHost 1] #[{ accessFlags := 0, nameIndex := 7, descriptorIndex := 40, attributes := #[] }, { accessFlags := 0, nameIndex := 44, descriptorIndex := 45, attributes := #[] }] 48 4 #[] #[{ accessFlags := 18, nameIndex := 13, descriptorIndex := 14, attributes := #[] }, { accessFlags := 18, nameIndex := 17, descriptorIndex := 14, attributes := #[] }, { accessFlags := 18, nameIndex := 20, descriptorIndex := 14, attributes := #[] }, { accessFlags := 18, nameIndex := 23, descriptorIndex := 14, attributes := #[] }, { accessFlags := 18, nameIndex := 26, descriptorIndex := 14, attributes := #[] }])
  fields := #[{ name := "fix", type := .int, accessFlags := 18, slot := 0, constantValue := 0 }, { name := "fixMax", type := .int, accessFlags := 18, slot := 1, constantValue := 0 }, { name := "format8", type := .int, accessFlags := 18, slot := 2, constantValue := 0 }, { name := "format16", type := .int, accessFlags := 18, slot := 3, constantValue := 0 }, { name := "format32", type := .int, accessFlags := 18, slot := 4, constantValue := 0 }]
  methods := #[k3m0, k3m1]
  instanceTypes := #[.int, .int, .int, .int, .int]
  staticTypes := #[]
  resolved := Array.replicate 76 none
  statics := none }

def pool4 : Array CpInfo := pool [(1, u "java/lang/Cloneable"), (0, .class_ 1), (0, u "java/lang/Object"), (0, .class_ 3)] 3

/-- java/lang/Cloneable -/
def k4 : Class := { plain "java/lang/Cloneable" (some 0) with
  accessFlags := 1537
  interfaces := #[]
  cf := some (fileOf pool4 2 #[] #[] 1537 4 #[] #[])
  fields := #[]
  methods := #[]
  instanceTypes := #[]
  staticTypes := #[]
  resolved := Array.replicate 8 none
  statics := none }

def pool5 : Array CpInfo := pool [(1, u "java/io/Serializable"), (0, .class_ 1), (0, u "java/lang/Object"), (0, .class_ 3)] 3

/-- java/io/Serializable -/
def k5 : Class := { plain "java/io/Serializable" (some 0) with
  accessFlags := 1537
  interfaces := #[]
  cf := some (fileOf pool5 2 #[] #[] 1537 4 #[] #[])
  fields := #[]
  methods := #[]
  instanceTypes := #[]
  staticTypes := #[]
  resolved := Array.replicate 8 none
  statics := none }

/-- the primitive byte -/
def k6 : Class := { plain "byte" none with kind := .primitive 'B', accessFlags := 0x411 }
/-- [B -/
def k7 : Class := { plain "[B" (some 0) with kind := .array 6 .byte, interfaces := #[4, 5], accessFlags := 1041 }

/-- the primitive int -/
def k8 : Class := { plain "int" none with kind := .primitive 'I', accessFlags := 0x411 }
/-- [I -/
def k9 : Class := { plain "[I" (some 0) with kind := .array 8 .int, interfaces := #[4, 5], accessFlags := 1041 }

def heap : Heap := #[]
def classes : Array Class := #[k0, k1, k2, k3, k4, k5, k6, k7, k8, k9]
def interned : List (Array UInt16 × Addr) := []
def slotsUsed : Nat := 0
def theMethod : MethodId := ⟨1, 2⟩
def args0 : Array Value := #[.int 7, .int 7, .int 7]
def aboutOver (below : List Frame) : State where
  vm := { classes := classes, interned := interned.toArray }
  heap := heap
  slotsUsed := slotsUsed
  threads := #[{ frames := .invoking theMethod args0 :: below }]
def below0 : List Frame := [.native { method := ⟨0, 0⟩, args := #[] }]
def about1 : State := aboutOver below0
def p0 : Program := .bare "" "" ""
def e0 : Env := launch0.env 0 0 0
theorem w_frames : about1.frames = Frame.invoking theMethod args0 :: below0 := rfl
set_option maxRecDepth 65536 in
theorem w_args : argsFit about1.vm theMethod args0 = true := by decide +kernel
set_option maxRecDepth 65536 in
theorem w_heap : heapFits about1 = true := by decide +kernel
set_option maxRecDepth 65536 in
theorem w_runnable : about1.curStatus? = some .runnable := by decide +kernel
set_option maxRecDepth 65536 in
theorem w_alone : about1.alone = true := by decide +kernel
set_option maxRecDepth 65536 in
theorem w_named : about1.methodNamed? x = some theMethod := by decide +kernel
set_option maxRecDepth 65536 in
theorem w_hears : about1.hears theMethod below0 = true := by decide +kernel
set_option maxRecDepth 65536 in
theorem w_ripe : about1.ripe theMethod args0 below0 = true := by decide +kernel
theorem w_running : about1.status = .running := rfl
set_option maxRecDepth 65536 in
theorem w_room : about1.hasRoom e0.platform room_1 = true :=
  launch0.hasRoom_least _ room_1 (by decide +kernel) (by decide +kernel) (by decide +kernel) (by decide +kernel) (by decide +kernel) (by decide +kernel)
theorem allAtoms_all (ts : List Jvm.Cond) (a : Array Jvm.Value) (st : Jvm.State) : (allAtoms ts).before a st = ts.all (fun c => c.before a st) := by
  induction ts with
  | nil => rfl
  | cons c t ih =>
    show (Jvm.Cond.and c (allAtoms t)).before a st = _
    rw [Jvm.Cond.before_and, ih, List.all_cons]
def words1 : List Jvm.Cond := Jvm.Cond.code x code maxLocals ret :: tables_1
/-- a 'code' word, met by the world's own term for the bytes: nothing is compared byte by byte -/
theorem code_word {y : MethodName} {bytes : ByteArray} {mx : Nat} {rt : Option FieldType} {a : Array Value} {s : State} {m : MethodId} {meth : Method} {c : Code} (h1 : s.methodNamed? y = some m) (h2 : s.vm.method? m = some meth) (h3 : meth.code = some c) (h4 : c.code = bytes)
    (h5 : (c.maxLocals == mx && c.exceptionTable.isEmpty && decide (c.maxStack ≤ mostOperands) && decide (meth.sig.returnType = rt) && !meth.locks && decide (parseMethodDescriptor y.desc = some meth.sig)) = true) : (Jvm.Cond.code y bytes mx rt).before a s = true := by
  simp only [Bool.and_eq_true, beq_iff_eq, Bool.not_eq_true', decide_eq_true_eq] at h5
  obtain ⟨⟨⟨⟨⟨g1, g2⟩, g3⟩, g4⟩, g5⟩, g6⟩ := h5
  simp [Cond.before, Cond.holds, Cond.value, h1, h2, h3, h4, g1, g2, g3, g4, g5, g6]
def isCode : Jvm.Cond → Bool
  | .code _ _ _ _ => true
  | _ => false
theorem all_split {L : List Jvm.Cond} {P : Jvm.Cond → Bool} (h1 : L.all (fun c => isCode c || P c) = true) (h2 : ∀ c ∈ L.filter isCode, P c = true) : L.all P = true := by
  refine List.all_eq_true.mpr fun c hc => ?_
  have h := List.all_eq_true.mp h1 c hc
  rcases Bool.eq_false_or_eq_true (isCode c) with hi | hi
  · exact h2 c (List.mem_filter.mpr ⟨hc, hi⟩)
  · simpa [hi] using h
set_option maxRecDepth 65536 in
theorem w_c0 : (Jvm.Cond.code x code maxLocals ret).before args0 about1 = true := code_word (m := ⟨1, 2⟩) (meth := k1m2) (c := k1c2) (by decide +kernel) rfl rfl rfl (by decide +kernel)
set_option maxRecDepth 65536 in
theorem w_c1 : (Jvm.Cond.code ({ cls := "com/example/furoshiki/furoshiki/Format$SizedFormats", name := "<init>", desc := "(IIIII)V" } : Jvm.MethodName) prog_7_method_1_code (6 : Nat) (Option.none : Option Jvm.ClassFile.FieldType)).before args0 about1 = true := code_word (m := ⟨3, 0⟩) (meth := k3m0) (c := k3c0) (by decide +kernel) rfl rfl rfl (by decide +kernel)
set_option maxRecDepth 65536 in
theorem w_c2 : (Jvm.Cond.code ({ cls := "java/lang/Record", name := "<init>", desc := "()V" } : Jvm.MethodName) jdk_30_method_1_code (1 : Nat) (Option.none : Option Jvm.ClassFile.FieldType)).before args0 about1 = true := code_word (m := ⟨2, 0⟩) (meth := k2m0) (c := k2c0) (by decide +kernel) rfl rfl rfl (by decide +kernel)
set_option maxRecDepth 65536 in
theorem w_c3 : (Jvm.Cond.code ({ cls := "java/lang/Object", name := "<init>", desc := "()V" } : Jvm.MethodName) object_method_1_code (1 : Nat) (Option.none : Option Jvm.ClassFile.FieldType)).before args0 about1 = true := code_word (m := ⟨0, 0⟩) (meth := k0m0) (c := k0c0) (by decide +kernel) rfl rfl rfl (by decide +kernel)
set_option maxRecDepth 65536 in
theorem w_c4 : (Jvm.Cond.code ({ cls := "com/example/furoshiki/furoshiki/Format$SizedFormats", name := "formatFor", desc := "(I)I" } : Jvm.MethodName) prog_7_method_2_code (3 : Nat) (Option.some Jvm.ClassFile.FieldType.int)).before args0 about1 = true := code_word (m := ⟨3, 1⟩) (meth := k3m1) (c := k3c1) (by decide +kernel) rfl rfl rfl (by decide +kernel)
set_option maxRecDepth 65536 in
theorem w_c5 : (Jvm.Cond.code ({ cls := "com/example/furoshiki/furoshiki/SizedFormatsFormatForPinLaw", name := "expected", desc := "(II)I" } : Jvm.MethodName) method_2_code (4 : Nat) (Option.some Jvm.ClassFile.FieldType.int)).before args0 about1 = true := code_word (m := ⟨1, 1⟩) (meth := k1m1) (c := k1c1) (by decide +kernel) rfl rfl rfl (by decide +kernel)
def codes1 : List Jvm.Cond := [Jvm.Cond.code x code maxLocals ret, Jvm.Cond.code ({ cls := "com/example/furoshiki/furoshiki/Format$SizedFormats", name := "<init>", desc := "(IIIII)V" } : Jvm.MethodName) prog_7_method_1_code (6 : Nat) (Option.none : Option Jvm.ClassFile.FieldType), Jvm.Cond.code ({ cls := "java/lang/Record", name := "<init>", desc := "()V" } : Jvm.MethodName) jdk_30_method_1_code (1 : Nat) (Option.none : Option Jvm.ClassFile.FieldType), Jvm.Cond.code ({ cls := "java/lang/Object", name := "<init>", desc := "()V" } : Jvm.MethodName) object_method_1_code (1 : Nat) (Option.none : Option Jvm.ClassFile.FieldType), Jvm.Cond.code ({ cls := "com/example/furoshiki/furoshiki/Format$SizedFormats", name := "formatFor", desc := "(I)I" } : Jvm.MethodName) prog_7_method_2_code (3 : Nat) (Option.some Jvm.ClassFile.FieldType.int), Jvm.Cond.code ({ cls := "com/example/furoshiki/furoshiki/SizedFormatsFormatForPinLaw", name := "expected", desc := "(II)I" } : Jvm.MethodName) method_2_code (4 : Nat) (Option.some Jvm.ClassFile.FieldType.int)]
set_option maxRecDepth 65536 in
theorem codes_eq : words1.filter isCode = codes1 := rfl
theorem w_codes : ∀ c ∈ words1.filter isCode, c.before args0 about1 = true := by
  rw [codes_eq]
  intro c hc
  simp only [codes1, List.mem_cons, List.not_mem_nil, or_false] at hc
  rcases hc with rfl | rfl | rfl | rfl | rfl | rfl
  · exact w_c0
  · exact w_c1
  · exact w_c2
  · exact w_c3
  · exact w_c4
  · exact w_c5
set_option maxRecDepth 65536 in
theorem w_t1 : (words1.take 24).all (fun c => isCode c || c.before args0 about1) = true := by decide +kernel
set_option maxRecDepth 65536 in
theorem w_t2 : (words1.drop 24).all (fun c => isCode c || c.before args0 about1) = true := by decide +kernel
theorem w_tables : (allAtoms (Jvm.Cond.code x code maxLocals ret :: tables_1)).before args0 about1 = true := by
  rw [allAtoms_all]
  show words1.all (fun c => c.before args0 about1) = true
  refine all_split ?_ w_codes
  rw [← List.take_append_drop 24 words1, List.all_append, w_t1, w_t2]
  rfl
set_option maxRecDepth 65536 in
theorem w_case : (Jvm.Cond.and given_1 narrow_1).before args0 about1 = true := by decide +kernel
theorem w_applies : (headSpec (Jvm.Cond.code x code maxLocals ret :: tables_1) room_1).applies x e0.platform about1 = true :=
  (Spec.applies_iff w_frames).mpr ⟨w_running, w_runnable, w_alone, w_named, w_hears, w_ripe, w_room, w_tables⟩
theorem atStart : AtStart classFile x code maxLocals ret World_1 tables_1 room_1 Calls_1 rest_1 Pre_1 launch0 p0 e0 about1 theMethod args0 below0 :=
  ⟨lists_1, trivial, launch0.admits_env _ _ _, launch0.least_env, fairChoices_fair.cas, fairChoices_fair.clock, w_frames, w_args, w_heap, w_applies, trivial, trivial, w_case⟩
end start1
theorem witness_1 : WitnessClaimed_1 := ⟨start1.p0, start1.e0, start1.about1, start1.theMethod, start1.args0, start1.below0, start1.atStart⟩
end Jvm.Pilot.@@N@@
