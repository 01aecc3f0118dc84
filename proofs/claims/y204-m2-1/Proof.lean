import JvmDerived
import JvmDerived.Pilot.@@N@@Statement
import JvmDerived.Pilot.@@N@@Code
set_option linter.unusedVariables false
set_option linter.unusedSimpArgs false
namespace Jvm.RoadKit
open Sem ClassFile Op Lib Jvm.Stand Jvm.Free Jvm.LawKit
section New
variable {p : Program} {l : Launch} {e : Env} {R : Room} {s : State} {m : MethodId} {args : Array Value} {below : List Frame} {meth : Method} {c : Code} {T : State} {locs : List Loc} {cells slots : Nat}
theorem retI (X : Stand p l e R s m args below meth c T locs cells slots) (hx : p.tables.exec = Jvm.exec) {pc : Nat} {Ls : Array Slot} {z : Int32} {rest : List Value} (hret : meth.sig.returnType = some .int) (hd : decode c.code pc = .ok (.ireturn, 1)) {fs : List Frame}
    (hl : ∀ (f : JFrame) (acts : List Action), f.method = m → f.locked = none → f.entered = [] → (doReturn e (T.setTop f) acts (some (.int z))).1 = T.setFrames fs) : Steps p.tables e below (T.setTop (mkF m pc Ls (.int z :: rest))) (T.setFrames fs) := by
  have hm' : T.vm.method? m = some meth := X.method'
  have hn : narrow .int (.int z) = .int z := rfl
  show Steps p.tables e below (T.setTop { method := m, pc := pc, locals := Ls, stack := _ :: rest, locked := none }) _
  jvm_step X.here [X.here.top, hx, hd, hm', hret, hn]
  first | (intro acts; rw [hl _ acts rfl rfl rfl]) | rw [hl _ _ rfl rfl rfl]
  exact Steps.refl _
end New
end Jvm.RoadKit
namespace Jvm.Pilot.@@N@@
open Jvm Jvm.ClassFile Sem Op Lib Jvm.Free Jvm.Stand Jvm.LawKit Jvm.RoadKit Bundle Jvm.Pilot.@@N@@.Jvm.D
theorem own_getDI (xs : List Int32) (k : Nat) : (xs.map Value.int).getD k (.int 0) = .int (xs.getD k 0) := by simp only [List.getD_eq_getElem?_getD, List.getElem?_map]; cases xs[k]? <;> rfl
theorem own_getDJ (xs : List Int64) (k : Nat) : (xs.map Value.long).getD k (.long 0) = .long (xs.getD k 0) := by simp only [List.getD_eq_getElem?_getD, List.getElem?_map]; cases xs[k]? <;> rfl
theorem d1_0 : decode method_2_code 0 = .ok (.iload_n 0, 1) := by decide +kernel
theorem d1_1 : decode method_2_code 1 = .ok (.iconst 4, 1) := by decide +kernel
theorem d1_2 : decode method_2_code 2 = .ok (.iload_n 1, 1) := by decide +kernel
theorem d1_3 : decode method_2_code 3 = .ok (.imul, 1) := by decide +kernel
theorem d1_4 : decode method_2_code 4 = .ok (.iushr, 1) := by decide +kernel
theorem d1_5 : decode method_2_code 5 = .ok (.bipush 15, 2) := by decide +kernel
theorem d1_7 : decode method_2_code 7 = .ok (.iand, 1) := by decide +kernel
theorem d1_8 : decode method_2_code 8 = .ok (.ireturn, 1) := by decide +kernel
theorem d2_0 : decode prog_2_method_1_code 0 = .ok (.aload_n 0, 1) := by decide +kernel
theorem d2_1 : decode prog_2_method_1_code 1 = .ok (.invokespecial 1, 3) := by decide +kernel
theorem d2_4 : decode prog_2_method_1_code 4 = .ok (.aload_n 0, 1) := by decide +kernel
theorem d2_5 : decode prog_2_method_1_code 5 = .ok (.iload_n 1, 1) := by decide +kernel
theorem d2_6 : decode prog_2_method_1_code 6 = .ok (.putfield 7, 3) := by decide +kernel
theorem d2_9 : decode prog_2_method_1_code 9 = .ok (.aload_n 0, 1) := by decide +kernel
theorem d2_10 : decode prog_2_method_1_code 10 = .ok (.aload_n 2, 1) := by decide +kernel
theorem d2_11 : decode prog_2_method_1_code 11 = .ok (.putfield 13, 3) := by decide +kernel
theorem d2_14 : decode prog_2_method_1_code 14 = .ok (.aload_n 0, 1) := by decide +kernel
theorem d2_15 : decode prog_2_method_1_code 15 = .ok (.aload_n 3, 1) := by decide +kernel
theorem d2_16 : decode prog_2_method_1_code 16 = .ok (.putfield 17, 3) := by decide +kernel
theorem d2_19 : decode prog_2_method_1_code 19 = .ok (.aload_n 0, 1) := by decide +kernel
theorem d2_20 : decode prog_2_method_1_code 20 = .ok (.aload 4, 2) := by decide +kernel
theorem d2_22 : decode prog_2_method_1_code 22 = .ok (.putfield 20, 3) := by decide +kernel
theorem d2_25 : decode prog_2_method_1_code 25 = .ok (.aload_n 0, 1) := by decide +kernel
theorem d2_26 : decode prog_2_method_1_code 26 = .ok (.aload 5, 2) := by decide +kernel
theorem d2_28 : decode prog_2_method_1_code 28 = .ok (.putfield 23, 3) := by decide +kernel
theorem d2_31 : decode prog_2_method_1_code 31 = .ok (.aload_n 0, 1) := by decide +kernel
theorem d2_32 : decode prog_2_method_1_code 32 = .ok (.iload 6, 2) := by decide +kernel
theorem d2_34 : decode prog_2_method_1_code 34 = .ok (.putfield 27, 3) := by decide +kernel
theorem d2_37 : decode prog_2_method_1_code 37 = .ok (.aload_n 0, 1) := by decide +kernel
theorem d2_38 : decode prog_2_method_1_code 38 = .ok (.aload 7, 2) := by decide +kernel
theorem d2_40 : decode prog_2_method_1_code 40 = .ok (.putfield 30, 3) := by decide +kernel
theorem d2_43 : decode prog_2_method_1_code 43 = .ok (.return_, 1) := by decide +kernel
theorem d4_0 : decode prog_2_method_7_code 0 = .ok (.aload_n 0, 1) := by decide +kernel
theorem d4_1 : decode prog_2_method_7_code 1 = .ok (.getfield 13, 3) := by decide +kernel
theorem d4_4 : decode prog_2_method_7_code 4 = .ok (.iload_n 1, 1) := by decide +kernel
theorem d4_5 : decode prog_2_method_7_code 5 = .ok (.aload_n 0, 1) := by decide +kernel
theorem d4_6 : decode prog_2_method_7_code 6 = .ok (.getfield 7, 3) := by decide +kernel
theorem d4_9 : decode prog_2_method_7_code 9 = .ok (.imul, 1) := by decide +kernel
theorem d4_10 : decode prog_2_method_7_code 10 = .ok (.iload_n 2, 1) := by decide +kernel
theorem d4_11 : decode prog_2_method_7_code 11 = .ok (.iadd, 1) := by decide +kernel
theorem d4_12 : decode prog_2_method_7_code 12 = .ok (.iaload, 1) := by decide +kernel
theorem d4_13 : decode prog_2_method_7_code 13 = .ok (.ireturn, 1) := by decide +kernel
theorem d5_0 : decode method_3_code 0 = .ok (.iconst 0, 1) := by decide +kernel
theorem d5_1 : decode method_3_code 1 = .ok (.istore_n 2, 1) := by decide +kernel
theorem d5_2 : decode method_3_code 2 = .ok (.iload_n 1, 1) := by decide +kernel
theorem d5_3 : decode method_3_code 3 = .ok (.ifCond .le 11, 3) := by decide +kernel
theorem d5_6 : decode method_3_code 6 = .ok (.iload_n 2, 1) := by decide +kernel
theorem d5_7 : decode method_3_code 7 = .ok (.iload_n 0, 1) := by decide +kernel
theorem d5_8 : decode method_3_code 8 = .ok (.iconst 0, 1) := by decide +kernel
theorem d5_9 : decode method_3_code 9 = .ok (.invokestatic 7, 3) := by decide +kernel
theorem pd0 : parseMethodDescriptor "(II)I" = some ⟨[.int, .int], some .int⟩ := by decide +kernel
theorem d5_12 : decode method_3_code 12 = .ok (.iadd, 1) := by decide +kernel
theorem d5_13 : decode method_3_code 13 = .ok (.istore_n 2, 1) := by decide +kernel
theorem d5_14 : decode method_3_code 14 = .ok (.iload_n 1, 1) := by decide +kernel
theorem d5_15 : decode method_3_code 15 = .ok (.iconst 1, 1) := by decide +kernel
theorem d5_16 : decode method_3_code 16 = .ok (.if_icmp .le 11, 3) := by decide +kernel
theorem d5_19 : decode method_3_code 19 = .ok (.iload_n 2, 1) := by decide +kernel
theorem d5_20 : decode method_3_code 20 = .ok (.iload_n 0, 1) := by decide +kernel
theorem d5_21 : decode method_3_code 21 = .ok (.iconst 1, 1) := by decide +kernel
theorem d5_22 : decode method_3_code 22 = .ok (.invokestatic 7, 3) := by decide +kernel
theorem d5_25 : decode method_3_code 25 = .ok (.iadd, 1) := by decide +kernel
theorem d5_26 : decode method_3_code 26 = .ok (.istore_n 2, 1) := by decide +kernel
theorem d5_27 : decode method_3_code 27 = .ok (.iload_n 1, 1) := by decide +kernel
theorem d5_28 : decode method_3_code 28 = .ok (.iconst 2, 1) := by decide +kernel
theorem d5_29 : decode method_3_code 29 = .ok (.if_icmp .le 11, 3) := by decide +kernel
theorem d5_32 : decode method_3_code 32 = .ok (.iload_n 2, 1) := by decide +kernel
theorem d5_33 : decode method_3_code 33 = .ok (.iload_n 0, 1) := by decide +kernel
theorem d5_34 : decode method_3_code 34 = .ok (.iconst 2, 1) := by decide +kernel
theorem d5_35 : decode method_3_code 35 = .ok (.invokestatic 7, 3) := by decide +kernel
theorem d5_38 : decode method_3_code 38 = .ok (.iadd, 1) := by decide +kernel
theorem d5_39 : decode method_3_code 39 = .ok (.istore_n 2, 1) := by decide +kernel
theorem d5_40 : decode method_3_code 40 = .ok (.iload_n 1, 1) := by decide +kernel
theorem d5_41 : decode method_3_code 41 = .ok (.iconst 3, 1) := by decide +kernel
theorem d5_42 : decode method_3_code 42 = .ok (.if_icmp .le 11, 3) := by decide +kernel
theorem d5_45 : decode method_3_code 45 = .ok (.iload_n 2, 1) := by decide +kernel
theorem d5_46 : decode method_3_code 46 = .ok (.iload_n 0, 1) := by decide +kernel
theorem d5_47 : decode method_3_code 47 = .ok (.iconst 3, 1) := by decide +kernel
theorem d5_48 : decode method_3_code 48 = .ok (.invokestatic 7, 3) := by decide +kernel
theorem d5_51 : decode method_3_code 51 = .ok (.iadd, 1) := by decide +kernel
theorem d5_52 : decode method_3_code 52 = .ok (.istore_n 2, 1) := by decide +kernel
theorem d5_53 : decode method_3_code 53 = .ok (.iload_n 1, 1) := by decide +kernel
theorem d5_54 : decode method_3_code 54 = .ok (.iconst 4, 1) := by decide +kernel
theorem d5_55 : decode method_3_code 55 = .ok (.if_icmp .le 11, 3) := by decide +kernel
theorem d5_58 : decode method_3_code 58 = .ok (.iload_n 2, 1) := by decide +kernel
theorem d5_59 : decode method_3_code 59 = .ok (.iload_n 0, 1) := by decide +kernel
theorem d5_60 : decode method_3_code 60 = .ok (.iconst 4, 1) := by decide +kernel
theorem d5_61 : decode method_3_code 61 = .ok (.invokestatic 7, 3) := by decide +kernel
theorem d5_64 : decode method_3_code 64 = .ok (.iadd, 1) := by decide +kernel
theorem d5_65 : decode method_3_code 65 = .ok (.istore_n 2, 1) := by decide +kernel
theorem d5_66 : decode method_3_code 66 = .ok (.iload_n 1, 1) := by decide +kernel
theorem d5_67 : decode method_3_code 67 = .ok (.iconst 5, 1) := by decide +kernel
theorem d5_68 : decode method_3_code 68 = .ok (.if_icmp .le 11, 3) := by decide +kernel
theorem d5_71 : decode method_3_code 71 = .ok (.iload_n 2, 1) := by decide +kernel
theorem d5_72 : decode method_3_code 72 = .ok (.iload_n 0, 1) := by decide +kernel
theorem d5_73 : decode method_3_code 73 = .ok (.iconst 5, 1) := by decide +kernel
theorem d5_74 : decode method_3_code 74 = .ok (.invokestatic 7, 3) := by decide +kernel
theorem d5_77 : decode method_3_code 77 = .ok (.iadd, 1) := by decide +kernel
theorem d5_78 : decode method_3_code 78 = .ok (.istore_n 2, 1) := by decide +kernel
theorem d5_79 : decode method_3_code 79 = .ok (.iload_n 1, 1) := by decide +kernel
theorem d5_80 : decode method_3_code 80 = .ok (.bipush 6, 2) := by decide +kernel
theorem d5_82 : decode method_3_code 82 = .ok (.if_icmp .le 12, 3) := by decide +kernel
theorem d5_85 : decode method_3_code 85 = .ok (.iload_n 2, 1) := by decide +kernel
theorem d5_86 : decode method_3_code 86 = .ok (.iload_n 0, 1) := by decide +kernel
theorem d5_87 : decode method_3_code 87 = .ok (.bipush 6, 2) := by decide +kernel
theorem d5_89 : decode method_3_code 89 = .ok (.invokestatic 7, 3) := by decide +kernel
theorem d5_92 : decode method_3_code 92 = .ok (.iadd, 1) := by decide +kernel
theorem d5_93 : decode method_3_code 93 = .ok (.istore_n 2, 1) := by decide +kernel
theorem d5_94 : decode method_3_code 94 = .ok (.iload_n 1, 1) := by decide +kernel
theorem d5_95 : decode method_3_code 95 = .ok (.bipush 7, 2) := by decide +kernel
theorem d5_97 : decode method_3_code 97 = .ok (.if_icmp .le 12, 3) := by decide +kernel
theorem d5_100 : decode method_3_code 100 = .ok (.iload_n 2, 1) := by decide +kernel
theorem d5_101 : decode method_3_code 101 = .ok (.iload_n 0, 1) := by decide +kernel
theorem d5_102 : decode method_3_code 102 = .ok (.bipush 7, 2) := by decide +kernel
theorem d5_104 : decode method_3_code 104 = .ok (.invokestatic 7, 3) := by decide +kernel
theorem d5_107 : decode method_3_code 107 = .ok (.iadd, 1) := by decide +kernel
theorem d5_108 : decode method_3_code 108 = .ok (.istore_n 2, 1) := by decide +kernel
theorem d5_109 : decode method_3_code 109 = .ok (.iload_n 2, 1) := by decide +kernel
theorem d5_110 : decode method_3_code 110 = .ok (.ireturn, 1) := by decide +kernel
theorem pd1 : parseMethodDescriptor "(I[I[I[I[JI[I)V" = some ⟨[.int, (.array .int), (.array .int), (.array .int), (.array .long), .int, (.array .int)], none⟩ := by decide +kernel
theorem pn0 : plainName "com/example/frugal_synth/frugalsynth/ArenaFirstChoicePinLaw" = true := by first | (simp [plainName, overriddenIn]; done) | decide +kernel
theorem pn1 : plainName "com/example/frugal_synth/frugalsynth/Arena" = true := by first | (simp [plainName, overriddenIn]; done) | decide +kernel
def F1 (p0 : Int32) (p1 : Int32) : Int32 := (((p0.toUInt32 >>> (((4 : Int32) * p1) &&& 31).toUInt32).toInt32) &&& (15 : Int32))
theorem ef1 (m : MethodId) (x0 : Int32) (x1 : Int32) : entryFrame m #[(.int x0), (.int x1)] 2 = mkF m 0 #[.val (.int x0), .val (.int x1)] [] := by first | (simp [entryFrame, mkF, argsToLocals, Value.category]; done) | rfl
def Q1 (Z : State) (p0 : Int32) (p1 : Int32) (h0 : Heap) (n0 : Nat) (v : Option Value) (h : Heap) (L : List Loc) : Prop := v = some (.int (F1 p0 p1)) ∧ Fr n0 L ∧ h = h0
set_option maxRecDepth 65536 in
set_option maxHeartbeats 40000000 in
theorem rm1 (l : Launch) (Z : State) (a0' : Array Value) (hw : ∀ d ∈ tables_1, d.before a0' Z = true) (ws : List Jvm.Cond) (p0 : Int32) (p1 : Int32) (h0 : Heap) (n0 : Nat) (Z0 : n0 ≤ h0.size) :
    MetFree l (⟨"com/example/frugal_synth/frugalsynth/ArenaFirstChoicePinLaw", "nib", "(II)I"⟩ : MethodName) (head1 (Jvm.Cond.code (⟨"com/example/frugal_synth/frugalsynth/ArenaFirstChoicePinLaw", "nib", "(II)I"⟩ : MethodName) method_2_code 2 (some .int) :: ws) ({ frames := 0, cells := 0, slots := 0, locals := 0 } : Room)) (fun a U => a = #[(.int p0), (.int p1)] ∧ Z.Warmed39 U.vm ∧ U.heap = h0) (fun _ _ _ _ _ => True) (fun _ U o U' => ∃ v L, o = .returned v ∧ Q1 Z p0 p1 h0 n0 v U'.heap L ∧ FrameEnd U o U' L ({ frames := 0, cells := 0, slots := 0, locals := 0 } : Room).cells ({ frames := 0, cells := 0, slots := 0, locals := 0 } : Room).slots) := by
  refine MetFree.of_bodySF (plainFor_of_name pn0) hisR ?_
  intro p e s m args below meth c s₁ Bd hml0 hP hK
  obtain ⟨rfl, hZ, hh⟩ := hP
  have hx := Bd.exec
  have hby := Bd.bytes
  have hml : c.maxLocals = 2 := hml0
  have hown : s.vm.findClass "com/example/frugal_synth/frugalsynth/ArenaFirstChoicePinLaw" = some m.cls := findClass_of_methodNamed Bd.named
  have hnm := (name_of_methodNamed Bd.named Bd.method).1
  have X0 : Stand p l e ({ frames := 0, cells := 0, slots := 0, locals := 0 } : Room) s m #[(.int p0), (.int p1)] below meth c s₁ [] 0 0 := Stand.of_body Bd
  have e0 : s₁.heap = h0 := by rw [← hh, Bd.state]; rfl
  have N0 := Fr.nil n0
  have hlk : meth.locks = false := by first | exact BodyLoose.notSynchronized Bd | exact Body.notSynchronized Bd
  have pre0 : ∀ t, Steps p.tables e below (s₁.setTop (mkF m 0 #[.val (.int p0), .val (.int p1)] [])) t → Steps p.tables e below (s₁.setTop (entryFrame m #[(.int p0), (.int p1)] 2)) t := fun t k => castTop (ef1 m p0 p1) k
  have pre1 : ∀ t, Steps p.tables e below (s₁.setTop (mkF m 8 #[.val (.int p0), .val (.int p1)] [(.int (((p0.toUInt32 >>> (((4 : Int32) * p1) &&& 31).toUInt32).toInt32) &&& (15 : Int32)))])) t → Steps p.tables e below (s₁.setTop (entryFrame m #[(.int p0), (.int p1)] 2)) t := fun t k => pre0 t (by
    show Steps p.tables e below (s₁.setTop (mkF m 0 #[.val (.int p0), .val (.int p1)] [])) _
    refine XS.iloadN X0.here hx rfl (hb hby d1_0) rfl ?_
    show Steps p.tables e below (s₁.setTop (mkF m 1 #[.val (.int p0), .val (.int p1)] [(.int p0)])) _
    refine XS.iconst X0.here hx rfl (hb hby d1_1) ?_
    show Steps p.tables e below (s₁.setTop (mkF m 2 #[.val (.int p0), .val (.int p1)] [(.int (4 : Int32)), (.int p0)])) _
    refine XS.iloadN X0.here hx rfl (hb hby d1_2) rfl ?_
    show Steps p.tables e below (s₁.setTop (mkF m 3 #[.val (.int p0), .val (.int p1)] [(.int p1), (.int (4 : Int32)), (.int p0)])) _
    refine XS.imul X0.here hx rfl (hb hby d1_3) rfl ?_
    show Steps p.tables e below (s₁.setTop (mkF m 4 #[.val (.int p0), .val (.int p1)] [(.int ((4 : Int32) * p1)), (.int p0)])) _
    refine XS.iushr X0.here hx rfl (hb hby d1_4) rfl ?_
    show Steps p.tables e below (s₁.setTop (mkF m 5 #[.val (.int p0), .val (.int p1)] [(.int ((p0.toUInt32 >>> (((4 : Int32) * p1) &&& 31).toUInt32).toInt32))])) _
    refine XS.bipush X0.here hx rfl (hb hby d1_5) ?_
    show Steps p.tables e below (s₁.setTop (mkF m 7 #[.val (.int p0), .val (.int p1)] [(.int (15 : Int32)), (.int ((p0.toUInt32 >>> (((4 : Int32) * p1) &&& 31).toUInt32).toInt32))])) _
    refine XS.iand X0.here hx rfl (hb hby d1_7) rfl ?_
    exact k)
  obtain ⟨fs, hr, hrun, hended, hW, hsame⟩ := X0.leave (v := some (.int (((p0.toUInt32 >>> (((4 : Int32) * p1) &&& 31).toUInt32).toInt32) &&& (15 : Int32)))) (fun h => by rw [Bd.returns] at h; cases h) hlk
  have hF : (F1 p0 p1) = (((p0.toUInt32 >>> (((4 : Int32) * p1) &&& 31).toUInt32).toInt32) &&& (15 : Int32)) := by rfl
  exact ⟨_, _, pre1 _ (retI X0 hx Bd.returns (hb hby d1_8) hr), hrun, hended, _, _, rfl, ⟨by rw [hF], N0, e0⟩, ⟨_, rfl⟩, hW, hsame.mono (by decide) (by decide)⟩
theorem ef2 (m : MethodId) (x0 : Addr) (x1 : Int32) (x2 : Addr) (x3 : Addr) (x4 : Addr) (x5 : Addr) (x6 : Int32) (x7 : Addr) : entryFrame m #[(.ref x0), (.int x1), (.ref x2), (.ref x3), (.ref x4), (.ref x5), (.int x6), (.ref x7)] 8 = mkF m 0 #[.val (.ref x0), .val (.int x1), .val (.ref x2), .val (.ref x3), .val (.ref x4), .val (.ref x5), .val (.int x6), .val (.ref x7)] [] := by first | (simp [entryFrame, mkF, argsToLocals, Value.category]; done) | rfl
def Q2 (Z : State) (a0 : Addr) (p1 : Int32) (a2 : Addr) (a3 : Addr) (a4 : Addr) (a5 : Addr) (p6 : Int32) (a7 : Addr) (wa0_assignmentCount : Int32) (wa0_firstChoice : Value) (wa0_outputs : Value) (wa0_targets : Value) (wa0_weights : Value) (wa0_parityCount : Int32) (wa0_priorities : Value) (h0 : Heap) (n0 : Nat) (v : Option Value) (h : Heap) (L : List Loc) : Prop := v = none ∧ Fr n0 L ∧ Keep h0 h [a0] ∧ Exa Z h a0 "com/example/frugal_synth/frugalsynth/Arena" ∧ Fld Z h a0 "com/example/frugal_synth/frugalsynth/Arena" "assignmentCount" "I" (.int p1) ∧ Fld Z h a0 "com/example/frugal_synth/frugalsynth/Arena" "firstChoice" "[I" (.ref a2) ∧ Fld Z h a0 "com/example/frugal_synth/frugalsynth/Arena" "outputs" "[I" (.ref a3) ∧ Fld Z h a0 "com/example/frugal_synth/frugalsynth/Arena" "targets" "[I" (.ref a4) ∧ Fld Z h a0 "com/example/frugal_synth/frugalsynth/Arena" "weights" "[J" (.ref a5) ∧ Fld Z h a0 "com/example/frugal_synth/frugalsynth/Arena" "parityCount" "I" (.int p6) ∧ Fld Z h a0 "com/example/frugal_synth/frugalsynth/Arena" "priorities" "[I" (.ref a7)
set_option maxRecDepth 65536 in
set_option maxHeartbeats 40000000 in
theorem rm2 (l : Launch) (Z : State) (a0' : Array Value) (hw : ∀ d ∈ tables_1, d.before a0' Z = true) (ws : List Jvm.Cond) (a0 : Addr) (p1 : Int32) (a2 : Addr) (a3 : Addr) (a4 : Addr) (a5 : Addr) (p6 : Int32) (a7 : Addr) (wa0_assignmentCount : Int32) (wa0_firstChoice : Value) (wa0_outputs : Value) (wa0_targets : Value) (wa0_weights : Value) (wa0_parityCount : Int32) (wa0_priorities : Value) (h0 : Heap) (n0 : Nat) (Z0 : n0 ≤ h0.size) (E_a0 : Exa Z h0 a0 "com/example/frugal_synth/frugalsynth/Arena") (F_wa0_assignmentCount : Fld Z h0 a0 "com/example/frugal_synth/frugalsynth/Arena" "assignmentCount" "I" (.int wa0_assignmentCount)) (F_wa0_firstChoice : Fld Z h0 a0 "com/example/frugal_synth/frugalsynth/Arena" "firstChoice" "[I" wa0_firstChoice) (F_wa0_outputs : Fld Z h0 a0 "com/example/frugal_synth/frugalsynth/Arena" "outputs" "[I" wa0_outputs) (F_wa0_targets : Fld Z h0 a0 "com/example/frugal_synth/frugalsynth/Arena" "targets" "[I" wa0_targets) (F_wa0_weights : Fld Z h0 a0 "com/example/frugal_synth/frugalsynth/Arena" "weights" "[J" wa0_weights) (F_wa0_parityCount : Fld Z h0 a0 "com/example/frugal_synth/frugalsynth/Arena" "parityCount" "I" (.int wa0_parityCount)) (F_wa0_priorities : Fld Z h0 a0 "com/example/frugal_synth/frugalsynth/Arena" "priorities" "[I" wa0_priorities) (g_a0 : n0 ≤ a0) :
    MetFree l (⟨"com/example/frugal_synth/frugalsynth/Arena", "<init>", "(I[I[I[I[JI[I)V"⟩ : MethodName) (head1 (Jvm.Cond.code (⟨"com/example/frugal_synth/frugalsynth/Arena", "<init>", "(I[I[I[I[JI[I)V"⟩ : MethodName) prog_2_method_1_code 8 none :: ws) ({ frames := 1, cells := 0, slots := 0, locals := 12 } : Room)) (fun a U => a = #[(.ref a0), (.int p1), (.ref a2), (.ref a3), (.ref a4), (.ref a5), (.int p6), (.ref a7)] ∧ Z.Warmed39 U.vm ∧ U.heap = h0) (fun _ _ _ _ _ => True) (fun _ U o U' => ∃ v L, o = .returned v ∧ Q2 Z a0 p1 a2 a3 a4 a5 p6 a7 wa0_assignmentCount wa0_firstChoice wa0_outputs wa0_targets wa0_weights wa0_parityCount wa0_priorities h0 n0 v U'.heap L ∧ FrameEnd U o U' L ({ frames := 1, cells := 0, slots := 0, locals := 12 } : Room).cells ({ frames := 1, cells := 0, slots := 0, locals := 12 } : Room).slots) := by
  refine MetFree.of_bodySF (plainFor_of_name pn1) hisR ?_
  intro p e s m args below meth c s₁ Bd hml0 hP hK
  obtain ⟨rfl, hZ, hh⟩ := hP
  have hx := Bd.exec
  have hby := Bd.bytes
  have hml : c.maxLocals = 8 := hml0
  have hown : s.vm.findClass "com/example/frugal_synth/frugalsynth/Arena" = some m.cls := findClass_of_methodNamed Bd.named
  have hnm := (name_of_methodNamed Bd.named Bd.method).1
  have X0 : Stand p l e ({ frames := 1, cells := 0, slots := 0, locals := 12 } : Room) s m #[(.ref a0), (.int p1), (.ref a2), (.ref a3), (.ref a4), (.ref a5), (.int p6), (.ref a7)] below meth c s₁ [] 0 0 := Stand.of_body Bd
  have e0 : s₁.heap = h0 := by rw [← hh, Bd.state]; rfl
  have N0 := Fr.nil n0
  have hlk : meth.locks = false := by first | exact BodyLoose.notSynchronized Bd | exact Body.notSynchronized Bd
  have pre0 : ∀ t, Steps p.tables e below (s₁.setTop (mkF m 0 #[.val (.ref a0), .val (.int p1), .val (.ref a2), .val (.ref a3), .val (.ref a4), .val (.ref a5), .val (.int p6), .val (.ref a7)] [])) t → Steps p.tables e below (s₁.setTop (entryFrame m #[(.ref a0), (.int p1), (.ref a2), (.ref a3), (.ref a4), (.ref a5), (.int p6), (.ref a7)] 8)) t := fun t k => castTop (ef2 m a0 p1 a2 a3 a4 a5 p6 a7) k
  obtain ⟨T1, X1, e1, st1⟩ := initO X0 hx hZ hown (hw _ (List.mem_of_getElem? (i := 12) rfl)) (hw _ (List.mem_of_getElem? (i := 13) rfl)) (hw _ (List.mem_of_getElem? (i := 14) rfl)) e0 (g := (mkF m 1 #[.val (.ref a0), .val (.int p1), .val (.ref a2), .val (.ref a3), .val (.ref a4), .val (.ref a5), .val (.int p6), .val (.ref a7)] [(.ref a0)])) rfl (by rw [hml]; rfl) rfl (hb hby d2_1) (by decide) (W := 0) (by show 2 * 0 + _ ≤ _; exact Nat.le_of_eq rfl) (by decide)
  obtain ⟨T2, h2, X2, e2, W2, st2⟩ := putF X1 hx hZ hown (host := "") (Or.inl (hw _ (List.mem_of_getElem? (i := 15) rfl))) Via.refl e1 F_wa0_assignmentCount E_a0 (Or.inr ⟨(hw _ (List.mem_of_getElem? (i := 16) rfl)), rfl, hnm⟩) (hw _ (List.mem_of_getElem? (i := 6) rfl)) (ty := .int) (by decide) rfl rfl (g := (mkF m 6 #[.val (.ref a0), .val (.int p1), .val (.ref a2), .val (.ref a3), .val (.ref a4), .val (.ref a5), .val (.int p6), .val (.ref a7)] [(.int p1), (.ref a0)])) rfl rfl (hb hby d2_6)
  have Z2 : n0 ≤ h2.size := Nat.le_trans Z0 (Keep.of_wr W2).1
  have N2 := Fr.snoc X2 N0 g_a0
  have KC2 : Keep h0 h2 [a0] := (Keep.refl h0 [a0]).wr W2 (Or.inl (List.mem_of_getElem? (i := 0) rfl))
  have Fw2 := F_wa0_assignmentCount.same W2
  have y3 := (E_a0.wr W2)
  have y4 := (F_wa0_firstChoice.other W2 (Or.inr (slot_ne (Or.inr (hw _ (List.mem_of_getElem? (i := 18) rfl))) (Or.inr (hw _ (List.mem_of_getElem? (i := 16) rfl))) (by decide) (t := (.array .int)) (t' := .int) (by decide) (by decide))))
  obtain ⟨T5, h5, X5, e5, W5, st5⟩ := putF X2 hx hZ hown (host := "") (Or.inl (hw _ (List.mem_of_getElem? (i := 17) rfl))) Via.refl e2 y4 y3 (Or.inr ⟨(hw _ (List.mem_of_getElem? (i := 18) rfl)), rfl, hnm⟩) (hw _ (List.mem_of_getElem? (i := 6) rfl)) (ty := (.array .int)) (by decide) rfl rfl (g := (mkF m 11 #[.val (.ref a0), .val (.int p1), .val (.ref a2), .val (.ref a3), .val (.ref a4), .val (.ref a5), .val (.int p6), .val (.ref a7)] [(.ref a2), (.ref a0)])) rfl rfl (hb hby d2_11)
  have Z5 : n0 ≤ h5.size := Nat.le_trans Z2 (Keep.of_wr W5).1
  have N5 := Fr.snoc X5 N2 g_a0
  have KC5 : Keep h0 h5 [a0] := KC2.wr W5 (Or.inl (List.mem_of_getElem? (i := 0) rfl))
  have Fw5 := y4.same W5
  have y6 := (y3.wr W5)
  have y7 := ((F_wa0_outputs.other W2 (Or.inr (slot_ne (Or.inr (hw _ (List.mem_of_getElem? (i := 20) rfl))) (Or.inr (hw _ (List.mem_of_getElem? (i := 16) rfl))) (by decide) (t := (.array .int)) (t' := .int) (by decide) (by decide)))).other W5 (Or.inr (slot_ne (Or.inr (hw _ (List.mem_of_getElem? (i := 20) rfl))) (Or.inr (hw _ (List.mem_of_getElem? (i := 18) rfl))) (by decide) (t := (.array .int)) (t' := (.array .int)) (by decide) (by decide))))
  obtain ⟨T8, h8, X8, e8, W8, st8⟩ := putF X5 hx hZ hown (host := "") (Or.inl (hw _ (List.mem_of_getElem? (i := 19) rfl))) Via.refl e5 y7 y6 (Or.inr ⟨(hw _ (List.mem_of_getElem? (i := 20) rfl)), rfl, hnm⟩) (hw _ (List.mem_of_getElem? (i := 6) rfl)) (ty := (.array .int)) (by decide) rfl rfl (g := (mkF m 16 #[.val (.ref a0), .val (.int p1), .val (.ref a2), .val (.ref a3), .val (.ref a4), .val (.ref a5), .val (.int p6), .val (.ref a7)] [(.ref a3), (.ref a0)])) rfl rfl (hb hby d2_16)
  have Z8 : n0 ≤ h8.size := Nat.le_trans Z5 (Keep.of_wr W8).1
  have N8 := Fr.snoc X8 N5 g_a0
  have KC8 : Keep h0 h8 [a0] := KC5.wr W8 (Or.inl (List.mem_of_getElem? (i := 0) rfl))
  have Fw8 := y7.same W8
  have y9 := (y6.wr W8)
  have y10 := (((F_wa0_targets.other W2 (Or.inr (slot_ne (Or.inr (hw _ (List.mem_of_getElem? (i := 22) rfl))) (Or.inr (hw _ (List.mem_of_getElem? (i := 16) rfl))) (by decide) (t := (.array .int)) (t' := .int) (by decide) (by decide)))).other W5 (Or.inr (slot_ne (Or.inr (hw _ (List.mem_of_getElem? (i := 22) rfl))) (Or.inr (hw _ (List.mem_of_getElem? (i := 18) rfl))) (by decide) (t := (.array .int)) (t' := (.array .int)) (by decide) (by decide)))).other W8 (Or.inr (slot_ne (Or.inr (hw _ (List.mem_of_getElem? (i := 22) rfl))) (Or.inr (hw _ (List.mem_of_getElem? (i := 20) rfl))) (by decide) (t := (.array .int)) (t' := (.array .int)) (by decide) (by decide))))
  obtain ⟨T11, h11, X11, e11, W11, st11⟩ := putF X8 hx hZ hown (host := "") (Or.inl (hw _ (List.mem_of_getElem? (i := 21) rfl))) Via.refl e8 y10 y9 (Or.inr ⟨(hw _ (List.mem_of_getElem? (i := 22) rfl)), rfl, hnm⟩) (hw _ (List.mem_of_getElem? (i := 6) rfl)) (ty := (.array .int)) (by decide) rfl rfl (g := (mkF m 22 #[.val (.ref a0), .val (.int p1), .val (.ref a2), .val (.ref a3), .val (.ref a4), .val (.ref a5), .val (.int p6), .val (.ref a7)] [(.ref a4), (.ref a0)])) rfl rfl (hb hby d2_22)
  have Z11 : n0 ≤ h11.size := Nat.le_trans Z8 (Keep.of_wr W11).1
  have N11 := Fr.snoc X11 N8 g_a0
  have KC11 : Keep h0 h11 [a0] := KC8.wr W11 (Or.inl (List.mem_of_getElem? (i := 0) rfl))
  have Fw11 := y10.same W11
  have y12 := (y9.wr W11)
  have y13 := ((((F_wa0_weights.other W2 (Or.inr (slot_ne (Or.inr (hw _ (List.mem_of_getElem? (i := 24) rfl))) (Or.inr (hw _ (List.mem_of_getElem? (i := 16) rfl))) (by decide) (t := (.array .long)) (t' := .int) (by decide) (by decide)))).other W5 (Or.inr (slot_ne (Or.inr (hw _ (List.mem_of_getElem? (i := 24) rfl))) (Or.inr (hw _ (List.mem_of_getElem? (i := 18) rfl))) (by decide) (t := (.array .long)) (t' := (.array .int)) (by decide) (by decide)))).other W8 (Or.inr (slot_ne (Or.inr (hw _ (List.mem_of_getElem? (i := 24) rfl))) (Or.inr (hw _ (List.mem_of_getElem? (i := 20) rfl))) (by decide) (t := (.array .long)) (t' := (.array .int)) (by decide) (by decide)))).other W11 (Or.inr (slot_ne (Or.inr (hw _ (List.mem_of_getElem? (i := 24) rfl))) (Or.inr (hw _ (List.mem_of_getElem? (i := 22) rfl))) (by decide) (t := (.array .long)) (t' := (.array .int)) (by decide) (by decide))))
  obtain ⟨T14, h14, X14, e14, W14, st14⟩ := putF X11 hx hZ hown (host := "") (Or.inl (hw _ (List.mem_of_getElem? (i := 23) rfl))) Via.refl e11 y13 y12 (Or.inr ⟨(hw _ (List.mem_of_getElem? (i := 24) rfl)), rfl, hnm⟩) (hw _ (List.mem_of_getElem? (i := 6) rfl)) (ty := (.array .long)) (by decide) rfl rfl (g := (mkF m 28 #[.val (.ref a0), .val (.int p1), .val (.ref a2), .val (.ref a3), .val (.ref a4), .val (.ref a5), .val (.int p6), .val (.ref a7)] [(.ref a5), (.ref a0)])) rfl rfl (hb hby d2_28)
  have Z14 : n0 ≤ h14.size := Nat.le_trans Z11 (Keep.of_wr W14).1
  have N14 := Fr.snoc X14 N11 g_a0
  have KC14 : Keep h0 h14 [a0] := KC11.wr W14 (Or.inl (List.mem_of_getElem? (i := 0) rfl))
  have Fw14 := y13.same W14
  have y15 := (y12.wr W14)
  have y16 := (((((F_wa0_parityCount.other W2 (Or.inr (slot_ne (Or.inr (hw _ (List.mem_of_getElem? (i := 26) rfl))) (Or.inr (hw _ (List.mem_of_getElem? (i := 16) rfl))) (by decide) (t := .int) (t' := .int) (by decide) (by decide)))).other W5 (Or.inr (slot_ne (Or.inr (hw _ (List.mem_of_getElem? (i := 26) rfl))) (Or.inr (hw _ (List.mem_of_getElem? (i := 18) rfl))) (by decide) (t := .int) (t' := (.array .int)) (by decide) (by decide)))).other W8 (Or.inr (slot_ne (Or.inr (hw _ (List.mem_of_getElem? (i := 26) rfl))) (Or.inr (hw _ (List.mem_of_getElem? (i := 20) rfl))) (by decide) (t := .int) (t' := (.array .int)) (by decide) (by decide)))).other W11 (Or.inr (slot_ne (Or.inr (hw _ (List.mem_of_getElem? (i := 26) rfl))) (Or.inr (hw _ (List.mem_of_getElem? (i := 22) rfl))) (by decide) (t := .int) (t' := (.array .int)) (by decide) (by decide)))).other W14 (Or.inr (slot_ne (Or.inr (hw _ (List.mem_of_getElem? (i := 26) rfl))) (Or.inr (hw _ (List.mem_of_getElem? (i := 24) rfl))) (by decide) (t := .int) (t' := (.array .long)) (by decide) (by decide))))
  obtain ⟨T17, h17, X17, e17, W17, st17⟩ := putF X14 hx hZ hown (host := "") (Or.inl (hw _ (List.mem_of_getElem? (i := 25) rfl))) Via.refl e14 y16 y15 (Or.inr ⟨(hw _ (List.mem_of_getElem? (i := 26) rfl)), rfl, hnm⟩) (hw _ (List.mem_of_getElem? (i := 6) rfl)) (ty := .int) (by decide) rfl rfl (g := (mkF m 34 #[.val (.ref a0), .val (.int p1), .val (.ref a2), .val (.ref a3), .val (.ref a4), .val (.ref a5), .val (.int p6), .val (.ref a7)] [(.int p6), (.ref a0)])) rfl rfl (hb hby d2_34)
  have Z17 : n0 ≤ h17.size := Nat.le_trans Z14 (Keep.of_wr W17).1
  have N17 := Fr.snoc X17 N14 g_a0
  have KC17 : Keep h0 h17 [a0] := KC14.wr W17 (Or.inl (List.mem_of_getElem? (i := 0) rfl))
  have Fw17 := y16.same W17
  have y18 := (y15.wr W17)
  have y19 := ((((((F_wa0_priorities.other W2 (Or.inr (slot_ne (Or.inr (hw _ (List.mem_of_getElem? (i := 28) rfl))) (Or.inr (hw _ (List.mem_of_getElem? (i := 16) rfl))) (by decide) (t := (.array .int)) (t' := .int) (by decide) (by decide)))).other W5 (Or.inr (slot_ne (Or.inr (hw _ (List.mem_of_getElem? (i := 28) rfl))) (Or.inr (hw _ (List.mem_of_getElem? (i := 18) rfl))) (by decide) (t := (.array .int)) (t' := (.array .int)) (by decide) (by decide)))).other W8 (Or.inr (slot_ne (Or.inr (hw _ (List.mem_of_getElem? (i := 28) rfl))) (Or.inr (hw _ (List.mem_of_getElem? (i := 20) rfl))) (by decide) (t := (.array .int)) (t' := (.array .int)) (by decide) (by decide)))).other W11 (Or.inr (slot_ne (Or.inr (hw _ (List.mem_of_getElem? (i := 28) rfl))) (Or.inr (hw _ (List.mem_of_getElem? (i := 22) rfl))) (by decide) (t := (.array .int)) (t' := (.array .int)) (by decide) (by decide)))).other W14 (Or.inr (slot_ne (Or.inr (hw _ (List.mem_of_getElem? (i := 28) rfl))) (Or.inr (hw _ (List.mem_of_getElem? (i := 24) rfl))) (by decide) (t := (.array .int)) (t' := (.array .long)) (by decide) (by decide)))).other W17 (Or.inr (slot_ne (Or.inr (hw _ (List.mem_of_getElem? (i := 28) rfl))) (Or.inr (hw _ (List.mem_of_getElem? (i := 26) rfl))) (by decide) (t := (.array .int)) (t' := .int) (by decide) (by decide))))
  obtain ⟨T20, h20, X20, e20, W20, st20⟩ := putF X17 hx hZ hown (host := "") (Or.inl (hw _ (List.mem_of_getElem? (i := 27) rfl))) Via.refl e17 y19 y18 (Or.inr ⟨(hw _ (List.mem_of_getElem? (i := 28) rfl)), rfl, hnm⟩) (hw _ (List.mem_of_getElem? (i := 6) rfl)) (ty := (.array .int)) (by decide) rfl rfl (g := (mkF m 40 #[.val (.ref a0), .val (.int p1), .val (.ref a2), .val (.ref a3), .val (.ref a4), .val (.ref a5), .val (.int p6), .val (.ref a7)] [(.ref a7), (.ref a0)])) rfl rfl (hb hby d2_40)
  have Z20 : n0 ≤ h20.size := Nat.le_trans Z17 (Keep.of_wr W20).1
  have N20 := Fr.snoc X20 N17 g_a0
  have KC20 : Keep h0 h20 [a0] := KC17.wr W20 (Or.inl (List.mem_of_getElem? (i := 0) rfl))
  have Fw20 := y19.same W20
  have pre21 : ∀ t, Steps p.tables e below (T20.setTop (mkF m 43 #[.val (.ref a0), .val (.int p1), .val (.ref a2), .val (.ref a3), .val (.ref a4), .val (.ref a5), .val (.int p6), .val (.ref a7)] [])) t → Steps p.tables e below (s₁.setTop (entryFrame m #[(.ref a0), (.int p1), (.ref a2), (.ref a3), (.ref a4), (.ref a5), (.int p6), (.ref a7)] 8)) t := fun t k => pre0 t (by
    show Steps p.tables e below (s₁.setTop (mkF m 0 #[.val (.ref a0), .val (.int p1), .val (.ref a2), .val (.ref a3), .val (.ref a4), .val (.ref a5), .val (.int p6), .val (.ref a7)] [])) _
    refine XS.aloadN X0.here hx rfl (hb hby d2_0) rfl rfl ?_
    show Steps p.tables e below (s₁.setTop (mkF m 1 #[.val (.ref a0), .val (.int p1), .val (.ref a2), .val (.ref a3), .val (.ref a4), .val (.ref a5), .val (.int p6), .val (.ref a7)] [(.ref a0)])) _
    refine st1 _ ?_
    show Steps p.tables e below (T1.setTop (mkF m 4 #[.val (.ref a0), .val (.int p1), .val (.ref a2), .val (.ref a3), .val (.ref a4), .val (.ref a5), .val (.int p6), .val (.ref a7)] [])) _
    refine XS.aloadN X1.here hx rfl (hb hby d2_4) rfl rfl ?_
    show Steps p.tables e below (T1.setTop (mkF m 5 #[.val (.ref a0), .val (.int p1), .val (.ref a2), .val (.ref a3), .val (.ref a4), .val (.ref a5), .val (.int p6), .val (.ref a7)] [(.ref a0)])) _
    refine XS.iloadN X1.here hx rfl (hb hby d2_5) rfl ?_
    show Steps p.tables e below (T1.setTop (mkF m 6 #[.val (.ref a0), .val (.int p1), .val (.ref a2), .val (.ref a3), .val (.ref a4), .val (.ref a5), .val (.int p6), .val (.ref a7)] [(.int p1), (.ref a0)])) _
    refine st2 _ ?_
    show Steps p.tables e below (T2.setTop (mkF m 9 #[.val (.ref a0), .val (.int p1), .val (.ref a2), .val (.ref a3), .val (.ref a4), .val (.ref a5), .val (.int p6), .val (.ref a7)] [])) _
    refine XS.aloadN X2.here hx rfl (hb hby d2_9) rfl rfl ?_
    show Steps p.tables e below (T2.setTop (mkF m 10 #[.val (.ref a0), .val (.int p1), .val (.ref a2), .val (.ref a3), .val (.ref a4), .val (.ref a5), .val (.int p6), .val (.ref a7)] [(.ref a0)])) _
    refine XS.aloadN X2.here hx rfl (hb hby d2_10) rfl rfl ?_
    show Steps p.tables e below (T2.setTop (mkF m 11 #[.val (.ref a0), .val (.int p1), .val (.ref a2), .val (.ref a3), .val (.ref a4), .val (.ref a5), .val (.int p6), .val (.ref a7)] [(.ref a2), (.ref a0)])) _
    refine st5 _ ?_
    show Steps p.tables e below (T5.setTop (mkF m 14 #[.val (.ref a0), .val (.int p1), .val (.ref a2), .val (.ref a3), .val (.ref a4), .val (.ref a5), .val (.int p6), .val (.ref a7)] [])) _
    refine XS.aloadN X5.here hx rfl (hb hby d2_14) rfl rfl ?_
    show Steps p.tables e below (T5.setTop (mkF m 15 #[.val (.ref a0), .val (.int p1), .val (.ref a2), .val (.ref a3), .val (.ref a4), .val (.ref a5), .val (.int p6), .val (.ref a7)] [(.ref a0)])) _
    refine XS.aloadN X5.here hx rfl (hb hby d2_15) rfl rfl ?_
    show Steps p.tables e below (T5.setTop (mkF m 16 #[.val (.ref a0), .val (.int p1), .val (.ref a2), .val (.ref a3), .val (.ref a4), .val (.ref a5), .val (.int p6), .val (.ref a7)] [(.ref a3), (.ref a0)])) _
    refine st8 _ ?_
    show Steps p.tables e below (T8.setTop (mkF m 19 #[.val (.ref a0), .val (.int p1), .val (.ref a2), .val (.ref a3), .val (.ref a4), .val (.ref a5), .val (.int p6), .val (.ref a7)] [])) _
    refine XS.aloadN X8.here hx rfl (hb hby d2_19) rfl rfl ?_
    show Steps p.tables e below (T8.setTop (mkF m 20 #[.val (.ref a0), .val (.int p1), .val (.ref a2), .val (.ref a3), .val (.ref a4), .val (.ref a5), .val (.int p6), .val (.ref a7)] [(.ref a0)])) _
    refine XS.aload X8.here hx rfl (hb hby d2_20) rfl rfl ?_
    show Steps p.tables e below (T8.setTop (mkF m 22 #[.val (.ref a0), .val (.int p1), .val (.ref a2), .val (.ref a3), .val (.ref a4), .val (.ref a5), .val (.int p6), .val (.ref a7)] [(.ref a4), (.ref a0)])) _
    refine st11 _ ?_
    show Steps p.tables e below (T11.setTop (mkF m 25 #[.val (.ref a0), .val (.int p1), .val (.ref a2), .val (.ref a3), .val (.ref a4), .val (.ref a5), .val (.int p6), .val (.ref a7)] [])) _
    refine XS.aloadN X11.here hx rfl (hb hby d2_25) rfl rfl ?_
    show Steps p.tables e below (T11.setTop (mkF m 26 #[.val (.ref a0), .val (.int p1), .val (.ref a2), .val (.ref a3), .val (.ref a4), .val (.ref a5), .val (.int p6), .val (.ref a7)] [(.ref a0)])) _
    refine XS.aload X11.here hx rfl (hb hby d2_26) rfl rfl ?_
    show Steps p.tables e below (T11.setTop (mkF m 28 #[.val (.ref a0), .val (.int p1), .val (.ref a2), .val (.ref a3), .val (.ref a4), .val (.ref a5), .val (.int p6), .val (.ref a7)] [(.ref a5), (.ref a0)])) _
    refine st14 _ ?_
    show Steps p.tables e below (T14.setTop (mkF m 31 #[.val (.ref a0), .val (.int p1), .val (.ref a2), .val (.ref a3), .val (.ref a4), .val (.ref a5), .val (.int p6), .val (.ref a7)] [])) _
    refine XS.aloadN X14.here hx rfl (hb hby d2_31) rfl rfl ?_
    show Steps p.tables e below (T14.setTop (mkF m 32 #[.val (.ref a0), .val (.int p1), .val (.ref a2), .val (.ref a3), .val (.ref a4), .val (.ref a5), .val (.int p6), .val (.ref a7)] [(.ref a0)])) _
    refine XS.iload X14.here hx rfl (hb hby d2_32) rfl ?_
    show Steps p.tables e below (T14.setTop (mkF m 34 #[.val (.ref a0), .val (.int p1), .val (.ref a2), .val (.ref a3), .val (.ref a4), .val (.ref a5), .val (.int p6), .val (.ref a7)] [(.int p6), (.ref a0)])) _
    refine st17 _ ?_
    show Steps p.tables e below (T17.setTop (mkF m 37 #[.val (.ref a0), .val (.int p1), .val (.ref a2), .val (.ref a3), .val (.ref a4), .val (.ref a5), .val (.int p6), .val (.ref a7)] [])) _
    refine XS.aloadN X17.here hx rfl (hb hby d2_37) rfl rfl ?_
    show Steps p.tables e below (T17.setTop (mkF m 38 #[.val (.ref a0), .val (.int p1), .val (.ref a2), .val (.ref a3), .val (.ref a4), .val (.ref a5), .val (.int p6), .val (.ref a7)] [(.ref a0)])) _
    refine XS.aload X17.here hx rfl (hb hby d2_38) rfl rfl ?_
    show Steps p.tables e below (T17.setTop (mkF m 40 #[.val (.ref a0), .val (.int p1), .val (.ref a2), .val (.ref a3), .val (.ref a4), .val (.ref a5), .val (.int p6), .val (.ref a7)] [(.ref a7), (.ref a0)])) _
    refine st20 _ ?_
    exact k)
  obtain ⟨fs, hr, hrun, hended, hW, hsame⟩ := X20.leave (v := none) (fun _ => rfl) hlk
  have y22 := (y18.wr W20)
  have y23 := ((((((Fw2.other W5 (Or.inr (slot_ne (Or.inr (hw _ (List.mem_of_getElem? (i := 16) rfl))) (Or.inr (hw _ (List.mem_of_getElem? (i := 18) rfl))) (by decide) (t := .int) (t' := (.array .int)) (by decide) (by decide)))).other W8 (Or.inr (slot_ne (Or.inr (hw _ (List.mem_of_getElem? (i := 16) rfl))) (Or.inr (hw _ (List.mem_of_getElem? (i := 20) rfl))) (by decide) (t := .int) (t' := (.array .int)) (by decide) (by decide)))).other W11 (Or.inr (slot_ne (Or.inr (hw _ (List.mem_of_getElem? (i := 16) rfl))) (Or.inr (hw _ (List.mem_of_getElem? (i := 22) rfl))) (by decide) (t := .int) (t' := (.array .int)) (by decide) (by decide)))).other W14 (Or.inr (slot_ne (Or.inr (hw _ (List.mem_of_getElem? (i := 16) rfl))) (Or.inr (hw _ (List.mem_of_getElem? (i := 24) rfl))) (by decide) (t := .int) (t' := (.array .long)) (by decide) (by decide)))).other W17 (Or.inr (slot_ne (Or.inr (hw _ (List.mem_of_getElem? (i := 16) rfl))) (Or.inr (hw _ (List.mem_of_getElem? (i := 26) rfl))) (by decide) (t := .int) (t' := .int) (by decide) (by decide)))).other W20 (Or.inr (slot_ne (Or.inr (hw _ (List.mem_of_getElem? (i := 16) rfl))) (Or.inr (hw _ (List.mem_of_getElem? (i := 28) rfl))) (by decide) (t := .int) (t' := (.array .int)) (by decide) (by decide))))
  have y24 := (((((Fw5.other W8 (Or.inr (slot_ne (Or.inr (hw _ (List.mem_of_getElem? (i := 18) rfl))) (Or.inr (hw _ (List.mem_of_getElem? (i := 20) rfl))) (by decide) (t := (.array .int)) (t' := (.array .int)) (by decide) (by decide)))).other W11 (Or.inr (slot_ne (Or.inr (hw _ (List.mem_of_getElem? (i := 18) rfl))) (Or.inr (hw _ (List.mem_of_getElem? (i := 22) rfl))) (by decide) (t := (.array .int)) (t' := (.array .int)) (by decide) (by decide)))).other W14 (Or.inr (slot_ne (Or.inr (hw _ (List.mem_of_getElem? (i := 18) rfl))) (Or.inr (hw _ (List.mem_of_getElem? (i := 24) rfl))) (by decide) (t := (.array .int)) (t' := (.array .long)) (by decide) (by decide)))).other W17 (Or.inr (slot_ne (Or.inr (hw _ (List.mem_of_getElem? (i := 18) rfl))) (Or.inr (hw _ (List.mem_of_getElem? (i := 26) rfl))) (by decide) (t := (.array .int)) (t' := .int) (by decide) (by decide)))).other W20 (Or.inr (slot_ne (Or.inr (hw _ (List.mem_of_getElem? (i := 18) rfl))) (Or.inr (hw _ (List.mem_of_getElem? (i := 28) rfl))) (by decide) (t := (.array .int)) (t' := (.array .int)) (by decide) (by decide))))
  have y25 := ((((Fw8.other W11 (Or.inr (slot_ne (Or.inr (hw _ (List.mem_of_getElem? (i := 20) rfl))) (Or.inr (hw _ (List.mem_of_getElem? (i := 22) rfl))) (by decide) (t := (.array .int)) (t' := (.array .int)) (by decide) (by decide)))).other W14 (Or.inr (slot_ne (Or.inr (hw _ (List.mem_of_getElem? (i := 20) rfl))) (Or.inr (hw _ (List.mem_of_getElem? (i := 24) rfl))) (by decide) (t := (.array .int)) (t' := (.array .long)) (by decide) (by decide)))).other W17 (Or.inr (slot_ne (Or.inr (hw _ (List.mem_of_getElem? (i := 20) rfl))) (Or.inr (hw _ (List.mem_of_getElem? (i := 26) rfl))) (by decide) (t := (.array .int)) (t' := .int) (by decide) (by decide)))).other W20 (Or.inr (slot_ne (Or.inr (hw _ (List.mem_of_getElem? (i := 20) rfl))) (Or.inr (hw _ (List.mem_of_getElem? (i := 28) rfl))) (by decide) (t := (.array .int)) (t' := (.array .int)) (by decide) (by decide))))
  have y26 := (((Fw11.other W14 (Or.inr (slot_ne (Or.inr (hw _ (List.mem_of_getElem? (i := 22) rfl))) (Or.inr (hw _ (List.mem_of_getElem? (i := 24) rfl))) (by decide) (t := (.array .int)) (t' := (.array .long)) (by decide) (by decide)))).other W17 (Or.inr (slot_ne (Or.inr (hw _ (List.mem_of_getElem? (i := 22) rfl))) (Or.inr (hw _ (List.mem_of_getElem? (i := 26) rfl))) (by decide) (t := (.array .int)) (t' := .int) (by decide) (by decide)))).other W20 (Or.inr (slot_ne (Or.inr (hw _ (List.mem_of_getElem? (i := 22) rfl))) (Or.inr (hw _ (List.mem_of_getElem? (i := 28) rfl))) (by decide) (t := (.array .int)) (t' := (.array .int)) (by decide) (by decide))))
  have y27 := ((Fw14.other W17 (Or.inr (slot_ne (Or.inr (hw _ (List.mem_of_getElem? (i := 24) rfl))) (Or.inr (hw _ (List.mem_of_getElem? (i := 26) rfl))) (by decide) (t := (.array .long)) (t' := .int) (by decide) (by decide)))).other W20 (Or.inr (slot_ne (Or.inr (hw _ (List.mem_of_getElem? (i := 24) rfl))) (Or.inr (hw _ (List.mem_of_getElem? (i := 28) rfl))) (by decide) (t := (.array .long)) (t' := (.array .int)) (by decide) (by decide))))
  have y28 := (Fw17.other W20 (Or.inr (slot_ne (Or.inr (hw _ (List.mem_of_getElem? (i := 26) rfl))) (Or.inr (hw _ (List.mem_of_getElem? (i := 28) rfl))) (by decide) (t := .int) (t' := (.array .int)) (by decide) (by decide))))
  exact ⟨_, _, pre21 _ (X20.returnOut hx Bd.returns (hb hby d2_43) hr), hrun, hended, _, _, rfl, (by show Q2 Z a0 p1 a2 a3 a4 a5 p6 a7 wa0_assignmentCount wa0_firstChoice wa0_outputs wa0_targets wa0_weights wa0_parityCount wa0_priorities h0 n0 _ T20.heap _; rw [e20]; exact ⟨rfl, N20, KC20, y22, y23, y24, y25, y26, y27, y28, Fw20⟩), ⟨_, rfl⟩, hW, hsame.mono (by decide) (by decide)⟩
def F4 (p1 : Int32) (p2 : Int32) (wa0_assignmentCount : Int32) (xs_wa0_firstChoice : List Int32) (z_wa0_firstChoice : Int32) : Int32 := ((xs_wa0_firstChoice : List Int32).getD (((p1 * wa0_assignmentCount) + p2)).toNatClampNeg 0)
theorem ef4 (m : MethodId) (x0 : Addr) (x1 : Int32) (x2 : Int32) : entryFrame m #[(.ref x0), (.int x1), (.int x2)] 3 = mkF m 0 #[.val (.ref x0), .val (.int x1), .val (.int x2)] [] := by first | (simp [entryFrame, mkF, argsToLocals, Value.category]; done) | rfl
def Q4 (Z : State) (a0 : Addr) (p1 : Int32) (p2 : Int32) (wa0_firstChoice : Addr) (wa0_assignmentCount : Int32) (xs_wa0_firstChoice : List Int32) (z_wa0_firstChoice : Int32) (k_wa0_firstChoice : ClassId) (h0 : Heap) (n0 : Nat) (v : Option Value) (h : Heap) (L : List Loc) : Prop := v = some (.int (F4 p1 p2 wa0_assignmentCount xs_wa0_firstChoice z_wa0_firstChoice)) ∧ Fr n0 L ∧ h = h0
set_option maxRecDepth 65536 in
set_option maxHeartbeats 40000000 in
theorem rm4 (l : Launch) (Z : State) (a0' : Array Value) (hw : ∀ d ∈ tables_1, d.before a0' Z = true) (ws : List Jvm.Cond) (a0 : Addr) (p1 : Int32) (p2 : Int32) (wa0_firstChoice : Addr) (wa0_assignmentCount : Int32) (xs_wa0_firstChoice : List Int32) (z_wa0_firstChoice : Int32) (k_wa0_firstChoice : ClassId) (h0 : Heap) (n0 : Nat) (Z0 : n0 ≤ h0.size) (V_wa0_firstChoice : Arv Z h0 wa0_firstChoice k_wa0_firstChoice .int z_wa0_firstChoice (xs_wa0_firstChoice.map Value.int) (.int 0)) (F_wa0_firstChoice : Fld Z h0 a0 "com/example/frugal_synth/frugalsynth/Arena" "firstChoice" "[I" (.ref wa0_firstChoice)) (F_wa0_assignmentCount : Fld Z h0 a0 "com/example/frugal_synth/frugalsynth/Arena" "assignmentCount" "I" (.int wa0_assignmentCount)) (hin_12 : ¬ ((p1 * wa0_assignmentCount) + p2) < 0 ∧ ((p1 * wa0_assignmentCount) + p2) < z_wa0_firstChoice) :
    MetFree l (⟨"com/example/frugal_synth/frugalsynth/Arena", "firstChoice", "(II)I"⟩ : MethodName) (head1 (Jvm.Cond.code (⟨"com/example/frugal_synth/frugalsynth/Arena", "firstChoice", "(II)I"⟩ : MethodName) prog_2_method_7_code 3 (some .int) :: ws) ({ frames := 0, cells := 0, slots := 0, locals := 0 } : Room)) (fun a U => a = #[(.ref a0), (.int p1), (.int p2)] ∧ Z.Warmed39 U.vm ∧ U.heap = h0) (fun _ _ _ _ _ => True) (fun _ U o U' => ∃ v L, o = .returned v ∧ Q4 Z a0 p1 p2 wa0_firstChoice wa0_assignmentCount xs_wa0_firstChoice z_wa0_firstChoice k_wa0_firstChoice h0 n0 v U'.heap L ∧ FrameEnd U o U' L ({ frames := 0, cells := 0, slots := 0, locals := 0 } : Room).cells ({ frames := 0, cells := 0, slots := 0, locals := 0 } : Room).slots) := by
  refine MetFree.of_bodySF (plainFor_of_name pn1) hisR ?_
  intro p e s m args below meth c s₁ Bd hml0 hP hK
  obtain ⟨rfl, hZ, hh⟩ := hP
  have hx := Bd.exec
  have hby := Bd.bytes
  have hml : c.maxLocals = 3 := hml0
  have hown : s.vm.findClass "com/example/frugal_synth/frugalsynth/Arena" = some m.cls := findClass_of_methodNamed Bd.named
  have hnm := (name_of_methodNamed Bd.named Bd.method).1
  have X0 : Stand p l e ({ frames := 0, cells := 0, slots := 0, locals := 0 } : Room) s m #[(.ref a0), (.int p1), (.int p2)] below meth c s₁ [] 0 0 := Stand.of_body Bd
  have e0 : s₁.heap = h0 := by rw [← hh, Bd.state]; rfl
  have N0 := Fr.nil n0
  have hlk : meth.locks = false := by first | exact BodyLoose.notSynchronized Bd | exact Body.notSynchronized Bd
  have pre0 : ∀ t, Steps p.tables e below (s₁.setTop (mkF m 0 #[.val (.ref a0), .val (.int p1), .val (.int p2)] [])) t → Steps p.tables e below (s₁.setTop (entryFrame m #[(.ref a0), (.int p1), (.int p2)] 3)) t := fun t k => castTop (ef4 m a0 p1 p2) k
  obtain ⟨T1, X1, e1, st1⟩ := getF X0 hx hZ hown (host := "") (Or.inl (hw _ (List.mem_of_getElem? (i := 17) rfl))) Via.refl e0 F_wa0_firstChoice (g := (mkF m 1 #[.val (.ref a0), .val (.int p1), .val (.int p2)] [(.ref a0)])) rfl rfl (hb hby d4_1)
  obtain ⟨T2, X2, e2, st2⟩ := getF X1 hx hZ hown (host := "") (Or.inl (hw _ (List.mem_of_getElem? (i := 15) rfl))) Via.refl e1 F_wa0_assignmentCount (g := (mkF m 6 #[.val (.ref a0), .val (.int p1), .val (.int p2)] [(.ref a0), (.int p1), (.ref wa0_firstChoice)])) rfl rfl (hb hby d4_6)
  obtain ⟨cl3, Ar3, q3, S3, M3, H3, G3⟩ := id V_wa0_firstChoice
  have hin3 : ¬ (((p1 * wa0_assignmentCount) + p2) < 0 ∨ cl3.slots.size ≤ (((p1 * wa0_assignmentCount) + p2)).toNatClampNeg) := inb_of S3 hin_12
  have hat3 : cl3.slots[(((p1 * wa0_assignmentCount) + p2)).toNatClampNeg]? = some (.int ((xs_wa0_firstChoice : List Int32).getD (((p1 * wa0_assignmentCount) + p2)).toNatClampNeg 0)) := H3.at hin3 (own_getDI xs_wa0_firstChoice _)
  have pre4 : ∀ t, Steps p.tables e below (T2.setTop (mkF m 13 #[.val (.ref a0), .val (.int p1), .val (.int p2)] [(.int ((xs_wa0_firstChoice : List Int32).getD (((p1 * wa0_assignmentCount) + p2)).toNatClampNeg 0))])) t → Steps p.tables e below (s₁.setTop (entryFrame m #[(.ref a0), (.int p1), (.int p2)] 3)) t := fun t k => pre0 t (by
    show Steps p.tables e below (s₁.setTop (mkF m 0 #[.val (.ref a0), .val (.int p1), .val (.int p2)] [])) _
    refine XS.aloadN X0.here hx rfl (hb hby d4_0) rfl rfl ?_
    show Steps p.tables e below (s₁.setTop (mkF m 1 #[.val (.ref a0), .val (.int p1), .val (.int p2)] [(.ref a0)])) _
    refine st1 _ ?_
    show Steps p.tables e below (T1.setTop (mkF m 4 #[.val (.ref a0), .val (.int p1), .val (.int p2)] [(.ref wa0_firstChoice)])) _
    refine XS.iloadN X1.here hx rfl (hb hby d4_4) rfl ?_
    show Steps p.tables e below (T1.setTop (mkF m 5 #[.val (.ref a0), .val (.int p1), .val (.int p2)] [(.int p1), (.ref wa0_firstChoice)])) _
    refine XS.aloadN X1.here hx rfl (hb hby d4_5) rfl rfl ?_
    show Steps p.tables e below (T1.setTop (mkF m 6 #[.val (.ref a0), .val (.int p1), .val (.int p2)] [(.ref a0), (.int p1), (.ref wa0_firstChoice)])) _
    refine st2 _ ?_
    show Steps p.tables e below (T2.setTop (mkF m 9 #[.val (.ref a0), .val (.int p1), .val (.int p2)] [(.int wa0_assignmentCount), (.int p1), (.ref wa0_firstChoice)])) _
    refine XS.imul X2.here hx rfl (hb hby d4_9) rfl ?_
    show Steps p.tables e below (T2.setTop (mkF m 10 #[.val (.ref a0), .val (.int p1), .val (.int p2)] [(.int (p1 * wa0_assignmentCount)), (.ref wa0_firstChoice)])) _
    refine XS.iloadN X2.here hx rfl (hb hby d4_10) rfl ?_
    show Steps p.tables e below (T2.setTop (mkF m 11 #[.val (.ref a0), .val (.int p1), .val (.int p2)] [(.int p2), (.int (p1 * wa0_assignmentCount)), (.ref wa0_firstChoice)])) _
    refine XS.iadd X2.here hx rfl (hb hby d4_11) rfl ?_
    show Steps p.tables e below (T2.setTop (mkF m 12 #[.val (.ref a0), .val (.int p1), .val (.int p2)] [(.int ((p1 * wa0_assignmentCount) + p2)), (.ref wa0_firstChoice)])) _
    refine X2.iaload hx (j := ((p1 * wa0_assignmentCount) + p2)) (v := (.int ((xs_wa0_firstChoice : List Int32).getD (((p1 * wa0_assignmentCount) + p2)).toNatClampNeg 0))) (by rw [e2]; exact Ar3.1) (State.isArrayOf_alike hZ.alike Ar3.2.1) Ar3.2.2 hin3 hat3 (g := (mkF m 12 #[.val (.ref a0), .val (.int p1), .val (.int p2)] [(.int ((p1 * wa0_assignmentCount) + p2)), (.ref wa0_firstChoice)])) rfl rfl (hb hby d4_12) _ ?_
    exact k)
  obtain ⟨fs, hr, hrun, hended, hW, hsame⟩ := X2.leave (v := some (.int ((xs_wa0_firstChoice : List Int32).getD (((p1 * wa0_assignmentCount) + p2)).toNatClampNeg 0))) (fun h => by rw [Bd.returns] at h; cases h) hlk
  have hF : (F4 p1 p2 wa0_assignmentCount xs_wa0_firstChoice z_wa0_firstChoice) = ((xs_wa0_firstChoice : List Int32).getD (((p1 * wa0_assignmentCount) + p2)).toNatClampNeg 0) := by rfl
  exact ⟨_, _, pre4 _ (retI X2 hx Bd.returns (hb hby d4_13) hr), hrun, hended, _, _, rfl, ⟨by rw [hF], N0, e2⟩, ⟨_, rfl⟩, hW, hsame.mono (by decide) (by decide)⟩
def f5_m6 (p0 : Int32) (p1 : Int32) : Int32 := (if (0 : Int32) < p1 then ((0 : Int32) + (F1 p0 (0 : Int32))) else (0 : Int32))
def f5_m12 (p0 : Int32) (p1 : Int32) : Int32 := (if (1 : Int32) < p1 then ((f5_m6 p0 p1) + (F1 p0 (1 : Int32))) else (f5_m6 p0 p1))
def f5_m18 (p0 : Int32) (p1 : Int32) : Int32 := (if (2 : Int32) < p1 then ((f5_m12 p0 p1) + (F1 p0 (2 : Int32))) else (f5_m12 p0 p1))
def f5_m24 (p0 : Int32) (p1 : Int32) : Int32 := (if (3 : Int32) < p1 then ((f5_m18 p0 p1) + (F1 p0 (3 : Int32))) else (f5_m18 p0 p1))
def f5_m30 (p0 : Int32) (p1 : Int32) : Int32 := (if (4 : Int32) < p1 then ((f5_m24 p0 p1) + (F1 p0 (4 : Int32))) else (f5_m24 p0 p1))
def f5_m36 (p0 : Int32) (p1 : Int32) : Int32 := (if (5 : Int32) < p1 then ((f5_m30 p0 p1) + (F1 p0 (5 : Int32))) else (f5_m30 p0 p1))
def f5_m42 (p0 : Int32) (p1 : Int32) : Int32 := (if (6 : Int32) < p1 then ((f5_m36 p0 p1) + (F1 p0 (6 : Int32))) else (f5_m36 p0 p1))
def f5_m48 (p0 : Int32) (p1 : Int32) : Int32 := (if (7 : Int32) < p1 then ((f5_m42 p0 p1) + (F1 p0 (7 : Int32))) else (f5_m42 p0 p1))
def F5 (p0 : Int32) (p1 : Int32) : Int32 := (f5_m48 p0 p1)
theorem ef5 (m : MethodId) (x0 : Int32) (x1 : Int32) : entryFrame m #[(.int x0), (.int x1)] 3 = mkF m 0 #[.val (.int x0), .val (.int x1), .unset] [] := by first | (simp [entryFrame, mkF, argsToLocals, Value.category]; done) | rfl
def Q5 (Z : State) (p0 : Int32) (p1 : Int32) (h0 : Heap) (n0 : Nat) (v : Option Value) (h : Heap) (L : List Loc) : Prop := v = some (.int (F5 p0 p1)) ∧ Fr n0 L ∧ h = h0
set_option maxRecDepth 65536 in
set_option maxHeartbeats 40000000 in
theorem rm5 (l : Launch) (Z : State) (a0' : Array Value) (hw : ∀ d ∈ tables_1, d.before a0' Z = true) (ws : List Jvm.Cond) (p0 : Int32) (p1 : Int32) (h0 : Heap) (n0 : Nat) (Z0 : n0 ≤ h0.size) :
    MetFree l (⟨"com/example/frugal_synth/frugalsynth/ArenaFirstChoicePinLaw", "prefix", "(II)I"⟩ : MethodName) (head1 (Jvm.Cond.code (⟨"com/example/frugal_synth/frugalsynth/ArenaFirstChoicePinLaw", "prefix", "(II)I"⟩ : MethodName) method_3_code 3 (some .int) :: ws) ({ frames := 1, cells := 0, slots := 0, locals := 14 } : Room)) (fun a U => a = #[(.int p0), (.int p1)] ∧ Z.Warmed39 U.vm ∧ U.heap = h0) (fun _ _ _ _ _ => True) (fun _ U o U' => ∃ v L, o = .returned v ∧ Q5 Z p0 p1 h0 n0 v U'.heap L ∧ FrameEnd U o U' L ({ frames := 1, cells := 0, slots := 0, locals := 14 } : Room).cells ({ frames := 1, cells := 0, slots := 0, locals := 14 } : Room).slots) := by
  refine MetFree.of_bodySF (plainFor_of_name pn0) hisR ?_
  intro p e s m args below meth c s₁ Bd hml0 hP hK
  obtain ⟨rfl, hZ, hh⟩ := hP
  have hx := Bd.exec
  have hby := Bd.bytes
  have hml : c.maxLocals = 3 := hml0
  have hown : s.vm.findClass "com/example/frugal_synth/frugalsynth/ArenaFirstChoicePinLaw" = some m.cls := findClass_of_methodNamed Bd.named
  have hnm := (name_of_methodNamed Bd.named Bd.method).1
  have X0 : Stand p l e ({ frames := 1, cells := 0, slots := 0, locals := 14 } : Room) s m #[(.int p0), (.int p1)] below meth c s₁ [] 0 0 := Stand.of_body Bd
  have e0 : s₁.heap = h0 := by rw [← hh, Bd.state]; rfl
  have N0 := Fr.nil n0
  have hlk : meth.locks = false := by first | exact BodyLoose.notSynchronized Bd | exact Body.notSynchronized Bd
  have pre0 : ∀ t, Steps p.tables e below (s₁.setTop (mkF m 0 #[.val (.int p0), .val (.int p1), .unset] [])) t → Steps p.tables e below (s₁.setTop (entryFrame m #[(.int p0), (.int p1)] 3)) t := fun t k => castTop (ef5 m p0 p1) k
  have pre1 : ∀ t, Steps p.tables e below (s₁.setTop (mkF m 3 #[.val (.int p0), .val (.int p1), .val (.int (0 : Int32))] [(.int p1)])) t → Steps p.tables e below (s₁.setTop (entryFrame m #[(.int p0), (.int p1)] 3)) t := fun t k => pre0 t (by
    show Steps p.tables e below (s₁.setTop (mkF m 0 #[.val (.int p0), .val (.int p1), .unset] [])) _
    refine XS.iconst X0.here hx rfl (hb hby d5_0) ?_
    show Steps p.tables e below (s₁.setTop (mkF m 1 #[.val (.int p0), .val (.int p1), .unset] [(.int (0 : Int32))])) _
    refine XS.istoreN X0.here hx rfl (hb hby d5_1) rfl (l' := #[.val (.int p0), .val (.int p1), .val (.int (0 : Int32))]) rfl ?_
    show Steps p.tables e below (s₁.setTop (mkF m 2 #[.val (.int p0), .val (.int p1), .val (.int (0 : Int32))] [])) _
    refine XS.iloadN X0.here hx rfl (hb hby d5_2) rfl ?_
    exact k)
  obtain ⟨T2, L2, X2, e2, N2, pre2⟩ : ∃ (T' : State) (locs' : List Loc), Stand p l e ({ frames := 1, cells := 0, slots := 0, locals := 14 } : Room) s m #[(.int p0), (.int p1)] below meth c T' locs' 0 0 ∧ T'.heap = h0 ∧ Fr n0 locs' ∧ ∀ t, Steps p.tables e below (T'.setTop (mkF m 14 #[.val (.int p0), .val (.int p1), .val (.int (f5_m6 p0 p1))] [])) t → Steps p.tables e below (s₁.setTop (entryFrame m #[(.int p0), (.int p1)] 3)) t := by
    by_cases hc3_2 : (0 : Int32) < p1
    · obtain ⟨_, _, ⟨T3, L3, k3, n3⟩, -, X3, ⟨Lc3, hQ3, l3, y3, z3⟩, st3⟩ := Jvm.LawKit.callS X0 hx (y := (⟨"com/example/frugal_synth/frugalsynth/ArenaFirstChoicePinLaw", "nib", "(II)I"⟩ : MethodName)) hown (mvT hZ (hw _ (List.mem_of_getElem? (i := 1) rfl))) (mvT hZ (hw _ (List.mem_of_getElem? (i := 2) rfl))) (mvT hZ (hw _ (List.mem_of_getElem? (i := 3) rfl))) (mvT hZ (hw _ (List.mem_of_getElem? (i := 4) rfl))) (by decide) (backOf (W := 1) (rm1 l Z a0' hw [] p0 (0 : Int32) h0 n0 Z0) hZ (hw _ (List.mem_of_getElem? (i := 4) rfl)) (hw _ (List.mem_of_getElem? (i := 3) rfl)) (by decide) (by decide)) (g := (mkF m 9 #[.val (.int p0), .val (.int p1), .val (.int (0 : Int32))] [(.int (0 : Int32)), (.int p0), (.int (0 : Int32))])) rfl (by rw [hml]; rfl) (argsL := [(.int p0), (.int (0 : Int32))]) (rest := [(.int (0 : Int32))]) (lenOf pd0 rfl) rfl (by show 2 * 0 + _ ≤ _; exact Nat.le_of_eq rfl) (hb hby d5_9) (fun _ _ => ⟨rfl, e0, (by decide : 0 + 0 ≤ _), (by decide : 0 + 0 ≤ _)⟩)
      dsimp only [Pt.U, Pt.locs, Pt.cells, Pt.slots] at X3 l3 y3 z3 st3 hQ3
      subst l3 y3 z3
      obtain ⟨rfl, N3q, e3⟩ := hQ3
      have N3 := Fr.app N0 N3q
      have pre4 : ∀ t, Steps p.tables e below (T3.setTop (mkF m 14 #[.val (.int p0), .val (.int p1), .val (.int ((0 : Int32) + (F1 p0 (0 : Int32))))] [])) t → Steps p.tables e below (s₁.setTop (entryFrame m #[(.int p0), (.int p1)] 3)) t := fun t k => pre1 t (by
        show Steps p.tables e below (s₁.setTop (mkF m 3 #[.val (.int p0), .val (.int p1), .val (.int (0 : Int32))] [(.int p1)])) _
        refine XS.ifNo X0.here hx rfl (hb hby d5_3) rfl ((if0 _ _).trans (tlt hc3_2).2.2.2) ?_
        show Steps p.tables e below (s₁.setTop (mkF m 6 #[.val (.int p0), .val (.int p1), .val (.int (0 : Int32))] [])) _
        refine XS.iloadN X0.here hx rfl (hb hby d5_6) rfl ?_
        show Steps p.tables e below (s₁.setTop (mkF m 7 #[.val (.int p0), .val (.int p1), .val (.int (0 : Int32))] [(.int (0 : Int32))])) _
        refine XS.iloadN X0.here hx rfl (hb hby d5_7) rfl ?_
        show Steps p.tables e below (s₁.setTop (mkF m 8 #[.val (.int p0), .val (.int p1), .val (.int (0 : Int32))] [(.int p0), (.int (0 : Int32))])) _
        refine XS.iconst X0.here hx rfl (hb hby d5_8) ?_
        show Steps p.tables e below (s₁.setTop (mkF m 9 #[.val (.int p0), .val (.int p1), .val (.int (0 : Int32))] [(.int (0 : Int32)), (.int p0), (.int (0 : Int32))])) _
        refine st3 _ ?_
        show Steps p.tables e below (T3.setTop (mkF m 12 #[.val (.int p0), .val (.int p1), .val (.int (0 : Int32))] [(.int (F1 p0 (0 : Int32))), (.int (0 : Int32))])) _
        refine XS.iadd X3.here hx rfl (hb hby d5_12) rfl ?_
        show Steps p.tables e below (T3.setTop (mkF m 13 #[.val (.int p0), .val (.int p1), .val (.int (0 : Int32))] [(.int ((0 : Int32) + (F1 p0 (0 : Int32))))])) _
        refine XS.istoreN X3.here hx rfl (hb hby d5_13) rfl (l' := #[.val (.int p0), .val (.int p1), .val (.int ((0 : Int32) + (F1 p0 (0 : Int32))))]) rfl ?_
        exact k)
      have q_f5_m6 : f5_m6 p0 p1 = ((0 : Int32) + (F1 p0 (0 : Int32))) := by unfold f5_m6; rw [if_pos hc3_2]
      rw [q_f5_m6]
      exact ⟨T3, _, X3, e3, N3, pre4⟩
    have pre5 : ∀ t, Steps p.tables e below (s₁.setTop (mkF m 14 #[.val (.int p0), .val (.int p1), .val (.int (0 : Int32))] [])) t → Steps p.tables e below (s₁.setTop (entryFrame m #[(.int p0), (.int p1)] 3)) t := fun t k => pre1 t (by
      show Steps p.tables e below (s₁.setTop (mkF m 3 #[.val (.int p0), .val (.int p1), .val (.int (0 : Int32))] [(.int p1)])) _
      refine XS.ifYes X0.here hx rfl (pc0 := 3) (pc' := 14) rfl (hb hby d5_3) rfl ((if0 _ _).trans (flt hc3_2).2.2.2) (by decide) (by decide) ?_
      exact k)
    have q_f5_m6 : f5_m6 p0 p1 = (0 : Int32) := by unfold f5_m6; rw [if_neg hc3_2]
    rw [q_f5_m6]
    exact ⟨s₁, _, X0, e0, N0, pre5⟩
  have pre7 : ∀ t, Steps p.tables e below (T2.setTop (mkF m 16 #[.val (.int p0), .val (.int p1), .val (.int (f5_m6 p0 p1))] [(.int (1 : Int32)), (.int p1)])) t → Steps p.tables e below (s₁.setTop (entryFrame m #[(.int p0), (.int p1)] 3)) t := fun t k => pre2 t (by
    show Steps p.tables e below (T2.setTop (mkF m 14 #[.val (.int p0), .val (.int p1), .val (.int (f5_m6 p0 p1))] [])) _
    refine XS.iloadN X2.here hx rfl (hb hby d5_14) rfl ?_
    show Steps p.tables e below (T2.setTop (mkF m 15 #[.val (.int p0), .val (.int p1), .val (.int (f5_m6 p0 p1))] [(.int p1)])) _
    refine XS.iconst X2.here hx rfl (hb hby d5_15) ?_
    exact k)
  obtain ⟨T8, L8, X8, e8, N8, pre8⟩ : ∃ (T' : State) (locs' : List Loc), Stand p l e ({ frames := 1, cells := 0, slots := 0, locals := 14 } : Room) s m #[(.int p0), (.int p1)] below meth c T' locs' 0 0 ∧ T'.heap = h0 ∧ Fr n0 locs' ∧ ∀ t, Steps p.tables e below (T'.setTop (mkF m 27 #[.val (.int p0), .val (.int p1), .val (.int (f5_m12 p0 p1))] [])) t → Steps p.tables e below (s₁.setTop (entryFrame m #[(.int p0), (.int p1)] 3)) t := by
    by_cases hc16_8 : (1 : Int32) < p1
    · obtain ⟨_, _, ⟨T9, L9, k9, n9⟩, -, X9, ⟨Lc9, hQ9, l9, y9, z9⟩, st9⟩ := Jvm.LawKit.callS X2 hx (y := (⟨"com/example/frugal_synth/frugalsynth/ArenaFirstChoicePinLaw", "nib", "(II)I"⟩ : MethodName)) hown (mvT hZ (hw _ (List.mem_of_getElem? (i := 1) rfl))) (mvT hZ (hw _ (List.mem_of_getElem? (i := 2) rfl))) (mvT hZ (hw _ (List.mem_of_getElem? (i := 3) rfl))) (mvT hZ (hw _ (List.mem_of_getElem? (i := 4) rfl))) (by decide) (backOf (W := 1) (rm1 l Z a0' hw [] p0 (1 : Int32) h0 n0 Z0) hZ (hw _ (List.mem_of_getElem? (i := 4) rfl)) (hw _ (List.mem_of_getElem? (i := 3) rfl)) (by decide) (by decide)) (g := (mkF m 22 #[.val (.int p0), .val (.int p1), .val (.int (f5_m6 p0 p1))] [(.int (1 : Int32)), (.int p0), (.int (f5_m6 p0 p1))])) rfl (by rw [hml]; rfl) (argsL := [(.int p0), (.int (1 : Int32))]) (rest := [(.int (f5_m6 p0 p1))]) (lenOf pd0 rfl) rfl (by show 2 * 0 + _ ≤ _; exact Nat.le_of_eq rfl) (hb hby d5_22) (fun _ _ => ⟨rfl, e2, (by decide : 0 + 0 ≤ _), (by decide : 0 + 0 ≤ _)⟩)
      dsimp only [Pt.U, Pt.locs, Pt.cells, Pt.slots] at X9 l9 y9 z9 st9 hQ9
      subst l9 y9 z9
      obtain ⟨rfl, N9q, e9⟩ := hQ9
      have N9 := Fr.app N2 N9q
      have pre10 : ∀ t, Steps p.tables e below (T9.setTop (mkF m 27 #[.val (.int p0), .val (.int p1), .val (.int ((f5_m6 p0 p1) + (F1 p0 (1 : Int32))))] [])) t → Steps p.tables e below (s₁.setTop (entryFrame m #[(.int p0), (.int p1)] 3)) t := fun t k => pre7 t (by
        show Steps p.tables e below (T2.setTop (mkF m 16 #[.val (.int p0), .val (.int p1), .val (.int (f5_m6 p0 p1))] [(.int (1 : Int32)), (.int p1)])) _
        refine XS.icmpNo X2.here hx rfl (hb hby d5_16) rfl (tlt hc16_8).2.2.2 ?_
        show Steps p.tables e below (T2.setTop (mkF m 19 #[.val (.int p0), .val (.int p1), .val (.int (f5_m6 p0 p1))] [])) _
        refine XS.iloadN X2.here hx rfl (hb hby d5_19) rfl ?_
        show Steps p.tables e below (T2.setTop (mkF m 20 #[.val (.int p0), .val (.int p1), .val (.int (f5_m6 p0 p1))] [(.int (f5_m6 p0 p1))])) _
        refine XS.iloadN X2.here hx rfl (hb hby d5_20) rfl ?_
        show Steps p.tables e below (T2.setTop (mkF m 21 #[.val (.int p0), .val (.int p1), .val (.int (f5_m6 p0 p1))] [(.int p0), (.int (f5_m6 p0 p1))])) _
        refine XS.iconst X2.here hx rfl (hb hby d5_21) ?_
        show Steps p.tables e below (T2.setTop (mkF m 22 #[.val (.int p0), .val (.int p1), .val (.int (f5_m6 p0 p1))] [(.int (1 : Int32)), (.int p0), (.int (f5_m6 p0 p1))])) _
        refine st9 _ ?_
        show Steps p.tables e below (T9.setTop (mkF m 25 #[.val (.int p0), .val (.int p1), .val (.int (f5_m6 p0 p1))] [(.int (F1 p0 (1 : Int32))), (.int (f5_m6 p0 p1))])) _
        refine XS.iadd X9.here hx rfl (hb hby d5_25) rfl ?_
        show Steps p.tables e below (T9.setTop (mkF m 26 #[.val (.int p0), .val (.int p1), .val (.int (f5_m6 p0 p1))] [(.int ((f5_m6 p0 p1) + (F1 p0 (1 : Int32))))])) _
        refine XS.istoreN X9.here hx rfl (hb hby d5_26) rfl (l' := #[.val (.int p0), .val (.int p1), .val (.int ((f5_m6 p0 p1) + (F1 p0 (1 : Int32))))]) rfl ?_
        exact k)
      have q_f5_m12 : f5_m12 p0 p1 = ((f5_m6 p0 p1) + (F1 p0 (1 : Int32))) := by unfold f5_m12; rw [if_pos hc16_8]
      rw [q_f5_m12]
      exact ⟨T9, _, X9, e9, N9, pre10⟩
    have pre11 : ∀ t, Steps p.tables e below (T2.setTop (mkF m 27 #[.val (.int p0), .val (.int p1), .val (.int (f5_m6 p0 p1))] [])) t → Steps p.tables e below (s₁.setTop (entryFrame m #[(.int p0), (.int p1)] 3)) t := fun t k => pre7 t (by
      show Steps p.tables e below (T2.setTop (mkF m 16 #[.val (.int p0), .val (.int p1), .val (.int (f5_m6 p0 p1))] [(.int (1 : Int32)), (.int p1)])) _
      refine XS.icmpYes X2.here hx rfl (pc0 := 16) (pc' := 27) rfl (hb hby d5_16) rfl (flt hc16_8).2.2.2 (by decide) (by decide) ?_
      exact k)
    have q_f5_m12 : f5_m12 p0 p1 = (f5_m6 p0 p1) := by unfold f5_m12; rw [if_neg hc16_8]
    rw [q_f5_m12]
    exact ⟨T2, _, X2, e2, N2, pre11⟩
  have pre13 : ∀ t, Steps p.tables e below (T8.setTop (mkF m 29 #[.val (.int p0), .val (.int p1), .val (.int (f5_m12 p0 p1))] [(.int (2 : Int32)), (.int p1)])) t → Steps p.tables e below (s₁.setTop (entryFrame m #[(.int p0), (.int p1)] 3)) t := fun t k => pre8 t (by
    show Steps p.tables e below (T8.setTop (mkF m 27 #[.val (.int p0), .val (.int p1), .val (.int (f5_m12 p0 p1))] [])) _
    refine XS.iloadN X8.here hx rfl (hb hby d5_27) rfl ?_
    show Steps p.tables e below (T8.setTop (mkF m 28 #[.val (.int p0), .val (.int p1), .val (.int (f5_m12 p0 p1))] [(.int p1)])) _
    refine XS.iconst X8.here hx rfl (hb hby d5_28) ?_
    exact k)
  obtain ⟨T14, L14, X14, e14, N14, pre14⟩ : ∃ (T' : State) (locs' : List Loc), Stand p l e ({ frames := 1, cells := 0, slots := 0, locals := 14 } : Room) s m #[(.int p0), (.int p1)] below meth c T' locs' 0 0 ∧ T'.heap = h0 ∧ Fr n0 locs' ∧ ∀ t, Steps p.tables e below (T'.setTop (mkF m 40 #[.val (.int p0), .val (.int p1), .val (.int (f5_m18 p0 p1))] [])) t → Steps p.tables e below (s₁.setTop (entryFrame m #[(.int p0), (.int p1)] 3)) t := by
    by_cases hc29_14 : (2 : Int32) < p1
    · obtain ⟨_, _, ⟨T15, L15, k15, n15⟩, -, X15, ⟨Lc15, hQ15, l15, y15, z15⟩, st15⟩ := Jvm.LawKit.callS X8 hx (y := (⟨"com/example/frugal_synth/frugalsynth/ArenaFirstChoicePinLaw", "nib", "(II)I"⟩ : MethodName)) hown (mvT hZ (hw _ (List.mem_of_getElem? (i := 1) rfl))) (mvT hZ (hw _ (List.mem_of_getElem? (i := 2) rfl))) (mvT hZ (hw _ (List.mem_of_getElem? (i := 3) rfl))) (mvT hZ (hw _ (List.mem_of_getElem? (i := 4) rfl))) (by decide) (backOf (W := 1) (rm1 l Z a0' hw [] p0 (2 : Int32) h0 n0 Z0) hZ (hw _ (List.mem_of_getElem? (i := 4) rfl)) (hw _ (List.mem_of_getElem? (i := 3) rfl)) (by decide) (by decide)) (g := (mkF m 35 #[.val (.int p0), .val (.int p1), .val (.int (f5_m12 p0 p1))] [(.int (2 : Int32)), (.int p0), (.int (f5_m12 p0 p1))])) rfl (by rw [hml]; rfl) (argsL := [(.int p0), (.int (2 : Int32))]) (rest := [(.int (f5_m12 p0 p1))]) (lenOf pd0 rfl) rfl (by show 2 * 0 + _ ≤ _; exact Nat.le_of_eq rfl) (hb hby d5_35) (fun _ _ => ⟨rfl, e8, (by decide : 0 + 0 ≤ _), (by decide : 0 + 0 ≤ _)⟩)
      dsimp only [Pt.U, Pt.locs, Pt.cells, Pt.slots] at X15 l15 y15 z15 st15 hQ15
      subst l15 y15 z15
      obtain ⟨rfl, N15q, e15⟩ := hQ15
      have N15 := Fr.app N8 N15q
      have pre16 : ∀ t, Steps p.tables e below (T15.setTop (mkF m 40 #[.val (.int p0), .val (.int p1), .val (.int ((f5_m12 p0 p1) + (F1 p0 (2 : Int32))))] [])) t → Steps p.tables e below (s₁.setTop (entryFrame m #[(.int p0), (.int p1)] 3)) t := fun t k => pre13 t (by
        show Steps p.tables e below (T8.setTop (mkF m 29 #[.val (.int p0), .val (.int p1), .val (.int (f5_m12 p0 p1))] [(.int (2 : Int32)), (.int p1)])) _
        refine XS.icmpNo X8.here hx rfl (hb hby d5_29) rfl (tlt hc29_14).2.2.2 ?_
        show Steps p.tables e below (T8.setTop (mkF m 32 #[.val (.int p0), .val (.int p1), .val (.int (f5_m12 p0 p1))] [])) _
        refine XS.iloadN X8.here hx rfl (hb hby d5_32) rfl ?_
        show Steps p.tables e below (T8.setTop (mkF m 33 #[.val (.int p0), .val (.int p1), .val (.int (f5_m12 p0 p1))] [(.int (f5_m12 p0 p1))])) _
        refine XS.iloadN X8.here hx rfl (hb hby d5_33) rfl ?_
        show Steps p.tables e below (T8.setTop (mkF m 34 #[.val (.int p0), .val (.int p1), .val (.int (f5_m12 p0 p1))] [(.int p0), (.int (f5_m12 p0 p1))])) _
        refine XS.iconst X8.here hx rfl (hb hby d5_34) ?_
        show Steps p.tables e below (T8.setTop (mkF m 35 #[.val (.int p0), .val (.int p1), .val (.int (f5_m12 p0 p1))] [(.int (2 : Int32)), (.int p0), (.int (f5_m12 p0 p1))])) _
        refine st15 _ ?_
        show Steps p.tables e below (T15.setTop (mkF m 38 #[.val (.int p0), .val (.int p1), .val (.int (f5_m12 p0 p1))] [(.int (F1 p0 (2 : Int32))), (.int (f5_m12 p0 p1))])) _
        refine XS.iadd X15.here hx rfl (hb hby d5_38) rfl ?_
        show Steps p.tables e below (T15.setTop (mkF m 39 #[.val (.int p0), .val (.int p1), .val (.int (f5_m12 p0 p1))] [(.int ((f5_m12 p0 p1) + (F1 p0 (2 : Int32))))])) _
        refine XS.istoreN X15.here hx rfl (hb hby d5_39) rfl (l' := #[.val (.int p0), .val (.int p1), .val (.int ((f5_m12 p0 p1) + (F1 p0 (2 : Int32))))]) rfl ?_
        exact k)
      have q_f5_m18 : f5_m18 p0 p1 = ((f5_m12 p0 p1) + (F1 p0 (2 : Int32))) := by unfold f5_m18; rw [if_pos hc29_14]
      rw [q_f5_m18]
      exact ⟨T15, _, X15, e15, N15, pre16⟩
    have pre17 : ∀ t, Steps p.tables e below (T8.setTop (mkF m 40 #[.val (.int p0), .val (.int p1), .val (.int (f5_m12 p0 p1))] [])) t → Steps p.tables e below (s₁.setTop (entryFrame m #[(.int p0), (.int p1)] 3)) t := fun t k => pre13 t (by
      show Steps p.tables e below (T8.setTop (mkF m 29 #[.val (.int p0), .val (.int p1), .val (.int (f5_m12 p0 p1))] [(.int (2 : Int32)), (.int p1)])) _
      refine XS.icmpYes X8.here hx rfl (pc0 := 29) (pc' := 40) rfl (hb hby d5_29) rfl (flt hc29_14).2.2.2 (by decide) (by decide) ?_
      exact k)
    have q_f5_m18 : f5_m18 p0 p1 = (f5_m12 p0 p1) := by unfold f5_m18; rw [if_neg hc29_14]
    rw [q_f5_m18]
    exact ⟨T8, _, X8, e8, N8, pre17⟩
  have pre19 : ∀ t, Steps p.tables e below (T14.setTop (mkF m 42 #[.val (.int p0), .val (.int p1), .val (.int (f5_m18 p0 p1))] [(.int (3 : Int32)), (.int p1)])) t → Steps p.tables e below (s₁.setTop (entryFrame m #[(.int p0), (.int p1)] 3)) t := fun t k => pre14 t (by
    show Steps p.tables e below (T14.setTop (mkF m 40 #[.val (.int p0), .val (.int p1), .val (.int (f5_m18 p0 p1))] [])) _
    refine XS.iloadN X14.here hx rfl (hb hby d5_40) rfl ?_
    show Steps p.tables e below (T14.setTop (mkF m 41 #[.val (.int p0), .val (.int p1), .val (.int (f5_m18 p0 p1))] [(.int p1)])) _
    refine XS.iconst X14.here hx rfl (hb hby d5_41) ?_
    exact k)
  obtain ⟨T20, L20, X20, e20, N20, pre20⟩ : ∃ (T' : State) (locs' : List Loc), Stand p l e ({ frames := 1, cells := 0, slots := 0, locals := 14 } : Room) s m #[(.int p0), (.int p1)] below meth c T' locs' 0 0 ∧ T'.heap = h0 ∧ Fr n0 locs' ∧ ∀ t, Steps p.tables e below (T'.setTop (mkF m 53 #[.val (.int p0), .val (.int p1), .val (.int (f5_m24 p0 p1))] [])) t → Steps p.tables e below (s₁.setTop (entryFrame m #[(.int p0), (.int p1)] 3)) t := by
    by_cases hc42_20 : (3 : Int32) < p1
    · obtain ⟨_, _, ⟨T21, L21, k21, n21⟩, -, X21, ⟨Lc21, hQ21, l21, y21, z21⟩, st21⟩ := Jvm.LawKit.callS X14 hx (y := (⟨"com/example/frugal_synth/frugalsynth/ArenaFirstChoicePinLaw", "nib", "(II)I"⟩ : MethodName)) hown (mvT hZ (hw _ (List.mem_of_getElem? (i := 1) rfl))) (mvT hZ (hw _ (List.mem_of_getElem? (i := 2) rfl))) (mvT hZ (hw _ (List.mem_of_getElem? (i := 3) rfl))) (mvT hZ (hw _ (List.mem_of_getElem? (i := 4) rfl))) (by decide) (backOf (W := 1) (rm1 l Z a0' hw [] p0 (3 : Int32) h0 n0 Z0) hZ (hw _ (List.mem_of_getElem? (i := 4) rfl)) (hw _ (List.mem_of_getElem? (i := 3) rfl)) (by decide) (by decide)) (g := (mkF m 48 #[.val (.int p0), .val (.int p1), .val (.int (f5_m18 p0 p1))] [(.int (3 : Int32)), (.int p0), (.int (f5_m18 p0 p1))])) rfl (by rw [hml]; rfl) (argsL := [(.int p0), (.int (3 : Int32))]) (rest := [(.int (f5_m18 p0 p1))]) (lenOf pd0 rfl) rfl (by show 2 * 0 + _ ≤ _; exact Nat.le_of_eq rfl) (hb hby d5_48) (fun _ _ => ⟨rfl, e14, (by decide : 0 + 0 ≤ _), (by decide : 0 + 0 ≤ _)⟩)
      dsimp only [Pt.U, Pt.locs, Pt.cells, Pt.slots] at X21 l21 y21 z21 st21 hQ21
      subst l21 y21 z21
      obtain ⟨rfl, N21q, e21⟩ := hQ21
      have N21 := Fr.app N14 N21q
      have pre22 : ∀ t, Steps p.tables e below (T21.setTop (mkF m 53 #[.val (.int p0), .val (.int p1), .val (.int ((f5_m18 p0 p1) + (F1 p0 (3 : Int32))))] [])) t → Steps p.tables e below (s₁.setTop (entryFrame m #[(.int p0), (.int p1)] 3)) t := fun t k => pre19 t (by
        show Steps p.tables e below (T14.setTop (mkF m 42 #[.val (.int p0), .val (.int p1), .val (.int (f5_m18 p0 p1))] [(.int (3 : Int32)), (.int p1)])) _
        refine XS.icmpNo X14.here hx rfl (hb hby d5_42) rfl (tlt hc42_20).2.2.2 ?_
        show Steps p.tables e below (T14.setTop (mkF m 45 #[.val (.int p0), .val (.int p1), .val (.int (f5_m18 p0 p1))] [])) _
        refine XS.iloadN X14.here hx rfl (hb hby d5_45) rfl ?_
        show Steps p.tables e below (T14.setTop (mkF m 46 #[.val (.int p0), .val (.int p1), .val (.int (f5_m18 p0 p1))] [(.int (f5_m18 p0 p1))])) _
        refine XS.iloadN X14.here hx rfl (hb hby d5_46) rfl ?_
        show Steps p.tables e below (T14.setTop (mkF m 47 #[.val (.int p0), .val (.int p1), .val (.int (f5_m18 p0 p1))] [(.int p0), (.int (f5_m18 p0 p1))])) _
        refine XS.iconst X14.here hx rfl (hb hby d5_47) ?_
        show Steps p.tables e below (T14.setTop (mkF m 48 #[.val (.int p0), .val (.int p1), .val (.int (f5_m18 p0 p1))] [(.int (3 : Int32)), (.int p0), (.int (f5_m18 p0 p1))])) _
        refine st21 _ ?_
        show Steps p.tables e below (T21.setTop (mkF m 51 #[.val (.int p0), .val (.int p1), .val (.int (f5_m18 p0 p1))] [(.int (F1 p0 (3 : Int32))), (.int (f5_m18 p0 p1))])) _
        refine XS.iadd X21.here hx rfl (hb hby d5_51) rfl ?_
        show Steps p.tables e below (T21.setTop (mkF m 52 #[.val (.int p0), .val (.int p1), .val (.int (f5_m18 p0 p1))] [(.int ((f5_m18 p0 p1) + (F1 p0 (3 : Int32))))])) _
        refine XS.istoreN X21.here hx rfl (hb hby d5_52) rfl (l' := #[.val (.int p0), .val (.int p1), .val (.int ((f5_m18 p0 p1) + (F1 p0 (3 : Int32))))]) rfl ?_
        exact k)
      have q_f5_m24 : f5_m24 p0 p1 = ((f5_m18 p0 p1) + (F1 p0 (3 : Int32))) := by unfold f5_m24; rw [if_pos hc42_20]
      rw [q_f5_m24]
      exact ⟨T21, _, X21, e21, N21, pre22⟩
    have pre23 : ∀ t, Steps p.tables e below (T14.setTop (mkF m 53 #[.val (.int p0), .val (.int p1), .val (.int (f5_m18 p0 p1))] [])) t → Steps p.tables e below (s₁.setTop (entryFrame m #[(.int p0), (.int p1)] 3)) t := fun t k => pre19 t (by
      show Steps p.tables e below (T14.setTop (mkF m 42 #[.val (.int p0), .val (.int p1), .val (.int (f5_m18 p0 p1))] [(.int (3 : Int32)), (.int p1)])) _
      refine XS.icmpYes X14.here hx rfl (pc0 := 42) (pc' := 53) rfl (hb hby d5_42) rfl (flt hc42_20).2.2.2 (by decide) (by decide) ?_
      exact k)
    have q_f5_m24 : f5_m24 p0 p1 = (f5_m18 p0 p1) := by unfold f5_m24; rw [if_neg hc42_20]
    rw [q_f5_m24]
    exact ⟨T14, _, X14, e14, N14, pre23⟩
  have pre25 : ∀ t, Steps p.tables e below (T20.setTop (mkF m 55 #[.val (.int p0), .val (.int p1), .val (.int (f5_m24 p0 p1))] [(.int (4 : Int32)), (.int p1)])) t → Steps p.tables e below (s₁.setTop (entryFrame m #[(.int p0), (.int p1)] 3)) t := fun t k => pre20 t (by
    show Steps p.tables e below (T20.setTop (mkF m 53 #[.val (.int p0), .val (.int p1), .val (.int (f5_m24 p0 p1))] [])) _
    refine XS.iloadN X20.here hx rfl (hb hby d5_53) rfl ?_
    show Steps p.tables e below (T20.setTop (mkF m 54 #[.val (.int p0), .val (.int p1), .val (.int (f5_m24 p0 p1))] [(.int p1)])) _
    refine XS.iconst X20.here hx rfl (hb hby d5_54) ?_
    exact k)
  obtain ⟨T26, L26, X26, e26, N26, pre26⟩ : ∃ (T' : State) (locs' : List Loc), Stand p l e ({ frames := 1, cells := 0, slots := 0, locals := 14 } : Room) s m #[(.int p0), (.int p1)] below meth c T' locs' 0 0 ∧ T'.heap = h0 ∧ Fr n0 locs' ∧ ∀ t, Steps p.tables e below (T'.setTop (mkF m 66 #[.val (.int p0), .val (.int p1), .val (.int (f5_m30 p0 p1))] [])) t → Steps p.tables e below (s₁.setTop (entryFrame m #[(.int p0), (.int p1)] 3)) t := by
    by_cases hc55_26 : (4 : Int32) < p1
    · obtain ⟨_, _, ⟨T27, L27, k27, n27⟩, -, X27, ⟨Lc27, hQ27, l27, y27, z27⟩, st27⟩ := Jvm.LawKit.callS X20 hx (y := (⟨"com/example/frugal_synth/frugalsynth/ArenaFirstChoicePinLaw", "nib", "(II)I"⟩ : MethodName)) hown (mvT hZ (hw _ (List.mem_of_getElem? (i := 1) rfl))) (mvT hZ (hw _ (List.mem_of_getElem? (i := 2) rfl))) (mvT hZ (hw _ (List.mem_of_getElem? (i := 3) rfl))) (mvT hZ (hw _ (List.mem_of_getElem? (i := 4) rfl))) (by decide) (backOf (W := 1) (rm1 l Z a0' hw [] p0 (4 : Int32) h0 n0 Z0) hZ (hw _ (List.mem_of_getElem? (i := 4) rfl)) (hw _ (List.mem_of_getElem? (i := 3) rfl)) (by decide) (by decide)) (g := (mkF m 61 #[.val (.int p0), .val (.int p1), .val (.int (f5_m24 p0 p1))] [(.int (4 : Int32)), (.int p0), (.int (f5_m24 p0 p1))])) rfl (by rw [hml]; rfl) (argsL := [(.int p0), (.int (4 : Int32))]) (rest := [(.int (f5_m24 p0 p1))]) (lenOf pd0 rfl) rfl (by show 2 * 0 + _ ≤ _; exact Nat.le_of_eq rfl) (hb hby d5_61) (fun _ _ => ⟨rfl, e20, (by decide : 0 + 0 ≤ _), (by decide : 0 + 0 ≤ _)⟩)
      dsimp only [Pt.U, Pt.locs, Pt.cells, Pt.slots] at X27 l27 y27 z27 st27 hQ27
      subst l27 y27 z27
      obtain ⟨rfl, N27q, e27⟩ := hQ27
      have N27 := Fr.app N20 N27q
      have pre28 : ∀ t, Steps p.tables e below (T27.setTop (mkF m 66 #[.val (.int p0), .val (.int p1), .val (.int ((f5_m24 p0 p1) + (F1 p0 (4 : Int32))))] [])) t → Steps p.tables e below (s₁.setTop (entryFrame m #[(.int p0), (.int p1)] 3)) t := fun t k => pre25 t (by
        show Steps p.tables e below (T20.setTop (mkF m 55 #[.val (.int p0), .val (.int p1), .val (.int (f5_m24 p0 p1))] [(.int (4 : Int32)), (.int p1)])) _
        refine XS.icmpNo X20.here hx rfl (hb hby d5_55) rfl (tlt hc55_26).2.2.2 ?_
        show Steps p.tables e below (T20.setTop (mkF m 58 #[.val (.int p0), .val (.int p1), .val (.int (f5_m24 p0 p1))] [])) _
        refine XS.iloadN X20.here hx rfl (hb hby d5_58) rfl ?_
        show Steps p.tables e below (T20.setTop (mkF m 59 #[.val (.int p0), .val (.int p1), .val (.int (f5_m24 p0 p1))] [(.int (f5_m24 p0 p1))])) _
        refine XS.iloadN X20.here hx rfl (hb hby d5_59) rfl ?_
        show Steps p.tables e below (T20.setTop (mkF m 60 #[.val (.int p0), .val (.int p1), .val (.int (f5_m24 p0 p1))] [(.int p0), (.int (f5_m24 p0 p1))])) _
        refine XS.iconst X20.here hx rfl (hb hby d5_60) ?_
        show Steps p.tables e below (T20.setTop (mkF m 61 #[.val (.int p0), .val (.int p1), .val (.int (f5_m24 p0 p1))] [(.int (4 : Int32)), (.int p0), (.int (f5_m24 p0 p1))])) _
        refine st27 _ ?_
        show Steps p.tables e below (T27.setTop (mkF m 64 #[.val (.int p0), .val (.int p1), .val (.int (f5_m24 p0 p1))] [(.int (F1 p0 (4 : Int32))), (.int (f5_m24 p0 p1))])) _
        refine XS.iadd X27.here hx rfl (hb hby d5_64) rfl ?_
        show Steps p.tables e below (T27.setTop (mkF m 65 #[.val (.int p0), .val (.int p1), .val (.int (f5_m24 p0 p1))] [(.int ((f5_m24 p0 p1) + (F1 p0 (4 : Int32))))])) _
        refine XS.istoreN X27.here hx rfl (hb hby d5_65) rfl (l' := #[.val (.int p0), .val (.int p1), .val (.int ((f5_m24 p0 p1) + (F1 p0 (4 : Int32))))]) rfl ?_
        exact k)
      have q_f5_m30 : f5_m30 p0 p1 = ((f5_m24 p0 p1) + (F1 p0 (4 : Int32))) := by unfold f5_m30; rw [if_pos hc55_26]
      rw [q_f5_m30]
      exact ⟨T27, _, X27, e27, N27, pre28⟩
    have pre29 : ∀ t, Steps p.tables e below (T20.setTop (mkF m 66 #[.val (.int p0), .val (.int p1), .val (.int (f5_m24 p0 p1))] [])) t → Steps p.tables e below (s₁.setTop (entryFrame m #[(.int p0), (.int p1)] 3)) t := fun t k => pre25 t (by
      show Steps p.tables e below (T20.setTop (mkF m 55 #[.val (.int p0), .val (.int p1), .val (.int (f5_m24 p0 p1))] [(.int (4 : Int32)), (.int p1)])) _
      refine XS.icmpYes X20.here hx rfl (pc0 := 55) (pc' := 66) rfl (hb hby d5_55) rfl (flt hc55_26).2.2.2 (by decide) (by decide) ?_
      exact k)
    have q_f5_m30 : f5_m30 p0 p1 = (f5_m24 p0 p1) := by unfold f5_m30; rw [if_neg hc55_26]
    rw [q_f5_m30]
    exact ⟨T20, _, X20, e20, N20, pre29⟩
  have pre31 : ∀ t, Steps p.tables e below (T26.setTop (mkF m 68 #[.val (.int p0), .val (.int p1), .val (.int (f5_m30 p0 p1))] [(.int (5 : Int32)), (.int p1)])) t → Steps p.tables e below (s₁.setTop (entryFrame m #[(.int p0), (.int p1)] 3)) t := fun t k => pre26 t (by
    show Steps p.tables e below (T26.setTop (mkF m 66 #[.val (.int p0), .val (.int p1), .val (.int (f5_m30 p0 p1))] [])) _
    refine XS.iloadN X26.here hx rfl (hb hby d5_66) rfl ?_
    show Steps p.tables e below (T26.setTop (mkF m 67 #[.val (.int p0), .val (.int p1), .val (.int (f5_m30 p0 p1))] [(.int p1)])) _
    refine XS.iconst X26.here hx rfl (hb hby d5_67) ?_
    exact k)
  obtain ⟨T32, L32, X32, e32, N32, pre32⟩ : ∃ (T' : State) (locs' : List Loc), Stand p l e ({ frames := 1, cells := 0, slots := 0, locals := 14 } : Room) s m #[(.int p0), (.int p1)] below meth c T' locs' 0 0 ∧ T'.heap = h0 ∧ Fr n0 locs' ∧ ∀ t, Steps p.tables e below (T'.setTop (mkF m 79 #[.val (.int p0), .val (.int p1), .val (.int (f5_m36 p0 p1))] [])) t → Steps p.tables e below (s₁.setTop (entryFrame m #[(.int p0), (.int p1)] 3)) t := by
    by_cases hc68_32 : (5 : Int32) < p1
    · obtain ⟨_, _, ⟨T33, L33, k33, n33⟩, -, X33, ⟨Lc33, hQ33, l33, y33, z33⟩, st33⟩ := Jvm.LawKit.callS X26 hx (y := (⟨"com/example/frugal_synth/frugalsynth/ArenaFirstChoicePinLaw", "nib", "(II)I"⟩ : MethodName)) hown (mvT hZ (hw _ (List.mem_of_getElem? (i := 1) rfl))) (mvT hZ (hw _ (List.mem_of_getElem? (i := 2) rfl))) (mvT hZ (hw _ (List.mem_of_getElem? (i := 3) rfl))) (mvT hZ (hw _ (List.mem_of_getElem? (i := 4) rfl))) (by decide) (backOf (W := 1) (rm1 l Z a0' hw [] p0 (5 : Int32) h0 n0 Z0) hZ (hw _ (List.mem_of_getElem? (i := 4) rfl)) (hw _ (List.mem_of_getElem? (i := 3) rfl)) (by decide) (by decide)) (g := (mkF m 74 #[.val (.int p0), .val (.int p1), .val (.int (f5_m30 p0 p1))] [(.int (5 : Int32)), (.int p0), (.int (f5_m30 p0 p1))])) rfl (by rw [hml]; rfl) (argsL := [(.int p0), (.int (5 : Int32))]) (rest := [(.int (f5_m30 p0 p1))]) (lenOf pd0 rfl) rfl (by show 2 * 0 + _ ≤ _; exact Nat.le_of_eq rfl) (hb hby d5_74) (fun _ _ => ⟨rfl, e26, (by decide : 0 + 0 ≤ _), (by decide : 0 + 0 ≤ _)⟩)
      dsimp only [Pt.U, Pt.locs, Pt.cells, Pt.slots] at X33 l33 y33 z33 st33 hQ33
      subst l33 y33 z33
      obtain ⟨rfl, N33q, e33⟩ := hQ33
      have N33 := Fr.app N26 N33q
      have pre34 : ∀ t, Steps p.tables e below (T33.setTop (mkF m 79 #[.val (.int p0), .val (.int p1), .val (.int ((f5_m30 p0 p1) + (F1 p0 (5 : Int32))))] [])) t → Steps p.tables e below (s₁.setTop (entryFrame m #[(.int p0), (.int p1)] 3)) t := fun t k => pre31 t (by
        show Steps p.tables e below (T26.setTop (mkF m 68 #[.val (.int p0), .val (.int p1), .val (.int (f5_m30 p0 p1))] [(.int (5 : Int32)), (.int p1)])) _
        refine XS.icmpNo X26.here hx rfl (hb hby d5_68) rfl (tlt hc68_32).2.2.2 ?_
        show Steps p.tables e below (T26.setTop (mkF m 71 #[.val (.int p0), .val (.int p1), .val (.int (f5_m30 p0 p1))] [])) _
        refine XS.iloadN X26.here hx rfl (hb hby d5_71) rfl ?_
        show Steps p.tables e below (T26.setTop (mkF m 72 #[.val (.int p0), .val (.int p1), .val (.int (f5_m30 p0 p1))] [(.int (f5_m30 p0 p1))])) _
        refine XS.iloadN X26.here hx rfl (hb hby d5_72) rfl ?_
        show Steps p.tables e below (T26.setTop (mkF m 73 #[.val (.int p0), .val (.int p1), .val (.int (f5_m30 p0 p1))] [(.int p0), (.int (f5_m30 p0 p1))])) _
        refine XS.iconst X26.here hx rfl (hb hby d5_73) ?_
        show Steps p.tables e below (T26.setTop (mkF m 74 #[.val (.int p0), .val (.int p1), .val (.int (f5_m30 p0 p1))] [(.int (5 : Int32)), (.int p0), (.int (f5_m30 p0 p1))])) _
        refine st33 _ ?_
        show Steps p.tables e below (T33.setTop (mkF m 77 #[.val (.int p0), .val (.int p1), .val (.int (f5_m30 p0 p1))] [(.int (F1 p0 (5 : Int32))), (.int (f5_m30 p0 p1))])) _
        refine XS.iadd X33.here hx rfl (hb hby d5_77) rfl ?_
        show Steps p.tables e below (T33.setTop (mkF m 78 #[.val (.int p0), .val (.int p1), .val (.int (f5_m30 p0 p1))] [(.int ((f5_m30 p0 p1) + (F1 p0 (5 : Int32))))])) _
        refine XS.istoreN X33.here hx rfl (hb hby d5_78) rfl (l' := #[.val (.int p0), .val (.int p1), .val (.int ((f5_m30 p0 p1) + (F1 p0 (5 : Int32))))]) rfl ?_
        exact k)
      have q_f5_m36 : f5_m36 p0 p1 = ((f5_m30 p0 p1) + (F1 p0 (5 : Int32))) := by unfold f5_m36; rw [if_pos hc68_32]
      rw [q_f5_m36]
      exact ⟨T33, _, X33, e33, N33, pre34⟩
    have pre35 : ∀ t, Steps p.tables e below (T26.setTop (mkF m 79 #[.val (.int p0), .val (.int p1), .val (.int (f5_m30 p0 p1))] [])) t → Steps p.tables e below (s₁.setTop (entryFrame m #[(.int p0), (.int p1)] 3)) t := fun t k => pre31 t (by
      show Steps p.tables e below (T26.setTop (mkF m 68 #[.val (.int p0), .val (.int p1), .val (.int (f5_m30 p0 p1))] [(.int (5 : Int32)), (.int p1)])) _
      refine XS.icmpYes X26.here hx rfl (pc0 := 68) (pc' := 79) rfl (hb hby d5_68) rfl (flt hc68_32).2.2.2 (by decide) (by decide) ?_
      exact k)
    have q_f5_m36 : f5_m36 p0 p1 = (f5_m30 p0 p1) := by unfold f5_m36; rw [if_neg hc68_32]
    rw [q_f5_m36]
    exact ⟨T26, _, X26, e26, N26, pre35⟩
  have pre37 : ∀ t, Steps p.tables e below (T32.setTop (mkF m 82 #[.val (.int p0), .val (.int p1), .val (.int (f5_m36 p0 p1))] [(.int (6 : Int32)), (.int p1)])) t → Steps p.tables e below (s₁.setTop (entryFrame m #[(.int p0), (.int p1)] 3)) t := fun t k => pre32 t (by
    show Steps p.tables e below (T32.setTop (mkF m 79 #[.val (.int p0), .val (.int p1), .val (.int (f5_m36 p0 p1))] [])) _
    refine XS.iloadN X32.here hx rfl (hb hby d5_79) rfl ?_
    show Steps p.tables e below (T32.setTop (mkF m 80 #[.val (.int p0), .val (.int p1), .val (.int (f5_m36 p0 p1))] [(.int p1)])) _
    refine XS.bipush X32.here hx rfl (hb hby d5_80) ?_
    exact k)
  obtain ⟨T38, L38, X38, e38, N38, pre38⟩ : ∃ (T' : State) (locs' : List Loc), Stand p l e ({ frames := 1, cells := 0, slots := 0, locals := 14 } : Room) s m #[(.int p0), (.int p1)] below meth c T' locs' 0 0 ∧ T'.heap = h0 ∧ Fr n0 locs' ∧ ∀ t, Steps p.tables e below (T'.setTop (mkF m 94 #[.val (.int p0), .val (.int p1), .val (.int (f5_m42 p0 p1))] [])) t → Steps p.tables e below (s₁.setTop (entryFrame m #[(.int p0), (.int p1)] 3)) t := by
    by_cases hc82_38 : (6 : Int32) < p1
    · obtain ⟨_, _, ⟨T39, L39, k39, n39⟩, -, X39, ⟨Lc39, hQ39, l39, y39, z39⟩, st39⟩ := Jvm.LawKit.callS X32 hx (y := (⟨"com/example/frugal_synth/frugalsynth/ArenaFirstChoicePinLaw", "nib", "(II)I"⟩ : MethodName)) hown (mvT hZ (hw _ (List.mem_of_getElem? (i := 1) rfl))) (mvT hZ (hw _ (List.mem_of_getElem? (i := 2) rfl))) (mvT hZ (hw _ (List.mem_of_getElem? (i := 3) rfl))) (mvT hZ (hw _ (List.mem_of_getElem? (i := 4) rfl))) (by decide) (backOf (W := 1) (rm1 l Z a0' hw [] p0 (6 : Int32) h0 n0 Z0) hZ (hw _ (List.mem_of_getElem? (i := 4) rfl)) (hw _ (List.mem_of_getElem? (i := 3) rfl)) (by decide) (by decide)) (g := (mkF m 89 #[.val (.int p0), .val (.int p1), .val (.int (f5_m36 p0 p1))] [(.int (6 : Int32)), (.int p0), (.int (f5_m36 p0 p1))])) rfl (by rw [hml]; rfl) (argsL := [(.int p0), (.int (6 : Int32))]) (rest := [(.int (f5_m36 p0 p1))]) (lenOf pd0 rfl) rfl (by show 2 * 0 + _ ≤ _; exact Nat.le_of_eq rfl) (hb hby d5_89) (fun _ _ => ⟨rfl, e32, (by decide : 0 + 0 ≤ _), (by decide : 0 + 0 ≤ _)⟩)
      dsimp only [Pt.U, Pt.locs, Pt.cells, Pt.slots] at X39 l39 y39 z39 st39 hQ39
      subst l39 y39 z39
      obtain ⟨rfl, N39q, e39⟩ := hQ39
      have N39 := Fr.app N32 N39q
      have pre40 : ∀ t, Steps p.tables e below (T39.setTop (mkF m 94 #[.val (.int p0), .val (.int p1), .val (.int ((f5_m36 p0 p1) + (F1 p0 (6 : Int32))))] [])) t → Steps p.tables e below (s₁.setTop (entryFrame m #[(.int p0), (.int p1)] 3)) t := fun t k => pre37 t (by
        show Steps p.tables e below (T32.setTop (mkF m 82 #[.val (.int p0), .val (.int p1), .val (.int (f5_m36 p0 p1))] [(.int (6 : Int32)), (.int p1)])) _
        refine XS.icmpNo X32.here hx rfl (hb hby d5_82) rfl (tlt hc82_38).2.2.2 ?_
        show Steps p.tables e below (T32.setTop (mkF m 85 #[.val (.int p0), .val (.int p1), .val (.int (f5_m36 p0 p1))] [])) _
        refine XS.iloadN X32.here hx rfl (hb hby d5_85) rfl ?_
        show Steps p.tables e below (T32.setTop (mkF m 86 #[.val (.int p0), .val (.int p1), .val (.int (f5_m36 p0 p1))] [(.int (f5_m36 p0 p1))])) _
        refine XS.iloadN X32.here hx rfl (hb hby d5_86) rfl ?_
        show Steps p.tables e below (T32.setTop (mkF m 87 #[.val (.int p0), .val (.int p1), .val (.int (f5_m36 p0 p1))] [(.int p0), (.int (f5_m36 p0 p1))])) _
        refine XS.bipush X32.here hx rfl (hb hby d5_87) ?_
        show Steps p.tables e below (T32.setTop (mkF m 89 #[.val (.int p0), .val (.int p1), .val (.int (f5_m36 p0 p1))] [(.int (6 : Int32)), (.int p0), (.int (f5_m36 p0 p1))])) _
        refine st39 _ ?_
        show Steps p.tables e below (T39.setTop (mkF m 92 #[.val (.int p0), .val (.int p1), .val (.int (f5_m36 p0 p1))] [(.int (F1 p0 (6 : Int32))), (.int (f5_m36 p0 p1))])) _
        refine XS.iadd X39.here hx rfl (hb hby d5_92) rfl ?_
        show Steps p.tables e below (T39.setTop (mkF m 93 #[.val (.int p0), .val (.int p1), .val (.int (f5_m36 p0 p1))] [(.int ((f5_m36 p0 p1) + (F1 p0 (6 : Int32))))])) _
        refine XS.istoreN X39.here hx rfl (hb hby d5_93) rfl (l' := #[.val (.int p0), .val (.int p1), .val (.int ((f5_m36 p0 p1) + (F1 p0 (6 : Int32))))]) rfl ?_
        exact k)
      have q_f5_m42 : f5_m42 p0 p1 = ((f5_m36 p0 p1) + (F1 p0 (6 : Int32))) := by unfold f5_m42; rw [if_pos hc82_38]
      rw [q_f5_m42]
      exact ⟨T39, _, X39, e39, N39, pre40⟩
    have pre41 : ∀ t, Steps p.tables e below (T32.setTop (mkF m 94 #[.val (.int p0), .val (.int p1), .val (.int (f5_m36 p0 p1))] [])) t → Steps p.tables e below (s₁.setTop (entryFrame m #[(.int p0), (.int p1)] 3)) t := fun t k => pre37 t (by
      show Steps p.tables e below (T32.setTop (mkF m 82 #[.val (.int p0), .val (.int p1), .val (.int (f5_m36 p0 p1))] [(.int (6 : Int32)), (.int p1)])) _
      refine XS.icmpYes X32.here hx rfl (pc0 := 82) (pc' := 94) rfl (hb hby d5_82) rfl (flt hc82_38).2.2.2 (by decide) (by decide) ?_
      exact k)
    have q_f5_m42 : f5_m42 p0 p1 = (f5_m36 p0 p1) := by unfold f5_m42; rw [if_neg hc82_38]
    rw [q_f5_m42]
    exact ⟨T32, _, X32, e32, N32, pre41⟩
  have pre43 : ∀ t, Steps p.tables e below (T38.setTop (mkF m 97 #[.val (.int p0), .val (.int p1), .val (.int (f5_m42 p0 p1))] [(.int (7 : Int32)), (.int p1)])) t → Steps p.tables e below (s₁.setTop (entryFrame m #[(.int p0), (.int p1)] 3)) t := fun t k => pre38 t (by
    show Steps p.tables e below (T38.setTop (mkF m 94 #[.val (.int p0), .val (.int p1), .val (.int (f5_m42 p0 p1))] [])) _
    refine XS.iloadN X38.here hx rfl (hb hby d5_94) rfl ?_
    show Steps p.tables e below (T38.setTop (mkF m 95 #[.val (.int p0), .val (.int p1), .val (.int (f5_m42 p0 p1))] [(.int p1)])) _
    refine XS.bipush X38.here hx rfl (hb hby d5_95) ?_
    exact k)
  obtain ⟨T44, L44, X44, e44, N44, pre44⟩ : ∃ (T' : State) (locs' : List Loc), Stand p l e ({ frames := 1, cells := 0, slots := 0, locals := 14 } : Room) s m #[(.int p0), (.int p1)] below meth c T' locs' 0 0 ∧ T'.heap = h0 ∧ Fr n0 locs' ∧ ∀ t, Steps p.tables e below (T'.setTop (mkF m 109 #[.val (.int p0), .val (.int p1), .val (.int (f5_m48 p0 p1))] [])) t → Steps p.tables e below (s₁.setTop (entryFrame m #[(.int p0), (.int p1)] 3)) t := by
    by_cases hc97_44 : (7 : Int32) < p1
    · obtain ⟨_, _, ⟨T45, L45, k45, n45⟩, -, X45, ⟨Lc45, hQ45, l45, y45, z45⟩, st45⟩ := Jvm.LawKit.callS X38 hx (y := (⟨"com/example/frugal_synth/frugalsynth/ArenaFirstChoicePinLaw", "nib", "(II)I"⟩ : MethodName)) hown (mvT hZ (hw _ (List.mem_of_getElem? (i := 1) rfl))) (mvT hZ (hw _ (List.mem_of_getElem? (i := 2) rfl))) (mvT hZ (hw _ (List.mem_of_getElem? (i := 3) rfl))) (mvT hZ (hw _ (List.mem_of_getElem? (i := 4) rfl))) (by decide) (backOf (W := 1) (rm1 l Z a0' hw [] p0 (7 : Int32) h0 n0 Z0) hZ (hw _ (List.mem_of_getElem? (i := 4) rfl)) (hw _ (List.mem_of_getElem? (i := 3) rfl)) (by decide) (by decide)) (g := (mkF m 104 #[.val (.int p0), .val (.int p1), .val (.int (f5_m42 p0 p1))] [(.int (7 : Int32)), (.int p0), (.int (f5_m42 p0 p1))])) rfl (by rw [hml]; rfl) (argsL := [(.int p0), (.int (7 : Int32))]) (rest := [(.int (f5_m42 p0 p1))]) (lenOf pd0 rfl) rfl (by show 2 * 0 + _ ≤ _; exact Nat.le_of_eq rfl) (hb hby d5_104) (fun _ _ => ⟨rfl, e38, (by decide : 0 + 0 ≤ _), (by decide : 0 + 0 ≤ _)⟩)
      dsimp only [Pt.U, Pt.locs, Pt.cells, Pt.slots] at X45 l45 y45 z45 st45 hQ45
      subst l45 y45 z45
      obtain ⟨rfl, N45q, e45⟩ := hQ45
      have N45 := Fr.app N38 N45q
      have pre46 : ∀ t, Steps p.tables e below (T45.setTop (mkF m 109 #[.val (.int p0), .val (.int p1), .val (.int ((f5_m42 p0 p1) + (F1 p0 (7 : Int32))))] [])) t → Steps p.tables e below (s₁.setTop (entryFrame m #[(.int p0), (.int p1)] 3)) t := fun t k => pre43 t (by
        show Steps p.tables e below (T38.setTop (mkF m 97 #[.val (.int p0), .val (.int p1), .val (.int (f5_m42 p0 p1))] [(.int (7 : Int32)), (.int p1)])) _
        refine XS.icmpNo X38.here hx rfl (hb hby d5_97) rfl (tlt hc97_44).2.2.2 ?_
        show Steps p.tables e below (T38.setTop (mkF m 100 #[.val (.int p0), .val (.int p1), .val (.int (f5_m42 p0 p1))] [])) _
        refine XS.iloadN X38.here hx rfl (hb hby d5_100) rfl ?_
        show Steps p.tables e below (T38.setTop (mkF m 101 #[.val (.int p0), .val (.int p1), .val (.int (f5_m42 p0 p1))] [(.int (f5_m42 p0 p1))])) _
        refine XS.iloadN X38.here hx rfl (hb hby d5_101) rfl ?_
        show Steps p.tables e below (T38.setTop (mkF m 102 #[.val (.int p0), .val (.int p1), .val (.int (f5_m42 p0 p1))] [(.int p0), (.int (f5_m42 p0 p1))])) _
        refine XS.bipush X38.here hx rfl (hb hby d5_102) ?_
        show Steps p.tables e below (T38.setTop (mkF m 104 #[.val (.int p0), .val (.int p1), .val (.int (f5_m42 p0 p1))] [(.int (7 : Int32)), (.int p0), (.int (f5_m42 p0 p1))])) _
        refine st45 _ ?_
        show Steps p.tables e below (T45.setTop (mkF m 107 #[.val (.int p0), .val (.int p1), .val (.int (f5_m42 p0 p1))] [(.int (F1 p0 (7 : Int32))), (.int (f5_m42 p0 p1))])) _
        refine XS.iadd X45.here hx rfl (hb hby d5_107) rfl ?_
        show Steps p.tables e below (T45.setTop (mkF m 108 #[.val (.int p0), .val (.int p1), .val (.int (f5_m42 p0 p1))] [(.int ((f5_m42 p0 p1) + (F1 p0 (7 : Int32))))])) _
        refine XS.istoreN X45.here hx rfl (hb hby d5_108) rfl (l' := #[.val (.int p0), .val (.int p1), .val (.int ((f5_m42 p0 p1) + (F1 p0 (7 : Int32))))]) rfl ?_
        exact k)
      have q_f5_m48 : f5_m48 p0 p1 = ((f5_m42 p0 p1) + (F1 p0 (7 : Int32))) := by unfold f5_m48; rw [if_pos hc97_44]
      rw [q_f5_m48]
      exact ⟨T45, _, X45, e45, N45, pre46⟩
    have pre47 : ∀ t, Steps p.tables e below (T38.setTop (mkF m 109 #[.val (.int p0), .val (.int p1), .val (.int (f5_m42 p0 p1))] [])) t → Steps p.tables e below (s₁.setTop (entryFrame m #[(.int p0), (.int p1)] 3)) t := fun t k => pre43 t (by
      show Steps p.tables e below (T38.setTop (mkF m 97 #[.val (.int p0), .val (.int p1), .val (.int (f5_m42 p0 p1))] [(.int (7 : Int32)), (.int p1)])) _
      refine XS.icmpYes X38.here hx rfl (pc0 := 97) (pc' := 109) rfl (hb hby d5_97) rfl (flt hc97_44).2.2.2 (by decide) (by decide) ?_
      exact k)
    have q_f5_m48 : f5_m48 p0 p1 = (f5_m42 p0 p1) := by unfold f5_m48; rw [if_neg hc97_44]
    rw [q_f5_m48]
    exact ⟨T38, _, X38, e38, N38, pre47⟩
  have pre49 : ∀ t, Steps p.tables e below (T44.setTop (mkF m 110 #[.val (.int p0), .val (.int p1), .val (.int (f5_m48 p0 p1))] [(.int (f5_m48 p0 p1))])) t → Steps p.tables e below (s₁.setTop (entryFrame m #[(.int p0), (.int p1)] 3)) t := fun t k => pre44 t (by
    show Steps p.tables e below (T44.setTop (mkF m 109 #[.val (.int p0), .val (.int p1), .val (.int (f5_m48 p0 p1))] [])) _
    refine XS.iloadN X44.here hx rfl (hb hby d5_109) rfl ?_
    exact k)
  obtain ⟨fs, hr, hrun, hended, hW, hsame⟩ := X44.leave (v := some (.int (f5_m48 p0 p1))) (fun h => by rw [Bd.returns] at h; cases h) hlk
  have hF : (F5 p0 p1) = (f5_m48 p0 p1) := by rfl
  exact ⟨_, _, pre49 _ (retI X44 hx Bd.returns (hb hby d5_110) hr), hrun, hended, _, _, rfl, ⟨by rw [hF], N44, e44⟩, ⟨_, rfl⟩, hW, hsame.mono (by decide) (by decide)⟩
def f0_v0 (p0 : Int32) (p1 : Int32) (p2 : Int32) (p3 : Int32) : Int32 := ((1 : Int32) <<< ((p0 &&& (3 : Int32)) &&& 31))
def f0_v1 (p0 : Int32) (p1 : Int32) (p2 : Int32) (p3 : Int32) : Int32 := (((0 : Int32) + (F1 p1 (0 : Int32))) + (F1 p1 (1 : Int32)))
def f0_v2 (p0 : Int32) (p1 : Int32) (p2 : Int32) (p3 : Int32) : Int32 := (((f0_v1 p0 p1 p2 p3) + (F1 p1 (2 : Int32))) + (F1 p1 (3 : Int32)))
def f0_v3 (p0 : Int32) (p1 : Int32) (p2 : Int32) (p3 : Int32) : Int32 := (((f0_v2 p0 p1 p2 p3) + (F1 p1 (4 : Int32))) + (F1 p1 (5 : Int32)))
def f0_v4 (p0 : Int32) (p1 : Int32) (p2 : Int32) (p3 : Int32) : Int32 := (((f0_v3 p0 p1 p2 p3) + (F1 p1 (6 : Int32))) + (F1 p1 (7 : Int32)))
def f0_v5 (p0 : Int32) (p1 : Int32) (p2 : Int32) (p3 : Int32) : Int32 := ((p2 &&& (2147483647 : Int32)) % ((8 : Int32) / (f0_v0 p0 p1 p2 p3)))
def f0_v6 (p0 : Int32) (p1 : Int32) (p2 : Int32) (p3 : Int32) : Int32 := ((p3 &&& (2147483647 : Int32)) % (f0_v0 p0 p1 p2 p3))
def f0_v7 (p0 : Int32) (p1 : Int32) (p2 : Int32) (p3 : Int32) : Int32 := (F4 (f0_v5 p0 p1 p2 p3) (f0_v6 p0 p1 p2 p3) (f0_v0 p0 p1 p2 p3) [(0 : Int32), ((0 : Int32) + (F1 p1 (0 : Int32))), (f0_v1 p0 p1 p2 p3), ((f0_v1 p0 p1 p2 p3) + (F1 p1 (2 : Int32))), (f0_v2 p0 p1 p2 p3), ((f0_v2 p0 p1 p2 p3) + (F1 p1 (4 : Int32))), (f0_v3 p0 p1 p2 p3), ((f0_v3 p0 p1 p2 p3) + (F1 p1 (6 : Int32))), (f0_v4 p0 p1 p2 p3)] (9 : Int32))
def f0_v8 (p0 : Int32) (p1 : Int32) (p2 : Int32) (p3 : Int32) : Int32 := (((f0_v5 p0 p1 p2 p3) * (f0_v0 p0 p1 p2 p3)) + (f0_v6 p0 p1 p2 p3))
def F0 (p0 : Int32) (p1 : Int32) (p2 : Int32) (p3 : Int32) : Int32 := (if (f0_v7 p0 p1 p2 p3) = (F5 p1 (f0_v8 p0 p1 p2 p3)) then (1 : Int32) else (0 : Int32))
theorem own_q (x : Int32) : x &&& 3 = 0 ∨ x &&& 3 = 1 ∨ x &&& 3 = 2 ∨ x &&& 3 = 3 := by
  have r : (x &&& (3 : Int32)).toInt = x.toInt % (2 ^ 2 : Nat) := c_mask x 3 2 (by decide) (by decide)
  have q : (x &&& (3 : Int32)).toInt = 0 ∨ (x &&& (3 : Int32)).toInt = 1 ∨ (x &&& (3 : Int32)).toInt = 2 ∨ (x &&& (3 : Int32)).toInt = 3 := by omega
  rcases q with q | q | q | q
  · exact Or.inl (Int32.toInt_inj.mp q)
  · exact Or.inr (Or.inl (Int32.toInt_inj.mp q))
  · exact Or.inr (Or.inr (Or.inl (Int32.toInt_inj.mp q)))
  · exact Or.inr (Or.inr (Or.inr (Int32.toInt_inj.mp q)))
theorem own_r (x d : Int32) (D : Int) (hd : d.toInt = D) (hD : 0 < D) : 0 ≤ ((x &&& (2147483647 : Int32)) % d).toInt ∧ ((x &&& (2147483647 : Int32)) % d).toInt < D := by
  have em0 : (x &&& (2147483647 : Int32)).toInt = x.toInt % (2 ^ 31 : Nat) := c_mask x 2147483647 31 (by decide) (by decide)
  have er := (c_irem (x &&& (2147483647 : Int32)) d D hd).1 (by omega)
  rw [er]
  exact ⟨Int.emod_nonneg _ (by omega), Int.emod_lt_of_pos _ hD⟩
theorem own_mix (p a : Int32) (ac : Int32) (A : Int) (hA : ac.toInt = A) (P : Int) (hP : p.toInt * A = P) (h1 : 0 ≤ P) (h2 : P ≤ 8) (h3 : 0 ≤ a.toInt) (h4 : a.toInt ≤ 8) : (p * ac + a).toInt = P + a.toInt := by
  have m := c_imul p ac; rw [hA, hP] at m
  have rm := rng32 (p * ac)
  have s := c_iadd (p * ac) a
  have rs := rng32 (p * ac + a)
  omega
theorem own_ac (p0 p1 p2 p3 : Int32) : f0_v0 p0 p1 p2 p3 = 1 ∨ f0_v0 p0 p1 p2 p3 = 2 ∨ f0_v0 p0 p1 p2 p3 = 4 ∨ f0_v0 p0 p1 p2 p3 = 8 := by
  unfold f0_v0
  rcases own_q p0 with h | h | h | h <;> rw [h] <;> decide
theorem own_nz0 (p0 p1 p2 p3 : Int32) : f0_v0 p0 p1 p2 p3 ≠ 0 := by
  rcases own_ac p0 p1 p2 p3 with h | h | h | h <;> rw [h] <;> decide
theorem own_nzp (p0 p1 p2 p3 : Int32) : (8 : Int32) / (f0_v0 p0 p1 p2 p3) ≠ 0 := by
  rcases own_ac p0 p1 p2 p3 with h | h | h | h <;> rw [h] <;> decide
theorem own_idx (p0 p1 p2 p3 : Int32) : 0 ≤ (f0_v8 p0 p1 p2 p3).toInt ∧ (f0_v8 p0 p1 p2 p3).toInt < 8 := by
  unfold f0_v8 f0_v5 f0_v6
  rcases own_ac p0 p1 p2 p3 with h | h | h | h <;> rw [h]
  · rw [show (8 : Int32) / 1 = 8 from by decide]
    have a := own_r p2 8 8 (by decide) (by decide); have b := own_r p3 1 1 (by decide) (by decide)
    rw [own_mix _ _ 1 1 (by decide) _ rfl (by omega) (by omega) b.1 (by omega)]
    omega
  · rw [show (8 : Int32) / 2 = 4 from by decide]
    have a := own_r p2 4 4 (by decide) (by decide); have b := own_r p3 2 2 (by decide) (by decide)
    rw [own_mix _ _ 2 2 (by decide) _ rfl (by omega) (by omega) b.1 (by omega)]
    omega
  · rw [show (8 : Int32) / 4 = 2 from by decide]
    have a := own_r p2 2 2 (by decide) (by decide); have b := own_r p3 4 4 (by decide) (by decide)
    rw [own_mix _ _ 4 4 (by decide) _ rfl (by omega) (by omega) b.1 (by omega)]
    omega
  · rw [show (8 : Int32) / 8 = 1 from by decide]
    have a := own_r p2 1 1 (by decide) (by decide); have b := own_r p3 8 8 (by decide) (by decide)
    rw [own_mix _ _ 8 8 (by decide) _ rfl (by omega) (by omega) b.1 (by omega)]
    omega
theorem own_i0 (p0 p1 p2 p3 : Int32) : ¬ (((f0_v5 p0 p1 p2 p3) * (f0_v0 p0 p1 p2 p3)) + (f0_v6 p0 p1 p2 p3)) < 0 ∧ (((f0_v5 p0 p1 p2 p3) * (f0_v0 p0 p1 p2 p3)) + (f0_v6 p0 p1 p2 p3)) < (9 : Int32) := by
  have h := own_idx p0 p1 p2 p3
  unfold f0_v8 at h
  rw [Int32.lt_iff_toInt_lt, Int32.lt_iff_toInt_lt, show (0 : Int32).toInt = 0 from rfl, show (9 : Int32).toInt = 9 from rfl]
  omega
theorem ef0 (m : MethodId) (x0 : Int32) (x1 : Int32) (x2 : Int32) (x3 : Int32) : entryFrame m #[(.int x0), (.int x1), (.int x2), (.int x3)] maxLocals = mkF m 0 #[.val (.int x0), .val (.int x1), .val (.int x2), .val (.int x3), .unset, .unset, .unset, .unset, .unset, .unset] [] := by first | (simp [entryFrame, mkF, argsToLocals, Value.category, maxLocals]; done) | rfl
def Q0 (Z : State) (p0 : Int32) (p1 : Int32) (p2 : Int32) (p3 : Int32) (h0 : Heap) (n0 : Nat) (v : Option Value) (h : Heap) (L : List Loc) : Prop := v = some (.int (F0 p0 p1 p2 p3)) ∧ Fr n0 L
set_option maxRecDepth 65536 in
set_option maxHeartbeats 40000000 in
theorem rm0 (l : Launch) (Z : State) (a0' : Array Value) (hw : ∀ d ∈ tables_1, d.before a0' Z = true) (ws : List Jvm.Cond) (p0 : Int32) (p1 : Int32) (p2 : Int32) (p3 : Int32) (h0 : Heap) (n0 : Nat) (Z0 : n0 ≤ h0.size) :
    MetFree l x (head1 (Jvm.Cond.code x code maxLocals ret :: ws) room_1) (fun a U => a = #[(.int p0), (.int p1), (.int p2), (.int p3)] ∧ Z.Warmed39 U.vm ∧ U.heap = h0) (fun _ _ _ _ _ => True) (fun _ U o U' => ∃ v L, o = .returned v ∧ Q0 Z p0 p1 p2 p3 h0 n0 v U'.heap L ∧ FrameEnd U o U' L 6 17) := by
  refine MetFree.of_bodySF (plainFor_of_name pn0) hisR ?_
  intro p e s m args below meth c s₁ Bd hml0 hP hK
  obtain ⟨rfl, hZ, hh⟩ := hP
  have hx := Bd.exec
  have hby := Bd.bytes
  have hml : c.maxLocals = 10 := hml0
  have hown : s.vm.findClass "com/example/frugal_synth/frugalsynth/ArenaFirstChoicePinLaw" = some m.cls := findClass_of_methodNamed Bd.named
  have hnm := (name_of_methodNamed Bd.named Bd.method).1
  have X0 : Stand p l e room_1 s m #[(.int p0), (.int p1), (.int p2), (.int p3)] below meth c s₁ [] 0 0 := Stand.of_body Bd
  have e0 : s₁.heap = h0 := by rw [← hh, Bd.state]; rfl
  have N0 := Fr.nil n0
  have hlk : meth.locks = false := by first | exact BodyLoose.notSynchronized Bd | exact Body.notSynchronized Bd
  have pre0 : ∀ t, Steps p.tables e below (s₁.setTop (mkF m 0 #[.val (.int p0), .val (.int p1), .val (.int p2), .val (.int p3), .unset, .unset, .unset, .unset, .unset, .unset] [])) t → Steps p.tables e below (s₁.setTop (entryFrame m #[(.int p0), (.int p1), (.int p2), (.int p3)] maxLocals)) t := fun t k => castTop (ef0 m p0 p1 p2 p3) k
  obtain ⟨T1, h1, k1, X1, e1, E1, A1, st1⟩ := newP X0 hx hZ (hw _ (List.mem_of_getElem? (i := 0) rfl)) e0 (g := (mkF m 16 #[.val (.int p0), .val (.int p1), .val (.int p2), .val (.int p3), .val (.int (f0_v0 p0 p1 p2 p3)), .val (.int ((8 : Int32) / (f0_v0 p0 p1 p2 p3))), .unset, .unset, .unset, .unset] [(.int (9 : Int32))])) rfl (hb hby at_16) rfl (by decide) (cap := 9) (by decide) (by decide) (by decide) (by decide)
  obtain ⟨b1, g1⟩ : ∃ z, z = h0.size := ⟨_, rfl⟩
  rw [← g1] at A1 st1
  have g_b1 : n0 ≤ b1 := Nat.le_trans Z0 (Nat.le_of_eq g1.symm)
  have Z1 : n0 ≤ h1.size := Nat.le_trans Z0 E1.1
  have V1 : Arv Z h1 b1 k1 .int (9 : Int32) [(.int (0 : Int32)), (.int (0 : Int32)), (.int (0 : Int32)), (.int (0 : Int32)), (.int (0 : Int32)), (.int (0 : Int32)), (.int (0 : Int32)), (.int (0 : Int32)), (.int (0 : Int32))] (.int (0 : Int32)) := (Arv.new A1 (by decide)).pad (pad_rep [] (.int (0 : Int32)) 9)
  obtain ⟨cl2, Ar2, q2, S2, M2, H2, G2⟩ := id V1
  have hin2 : ¬ ((0 : Int32) < 0 ∨ cl2.slots.size ≤ ((0 : Int32)).toNatClampNeg) := inb_of S2 ⟨by decide, by decide⟩
  obtain ⟨T3, h3, X3, e3, W3, st3⟩ := stI X1 hx hZ e1 Ar2 (j := (0 : Int32)) hin2 (g := (mkF m 24 #[.val (.int p0), .val (.int p1), .val (.int p2), .val (.int p3), .val (.int (f0_v0 p0 p1 p2 p3)), .val (.int ((8 : Int32) / (f0_v0 p0 p1 p2 p3))), .val (.ref b1), .unset, .unset, .unset] [(.int (0 : Int32)), (.int (0 : Int32)), (.ref b1)])) rfl rfl (hb hby at_24)
  have Z3 : n0 ≤ h3.size := Nat.le_trans Z1 (Keep.of_wr W3).1
  have N3 := Fr.snoc X3 N0 g_b1
  have V3 : Arv Z h3 b1 k1 .int (9 : Int32) [(.int (0 : Int32)), (.int (0 : Int32)), (.int (0 : Int32)), (.int (0 : Int32)), (.int (0 : Int32)), (.int (0 : Int32)), (.int (0 : Int32)), (.int (0 : Int32)), (.int (0 : Int32))] (.int (0 : Int32)) := Arv.set Ar2 q2 S2 M2 H2 G2 rfl W3 0 rfl (Nat.le_of_ble_eq_true rfl)
  obtain ⟨cl4, Ar4, q4, S4, M4, H4, G4⟩ := id V3
  have hin4 : ¬ ((0 : Int32) < 0 ∨ cl4.slots.size ≤ ((0 : Int32)).toNatClampNeg) := inb_of S4 ⟨by decide, by decide⟩
  have hat4 : cl4.slots[((0 : Int32)).toNatClampNeg]? = some (.int (0 : Int32)) := H4.at hin4 rfl
  obtain ⟨_, _, ⟨T5, L5, k5, n5⟩, -, X5, ⟨Lc5, hQ5, l5, y5, z5⟩, st5⟩ := Jvm.LawKit.callS X3 hx (y := (⟨"com/example/frugal_synth/frugalsynth/ArenaFirstChoicePinLaw", "nib", "(II)I"⟩ : MethodName)) hown (mvT hZ (hw _ (List.mem_of_getElem? (i := 1) rfl))) (mvT hZ (hw _ (List.mem_of_getElem? (i := 2) rfl))) (mvT hZ (hw _ (List.mem_of_getElem? (i := 3) rfl))) (mvT hZ (hw _ (List.mem_of_getElem? (i := 4) rfl))) (by decide) (backOf (W := 3) (rm1 l Z a0' hw [] p1 (0 : Int32) h3 n0 Z3) hZ (hw _ (List.mem_of_getElem? (i := 4) rfl)) (hw _ (List.mem_of_getElem? (i := 3) rfl)) (by decide) (by decide)) (g := (mkF m 34 #[.val (.int p0), .val (.int p1), .val (.int p2), .val (.int p3), .val (.int (f0_v0 p0 p1 p2 p3)), .val (.int ((8 : Int32) / (f0_v0 p0 p1 p2 p3))), .val (.ref b1), .unset, .unset, .unset] [(.int (0 : Int32)), (.int p1), (.int (0 : Int32)), (.int (1 : Int32)), (.ref b1)])) rfl (by rw [hml]; rfl) (argsL := [(.int p1), (.int (0 : Int32))]) (rest := [(.int (0 : Int32)), (.int (1 : Int32)), (.ref b1)]) (lenOf pd0 rfl) rfl (by show 2 * 0 + _ ≤ _; exact Nat.le_of_eq rfl) (hb hby at_34) (fun _ _ => ⟨rfl, e3, (by decide : 1 + 0 ≤ _), (by decide : 9 + 0 ≤ _)⟩)
  dsimp only [Pt.U, Pt.locs, Pt.cells, Pt.slots] at X5 l5 y5 z5 st5 hQ5
  subst l5 y5 z5
  obtain ⟨rfl, N5q, e5⟩ := hQ5
  have N5 := Fr.app N3 N5q
  obtain ⟨cl6, Ar6, q6, S6, M6, H6, G6⟩ := id V3
  have hin6 : ¬ ((1 : Int32) < 0 ∨ cl6.slots.size ≤ ((1 : Int32)).toNatClampNeg) := inb_of S6 ⟨by decide, by decide⟩
  obtain ⟨T7, h7, X7, e7, W7, st7⟩ := stI X5 hx hZ e5 Ar6 (j := (1 : Int32)) hin6 (g := (mkF m 38 #[.val (.int p0), .val (.int p1), .val (.int p2), .val (.int p3), .val (.int (f0_v0 p0 p1 p2 p3)), .val (.int ((8 : Int32) / (f0_v0 p0 p1 p2 p3))), .val (.ref b1), .unset, .unset, .unset] [(.int ((0 : Int32) + (F1 p1 (0 : Int32)))), (.int (1 : Int32)), (.ref b1)])) rfl rfl (hb hby at_38)
  have Z7 : n0 ≤ h7.size := Nat.le_trans Z3 (Keep.of_wr W7).1
  have N7 := Fr.snoc X7 N5 g_b1
  have V7 : Arv Z h7 b1 k1 .int (9 : Int32) [(.int (0 : Int32)), (.int ((0 : Int32) + (F1 p1 (0 : Int32)))), (.int (0 : Int32)), (.int (0 : Int32)), (.int (0 : Int32)), (.int (0 : Int32)), (.int (0 : Int32)), (.int (0 : Int32)), (.int (0 : Int32))] (.int (0 : Int32)) := Arv.set Ar6 q6 S6 M6 H6 G6 rfl W7 1 rfl (Nat.le_of_ble_eq_true rfl)
  obtain ⟨cl8, Ar8, q8, S8, M8, H8, G8⟩ := id V7
  have hin8 : ¬ ((1 : Int32) < 0 ∨ cl8.slots.size ≤ ((1 : Int32)).toNatClampNeg) := inb_of S8 ⟨by decide, by decide⟩
  have hat8 : cl8.slots[((1 : Int32)).toNatClampNeg]? = some (.int ((0 : Int32) + (F1 p1 (0 : Int32)))) := H8.at hin8 rfl
  obtain ⟨_, _, ⟨T9, L9, k9, n9⟩, -, X9, ⟨Lc9, hQ9, l9, y9, z9⟩, st9⟩ := Jvm.LawKit.callS X7 hx (y := (⟨"com/example/frugal_synth/frugalsynth/ArenaFirstChoicePinLaw", "nib", "(II)I"⟩ : MethodName)) hown (mvT hZ (hw _ (List.mem_of_getElem? (i := 1) rfl))) (mvT hZ (hw _ (List.mem_of_getElem? (i := 2) rfl))) (mvT hZ (hw _ (List.mem_of_getElem? (i := 3) rfl))) (mvT hZ (hw _ (List.mem_of_getElem? (i := 4) rfl))) (by decide) (backOf (W := 3) (rm1 l Z a0' hw [] p1 (1 : Int32) h7 n0 Z7) hZ (hw _ (List.mem_of_getElem? (i := 4) rfl)) (hw _ (List.mem_of_getElem? (i := 3) rfl)) (by decide) (by decide)) (g := (mkF m 48 #[.val (.int p0), .val (.int p1), .val (.int p2), .val (.int p3), .val (.int (f0_v0 p0 p1 p2 p3)), .val (.int ((8 : Int32) / (f0_v0 p0 p1 p2 p3))), .val (.ref b1), .unset, .unset, .unset] [(.int (1 : Int32)), (.int p1), (.int ((0 : Int32) + (F1 p1 (0 : Int32)))), (.int (2 : Int32)), (.ref b1)])) rfl (by rw [hml]; rfl) (argsL := [(.int p1), (.int (1 : Int32))]) (rest := [(.int ((0 : Int32) + (F1 p1 (0 : Int32)))), (.int (2 : Int32)), (.ref b1)]) (lenOf pd0 rfl) rfl (by show 2 * 0 + _ ≤ _; exact Nat.le_of_eq rfl) (hb hby at_48) (fun _ _ => ⟨rfl, e7, (by decide : 1 + 0 ≤ _), (by decide : 9 + 0 ≤ _)⟩)
  dsimp only [Pt.U, Pt.locs, Pt.cells, Pt.slots] at X9 l9 y9 z9 st9 hQ9
  subst l9 y9 z9
  obtain ⟨rfl, N9q, e9⟩ := hQ9
  have N9 := Fr.app N7 N9q
  obtain ⟨cl10, Ar10, q10, S10, M10, H10, G10⟩ := id V7
  have hin10 : ¬ ((2 : Int32) < 0 ∨ cl10.slots.size ≤ ((2 : Int32)).toNatClampNeg) := inb_of S10 ⟨by decide, by decide⟩
  obtain ⟨T11, h11, X11, e11, W11, st11⟩ := stI X9 hx hZ e9 Ar10 (j := (2 : Int32)) hin10 (g := (mkF m 52 #[.val (.int p0), .val (.int p1), .val (.int p2), .val (.int p3), .val (.int (f0_v0 p0 p1 p2 p3)), .val (.int ((8 : Int32) / (f0_v0 p0 p1 p2 p3))), .val (.ref b1), .unset, .unset, .unset] [(.int (f0_v1 p0 p1 p2 p3)), (.int (2 : Int32)), (.ref b1)])) rfl rfl (hb hby at_52)
  have Z11 : n0 ≤ h11.size := Nat.le_trans Z7 (Keep.of_wr W11).1
  have N11 := Fr.snoc X11 N9 g_b1
  have V11 : Arv Z h11 b1 k1 .int (9 : Int32) [(.int (0 : Int32)), (.int ((0 : Int32) + (F1 p1 (0 : Int32)))), (.int (f0_v1 p0 p1 p2 p3)), (.int (0 : Int32)), (.int (0 : Int32)), (.int (0 : Int32)), (.int (0 : Int32)), (.int (0 : Int32)), (.int (0 : Int32))] (.int (0 : Int32)) := Arv.set Ar10 q10 S10 M10 H10 G10 rfl W11 2 rfl (Nat.le_of_ble_eq_true rfl)
  obtain ⟨cl12, Ar12, q12, S12, M12, H12, G12⟩ := id V11
  have hin12 : ¬ ((2 : Int32) < 0 ∨ cl12.slots.size ≤ ((2 : Int32)).toNatClampNeg) := inb_of S12 ⟨by decide, by decide⟩
  have hat12 : cl12.slots[((2 : Int32)).toNatClampNeg]? = some (.int (f0_v1 p0 p1 p2 p3)) := H12.at hin12 rfl
  obtain ⟨_, _, ⟨T13, L13, k13, n13⟩, -, X13, ⟨Lc13, hQ13, l13, y13, z13⟩, st13⟩ := Jvm.LawKit.callS X11 hx (y := (⟨"com/example/frugal_synth/frugalsynth/ArenaFirstChoicePinLaw", "nib", "(II)I"⟩ : MethodName)) hown (mvT hZ (hw _ (List.mem_of_getElem? (i := 1) rfl))) (mvT hZ (hw _ (List.mem_of_getElem? (i := 2) rfl))) (mvT hZ (hw _ (List.mem_of_getElem? (i := 3) rfl))) (mvT hZ (hw _ (List.mem_of_getElem? (i := 4) rfl))) (by decide) (backOf (W := 3) (rm1 l Z a0' hw [] p1 (2 : Int32) h11 n0 Z11) hZ (hw _ (List.mem_of_getElem? (i := 4) rfl)) (hw _ (List.mem_of_getElem? (i := 3) rfl)) (by decide) (by decide)) (g := (mkF m 62 #[.val (.int p0), .val (.int p1), .val (.int p2), .val (.int p3), .val (.int (f0_v0 p0 p1 p2 p3)), .val (.int ((8 : Int32) / (f0_v0 p0 p1 p2 p3))), .val (.ref b1), .unset, .unset, .unset] [(.int (2 : Int32)), (.int p1), (.int (f0_v1 p0 p1 p2 p3)), (.int (3 : Int32)), (.ref b1)])) rfl (by rw [hml]; rfl) (argsL := [(.int p1), (.int (2 : Int32))]) (rest := [(.int (f0_v1 p0 p1 p2 p3)), (.int (3 : Int32)), (.ref b1)]) (lenOf pd0 rfl) rfl (by show 2 * 0 + _ ≤ _; exact Nat.le_of_eq rfl) (hb hby at_62) (fun _ _ => ⟨rfl, e11, (by decide : 1 + 0 ≤ _), (by decide : 9 + 0 ≤ _)⟩)
  dsimp only [Pt.U, Pt.locs, Pt.cells, Pt.slots] at X13 l13 y13 z13 st13 hQ13
  subst l13 y13 z13
  obtain ⟨rfl, N13q, e13⟩ := hQ13
  have N13 := Fr.app N11 N13q
  obtain ⟨cl14, Ar14, q14, S14, M14, H14, G14⟩ := id V11
  have hin14 : ¬ ((3 : Int32) < 0 ∨ cl14.slots.size ≤ ((3 : Int32)).toNatClampNeg) := inb_of S14 ⟨by decide, by decide⟩
  obtain ⟨T15, h15, X15, e15, W15, st15⟩ := stI X13 hx hZ e13 Ar14 (j := (3 : Int32)) hin14 (g := (mkF m 66 #[.val (.int p0), .val (.int p1), .val (.int p2), .val (.int p3), .val (.int (f0_v0 p0 p1 p2 p3)), .val (.int ((8 : Int32) / (f0_v0 p0 p1 p2 p3))), .val (.ref b1), .unset, .unset, .unset] [(.int ((f0_v1 p0 p1 p2 p3) + (F1 p1 (2 : Int32)))), (.int (3 : Int32)), (.ref b1)])) rfl rfl (hb hby at_66)
  have Z15 : n0 ≤ h15.size := Nat.le_trans Z11 (Keep.of_wr W15).1
  have N15 := Fr.snoc X15 N13 g_b1
  have V15 : Arv Z h15 b1 k1 .int (9 : Int32) [(.int (0 : Int32)), (.int ((0 : Int32) + (F1 p1 (0 : Int32)))), (.int (f0_v1 p0 p1 p2 p3)), (.int ((f0_v1 p0 p1 p2 p3) + (F1 p1 (2 : Int32)))), (.int (0 : Int32)), (.int (0 : Int32)), (.int (0 : Int32)), (.int (0 : Int32)), (.int (0 : Int32))] (.int (0 : Int32)) := Arv.set Ar14 q14 S14 M14 H14 G14 rfl W15 3 rfl (Nat.le_of_ble_eq_true rfl)
  obtain ⟨cl16, Ar16, q16, S16, M16, H16, G16⟩ := id V15
  have hin16 : ¬ ((3 : Int32) < 0 ∨ cl16.slots.size ≤ ((3 : Int32)).toNatClampNeg) := inb_of S16 ⟨by decide, by decide⟩
  have hat16 : cl16.slots[((3 : Int32)).toNatClampNeg]? = some (.int ((f0_v1 p0 p1 p2 p3) + (F1 p1 (2 : Int32)))) := H16.at hin16 rfl
  obtain ⟨_, _, ⟨T17, L17, k17, n17⟩, -, X17, ⟨Lc17, hQ17, l17, y17, z17⟩, st17⟩ := Jvm.LawKit.callS X15 hx (y := (⟨"com/example/frugal_synth/frugalsynth/ArenaFirstChoicePinLaw", "nib", "(II)I"⟩ : MethodName)) hown (mvT hZ (hw _ (List.mem_of_getElem? (i := 1) rfl))) (mvT hZ (hw _ (List.mem_of_getElem? (i := 2) rfl))) (mvT hZ (hw _ (List.mem_of_getElem? (i := 3) rfl))) (mvT hZ (hw _ (List.mem_of_getElem? (i := 4) rfl))) (by decide) (backOf (W := 3) (rm1 l Z a0' hw [] p1 (3 : Int32) h15 n0 Z15) hZ (hw _ (List.mem_of_getElem? (i := 4) rfl)) (hw _ (List.mem_of_getElem? (i := 3) rfl)) (by decide) (by decide)) (g := (mkF m 76 #[.val (.int p0), .val (.int p1), .val (.int p2), .val (.int p3), .val (.int (f0_v0 p0 p1 p2 p3)), .val (.int ((8 : Int32) / (f0_v0 p0 p1 p2 p3))), .val (.ref b1), .unset, .unset, .unset] [(.int (3 : Int32)), (.int p1), (.int ((f0_v1 p0 p1 p2 p3) + (F1 p1 (2 : Int32)))), (.int (4 : Int32)), (.ref b1)])) rfl (by rw [hml]; rfl) (argsL := [(.int p1), (.int (3 : Int32))]) (rest := [(.int ((f0_v1 p0 p1 p2 p3) + (F1 p1 (2 : Int32)))), (.int (4 : Int32)), (.ref b1)]) (lenOf pd0 rfl) rfl (by show 2 * 0 + _ ≤ _; exact Nat.le_of_eq rfl) (hb hby at_76) (fun _ _ => ⟨rfl, e15, (by decide : 1 + 0 ≤ _), (by decide : 9 + 0 ≤ _)⟩)
  dsimp only [Pt.U, Pt.locs, Pt.cells, Pt.slots] at X17 l17 y17 z17 st17 hQ17
  subst l17 y17 z17
  obtain ⟨rfl, N17q, e17⟩ := hQ17
  have N17 := Fr.app N15 N17q
  obtain ⟨cl18, Ar18, q18, S18, M18, H18, G18⟩ := id V15
  have hin18 : ¬ ((4 : Int32) < 0 ∨ cl18.slots.size ≤ ((4 : Int32)).toNatClampNeg) := inb_of S18 ⟨by decide, by decide⟩
  obtain ⟨T19, h19, X19, e19, W19, st19⟩ := stI X17 hx hZ e17 Ar18 (j := (4 : Int32)) hin18 (g := (mkF m 80 #[.val (.int p0), .val (.int p1), .val (.int p2), .val (.int p3), .val (.int (f0_v0 p0 p1 p2 p3)), .val (.int ((8 : Int32) / (f0_v0 p0 p1 p2 p3))), .val (.ref b1), .unset, .unset, .unset] [(.int (f0_v2 p0 p1 p2 p3)), (.int (4 : Int32)), (.ref b1)])) rfl rfl (hb hby at_80)
  have Z19 : n0 ≤ h19.size := Nat.le_trans Z15 (Keep.of_wr W19).1
  have N19 := Fr.snoc X19 N17 g_b1
  have V19 : Arv Z h19 b1 k1 .int (9 : Int32) [(.int (0 : Int32)), (.int ((0 : Int32) + (F1 p1 (0 : Int32)))), (.int (f0_v1 p0 p1 p2 p3)), (.int ((f0_v1 p0 p1 p2 p3) + (F1 p1 (2 : Int32)))), (.int (f0_v2 p0 p1 p2 p3)), (.int (0 : Int32)), (.int (0 : Int32)), (.int (0 : Int32)), (.int (0 : Int32))] (.int (0 : Int32)) := Arv.set Ar18 q18 S18 M18 H18 G18 rfl W19 4 rfl (Nat.le_of_ble_eq_true rfl)
  obtain ⟨cl20, Ar20, q20, S20, M20, H20, G20⟩ := id V19
  have hin20 : ¬ ((4 : Int32) < 0 ∨ cl20.slots.size ≤ ((4 : Int32)).toNatClampNeg) := inb_of S20 ⟨by decide, by decide⟩
  have hat20 : cl20.slots[((4 : Int32)).toNatClampNeg]? = some (.int (f0_v2 p0 p1 p2 p3)) := H20.at hin20 rfl
  obtain ⟨_, _, ⟨T21, L21, k21, n21⟩, -, X21, ⟨Lc21, hQ21, l21, y21, z21⟩, st21⟩ := Jvm.LawKit.callS X19 hx (y := (⟨"com/example/frugal_synth/frugalsynth/ArenaFirstChoicePinLaw", "nib", "(II)I"⟩ : MethodName)) hown (mvT hZ (hw _ (List.mem_of_getElem? (i := 1) rfl))) (mvT hZ (hw _ (List.mem_of_getElem? (i := 2) rfl))) (mvT hZ (hw _ (List.mem_of_getElem? (i := 3) rfl))) (mvT hZ (hw _ (List.mem_of_getElem? (i := 4) rfl))) (by decide) (backOf (W := 3) (rm1 l Z a0' hw [] p1 (4 : Int32) h19 n0 Z19) hZ (hw _ (List.mem_of_getElem? (i := 4) rfl)) (hw _ (List.mem_of_getElem? (i := 3) rfl)) (by decide) (by decide)) (g := (mkF m 90 #[.val (.int p0), .val (.int p1), .val (.int p2), .val (.int p3), .val (.int (f0_v0 p0 p1 p2 p3)), .val (.int ((8 : Int32) / (f0_v0 p0 p1 p2 p3))), .val (.ref b1), .unset, .unset, .unset] [(.int (4 : Int32)), (.int p1), (.int (f0_v2 p0 p1 p2 p3)), (.int (5 : Int32)), (.ref b1)])) rfl (by rw [hml]; rfl) (argsL := [(.int p1), (.int (4 : Int32))]) (rest := [(.int (f0_v2 p0 p1 p2 p3)), (.int (5 : Int32)), (.ref b1)]) (lenOf pd0 rfl) rfl (by show 2 * 0 + _ ≤ _; exact Nat.le_of_eq rfl) (hb hby at_90) (fun _ _ => ⟨rfl, e19, (by decide : 1 + 0 ≤ _), (by decide : 9 + 0 ≤ _)⟩)
  dsimp only [Pt.U, Pt.locs, Pt.cells, Pt.slots] at X21 l21 y21 z21 st21 hQ21
  subst l21 y21 z21
  obtain ⟨rfl, N21q, e21⟩ := hQ21
  have N21 := Fr.app N19 N21q
  obtain ⟨cl22, Ar22, q22, S22, M22, H22, G22⟩ := id V19
  have hin22 : ¬ ((5 : Int32) < 0 ∨ cl22.slots.size ≤ ((5 : Int32)).toNatClampNeg) := inb_of S22 ⟨by decide, by decide⟩
  obtain ⟨T23, h23, X23, e23, W23, st23⟩ := stI X21 hx hZ e21 Ar22 (j := (5 : Int32)) hin22 (g := (mkF m 94 #[.val (.int p0), .val (.int p1), .val (.int p2), .val (.int p3), .val (.int (f0_v0 p0 p1 p2 p3)), .val (.int ((8 : Int32) / (f0_v0 p0 p1 p2 p3))), .val (.ref b1), .unset, .unset, .unset] [(.int ((f0_v2 p0 p1 p2 p3) + (F1 p1 (4 : Int32)))), (.int (5 : Int32)), (.ref b1)])) rfl rfl (hb hby at_94)
  have Z23 : n0 ≤ h23.size := Nat.le_trans Z19 (Keep.of_wr W23).1
  have N23 := Fr.snoc X23 N21 g_b1
  have V23 : Arv Z h23 b1 k1 .int (9 : Int32) [(.int (0 : Int32)), (.int ((0 : Int32) + (F1 p1 (0 : Int32)))), (.int (f0_v1 p0 p1 p2 p3)), (.int ((f0_v1 p0 p1 p2 p3) + (F1 p1 (2 : Int32)))), (.int (f0_v2 p0 p1 p2 p3)), (.int ((f0_v2 p0 p1 p2 p3) + (F1 p1 (4 : Int32)))), (.int (0 : Int32)), (.int (0 : Int32)), (.int (0 : Int32))] (.int (0 : Int32)) := Arv.set Ar22 q22 S22 M22 H22 G22 rfl W23 5 rfl (Nat.le_of_ble_eq_true rfl)
  obtain ⟨cl24, Ar24, q24, S24, M24, H24, G24⟩ := id V23
  have hin24 : ¬ ((5 : Int32) < 0 ∨ cl24.slots.size ≤ ((5 : Int32)).toNatClampNeg) := inb_of S24 ⟨by decide, by decide⟩
  have hat24 : cl24.slots[((5 : Int32)).toNatClampNeg]? = some (.int ((f0_v2 p0 p1 p2 p3) + (F1 p1 (4 : Int32)))) := H24.at hin24 rfl
  obtain ⟨_, _, ⟨T25, L25, k25, n25⟩, -, X25, ⟨Lc25, hQ25, l25, y25, z25⟩, st25⟩ := Jvm.LawKit.callS X23 hx (y := (⟨"com/example/frugal_synth/frugalsynth/ArenaFirstChoicePinLaw", "nib", "(II)I"⟩ : MethodName)) hown (mvT hZ (hw _ (List.mem_of_getElem? (i := 1) rfl))) (mvT hZ (hw _ (List.mem_of_getElem? (i := 2) rfl))) (mvT hZ (hw _ (List.mem_of_getElem? (i := 3) rfl))) (mvT hZ (hw _ (List.mem_of_getElem? (i := 4) rfl))) (by decide) (backOf (W := 3) (rm1 l Z a0' hw [] p1 (5 : Int32) h23 n0 Z23) hZ (hw _ (List.mem_of_getElem? (i := 4) rfl)) (hw _ (List.mem_of_getElem? (i := 3) rfl)) (by decide) (by decide)) (g := (mkF m 105 #[.val (.int p0), .val (.int p1), .val (.int p2), .val (.int p3), .val (.int (f0_v0 p0 p1 p2 p3)), .val (.int ((8 : Int32) / (f0_v0 p0 p1 p2 p3))), .val (.ref b1), .unset, .unset, .unset] [(.int (5 : Int32)), (.int p1), (.int ((f0_v2 p0 p1 p2 p3) + (F1 p1 (4 : Int32)))), (.int (6 : Int32)), (.ref b1)])) rfl (by rw [hml]; rfl) (argsL := [(.int p1), (.int (5 : Int32))]) (rest := [(.int ((f0_v2 p0 p1 p2 p3) + (F1 p1 (4 : Int32)))), (.int (6 : Int32)), (.ref b1)]) (lenOf pd0 rfl) rfl (by show 2 * 0 + _ ≤ _; exact Nat.le_of_eq rfl) (hb hby at_105) (fun _ _ => ⟨rfl, e23, (by decide : 1 + 0 ≤ _), (by decide : 9 + 0 ≤ _)⟩)
  dsimp only [Pt.U, Pt.locs, Pt.cells, Pt.slots] at X25 l25 y25 z25 st25 hQ25
  subst l25 y25 z25
  obtain ⟨rfl, N25q, e25⟩ := hQ25
  have N25 := Fr.app N23 N25q
  obtain ⟨cl26, Ar26, q26, S26, M26, H26, G26⟩ := id V23
  have hin26 : ¬ ((6 : Int32) < 0 ∨ cl26.slots.size ≤ ((6 : Int32)).toNatClampNeg) := inb_of S26 ⟨by decide, by decide⟩
  obtain ⟨T27, h27, X27, e27, W27, st27⟩ := stI X25 hx hZ e25 Ar26 (j := (6 : Int32)) hin26 (g := (mkF m 109 #[.val (.int p0), .val (.int p1), .val (.int p2), .val (.int p3), .val (.int (f0_v0 p0 p1 p2 p3)), .val (.int ((8 : Int32) / (f0_v0 p0 p1 p2 p3))), .val (.ref b1), .unset, .unset, .unset] [(.int (f0_v3 p0 p1 p2 p3)), (.int (6 : Int32)), (.ref b1)])) rfl rfl (hb hby at_109)
  have Z27 : n0 ≤ h27.size := Nat.le_trans Z23 (Keep.of_wr W27).1
  have N27 := Fr.snoc X27 N25 g_b1
  have V27 : Arv Z h27 b1 k1 .int (9 : Int32) [(.int (0 : Int32)), (.int ((0 : Int32) + (F1 p1 (0 : Int32)))), (.int (f0_v1 p0 p1 p2 p3)), (.int ((f0_v1 p0 p1 p2 p3) + (F1 p1 (2 : Int32)))), (.int (f0_v2 p0 p1 p2 p3)), (.int ((f0_v2 p0 p1 p2 p3) + (F1 p1 (4 : Int32)))), (.int (f0_v3 p0 p1 p2 p3)), (.int (0 : Int32)), (.int (0 : Int32))] (.int (0 : Int32)) := Arv.set Ar26 q26 S26 M26 H26 G26 rfl W27 6 rfl (Nat.le_of_ble_eq_true rfl)
  obtain ⟨cl28, Ar28, q28, S28, M28, H28, G28⟩ := id V27
  have hin28 : ¬ ((6 : Int32) < 0 ∨ cl28.slots.size ≤ ((6 : Int32)).toNatClampNeg) := inb_of S28 ⟨by decide, by decide⟩
  have hat28 : cl28.slots[((6 : Int32)).toNatClampNeg]? = some (.int (f0_v3 p0 p1 p2 p3)) := H28.at hin28 rfl
  obtain ⟨_, _, ⟨T29, L29, k29, n29⟩, -, X29, ⟨Lc29, hQ29, l29, y29, z29⟩, st29⟩ := Jvm.LawKit.callS X27 hx (y := (⟨"com/example/frugal_synth/frugalsynth/ArenaFirstChoicePinLaw", "nib", "(II)I"⟩ : MethodName)) hown (mvT hZ (hw _ (List.mem_of_getElem? (i := 1) rfl))) (mvT hZ (hw _ (List.mem_of_getElem? (i := 2) rfl))) (mvT hZ (hw _ (List.mem_of_getElem? (i := 3) rfl))) (mvT hZ (hw _ (List.mem_of_getElem? (i := 4) rfl))) (by decide) (backOf (W := 3) (rm1 l Z a0' hw [] p1 (6 : Int32) h27 n0 Z27) hZ (hw _ (List.mem_of_getElem? (i := 4) rfl)) (hw _ (List.mem_of_getElem? (i := 3) rfl)) (by decide) (by decide)) (g := (mkF m 122 #[.val (.int p0), .val (.int p1), .val (.int p2), .val (.int p3), .val (.int (f0_v0 p0 p1 p2 p3)), .val (.int ((8 : Int32) / (f0_v0 p0 p1 p2 p3))), .val (.ref b1), .unset, .unset, .unset] [(.int (6 : Int32)), (.int p1), (.int (f0_v3 p0 p1 p2 p3)), (.int (7 : Int32)), (.ref b1)])) rfl (by rw [hml]; rfl) (argsL := [(.int p1), (.int (6 : Int32))]) (rest := [(.int (f0_v3 p0 p1 p2 p3)), (.int (7 : Int32)), (.ref b1)]) (lenOf pd0 rfl) rfl (by show 2 * 0 + _ ≤ _; exact Nat.le_of_eq rfl) (hb hby at_122) (fun _ _ => ⟨rfl, e27, (by decide : 1 + 0 ≤ _), (by decide : 9 + 0 ≤ _)⟩)
  dsimp only [Pt.U, Pt.locs, Pt.cells, Pt.slots] at X29 l29 y29 z29 st29 hQ29
  subst l29 y29 z29
  obtain ⟨rfl, N29q, e29⟩ := hQ29
  have N29 := Fr.app N27 N29q
  obtain ⟨cl30, Ar30, q30, S30, M30, H30, G30⟩ := id V27
  have hin30 : ¬ ((7 : Int32) < 0 ∨ cl30.slots.size ≤ ((7 : Int32)).toNatClampNeg) := inb_of S30 ⟨by decide, by decide⟩
  obtain ⟨T31, h31, X31, e31, W31, st31⟩ := stI X29 hx hZ e29 Ar30 (j := (7 : Int32)) hin30 (g := (mkF m 126 #[.val (.int p0), .val (.int p1), .val (.int p2), .val (.int p3), .val (.int (f0_v0 p0 p1 p2 p3)), .val (.int ((8 : Int32) / (f0_v0 p0 p1 p2 p3))), .val (.ref b1), .unset, .unset, .unset] [(.int ((f0_v3 p0 p1 p2 p3) + (F1 p1 (6 : Int32)))), (.int (7 : Int32)), (.ref b1)])) rfl rfl (hb hby at_126)
  have Z31 : n0 ≤ h31.size := Nat.le_trans Z27 (Keep.of_wr W31).1
  have N31 := Fr.snoc X31 N29 g_b1
  have V31 : Arv Z h31 b1 k1 .int (9 : Int32) [(.int (0 : Int32)), (.int ((0 : Int32) + (F1 p1 (0 : Int32)))), (.int (f0_v1 p0 p1 p2 p3)), (.int ((f0_v1 p0 p1 p2 p3) + (F1 p1 (2 : Int32)))), (.int (f0_v2 p0 p1 p2 p3)), (.int ((f0_v2 p0 p1 p2 p3) + (F1 p1 (4 : Int32)))), (.int (f0_v3 p0 p1 p2 p3)), (.int ((f0_v3 p0 p1 p2 p3) + (F1 p1 (6 : Int32)))), (.int (0 : Int32))] (.int (0 : Int32)) := Arv.set Ar30 q30 S30 M30 H30 G30 rfl W31 7 rfl (Nat.le_of_ble_eq_true rfl)
  obtain ⟨cl32, Ar32, q32, S32, M32, H32, G32⟩ := id V31
  have hin32 : ¬ ((7 : Int32) < 0 ∨ cl32.slots.size ≤ ((7 : Int32)).toNatClampNeg) := inb_of S32 ⟨by decide, by decide⟩
  have hat32 : cl32.slots[((7 : Int32)).toNatClampNeg]? = some (.int ((f0_v3 p0 p1 p2 p3) + (F1 p1 (6 : Int32)))) := H32.at hin32 rfl
  obtain ⟨_, _, ⟨T33, L33, k33, n33⟩, -, X33, ⟨Lc33, hQ33, l33, y33, z33⟩, st33⟩ := Jvm.LawKit.callS X31 hx (y := (⟨"com/example/frugal_synth/frugalsynth/ArenaFirstChoicePinLaw", "nib", "(II)I"⟩ : MethodName)) hown (mvT hZ (hw _ (List.mem_of_getElem? (i := 1) rfl))) (mvT hZ (hw _ (List.mem_of_getElem? (i := 2) rfl))) (mvT hZ (hw _ (List.mem_of_getElem? (i := 3) rfl))) (mvT hZ (hw _ (List.mem_of_getElem? (i := 4) rfl))) (by decide) (backOf (W := 3) (rm1 l Z a0' hw [] p1 (7 : Int32) h31 n0 Z31) hZ (hw _ (List.mem_of_getElem? (i := 4) rfl)) (hw _ (List.mem_of_getElem? (i := 3) rfl)) (by decide) (by decide)) (g := (mkF m 139 #[.val (.int p0), .val (.int p1), .val (.int p2), .val (.int p3), .val (.int (f0_v0 p0 p1 p2 p3)), .val (.int ((8 : Int32) / (f0_v0 p0 p1 p2 p3))), .val (.ref b1), .unset, .unset, .unset] [(.int (7 : Int32)), (.int p1), (.int ((f0_v3 p0 p1 p2 p3) + (F1 p1 (6 : Int32)))), (.int (8 : Int32)), (.ref b1)])) rfl (by rw [hml]; rfl) (argsL := [(.int p1), (.int (7 : Int32))]) (rest := [(.int ((f0_v3 p0 p1 p2 p3) + (F1 p1 (6 : Int32)))), (.int (8 : Int32)), (.ref b1)]) (lenOf pd0 rfl) rfl (by show 2 * 0 + _ ≤ _; exact Nat.le_of_eq rfl) (hb hby at_139) (fun _ _ => ⟨rfl, e31, (by decide : 1 + 0 ≤ _), (by decide : 9 + 0 ≤ _)⟩)
  dsimp only [Pt.U, Pt.locs, Pt.cells, Pt.slots] at X33 l33 y33 z33 st33 hQ33
  subst l33 y33 z33
  obtain ⟨rfl, N33q, e33⟩ := hQ33
  have N33 := Fr.app N31 N33q
  obtain ⟨cl34, Ar34, q34, S34, M34, H34, G34⟩ := id V31
  have hin34 : ¬ ((8 : Int32) < 0 ∨ cl34.slots.size ≤ ((8 : Int32)).toNatClampNeg) := inb_of S34 ⟨by decide, by decide⟩
  obtain ⟨T35, h35, X35, e35, W35, st35⟩ := stI X33 hx hZ e33 Ar34 (j := (8 : Int32)) hin34 (g := (mkF m 143 #[.val (.int p0), .val (.int p1), .val (.int p2), .val (.int p3), .val (.int (f0_v0 p0 p1 p2 p3)), .val (.int ((8 : Int32) / (f0_v0 p0 p1 p2 p3))), .val (.ref b1), .unset, .unset, .unset] [(.int (f0_v4 p0 p1 p2 p3)), (.int (8 : Int32)), (.ref b1)])) rfl rfl (hb hby at_143)
  have Z35 : n0 ≤ h35.size := Nat.le_trans Z31 (Keep.of_wr W35).1
  have N35 := Fr.snoc X35 N33 g_b1
  have V35 : Arv Z h35 b1 k1 .int (9 : Int32) [(.int (0 : Int32)), (.int ((0 : Int32) + (F1 p1 (0 : Int32)))), (.int (f0_v1 p0 p1 p2 p3)), (.int ((f0_v1 p0 p1 p2 p3) + (F1 p1 (2 : Int32)))), (.int (f0_v2 p0 p1 p2 p3)), (.int ((f0_v2 p0 p1 p2 p3) + (F1 p1 (4 : Int32)))), (.int (f0_v3 p0 p1 p2 p3)), (.int ((f0_v3 p0 p1 p2 p3) + (F1 p1 (6 : Int32)))), (.int (f0_v4 p0 p1 p2 p3))] (.int (0 : Int32)) := Arv.set Ar34 q34 S34 M34 H34 G34 rfl W35 8 rfl (Nat.le_of_ble_eq_true rfl)
  obtain ⟨T36, h36, X36, e36, E36, A36, D36, -, st36⟩ := newO X35 hx hZ hown (hw _ (List.mem_of_getElem? (i := 5) rfl)) (hw _ (List.mem_of_getElem? (i := 6) rfl)) (hw _ (List.mem_of_getElem? (i := 7) rfl)) e35 (g := (mkF m 144 #[.val (.int p0), .val (.int p1), .val (.int p2), .val (.int p3), .val (.int (f0_v0 p0 p1 p2 p3)), .val (.int ((8 : Int32) / (f0_v0 p0 p1 p2 p3))), .val (.ref b1), .unset, .unset, .unset] [])) rfl (hb hby at_144) (by decide) (by decide)
  obtain ⟨b36, g36⟩ : ∃ z, z = h35.size := ⟨_, rfl⟩
  rw [← g36] at A36 D36 st36
  have ne_b1_b36 : b1 ≠ b36 := Nat.ne_of_lt (Nat.lt_of_lt_of_le V35.lt (Nat.le_of_eq g36.symm))
  have g_b36 : n0 ≤ b36 := Nat.le_trans Z35 (Nat.le_of_eq g36.symm)
  have Z36 : n0 ≤ h36.size := Nat.le_trans Z35 E36.1
  have F36_assignmentCount : Fld Z h36 b36 "com/example/frugal_synth/frugalsynth/Arena" "assignmentCount" "I" (.int (0 : Int32)) := D36 (Or.inr (hw _ (List.mem_of_getElem? (i := 16) rfl))) (ty := .int) (by decide)
  have F36_firstChoice : Fld Z h36 b36 "com/example/frugal_synth/frugalsynth/Arena" "firstChoice" "[I" .null := D36 (Or.inr (hw _ (List.mem_of_getElem? (i := 18) rfl))) (ty := (.array .int)) (by decide)
  have F36_outputs : Fld Z h36 b36 "com/example/frugal_synth/frugalsynth/Arena" "outputs" "[I" .null := D36 (Or.inr (hw _ (List.mem_of_getElem? (i := 20) rfl))) (ty := (.array .int)) (by decide)
  have F36_targets : Fld Z h36 b36 "com/example/frugal_synth/frugalsynth/Arena" "targets" "[I" .null := D36 (Or.inr (hw _ (List.mem_of_getElem? (i := 22) rfl))) (ty := (.array .int)) (by decide)
  have F36_weights : Fld Z h36 b36 "com/example/frugal_synth/frugalsynth/Arena" "weights" "[J" .null := D36 (Or.inr (hw _ (List.mem_of_getElem? (i := 24) rfl))) (ty := (.array .long)) (by decide)
  have F36_parityCount : Fld Z h36 b36 "com/example/frugal_synth/frugalsynth/Arena" "parityCount" "I" (.int (0 : Int32)) := D36 (Or.inr (hw _ (List.mem_of_getElem? (i := 26) rfl))) (ty := .int) (by decide)
  have F36_priorities : Fld Z h36 b36 "com/example/frugal_synth/frugalsynth/Arena" "priorities" "[I" .null := D36 (Or.inr (hw _ (List.mem_of_getElem? (i := 28) rfl))) (ty := (.array .int)) (by decide)
  obtain ⟨T37, h37, k37, X37, e37, E37, A37, st37⟩ := newP X36 hx hZ (hw _ (List.mem_of_getElem? (i := 0) rfl)) e36 (g := (mkF m 153 #[.val (.int p0), .val (.int p1), .val (.int p2), .val (.int p3), .val (.int (f0_v0 p0 p1 p2 p3)), .val (.int ((8 : Int32) / (f0_v0 p0 p1 p2 p3))), .val (.ref b1), .unset, .unset, .unset] [(.int (0 : Int32)), (.ref b1), (.int (f0_v0 p0 p1 p2 p3)), (.ref b36), (.ref b36)])) rfl (hb hby at_153) rfl (by decide) (cap := 0) (by decide) (by decide) (by decide) (by decide)
  obtain ⟨b37, g37⟩ : ∃ z, z = h36.size := ⟨_, rfl⟩
  rw [← g37] at A37 st37
  have y38 := (V35.ext E36)
  have ne_b1_b37 : b1 ≠ b37 := Nat.ne_of_lt (Nat.lt_of_lt_of_le y38.lt (Nat.le_of_eq g37.symm))
  have ne_b36_b37 : b36 ≠ b37 := Nat.ne_of_lt (Nat.lt_of_lt_of_le A36.lt (Nat.le_of_eq g37.symm))
  have g_b37 : n0 ≤ b37 := Nat.le_trans Z36 (Nat.le_of_eq g37.symm)
  have Z37 : n0 ≤ h37.size := Nat.le_trans Z36 E37.1
  have V37 : Arv Z h37 b37 k37 .int (0 : Int32) [] (.int (0 : Int32)) := (Arv.new A37 (by decide)).pad (pad_rep [] (.int (0 : Int32)) 0)
  obtain ⟨T39, h39, k39, X39, e39, E39, A39, st39⟩ := newP X37 hx hZ (hw _ (List.mem_of_getElem? (i := 0) rfl)) e37 (g := (mkF m 156 #[.val (.int p0), .val (.int p1), .val (.int p2), .val (.int p3), .val (.int (f0_v0 p0 p1 p2 p3)), .val (.int ((8 : Int32) / (f0_v0 p0 p1 p2 p3))), .val (.ref b1), .unset, .unset, .unset] [(.int (0 : Int32)), (.ref b37), (.ref b1), (.int (f0_v0 p0 p1 p2 p3)), (.ref b36), (.ref b36)])) rfl (hb hby at_156) rfl (by decide) (cap := 0) (by decide) (by decide) (by decide) (by decide)
  obtain ⟨b39, g39⟩ : ∃ z, z = h37.size := ⟨_, rfl⟩
  rw [← g39] at A39 st39
  have y40 := (y38.ext E37)
  have ne_b1_b39 : b1 ≠ b39 := Nat.ne_of_lt (Nat.lt_of_lt_of_le y40.lt (Nat.le_of_eq g39.symm))
  have y41 := (A36.ext E37)
  have ne_b36_b39 : b36 ≠ b39 := Nat.ne_of_lt (Nat.lt_of_lt_of_le y41.lt (Nat.le_of_eq g39.symm))
  have ne_b37_b39 : b37 ≠ b39 := Nat.ne_of_lt (Nat.lt_of_lt_of_le V37.lt (Nat.le_of_eq g39.symm))
  have g_b39 : n0 ≤ b39 := Nat.le_trans Z37 (Nat.le_of_eq g39.symm)
  have Z39 : n0 ≤ h39.size := Nat.le_trans Z37 E39.1
  have V39 : Arv Z h39 b39 k39 .int (0 : Int32) [] (.int (0 : Int32)) := (Arv.new A39 (by decide)).pad (pad_rep [] (.int (0 : Int32)) 0)
  obtain ⟨T42, h42, k42, X42, e42, E42, A42, st42⟩ := newP X39 hx hZ (hw _ (List.mem_of_getElem? (i := 8) rfl)) e39 (g := (mkF m 159 #[.val (.int p0), .val (.int p1), .val (.int p2), .val (.int p3), .val (.int (f0_v0 p0 p1 p2 p3)), .val (.int ((8 : Int32) / (f0_v0 p0 p1 p2 p3))), .val (.ref b1), .unset, .unset, .unset] [(.int (0 : Int32)), (.ref b39), (.ref b37), (.ref b1), (.int (f0_v0 p0 p1 p2 p3)), (.ref b36), (.ref b36)])) rfl (hb hby at_159) rfl (by decide) (cap := 0) (by decide) (by decide) (by decide) (by decide)
  obtain ⟨b42, g42⟩ : ∃ z, z = h39.size := ⟨_, rfl⟩
  rw [← g42] at A42 st42
  have y43 := (y40.ext E39)
  have ne_b1_b42 : b1 ≠ b42 := Nat.ne_of_lt (Nat.lt_of_lt_of_le y43.lt (Nat.le_of_eq g42.symm))
  have y44 := (y41.ext E39)
  have ne_b36_b42 : b36 ≠ b42 := Nat.ne_of_lt (Nat.lt_of_lt_of_le y44.lt (Nat.le_of_eq g42.symm))
  have y45 := (V37.ext E39)
  have ne_b37_b42 : b37 ≠ b42 := Nat.ne_of_lt (Nat.lt_of_lt_of_le y45.lt (Nat.le_of_eq g42.symm))
  have ne_b39_b42 : b39 ≠ b42 := Nat.ne_of_lt (Nat.lt_of_lt_of_le V39.lt (Nat.le_of_eq g42.symm))
  have g_b42 : n0 ≤ b42 := Nat.le_trans Z39 (Nat.le_of_eq g42.symm)
  have Z42 : n0 ≤ h42.size := Nat.le_trans Z39 E42.1
  have V42 : Arv Z h42 b42 k42 .long (0 : Int32) [] (.long (0 : Int64)) := (Arv.new A42 (by decide)).pad (pad_rep [] (.long (0 : Int64)) 0)
  obtain ⟨T46, h46, k46, X46, e46, E46, A46, st46⟩ := newP X42 hx hZ (hw _ (List.mem_of_getElem? (i := 0) rfl)) e42 (g := (mkF m 163 #[.val (.int p0), .val (.int p1), .val (.int p2), .val (.int p3), .val (.int (f0_v0 p0 p1 p2 p3)), .val (.int ((8 : Int32) / (f0_v0 p0 p1 p2 p3))), .val (.ref b1), .unset, .unset, .unset] [(.int (0 : Int32)), (.int (0 : Int32)), (.ref b42), (.ref b39), (.ref b37), (.ref b1), (.int (f0_v0 p0 p1 p2 p3)), (.ref b36), (.ref b36)])) rfl (hb hby at_163) rfl (by decide) (cap := 0) (by decide) (by decide) (by decide) (by decide)
  obtain ⟨b46, g46⟩ : ∃ z, z = h42.size := ⟨_, rfl⟩
  rw [← g46] at A46 st46
  have y47 := (y43.ext E42)
  have ne_b1_b46 : b1 ≠ b46 := Nat.ne_of_lt (Nat.lt_of_lt_of_le y47.lt (Nat.le_of_eq g46.symm))
  have y48 := (y44.ext E42)
  have ne_b36_b46 : b36 ≠ b46 := Nat.ne_of_lt (Nat.lt_of_lt_of_le y48.lt (Nat.le_of_eq g46.symm))
  have y49 := (y45.ext E42)
  have ne_b37_b46 : b37 ≠ b46 := Nat.ne_of_lt (Nat.lt_of_lt_of_le y49.lt (Nat.le_of_eq g46.symm))
  have y50 := (V39.ext E42)
  have ne_b39_b46 : b39 ≠ b46 := Nat.ne_of_lt (Nat.lt_of_lt_of_le y50.lt (Nat.le_of_eq g46.symm))
  have ne_b42_b46 : b42 ≠ b46 := Nat.ne_of_lt (Nat.lt_of_lt_of_le V42.lt (Nat.le_of_eq g46.symm))
  have g_b46 : n0 ≤ b46 := Nat.le_trans Z42 (Nat.le_of_eq g46.symm)
  have Z46 : n0 ≤ h46.size := Nat.le_trans Z42 E46.1
  have V46 : Arv Z h46 b46 k46 .int (0 : Int32) [] (.int (0 : Int32)) := (Arv.new A46 (by decide)).pad (pad_rep [] (.int (0 : Int32)) 0)
  have y52 := ((((F36_assignmentCount.ext E37).ext E39).ext E42).ext E46)
  have y53 := ((((F36_firstChoice.ext E37).ext E39).ext E42).ext E46)
  have y54 := ((((F36_outputs.ext E37).ext E39).ext E42).ext E46)
  have y55 := ((((F36_targets.ext E37).ext E39).ext E42).ext E46)
  have y56 := ((((F36_weights.ext E37).ext E39).ext E42).ext E46)
  have y57 := ((((F36_parityCount.ext E37).ext E39).ext E42).ext E46)
  have y58 := ((((F36_priorities.ext E37).ext E39).ext E42).ext E46)
  have y59 := (y48.ext E46)
  obtain ⟨_, _, ⟨T51, L51, k51, n51⟩, -, X51, ⟨Lc51, hQ51, l51, y51, z51⟩, st51⟩ := X46.specialBack hx (y := (⟨"com/example/frugal_synth/frugalsynth/Arena", "<init>", "(I[I[I[I[JI[I)V"⟩ : MethodName)) rfl hown (mvT hZ (hw _ (List.mem_of_getElem? (i := 9) rfl))) (mvT hZ (hw _ (List.mem_of_getElem? (i := 10) rfl))) (mvT hZ (hw _ (List.mem_of_getElem? (i := 11) rfl))) (by decide) (backOf (W := 1) (rm2 l Z a0' hw [] b36 (f0_v0 p0 p1 p2 p3) b1 b37 b39 b42 (0 : Int32) b46 (0 : Int32) .null .null .null .null (0 : Int32) .null h46 n0 Z46 y59 y52 y53 y54 y55 y56 y57 y58 g_b36) hZ (hw _ (List.mem_of_getElem? (i := 11) rfl)) (hw _ (List.mem_of_getElem? (i := 7) rfl)) (by decide) (by decide)) (g := (mkF m 165 #[.val (.int p0), .val (.int p1), .val (.int p2), .val (.int p3), .val (.int (f0_v0 p0 p1 p2 p3)), .val (.int ((8 : Int32) / (f0_v0 p0 p1 p2 p3))), .val (.ref b1), .unset, .unset, .unset] [(.ref b46), (.int (0 : Int32)), (.ref b42), (.ref b39), (.ref b37), (.ref b1), (.int (f0_v0 p0 p1 p2 p3)), (.ref b36), (.ref b36)])) rfl (by rw [hml]; rfl) (Steps.refl _) (a := b36) (argsL := [(.int (f0_v0 p0 p1 p2 p3)), (.ref b1), (.ref b37), (.ref b39), (.ref b42), (.int (0 : Int32)), (.ref b46)]) (rest := [(.ref b36)]) (lenOf pd1 rfl) rfl (by show 2 * 0 + _ ≤ _; exact Nat.le_of_eq rfl) (hb hby at_165) (fun _ _ => ⟨rfl, e46, (by decide : 6 + 0 ≤ _), (by decide : 17 + 0 ≤ _)⟩)
  dsimp only [Pt.U, Pt.locs, Pt.cells, Pt.slots] at X51 l51 y51 z51 st51 hQ51
  subst l51 y51 z51
  obtain ⟨rfl, N51q, K51, u51_0, u51_1, u51_2, u51_3, u51_4, u51_5, u51_6, u51_7⟩ := hQ51
  have N51 := Fr.app N35 N51q
  have Z51 : n0 ≤ T51.heap.size := Nat.le_trans Z46 K51.1
  have y61 := ((y47.ext E46).keep K51 (ninS ne_b1_b36 nin0))
  obtain ⟨cq60, kq60, q60a, q60b, q60c⟩ := isOf hZ rfl u51_0
  obtain ⟨_, _, ⟨T60, L60, k60, n60⟩, -, X60, ⟨Lc60, hQ60, l60, y60, z60⟩, st60⟩ := X51.virtualBack hx (y := (⟨"com/example/frugal_synth/frugalsynth/Arena", "firstChoice", "(II)I"⟩ : MethodName)) (z := (⟨"com/example/frugal_synth/frugalsynth/Arena", "firstChoice", "(II)I"⟩ : MethodName)) hown (mvT hZ (hw _ (List.mem_of_getElem? (i := 30) rfl))) (mvT hZ (hw _ (List.mem_of_getElem? (i := 31) rfl))) (notFace_of_selects (args := #[]) (mvT hZ (hw _ (List.mem_of_getElem? (i := 33) rfl)))) (mvT hZ (hw _ (List.mem_of_getElem? (i := 33) rfl))) (mvT hZ (hw _ (List.mem_of_getElem? (i := 32) rfl))) (by decide) (backOf (W := 0) (rm4 l Z a0' hw [] b36 (f0_v5 p0 p1 p2 p3) (f0_v6 p0 p1 p2 p3) b1 (f0_v0 p0 p1 p2 p3) [(0 : Int32), ((0 : Int32) + (F1 p1 (0 : Int32))), (f0_v1 p0 p1 p2 p3), ((f0_v1 p0 p1 p2 p3) + (F1 p1 (2 : Int32))), (f0_v2 p0 p1 p2 p3), ((f0_v2 p0 p1 p2 p3) + (F1 p1 (4 : Int32))), (f0_v3 p0 p1 p2 p3), ((f0_v3 p0 p1 p2 p3) + (F1 p1 (6 : Int32))), (f0_v4 p0 p1 p2 p3)] (9 : Int32) k1 T51.heap n0 Z51 y61 u51_2 u51_1 (own_i0 p0 p1 p2 p3)) hZ (hw _ (List.mem_of_getElem? (i := 34) rfl)) (hw _ (List.mem_of_getElem? (i := 7) rfl)) (by decide) (by decide)) q60a q60c (g := (mkF m 194 #[.val (.int p0), .val (.int p1), .val (.int p2), .val (.int p3), .val (.int (f0_v0 p0 p1 p2 p3)), .val (.int ((8 : Int32) / (f0_v0 p0 p1 p2 p3))), .val (.ref b1), .val (.ref b36), .val (.int (f0_v5 p0 p1 p2 p3)), .val (.int (f0_v6 p0 p1 p2 p3))] [(.int (f0_v6 p0 p1 p2 p3)), (.int (f0_v5 p0 p1 p2 p3)), (.ref b36)])) rfl (by rw [hml]; rfl) (Steps.refl _) (argsL := [(.int (f0_v5 p0 p1 p2 p3)), (.int (f0_v6 p0 p1 p2 p3))]) (rest := []) (lenOf pd0 rfl) rfl (by show 2 * 0 + _ ≤ _; exact Nat.le_of_eq rfl) (hb hby at_194) (fun _ _ => ⟨rfl, rfl, (by decide : 6 + 0 ≤ _), (by decide : 17 + 0 ≤ _)⟩)
  dsimp only [Pt.U, Pt.locs, Pt.cells, Pt.slots] at X60 l60 y60 z60 st60 hQ60
  subst l60 y60 z60
  obtain ⟨rfl, N60q, e60⟩ := hQ60
  have N60 := Fr.app N51 N60q
  obtain ⟨_, _, ⟨T62, L62, k62, n62⟩, -, X62, ⟨Lc62, hQ62, l62, y62, z62⟩, st62⟩ := Jvm.LawKit.callS X60 hx (y := (⟨"com/example/frugal_synth/frugalsynth/ArenaFirstChoicePinLaw", "prefix", "(II)I"⟩ : MethodName)) hown (mvT hZ (hw _ (List.mem_of_getElem? (i := 35) rfl))) (mvT hZ (hw _ (List.mem_of_getElem? (i := 36) rfl))) (mvT hZ (hw _ (List.mem_of_getElem? (i := 3) rfl))) (mvT hZ (hw _ (List.mem_of_getElem? (i := 37) rfl))) (by decide) (backOf (W := 1) (rm5 l Z a0' hw [] p1 (f0_v8 p0 p1 p2 p3) T51.heap n0 Z51) hZ (hw _ (List.mem_of_getElem? (i := 37) rfl)) (hw _ (List.mem_of_getElem? (i := 3) rfl)) (by decide) (by decide)) (g := (mkF m 206 #[.val (.int p0), .val (.int p1), .val (.int p2), .val (.int p3), .val (.int (f0_v0 p0 p1 p2 p3)), .val (.int ((8 : Int32) / (f0_v0 p0 p1 p2 p3))), .val (.ref b1), .val (.ref b36), .val (.int (f0_v5 p0 p1 p2 p3)), .val (.int (f0_v6 p0 p1 p2 p3))] [(.int (f0_v8 p0 p1 p2 p3)), (.int p1), (.int (f0_v7 p0 p1 p2 p3))])) rfl (by rw [hml]; rfl) (argsL := [(.int p1), (.int (f0_v8 p0 p1 p2 p3))]) (rest := [(.int (f0_v7 p0 p1 p2 p3))]) (lenOf pd0 rfl) rfl (by show 2 * 0 + _ ≤ _; exact Nat.le_of_eq rfl) (hb hby at_206) (fun _ _ => ⟨rfl, e60, (by decide : 6 + 0 ≤ _), (by decide : 17 + 0 ≤ _)⟩)
  dsimp only [Pt.U, Pt.locs, Pt.cells, Pt.slots] at X62 l62 y62 z62 st62 hQ62
  subst l62 y62 z62
  obtain ⟨rfl, N62q, e62⟩ := hQ62
  have N62 := Fr.app N60 N62q
  have pre63 : ∀ t, Steps p.tables e below (T62.setTop (mkF m 209 #[.val (.int p0), .val (.int p1), .val (.int p2), .val (.int p3), .val (.int (f0_v0 p0 p1 p2 p3)), .val (.int ((8 : Int32) / (f0_v0 p0 p1 p2 p3))), .val (.ref b1), .val (.ref b36), .val (.int (f0_v5 p0 p1 p2 p3)), .val (.int (f0_v6 p0 p1 p2 p3))] [(.int (F5 p1 (f0_v8 p0 p1 p2 p3))), (.int (f0_v7 p0 p1 p2 p3))])) t → Steps p.tables e below (s₁.setTop (entryFrame m #[(.int p0), (.int p1), (.int p2), (.int p3)] maxLocals)) t := fun t k => pre0 t (by
    show Steps p.tables e below (s₁.setTop (mkF m 0 #[.val (.int p0), .val (.int p1), .val (.int p2), .val (.int p3), .unset, .unset, .unset, .unset, .unset, .unset] [])) _
    refine XS.iconst X0.here hx rfl (hb hby at_0) ?_
    show Steps p.tables e below (s₁.setTop (mkF m 1 #[.val (.int p0), .val (.int p1), .val (.int p2), .val (.int p3), .unset, .unset, .unset, .unset, .unset, .unset] [(.int (1 : Int32))])) _
    refine XS.iloadN X0.here hx rfl (hb hby at_1) rfl ?_
    show Steps p.tables e below (s₁.setTop (mkF m 2 #[.val (.int p0), .val (.int p1), .val (.int p2), .val (.int p3), .unset, .unset, .unset, .unset, .unset, .unset] [(.int p0), (.int (1 : Int32))])) _
    refine XS.iconst X0.here hx rfl (hb hby at_2) ?_
    show Steps p.tables e below (s₁.setTop (mkF m 3 #[.val (.int p0), .val (.int p1), .val (.int p2), .val (.int p3), .unset, .unset, .unset, .unset, .unset, .unset] [(.int (3 : Int32)), (.int p0), (.int (1 : Int32))])) _
    refine XS.iand X0.here hx rfl (hb hby at_3) rfl ?_
    show Steps p.tables e below (s₁.setTop (mkF m 4 #[.val (.int p0), .val (.int p1), .val (.int p2), .val (.int p3), .unset, .unset, .unset, .unset, .unset, .unset] [(.int (p0 &&& (3 : Int32))), (.int (1 : Int32))])) _
    refine XS.ishl X0.here hx rfl (hb hby at_4) rfl ?_
    show Steps p.tables e below (s₁.setTop (mkF m 5 #[.val (.int p0), .val (.int p1), .val (.int p2), .val (.int p3), .unset, .unset, .unset, .unset, .unset, .unset] [(.int (f0_v0 p0 p1 p2 p3))])) _
    refine XS.istore X0.here hx rfl (hb hby at_5) rfl (l' := #[.val (.int p0), .val (.int p1), .val (.int p2), .val (.int p3), .val (.int (f0_v0 p0 p1 p2 p3)), .unset, .unset, .unset, .unset, .unset]) rfl ?_
    show Steps p.tables e below (s₁.setTop (mkF m 7 #[.val (.int p0), .val (.int p1), .val (.int p2), .val (.int p3), .val (.int (f0_v0 p0 p1 p2 p3)), .unset, .unset, .unset, .unset, .unset] [])) _
    refine XS.bipush X0.here hx rfl (hb hby at_7) ?_
    show Steps p.tables e below (s₁.setTop (mkF m 9 #[.val (.int p0), .val (.int p1), .val (.int p2), .val (.int p3), .val (.int (f0_v0 p0 p1 p2 p3)), .unset, .unset, .unset, .unset, .unset] [(.int (8 : Int32))])) _
    refine XS.iload X0.here hx rfl (hb hby at_9) rfl ?_
    show Steps p.tables e below (s₁.setTop (mkF m 11 #[.val (.int p0), .val (.int p1), .val (.int p2), .val (.int p3), .val (.int (f0_v0 p0 p1 p2 p3)), .unset, .unset, .unset, .unset, .unset] [(.int (f0_v0 p0 p1 p2 p3)), (.int (8 : Int32))])) _
    refine XS.idiv X0.here hx rfl (hb hby at_11) rfl (own_nz0 p0 p1 p2 p3) ?_
    show Steps p.tables e below (s₁.setTop (mkF m 12 #[.val (.int p0), .val (.int p1), .val (.int p2), .val (.int p3), .val (.int (f0_v0 p0 p1 p2 p3)), .unset, .unset, .unset, .unset, .unset] [(.int ((8 : Int32) / (f0_v0 p0 p1 p2 p3)))])) _
    refine XS.istore X0.here hx rfl (hb hby at_12) rfl (l' := #[.val (.int p0), .val (.int p1), .val (.int p2), .val (.int p3), .val (.int (f0_v0 p0 p1 p2 p3)), .val (.int ((8 : Int32) / (f0_v0 p0 p1 p2 p3))), .unset, .unset, .unset, .unset]) rfl ?_
    show Steps p.tables e below (s₁.setTop (mkF m 14 #[.val (.int p0), .val (.int p1), .val (.int p2), .val (.int p3), .val (.int (f0_v0 p0 p1 p2 p3)), .val (.int ((8 : Int32) / (f0_v0 p0 p1 p2 p3))), .unset, .unset, .unset, .unset] [])) _
    refine XS.bipush X0.here hx rfl (hb hby at_14) ?_
    show Steps p.tables e below (s₁.setTop (mkF m 16 #[.val (.int p0), .val (.int p1), .val (.int p2), .val (.int p3), .val (.int (f0_v0 p0 p1 p2 p3)), .val (.int ((8 : Int32) / (f0_v0 p0 p1 p2 p3))), .unset, .unset, .unset, .unset] [(.int (9 : Int32))])) _
    refine st1 _ ?_
    show Steps p.tables e below (T1.setTop (mkF m 18 #[.val (.int p0), .val (.int p1), .val (.int p2), .val (.int p3), .val (.int (f0_v0 p0 p1 p2 p3)), .val (.int ((8 : Int32) / (f0_v0 p0 p1 p2 p3))), .unset, .unset, .unset, .unset] [(.ref b1)])) _
    refine XS.astore X1.here hx rfl (hb hby at_18) rfl rfl (l' := #[.val (.int p0), .val (.int p1), .val (.int p2), .val (.int p3), .val (.int (f0_v0 p0 p1 p2 p3)), .val (.int ((8 : Int32) / (f0_v0 p0 p1 p2 p3))), .val (.ref b1), .unset, .unset, .unset]) rfl ?_
    show Steps p.tables e below (T1.setTop (mkF m 20 #[.val (.int p0), .val (.int p1), .val (.int p2), .val (.int p3), .val (.int (f0_v0 p0 p1 p2 p3)), .val (.int ((8 : Int32) / (f0_v0 p0 p1 p2 p3))), .val (.ref b1), .unset, .unset, .unset] [])) _
    refine XS.aload X1.here hx rfl (hb hby at_20) rfl rfl ?_
    show Steps p.tables e below (T1.setTop (mkF m 22 #[.val (.int p0), .val (.int p1), .val (.int p2), .val (.int p3), .val (.int (f0_v0 p0 p1 p2 p3)), .val (.int ((8 : Int32) / (f0_v0 p0 p1 p2 p3))), .val (.ref b1), .unset, .unset, .unset] [(.ref b1)])) _
    refine XS.iconst X1.here hx rfl (hb hby at_22) ?_
    show Steps p.tables e below (T1.setTop (mkF m 23 #[.val (.int p0), .val (.int p1), .val (.int p2), .val (.int p3), .val (.int (f0_v0 p0 p1 p2 p3)), .val (.int ((8 : Int32) / (f0_v0 p0 p1 p2 p3))), .val (.ref b1), .unset, .unset, .unset] [(.int (0 : Int32)), (.ref b1)])) _
    refine XS.iconst X1.here hx rfl (hb hby at_23) ?_
    show Steps p.tables e below (T1.setTop (mkF m 24 #[.val (.int p0), .val (.int p1), .val (.int p2), .val (.int p3), .val (.int (f0_v0 p0 p1 p2 p3)), .val (.int ((8 : Int32) / (f0_v0 p0 p1 p2 p3))), .val (.ref b1), .unset, .unset, .unset] [(.int (0 : Int32)), (.int (0 : Int32)), (.ref b1)])) _
    refine st3 _ ?_
    show Steps p.tables e below (T3.setTop (mkF m 25 #[.val (.int p0), .val (.int p1), .val (.int p2), .val (.int p3), .val (.int (f0_v0 p0 p1 p2 p3)), .val (.int ((8 : Int32) / (f0_v0 p0 p1 p2 p3))), .val (.ref b1), .unset, .unset, .unset] [])) _
    refine XS.aload X3.here hx rfl (hb hby at_25) rfl rfl ?_
    show Steps p.tables e below (T3.setTop (mkF m 27 #[.val (.int p0), .val (.int p1), .val (.int p2), .val (.int p3), .val (.int (f0_v0 p0 p1 p2 p3)), .val (.int ((8 : Int32) / (f0_v0 p0 p1 p2 p3))), .val (.ref b1), .unset, .unset, .unset] [(.ref b1)])) _
    refine XS.iconst X3.here hx rfl (hb hby at_27) ?_
    show Steps p.tables e below (T3.setTop (mkF m 28 #[.val (.int p0), .val (.int p1), .val (.int p2), .val (.int p3), .val (.int (f0_v0 p0 p1 p2 p3)), .val (.int ((8 : Int32) / (f0_v0 p0 p1 p2 p3))), .val (.ref b1), .unset, .unset, .unset] [(.int (1 : Int32)), (.ref b1)])) _
    refine XS.aload X3.here hx rfl (hb hby at_28) rfl rfl ?_
    show Steps p.tables e below (T3.setTop (mkF m 30 #[.val (.int p0), .val (.int p1), .val (.int p2), .val (.int p3), .val (.int (f0_v0 p0 p1 p2 p3)), .val (.int ((8 : Int32) / (f0_v0 p0 p1 p2 p3))), .val (.ref b1), .unset, .unset, .unset] [(.ref b1), (.int (1 : Int32)), (.ref b1)])) _
    refine XS.iconst X3.here hx rfl (hb hby at_30) ?_
    show Steps p.tables e below (T3.setTop (mkF m 31 #[.val (.int p0), .val (.int p1), .val (.int p2), .val (.int p3), .val (.int (f0_v0 p0 p1 p2 p3)), .val (.int ((8 : Int32) / (f0_v0 p0 p1 p2 p3))), .val (.ref b1), .unset, .unset, .unset] [(.int (0 : Int32)), (.ref b1), (.int (1 : Int32)), (.ref b1)])) _
    refine X3.iaload hx (j := (0 : Int32)) (v := (.int (0 : Int32))) (by rw [e3]; exact Ar4.1) (State.isArrayOf_alike hZ.alike Ar4.2.1) Ar4.2.2 hin4 hat4 (g := (mkF m 31 #[.val (.int p0), .val (.int p1), .val (.int p2), .val (.int p3), .val (.int (f0_v0 p0 p1 p2 p3)), .val (.int ((8 : Int32) / (f0_v0 p0 p1 p2 p3))), .val (.ref b1), .unset, .unset, .unset] [(.int (0 : Int32)), (.ref b1), (.int (1 : Int32)), (.ref b1)])) rfl rfl (hb hby at_31) _ ?_
    show Steps p.tables e below (T3.setTop (mkF m 32 #[.val (.int p0), .val (.int p1), .val (.int p2), .val (.int p3), .val (.int (f0_v0 p0 p1 p2 p3)), .val (.int ((8 : Int32) / (f0_v0 p0 p1 p2 p3))), .val (.ref b1), .unset, .unset, .unset] [(.int (0 : Int32)), (.int (1 : Int32)), (.ref b1)])) _
    refine XS.iloadN X3.here hx rfl (hb hby at_32) rfl ?_
    show Steps p.tables e below (T3.setTop (mkF m 33 #[.val (.int p0), .val (.int p1), .val (.int p2), .val (.int p3), .val (.int (f0_v0 p0 p1 p2 p3)), .val (.int ((8 : Int32) / (f0_v0 p0 p1 p2 p3))), .val (.ref b1), .unset, .unset, .unset] [(.int p1), (.int (0 : Int32)), (.int (1 : Int32)), (.ref b1)])) _
    refine XS.iconst X3.here hx rfl (hb hby at_33) ?_
    show Steps p.tables e below (T3.setTop (mkF m 34 #[.val (.int p0), .val (.int p1), .val (.int p2), .val (.int p3), .val (.int (f0_v0 p0 p1 p2 p3)), .val (.int ((8 : Int32) / (f0_v0 p0 p1 p2 p3))), .val (.ref b1), .unset, .unset, .unset] [(.int (0 : Int32)), (.int p1), (.int (0 : Int32)), (.int (1 : Int32)), (.ref b1)])) _
    refine st5 _ ?_
    show Steps p.tables e below (T5.setTop (mkF m 37 #[.val (.int p0), .val (.int p1), .val (.int p2), .val (.int p3), .val (.int (f0_v0 p0 p1 p2 p3)), .val (.int ((8 : Int32) / (f0_v0 p0 p1 p2 p3))), .val (.ref b1), .unset, .unset, .unset] [(.int (F1 p1 (0 : Int32))), (.int (0 : Int32)), (.int (1 : Int32)), (.ref b1)])) _
    refine XS.iadd X5.here hx rfl (hb hby at_37) rfl ?_
    show Steps p.tables e below (T5.setTop (mkF m 38 #[.val (.int p0), .val (.int p1), .val (.int p2), .val (.int p3), .val (.int (f0_v0 p0 p1 p2 p3)), .val (.int ((8 : Int32) / (f0_v0 p0 p1 p2 p3))), .val (.ref b1), .unset, .unset, .unset] [(.int ((0 : Int32) + (F1 p1 (0 : Int32)))), (.int (1 : Int32)), (.ref b1)])) _
    refine st7 _ ?_
    show Steps p.tables e below (T7.setTop (mkF m 39 #[.val (.int p0), .val (.int p1), .val (.int p2), .val (.int p3), .val (.int (f0_v0 p0 p1 p2 p3)), .val (.int ((8 : Int32) / (f0_v0 p0 p1 p2 p3))), .val (.ref b1), .unset, .unset, .unset] [])) _
    refine XS.aload X7.here hx rfl (hb hby at_39) rfl rfl ?_
    show Steps p.tables e below (T7.setTop (mkF m 41 #[.val (.int p0), .val (.int p1), .val (.int p2), .val (.int p3), .val (.int (f0_v0 p0 p1 p2 p3)), .val (.int ((8 : Int32) / (f0_v0 p0 p1 p2 p3))), .val (.ref b1), .unset, .unset, .unset] [(.ref b1)])) _
    refine XS.iconst X7.here hx rfl (hb hby at_41) ?_
    show Steps p.tables e below (T7.setTop (mkF m 42 #[.val (.int p0), .val (.int p1), .val (.int p2), .val (.int p3), .val (.int (f0_v0 p0 p1 p2 p3)), .val (.int ((8 : Int32) / (f0_v0 p0 p1 p2 p3))), .val (.ref b1), .unset, .unset, .unset] [(.int (2 : Int32)), (.ref b1)])) _
    refine XS.aload X7.here hx rfl (hb hby at_42) rfl rfl ?_
    show Steps p.tables e below (T7.setTop (mkF m 44 #[.val (.int p0), .val (.int p1), .val (.int p2), .val (.int p3), .val (.int (f0_v0 p0 p1 p2 p3)), .val (.int ((8 : Int32) / (f0_v0 p0 p1 p2 p3))), .val (.ref b1), .unset, .unset, .unset] [(.ref b1), (.int (2 : Int32)), (.ref b1)])) _
    refine XS.iconst X7.here hx rfl (hb hby at_44) ?_
    show Steps p.tables e below (T7.setTop (mkF m 45 #[.val (.int p0), .val (.int p1), .val (.int p2), .val (.int p3), .val (.int (f0_v0 p0 p1 p2 p3)), .val (.int ((8 : Int32) / (f0_v0 p0 p1 p2 p3))), .val (.ref b1), .unset, .unset, .unset] [(.int (1 : Int32)), (.ref b1), (.int (2 : Int32)), (.ref b1)])) _
    refine X7.iaload hx (j := (1 : Int32)) (v := (.int ((0 : Int32) + (F1 p1 (0 : Int32))))) (by rw [e7]; exact Ar8.1) (State.isArrayOf_alike hZ.alike Ar8.2.1) Ar8.2.2 hin8 hat8 (g := (mkF m 45 #[.val (.int p0), .val (.int p1), .val (.int p2), .val (.int p3), .val (.int (f0_v0 p0 p1 p2 p3)), .val (.int ((8 : Int32) / (f0_v0 p0 p1 p2 p3))), .val (.ref b1), .unset, .unset, .unset] [(.int (1 : Int32)), (.ref b1), (.int (2 : Int32)), (.ref b1)])) rfl rfl (hb hby at_45) _ ?_
    show Steps p.tables e below (T7.setTop (mkF m 46 #[.val (.int p0), .val (.int p1), .val (.int p2), .val (.int p3), .val (.int (f0_v0 p0 p1 p2 p3)), .val (.int ((8 : Int32) / (f0_v0 p0 p1 p2 p3))), .val (.ref b1), .unset, .unset, .unset] [(.int ((0 : Int32) + (F1 p1 (0 : Int32)))), (.int (2 : Int32)), (.ref b1)])) _
    refine XS.iloadN X7.here hx rfl (hb hby at_46) rfl ?_
    show Steps p.tables e below (T7.setTop (mkF m 47 #[.val (.int p0), .val (.int p1), .val (.int p2), .val (.int p3), .val (.int (f0_v0 p0 p1 p2 p3)), .val (.int ((8 : Int32) / (f0_v0 p0 p1 p2 p3))), .val (.ref b1), .unset, .unset, .unset] [(.int p1), (.int ((0 : Int32) + (F1 p1 (0 : Int32)))), (.int (2 : Int32)), (.ref b1)])) _
    refine XS.iconst X7.here hx rfl (hb hby at_47) ?_
    show Steps p.tables e below (T7.setTop (mkF m 48 #[.val (.int p0), .val (.int p1), .val (.int p2), .val (.int p3), .val (.int (f0_v0 p0 p1 p2 p3)), .val (.int ((8 : Int32) / (f0_v0 p0 p1 p2 p3))), .val (.ref b1), .unset, .unset, .unset] [(.int (1 : Int32)), (.int p1), (.int ((0 : Int32) + (F1 p1 (0 : Int32)))), (.int (2 : Int32)), (.ref b1)])) _
    refine st9 _ ?_
    show Steps p.tables e below (T9.setTop (mkF m 51 #[.val (.int p0), .val (.int p1), .val (.int p2), .val (.int p3), .val (.int (f0_v0 p0 p1 p2 p3)), .val (.int ((8 : Int32) / (f0_v0 p0 p1 p2 p3))), .val (.ref b1), .unset, .unset, .unset] [(.int (F1 p1 (1 : Int32))), (.int ((0 : Int32) + (F1 p1 (0 : Int32)))), (.int (2 : Int32)), (.ref b1)])) _
    refine XS.iadd X9.here hx rfl (hb hby at_51) rfl ?_
    show Steps p.tables e below (T9.setTop (mkF m 52 #[.val (.int p0), .val (.int p1), .val (.int p2), .val (.int p3), .val (.int (f0_v0 p0 p1 p2 p3)), .val (.int ((8 : Int32) / (f0_v0 p0 p1 p2 p3))), .val (.ref b1), .unset, .unset, .unset] [(.int (f0_v1 p0 p1 p2 p3)), (.int (2 : Int32)), (.ref b1)])) _
    refine st11 _ ?_
    show Steps p.tables e below (T11.setTop (mkF m 53 #[.val (.int p0), .val (.int p1), .val (.int p2), .val (.int p3), .val (.int (f0_v0 p0 p1 p2 p3)), .val (.int ((8 : Int32) / (f0_v0 p0 p1 p2 p3))), .val (.ref b1), .unset, .unset, .unset] [])) _
    refine XS.aload X11.here hx rfl (hb hby at_53) rfl rfl ?_
    show Steps p.tables e below (T11.setTop (mkF m 55 #[.val (.int p0), .val (.int p1), .val (.int p2), .val (.int p3), .val (.int (f0_v0 p0 p1 p2 p3)), .val (.int ((8 : Int32) / (f0_v0 p0 p1 p2 p3))), .val (.ref b1), .unset, .unset, .unset] [(.ref b1)])) _
    refine XS.iconst X11.here hx rfl (hb hby at_55) ?_
    show Steps p.tables e below (T11.setTop (mkF m 56 #[.val (.int p0), .val (.int p1), .val (.int p2), .val (.int p3), .val (.int (f0_v0 p0 p1 p2 p3)), .val (.int ((8 : Int32) / (f0_v0 p0 p1 p2 p3))), .val (.ref b1), .unset, .unset, .unset] [(.int (3 : Int32)), (.ref b1)])) _
    refine XS.aload X11.here hx rfl (hb hby at_56) rfl rfl ?_
    show Steps p.tables e below (T11.setTop (mkF m 58 #[.val (.int p0), .val (.int p1), .val (.int p2), .val (.int p3), .val (.int (f0_v0 p0 p1 p2 p3)), .val (.int ((8 : Int32) / (f0_v0 p0 p1 p2 p3))), .val (.ref b1), .unset, .unset, .unset] [(.ref b1), (.int (3 : Int32)), (.ref b1)])) _
    refine XS.iconst X11.here hx rfl (hb hby at_58) ?_
    show Steps p.tables e below (T11.setTop (mkF m 59 #[.val (.int p0), .val (.int p1), .val (.int p2), .val (.int p3), .val (.int (f0_v0 p0 p1 p2 p3)), .val (.int ((8 : Int32) / (f0_v0 p0 p1 p2 p3))), .val (.ref b1), .unset, .unset, .unset] [(.int (2 : Int32)), (.ref b1), (.int (3 : Int32)), (.ref b1)])) _
    refine X11.iaload hx (j := (2 : Int32)) (v := (.int (f0_v1 p0 p1 p2 p3))) (by rw [e11]; exact Ar12.1) (State.isArrayOf_alike hZ.alike Ar12.2.1) Ar12.2.2 hin12 hat12 (g := (mkF m 59 #[.val (.int p0), .val (.int p1), .val (.int p2), .val (.int p3), .val (.int (f0_v0 p0 p1 p2 p3)), .val (.int ((8 : Int32) / (f0_v0 p0 p1 p2 p3))), .val (.ref b1), .unset, .unset, .unset] [(.int (2 : Int32)), (.ref b1), (.int (3 : Int32)), (.ref b1)])) rfl rfl (hb hby at_59) _ ?_
    show Steps p.tables e below (T11.setTop (mkF m 60 #[.val (.int p0), .val (.int p1), .val (.int p2), .val (.int p3), .val (.int (f0_v0 p0 p1 p2 p3)), .val (.int ((8 : Int32) / (f0_v0 p0 p1 p2 p3))), .val (.ref b1), .unset, .unset, .unset] [(.int (f0_v1 p0 p1 p2 p3)), (.int (3 : Int32)), (.ref b1)])) _
    refine XS.iloadN X11.here hx rfl (hb hby at_60) rfl ?_
    show Steps p.tables e below (T11.setTop (mkF m 61 #[.val (.int p0), .val (.int p1), .val (.int p2), .val (.int p3), .val (.int (f0_v0 p0 p1 p2 p3)), .val (.int ((8 : Int32) / (f0_v0 p0 p1 p2 p3))), .val (.ref b1), .unset, .unset, .unset] [(.int p1), (.int (f0_v1 p0 p1 p2 p3)), (.int (3 : Int32)), (.ref b1)])) _
    refine XS.iconst X11.here hx rfl (hb hby at_61) ?_
    show Steps p.tables e below (T11.setTop (mkF m 62 #[.val (.int p0), .val (.int p1), .val (.int p2), .val (.int p3), .val (.int (f0_v0 p0 p1 p2 p3)), .val (.int ((8 : Int32) / (f0_v0 p0 p1 p2 p3))), .val (.ref b1), .unset, .unset, .unset] [(.int (2 : Int32)), (.int p1), (.int (f0_v1 p0 p1 p2 p3)), (.int (3 : Int32)), (.ref b1)])) _
    refine st13 _ ?_
    show Steps p.tables e below (T13.setTop (mkF m 65 #[.val (.int p0), .val (.int p1), .val (.int p2), .val (.int p3), .val (.int (f0_v0 p0 p1 p2 p3)), .val (.int ((8 : Int32) / (f0_v0 p0 p1 p2 p3))), .val (.ref b1), .unset, .unset, .unset] [(.int (F1 p1 (2 : Int32))), (.int (f0_v1 p0 p1 p2 p3)), (.int (3 : Int32)), (.ref b1)])) _
    refine XS.iadd X13.here hx rfl (hb hby at_65) rfl ?_
    show Steps p.tables e below (T13.setTop (mkF m 66 #[.val (.int p0), .val (.int p1), .val (.int p2), .val (.int p3), .val (.int (f0_v0 p0 p1 p2 p3)), .val (.int ((8 : Int32) / (f0_v0 p0 p1 p2 p3))), .val (.ref b1), .unset, .unset, .unset] [(.int ((f0_v1 p0 p1 p2 p3) + (F1 p1 (2 : Int32)))), (.int (3 : Int32)), (.ref b1)])) _
    refine st15 _ ?_
    show Steps p.tables e below (T15.setTop (mkF m 67 #[.val (.int p0), .val (.int p1), .val (.int p2), .val (.int p3), .val (.int (f0_v0 p0 p1 p2 p3)), .val (.int ((8 : Int32) / (f0_v0 p0 p1 p2 p3))), .val (.ref b1), .unset, .unset, .unset] [])) _
    refine XS.aload X15.here hx rfl (hb hby at_67) rfl rfl ?_
    show Steps p.tables e below (T15.setTop (mkF m 69 #[.val (.int p0), .val (.int p1), .val (.int p2), .val (.int p3), .val (.int (f0_v0 p0 p1 p2 p3)), .val (.int ((8 : Int32) / (f0_v0 p0 p1 p2 p3))), .val (.ref b1), .unset, .unset, .unset] [(.ref b1)])) _
    refine XS.iconst X15.here hx rfl (hb hby at_69) ?_
    show Steps p.tables e below (T15.setTop (mkF m 70 #[.val (.int p0), .val (.int p1), .val (.int p2), .val (.int p3), .val (.int (f0_v0 p0 p1 p2 p3)), .val (.int ((8 : Int32) / (f0_v0 p0 p1 p2 p3))), .val (.ref b1), .unset, .unset, .unset] [(.int (4 : Int32)), (.ref b1)])) _
    refine XS.aload X15.here hx rfl (hb hby at_70) rfl rfl ?_
    show Steps p.tables e below (T15.setTop (mkF m 72 #[.val (.int p0), .val (.int p1), .val (.int p2), .val (.int p3), .val (.int (f0_v0 p0 p1 p2 p3)), .val (.int ((8 : Int32) / (f0_v0 p0 p1 p2 p3))), .val (.ref b1), .unset, .unset, .unset] [(.ref b1), (.int (4 : Int32)), (.ref b1)])) _
    refine XS.iconst X15.here hx rfl (hb hby at_72) ?_
    show Steps p.tables e below (T15.setTop (mkF m 73 #[.val (.int p0), .val (.int p1), .val (.int p2), .val (.int p3), .val (.int (f0_v0 p0 p1 p2 p3)), .val (.int ((8 : Int32) / (f0_v0 p0 p1 p2 p3))), .val (.ref b1), .unset, .unset, .unset] [(.int (3 : Int32)), (.ref b1), (.int (4 : Int32)), (.ref b1)])) _
    refine X15.iaload hx (j := (3 : Int32)) (v := (.int ((f0_v1 p0 p1 p2 p3) + (F1 p1 (2 : Int32))))) (by rw [e15]; exact Ar16.1) (State.isArrayOf_alike hZ.alike Ar16.2.1) Ar16.2.2 hin16 hat16 (g := (mkF m 73 #[.val (.int p0), .val (.int p1), .val (.int p2), .val (.int p3), .val (.int (f0_v0 p0 p1 p2 p3)), .val (.int ((8 : Int32) / (f0_v0 p0 p1 p2 p3))), .val (.ref b1), .unset, .unset, .unset] [(.int (3 : Int32)), (.ref b1), (.int (4 : Int32)), (.ref b1)])) rfl rfl (hb hby at_73) _ ?_
    show Steps p.tables e below (T15.setTop (mkF m 74 #[.val (.int p0), .val (.int p1), .val (.int p2), .val (.int p3), .val (.int (f0_v0 p0 p1 p2 p3)), .val (.int ((8 : Int32) / (f0_v0 p0 p1 p2 p3))), .val (.ref b1), .unset, .unset, .unset] [(.int ((f0_v1 p0 p1 p2 p3) + (F1 p1 (2 : Int32)))), (.int (4 : Int32)), (.ref b1)])) _
    refine XS.iloadN X15.here hx rfl (hb hby at_74) rfl ?_
    show Steps p.tables e below (T15.setTop (mkF m 75 #[.val (.int p0), .val (.int p1), .val (.int p2), .val (.int p3), .val (.int (f0_v0 p0 p1 p2 p3)), .val (.int ((8 : Int32) / (f0_v0 p0 p1 p2 p3))), .val (.ref b1), .unset, .unset, .unset] [(.int p1), (.int ((f0_v1 p0 p1 p2 p3) + (F1 p1 (2 : Int32)))), (.int (4 : Int32)), (.ref b1)])) _
    refine XS.iconst X15.here hx rfl (hb hby at_75) ?_
    show Steps p.tables e below (T15.setTop (mkF m 76 #[.val (.int p0), .val (.int p1), .val (.int p2), .val (.int p3), .val (.int (f0_v0 p0 p1 p2 p3)), .val (.int ((8 : Int32) / (f0_v0 p0 p1 p2 p3))), .val (.ref b1), .unset, .unset, .unset] [(.int (3 : Int32)), (.int p1), (.int ((f0_v1 p0 p1 p2 p3) + (F1 p1 (2 : Int32)))), (.int (4 : Int32)), (.ref b1)])) _
    refine st17 _ ?_
    show Steps p.tables e below (T17.setTop (mkF m 79 #[.val (.int p0), .val (.int p1), .val (.int p2), .val (.int p3), .val (.int (f0_v0 p0 p1 p2 p3)), .val (.int ((8 : Int32) / (f0_v0 p0 p1 p2 p3))), .val (.ref b1), .unset, .unset, .unset] [(.int (F1 p1 (3 : Int32))), (.int ((f0_v1 p0 p1 p2 p3) + (F1 p1 (2 : Int32)))), (.int (4 : Int32)), (.ref b1)])) _
    refine XS.iadd X17.here hx rfl (hb hby at_79) rfl ?_
    show Steps p.tables e below (T17.setTop (mkF m 80 #[.val (.int p0), .val (.int p1), .val (.int p2), .val (.int p3), .val (.int (f0_v0 p0 p1 p2 p3)), .val (.int ((8 : Int32) / (f0_v0 p0 p1 p2 p3))), .val (.ref b1), .unset, .unset, .unset] [(.int (f0_v2 p0 p1 p2 p3)), (.int (4 : Int32)), (.ref b1)])) _
    refine st19 _ ?_
    show Steps p.tables e below (T19.setTop (mkF m 81 #[.val (.int p0), .val (.int p1), .val (.int p2), .val (.int p3), .val (.int (f0_v0 p0 p1 p2 p3)), .val (.int ((8 : Int32) / (f0_v0 p0 p1 p2 p3))), .val (.ref b1), .unset, .unset, .unset] [])) _
    refine XS.aload X19.here hx rfl (hb hby at_81) rfl rfl ?_
    show Steps p.tables e below (T19.setTop (mkF m 83 #[.val (.int p0), .val (.int p1), .val (.int p2), .val (.int p3), .val (.int (f0_v0 p0 p1 p2 p3)), .val (.int ((8 : Int32) / (f0_v0 p0 p1 p2 p3))), .val (.ref b1), .unset, .unset, .unset] [(.ref b1)])) _
    refine XS.iconst X19.here hx rfl (hb hby at_83) ?_
    show Steps p.tables e below (T19.setTop (mkF m 84 #[.val (.int p0), .val (.int p1), .val (.int p2), .val (.int p3), .val (.int (f0_v0 p0 p1 p2 p3)), .val (.int ((8 : Int32) / (f0_v0 p0 p1 p2 p3))), .val (.ref b1), .unset, .unset, .unset] [(.int (5 : Int32)), (.ref b1)])) _
    refine XS.aload X19.here hx rfl (hb hby at_84) rfl rfl ?_
    show Steps p.tables e below (T19.setTop (mkF m 86 #[.val (.int p0), .val (.int p1), .val (.int p2), .val (.int p3), .val (.int (f0_v0 p0 p1 p2 p3)), .val (.int ((8 : Int32) / (f0_v0 p0 p1 p2 p3))), .val (.ref b1), .unset, .unset, .unset] [(.ref b1), (.int (5 : Int32)), (.ref b1)])) _
    refine XS.iconst X19.here hx rfl (hb hby at_86) ?_
    show Steps p.tables e below (T19.setTop (mkF m 87 #[.val (.int p0), .val (.int p1), .val (.int p2), .val (.int p3), .val (.int (f0_v0 p0 p1 p2 p3)), .val (.int ((8 : Int32) / (f0_v0 p0 p1 p2 p3))), .val (.ref b1), .unset, .unset, .unset] [(.int (4 : Int32)), (.ref b1), (.int (5 : Int32)), (.ref b1)])) _
    refine X19.iaload hx (j := (4 : Int32)) (v := (.int (f0_v2 p0 p1 p2 p3))) (by rw [e19]; exact Ar20.1) (State.isArrayOf_alike hZ.alike Ar20.2.1) Ar20.2.2 hin20 hat20 (g := (mkF m 87 #[.val (.int p0), .val (.int p1), .val (.int p2), .val (.int p3), .val (.int (f0_v0 p0 p1 p2 p3)), .val (.int ((8 : Int32) / (f0_v0 p0 p1 p2 p3))), .val (.ref b1), .unset, .unset, .unset] [(.int (4 : Int32)), (.ref b1), (.int (5 : Int32)), (.ref b1)])) rfl rfl (hb hby at_87) _ ?_
    show Steps p.tables e below (T19.setTop (mkF m 88 #[.val (.int p0), .val (.int p1), .val (.int p2), .val (.int p3), .val (.int (f0_v0 p0 p1 p2 p3)), .val (.int ((8 : Int32) / (f0_v0 p0 p1 p2 p3))), .val (.ref b1), .unset, .unset, .unset] [(.int (f0_v2 p0 p1 p2 p3)), (.int (5 : Int32)), (.ref b1)])) _
    refine XS.iloadN X19.here hx rfl (hb hby at_88) rfl ?_
    show Steps p.tables e below (T19.setTop (mkF m 89 #[.val (.int p0), .val (.int p1), .val (.int p2), .val (.int p3), .val (.int (f0_v0 p0 p1 p2 p3)), .val (.int ((8 : Int32) / (f0_v0 p0 p1 p2 p3))), .val (.ref b1), .unset, .unset, .unset] [(.int p1), (.int (f0_v2 p0 p1 p2 p3)), (.int (5 : Int32)), (.ref b1)])) _
    refine XS.iconst X19.here hx rfl (hb hby at_89) ?_
    show Steps p.tables e below (T19.setTop (mkF m 90 #[.val (.int p0), .val (.int p1), .val (.int p2), .val (.int p3), .val (.int (f0_v0 p0 p1 p2 p3)), .val (.int ((8 : Int32) / (f0_v0 p0 p1 p2 p3))), .val (.ref b1), .unset, .unset, .unset] [(.int (4 : Int32)), (.int p1), (.int (f0_v2 p0 p1 p2 p3)), (.int (5 : Int32)), (.ref b1)])) _
    refine st21 _ ?_
    show Steps p.tables e below (T21.setTop (mkF m 93 #[.val (.int p0), .val (.int p1), .val (.int p2), .val (.int p3), .val (.int (f0_v0 p0 p1 p2 p3)), .val (.int ((8 : Int32) / (f0_v0 p0 p1 p2 p3))), .val (.ref b1), .unset, .unset, .unset] [(.int (F1 p1 (4 : Int32))), (.int (f0_v2 p0 p1 p2 p3)), (.int (5 : Int32)), (.ref b1)])) _
    refine XS.iadd X21.here hx rfl (hb hby at_93) rfl ?_
    show Steps p.tables e below (T21.setTop (mkF m 94 #[.val (.int p0), .val (.int p1), .val (.int p2), .val (.int p3), .val (.int (f0_v0 p0 p1 p2 p3)), .val (.int ((8 : Int32) / (f0_v0 p0 p1 p2 p3))), .val (.ref b1), .unset, .unset, .unset] [(.int ((f0_v2 p0 p1 p2 p3) + (F1 p1 (4 : Int32)))), (.int (5 : Int32)), (.ref b1)])) _
    refine st23 _ ?_
    show Steps p.tables e below (T23.setTop (mkF m 95 #[.val (.int p0), .val (.int p1), .val (.int p2), .val (.int p3), .val (.int (f0_v0 p0 p1 p2 p3)), .val (.int ((8 : Int32) / (f0_v0 p0 p1 p2 p3))), .val (.ref b1), .unset, .unset, .unset] [])) _
    refine XS.aload X23.here hx rfl (hb hby at_95) rfl rfl ?_
    show Steps p.tables e below (T23.setTop (mkF m 97 #[.val (.int p0), .val (.int p1), .val (.int p2), .val (.int p3), .val (.int (f0_v0 p0 p1 p2 p3)), .val (.int ((8 : Int32) / (f0_v0 p0 p1 p2 p3))), .val (.ref b1), .unset, .unset, .unset] [(.ref b1)])) _
    refine XS.bipush X23.here hx rfl (hb hby at_97) ?_
    show Steps p.tables e below (T23.setTop (mkF m 99 #[.val (.int p0), .val (.int p1), .val (.int p2), .val (.int p3), .val (.int (f0_v0 p0 p1 p2 p3)), .val (.int ((8 : Int32) / (f0_v0 p0 p1 p2 p3))), .val (.ref b1), .unset, .unset, .unset] [(.int (6 : Int32)), (.ref b1)])) _
    refine XS.aload X23.here hx rfl (hb hby at_99) rfl rfl ?_
    show Steps p.tables e below (T23.setTop (mkF m 101 #[.val (.int p0), .val (.int p1), .val (.int p2), .val (.int p3), .val (.int (f0_v0 p0 p1 p2 p3)), .val (.int ((8 : Int32) / (f0_v0 p0 p1 p2 p3))), .val (.ref b1), .unset, .unset, .unset] [(.ref b1), (.int (6 : Int32)), (.ref b1)])) _
    refine XS.iconst X23.here hx rfl (hb hby at_101) ?_
    show Steps p.tables e below (T23.setTop (mkF m 102 #[.val (.int p0), .val (.int p1), .val (.int p2), .val (.int p3), .val (.int (f0_v0 p0 p1 p2 p3)), .val (.int ((8 : Int32) / (f0_v0 p0 p1 p2 p3))), .val (.ref b1), .unset, .unset, .unset] [(.int (5 : Int32)), (.ref b1), (.int (6 : Int32)), (.ref b1)])) _
    refine X23.iaload hx (j := (5 : Int32)) (v := (.int ((f0_v2 p0 p1 p2 p3) + (F1 p1 (4 : Int32))))) (by rw [e23]; exact Ar24.1) (State.isArrayOf_alike hZ.alike Ar24.2.1) Ar24.2.2 hin24 hat24 (g := (mkF m 102 #[.val (.int p0), .val (.int p1), .val (.int p2), .val (.int p3), .val (.int (f0_v0 p0 p1 p2 p3)), .val (.int ((8 : Int32) / (f0_v0 p0 p1 p2 p3))), .val (.ref b1), .unset, .unset, .unset] [(.int (5 : Int32)), (.ref b1), (.int (6 : Int32)), (.ref b1)])) rfl rfl (hb hby at_102) _ ?_
    show Steps p.tables e below (T23.setTop (mkF m 103 #[.val (.int p0), .val (.int p1), .val (.int p2), .val (.int p3), .val (.int (f0_v0 p0 p1 p2 p3)), .val (.int ((8 : Int32) / (f0_v0 p0 p1 p2 p3))), .val (.ref b1), .unset, .unset, .unset] [(.int ((f0_v2 p0 p1 p2 p3) + (F1 p1 (4 : Int32)))), (.int (6 : Int32)), (.ref b1)])) _
    refine XS.iloadN X23.here hx rfl (hb hby at_103) rfl ?_
    show Steps p.tables e below (T23.setTop (mkF m 104 #[.val (.int p0), .val (.int p1), .val (.int p2), .val (.int p3), .val (.int (f0_v0 p0 p1 p2 p3)), .val (.int ((8 : Int32) / (f0_v0 p0 p1 p2 p3))), .val (.ref b1), .unset, .unset, .unset] [(.int p1), (.int ((f0_v2 p0 p1 p2 p3) + (F1 p1 (4 : Int32)))), (.int (6 : Int32)), (.ref b1)])) _
    refine XS.iconst X23.here hx rfl (hb hby at_104) ?_
    show Steps p.tables e below (T23.setTop (mkF m 105 #[.val (.int p0), .val (.int p1), .val (.int p2), .val (.int p3), .val (.int (f0_v0 p0 p1 p2 p3)), .val (.int ((8 : Int32) / (f0_v0 p0 p1 p2 p3))), .val (.ref b1), .unset, .unset, .unset] [(.int (5 : Int32)), (.int p1), (.int ((f0_v2 p0 p1 p2 p3) + (F1 p1 (4 : Int32)))), (.int (6 : Int32)), (.ref b1)])) _
    refine st25 _ ?_
    show Steps p.tables e below (T25.setTop (mkF m 108 #[.val (.int p0), .val (.int p1), .val (.int p2), .val (.int p3), .val (.int (f0_v0 p0 p1 p2 p3)), .val (.int ((8 : Int32) / (f0_v0 p0 p1 p2 p3))), .val (.ref b1), .unset, .unset, .unset] [(.int (F1 p1 (5 : Int32))), (.int ((f0_v2 p0 p1 p2 p3) + (F1 p1 (4 : Int32)))), (.int (6 : Int32)), (.ref b1)])) _
    refine XS.iadd X25.here hx rfl (hb hby at_108) rfl ?_
    show Steps p.tables e below (T25.setTop (mkF m 109 #[.val (.int p0), .val (.int p1), .val (.int p2), .val (.int p3), .val (.int (f0_v0 p0 p1 p2 p3)), .val (.int ((8 : Int32) / (f0_v0 p0 p1 p2 p3))), .val (.ref b1), .unset, .unset, .unset] [(.int (f0_v3 p0 p1 p2 p3)), (.int (6 : Int32)), (.ref b1)])) _
    refine st27 _ ?_
    show Steps p.tables e below (T27.setTop (mkF m 110 #[.val (.int p0), .val (.int p1), .val (.int p2), .val (.int p3), .val (.int (f0_v0 p0 p1 p2 p3)), .val (.int ((8 : Int32) / (f0_v0 p0 p1 p2 p3))), .val (.ref b1), .unset, .unset, .unset] [])) _
    refine XS.aload X27.here hx rfl (hb hby at_110) rfl rfl ?_
    show Steps p.tables e below (T27.setTop (mkF m 112 #[.val (.int p0), .val (.int p1), .val (.int p2), .val (.int p3), .val (.int (f0_v0 p0 p1 p2 p3)), .val (.int ((8 : Int32) / (f0_v0 p0 p1 p2 p3))), .val (.ref b1), .unset, .unset, .unset] [(.ref b1)])) _
    refine XS.bipush X27.here hx rfl (hb hby at_112) ?_
    show Steps p.tables e below (T27.setTop (mkF m 114 #[.val (.int p0), .val (.int p1), .val (.int p2), .val (.int p3), .val (.int (f0_v0 p0 p1 p2 p3)), .val (.int ((8 : Int32) / (f0_v0 p0 p1 p2 p3))), .val (.ref b1), .unset, .unset, .unset] [(.int (7 : Int32)), (.ref b1)])) _
    refine XS.aload X27.here hx rfl (hb hby at_114) rfl rfl ?_
    show Steps p.tables e below (T27.setTop (mkF m 116 #[.val (.int p0), .val (.int p1), .val (.int p2), .val (.int p3), .val (.int (f0_v0 p0 p1 p2 p3)), .val (.int ((8 : Int32) / (f0_v0 p0 p1 p2 p3))), .val (.ref b1), .unset, .unset, .unset] [(.ref b1), (.int (7 : Int32)), (.ref b1)])) _
    refine XS.bipush X27.here hx rfl (hb hby at_116) ?_
    show Steps p.tables e below (T27.setTop (mkF m 118 #[.val (.int p0), .val (.int p1), .val (.int p2), .val (.int p3), .val (.int (f0_v0 p0 p1 p2 p3)), .val (.int ((8 : Int32) / (f0_v0 p0 p1 p2 p3))), .val (.ref b1), .unset, .unset, .unset] [(.int (6 : Int32)), (.ref b1), (.int (7 : Int32)), (.ref b1)])) _
    refine X27.iaload hx (j := (6 : Int32)) (v := (.int (f0_v3 p0 p1 p2 p3))) (by rw [e27]; exact Ar28.1) (State.isArrayOf_alike hZ.alike Ar28.2.1) Ar28.2.2 hin28 hat28 (g := (mkF m 118 #[.val (.int p0), .val (.int p1), .val (.int p2), .val (.int p3), .val (.int (f0_v0 p0 p1 p2 p3)), .val (.int ((8 : Int32) / (f0_v0 p0 p1 p2 p3))), .val (.ref b1), .unset, .unset, .unset] [(.int (6 : Int32)), (.ref b1), (.int (7 : Int32)), (.ref b1)])) rfl rfl (hb hby at_118) _ ?_
    show Steps p.tables e below (T27.setTop (mkF m 119 #[.val (.int p0), .val (.int p1), .val (.int p2), .val (.int p3), .val (.int (f0_v0 p0 p1 p2 p3)), .val (.int ((8 : Int32) / (f0_v0 p0 p1 p2 p3))), .val (.ref b1), .unset, .unset, .unset] [(.int (f0_v3 p0 p1 p2 p3)), (.int (7 : Int32)), (.ref b1)])) _
    refine XS.iloadN X27.here hx rfl (hb hby at_119) rfl ?_
    show Steps p.tables e below (T27.setTop (mkF m 120 #[.val (.int p0), .val (.int p1), .val (.int p2), .val (.int p3), .val (.int (f0_v0 p0 p1 p2 p3)), .val (.int ((8 : Int32) / (f0_v0 p0 p1 p2 p3))), .val (.ref b1), .unset, .unset, .unset] [(.int p1), (.int (f0_v3 p0 p1 p2 p3)), (.int (7 : Int32)), (.ref b1)])) _
    refine XS.bipush X27.here hx rfl (hb hby at_120) ?_
    show Steps p.tables e below (T27.setTop (mkF m 122 #[.val (.int p0), .val (.int p1), .val (.int p2), .val (.int p3), .val (.int (f0_v0 p0 p1 p2 p3)), .val (.int ((8 : Int32) / (f0_v0 p0 p1 p2 p3))), .val (.ref b1), .unset, .unset, .unset] [(.int (6 : Int32)), (.int p1), (.int (f0_v3 p0 p1 p2 p3)), (.int (7 : Int32)), (.ref b1)])) _
    refine st29 _ ?_
    show Steps p.tables e below (T29.setTop (mkF m 125 #[.val (.int p0), .val (.int p1), .val (.int p2), .val (.int p3), .val (.int (f0_v0 p0 p1 p2 p3)), .val (.int ((8 : Int32) / (f0_v0 p0 p1 p2 p3))), .val (.ref b1), .unset, .unset, .unset] [(.int (F1 p1 (6 : Int32))), (.int (f0_v3 p0 p1 p2 p3)), (.int (7 : Int32)), (.ref b1)])) _
    refine XS.iadd X29.here hx rfl (hb hby at_125) rfl ?_
    show Steps p.tables e below (T29.setTop (mkF m 126 #[.val (.int p0), .val (.int p1), .val (.int p2), .val (.int p3), .val (.int (f0_v0 p0 p1 p2 p3)), .val (.int ((8 : Int32) / (f0_v0 p0 p1 p2 p3))), .val (.ref b1), .unset, .unset, .unset] [(.int ((f0_v3 p0 p1 p2 p3) + (F1 p1 (6 : Int32)))), (.int (7 : Int32)), (.ref b1)])) _
    refine st31 _ ?_
    show Steps p.tables e below (T31.setTop (mkF m 127 #[.val (.int p0), .val (.int p1), .val (.int p2), .val (.int p3), .val (.int (f0_v0 p0 p1 p2 p3)), .val (.int ((8 : Int32) / (f0_v0 p0 p1 p2 p3))), .val (.ref b1), .unset, .unset, .unset] [])) _
    refine XS.aload X31.here hx rfl (hb hby at_127) rfl rfl ?_
    show Steps p.tables e below (T31.setTop (mkF m 129 #[.val (.int p0), .val (.int p1), .val (.int p2), .val (.int p3), .val (.int (f0_v0 p0 p1 p2 p3)), .val (.int ((8 : Int32) / (f0_v0 p0 p1 p2 p3))), .val (.ref b1), .unset, .unset, .unset] [(.ref b1)])) _
    refine XS.bipush X31.here hx rfl (hb hby at_129) ?_
    show Steps p.tables e below (T31.setTop (mkF m 131 #[.val (.int p0), .val (.int p1), .val (.int p2), .val (.int p3), .val (.int (f0_v0 p0 p1 p2 p3)), .val (.int ((8 : Int32) / (f0_v0 p0 p1 p2 p3))), .val (.ref b1), .unset, .unset, .unset] [(.int (8 : Int32)), (.ref b1)])) _
    refine XS.aload X31.here hx rfl (hb hby at_131) rfl rfl ?_
    show Steps p.tables e below (T31.setTop (mkF m 133 #[.val (.int p0), .val (.int p1), .val (.int p2), .val (.int p3), .val (.int (f0_v0 p0 p1 p2 p3)), .val (.int ((8 : Int32) / (f0_v0 p0 p1 p2 p3))), .val (.ref b1), .unset, .unset, .unset] [(.ref b1), (.int (8 : Int32)), (.ref b1)])) _
    refine XS.bipush X31.here hx rfl (hb hby at_133) ?_
    show Steps p.tables e below (T31.setTop (mkF m 135 #[.val (.int p0), .val (.int p1), .val (.int p2), .val (.int p3), .val (.int (f0_v0 p0 p1 p2 p3)), .val (.int ((8 : Int32) / (f0_v0 p0 p1 p2 p3))), .val (.ref b1), .unset, .unset, .unset] [(.int (7 : Int32)), (.ref b1), (.int (8 : Int32)), (.ref b1)])) _
    refine X31.iaload hx (j := (7 : Int32)) (v := (.int ((f0_v3 p0 p1 p2 p3) + (F1 p1 (6 : Int32))))) (by rw [e31]; exact Ar32.1) (State.isArrayOf_alike hZ.alike Ar32.2.1) Ar32.2.2 hin32 hat32 (g := (mkF m 135 #[.val (.int p0), .val (.int p1), .val (.int p2), .val (.int p3), .val (.int (f0_v0 p0 p1 p2 p3)), .val (.int ((8 : Int32) / (f0_v0 p0 p1 p2 p3))), .val (.ref b1), .unset, .unset, .unset] [(.int (7 : Int32)), (.ref b1), (.int (8 : Int32)), (.ref b1)])) rfl rfl (hb hby at_135) _ ?_
    show Steps p.tables e below (T31.setTop (mkF m 136 #[.val (.int p0), .val (.int p1), .val (.int p2), .val (.int p3), .val (.int (f0_v0 p0 p1 p2 p3)), .val (.int ((8 : Int32) / (f0_v0 p0 p1 p2 p3))), .val (.ref b1), .unset, .unset, .unset] [(.int ((f0_v3 p0 p1 p2 p3) + (F1 p1 (6 : Int32)))), (.int (8 : Int32)), (.ref b1)])) _
    refine XS.iloadN X31.here hx rfl (hb hby at_136) rfl ?_
    show Steps p.tables e below (T31.setTop (mkF m 137 #[.val (.int p0), .val (.int p1), .val (.int p2), .val (.int p3), .val (.int (f0_v0 p0 p1 p2 p3)), .val (.int ((8 : Int32) / (f0_v0 p0 p1 p2 p3))), .val (.ref b1), .unset, .unset, .unset] [(.int p1), (.int ((f0_v3 p0 p1 p2 p3) + (F1 p1 (6 : Int32)))), (.int (8 : Int32)), (.ref b1)])) _
    refine XS.bipush X31.here hx rfl (hb hby at_137) ?_
    show Steps p.tables e below (T31.setTop (mkF m 139 #[.val (.int p0), .val (.int p1), .val (.int p2), .val (.int p3), .val (.int (f0_v0 p0 p1 p2 p3)), .val (.int ((8 : Int32) / (f0_v0 p0 p1 p2 p3))), .val (.ref b1), .unset, .unset, .unset] [(.int (7 : Int32)), (.int p1), (.int ((f0_v3 p0 p1 p2 p3) + (F1 p1 (6 : Int32)))), (.int (8 : Int32)), (.ref b1)])) _
    refine st33 _ ?_
    show Steps p.tables e below (T33.setTop (mkF m 142 #[.val (.int p0), .val (.int p1), .val (.int p2), .val (.int p3), .val (.int (f0_v0 p0 p1 p2 p3)), .val (.int ((8 : Int32) / (f0_v0 p0 p1 p2 p3))), .val (.ref b1), .unset, .unset, .unset] [(.int (F1 p1 (7 : Int32))), (.int ((f0_v3 p0 p1 p2 p3) + (F1 p1 (6 : Int32)))), (.int (8 : Int32)), (.ref b1)])) _
    refine XS.iadd X33.here hx rfl (hb hby at_142) rfl ?_
    show Steps p.tables e below (T33.setTop (mkF m 143 #[.val (.int p0), .val (.int p1), .val (.int p2), .val (.int p3), .val (.int (f0_v0 p0 p1 p2 p3)), .val (.int ((8 : Int32) / (f0_v0 p0 p1 p2 p3))), .val (.ref b1), .unset, .unset, .unset] [(.int (f0_v4 p0 p1 p2 p3)), (.int (8 : Int32)), (.ref b1)])) _
    refine st35 _ ?_
    show Steps p.tables e below (T35.setTop (mkF m 144 #[.val (.int p0), .val (.int p1), .val (.int p2), .val (.int p3), .val (.int (f0_v0 p0 p1 p2 p3)), .val (.int ((8 : Int32) / (f0_v0 p0 p1 p2 p3))), .val (.ref b1), .unset, .unset, .unset] [])) _
    refine st36 _ ?_
    show Steps p.tables e below (T36.setTop (mkF m 147 #[.val (.int p0), .val (.int p1), .val (.int p2), .val (.int p3), .val (.int (f0_v0 p0 p1 p2 p3)), .val (.int ((8 : Int32) / (f0_v0 p0 p1 p2 p3))), .val (.ref b1), .unset, .unset, .unset] [(.ref b36)])) _
    refine XS.dup X36.here hx rfl (hb hby at_147) rfl rfl ?_
    show Steps p.tables e below (T36.setTop (mkF m 148 #[.val (.int p0), .val (.int p1), .val (.int p2), .val (.int p3), .val (.int (f0_v0 p0 p1 p2 p3)), .val (.int ((8 : Int32) / (f0_v0 p0 p1 p2 p3))), .val (.ref b1), .unset, .unset, .unset] [(.ref b36), (.ref b36)])) _
    refine XS.iload X36.here hx rfl (hb hby at_148) rfl ?_
    show Steps p.tables e below (T36.setTop (mkF m 150 #[.val (.int p0), .val (.int p1), .val (.int p2), .val (.int p3), .val (.int (f0_v0 p0 p1 p2 p3)), .val (.int ((8 : Int32) / (f0_v0 p0 p1 p2 p3))), .val (.ref b1), .unset, .unset, .unset] [(.int (f0_v0 p0 p1 p2 p3)), (.ref b36), (.ref b36)])) _
    refine XS.aload X36.here hx rfl (hb hby at_150) rfl rfl ?_
    show Steps p.tables e below (T36.setTop (mkF m 152 #[.val (.int p0), .val (.int p1), .val (.int p2), .val (.int p3), .val (.int (f0_v0 p0 p1 p2 p3)), .val (.int ((8 : Int32) / (f0_v0 p0 p1 p2 p3))), .val (.ref b1), .unset, .unset, .unset] [(.ref b1), (.int (f0_v0 p0 p1 p2 p3)), (.ref b36), (.ref b36)])) _
    refine XS.iconst X36.here hx rfl (hb hby at_152) ?_
    show Steps p.tables e below (T36.setTop (mkF m 153 #[.val (.int p0), .val (.int p1), .val (.int p2), .val (.int p3), .val (.int (f0_v0 p0 p1 p2 p3)), .val (.int ((8 : Int32) / (f0_v0 p0 p1 p2 p3))), .val (.ref b1), .unset, .unset, .unset] [(.int (0 : Int32)), (.ref b1), (.int (f0_v0 p0 p1 p2 p3)), (.ref b36), (.ref b36)])) _
    refine st37 _ ?_
    show Steps p.tables e below (T37.setTop (mkF m 155 #[.val (.int p0), .val (.int p1), .val (.int p2), .val (.int p3), .val (.int (f0_v0 p0 p1 p2 p3)), .val (.int ((8 : Int32) / (f0_v0 p0 p1 p2 p3))), .val (.ref b1), .unset, .unset, .unset] [(.ref b37), (.ref b1), (.int (f0_v0 p0 p1 p2 p3)), (.ref b36), (.ref b36)])) _
    refine XS.iconst X37.here hx rfl (hb hby at_155) ?_
    show Steps p.tables e below (T37.setTop (mkF m 156 #[.val (.int p0), .val (.int p1), .val (.int p2), .val (.int p3), .val (.int (f0_v0 p0 p1 p2 p3)), .val (.int ((8 : Int32) / (f0_v0 p0 p1 p2 p3))), .val (.ref b1), .unset, .unset, .unset] [(.int (0 : Int32)), (.ref b37), (.ref b1), (.int (f0_v0 p0 p1 p2 p3)), (.ref b36), (.ref b36)])) _
    refine st39 _ ?_
    show Steps p.tables e below (T39.setTop (mkF m 158 #[.val (.int p0), .val (.int p1), .val (.int p2), .val (.int p3), .val (.int (f0_v0 p0 p1 p2 p3)), .val (.int ((8 : Int32) / (f0_v0 p0 p1 p2 p3))), .val (.ref b1), .unset, .unset, .unset] [(.ref b39), (.ref b37), (.ref b1), (.int (f0_v0 p0 p1 p2 p3)), (.ref b36), (.ref b36)])) _
    refine XS.iconst X39.here hx rfl (hb hby at_158) ?_
    show Steps p.tables e below (T39.setTop (mkF m 159 #[.val (.int p0), .val (.int p1), .val (.int p2), .val (.int p3), .val (.int (f0_v0 p0 p1 p2 p3)), .val (.int ((8 : Int32) / (f0_v0 p0 p1 p2 p3))), .val (.ref b1), .unset, .unset, .unset] [(.int (0 : Int32)), (.ref b39), (.ref b37), (.ref b1), (.int (f0_v0 p0 p1 p2 p3)), (.ref b36), (.ref b36)])) _
    refine st42 _ ?_
    show Steps p.tables e below (T42.setTop (mkF m 161 #[.val (.int p0), .val (.int p1), .val (.int p2), .val (.int p3), .val (.int (f0_v0 p0 p1 p2 p3)), .val (.int ((8 : Int32) / (f0_v0 p0 p1 p2 p3))), .val (.ref b1), .unset, .unset, .unset] [(.ref b42), (.ref b39), (.ref b37), (.ref b1), (.int (f0_v0 p0 p1 p2 p3)), (.ref b36), (.ref b36)])) _
    refine XS.iconst X42.here hx rfl (hb hby at_161) ?_
    show Steps p.tables e below (T42.setTop (mkF m 162 #[.val (.int p0), .val (.int p1), .val (.int p2), .val (.int p3), .val (.int (f0_v0 p0 p1 p2 p3)), .val (.int ((8 : Int32) / (f0_v0 p0 p1 p2 p3))), .val (.ref b1), .unset, .unset, .unset] [(.int (0 : Int32)), (.ref b42), (.ref b39), (.ref b37), (.ref b1), (.int (f0_v0 p0 p1 p2 p3)), (.ref b36), (.ref b36)])) _
    refine XS.iconst X42.here hx rfl (hb hby at_162) ?_
    show Steps p.tables e below (T42.setTop (mkF m 163 #[.val (.int p0), .val (.int p1), .val (.int p2), .val (.int p3), .val (.int (f0_v0 p0 p1 p2 p3)), .val (.int ((8 : Int32) / (f0_v0 p0 p1 p2 p3))), .val (.ref b1), .unset, .unset, .unset] [(.int (0 : Int32)), (.int (0 : Int32)), (.ref b42), (.ref b39), (.ref b37), (.ref b1), (.int (f0_v0 p0 p1 p2 p3)), (.ref b36), (.ref b36)])) _
    refine st46 _ ?_
    show Steps p.tables e below (T46.setTop (mkF m 165 #[.val (.int p0), .val (.int p1), .val (.int p2), .val (.int p3), .val (.int (f0_v0 p0 p1 p2 p3)), .val (.int ((8 : Int32) / (f0_v0 p0 p1 p2 p3))), .val (.ref b1), .unset, .unset, .unset] [(.ref b46), (.int (0 : Int32)), (.ref b42), (.ref b39), (.ref b37), (.ref b1), (.int (f0_v0 p0 p1 p2 p3)), (.ref b36), (.ref b36)])) _
    refine st51.trans ?_
    show Steps p.tables e below (T51.setTop (mkF m 168 #[.val (.int p0), .val (.int p1), .val (.int p2), .val (.int p3), .val (.int (f0_v0 p0 p1 p2 p3)), .val (.int ((8 : Int32) / (f0_v0 p0 p1 p2 p3))), .val (.ref b1), .unset, .unset, .unset] [(.ref b36)])) _
    refine XS.astore X51.here hx rfl (hb hby at_168) rfl rfl (l' := #[.val (.int p0), .val (.int p1), .val (.int p2), .val (.int p3), .val (.int (f0_v0 p0 p1 p2 p3)), .val (.int ((8 : Int32) / (f0_v0 p0 p1 p2 p3))), .val (.ref b1), .val (.ref b36), .unset, .unset]) rfl ?_
    show Steps p.tables e below (T51.setTop (mkF m 170 #[.val (.int p0), .val (.int p1), .val (.int p2), .val (.int p3), .val (.int (f0_v0 p0 p1 p2 p3)), .val (.int ((8 : Int32) / (f0_v0 p0 p1 p2 p3))), .val (.ref b1), .val (.ref b36), .unset, .unset] [])) _
    refine XS.iloadN X51.here hx rfl (hb hby at_170) rfl ?_
    show Steps p.tables e below (T51.setTop (mkF m 171 #[.val (.int p0), .val (.int p1), .val (.int p2), .val (.int p3), .val (.int (f0_v0 p0 p1 p2 p3)), .val (.int ((8 : Int32) / (f0_v0 p0 p1 p2 p3))), .val (.ref b1), .val (.ref b36), .unset, .unset] [(.int p2)])) _
    refine X51.ldcInt hx hown (mvT hZ (hw _ (List.mem_of_getElem? (i := 29) rfl))) (g := (mkF m 171 #[.val (.int p0), .val (.int p1), .val (.int p2), .val (.int p3), .val (.int (f0_v0 p0 p1 p2 p3)), .val (.int ((8 : Int32) / (f0_v0 p0 p1 p2 p3))), .val (.ref b1), .val (.ref b36), .unset, .unset] [(.int p2)])) rfl (hb hby at_171) _ ?_
    show Steps p.tables e below (T51.setTop (mkF m 173 #[.val (.int p0), .val (.int p1), .val (.int p2), .val (.int p3), .val (.int (f0_v0 p0 p1 p2 p3)), .val (.int ((8 : Int32) / (f0_v0 p0 p1 p2 p3))), .val (.ref b1), .val (.ref b36), .unset, .unset] [(.int (2147483647 : Int32)), (.int p2)])) _
    refine XS.iand X51.here hx rfl (hb hby at_173) rfl ?_
    show Steps p.tables e below (T51.setTop (mkF m 174 #[.val (.int p0), .val (.int p1), .val (.int p2), .val (.int p3), .val (.int (f0_v0 p0 p1 p2 p3)), .val (.int ((8 : Int32) / (f0_v0 p0 p1 p2 p3))), .val (.ref b1), .val (.ref b36), .unset, .unset] [(.int (p2 &&& (2147483647 : Int32)))])) _
    refine XS.iload X51.here hx rfl (hb hby at_174) rfl ?_
    show Steps p.tables e below (T51.setTop (mkF m 176 #[.val (.int p0), .val (.int p1), .val (.int p2), .val (.int p3), .val (.int (f0_v0 p0 p1 p2 p3)), .val (.int ((8 : Int32) / (f0_v0 p0 p1 p2 p3))), .val (.ref b1), .val (.ref b36), .unset, .unset] [(.int ((8 : Int32) / (f0_v0 p0 p1 p2 p3))), (.int (p2 &&& (2147483647 : Int32)))])) _
    refine Jvm.RoadKit.iremM X51 hx rfl (hb hby at_176) rfl (own_nzp p0 p1 p2 p3) ?_
    show Steps p.tables e below (T51.setTop (mkF m 177 #[.val (.int p0), .val (.int p1), .val (.int p2), .val (.int p3), .val (.int (f0_v0 p0 p1 p2 p3)), .val (.int ((8 : Int32) / (f0_v0 p0 p1 p2 p3))), .val (.ref b1), .val (.ref b36), .unset, .unset] [(.int (f0_v5 p0 p1 p2 p3))])) _
    refine XS.istore X51.here hx rfl (hb hby at_177) rfl (l' := #[.val (.int p0), .val (.int p1), .val (.int p2), .val (.int p3), .val (.int (f0_v0 p0 p1 p2 p3)), .val (.int ((8 : Int32) / (f0_v0 p0 p1 p2 p3))), .val (.ref b1), .val (.ref b36), .val (.int (f0_v5 p0 p1 p2 p3)), .unset]) rfl ?_
    show Steps p.tables e below (T51.setTop (mkF m 179 #[.val (.int p0), .val (.int p1), .val (.int p2), .val (.int p3), .val (.int (f0_v0 p0 p1 p2 p3)), .val (.int ((8 : Int32) / (f0_v0 p0 p1 p2 p3))), .val (.ref b1), .val (.ref b36), .val (.int (f0_v5 p0 p1 p2 p3)), .unset] [])) _
    refine XS.iloadN X51.here hx rfl (hb hby at_179) rfl ?_
    show Steps p.tables e below (T51.setTop (mkF m 180 #[.val (.int p0), .val (.int p1), .val (.int p2), .val (.int p3), .val (.int (f0_v0 p0 p1 p2 p3)), .val (.int ((8 : Int32) / (f0_v0 p0 p1 p2 p3))), .val (.ref b1), .val (.ref b36), .val (.int (f0_v5 p0 p1 p2 p3)), .unset] [(.int p3)])) _
    refine X51.ldcInt hx hown (mvT hZ (hw _ (List.mem_of_getElem? (i := 29) rfl))) (g := (mkF m 180 #[.val (.int p0), .val (.int p1), .val (.int p2), .val (.int p3), .val (.int (f0_v0 p0 p1 p2 p3)), .val (.int ((8 : Int32) / (f0_v0 p0 p1 p2 p3))), .val (.ref b1), .val (.ref b36), .val (.int (f0_v5 p0 p1 p2 p3)), .unset] [(.int p3)])) rfl (hb hby at_180) _ ?_
    show Steps p.tables e below (T51.setTop (mkF m 182 #[.val (.int p0), .val (.int p1), .val (.int p2), .val (.int p3), .val (.int (f0_v0 p0 p1 p2 p3)), .val (.int ((8 : Int32) / (f0_v0 p0 p1 p2 p3))), .val (.ref b1), .val (.ref b36), .val (.int (f0_v5 p0 p1 p2 p3)), .unset] [(.int (2147483647 : Int32)), (.int p3)])) _
    refine XS.iand X51.here hx rfl (hb hby at_182) rfl ?_
    show Steps p.tables e below (T51.setTop (mkF m 183 #[.val (.int p0), .val (.int p1), .val (.int p2), .val (.int p3), .val (.int (f0_v0 p0 p1 p2 p3)), .val (.int ((8 : Int32) / (f0_v0 p0 p1 p2 p3))), .val (.ref b1), .val (.ref b36), .val (.int (f0_v5 p0 p1 p2 p3)), .unset] [(.int (p3 &&& (2147483647 : Int32)))])) _
    refine XS.iload X51.here hx rfl (hb hby at_183) rfl ?_
    show Steps p.tables e below (T51.setTop (mkF m 185 #[.val (.int p0), .val (.int p1), .val (.int p2), .val (.int p3), .val (.int (f0_v0 p0 p1 p2 p3)), .val (.int ((8 : Int32) / (f0_v0 p0 p1 p2 p3))), .val (.ref b1), .val (.ref b36), .val (.int (f0_v5 p0 p1 p2 p3)), .unset] [(.int (f0_v0 p0 p1 p2 p3)), (.int (p3 &&& (2147483647 : Int32)))])) _
    refine Jvm.RoadKit.iremM X51 hx rfl (hb hby at_185) rfl (own_nz0 p0 p1 p2 p3) ?_
    show Steps p.tables e below (T51.setTop (mkF m 186 #[.val (.int p0), .val (.int p1), .val (.int p2), .val (.int p3), .val (.int (f0_v0 p0 p1 p2 p3)), .val (.int ((8 : Int32) / (f0_v0 p0 p1 p2 p3))), .val (.ref b1), .val (.ref b36), .val (.int (f0_v5 p0 p1 p2 p3)), .unset] [(.int (f0_v6 p0 p1 p2 p3))])) _
    refine XS.istore X51.here hx rfl (hb hby at_186) rfl (l' := #[.val (.int p0), .val (.int p1), .val (.int p2), .val (.int p3), .val (.int (f0_v0 p0 p1 p2 p3)), .val (.int ((8 : Int32) / (f0_v0 p0 p1 p2 p3))), .val (.ref b1), .val (.ref b36), .val (.int (f0_v5 p0 p1 p2 p3)), .val (.int (f0_v6 p0 p1 p2 p3))]) rfl ?_
    show Steps p.tables e below (T51.setTop (mkF m 188 #[.val (.int p0), .val (.int p1), .val (.int p2), .val (.int p3), .val (.int (f0_v0 p0 p1 p2 p3)), .val (.int ((8 : Int32) / (f0_v0 p0 p1 p2 p3))), .val (.ref b1), .val (.ref b36), .val (.int (f0_v5 p0 p1 p2 p3)), .val (.int (f0_v6 p0 p1 p2 p3))] [])) _
    refine XS.aload X51.here hx rfl (hb hby at_188) rfl rfl ?_
    show Steps p.tables e below (T51.setTop (mkF m 190 #[.val (.int p0), .val (.int p1), .val (.int p2), .val (.int p3), .val (.int (f0_v0 p0 p1 p2 p3)), .val (.int ((8 : Int32) / (f0_v0 p0 p1 p2 p3))), .val (.ref b1), .val (.ref b36), .val (.int (f0_v5 p0 p1 p2 p3)), .val (.int (f0_v6 p0 p1 p2 p3))] [(.ref b36)])) _
    refine XS.iload X51.here hx rfl (hb hby at_190) rfl ?_
    show Steps p.tables e below (T51.setTop (mkF m 192 #[.val (.int p0), .val (.int p1), .val (.int p2), .val (.int p3), .val (.int (f0_v0 p0 p1 p2 p3)), .val (.int ((8 : Int32) / (f0_v0 p0 p1 p2 p3))), .val (.ref b1), .val (.ref b36), .val (.int (f0_v5 p0 p1 p2 p3)), .val (.int (f0_v6 p0 p1 p2 p3))] [(.int (f0_v5 p0 p1 p2 p3)), (.ref b36)])) _
    refine XS.iload X51.here hx rfl (hb hby at_192) rfl ?_
    show Steps p.tables e below (T51.setTop (mkF m 194 #[.val (.int p0), .val (.int p1), .val (.int p2), .val (.int p3), .val (.int (f0_v0 p0 p1 p2 p3)), .val (.int ((8 : Int32) / (f0_v0 p0 p1 p2 p3))), .val (.ref b1), .val (.ref b36), .val (.int (f0_v5 p0 p1 p2 p3)), .val (.int (f0_v6 p0 p1 p2 p3))] [(.int (f0_v6 p0 p1 p2 p3)), (.int (f0_v5 p0 p1 p2 p3)), (.ref b36)])) _
    refine st60.trans ?_
    show Steps p.tables e below (T60.setTop (mkF m 197 #[.val (.int p0), .val (.int p1), .val (.int p2), .val (.int p3), .val (.int (f0_v0 p0 p1 p2 p3)), .val (.int ((8 : Int32) / (f0_v0 p0 p1 p2 p3))), .val (.ref b1), .val (.ref b36), .val (.int (f0_v5 p0 p1 p2 p3)), .val (.int (f0_v6 p0 p1 p2 p3))] [(.int (f0_v7 p0 p1 p2 p3))])) _
    refine XS.iloadN X60.here hx rfl (hb hby at_197) rfl ?_
    show Steps p.tables e below (T60.setTop (mkF m 198 #[.val (.int p0), .val (.int p1), .val (.int p2), .val (.int p3), .val (.int (f0_v0 p0 p1 p2 p3)), .val (.int ((8 : Int32) / (f0_v0 p0 p1 p2 p3))), .val (.ref b1), .val (.ref b36), .val (.int (f0_v5 p0 p1 p2 p3)), .val (.int (f0_v6 p0 p1 p2 p3))] [(.int p1), (.int (f0_v7 p0 p1 p2 p3))])) _
    refine XS.iload X60.here hx rfl (hb hby at_198) rfl ?_
    show Steps p.tables e below (T60.setTop (mkF m 200 #[.val (.int p0), .val (.int p1), .val (.int p2), .val (.int p3), .val (.int (f0_v0 p0 p1 p2 p3)), .val (.int ((8 : Int32) / (f0_v0 p0 p1 p2 p3))), .val (.ref b1), .val (.ref b36), .val (.int (f0_v5 p0 p1 p2 p3)), .val (.int (f0_v6 p0 p1 p2 p3))] [(.int (f0_v5 p0 p1 p2 p3)), (.int p1), (.int (f0_v7 p0 p1 p2 p3))])) _
    refine XS.iload X60.here hx rfl (hb hby at_200) rfl ?_
    show Steps p.tables e below (T60.setTop (mkF m 202 #[.val (.int p0), .val (.int p1), .val (.int p2), .val (.int p3), .val (.int (f0_v0 p0 p1 p2 p3)), .val (.int ((8 : Int32) / (f0_v0 p0 p1 p2 p3))), .val (.ref b1), .val (.ref b36), .val (.int (f0_v5 p0 p1 p2 p3)), .val (.int (f0_v6 p0 p1 p2 p3))] [(.int (f0_v0 p0 p1 p2 p3)), (.int (f0_v5 p0 p1 p2 p3)), (.int p1), (.int (f0_v7 p0 p1 p2 p3))])) _
    refine XS.imul X60.here hx rfl (hb hby at_202) rfl ?_
    show Steps p.tables e below (T60.setTop (mkF m 203 #[.val (.int p0), .val (.int p1), .val (.int p2), .val (.int p3), .val (.int (f0_v0 p0 p1 p2 p3)), .val (.int ((8 : Int32) / (f0_v0 p0 p1 p2 p3))), .val (.ref b1), .val (.ref b36), .val (.int (f0_v5 p0 p1 p2 p3)), .val (.int (f0_v6 p0 p1 p2 p3))] [(.int ((f0_v5 p0 p1 p2 p3) * (f0_v0 p0 p1 p2 p3))), (.int p1), (.int (f0_v7 p0 p1 p2 p3))])) _
    refine XS.iload X60.here hx rfl (hb hby at_203) rfl ?_
    show Steps p.tables e below (T60.setTop (mkF m 205 #[.val (.int p0), .val (.int p1), .val (.int p2), .val (.int p3), .val (.int (f0_v0 p0 p1 p2 p3)), .val (.int ((8 : Int32) / (f0_v0 p0 p1 p2 p3))), .val (.ref b1), .val (.ref b36), .val (.int (f0_v5 p0 p1 p2 p3)), .val (.int (f0_v6 p0 p1 p2 p3))] [(.int (f0_v6 p0 p1 p2 p3)), (.int ((f0_v5 p0 p1 p2 p3) * (f0_v0 p0 p1 p2 p3))), (.int p1), (.int (f0_v7 p0 p1 p2 p3))])) _
    refine XS.iadd X60.here hx rfl (hb hby at_205) rfl ?_
    show Steps p.tables e below (T60.setTop (mkF m 206 #[.val (.int p0), .val (.int p1), .val (.int p2), .val (.int p3), .val (.int (f0_v0 p0 p1 p2 p3)), .val (.int ((8 : Int32) / (f0_v0 p0 p1 p2 p3))), .val (.ref b1), .val (.ref b36), .val (.int (f0_v5 p0 p1 p2 p3)), .val (.int (f0_v6 p0 p1 p2 p3))] [(.int (f0_v8 p0 p1 p2 p3)), (.int p1), (.int (f0_v7 p0 p1 p2 p3))])) _
    refine st62 _ ?_
    exact k)
  by_cases hc209_64 : (f0_v7 p0 p1 p2 p3) = (F5 p1 (f0_v8 p0 p1 p2 p3))
  · have pre65 : ∀ t, Steps p.tables e below (T62.setTop (mkF m 217 #[.val (.int p0), .val (.int p1), .val (.int p2), .val (.int p3), .val (.int (f0_v0 p0 p1 p2 p3)), .val (.int ((8 : Int32) / (f0_v0 p0 p1 p2 p3))), .val (.ref b1), .val (.ref b36), .val (.int (f0_v5 p0 p1 p2 p3)), .val (.int (f0_v6 p0 p1 p2 p3))] [(.int (1 : Int32))])) t → Steps p.tables e below (s₁.setTop (entryFrame m #[(.int p0), (.int p1), (.int p2), (.int p3)] maxLocals)) t := fun t k => pre63 t (by
      show Steps p.tables e below (T62.setTop (mkF m 209 #[.val (.int p0), .val (.int p1), .val (.int p2), .val (.int p3), .val (.int (f0_v0 p0 p1 p2 p3)), .val (.int ((8 : Int32) / (f0_v0 p0 p1 p2 p3))), .val (.ref b1), .val (.ref b36), .val (.int (f0_v5 p0 p1 p2 p3)), .val (.int (f0_v6 p0 p1 p2 p3))] [(.int (F5 p1 (f0_v8 p0 p1 p2 p3))), (.int (f0_v7 p0 p1 p2 p3))])) _
      refine XS.icmpNo X62.here hx rfl (hb hby at_209) rfl (teq hc209_64).2 ?_
      show Steps p.tables e below (T62.setTop (mkF m 212 #[.val (.int p0), .val (.int p1), .val (.int p2), .val (.int p3), .val (.int (f0_v0 p0 p1 p2 p3)), .val (.int ((8 : Int32) / (f0_v0 p0 p1 p2 p3))), .val (.ref b1), .val (.ref b36), .val (.int (f0_v5 p0 p1 p2 p3)), .val (.int (f0_v6 p0 p1 p2 p3))] [])) _
      refine XS.iconst X62.here hx rfl (hb hby at_212) ?_
      show Steps p.tables e below (T62.setTop (mkF m 213 #[.val (.int p0), .val (.int p1), .val (.int p2), .val (.int p3), .val (.int (f0_v0 p0 p1 p2 p3)), .val (.int ((8 : Int32) / (f0_v0 p0 p1 p2 p3))), .val (.ref b1), .val (.ref b36), .val (.int (f0_v5 p0 p1 p2 p3)), .val (.int (f0_v6 p0 p1 p2 p3))] [(.int (1 : Int32))])) _
      refine XS.goto X62.here hx rfl (pc0 := 213) (pc' := 217) rfl (hb hby at_213) (by decide) (by decide) ?_
      exact k)
    obtain ⟨fs, hr, hrun, hended, hW, hsame⟩ := X62.leave (v := some (.int (1 : Int32))) (fun h => by rw [Bd.returns] at h; cases h) hlk
    have hF : (F0 p0 p1 p2 p3) = (1 : Int32) := by unfold F0; rw [if_pos hc209_64]
    exact ⟨_, _, pre65 _ (retN X62 hx (t := .boolean) Bd.returns (by simp) (hb hby at_217) hr), hrun, hended, _, _, rfl, ⟨by rw [hF], N62⟩, ⟨_, rfl⟩, hW, hsame.mono (by decide) (by decide)⟩
  have pre66 : ∀ t, Steps p.tables e below (T62.setTop (mkF m 217 #[.val (.int p0), .val (.int p1), .val (.int p2), .val (.int p3), .val (.int (f0_v0 p0 p1 p2 p3)), .val (.int ((8 : Int32) / (f0_v0 p0 p1 p2 p3))), .val (.ref b1), .val (.ref b36), .val (.int (f0_v5 p0 p1 p2 p3)), .val (.int (f0_v6 p0 p1 p2 p3))] [(.int (0 : Int32))])) t → Steps p.tables e below (s₁.setTop (entryFrame m #[(.int p0), (.int p1), (.int p2), (.int p3)] maxLocals)) t := fun t k => pre63 t (by
    show Steps p.tables e below (T62.setTop (mkF m 209 #[.val (.int p0), .val (.int p1), .val (.int p2), .val (.int p3), .val (.int (f0_v0 p0 p1 p2 p3)), .val (.int ((8 : Int32) / (f0_v0 p0 p1 p2 p3))), .val (.ref b1), .val (.ref b36), .val (.int (f0_v5 p0 p1 p2 p3)), .val (.int (f0_v6 p0 p1 p2 p3))] [(.int (F5 p1 (f0_v8 p0 p1 p2 p3))), (.int (f0_v7 p0 p1 p2 p3))])) _
    refine XS.icmpYes X62.here hx rfl (pc0 := 209) (pc' := 216) rfl (hb hby at_209) rfl (feq hc209_64).2 (by decide) (by decide) ?_
    show Steps p.tables e below (T62.setTop (mkF m 216 #[.val (.int p0), .val (.int p1), .val (.int p2), .val (.int p3), .val (.int (f0_v0 p0 p1 p2 p3)), .val (.int ((8 : Int32) / (f0_v0 p0 p1 p2 p3))), .val (.ref b1), .val (.ref b36), .val (.int (f0_v5 p0 p1 p2 p3)), .val (.int (f0_v6 p0 p1 p2 p3))] [])) _
    refine XS.iconst X62.here hx rfl (hb hby at_216) ?_
    exact k)
  obtain ⟨fs, hr, hrun, hended, hW, hsame⟩ := X62.leave (v := some (.int (0 : Int32))) (fun h => by rw [Bd.returns] at h; cases h) hlk
  have hF : (F0 p0 p1 p2 p3) = (0 : Int32) := by unfold F0; rw [if_neg hc209_64]
  exact ⟨_, _, pre66 _ (retN X62 hx (t := .boolean) Bd.returns (by simp) (hb hby at_217) hr), hrun, hended, _, _, rfl, ⟨by rw [hF], N62⟩, ⟨_, rfl⟩, hW, hsame.mono (by decide) (by decide)⟩
theorem own_8 (x : Int32) (h : 0 ≤ x.toInt ∧ x.toInt < 8) : x = 0 ∨ x = 1 ∨ x = 2 ∨ x = 3 ∨ x = 4 ∨ x = 5 ∨ x = 6 ∨ x = 7 := by
  have q : x.toInt = 0 ∨ x.toInt = 1 ∨ x.toInt = 2 ∨ x.toInt = 3 ∨ x.toInt = 4 ∨ x.toInt = 5 ∨ x.toInt = 6 ∨ x.toInt = 7 := by omega
  rcases q with q | q | q | q | q | q | q | q
  · exact Or.inl (Int32.toInt_inj.mp q)
  · exact Or.inr (Or.inl (Int32.toInt_inj.mp q))
  · exact Or.inr (Or.inr (Or.inl (Int32.toInt_inj.mp q)))
  · exact Or.inr (Or.inr (Or.inr (Or.inl (Int32.toInt_inj.mp q))))
  · exact Or.inr (Or.inr (Or.inr (Or.inr (Or.inl (Int32.toInt_inj.mp q)))))
  · exact Or.inr (Or.inr (Or.inr (Or.inr (Or.inr (Or.inl (Int32.toInt_inj.mp q))))))
  · exact Or.inr (Or.inr (Or.inr (Or.inr (Or.inr (Or.inr (Or.inl (Int32.toInt_inj.mp q)))))))
  · exact Or.inr (Or.inr (Or.inr (Or.inr (Or.inr (Or.inr (Or.inr (Int32.toInt_inj.mp q)))))))
theorem own_law (p0 p1 p2 p3 : Int32) : F0 p0 p1 p2 p3 = 1 := by
  have h := own_idx p0 p1 p2 p3
  unfold F0
  rw [if_pos]
  show F4 _ _ _ _ _ = _
  unfold F4
  show List.getD _ (f0_v8 p0 p1 p2 p3).toNatClampNeg 0 = _
  generalize f0_v8 p0 p1 p2 p3 = x at *
  rcases own_8 x h with h | h | h | h | h | h | h | h <;> rw [h] <;> rfl
set_option maxRecDepth 65536 in
set_option maxHeartbeats 40000000 in
theorem comes_1 {Post : Tables → Env → Array Value → State → Outcome → State → Prop} (hpost : ∀ tb e args s v u, (limb_1_1.after args s (.returned v) u = true ∧ limb_1_2.after args s (.returned v) u = true ∧ True) → FrameEnd s (.returned v) u (Jvm.fieldLocs frame_1_writes args s ++ Jvm.arrayLocs frame_1_arrays args s ++ Jvm.staticLocs frame_1_statics s) 24 128 → Post tb e args s (.returned v) u) :
    ArmFor flags0 classFile x code maxLocals ret World_1 tables_1 room_1 Calls_1 rest_1 Pre_1 Post := by
  intro l hfl _ _ p e ha hc hk s m args below hf hA hF happ hP
  obtain ⟨hcalls, hrest, hpre⟩ := hP
  obtain ⟨-, -, -, hnamed, -, -, -, hat⟩ := (Spec.applies_iff hf).mp happ
  obtain ⟨hg, hn⟩ := and_e (Cond.before_iff.mp (show (Jvm.Cond.and given_1 narrow_1).before args s = true from hpre))
  obtain ⟨hcount, g0⟩ := and_e hg
  obtain ⟨ga0, g1⟩ := and_e g0
  obtain ⟨ga1, g2⟩ := and_e g1
  obtain ⟨ga2, g3⟩ := and_e g2
  obtain ⟨w0, w1, w2, w3, rfl⟩ : ∃ w0 w1 w2 w3 : Value, args = #[w0, w1, w2, w3] := by
    have hs : args.size = 4 := by simpa [Cond.value, given_1] using hcount
    obtain ⟨L⟩ := args
    match L, hs with
    | [w0, w1, w2, w3], _ => exact ⟨w0, w1, w2, w3, rfl⟩
  have hw := fun d (hd : d ∈ tables_1) => atoms_spec (ws := Jvm.Cond.code x code maxLocals ret :: tables_1) hat d (List.mem_cons_of_mem _ hd)
  obtain ⟨i0, ei0⟩ := is_v ga0
  obtain rfl : w0 = (.int i0) := Option.some.inj ei0
  obtain ⟨i1, ei1⟩ := is_v ga1
  obtain rfl : w1 = (.int i1) := Option.some.inj ei1
  obtain ⟨i2, ei2⟩ := is_v ga2
  obtain rfl : w2 = (.int i2) := Option.some.inj ei2
  obtain ⟨i3, ei3⟩ := is_v g3
  obtain rfl : w3 = (.int i3) := Option.some.inj ei3
  obtain ⟨n, o, h1, h2, h3, _, L, rfl, ⟨rfl, N⟩, hq⟩ := rm0 l s _ hw tables_1 i0 i1 i2 i3 s.heap s.heap.size (Nat.le_refl _) p e ha hc hk s m _ below hf ((Spec.applies_iff_loose hf).mp happ).1 ⟨rfl, State.Warmed39.refl s, rfl⟩ trivial
  have hlaw := own_law i0 i1 i2 i3
  refine ⟨n, _, h1, h2, h3, hpost _ _ _ _ _ _ ⟨Cond.after_iff.mpr rfl, Cond.after_iff.mpr (eq_i res_at (Term.int_eval (1)) (congrArg Value.int hlaw)), trivial⟩ ⟨hq.1, hq.2.1, (hq.2.2.sift fun y hy => Or.inr (N y hy)).mono (by decide) (by decide)⟩⟩
theorem main_1_1 : Claimed_1_1 := comes_1 fun _ _ _ _ _ _ h hF => ⟨h.1, hF⟩
theorem main_1_2 : Claimed_1_2 := comes_1 fun _ _ _ _ _ _ h hF => ⟨h.2.1, hF⟩
end Jvm.Pilot.@@N@@
namespace Jvm.Pilot.@@N@@
open Jvm Jvm.ClassFile Sem Op Lib Jvm.Free Jvm.Stand Jvm.Pilot.@@N@@.Jvm.D
/-! MADE BY PROGRAM (witnessworld.py) out of the Statement's table words and the real class files: 11 classes; the members and pool entries that the words name. The judged class is class 1, her method 3. -/
namespace start1
open Jvm.ClassFile
def u (s : String) : CpInfo := .utf8 (stringToUtf16 s)
/-- a pool by its gaps: so many unusable entries, then the entry; so many at the end -/
def gap : Nat → List CpInfo → List CpInfo
  | 0, r => r
  | n + 1, r => .unusable :: gap n r
def poolList (es : List (Nat × CpInfo)) (last : Nat) : List CpInfo := es.foldr (fun e r => gap e.1 (e.2 :: r)) (gap last [])
def pool (es : List (Nat × CpInfo)) (last : Nat) : Array CpInfo := ⟨poolList es last⟩
def fileOf (pool : Array CpInfo) (this : Nat) (attrs : Array Attribute := #[]) (ms : Array MethodInfo := #[]) (fl : Nat := 33) (sup : Nat := 0) (ifs : Array Nat := #[]) (fds : Array FieldInfo := #[]) : ClassFile where
  minorVersion := 0
  majorVersion := 65
  constantPool := pool
  accessFlags := fl
  thisClass := this
  superClass := sup
  interfaces := ifs
  fields := fds
  methods := ms
  attributes := attrs
def plain (name : String) (sup : Option ClassId) : Class where
  name := name
  kind := .ordinary
  loader := none
  accessFlags := 33
  super := sup
  interfaces := #[]
  cf := none
  fields := #[]
  methods := #[]
  instanceTypes := #[]
  staticTypes := #[]
  resolved := #[]
  callSites := []
  init := .initialized
  statics := none
  mirror := none

def pool0 : Array CpInfo := pool [(5, u "<init>"), (0, u "()V"), (1, .class_ 10), (1, u "java/lang/Object")] 113

def k0c0 : Code := { maxStack := 0, maxLocals := 1, code := object_method_1_code, exceptionTable := #[], attributes := #[] }
def k0m0 : Method := { name := "<init>", desc := "()V", sig := { parameters := [], returnType := none }, accessFlags := 1, code := some k0c0 }
/-- java/lang/Object -/
def k0 : Class := { plain "java/lang/Object" none with
  accessFlags := 33
  interfaces := #[]
  cf := some (fileOf pool0 8 #[] #[{ accessFlags := 1, nameIndex := 5, descriptorIndex := 6, attributes := #[] }] 33 0 #[] #[])
  fields := #[]
  methods := #[k0m0]
  instanceTypes := #[]
  staticTypes := #[]
  resolved := Array.replicate 124 none
  statics := none }

def pool1 : Array CpInfo := pool [(2, .class_ 4), (1, u "java/lang/Object"), (0, u "<init>"), (0, u "()V"), (0, .methodref 8 9), (0, .class_ 10), (0, .nameAndType 11 12), (0, u "com/example/frugal_synth/frugalsynth/ArenaFirstChoicePinLaw"), (0, u "nib"), (0, u "(II)I"), (0, .class_ 14), (0, u "com/example/frugal_synth/frugalsynth/Arena"), (0, .methodref 13 16), (0, .nameAndType 5 17), (0, u "(I[I[I[I[JI[I)V"), (0, .integer 2147483647), (0, .methodref 13 20), (0, .nameAndType 21 12), (0, u "firstChoice"), (0, .methodref 8 23), (0, .nameAndType 24 12), (0, u "prefix"), (3, u "law"), (0, u "(IIII)Z")] 4

def k1m0 : Method := { name := "<init>", desc := "()V", sig := { parameters := [], returnType := none }, accessFlags := 1, code := none }
def k1c1 : Code := { maxStack := 3, maxLocals := 2, code := method_2_code, exceptionTable := #[], attributes := #[] }
def k1m1 : Method := { name := "nib", desc := "(II)I", sig := { parameters := [.int, .int], returnType := some .int }, accessFlags := 10, code := some k1c1 }
def k1c2 : Code := { maxStack := 3, maxLocals := 3, code := method_3_code, exceptionTable := #[], attributes := #[] }
def k1m2 : Method := { name := "prefix", desc := "(II)I", sig := { parameters := [.int, .int], returnType := some .int }, accessFlags := 10, code := some k1c2 }
def k1c3 : Code := { maxStack := 9, maxLocals := 10, code := code, exceptionTable := #[], attributes := #[] }
def k1m3 : Method := { name := "law", desc := "(IIII)Z", sig := { parameters := [.int, .int, .int, .int], returnType := some .boolean }, accessFlags := 9, code := some k1c3 }
/-- com/example/frugal_synth/frugalsynth/ArenaFirstChoicePinLaw -/
def k1 : Class := { plain "com/example/frugal_synth/frugalsynth/ArenaFirstChoicePinLaw" (some 0) with
  accessFlags := 49
  interfaces := #[]
  cf := some (fileOf pool1 8 #[] #[{ accessFlags := 1, nameIndex := 5, descriptorIndex := 6, attributes := #[] }, { accessFlags := 10, nameIndex := 11, descriptorIndex := 12, attributes := #[] }, { accessFlags := 10, nameIndex := 24, descriptorIndex := 12, attributes := #[] }, { accessFlags := 9, nameIndex := 28, descriptorIndex := 29, attributes := #[] }] 49 2 #[] #[])
  fields := #[]
  methods := #[k1m0, k1m1, k1m2, k1m3]
  instanceTypes := #[]
  staticTypes := #[]
  resolved := Array.replicate 34 none
  statics := none }

def pool2 : Array CpInfo := pool [(1, .methodref 2 3), (0, .class_ 4), (0, .nameAndType 5 6), (0, u "java/lang/Object"), (0, u "<init>"), (0, u "()V"), (0, .fieldref 8 9), (0, .class_ 10), (0, .nameAndType 11 12), (0, u "com/example/frugal_synth/frugalsynth/Arena"), (0, u "assignmentCount"), (0, u "I"), (0, .fieldref 8 14), (0, .nameAndType 15 16), (0, u "firstChoice"), (0, u "[I"), (0, .fieldref 8 18), (0, .nameAndType 19 16), (0, u "outputs"), (0, .fieldref 8 21), (0, .nameAndType 22 16), (0, u "targets"), (0, .fieldref 8 24), (0, .nameAndType 25 26), (0, u "weights"), (0, u "[J"), (0, .fieldref 8 28), (0, .nameAndType 29 12), (0, u "parityCount"), (0, .fieldref 8 31), (0, .nameAndType 32 16), (0, u "priorities"), (28, .class_ 62), (0, u "com/example/frugal_synth/frugalsynth/Arena$Builder"), (54, u "predecessors"), (10, .class_ 130), (1, u "com/example/frugal_synth/frugalsynth/Arena$Predecessors"), (12, u "(II)I"), (25, u "Lcom/example/frugal_synth/frugalsynth/Arena$Predecessors;"), (3, u "UNUSED"), (0, u "B"), (2, u "LEADS"), (1, u "REACHES"), (1, u "AVOIDS"), (1, u "(I[I[I[I[JI[I)V")] 47

def k2c0 : Code := { maxStack := 2, maxLocals := 8, code := prog_2_method_1_code, exceptionTable := #[], attributes := #[] }
def k2m0 : Method := { name := "<init>", desc := "(I[I[I[I[JI[I)V", sig := { parameters := [.int, (.array .int), (.array .int), (.array .int), (.array .long), .int, (.array .int)], returnType := none }, accessFlags := 0, code := some k2c0 }
def k2c1 : Code := { maxStack := 3, maxLocals := 3, code := prog_2_method_7_code, exceptionTable := #[], attributes := #[] }
def k2m1 : Method := { name := "firstChoice", desc := "(II)I", sig := { parameters := [.int, .int], returnType := some .int }, accessFlags := 0, code := some k2c1 }
/-- com/example/frugal_synth/frugalsynth/Arena -/
def k2 : Class := { plain "com/example/frugal_synth/frugalsynth/Arena" (some 0) with
  accessFlags := 32
  interfaces := #[]
  cf := some (fileOf pool2 8 #[.nestMembers #[61, 128]] #[{ accessFlags := 0, nameIndex := 5, descriptorIndex := 183, attributes := #[] }, { accessFlags := 0, nameIndex := 15, descriptorIndex := 143, attributes := #[] }] 32 2 #[] #[{ accessFlags := 24, nameIndex := 173, descriptorIndex := 174, attributes := #[] }, { accessFlags := 24, nameIndex := 177, descriptorIndex := 174, attributes := #[] }, { accessFlags := 24, nameIndex := 179, descriptorIndex := 174, attributes := #[] }, { accessFlags := 24, nameIndex := 181, descriptorIndex := 174, attributes := #[] }, { accessFlags := 18, nameIndex := 11, descriptorIndex := 12, attributes := #[] }, { accessFlags := 18, nameIndex := 15, descriptorIndex := 16, attributes := #[] }, { accessFlags := 18, nameIndex := 19, descriptorIndex := 16, attributes := #[] }, { accessFlags := 18, nameIndex := 22, descriptorIndex := 16, attributes := #[] }, { accessFlags := 18, nameIndex := 25, descriptorIndex := 26, attributes := #[] }, { accessFlags := 18, nameIndex := 29, descriptorIndex := 12, attributes := #[] }, { accessFlags := 18, nameIndex := 32, descriptorIndex := 16, attributes := #[] }, { accessFlags := 2, nameIndex := 117, descriptorIndex := 169, attributes := #[] }])
  fields := #[{ name := "UNUSED", type := .byte, accessFlags := 24, slot := 0, constantValue := 0 }, { name := "LEADS", type := .byte, accessFlags := 24, slot := 1, constantValue := 0 }, { name := "REACHES", type := .byte, accessFlags := 24, slot := 2, constantValue := 0 }, { name := "AVOIDS", type := .byte, accessFlags := 24, slot := 3, constantValue := 0 }, { name := "assignmentCount", type := .int, accessFlags := 18, slot := 0, constantValue := 0 }, { name := "firstChoice", type := (.array .int), accessFlags := 18, slot := 1, constantValue := 0 }, { name := "outputs", type := (.array .int), accessFlags := 18, slot := 2, constantValue := 0 }, { name := "targets", type := (.array .int), accessFlags := 18, slot := 3, constantValue := 0 }, { name := "weights", type := (.array .long), accessFlags := 18, slot := 4, constantValue := 0 }, { name := "parityCount", type := .int, accessFlags := 18, slot := 5, constantValue := 0 }, { name := "priorities", type := (.array .int), accessFlags := 18, slot := 6, constantValue := 0 }, { name := "predecessors", type := (.object "com/example/frugal_synth/frugalsynth/Arena$Predecessors"), accessFlags := 2, slot := 7, constantValue := 0 }]
  methods := #[k2m0, k2m1]
  instanceTypes := #[.int, (.array .int), (.array .int), (.array .int), (.array .long), .int, (.array .int), (.object "com/example/frugal_synth/frugalsynth/Arena$Predecessors")]
  staticTypes := #[.byte, .byte, .byte, .byte]
  resolved := Array.replicate 231 none
  statics := none }

def pool3 : Array CpInfo := pool [(1, u "java/lang/Cloneable"), (0, .class_ 1), (0, u "java/lang/Object"), (0, .class_ 3)] 3

/-- java/lang/Cloneable -/
def k3 : Class := { plain "java/lang/Cloneable" (some 0) with
  accessFlags := 1537
  interfaces := #[]
  cf := some (fileOf pool3 2 #[] #[] 1537 4 #[] #[])
  fields := #[]
  methods := #[]
  instanceTypes := #[]
  staticTypes := #[]
  resolved := Array.replicate 8 none
  statics := none }

def pool4 : Array CpInfo := pool [(1, u "java/io/Serializable"), (0, .class_ 1), (0, u "java/lang/Object"), (0, .class_ 3)] 3

/-- java/io/Serializable -/
def k4 : Class := { plain "java/io/Serializable" (some 0) with
  accessFlags := 1537
  interfaces := #[]
  cf := some (fileOf pool4 2 #[] #[] 1537 4 #[] #[])
  fields := #[]
  methods := #[]
  instanceTypes := #[]
  staticTypes := #[]
  resolved := Array.replicate 8 none
  statics := none }

/-- the primitive byte -/
def k5 : Class := { plain "byte" none with kind := .primitive 'B', accessFlags := 0x411 }
/-- [B -/
def k6 : Class := { plain "[B" (some 0) with kind := .array 5 .byte, interfaces := #[3, 4], accessFlags := 1041 }

/-- the primitive int -/
def k7 : Class := { plain "int" none with kind := .primitive 'I', accessFlags := 0x411 }
/-- [I -/
def k8 : Class := { plain "[I" (some 0) with kind := .array 7 .int, interfaces := #[3, 4], accessFlags := 1041 }

/-- the primitive long -/
def k9 : Class := { plain "long" none with kind := .primitive 'J', accessFlags := 0x411 }
/-- [J -/
def k10 : Class := { plain "[J" (some 0) with kind := .array 9 .long, interfaces := #[3, 4], accessFlags := 1041 }

def heap : Heap := #[]
def classes : Array Class := #[k0, k1, k2, k3, k4, k5, k6, k7, k8, k9, k10]
def interned : List (Array UInt16 × Addr) := []
def slotsUsed : Nat := 0
def theMethod : MethodId := ⟨1, 3⟩
def args0 : Array Value := #[.int 7, .int 7, .int 7, .int 7]
def aboutOver (below : List Frame) : State where
  vm := { classes := classes, interned := interned.toArray }
  heap := heap
  slotsUsed := slotsUsed
  threads := #[{ frames := .invoking theMethod args0 :: below }]
def below0 : List Frame := [.native { method := ⟨0, 0⟩, args := #[] }]
def about1 : State := aboutOver below0
def p0 : Program := .bare "" "" ""
def e0 : Env := launch0.env 0 0 0
theorem w_frames : about1.frames = Frame.invoking theMethod args0 :: below0 := rfl
set_option maxRecDepth 65536 in
theorem w_args : argsFit about1.vm theMethod args0 = true := by decide +kernel
set_option maxRecDepth 65536 in
theorem w_heap : heapFits about1 = true := by decide +kernel
set_option maxRecDepth 65536 in
theorem w_runnable : about1.curStatus? = some .runnable := by decide +kernel
set_option maxRecDepth 65536 in
theorem w_alone : about1.alone = true := by decide +kernel
set_option maxRecDepth 65536 in
theorem w_named : about1.methodNamed? x = some theMethod := by decide +kernel
set_option maxRecDepth 65536 in
theorem w_hears : about1.hears theMethod below0 = true := by decide +kernel
set_option maxRecDepth 65536 in
theorem w_ripe : about1.ripe theMethod args0 below0 = true := by decide +kernel
theorem w_running : about1.status = .running := rfl
set_option maxRecDepth 65536 in
theorem w_room : about1.hasRoom e0.platform room_1 = true :=
  launch0.hasRoom_least _ room_1 (by decide +kernel) (by decide +kernel) (by decide +kernel) (by decide +kernel) (by decide +kernel) (by decide +kernel)
theorem allAtoms_all (ts : List Jvm.Cond) (a : Array Jvm.Value) (st : Jvm.State) : (allAtoms ts).before a st = ts.all (fun c => c.before a st) := by
  induction ts with
  | nil => rfl
  | cons c t ih =>
    show (Jvm.Cond.and c (allAtoms t)).before a st = _
    rw [Jvm.Cond.before_and, ih, List.all_cons]
def words1 : List Jvm.Cond := Jvm.Cond.code x code maxLocals ret :: tables_1
/-- a 'code' word, met by the world's own term for the bytes: nothing is compared byte by byte -/
theorem code_word {y : MethodName} {bytes : ByteArray} {mx : Nat} {rt : Option FieldType} {a : Array Value} {s : State} {m : MethodId} {meth : Method} {c : Code} (h1 : s.methodNamed? y = some m) (h2 : s.vm.method? m = some meth) (h3 : meth.code = some c) (h4 : c.code = bytes)
    (h5 : (c.maxLocals == mx && c.exceptionTable.isEmpty && decide (c.maxStack ≤ mostOperands) && decide (meth.sig.returnType = rt) && !meth.locks && decide (parseMethodDescriptor y.desc = some meth.sig)) = true) : (Jvm.Cond.code y bytes mx rt).before a s = true := by
  simp only [Bool.and_eq_true, beq_iff_eq, Bool.not_eq_true', decide_eq_true_eq] at h5
  obtain ⟨⟨⟨⟨⟨g1, g2⟩, g3⟩, g4⟩, g5⟩, g6⟩ := h5
  simp [Cond.before, Cond.holds, Cond.value, h1, h2, h3, h4, g1, g2, g3, g4, g5, g6]
def isCode : Jvm.Cond → Bool
  | .code _ _ _ _ => true
  | _ => false
theorem all_split {L : List Jvm.Cond} {P : Jvm.Cond → Bool} (h1 : L.all (fun c => isCode c || P c) = true) (h2 : ∀ c ∈ L.filter isCode, P c = true) : L.all P = true := by
  refine List.all_eq_true.mpr fun c hc => ?_
  have h := List.all_eq_true.mp h1 c hc
  rcases Bool.eq_false_or_eq_true (isCode c) with hi | hi
  · exact h2 c (List.mem_filter.mpr ⟨hc, hi⟩)
  · simpa [hi] using h
set_option maxRecDepth 65536 in
theorem w_c0 : (Jvm.Cond.code x code maxLocals ret).before args0 about1 = true := code_word (m := ⟨1, 3⟩) (meth := k1m3) (c := k1c3) (by decide +kernel) rfl rfl rfl (by decide +kernel)
set_option maxRecDepth 65536 in
theorem w_c1 : (Jvm.Cond.code ({ cls := "com/example/frugal_synth/frugalsynth/ArenaFirstChoicePinLaw", name := "nib", desc := "(II)I" } : Jvm.MethodName) method_2_code (2 : Nat) (Option.some Jvm.ClassFile.FieldType.int)).before args0 about1 = true := code_word (m := ⟨1, 1⟩) (meth := k1m1) (c := k1c1) (by decide +kernel) rfl rfl rfl (by decide +kernel)
set_option maxRecDepth 65536 in
theorem w_c2 : (Jvm.Cond.code ({ cls := "com/example/frugal_synth/frugalsynth/Arena", name := "<init>", desc := "(I[I[I[I[JI[I)V" } : Jvm.MethodName) prog_2_method_1_code (8 : Nat) (Option.none : Option Jvm.ClassFile.FieldType)).before args0 about1 = true := code_word (m := ⟨2, 0⟩) (meth := k2m0) (c := k2c0) (by decide +kernel) rfl rfl rfl (by decide +kernel)
set_option maxRecDepth 65536 in
theorem w_c3 : (Jvm.Cond.code ({ cls := "java/lang/Object", name := "<init>", desc := "()V" } : Jvm.MethodName) object_method_1_code (1 : Nat) (Option.none : Option Jvm.ClassFile.FieldType)).before args0 about1 = true := code_word (m := ⟨0, 0⟩) (meth := k0m0) (c := k0c0) (by decide +kernel) rfl rfl rfl (by decide +kernel)
set_option maxRecDepth 65536 in
theorem w_c4 : (Jvm.Cond.code ({ cls := "com/example/frugal_synth/frugalsynth/Arena", name := "firstChoice", desc := "(II)I" } : Jvm.MethodName) prog_2_method_7_code (3 : Nat) (Option.some Jvm.ClassFile.FieldType.int)).before args0 about1 = true := code_word (m := ⟨2, 1⟩) (meth := k2m1) (c := k2c1) (by decide +kernel) rfl rfl rfl (by decide +kernel)
set_option maxRecDepth 65536 in
theorem w_c5 : (Jvm.Cond.code ({ cls := "com/example/frugal_synth/frugalsynth/ArenaFirstChoicePinLaw", name := "prefix", desc := "(II)I" } : Jvm.MethodName) method_3_code (3 : Nat) (Option.some Jvm.ClassFile.FieldType.int)).before args0 about1 = true := code_word (m := ⟨1, 2⟩) (meth := k1m2) (c := k1c2) (by decide +kernel) rfl rfl rfl (by decide +kernel)
def codes1 : List Jvm.Cond := [Jvm.Cond.code x code maxLocals ret, Jvm.Cond.code ({ cls := "com/example/frugal_synth/frugalsynth/ArenaFirstChoicePinLaw", name := "nib", desc := "(II)I" } : Jvm.MethodName) method_2_code (2 : Nat) (Option.some Jvm.ClassFile.FieldType.int), Jvm.Cond.code ({ cls := "com/example/frugal_synth/frugalsynth/Arena", name := "<init>", desc := "(I[I[I[I[JI[I)V" } : Jvm.MethodName) prog_2_method_1_code (8 : Nat) (Option.none : Option Jvm.ClassFile.FieldType), Jvm.Cond.code ({ cls := "java/lang/Object", name := "<init>", desc := "()V" } : Jvm.MethodName) object_method_1_code (1 : Nat) (Option.none : Option Jvm.ClassFile.FieldType), Jvm.Cond.code ({ cls := "com/example/frugal_synth/frugalsynth/Arena", name := "firstChoice", desc := "(II)I" } : Jvm.MethodName) prog_2_method_7_code (3 : Nat) (Option.some Jvm.ClassFile.FieldType.int), Jvm.Cond.code ({ cls := "com/example/frugal_synth/frugalsynth/ArenaFirstChoicePinLaw", name := "prefix", desc := "(II)I" } : Jvm.MethodName) method_3_code (3 : Nat) (Option.some Jvm.ClassFile.FieldType.int)]
set_option maxRecDepth 65536 in
theorem codes_eq : words1.filter isCode = codes1 := rfl
theorem w_codes : ∀ c ∈ words1.filter isCode, c.before args0 about1 = true := by
  rw [codes_eq]
  intro c hc
  simp only [codes1, List.mem_cons, List.not_mem_nil, or_false] at hc
  rcases hc with rfl | rfl | rfl | rfl | rfl | rfl
  · exact w_c0
  · exact w_c1
  · exact w_c2
  · exact w_c3
  · exact w_c4
  · exact w_c5
set_option maxRecDepth 65536 in
theorem w_t1 : (words1.take 24).all (fun c => isCode c || c.before args0 about1) = true := by decide +kernel
set_option maxRecDepth 65536 in
theorem w_t2 : (words1.drop 24).all (fun c => isCode c || c.before args0 about1) = true := by decide +kernel
theorem w_tables : (allAtoms (Jvm.Cond.code x code maxLocals ret :: tables_1)).before args0 about1 = true := by
  rw [allAtoms_all]
  show words1.all (fun c => c.before args0 about1) = true
  refine all_split ?_ w_codes
  rw [← List.take_append_drop 24 words1, List.all_append, w_t1, w_t2]
  rfl
set_option maxRecDepth 65536 in
theorem w_case : (Jvm.Cond.and given_1 narrow_1).before args0 about1 = true := by decide +kernel
theorem w_applies : (headSpec (Jvm.Cond.code x code maxLocals ret :: tables_1) room_1).applies x e0.platform about1 = true :=
  (Spec.applies_iff w_frames).mpr ⟨w_running, w_runnable, w_alone, w_named, w_hears, w_ripe, w_room, w_tables⟩
theorem atStart : AtStart classFile x code maxLocals ret World_1 tables_1 room_1 Calls_1 rest_1 Pre_1 launch0 p0 e0 about1 theMethod args0 below0 :=
  ⟨lists_1, trivial, launch0.admits_env _ _ _, launch0.least_env, fairChoices_fair.cas, fairChoices_fair.clock, w_frames, w_args, w_heap, w_applies, trivial, trivial, w_case⟩
end start1
theorem witness_1 : WitnessClaimed_1 := ⟨start1.p0, start1.e0, start1.about1, start1.theMethod, start1.args0, start1.below0, start1.atStart⟩
end Jvm.Pilot.@@N@@
