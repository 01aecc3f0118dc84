import JvmDerived
import JvmDerived.Pilot.@@N@@Statement
import JvmDerived.Pilot.@@N@@Code
set_option linter.unusedVariables false
set_option linter.unusedSimpArgs false
namespace Jvm.RoadKit
open Sem ClassFile Op Lib Jvm.Stand Jvm.Free Jvm.LawKit
section New
variable {p : Program} {l : Launch} {e : Env} {R : Room} {s : State} {m : MethodId} {args : Array Value} {below : List Frame} {meth : Method} {c : Code} {T : State} {locs : List Loc} {cells slots : Nat}
theorem retI (X : Stand p l e R s m args below meth c T locs cells slots) (hx : p.tables.exec = Jvm.exec) {pc : Nat} {Ls : Array Slot} {z : Int32} {rest : List Value} (hret : meth.sig.returnType = some .int) (hd : decode c.code pc = .ok (.ireturn, 1)) {fs : List Frame}
    (hl : ∀ (f : JFrame) (acts : List Action), f.method = m → f.locked = none → f.entered = [] → (doReturn e (T.setTop f) acts (some (.int z))).1 = T.setFrames fs) : Steps p.tables e below (T.setTop (mkF m pc Ls (.int z :: rest))) (T.setFrames fs) := by
  have hm' : T.vm.method? m = some meth := X.method'
  have hn : narrow .int (.int z) = .int z := rfl
  show Steps p.tables e below (T.setTop { method := m, pc := pc, locals := Ls, stack := _ :: rest, locked := none }) _
  jvm_step X.here [X.here.top, hx, hd, hm', hret, hn]
  first | (intro acts; rw [hl _ acts rfl rfl rfl]) | rw [hl _ _ rfl rfl rfl]
  exact Steps.refl _
end New
end Jvm.RoadKit
namespace Jvm.Pilot.@@N@@
open Jvm Jvm.ClassFile Sem Op Lib Jvm.Free Jvm.Stand Jvm.LawKit Jvm.RoadKit Bundle Jvm.Pilot.@@N@@.Jvm.D
theorem own_getDI (xs : List Int32) (k : Nat) : (xs.map Value.int).getD k (.int 0) = .int (xs.getD k 0) := by simp only [List.getD_eq_getElem?_getD, List.getElem?_map]; cases xs[k]? <;> rfl
theorem own_getDJ (xs : List Int64) (k : Nat) : (xs.map Value.long).getD k (.long 0) = .long (xs.getD k 0) := by simp only [List.getD_eq_getElem?_getD, List.getElem?_map]; cases xs[k]? <;> rfl
theorem d1_0 : decode prog_2_method_1_code 0 = .ok (.aload_n 0, 1) := by decide +kernel
theorem d1_1 : decode prog_2_method_1_code 1 = .ok (.invokespecial 1, 3) := by decide +kernel
theorem d1_4 : decode prog_2_method_1_code 4 = .ok (.aload_n 0, 1) := by decide +kernel
theorem d1_5 : decode prog_2_method_1_code 5 = .ok (.iload_n 1, 1) := by decide +kernel
theorem d1_6 : decode prog_2_method_1_code 6 = .ok (.putfield 7, 3) := by decide +kernel
theorem d1_9 : decode prog_2_method_1_code 9 = .ok (.aload_n 0, 1) := by decide +kernel
theorem d1_10 : decode prog_2_method_1_code 10 = .ok (.aload_n 2, 1) := by decide +kernel
theorem d1_11 : decode prog_2_method_1_code 11 = .ok (.putfield 13, 3) := by decide +kernel
theorem d1_14 : decode prog_2_method_1_code 14 = .ok (.aload_n 0, 1) := by decide +kernel
theorem d1_15 : decode prog_2_method_1_code 15 = .ok (.aload_n 3, 1) := by decide +kernel
theorem d1_16 : decode prog_2_method_1_code 16 = .ok (.putfield 17, 3) := by decide +kernel
theorem d1_19 : decode prog_2_method_1_code 19 = .ok (.aload_n 0, 1) := by decide +kernel
theorem d1_20 : decode prog_2_method_1_code 20 = .ok (.aload 4, 2) := by decide +kernel
theorem d1_22 : decode prog_2_method_1_code 22 = .ok (.putfield 20, 3) := by decide +kernel
theorem d1_25 : decode prog_2_method_1_code 25 = .ok (.aload_n 0, 1) := by decide +kernel
theorem d1_26 : decode prog_2_method_1_code 26 = .ok (.aload 5, 2) := by decide +kernel
theorem d1_28 : decode prog_2_method_1_code 28 = .ok (.putfield 23, 3) := by decide +kernel
theorem d1_31 : decode prog_2_method_1_code 31 = .ok (.aload_n 0, 1) := by decide +kernel
theorem d1_32 : decode prog_2_method_1_code 32 = .ok (.iload 6, 2) := by decide +kernel
theorem d1_34 : decode prog_2_method_1_code 34 = .ok (.putfield 27, 3) := by decide +kernel
theorem d1_37 : decode prog_2_method_1_code 37 = .ok (.aload_n 0, 1) := by decide +kernel
theorem d1_38 : decode prog_2_method_1_code 38 = .ok (.aload 7, 2) := by decide +kernel
theorem d1_40 : decode prog_2_method_1_code 40 = .ok (.putfield 30, 3) := by decide +kernel
theorem d1_43 : decode prog_2_method_1_code 43 = .ok (.return_, 1) := by decide +kernel
theorem d3_0 : decode method_3_code 0 = .ok (.iload_n 0, 1) := by decide +kernel
theorem d3_1 : decode method_3_code 1 = .ok (.iconst 1, 1) := by decide +kernel
theorem d3_2 : decode method_3_code 2 = .ok (.if_icmp .ne 11, 3) := by decide +kernel
theorem d3_5 : decode method_3_code 5 = .ok (.iload_n 1, 1) := by decide +kernel
theorem d3_6 : decode method_3_code 6 = .ok (.ifCond .ne 5, 3) := by decide +kernel
theorem d3_9 : decode method_3_code 9 = .ok (.iconst 0, 1) := by decide +kernel
theorem d3_10 : decode method_3_code 10 = .ok (.ireturn, 1) := by decide +kernel
theorem d3_11 : decode method_3_code 11 = .ok (.iconst 1, 1) := by decide +kernel
theorem d3_12 : decode method_3_code 12 = .ok (.ireturn, 1) := by decide +kernel
theorem d3_13 : decode method_3_code 13 = .ok (.iload_n 0, 1) := by decide +kernel
theorem d3_14 : decode method_3_code 14 = .ok (.iconst 2, 1) := by decide +kernel
theorem d3_15 : decode method_3_code 15 = .ok (.if_icmp .ne 23, 3) := by decide +kernel
theorem d3_18 : decode method_3_code 18 = .ok (.iload_n 1, 1) := by decide +kernel
theorem d3_19 : decode method_3_code 19 = .ok (.ifCond .ne 11, 3) := by decide +kernel
theorem d3_22 : decode method_3_code 22 = .ok (.iload_n 2, 1) := by decide +kernel
theorem d3_23 : decode method_3_code 23 = .ok (.ifCond .ne 5, 3) := by decide +kernel
theorem d3_26 : decode method_3_code 26 = .ok (.iconst 0, 1) := by decide +kernel
theorem d3_27 : decode method_3_code 27 = .ok (.ireturn, 1) := by decide +kernel
theorem d3_28 : decode method_3_code 28 = .ok (.iconst 1, 1) := by decide +kernel
theorem d3_29 : decode method_3_code 29 = .ok (.ireturn, 1) := by decide +kernel
theorem d3_30 : decode method_3_code 30 = .ok (.iload_n 2, 1) := by decide +kernel
theorem d3_31 : decode method_3_code 31 = .ok (.ifCond .ne 5, 3) := by decide +kernel
theorem d3_34 : decode method_3_code 34 = .ok (.iconst 2, 1) := by decide +kernel
theorem d3_35 : decode method_3_code 35 = .ok (.ireturn, 1) := by decide +kernel
theorem d3_36 : decode method_3_code 36 = .ok (.iconst 3, 1) := by decide +kernel
theorem d3_37 : decode method_3_code 37 = .ok (.ireturn, 1) := by decide +kernel
theorem d3_38 : decode method_3_code 38 = .ok (.iload_n 1, 1) := by decide +kernel
theorem d3_39 : decode method_3_code 39 = .ok (.ifCond .ne 18, 3) := by decide +kernel
theorem d3_42 : decode method_3_code 42 = .ok (.iload_n 2, 1) := by decide +kernel
theorem d3_43 : decode method_3_code 43 = .ok (.ifCond .ne 5, 3) := by decide +kernel
theorem d3_46 : decode method_3_code 46 = .ok (.iconst 0, 1) := by decide +kernel
theorem d3_47 : decode method_3_code 47 = .ok (.ireturn, 1) := by decide +kernel
theorem d3_48 : decode method_3_code 48 = .ok (.iload_n 2, 1) := by decide +kernel
theorem d3_49 : decode method_3_code 49 = .ok (.iconst 1, 1) := by decide +kernel
theorem d3_50 : decode method_3_code 50 = .ok (.if_icmp .ne 5, 3) := by decide +kernel
theorem d3_53 : decode method_3_code 53 = .ok (.iconst 1, 1) := by decide +kernel
theorem d3_54 : decode method_3_code 54 = .ok (.ireturn, 1) := by decide +kernel
theorem d3_55 : decode method_3_code 55 = .ok (.iconst 2, 1) := by decide +kernel
theorem d3_56 : decode method_3_code 56 = .ok (.ireturn, 1) := by decide +kernel
theorem d3_57 : decode method_3_code 57 = .ok (.iload_n 2, 1) := by decide +kernel
theorem d3_58 : decode method_3_code 58 = .ok (.ifCond .ne 5, 3) := by decide +kernel
theorem d3_61 : decode method_3_code 61 = .ok (.iconst 3, 1) := by decide +kernel
theorem d3_62 : decode method_3_code 62 = .ok (.ireturn, 1) := by decide +kernel
theorem d3_63 : decode method_3_code 63 = .ok (.iload_n 2, 1) := by decide +kernel
theorem d3_64 : decode method_3_code 64 = .ok (.iconst 1, 1) := by decide +kernel
theorem d3_65 : decode method_3_code 65 = .ok (.if_icmp .ne 5, 3) := by decide +kernel
theorem d3_68 : decode method_3_code 68 = .ok (.iconst 4, 1) := by decide +kernel
theorem d3_69 : decode method_3_code 69 = .ok (.ireturn, 1) := by decide +kernel
theorem d3_70 : decode method_3_code 70 = .ok (.iconst 5, 1) := by decide +kernel
theorem d3_71 : decode method_3_code 71 = .ok (.ireturn, 1) := by decide +kernel
theorem d4_0 : decode prog_2_method_12_code 0 = .ok (.aload_n 0, 1) := by decide +kernel
theorem d4_1 : decode prog_2_method_12_code 1 = .ok (.getfield 30, 3) := by decide +kernel
theorem d4_4 : decode prog_2_method_12_code 4 = .ok (.iload_n 1, 1) := by decide +kernel
theorem d4_5 : decode prog_2_method_12_code 5 = .ok (.aload_n 0, 1) := by decide +kernel
theorem d4_6 : decode prog_2_method_12_code 6 = .ok (.getfield 27, 3) := by decide +kernel
theorem d4_9 : decode prog_2_method_12_code 9 = .ok (.imul, 1) := by decide +kernel
theorem d4_10 : decode prog_2_method_12_code 10 = .ok (.iload_n 2, 1) := by decide +kernel
theorem d4_11 : decode prog_2_method_12_code 11 = .ok (.iadd, 1) := by decide +kernel
theorem d4_12 : decode prog_2_method_12_code 12 = .ok (.iaload, 1) := by decide +kernel
theorem d4_13 : decode prog_2_method_12_code 13 = .ok (.ireturn, 1) := by decide +kernel
theorem pd0 : parseMethodDescriptor "(I[I[I[I[JI[I)V" = some ⟨[.int, (.array .int), (.array .int), (.array .int), (.array .long), .int, (.array .int)], none⟩ := by decide +kernel
theorem pd1 : parseMethodDescriptor "(III)I" = some ⟨[.int, .int, .int], some .int⟩ := by decide +kernel
theorem pd2 : parseMethodDescriptor "(II)I" = some ⟨[.int, .int], some .int⟩ := by decide +kernel
theorem pn0 : plainName "com/example/frugal_synth/frugalsynth/Arena" = true := by first | (simp [plainName, overriddenIn]; done) | decide +kernel
theorem pn1 : plainName "com/example/frugal_synth/frugalsynth/ArenaPriorityPinLaw" = true := by first | (simp [plainName, overriddenIn]; done) | decide +kernel
theorem ef1 (m : MethodId) (x0 : Addr) (x1 : Int32) (x2 : Addr) (x3 : Addr) (x4 : Addr) (x5 : Addr) (x6 : Int32) (x7 : Addr) : entryFrame m #[(.ref x0), (.int x1), (.ref x2), (.ref x3), (.ref x4), (.ref x5), (.int x6), (.ref x7)] 8 = mkF m 0 #[.val (.ref x0), .val (.int x1), .val (.ref x2), .val (.ref x3), .val (.ref x4), .val (.ref x5), .val (.int x6), .val (.ref x7)] [] := by first | (simp [entryFrame, mkF, argsToLocals, Value.category]; done) | rfl
def Q1 (Z : State) (a0 : Addr) (p1 : Int32) (a2 : Addr) (a3 : Addr) (a4 : Addr) (a5 : Addr) (p6 : Int32) (a7 : Addr) (wa0_assignmentCount : Int32) (wa0_firstChoice : Value) (wa0_outputs : Value) (wa0_targets : Value) (wa0_weights : Value) (wa0_parityCount : Int32) (wa0_priorities : Value) (h0 : Heap) (n0 : Nat) (v : Option Value) (h : Heap) (L : List Loc) : Prop := v = none ∧ Fr n0 L ∧ Keep h0 h [a0] ∧ Exa Z h a0 "com/example/frugal_synth/frugalsynth/Arena" ∧ Fld Z h a0 "com/example/frugal_synth/frugalsynth/Arena" "assignmentCount" "I" (.int p1) ∧ Fld Z h a0 "com/example/frugal_synth/frugalsynth/Arena" "firstChoice" "[I" (.ref a2) ∧ Fld Z h a0 "com/example/frugal_synth/frugalsynth/Arena" "outputs" "[I" (.ref a3) ∧ Fld Z h a0 "com/example/frugal_synth/frugalsynth/Arena" "targets" "[I" (.ref a4) ∧ Fld Z h a0 "com/example/frugal_synth/frugalsynth/Arena" "weights" "[J" (.ref a5) ∧ Fld Z h a0 "com/example/frugal_synth/frugalsynth/Arena" "parityCount" "I" (.int p6) ∧ Fld Z h a0 "com/example/frugal_synth/frugalsynth/Arena" "priorities" "[I" (.ref a7)
set_option maxRecDepth 65536 in
set_option maxHeartbeats 40000000 in
theorem rm1 (l : Launch) (Z : State) (a0' : Array Value) (hw : ∀ d ∈ tables_1, d.before a0' Z = true) (ws : List Jvm.Cond) (a0 : Addr) (p1 : Int32) (a2 : Addr) (a3 : Addr) (a4 : Addr) (a5 : Addr) (p6 : Int32) (a7 : Addr) (wa0_assignmentCount : Int32) (wa0_firstChoice : Value) (wa0_outputs : Value) (wa0_targets : Value) (wa0_weights : Value) (wa0_parityCount : Int32) (wa0_priorities : Value) (h0 : Heap) (n0 : Nat) (Z0 : n0 ≤ h0.size) (E_a0 : Exa Z h0 a0 "com/example/frugal_synth/frugalsynth/Arena") (F_wa0_assignmentCount : Fld Z h0 a0 "com/example/frugal_synth/frugalsynth/Arena" "assignmentCount" "I" (.int wa0_assignmentCount)) (F_wa0_firstChoice : Fld Z h0 a0 "com/example/frugal_synth/frugalsynth/Arena" "firstChoice" "[I" wa0_firstChoice) (F_wa0_outputs : Fld Z h0 a0 "com/example/frugal_synth/frugalsynth/Arena" "outputs" "[I" wa0_outputs) (F_wa0_targets : Fld Z h0 a0 "com/example/frugal_synth/frugalsynth/Arena" "targets" "[I" wa0_targets) (F_wa0_weights : Fld Z h0 a0 "com/example/frugal_synth/frugalsynth/Arena" "weights" "[J" wa0_weights) (F_wa0_parityCount : Fld Z h0 a0 "com/example/frugal_synth/frugalsynth/Arena" "parityCount" "I" (.int wa0_parityCount)) (F_wa0_priorities : Fld Z h0 a0 "com/example/frugal_synth/frugalsynth/Arena" "priorities" "[I" wa0_priorities) (g_a0 : n0 ≤ a0) :
    MetFree l (⟨"com/example/frugal_synth/frugalsynth/Arena", "<init>", "(I[I[I[I[JI[I)V"⟩ : MethodName) (head1 (Jvm.Cond.code (⟨"com/example/frugal_synth/frugalsynth/Arena", "<init>", "(I[I[I[I[JI[I)V"⟩ : MethodName) prog_2_method_1_code 8 none :: ws) ({ frames := 1, cells := 0, slots := 0, locals := 12 } : Room)) (fun a U => a = #[(.ref a0), (.int p1), (.ref a2), (.ref a3), (.ref a4), (.ref a5), (.int p6), (.ref a7)] ∧ Z.Warmed39 U.vm ∧ U.heap = h0) (fun _ _ _ _ _ => True) (fun _ U o U' => ∃ v L, o = .returned v ∧ Q1 Z a0 p1 a2 a3 a4 a5 p6 a7 wa0_assignmentCount wa0_firstChoice wa0_outputs wa0_targets wa0_weights wa0_parityCount wa0_priorities h0 n0 v U'.heap L ∧ FrameEnd U o U' L ({ frames := 1, cells := 0, slots := 0, locals := 12 } : Room).cells ({ frames := 1, cells := 0, slots := 0, locals := 12 } : Room).slots) := by
  refine MetFree.of_bodySF (plainFor_of_name pn0) hisR ?_
  intro p e s m args below meth c s₁ Bd hml0 hP hK
  obtain ⟨rfl, hZ, hh⟩ := hP
  have hx := Bd.exec
  have hby := Bd.bytes
  have hml : c.maxLocals = 8 := hml0
  have hown : s.vm.findClass "com/example/frugal_synth/frugalsynth/Arena" = some m.cls := findClass_of_methodNamed Bd.named
  have hnm := (name_of_methodNamed Bd.named Bd.method).1
  have X0 : Stand p l e ({ frames := 1, cells := 0, slots := 0, locals := 12 } : Room) s m #[(.ref a0), (.int p1), (.ref a2), (.ref a3), (.ref a4), (.ref a5), (.int p6), (.ref a7)] below meth c s₁ [] 0 0 := Stand.of_body Bd
  have e0 : s₁.heap = h0 := by rw [← hh, Bd.state]; rfl
  have N0 := Fr.nil n0
  have pre0 : ∀ t, Steps p.tables e below (s₁.setTop (mkF m 0 #[.val (.ref a0), .val (.int p1), .val (.ref a2), .val (.ref a3), .val (.ref a4), .val (.ref a5), .val (.int p6), .val (.ref a7)] [])) t → Steps p.tables e below (s₁.setTop (entryFrame m #[(.ref a0), (.int p1), (.ref a2), (.ref a3), (.ref a4), (.ref a5), (.int p6), (.ref a7)] 8)) t := fun t k => castTop (ef1 m a0 p1 a2 a3 a4 a5 p6 a7) k
  obtain ⟨T1, X1, e1, st1⟩ := initO X0 hx hZ hown (hw _ (List.mem_of_getElem? (i := 9) rfl)) (hw _ (List.mem_of_getElem? (i := 10) rfl)) (hw _ (List.mem_of_getElem? (i := 11) rfl)) e0 (g := (mkF m 1 #[.val (.ref a0), .val (.int p1), .val (.ref a2), .val (.ref a3), .val (.ref a4), .val (.ref a5), .val (.int p6), .val (.ref a7)] [(.ref a0)])) rfl (by rw [hml]; rfl) rfl (hb hby d1_1) (by decide) (W := 0) (by show 2 * 0 + _ ≤ _; exact Nat.le_of_eq rfl) (by decide)
  obtain ⟨T2, h2, X2, e2, W2, st2⟩ := putF X1 hx hZ hown (host := "") (Or.inl (hw _ (List.mem_of_getElem? (i := 12) rfl))) Via.refl e1 F_wa0_assignmentCount E_a0 (Or.inr ⟨(hw _ (List.mem_of_getElem? (i := 13) rfl)), rfl, hnm⟩) (hw _ (List.mem_of_getElem? (i := 4) rfl)) (ty := .int) (by decide) rfl rfl (g := (mkF m 6 #[.val (.ref a0), .val (.int p1), .val (.ref a2), .val (.ref a3), .val (.ref a4), .val (.ref a5), .val (.int p6), .val (.ref a7)] [(.int p1), (.ref a0)])) rfl rfl (hb hby d1_6)
  have Z2 : n0 ≤ h2.size := Nat.le_trans Z0 (Keep.of_wr W2).1
  have N2 := Fr.snoc X2 N0 g_a0
  have KC2 : Keep h0 h2 [a0] := (Keep.refl h0 [a0]).wr W2 (Or.inl (List.mem_of_getElem? (i := 0) rfl))
  have Fw2 := F_wa0_assignmentCount.same W2
  have y3 := (E_a0.wr W2)
  have y4 := (F_wa0_firstChoice.other W2 (Or.inr (slot_ne (Or.inr (hw _ (List.mem_of_getElem? (i := 15) rfl))) (Or.inr (hw _ (List.mem_of_getElem? (i := 13) rfl))) (by decide) (t := (.array .int)) (t' := .int) (by decide) (by decide))))
  obtain ⟨T5, h5, X5, e5, W5, st5⟩ := putF X2 hx hZ hown (host := "") (Or.inl (hw _ (List.mem_of_getElem? (i := 14) rfl))) Via.refl e2 y4 y3 (Or.inr ⟨(hw _ (List.mem_of_getElem? (i := 15) rfl)), rfl, hnm⟩) (hw _ (List.mem_of_getElem? (i := 4) rfl)) (ty := (.array .int)) (by decide) rfl rfl (g := (mkF m 11 #[.val (.ref a0), .val (.int p1), .val (.ref a2), .val (.ref a3), .val (.ref a4), .val (.ref a5), .val (.int p6), .val (.ref a7)] [(.ref a2), (.ref a0)])) rfl rfl (hb hby d1_11)
  have Z5 : n0 ≤ h5.size := Nat.le_trans Z2 (Keep.of_wr W5).1
  have N5 := Fr.snoc X5 N2 g_a0
  have KC5 : Keep h0 h5 [a0] := KC2.wr W5 (Or.inl (List.mem_of_getElem? (i := 0) rfl))
  have Fw5 := y4.same W5
  have y6 := (y3.wr W5)
  have y7 := ((F_wa0_outputs.other W2 (Or.inr (slot_ne (Or.inr (hw _ (List.mem_of_getElem? (i := 17) rfl))) (Or.inr (hw _ (List.mem_of_getElem? (i := 13) rfl))) (by decide) (t := (.array .int)) (t' := .int) (by decide) (by decide)))).other W5 (Or.inr (slot_ne (Or.inr (hw _ (List.mem_of_getElem? (i := 17) rfl))) (Or.inr (hw _ (List.mem_of_getElem? (i := 15) rfl))) (by decide) (t := (.array .int)) (t' := (.array .int)) (by decide) (by decide))))
  obtain ⟨T8, h8, X8, e8, W8, st8⟩ := putF X5 hx hZ hown (host := "") (Or.inl (hw _ (List.mem_of_getElem? (i := 16) rfl))) Via.refl e5 y7 y6 (Or.inr ⟨(hw _ (List.mem_of_getElem? (i := 17) rfl)), rfl, hnm⟩) (hw _ (List.mem_of_getElem? (i := 4) rfl)) (ty := (.array .int)) (by decide) rfl rfl (g := (mkF m 16 #[.val (.ref a0), .val (.int p1), .val (.ref a2), .val (.ref a3), .val (.ref a4), .val (.ref a5), .val (.int p6), .val (.ref a7)] [(.ref a3), (.ref a0)])) rfl rfl (hb hby d1_16)
  have Z8 : n0 ≤ h8.size := Nat.le_trans Z5 (Keep.of_wr W8).1
  have N8 := Fr.snoc X8 N5 g_a0
  have KC8 : Keep h0 h8 [a0] := KC5.wr W8 (Or.inl (List.mem_of_getElem? (i := 0) rfl))
  have Fw8 := y7.same W8
  have y9 := (y6.wr W8)
  have y10 := (((F_wa0_targets.other W2 (Or.inr (slot_ne (Or.inr (hw _ (List.mem_of_getElem? (i := 19) rfl))) (Or.inr (hw _ (List.mem_of_getElem? (i := 13) rfl))) (by decide) (t := (.array .int)) (t' := .int) (by decide) (by decide)))).other W5 (Or.inr (slot_ne (Or.inr (hw _ (List.mem_of_getElem? (i := 19) rfl))) (Or.inr (hw _ (List.mem_of_getElem? (i := 15) rfl))) (by decide) (t := (.array .int)) (t' := (.array .int)) (by decide) (by decide)))).other W8 (Or.inr (slot_ne (Or.inr (hw _ (List.mem_of_getElem? (i := 19) rfl))) (Or.inr (hw _ (List.mem_of_getElem? (i := 17) rfl))) (by decide) (t := (.array .int)) (t' := (.array .int)) (by decide) (by decide))))
  obtain ⟨T11, h11, X11, e11, W11, st11⟩ := putF X8 hx hZ hown (host := "") (Or.inl (hw _ (List.mem_of_getElem? (i := 18) rfl))) Via.refl e8 y10 y9 (Or.inr ⟨(hw _ (List.mem_of_getElem? (i := 19) rfl)), rfl, hnm⟩) (hw _ (List.mem_of_getElem? (i := 4) rfl)) (ty := (.array .int)) (by decide) rfl rfl (g := (mkF m 22 #[.val (.ref a0), .val (.int p1), .val (.ref a2), .val (.ref a3), .val (.ref a4), .val (.ref a5), .val (.int p6), .val (.ref a7)] [(.ref a4), (.ref a0)])) rfl rfl (hb hby d1_22)
  have Z11 : n0 ≤ h11.size := Nat.le_trans Z8 (Keep.of_wr W11).1
  have N11 := Fr.snoc X11 N8 g_a0
  have KC11 : Keep h0 h11 [a0] := KC8.wr W11 (Or.inl (List.mem_of_getElem? (i := 0) rfl))
  have Fw11 := y10.same W11
  have y12 := (y9.wr W11)
  have y13 := ((((F_wa0_weights.other W2 (Or.inr (slot_ne (Or.inr (hw _ (List.mem_of_getElem? (i := 21) rfl))) (Or.inr (hw _ (List.mem_of_getElem? (i := 13) rfl))) (by decide) (t := (.array .long)) (t' := .int) (by decide) (by decide)))).other W5 (Or.inr (slot_ne (Or.inr (hw _ (List.mem_of_getElem? (i := 21) rfl))) (Or.inr (hw _ (List.mem_of_getElem? (i := 15) rfl))) (by decide) (t := (.array .long)) (t' := (.array .int)) (by decide) (by decide)))).other W8 (Or.inr (slot_ne (Or.inr (hw _ (List.mem_of_getElem? (i := 21) rfl))) (Or.inr (hw _ (List.mem_of_getElem? (i := 17) rfl))) (by decide) (t := (.array .long)) (t' := (.array .int)) (by decide) (by decide)))).other W11 (Or.inr (slot_ne (Or.inr (hw _ (List.mem_of_getElem? (i := 21) rfl))) (Or.inr (hw _ (List.mem_of_getElem? (i := 19) rfl))) (by decide) (t := (.array .long)) (t' := (.array .int)) (by decide) (by decide))))
  obtain ⟨T14, h14, X14, e14, W14, st14⟩ := putF X11 hx hZ hown (host := "") (Or.inl (hw _ (List.mem_of_getElem? (i := 20) rfl))) Via.refl e11 y13 y12 (Or.inr ⟨(hw _ (List.mem_of_getElem? (i := 21) rfl)), rfl, hnm⟩) (hw _ (List.mem_of_getElem? (i := 4) rfl)) (ty := (.array .long)) (by decide) rfl rfl (g := (mkF m 28 #[.val (.ref a0), .val (.int p1), .val (.ref a2), .val (.ref a3), .val (.ref a4), .val (.ref a5), .val (.int p6), .val (.ref a7)] [(.ref a5), (.ref a0)])) rfl rfl (hb hby d1_28)
  have Z14 : n0 ≤ h14.size := Nat.le_trans Z11 (Keep.of_wr W14).1
  have N14 := Fr.snoc X14 N11 g_a0
  have KC14 : Keep h0 h14 [a0] := KC11.wr W14 (Or.inl (List.mem_of_getElem? (i := 0) rfl))
  have Fw14 := y13.same W14
  have y15 := (y12.wr W14)
  have y16 := (((((F_wa0_parityCount.other W2 (Or.inr (slot_ne (Or.inr (hw _ (List.mem_of_getElem? (i := 23) rfl))) (Or.inr (hw _ (List.mem_of_getElem? (i := 13) rfl))) (by decide) (t := .int) (t' := .int) (by decide) (by decide)))).other W5 (Or.inr (slot_ne (Or.inr (hw _ (List.mem_of_getElem? (i := 23) rfl))) (Or.inr (hw _ (List.mem_of_getElem? (i := 15) rfl))) (by decide) (t := .int) (t' := (.array .int)) (by decide) (by decide)))).other W8 (Or.inr (slot_ne (Or.inr (hw _ (List.mem_of_getElem? (i := 23) rfl))) (Or.inr (hw _ (List.mem_of_getElem? (i := 17) rfl))) (by decide) (t := .int) (t' := (.array .int)) (by decide) (by decide)))).other W11 (Or.inr (slot_ne (Or.inr (hw _ (List.mem_of_getElem? (i := 23) rfl))) (Or.inr (hw _ (List.mem_of_getElem? (i := 19) rfl))) (by decide) (t := .int) (t' := (.array .int)) (by decide) (by decide)))).other W14 (Or.inr (slot_ne (Or.inr (hw _ (List.mem_of_getElem? (i := 23) rfl))) (Or.inr (hw _ (List.mem_of_getElem? (i := 21) rfl))) (by decide) (t := .int) (t' := (.array .long)) (by decide) (by decide))))
  obtain ⟨T17, h17, X17, e17, W17, st17⟩ := putF X14 hx hZ hown (host := "") (Or.inl (hw _ (List.mem_of_getElem? (i := 22) rfl))) Via.refl e14 y16 y15 (Or.inr ⟨(hw _ (List.mem_of_getElem? (i := 23) rfl)), rfl, hnm⟩) (hw _ (List.mem_of_getElem? (i := 4) rfl)) (ty := .int) (by decide) rfl rfl (g := (mkF m 34 #[.val (.ref a0), .val (.int p1), .val (.ref a2), .val (.ref a3), .val (.ref a4), .val (.ref a5), .val (.int p6), .val (.ref a7)] [(.int p6), (.ref a0)])) rfl rfl (hb hby d1_34)
  have Z17 : n0 ≤ h17.size := Nat.le_trans Z14 (Keep.of_wr W17).1
  have N17 := Fr.snoc X17 N14 g_a0
  have KC17 : Keep h0 h17 [a0] := KC14.wr W17 (Or.inl (List.mem_of_getElem? (i := 0) rfl))
  have Fw17 := y16.same W17
  have y18 := (y15.wr W17)
  have y19 := ((((((F_wa0_priorities.other W2 (Or.inr (slot_ne (Or.inr (hw _ (List.mem_of_getElem? (i := 25) rfl))) (Or.inr (hw _ (List.mem_of_getElem? (i := 13) rfl))) (by decide) (t := (.array .int)) (t' := .int) (by decide) (by decide)))).other W5 (Or.inr (slot_ne (Or.inr (hw _ (List.mem_of_getElem? (i := 25) rfl))) (Or.inr (hw _ (List.mem_of_getElem? (i := 15) rfl))) (by decide) (t := (.array .int)) (t' := (.array .int)) (by decide) (by decide)))).other W8 (Or.inr (slot_ne (Or.inr (hw _ (List.mem_of_getElem? (i := 25) rfl))) (Or.inr (hw _ (List.mem_of_getElem? (i := 17) rfl))) (by decide) (t := (.array .int)) (t' := (.array .int)) (by decide) (by decide)))).other W11 (Or.inr (slot_ne (Or.inr (hw _ (List.mem_of_getElem? (i := 25) rfl))) (Or.inr (hw _ (List.mem_of_getElem? (i := 19) rfl))) (by decide) (t := (.array .int)) (t' := (.array .int)) (by decide) (by decide)))).other W14 (Or.inr (slot_ne (Or.inr (hw _ (List.mem_of_getElem? (i := 25) rfl))) (Or.inr (hw _ (List.mem_of_getElem? (i := 21) rfl))) (by decide) (t := (.array .int)) (t' := (.array .long)) (by decide) (by decide)))).other W17 (Or.inr (slot_ne (Or.inr (hw _ (List.mem_of_getElem? (i := 25) rfl))) (Or.inr (hw _ (List.mem_of_getElem? (i := 23) rfl))) (by decide) (t := (.array .int)) (t' := .int) (by decide) (by decide))))
  obtain ⟨T20, h20, X20, e20, W20, st20⟩ := putF X17 hx hZ hown (host := "") (Or.inl (hw _ (List.mem_of_getElem? (i := 24) rfl))) Via.refl e17 y19 y18 (Or.inr ⟨(hw _ (List.mem_of_getElem? (i := 25) rfl)), rfl, hnm⟩) (hw _ (List.mem_of_getElem? (i := 4) rfl)) (ty := (.array .int)) (by decide) rfl rfl (g := (mkF m 40 #[.val (.ref a0), .val (.int p1), .val (.ref a2), .val (.ref a3), .val (.ref a4), .val (.ref a5), .val (.int p6), .val (.ref a7)] [(.ref a7), (.ref a0)])) rfl rfl (hb hby d1_40)
  have Z20 : n0 ≤ h20.size := Nat.le_trans Z17 (Keep.of_wr W20).1
  have N20 := Fr.snoc X20 N17 g_a0
  have KC20 : Keep h0 h20 [a0] := KC17.wr W20 (Or.inl (List.mem_of_getElem? (i := 0) rfl))
  have Fw20 := y19.same W20
  have pre21 : ∀ t, Steps p.tables e below (T20.setTop (mkF m 43 #[.val (.ref a0), .val (.int p1), .val (.ref a2), .val (.ref a3), .val (.ref a4), .val (.ref a5), .val (.int p6), .val (.ref a7)] [])) t → Steps p.tables e below (s₁.setTop (entryFrame m #[(.ref a0), (.int p1), (.ref a2), (.ref a3), (.ref a4), (.ref a5), (.int p6), (.ref a7)] 8)) t := fun t k => pre0 t (by
    show Steps p.tables e below (s₁.setTop (mkF m 0 #[.val (.ref a0), .val (.int p1), .val (.ref a2), .val (.ref a3), .val (.ref a4), .val (.ref a5), .val (.int p6), .val (.ref a7)] [])) _
    refine XS.aloadN X0.here hx rfl (hb hby d1_0) rfl rfl ?_
    show Steps p.tables e below (s₁.setTop (mkF m 1 #[.val (.ref a0), .val (.int p1), .val (.ref a2), .val (.ref a3), .val (.ref a4), .val (.ref a5), .val (.int p6), .val (.ref a7)] [(.ref a0)])) _
    refine st1 _ ?_
    show Steps p.tables e below (T1.setTop (mkF m 4 #[.val (.ref a0), .val (.int p1), .val (.ref a2), .val (.ref a3), .val (.ref a4), .val (.ref a5), .val (.int p6), .val (.ref a7)] [])) _
    refine XS.aloadN X1.here hx rfl (hb hby d1_4) rfl rfl ?_
    show Steps p.tables e below (T1.setTop (mkF m 5 #[.val (.ref a0), .val (.int p1), .val (.ref a2), .val (.ref a3), .val (.ref a4), .val (.ref a5), .val (.int p6), .val (.ref a7)] [(.ref a0)])) _
    refine XS.iloadN X1.here hx rfl (hb hby d1_5) rfl ?_
    show Steps p.tables e below (T1.setTop (mkF m 6 #[.val (.ref a0), .val (.int p1), .val (.ref a2), .val (.ref a3), .val (.ref a4), .val (.ref a5), .val (.int p6), .val (.ref a7)] [(.int p1), (.ref a0)])) _
    refine st2 _ ?_
    show Steps p.tables e below (T2.setTop (mkF m 9 #[.val (.ref a0), .val (.int p1), .val (.ref a2), .val (.ref a3), .val (.ref a4), .val (.ref a5), .val (.int p6), .val (.ref a7)] [])) _
    refine XS.aloadN X2.here hx rfl (hb hby d1_9) rfl rfl ?_
    show Steps p.tables e below (T2.setTop (mkF m 10 #[.val (.ref a0), .val (.int p1), .val (.ref a2), .val (.ref a3), .val (.ref a4), .val (.ref a5), .val (.int p6), .val (.ref a7)] [(.ref a0)])) _
    refine XS.aloadN X2.here hx rfl (hb hby d1_10) rfl rfl ?_
    show Steps p.tables e below (T2.setTop (mkF m 11 #[.val (.ref a0), .val (.int p1), .val (.ref a2), .val (.ref a3), .val (.ref a4), .val (.ref a5), .val (.int p6), .val (.ref a7)] [(.ref a2), (.ref a0)])) _
    refine st5 _ ?_
    show Steps p.tables e below (T5.setTop (mkF m 14 #[.val (.ref a0), .val (.int p1), .val (.ref a2), .val (.ref a3), .val (.ref a4), .val (.ref a5), .val (.int p6), .val (.ref a7)] [])) _
    refine XS.aloadN X5.here hx rfl (hb hby d1_14) rfl rfl ?_
    show Steps p.tables e below (T5.setTop (mkF m 15 #[.val (.ref a0), .val (.int p1), .val (.ref a2), .val (.ref a3), .val (.ref a4), .val (.ref a5), .val (.int p6), .val (.ref a7)] [(.ref a0)])) _
    refine XS.aloadN X5.here hx rfl (hb hby d1_15) rfl rfl ?_
    show Steps p.tables e below (T5.setTop (mkF m 16 #[.val (.ref a0), .val (.int p1), .val (.ref a2), .val (.ref a3), .val (.ref a4), .val (.ref a5), .val (.int p6), .val (.ref a7)] [(.ref a3), (.ref a0)])) _
    refine st8 _ ?_
    show Steps p.tables e below (T8.setTop (mkF m 19 #[.val (.ref a0), .val (.int p1), .val (.ref a2), .val (.ref a3), .val (.ref a4), .val (.ref a5), .val (.int p6), .val (.ref a7)] [])) _
    refine XS.aloadN X8.here hx rfl (hb hby d1_19) rfl rfl ?_
    show Steps p.tables e below (T8.setTop (mkF m 20 #[.val (.ref a0), .val (.int p1), .val (.ref a2), .val (.ref a3), .val (.ref a4), .val (.ref a5), .val (.int p6), .val (.ref a7)] [(.ref a0)])) _
    refine XS.aload X8.here hx rfl (hb hby d1_20) rfl rfl ?_
    show Steps p.tables e below (T8.setTop (mkF m 22 #[.val (.ref a0), .val (.int p1), .val (.ref a2), .val (.ref a3), .val (.ref a4), .val (.ref a5), .val (.int p6), .val (.ref a7)] [(.ref a4), (.ref a0)])) _
    refine st11 _ ?_
    show Steps p.tables e below (T11.setTop (mkF m 25 #[.val (.ref a0), .val (.int p1), .val (.ref a2), .val (.ref a3), .val (.ref a4), .val (.ref a5), .val (.int p6), .val (.ref a7)] [])) _
    refine XS.aloadN X11.here hx rfl (hb hby d1_25) rfl rfl ?_
    show Steps p.tables e below (T11.setTop (mkF m 26 #[.val (.ref a0), .val (.int p1), .val (.ref a2), .val (.ref a3), .val (.ref a4), .val (.ref a5), .val (.int p6), .val (.ref a7)] [(.ref a0)])) _
    refine XS.aload X11.here hx rfl (hb hby d1_26) rfl rfl ?_
    show Steps p.tables e below (T11.setTop (mkF m 28 #[.val (.ref a0), .val (.int p1), .val (.ref a2), .val (.ref a3), .val (.ref a4), .val (.ref a5), .val (.int p6), .val (.ref a7)] [(.ref a5), (.ref a0)])) _
    refine st14 _ ?_
    show Steps p.tables e below (T14.setTop (mkF m 31 #[.val (.ref a0), .val (.int p1), .val (.ref a2), .val (.ref a3), .val (.ref a4), .val (.ref a5), .val (.int p6), .val (.ref a7)] [])) _
    refine XS.aloadN X14.here hx rfl (hb hby d1_31) rfl rfl ?_
    show Steps p.tables e below (T14.setTop (mkF m 32 #[.val (.ref a0), .val (.int p1), .val (.ref a2), .val (.ref a3), .val (.ref a4), .val (.ref a5), .val (.int p6), .val (.ref a7)] [(.ref a0)])) _
    refine XS.iload X14.here hx rfl (hb hby d1_32) rfl ?_
    show Steps p.tables e below (T14.setTop (mkF m 34 #[.val (.ref a0), .val (.int p1), .val (.ref a2), .val (.ref a3), .val (.ref a4), .val (.ref a5), .val (.int p6), .val (.ref a7)] [(.int p6), (.ref a0)])) _
    refine st17 _ ?_
    show Steps p.tables e below (T17.setTop (mkF m 37 #[.val (.ref a0), .val (.int p1), .val (.ref a2), .val (.ref a3), .val (.ref a4), .val (.ref a5), .val (.int p6), .val (.ref a7)] [])) _
    refine XS.aloadN X17.here hx rfl (hb hby d1_37) rfl rfl ?_
    show Steps p.tables e below (T17.setTop (mkF m 38 #[.val (.ref a0), .val (.int p1), .val (.ref a2), .val (.ref a3), .val (.ref a4), .val (.ref a5), .val (.int p6), .val (.ref a7)] [(.ref a0)])) _
    refine XS.aload X17.here hx rfl (hb hby d1_38) rfl rfl ?_
    show Steps p.tables e below (T17.setTop (mkF m 40 #[.val (.ref a0), .val (.int p1), .val (.ref a2), .val (.ref a3), .val (.ref a4), .val (.ref a5), .val (.int p6), .val (.ref a7)] [(.ref a7), (.ref a0)])) _
    refine st20 _ ?_
    exact k)
  obtain ⟨fs, hr, hrun, hended, hW, hsame⟩ := X20.leave (v := none) (fun _ => rfl)
  have y22 := (y18.wr W20)
  have y23 := ((((((Fw2.other W5 (Or.inr (slot_ne (Or.inr (hw _ (List.mem_of_getElem? (i := 13) rfl))) (Or.inr (hw _ (List.mem_of_getElem? (i := 15) rfl))) (by decide) (t := .int) (t' := (.array .int)) (by decide) (by decide)))).other W8 (Or.inr (slot_ne (Or.inr (hw _ (List.mem_of_getElem? (i := 13) rfl))) (Or.inr (hw _ (List.mem_of_getElem? (i := 17) rfl))) (by decide) (t := .int) (t' := (.array .int)) (by decide) (by decide)))).other W11 (Or.inr (slot_ne (Or.inr (hw _ (List.mem_of_getElem? (i := 13) rfl))) (Or.inr (hw _ (List.mem_of_getElem? (i := 19) rfl))) (by decide) (t := .int) (t' := (.array .int)) (by decide) (by decide)))).other W14 (Or.inr (slot_ne (Or.inr (hw _ (List.mem_of_getElem? (i := 13) rfl))) (Or.inr (hw _ (List.mem_of_getElem? (i := 21) rfl))) (by decide) (t := .int) (t' := (.array .long)) (by decide) (by decide)))).other W17 (Or.inr (slot_ne (Or.inr (hw _ (List.mem_of_getElem? (i := 13) rfl))) (Or.inr (hw _ (List.mem_of_getElem? (i := 23) rfl))) (by decide) (t := .int) (t' := .int) (by decide) (by decide)))).other W20 (Or.inr (slot_ne (Or.inr (hw _ (List.mem_of_getElem? (i := 13) rfl))) (Or.inr (hw _ (List.mem_of_getElem? (i := 25) rfl))) (by decide) (t := .int) (t' := (.array .int)) (by decide) (by decide))))
  have y24 := (((((Fw5.other W8 (Or.inr (slot_ne (Or.inr (hw _ (List.mem_of_getElem? (i := 15) rfl))) (Or.inr (hw _ (List.mem_of_getElem? (i := 17) rfl))) (by decide) (t := (.array .int)) (t' := (.array .int)) (by decide) (by decide)))).other W11 (Or.inr (slot_ne (Or.inr (hw _ (List.mem_of_getElem? (i := 15) rfl))) (Or.inr (hw _ (List.mem_of_getElem? (i := 19) rfl))) (by decide) (t := (.array .int)) (t' := (.array .int)) (by decide) (by decide)))).other W14 (Or.inr (slot_ne (Or.inr (hw _ (List.mem_of_getElem? (i := 15) rfl))) (Or.inr (hw _ (List.mem_of_getElem? (i := 21) rfl))) (by decide) (t := (.array .int)) (t' := (.array .long)) (by decide) (by decide)))).other W17 (Or.inr (slot_ne (Or.inr (hw _ (List.mem_of_getElem? (i := 15) rfl))) (Or.inr (hw _ (List.mem_of_getElem? (i := 23) rfl))) (by decide) (t := (.array .int)) (t' := .int) (by decide) (by decide)))).other W20 (Or.inr (slot_ne (Or.inr (hw _ (List.mem_of_getElem? (i := 15) rfl))) (Or.inr (hw _ (List.mem_of_getElem? (i := 25) rfl))) (by decide) (t := (.array .int)) (t' := (.array .int)) (by decide) (by decide))))
  have y25 := ((((Fw8.other W11 (Or.inr (slot_ne (Or.inr (hw _ (List.mem_of_getElem? (i := 17) rfl))) (Or.inr (hw _ (List.mem_of_getElem? (i := 19) rfl))) (by decide) (t := (.array .int)) (t' := (.array .int)) (by decide) (by decide)))).other W14 (Or.inr (slot_ne (Or.inr (hw _ (List.mem_of_getElem? (i := 17) rfl))) (Or.inr (hw _ (List.mem_of_getElem? (i := 21) rfl))) (by decide) (t := (.array .int)) (t' := (.array .long)) (by decide) (by decide)))).other W17 (Or.inr (slot_ne (Or.inr (hw _ (List.mem_of_getElem? (i := 17) rfl))) (Or.inr (hw _ (List.mem_of_getElem? (i := 23) rfl))) (by decide) (t := (.array .int)) (t' := .int) (by decide) (by decide)))).other W20 (Or.inr (slot_ne (Or.inr (hw _ (List.mem_of_getElem? (i := 17) rfl))) (Or.inr (hw _ (List.mem_of_getElem? (i := 25) rfl))) (by decide) (t := (.array .int)) (t' := (.array .int)) (by decide) (by decide))))
  have y26 := (((Fw11.other W14 (Or.inr (slot_ne (Or.inr (hw _ (List.mem_of_getElem? (i := 19) rfl))) (Or.inr (hw _ (List.mem_of_getElem? (i := 21) rfl))) (by decide) (t := (.array .int)) (t' := (.array .long)) (by decide) (by decide)))).other W17 (Or.inr (slot_ne (Or.inr (hw _ (List.mem_of_getElem? (i := 19) rfl))) (Or.inr (hw _ (List.mem_of_getElem? (i := 23) rfl))) (by decide) (t := (.array .int)) (t' := .int) (by decide) (by decide)))).other W20 (Or.inr (slot_ne (Or.inr (hw _ (List.mem_of_getElem? (i := 19) rfl))) (Or.inr (hw _ (List.mem_of_getElem? (i := 25) rfl))) (by decide) (t := (.array .int)) (t' := (.array .int)) (by decide) (by decide))))
  have y27 := ((Fw14.other W17 (Or.inr (slot_ne (Or.inr (hw _ (List.mem_of_getElem? (i := 21) rfl))) (Or.inr (hw _ (List.mem_of_getElem? (i := 23) rfl))) (by decide) (t := (.array .long)) (t' := .int) (by decide) (by decide)))).other W20 (Or.inr (slot_ne (Or.inr (hw _ (List.mem_of_getElem? (i := 21) rfl))) (Or.inr (hw _ (List.mem_of_getElem? (i := 25) rfl))) (by decide) (t := (.array .long)) (t' := (.array .int)) (by decide) (by decide))))
  have y28 := (Fw17.other W20 (Or.inr (slot_ne (Or.inr (hw _ (List.mem_of_getElem? (i := 23) rfl))) (Or.inr (hw _ (List.mem_of_getElem? (i := 25) rfl))) (by decide) (t := .int) (t' := (.array .int)) (by decide) (by decide))))
  exact ⟨_, _, pre21 _ (X20.returnOut hx Bd.returns (hb hby d1_43) hr), hrun, hended, _, _, rfl, (by show Q1 Z a0 p1 a2 a3 a4 a5 p6 a7 wa0_assignmentCount wa0_firstChoice wa0_outputs wa0_targets wa0_weights wa0_parityCount wa0_priorities h0 n0 _ T20.heap _; rw [e20]; exact ⟨rfl, N20, KC20, y22, y23, y24, y25, y26, y27, y28, Fw20⟩), ⟨_, rfl⟩, hW, hsame.mono (by decide) (by decide)⟩
def F3 (p0 : Int32) (p1 : Int32) (p2 : Int32) : Int32 := (if p0 = (1 : Int32) then (if p1 = (0 : Int32) then (0 : Int32) else (1 : Int32)) else (if p0 = (2 : Int32) then (if p1 = (0 : Int32) then (if p2 = (0 : Int32) then (0 : Int32) else (1 : Int32)) else (if p2 = (0 : Int32) then (2 : Int32) else (3 : Int32))) else (if p1 = (0 : Int32) then (if p2 = (0 : Int32) then (0 : Int32) else (if p2 = (1 : Int32) then (1 : Int32) else (2 : Int32))) else (if p2 = (0 : Int32) then (3 : Int32) else (if p2 = (1 : Int32) then (4 : Int32) else (5 : Int32))))))
theorem ef3 (m : MethodId) (x0 : Int32) (x1 : Int32) (x2 : Int32) : entryFrame m #[(.int x0), (.int x1), (.int x2)] 3 = mkF m 0 #[.val (.int x0), .val (.int x1), .val (.int x2)] [] := by first | (simp [entryFrame, mkF, argsToLocals, Value.category]; done) | rfl
def Q3 (Z : State) (p0 : Int32) (p1 : Int32) (p2 : Int32) (h0 : Heap) (n0 : Nat) (v : Option Value) (h : Heap) (L : List Loc) : Prop := v = some (.int (F3 p0 p1 p2)) ∧ Fr n0 L ∧ h = h0
set_option maxRecDepth 65536 in
set_option maxHeartbeats 40000000 in
theorem rm3 (l : Launch) (Z : State) (a0' : Array Value) (hw : ∀ d ∈ tables_1, d.before a0' Z = true) (ws : List Jvm.Cond) (p0 : Int32) (p1 : Int32) (p2 : Int32) (h0 : Heap) (n0 : Nat) (Z0 : n0 ≤ h0.size) :
    MetFree l (⟨"com/example/frugal_synth/frugalsynth/ArenaPriorityPinLaw", "slot", "(III)I"⟩ : MethodName) (head1 (Jvm.Cond.code (⟨"com/example/frugal_synth/frugalsynth/ArenaPriorityPinLaw", "slot", "(III)I"⟩ : MethodName) method_3_code 3 (some .int) :: ws) ({ frames := 0, cells := 0, slots := 0, locals := 0 } : Room)) (fun a U => a = #[(.int p0), (.int p1), (.int p2)] ∧ Z.Warmed39 U.vm ∧ U.heap = h0) (fun _ _ _ _ _ => True) (fun _ U o U' => ∃ v L, o = .returned v ∧ Q3 Z p0 p1 p2 h0 n0 v U'.heap L ∧ FrameEnd U o U' L ({ frames := 0, cells := 0, slots := 0, locals := 0 } : Room).cells ({ frames := 0, cells := 0, slots := 0, locals := 0 } : Room).slots) := by
  refine MetFree.of_bodySF (plainFor_of_name pn1) hisR ?_
  intro p e s m args below meth c s₁ Bd hml0 hP hK
  obtain ⟨rfl, hZ, hh⟩ := hP
  have hx := Bd.exec
  have hby := Bd.bytes
  have hml : c.maxLocals = 3 := hml0
  have hown : s.vm.findClass "com/example/frugal_synth/frugalsynth/ArenaPriorityPinLaw" = some m.cls := findClass_of_methodNamed Bd.named
  have hnm := (name_of_methodNamed Bd.named Bd.method).1
  have X0 : Stand p l e ({ frames := 0, cells := 0, slots := 0, locals := 0 } : Room) s m #[(.int p0), (.int p1), (.int p2)] below meth c s₁ [] 0 0 := Stand.of_body Bd
  have e0 : s₁.heap = h0 := by rw [← hh, Bd.state]; rfl
  have N0 := Fr.nil n0
  have pre0 : ∀ t, Steps p.tables e below (s₁.setTop (mkF m 0 #[.val (.int p0), .val (.int p1), .val (.int p2)] [])) t → Steps p.tables e below (s₁.setTop (entryFrame m #[(.int p0), (.int p1), (.int p2)] 3)) t := fun t k => castTop (ef3 m p0 p1 p2) k
  have pre1 : ∀ t, Steps p.tables e below (s₁.setTop (mkF m 2 #[.val (.int p0), .val (.int p1), .val (.int p2)] [(.int (1 : Int32)), (.int p0)])) t → Steps p.tables e below (s₁.setTop (entryFrame m #[(.int p0), (.int p1), (.int p2)] 3)) t := fun t k => pre0 t (by
    show Steps p.tables e below (s₁.setTop (mkF m 0 #[.val (.int p0), .val (.int p1), .val (.int p2)] [])) _
    refine XS.iloadN X0.here hx rfl (hb hby d3_0) rfl ?_
    show Steps p.tables e below (s₁.setTop (mkF m 1 #[.val (.int p0), .val (.int p1), .val (.int p2)] [(.int p0)])) _
    refine XS.iconst X0.here hx rfl (hb hby d3_1) ?_
    exact k)
  by_cases hc2_2 : p0 = (1 : Int32)
  · have pre3 : ∀ t, Steps p.tables e below (s₁.setTop (mkF m 6 #[.val (.int p0), .val (.int p1), .val (.int p2)] [(.int p1)])) t → Steps p.tables e below (s₁.setTop (entryFrame m #[(.int p0), (.int p1), (.int p2)] 3)) t := fun t k => pre1 t (by
      show Steps p.tables e below (s₁.setTop (mkF m 2 #[.val (.int p0), .val (.int p1), .val (.int p2)] [(.int (1 : Int32)), (.int p0)])) _
      refine XS.icmpNo X0.here hx rfl (hb hby d3_2) rfl (teq hc2_2).2 ?_
      show Steps p.tables e below (s₁.setTop (mkF m 5 #[.val (.int p0), .val (.int p1), .val (.int p2)] [])) _
      refine XS.iloadN X0.here hx rfl (hb hby d3_5) rfl ?_
      exact k)
    by_cases hc6_4 : p1 = (0 : Int32)
    · have pre5 : ∀ t, Steps p.tables e below (s₁.setTop (mkF m 10 #[.val (.int p0), .val (.int p1), .val (.int p2)] [(.int (0 : Int32))])) t → Steps p.tables e below (s₁.setTop (entryFrame m #[(.int p0), (.int p1), (.int p2)] 3)) t := fun t k => pre3 t (by
        show Steps p.tables e below (s₁.setTop (mkF m 6 #[.val (.int p0), .val (.int p1), .val (.int p2)] [(.int p1)])) _
        refine XS.ifNo X0.here hx rfl (hb hby d3_6) rfl ((if0 _ _).trans (teq hc6_4).2) ?_
        show Steps p.tables e below (s₁.setTop (mkF m 9 #[.val (.int p0), .val (.int p1), .val (.int p2)] [])) _
        refine XS.iconst X0.here hx rfl (hb hby d3_9) ?_
        exact k)
      obtain ⟨fs, hr, hrun, hended, hW, hsame⟩ := X0.leave (v := some (.int (0 : Int32))) (fun h => by rw [Bd.returns] at h; cases h)
      have hF : (F3 p0 p1 p2) = (0 : Int32) := by unfold F3; rw [if_pos hc2_2, if_pos hc6_4]
      exact ⟨_, _, pre5 _ (retI X0 hx Bd.returns (hb hby d3_10) hr), hrun, hended, _, _, rfl, ⟨by rw [hF], N0, e0⟩, ⟨_, rfl⟩, hW, hsame.mono (by decide) (by decide)⟩
    have pre6 : ∀ t, Steps p.tables e below (s₁.setTop (mkF m 12 #[.val (.int p0), .val (.int p1), .val (.int p2)] [(.int (1 : Int32))])) t → Steps p.tables e below (s₁.setTop (entryFrame m #[(.int p0), (.int p1), (.int p2)] 3)) t := fun t k => pre3 t (by
      show Steps p.tables e below (s₁.setTop (mkF m 6 #[.val (.int p0), .val (.int p1), .val (.int p2)] [(.int p1)])) _
      refine XS.ifYes X0.here hx rfl (pc0 := 6) (pc' := 11) rfl (hb hby d3_6) rfl ((if0 _ _).trans (feq hc6_4).2) (by decide) (by decide) ?_
      show Steps p.tables e below (s₁.setTop (mkF m 11 #[.val (.int p0), .val (.int p1), .val (.int p2)] [])) _
      refine XS.iconst X0.here hx rfl (hb hby d3_11) ?_
      exact k)
    obtain ⟨fs, hr, hrun, hended, hW, hsame⟩ := X0.leave (v := some (.int (1 : Int32))) (fun h => by rw [Bd.returns] at h; cases h)
    have hF : (F3 p0 p1 p2) = (1 : Int32) := by unfold F3; rw [if_pos hc2_2, if_neg hc6_4]
    exact ⟨_, _, pre6 _ (retI X0 hx Bd.returns (hb hby d3_12) hr), hrun, hended, _, _, rfl, ⟨by rw [hF], N0, e0⟩, ⟨_, rfl⟩, hW, hsame.mono (by decide) (by decide)⟩
  have pre7 : ∀ t, Steps p.tables e below (s₁.setTop (mkF m 15 #[.val (.int p0), .val (.int p1), .val (.int p2)] [(.int (2 : Int32)), (.int p0)])) t → Steps p.tables e below (s₁.setTop (entryFrame m #[(.int p0), (.int p1), (.int p2)] 3)) t := fun t k => pre1 t (by
    show Steps p.tables e below (s₁.setTop (mkF m 2 #[.val (.int p0), .val (.int p1), .val (.int p2)] [(.int (1 : Int32)), (.int p0)])) _
    refine XS.icmpYes X0.here hx rfl (pc0 := 2) (pc' := 13) rfl (hb hby d3_2) rfl (feq hc2_2).2 (by decide) (by decide) ?_
    show Steps p.tables e below (s₁.setTop (mkF m 13 #[.val (.int p0), .val (.int p1), .val (.int p2)] [])) _
    refine XS.iloadN X0.here hx rfl (hb hby d3_13) rfl ?_
    show Steps p.tables e below (s₁.setTop (mkF m 14 #[.val (.int p0), .val (.int p1), .val (.int p2)] [(.int p0)])) _
    refine XS.iconst X0.here hx rfl (hb hby d3_14) ?_
    exact k)
  by_cases hc15_8 : p0 = (2 : Int32)
  · have pre9 : ∀ t, Steps p.tables e below (s₁.setTop (mkF m 19 #[.val (.int p0), .val (.int p1), .val (.int p2)] [(.int p1)])) t → Steps p.tables e below (s₁.setTop (entryFrame m #[(.int p0), (.int p1), (.int p2)] 3)) t := fun t k => pre7 t (by
      show Steps p.tables e below (s₁.setTop (mkF m 15 #[.val (.int p0), .val (.int p1), .val (.int p2)] [(.int (2 : Int32)), (.int p0)])) _
      refine XS.icmpNo X0.here hx rfl (hb hby d3_15) rfl (teq hc15_8).2 ?_
      show Steps p.tables e below (s₁.setTop (mkF m 18 #[.val (.int p0), .val (.int p1), .val (.int p2)] [])) _
      refine XS.iloadN X0.here hx rfl (hb hby d3_18) rfl ?_
      exact k)
    by_cases hc19_10 : p1 = (0 : Int32)
    · have pre11 : ∀ t, Steps p.tables e below (s₁.setTop (mkF m 23 #[.val (.int p0), .val (.int p1), .val (.int p2)] [(.int p2)])) t → Steps p.tables e below (s₁.setTop (entryFrame m #[(.int p0), (.int p1), (.int p2)] 3)) t := fun t k => pre9 t (by
        show Steps p.tables e below (s₁.setTop (mkF m 19 #[.val (.int p0), .val (.int p1), .val (.int p2)] [(.int p1)])) _
        refine XS.ifNo X0.here hx rfl (hb hby d3_19) rfl ((if0 _ _).trans (teq hc19_10).2) ?_
        show Steps p.tables e below (s₁.setTop (mkF m 22 #[.val (.int p0), .val (.int p1), .val (.int p2)] [])) _
        refine XS.iloadN X0.here hx rfl (hb hby d3_22) rfl ?_
        exact k)
      by_cases hc23_12 : p2 = (0 : Int32)
      · have pre13 : ∀ t, Steps p.tables e below (s₁.setTop (mkF m 27 #[.val (.int p0), .val (.int p1), .val (.int p2)] [(.int (0 : Int32))])) t → Steps p.tables e below (s₁.setTop (entryFrame m #[(.int p0), (.int p1), (.int p2)] 3)) t := fun t k => pre11 t (by
          show Steps p.tables e below (s₁.setTop (mkF m 23 #[.val (.int p0), .val (.int p1), .val (.int p2)] [(.int p2)])) _
          refine XS.ifNo X0.here hx rfl (hb hby d3_23) rfl ((if0 _ _).trans (teq hc23_12).2) ?_
          show Steps p.tables e below (s₁.setTop (mkF m 26 #[.val (.int p0), .val (.int p1), .val (.int p2)] [])) _
          refine XS.iconst X0.here hx rfl (hb hby d3_26) ?_
          exact k)
        obtain ⟨fs, hr, hrun, hended, hW, hsame⟩ := X0.leave (v := some (.int (0 : Int32))) (fun h => by rw [Bd.returns] at h; cases h)
        have hF : (F3 p0 p1 p2) = (0 : Int32) := by unfold F3; rw [if_neg hc2_2, if_pos hc15_8, if_pos hc19_10, if_pos hc23_12]
        exact ⟨_, _, pre13 _ (retI X0 hx Bd.returns (hb hby d3_27) hr), hrun, hended, _, _, rfl, ⟨by rw [hF], N0, e0⟩, ⟨_, rfl⟩, hW, hsame.mono (by decide) (by decide)⟩
      have pre14 : ∀ t, Steps p.tables e below (s₁.setTop (mkF m 29 #[.val (.int p0), .val (.int p1), .val (.int p2)] [(.int (1 : Int32))])) t → Steps p.tables e below (s₁.setTop (entryFrame m #[(.int p0), (.int p1), (.int p2)] 3)) t := fun t k => pre11 t (by
        show Steps p.tables e below (s₁.setTop (mkF m 23 #[.val (.int p0), .val (.int p1), .val (.int p2)] [(.int p2)])) _
        refine XS.ifYes X0.here hx rfl (pc0 := 23) (pc' := 28) rfl (hb hby d3_23) rfl ((if0 _ _).trans (feq hc23_12).2) (by decide) (by decide) ?_
        show Steps p.tables e below (s₁.setTop (mkF m 28 #[.val (.int p0), .val (.int p1), .val (.int p2)] [])) _
        refine XS.iconst X0.here hx rfl (hb hby d3_28) ?_
        exact k)
      obtain ⟨fs, hr, hrun, hended, hW, hsame⟩ := X0.leave (v := some (.int (1 : Int32))) (fun h => by rw [Bd.returns] at h; cases h)
      have hF : (F3 p0 p1 p2) = (1 : Int32) := by unfold F3; rw [if_neg hc2_2, if_pos hc15_8, if_pos hc19_10, if_neg hc23_12]
      exact ⟨_, _, pre14 _ (retI X0 hx Bd.returns (hb hby d3_29) hr), hrun, hended, _, _, rfl, ⟨by rw [hF], N0, e0⟩, ⟨_, rfl⟩, hW, hsame.mono (by decide) (by decide)⟩
    have pre15 : ∀ t, Steps p.tables e below (s₁.setTop (mkF m 31 #[.val (.int p0), .val (.int p1), .val (.int p2)] [(.int p2)])) t → Steps p.tables e below (s₁.setTop (entryFrame m #[(.int p0), (.int p1), (.int p2)] 3)) t := fun t k => pre9 t (by
      show Steps p.tables e below (s₁.setTop (mkF m 19 #[.val (.int p0), .val (.int p1), .val (.int p2)] [(.int p1)])) _
      refine XS.ifYes X0.here hx rfl (pc0 := 19) (pc' := 30) rfl (hb hby d3_19) rfl ((if0 _ _).trans (feq hc19_10).2) (by decide) (by decide) ?_
      show Steps p.tables e below (s₁.setTop (mkF m 30 #[.val (.int p0), .val (.int p1), .val (.int p2)] [])) _
      refine XS.iloadN X0.here hx rfl (hb hby d3_30) rfl ?_
      exact k)
    by_cases hc31_16 : p2 = (0 : Int32)
    · have pre17 : ∀ t, Steps p.tables e below (s₁.setTop (mkF m 35 #[.val (.int p0), .val (.int p1), .val (.int p2)] [(.int (2 : Int32))])) t → Steps p.tables e below (s₁.setTop (entryFrame m #[(.int p0), (.int p1), (.int p2)] 3)) t := fun t k => pre15 t (by
        show Steps p.tables e below (s₁.setTop (mkF m 31 #[.val (.int p0), .val (.int p1), .val (.int p2)] [(.int p2)])) _
        refine XS.ifNo X0.here hx rfl (hb hby d3_31) rfl ((if0 _ _).trans (teq hc31_16).2) ?_
        show Steps p.tables e below (s₁.setTop (mkF m 34 #[.val (.int p0), .val (.int p1), .val (.int p2)] [])) _
        refine XS.iconst X0.here hx rfl (hb hby d3_34) ?_
        exact k)
      obtain ⟨fs, hr, hrun, hended, hW, hsame⟩ := X0.leave (v := some (.int (2 : Int32))) (fun h => by rw [Bd.returns] at h; cases h)
      have hF : (F3 p0 p1 p2) = (2 : Int32) := by unfold F3; rw [if_neg hc2_2, if_pos hc15_8, if_neg hc19_10, if_pos hc31_16]
      exact ⟨_, _, pre17 _ (retI X0 hx Bd.returns (hb hby d3_35) hr), hrun, hended, _, _, rfl, ⟨by rw [hF], N0, e0⟩, ⟨_, rfl⟩, hW, hsame.mono (by decide) (by decide)⟩
    have pre18 : ∀ t, Steps p.tables e below (s₁.setTop (mkF m 37 #[.val (.int p0), .val (.int p1), .val (.int p2)] [(.int (3 : Int32))])) t → Steps p.tables e below (s₁.setTop (entryFrame m #[(.int p0), (.int p1), (.int p2)] 3)) t := fun t k => pre15 t (by
      show Steps p.tables e below (s₁.setTop (mkF m 31 #[.val (.int p0), .val (.int p1), .val (.int p2)] [(.int p2)])) _
      refine XS.ifYes X0.here hx rfl (pc0 := 31) (pc' := 36) rfl (hb hby d3_31) rfl ((if0 _ _).trans (feq hc31_16).2) (by decide) (by decide) ?_
      show Steps p.tables e below (s₁.setTop (mkF m 36 #[.val (.int p0), .val (.int p1), .val (.int p2)] [])) _
      refine XS.iconst X0.here hx rfl (hb hby d3_36) ?_
      exact k)
    obtain ⟨fs, hr, hrun, hended, hW, hsame⟩ := X0.leave (v := some (.int (3 : Int32))) (fun h => by rw [Bd.returns] at h; cases h)
    have hF : (F3 p0 p1 p2) = (3 : Int32) := by unfold F3; rw [if_neg hc2_2, if_pos hc15_8, if_neg hc19_10, if_neg hc31_16]
    exact ⟨_, _, pre18 _ (retI X0 hx Bd.returns (hb hby d3_37) hr), hrun, hended, _, _, rfl, ⟨by rw [hF], N0, e0⟩, ⟨_, rfl⟩, hW, hsame.mono (by decide) (by decide)⟩
  have pre19 : ∀ t, Steps p.tables e below (s₁.setTop (mkF m 39 #[.val (.int p0), .val (.int p1), .val (.int p2)] [(.int p1)])) t → Steps p.tables e below (s₁.setTop (entryFrame m #[(.int p0), (.int p1), (.int p2)] 3)) t := fun t k => pre7 t (by
    show Steps p.tables e below (s₁.setTop (mkF m 15 #[.val (.int p0), .val (.int p1), .val (.int p2)] [(.int (2 : Int32)), (.int p0)])) _
    refine XS.icmpYes X0.here hx rfl (pc0 := 15) (pc' := 38) rfl (hb hby d3_15) rfl (feq hc15_8).2 (by decide) (by decide) ?_
    show Steps p.tables e below (s₁.setTop (mkF m 38 #[.val (.int p0), .val (.int p1), .val (.int p2)] [])) _
    refine XS.iloadN X0.here hx rfl (hb hby d3_38) rfl ?_
    exact k)
  by_cases hc39_20 : p1 = (0 : Int32)
  · have pre21 : ∀ t, Steps p.tables e below (s₁.setTop (mkF m 43 #[.val (.int p0), .val (.int p1), .val (.int p2)] [(.int p2)])) t → Steps p.tables e below (s₁.setTop (entryFrame m #[(.int p0), (.int p1), (.int p2)] 3)) t := fun t k => pre19 t (by
      show Steps p.tables e below (s₁.setTop (mkF m 39 #[.val (.int p0), .val (.int p1), .val (.int p2)] [(.int p1)])) _
      refine XS.ifNo X0.here hx rfl (hb hby d3_39) rfl ((if0 _ _).trans (teq hc39_20).2) ?_
      show Steps p.tables e below (s₁.setTop (mkF m 42 #[.val (.int p0), .val (.int p1), .val (.int p2)] [])) _
      refine XS.iloadN X0.here hx rfl (hb hby d3_42) rfl ?_
      exact k)
    by_cases hc43_22 : p2 = (0 : Int32)
    · have pre23 : ∀ t, Steps p.tables e below (s₁.setTop (mkF m 47 #[.val (.int p0), .val (.int p1), .val (.int p2)] [(.int (0 : Int32))])) t → Steps p.tables e below (s₁.setTop (entryFrame m #[(.int p0), (.int p1), (.int p2)] 3)) t := fun t k => pre21 t (by
        show Steps p.tables e below (s₁.setTop (mkF m 43 #[.val (.int p0), .val (.int p1), .val (.int p2)] [(.int p2)])) _
        refine XS.ifNo X0.here hx rfl (hb hby d3_43) rfl ((if0 _ _).trans (teq hc43_22).2) ?_
        show Steps p.tables e below (s₁.setTop (mkF m 46 #[.val (.int p0), .val (.int p1), .val (.int p2)] [])) _
        refine XS.iconst X0.here hx rfl (hb hby d3_46) ?_
        exact k)
      obtain ⟨fs, hr, hrun, hended, hW, hsame⟩ := X0.leave (v := some (.int (0 : Int32))) (fun h => by rw [Bd.returns] at h; cases h)
      have hF : (F3 p0 p1 p2) = (0 : Int32) := by unfold F3; rw [if_neg hc2_2, if_neg hc15_8, if_pos hc39_20, if_pos hc43_22]
      exact ⟨_, _, pre23 _ (retI X0 hx Bd.returns (hb hby d3_47) hr), hrun, hended, _, _, rfl, ⟨by rw [hF], N0, e0⟩, ⟨_, rfl⟩, hW, hsame.mono (by decide) (by decide)⟩
    have pre24 : ∀ t, Steps p.tables e below (s₁.setTop (mkF m 50 #[.val (.int p0), .val (.int p1), .val (.int p2)] [(.int (1 : Int32)), (.int p2)])) t → Steps p.tables e below (s₁.setTop (entryFrame m #[(.int p0), (.int p1), (.int p2)] 3)) t := fun t k => pre21 t (by
      show Steps p.tables e below (s₁.setTop (mkF m 43 #[.val (.int p0), .val (.int p1), .val (.int p2)] [(.int p2)])) _
      refine XS.ifYes X0.here hx rfl (pc0 := 43) (pc' := 48) rfl (hb hby d3_43) rfl ((if0 _ _).trans (feq hc43_22).2) (by decide) (by decide) ?_
      show Steps p.tables e below (s₁.setTop (mkF m 48 #[.val (.int p0), .val (.int p1), .val (.int p2)] [])) _
      refine XS.iloadN X0.here hx rfl (hb hby d3_48) rfl ?_
      show Steps p.tables e below (s₁.setTop (mkF m 49 #[.val (.int p0), .val (.int p1), .val (.int p2)] [(.int p2)])) _
      refine XS.iconst X0.here hx rfl (hb hby d3_49) ?_
      exact k)
    by_cases hc50_25 : p2 = (1 : Int32)
    · have pre26 : ∀ t, Steps p.tables e below (s₁.setTop (mkF m 54 #[.val (.int p0), .val (.int p1), .val (.int p2)] [(.int (1 : Int32))])) t → Steps p.tables e below (s₁.setTop (entryFrame m #[(.int p0), (.int p1), (.int p2)] 3)) t := fun t k => pre24 t (by
        show Steps p.tables e below (s₁.setTop (mkF m 50 #[.val (.int p0), .val (.int p1), .val (.int p2)] [(.int (1 : Int32)), (.int p2)])) _
        refine XS.icmpNo X0.here hx rfl (hb hby d3_50) rfl (teq hc50_25).2 ?_
        show Steps p.tables e below (s₁.setTop (mkF m 53 #[.val (.int p0), .val (.int p1), .val (.int p2)] [])) _
        refine XS.iconst X0.here hx rfl (hb hby d3_53) ?_
        exact k)
      obtain ⟨fs, hr, hrun, hended, hW, hsame⟩ := X0.leave (v := some (.int (1 : Int32))) (fun h => by rw [Bd.returns] at h; cases h)
      have hF : (F3 p0 p1 p2) = (1 : Int32) := by unfold F3; rw [if_neg hc2_2, if_neg hc15_8, if_pos hc39_20, if_neg hc43_22, if_pos hc50_25]
      exact ⟨_, _, pre26 _ (retI X0 hx Bd.returns (hb hby d3_54) hr), hrun, hended, _, _, rfl, ⟨by rw [hF], N0, e0⟩, ⟨_, rfl⟩, hW, hsame.mono (by decide) (by decide)⟩
    have pre27 : ∀ t, Steps p.tables e below (s₁.setTop (mkF m 56 #[.val (.int p0), .val (.int p1), .val (.int p2)] [(.int (2 : Int32))])) t → Steps p.tables e below (s₁.setTop (entryFrame m #[(.int p0), (.int p1), (.int p2)] 3)) t := fun t k => pre24 t (by
      show Steps p.tables e below (s₁.setTop (mkF m 50 #[.val (.int p0), .val (.int p1), .val (.int p2)] [(.int (1 : Int32)), (.int p2)])) _
      refine XS.icmpYes X0.here hx rfl (pc0 := 50) (pc' := 55) rfl (hb hby d3_50) rfl (feq hc50_25).2 (by decide) (by decide) ?_
      show Steps p.tables e below (s₁.setTop (mkF m 55 #[.val (.int p0), .val (.int p1), .val (.int p2)] [])) _
      refine XS.iconst X0.here hx rfl (hb hby d3_55) ?_
      exact k)
    obtain ⟨fs, hr, hrun, hended, hW, hsame⟩ := X0.leave (v := some (.int (2 : Int32))) (fun h => by rw [Bd.returns] at h; cases h)
    have hF : (F3 p0 p1 p2) = (2 : Int32) := by unfold F3; rw [if_neg hc2_2, if_neg hc15_8, if_pos hc39_20, if_neg hc43_22, if_neg hc50_25]
    exact ⟨_, _, pre27 _ (retI X0 hx Bd.returns (hb hby d3_56) hr), hrun, hended, _, _, rfl, ⟨by rw [hF], N0, e0⟩, ⟨_, rfl⟩, hW, hsame.mono (by decide) (by decide)⟩
  have pre28 : ∀ t, Steps p.tables e below (s₁.setTop (mkF m 58 #[.val (.int p0), .val (.int p1), .val (.int p2)] [(.int p2)])) t → Steps p.tables e below (s₁.setTop (entryFrame m #[(.int p0), (.int p1), (.int p2)] 3)) t := fun t k => pre19 t (by
    show Steps p.tables e below (s₁.setTop (mkF m 39 #[.val (.int p0), .val (.int p1), .val (.int p2)] [(.int p1)])) _
    refine XS.ifYes X0.here hx rfl (pc0 := 39) (pc' := 57) rfl (hb hby d3_39) rfl ((if0 _ _).trans (feq hc39_20).2) (by decide) (by decide) ?_
    show Steps p.tables e below (s₁.setTop (mkF m 57 #[.val (.int p0), .val (.int p1), .val (.int p2)] [])) _
    refine XS.iloadN X0.here hx rfl (hb hby d3_57) rfl ?_
    exact k)
  by_cases hc58_29 : p2 = (0 : Int32)
  · have pre30 : ∀ t, Steps p.tables e below (s₁.setTop (mkF m 62 #[.val (.int p0), .val (.int p1), .val (.int p2)] [(.int (3 : Int32))])) t → Steps p.tables e below (s₁.setTop (entryFrame m #[(.int p0), (.int p1), (.int p2)] 3)) t := fun t k => pre28 t (by
      show Steps p.tables e below (s₁.setTop (mkF m 58 #[.val (.int p0), .val (.int p1), .val (.int p2)] [(.int p2)])) _
      refine XS.ifNo X0.here hx rfl (hb hby d3_58) rfl ((if0 _ _).trans (teq hc58_29).2) ?_
      show Steps p.tables e below (s₁.setTop (mkF m 61 #[.val (.int p0), .val (.int p1), .val (.int p2)] [])) _
      refine XS.iconst X0.here hx rfl (hb hby d3_61) ?_
      exact k)
    obtain ⟨fs, hr, hrun, hended, hW, hsame⟩ := X0.leave (v := some (.int (3 : Int32))) (fun h => by rw [Bd.returns] at h; cases h)
    have hF : (F3 p0 p1 p2) = (3 : Int32) := by unfold F3; rw [if_neg hc2_2, if_neg hc15_8, if_neg hc39_20, if_pos hc58_29]
    exact ⟨_, _, pre30 _ (retI X0 hx Bd.returns (hb hby d3_62) hr), hrun, hended, _, _, rfl, ⟨by rw [hF], N0, e0⟩, ⟨_, rfl⟩, hW, hsame.mono (by decide) (by decide)⟩
  have pre31 : ∀ t, Steps p.tables e below (s₁.setTop (mkF m 65 #[.val (.int p0), .val (.int p1), .val (.int p2)] [(.int (1 : Int32)), (.int p2)])) t → Steps p.tables e below (s₁.setTop (entryFrame m #[(.int p0), (.int p1), (.int p2)] 3)) t := fun t k => pre28 t (by
    show Steps p.tables e below (s₁.setTop (mkF m 58 #[.val (.int p0), .val (.int p1), .val (.int p2)] [(.int p2)])) _
    refine XS.ifYes X0.here hx rfl (pc0 := 58) (pc' := 63) rfl (hb hby d3_58) rfl ((if0 _ _).trans (feq hc58_29).2) (by decide) (by decide) ?_
    show Steps p.tables e below (s₁.setTop (mkF m 63 #[.val (.int p0), .val (.int p1), .val (.int p2)] [])) _
    refine XS.iloadN X0.here hx rfl (hb hby d3_63) rfl ?_
    show Steps p.tables e below (s₁.setTop (mkF m 64 #[.val (.int p0), .val (.int p1), .val (.int p2)] [(.int p2)])) _
    refine XS.iconst X0.here hx rfl (hb hby d3_64) ?_
    exact k)
  by_cases hc65_32 : p2 = (1 : Int32)
  · have pre33 : ∀ t, Steps p.tables e below (s₁.setTop (mkF m 69 #[.val (.int p0), .val (.int p1), .val (.int p2)] [(.int (4 : Int32))])) t → Steps p.tables e below (s₁.setTop (entryFrame m #[(.int p0), (.int p1), (.int p2)] 3)) t := fun t k => pre31 t (by
      show Steps p.tables e below (s₁.setTop (mkF m 65 #[.val (.int p0), .val (.int p1), .val (.int p2)] [(.int (1 : Int32)), (.int p2)])) _
      refine XS.icmpNo X0.here hx rfl (hb hby d3_65) rfl (teq hc65_32).2 ?_
      show Steps p.tables e below (s₁.setTop (mkF m 68 #[.val (.int p0), .val (.int p1), .val (.int p2)] [])) _
      refine XS.iconst X0.here hx rfl (hb hby d3_68) ?_
      exact k)
    obtain ⟨fs, hr, hrun, hended, hW, hsame⟩ := X0.leave (v := some (.int (4 : Int32))) (fun h => by rw [Bd.returns] at h; cases h)
    have hF : (F3 p0 p1 p2) = (4 : Int32) := by unfold F3; rw [if_neg hc2_2, if_neg hc15_8, if_neg hc39_20, if_neg hc58_29, if_pos hc65_32]
    exact ⟨_, _, pre33 _ (retI X0 hx Bd.returns (hb hby d3_69) hr), hrun, hended, _, _, rfl, ⟨by rw [hF], N0, e0⟩, ⟨_, rfl⟩, hW, hsame.mono (by decide) (by decide)⟩
  have pre34 : ∀ t, Steps p.tables e below (s₁.setTop (mkF m 71 #[.val (.int p0), .val (.int p1), .val (.int p2)] [(.int (5 : Int32))])) t → Steps p.tables e below (s₁.setTop (entryFrame m #[(.int p0), (.int p1), (.int p2)] 3)) t := fun t k => pre31 t (by
    show Steps p.tables e below (s₁.setTop (mkF m 65 #[.val (.int p0), .val (.int p1), .val (.int p2)] [(.int (1 : Int32)), (.int p2)])) _
    refine XS.icmpYes X0.here hx rfl (pc0 := 65) (pc' := 70) rfl (hb hby d3_65) rfl (feq hc65_32).2 (by decide) (by decide) ?_
    show Steps p.tables e below (s₁.setTop (mkF m 70 #[.val (.int p0), .val (.int p1), .val (.int p2)] [])) _
    refine XS.iconst X0.here hx rfl (hb hby d3_70) ?_
    exact k)
  obtain ⟨fs, hr, hrun, hended, hW, hsame⟩ := X0.leave (v := some (.int (5 : Int32))) (fun h => by rw [Bd.returns] at h; cases h)
  have hF : (F3 p0 p1 p2) = (5 : Int32) := by unfold F3; rw [if_neg hc2_2, if_neg hc15_8, if_neg hc39_20, if_neg hc58_29, if_neg hc65_32]
  exact ⟨_, _, pre34 _ (retI X0 hx Bd.returns (hb hby d3_71) hr), hrun, hended, _, _, rfl, ⟨by rw [hF], N0, e0⟩, ⟨_, rfl⟩, hW, hsame.mono (by decide) (by decide)⟩
def F4 (p1 : Int32) (p2 : Int32) (wa0_parityCount : Int32) (xs_wa0_priorities : List Int32) (z_wa0_priorities : Int32) : Int32 := ((xs_wa0_priorities : List Int32).getD (((p1 * wa0_parityCount) + p2)).toNatClampNeg 0)
theorem ef4 (m : MethodId) (x0 : Addr) (x1 : Int32) (x2 : Int32) : entryFrame m #[(.ref x0), (.int x1), (.int x2)] 3 = mkF m 0 #[.val (.ref x0), .val (.int x1), .val (.int x2)] [] := by first | (simp [entryFrame, mkF, argsToLocals, Value.category]; done) | rfl
def Q4 (Z : State) (a0 : Addr) (p1 : Int32) (p2 : Int32) (wa0_priorities : Addr) (wa0_parityCount : Int32) (xs_wa0_priorities : List Int32) (z_wa0_priorities : Int32) (k_wa0_priorities : ClassId) (h0 : Heap) (n0 : Nat) (v : Option Value) (h : Heap) (L : List Loc) : Prop := v = some (.int (F4 p1 p2 wa0_parityCount xs_wa0_priorities z_wa0_priorities)) ∧ Fr n0 L ∧ h = h0
set_option maxRecDepth 65536 in
set_option maxHeartbeats 40000000 in
theorem rm4 (l : Launch) (Z : State) (a0' : Array Value) (hw : ∀ d ∈ tables_1, d.before a0' Z = true) (ws : List Jvm.Cond) (a0 : Addr) (p1 : Int32) (p2 : Int32) (wa0_priorities : Addr) (wa0_parityCount : Int32) (xs_wa0_priorities : List Int32) (z_wa0_priorities : Int32) (k_wa0_priorities : ClassId) (h0 : Heap) (n0 : Nat) (Z0 : n0 ≤ h0.size) (V_wa0_priorities : Arv Z h0 wa0_priorities k_wa0_priorities .int z_wa0_priorities (xs_wa0_priorities.map Value.int) (.int 0)) (F_wa0_priorities : Fld Z h0 a0 "com/example/frugal_synth/frugalsynth/Arena" "priorities" "[I" (.ref wa0_priorities)) (F_wa0_parityCount : Fld Z h0 a0 "com/example/frugal_synth/frugalsynth/Arena" "parityCount" "I" (.int wa0_parityCount)) (hin_12 : ¬ ((p1 * wa0_parityCount) + p2) < 0 ∧ ((p1 * wa0_parityCount) + p2) < z_wa0_priorities) :
    MetFree l (⟨"com/example/frugal_synth/frugalsynth/Arena", "priority", "(II)I"⟩ : MethodName) (head1 (Jvm.Cond.code (⟨"com/example/frugal_synth/frugalsynth/Arena", "priority", "(II)I"⟩ : MethodName) prog_2_method_12_code 3 (some .int) :: ws) ({ frames := 0, cells := 0, slots := 0, locals := 0 } : Room)) (fun a U => a = #[(.ref a0), (.int p1), (.int p2)] ∧ Z.Warmed39 U.vm ∧ U.heap = h0) (fun _ _ _ _ _ => True) (fun _ U o U' => ∃ v L, o = .returned v ∧ Q4 Z a0 p1 p2 wa0_priorities wa0_parityCount xs_wa0_priorities z_wa0_priorities k_wa0_priorities h0 n0 v U'.heap L ∧ FrameEnd U o U' L ({ frames := 0, cells := 0, slots := 0, locals := 0 } : Room).cells ({ frames := 0, cells := 0, slots := 0, locals := 0 } : Room).slots) := by
  refine MetFree.of_bodySF (plainFor_of_name pn0) hisR ?_
  intro p e s m args below meth c s₁ Bd hml0 hP hK
  obtain ⟨rfl, hZ, hh⟩ := hP
  have hx := Bd.exec
  have hby := Bd.bytes
  have hml : c.maxLocals = 3 := hml0
  have hown : s.vm.findClass "com/example/frugal_synth/frugalsynth/Arena" = some m.cls := findClass_of_methodNamed Bd.named
  have hnm := (name_of_methodNamed Bd.named Bd.method).1
  have X0 : Stand p l e ({ frames := 0, cells := 0, slots := 0, locals := 0 } : Room) s m #[(.ref a0), (.int p1), (.int p2)] below meth c s₁ [] 0 0 := Stand.of_body Bd
  have e0 : s₁.heap = h0 := by rw [← hh, Bd.state]; rfl
  have N0 := Fr.nil n0
  have pre0 : ∀ t, Steps p.tables e below (s₁.setTop (mkF m 0 #[.val (.ref a0), .val (.int p1), .val (.int p2)] [])) t → Steps p.tables e below (s₁.setTop (entryFrame m #[(.ref a0), (.int p1), (.int p2)] 3)) t := fun t k => castTop (ef4 m a0 p1 p2) k
  obtain ⟨T1, X1, e1, st1⟩ := getF X0 hx hZ hown (host := "") (Or.inl (hw _ (List.mem_of_getElem? (i := 24) rfl))) Via.refl e0 F_wa0_priorities (g := (mkF m 1 #[.val (.ref a0), .val (.int p1), .val (.int p2)] [(.ref a0)])) rfl rfl (hb hby d4_1)
  obtain ⟨T2, X2, e2, st2⟩ := getF X1 hx hZ hown (host := "") (Or.inl (hw _ (List.mem_of_getElem? (i := 22) rfl))) Via.refl e1 F_wa0_parityCount (g := (mkF m 6 #[.val (.ref a0), .val (.int p1), .val (.int p2)] [(.ref a0), (.int p1), (.ref wa0_priorities)])) rfl rfl (hb hby d4_6)
  obtain ⟨cl3, Ar3, q3, S3, M3, H3, G3⟩ := V_wa0_priorities
  have hin3 : ¬ (((p1 * wa0_parityCount) + p2) < 0 ∨ cl3.slots.size ≤ (((p1 * wa0_parityCount) + p2)).toNatClampNeg) := inb_of S3 hin_12
  have hat3 : cl3.slots[(((p1 * wa0_parityCount) + p2)).toNatClampNeg]? = some (.int ((xs_wa0_priorities : List Int32).getD (((p1 * wa0_parityCount) + p2)).toNatClampNeg 0)) := H3.at hin3 (own_getDI xs_wa0_priorities _)
  have pre4 : ∀ t, Steps p.tables e below (T2.setTop (mkF m 13 #[.val (.ref a0), .val (.int p1), .val (.int p2)] [(.int ((xs_wa0_priorities : List Int32).getD (((p1 * wa0_parityCount) + p2)).toNatClampNeg 0))])) t → Steps p.tables e below (s₁.setTop (entryFrame m #[(.ref a0), (.int p1), (.int p2)] 3)) t := fun t k => pre0 t (by
    show Steps p.tables e below (s₁.setTop (mkF m 0 #[.val (.ref a0), .val (.int p1), .val (.int p2)] [])) _
    refine XS.aloadN X0.here hx rfl (hb hby d4_0) rfl rfl ?_
    show Steps p.tables e below (s₁.setTop (mkF m 1 #[.val (.ref a0), .val (.int p1), .val (.int p2)] [(.ref a0)])) _
    refine st1 _ ?_
    show Steps p.tables e below (T1.setTop (mkF m 4 #[.val (.ref a0), .val (.int p1), .val (.int p2)] [(.ref wa0_priorities)])) _
    refine XS.iloadN X1.here hx rfl (hb hby d4_4) rfl ?_
    show Steps p.tables e below (T1.setTop (mkF m 5 #[.val (.ref a0), .val (.int p1), .val (.int p2)] [(.int p1), (.ref wa0_priorities)])) _
    refine XS.aloadN X1.here hx rfl (hb hby d4_5) rfl rfl ?_
    show Steps p.tables e below (T1.setTop (mkF m 6 #[.val (.ref a0), .val (.int p1), .val (.int p2)] [(.ref a0), (.int p1), (.ref wa0_priorities)])) _
    refine st2 _ ?_
    show Steps p.tables e below (T2.setTop (mkF m 9 #[.val (.ref a0), .val (.int p1), .val (.int p2)] [(.int wa0_parityCount), (.int p1), (.ref wa0_priorities)])) _
    refine XS.imul X2.here hx rfl (hb hby d4_9) rfl ?_
    show Steps p.tables e below (T2.setTop (mkF m 10 #[.val (.ref a0), .val (.int p1), .val (.int p2)] [(.int (p1 * wa0_parityCount)), (.ref wa0_priorities)])) _
    refine XS.iloadN X2.here hx rfl (hb hby d4_10) rfl ?_
    show Steps p.tables e below (T2.setTop (mkF m 11 #[.val (.ref a0), .val (.int p1), .val (.int p2)] [(.int p2), (.int (p1 * wa0_parityCount)), (.ref wa0_priorities)])) _
    refine XS.iadd X2.here hx rfl (hb hby d4_11) rfl ?_
    show Steps p.tables e below (T2.setTop (mkF m 12 #[.val (.ref a0), .val (.int p1), .val (.int p2)] [(.int ((p1 * wa0_parityCount) + p2)), (.ref wa0_priorities)])) _
    refine X2.iaload hx (j := ((p1 * wa0_parityCount) + p2)) (v := (.int ((xs_wa0_priorities : List Int32).getD (((p1 * wa0_parityCount) + p2)).toNatClampNeg 0))) (by rw [e2]; exact Ar3.1) (State.isArrayOf_alike hZ.alike Ar3.2.1) Ar3.2.2 hin3 hat3 (g := (mkF m 12 #[.val (.ref a0), .val (.int p1), .val (.int p2)] [(.int ((p1 * wa0_parityCount) + p2)), (.ref wa0_priorities)])) rfl rfl (hb hby d4_12) _ ?_
    exact k)
  obtain ⟨fs, hr, hrun, hended, hW, hsame⟩ := X2.leave (v := some (.int ((xs_wa0_priorities : List Int32).getD (((p1 * wa0_parityCount) + p2)).toNatClampNeg 0))) (fun h => by rw [Bd.returns] at h; cases h)
  have hF : (F4 p1 p2 wa0_parityCount xs_wa0_priorities z_wa0_priorities) = ((xs_wa0_priorities : List Int32).getD (((p1 * wa0_parityCount) + p2)).toNatClampNeg 0) := by rfl
  exact ⟨_, _, pre4 _ (retI X2 hx Bd.returns (hb hby d4_13) hr), hrun, hended, _, _, rfl, ⟨by rw [hF], N0, e2⟩, ⟨_, rfl⟩, hW, hsame.mono (by decide) (by decide)⟩
def F0 (p0 : Int32) (p1 : Int32) (p2 : Int32) (p3 : Int32) : Int32 := (if (F4 (p1 &&& (1 : Int32)) ((p2 &&& (2147483647 : Int32)) % (((p0 &&& (2147483647 : Int32)) % (3 : Int32)) + (1 : Int32))) (((p0 &&& (2147483647 : Int32)) % (3 : Int32)) + (1 : Int32)) [p3, (p3 + (1 : Int32)), (p3 + (2 : Int32)), (p3 + (3 : Int32)), (p3 + (4 : Int32)), (p3 + (5 : Int32))] (6 : Int32)) = (p3 + (F3 (((p0 &&& (2147483647 : Int32)) % (3 : Int32)) + (1 : Int32)) (p1 &&& (1 : Int32)) ((p2 &&& (2147483647 : Int32)) % (((p0 &&& (2147483647 : Int32)) % (3 : Int32)) + (1 : Int32))))) then (1 : Int32) else (0 : Int32))
theorem own_pc (p0 : Int32) : (((p0 &&& (2147483647 : Int32)) % (3 : Int32)) + (1 : Int32)) = 1 ∨ (((p0 &&& (2147483647 : Int32)) % (3 : Int32)) + (1 : Int32)) = 2 ∨ (((p0 &&& (2147483647 : Int32)) % (3 : Int32)) + (1 : Int32)) = 3 := by
  have em0 : (p0 &&& (2147483647 : Int32)).toInt = p0.toInt % (2 ^ 31 : Nat) := c_mask p0 2147483647 31 (by decide) (by decide)
  have er := (c_irem (p0 &&& (2147483647 : Int32)) 3 3 (by decide)).1 (by omega)
  generalize (p0 &&& (2147483647 : Int32)) % (3 : Int32) = r at *
  have q : r.toInt = 0 ∨ r.toInt = 1 ∨ r.toInt = 2 := by omega
  rcases q with q | q | q
  · rw [show r = 0 from Int32.toInt_inj.mp q]; decide
  · rw [show r = 1 from Int32.toInt_inj.mp q]; decide
  · rw [show r = 2 from Int32.toInt_inj.mp q]; decide
theorem own_c (p1 : Int32) : (p1 &&& (1 : Int32)) = 0 ∨ (p1 &&& (1 : Int32)) = 1 := by
  have r : (p1 &&& (1 : Int32)).toInt = p1.toInt % (2 ^ 1 : Nat) := c_mask p1 1 1 (by decide) (by decide)
  have q : (p1 &&& (1 : Int32)).toInt = 0 ∨ (p1 &&& (1 : Int32)).toInt = 1 := by omega
  rcases q with q | q
  · exact Or.inl (Int32.toInt_inj.mp q)
  · exact Or.inr (Int32.toInt_inj.mp q)
theorem own_k1 (p2 : Int32) : ((p2 &&& (2147483647 : Int32)) % (1 : Int32)) = 0 := by
  have em0 : (p2 &&& (2147483647 : Int32)).toInt = p2.toInt % (2 ^ 31 : Nat) := c_mask p2 2147483647 31 (by decide) (by decide)
  have er := (c_irem (p2 &&& (2147483647 : Int32)) 1 1 (by decide)).1 (by omega)
  exact Int32.toInt_inj.mp (by rw [er]; have : (0 : Int32).toInt = 0 := rfl; omega)
theorem own_k2 (p2 : Int32) : ((p2 &&& (2147483647 : Int32)) % (2 : Int32)) = 0 ∨ ((p2 &&& (2147483647 : Int32)) % (2 : Int32)) = 1 := by
  have em0 : (p2 &&& (2147483647 : Int32)).toInt = p2.toInt % (2 ^ 31 : Nat) := c_mask p2 2147483647 31 (by decide) (by decide)
  have er := (c_irem (p2 &&& (2147483647 : Int32)) 2 2 (by decide)).1 (by omega)
  generalize (p2 &&& (2147483647 : Int32)) % (2 : Int32) = r at *
  have q : r.toInt = 0 ∨ r.toInt = 1 := by omega
  rcases q with q | q
  · exact Or.inl (Int32.toInt_inj.mp q)
  · exact Or.inr (Int32.toInt_inj.mp q)
theorem own_k3 (p2 : Int32) : ((p2 &&& (2147483647 : Int32)) % (3 : Int32)) = 0 ∨ ((p2 &&& (2147483647 : Int32)) % (3 : Int32)) = 1 ∨ ((p2 &&& (2147483647 : Int32)) % (3 : Int32)) = 2 := by
  have em0 : (p2 &&& (2147483647 : Int32)).toInt = p2.toInt % (2 ^ 31 : Nat) := c_mask p2 2147483647 31 (by decide) (by decide)
  have er := (c_irem (p2 &&& (2147483647 : Int32)) 3 3 (by decide)).1 (by omega)
  generalize (p2 &&& (2147483647 : Int32)) % (3 : Int32) = r at *
  have q : r.toInt = 0 ∨ r.toInt = 1 ∨ r.toInt = 2 := by omega
  rcases q with q | q | q
  · exact Or.inl (Int32.toInt_inj.mp q)
  · exact Or.inr (Or.inl (Int32.toInt_inj.mp q))
  · exact Or.inr (Or.inr (Int32.toInt_inj.mp q))
theorem own_nz (p0 : Int32) : (((p0 &&& (2147483647 : Int32)) % (3 : Int32)) + (1 : Int32)) ≠ 0 := by
  rcases own_pc p0 with h | h | h <;> rw [h] <;> decide
/-- the three numbers: parity count, choice, condition -/
theorem own_all (p0 p1 p2 : Int32) {P : Int32 → Int32 → Int32 → Prop} (h : P 1 0 0 ∧ P 1 1 0 ∧ P 2 0 0 ∧ P 2 0 1 ∧ P 2 1 0 ∧ P 2 1 1 ∧ P 3 0 0 ∧ P 3 0 1 ∧ P 3 0 2 ∧ P 3 1 0 ∧ P 3 1 1 ∧ P 3 1 2) :
    P (((p0 &&& (2147483647 : Int32)) % (3 : Int32)) + (1 : Int32)) (p1 &&& (1 : Int32)) ((p2 &&& (2147483647 : Int32)) % (((p0 &&& (2147483647 : Int32)) % (3 : Int32)) + (1 : Int32))) := by
  obtain ⟨a1, a2, a3, a4, a5, a6, a7, a8, a9, a10, a11, a12⟩ := h
  rcases own_pc p0 with h | h | h <;> rw [h]
  · rw [own_k1]; rcases own_c p1 with c | c <;> rw [c] <;> assumption
  · rcases own_k2 p2 with k | k <;> rw [k] <;> rcases own_c p1 with c | c <;> rw [c] <;> assumption
  · rcases own_k3 p2 with k | k | k <;> rw [k] <;> rcases own_c p1 with c | c <;> rw [c] <;> assumption
theorem own_i0 (p0 p1 p2 : Int32) : ¬ (((p1 &&& (1 : Int32)) * (((p0 &&& (2147483647 : Int32)) % (3 : Int32)) + (1 : Int32))) + ((p2 &&& (2147483647 : Int32)) % (((p0 &&& (2147483647 : Int32)) % (3 : Int32)) + (1 : Int32)))) < 0 ∧ (((p1 &&& (1 : Int32)) * (((p0 &&& (2147483647 : Int32)) % (3 : Int32)) + (1 : Int32))) + ((p2 &&& (2147483647 : Int32)) % (((p0 &&& (2147483647 : Int32)) % (3 : Int32)) + (1 : Int32)))) < (6 : Int32) :=
  own_all p0 p1 p2 (P := fun n c k => ¬ (c * n + k) < 0 ∧ (c * n + k) < (6 : Int32)) (by decide)
theorem ef0 (m : MethodId) (x0 : Int32) (x1 : Int32) (x2 : Int32) (x3 : Int32) : entryFrame m #[(.int x0), (.int x1), (.int x2), (.int x3)] maxLocals = mkF m 0 #[.val (.int x0), .val (.int x1), .val (.int x2), .val (.int x3), .unset, .unset, .unset, .unset, .unset, .unset, .unset, .unset, .unset, .unset] [] := by first | (simp [entryFrame, mkF, argsToLocals, Value.category, maxLocals]; done) | rfl
def Q0 (Z : State) (p0 : Int32) (p1 : Int32) (p2 : Int32) (p3 : Int32) (h0 : Heap) (n0 : Nat) (v : Option Value) (h : Heap) (L : List Loc) : Prop := v = some (.int (F0 p0 p1 p2 p3)) ∧ Fr n0 L
set_option maxRecDepth 65536 in
set_option maxHeartbeats 40000000 in
theorem rm0 (l : Launch) (Z : State) (a0' : Array Value) (hw : ∀ d ∈ tables_1, d.before a0' Z = true) (ws : List Jvm.Cond) (p0 : Int32) (p1 : Int32) (p2 : Int32) (p3 : Int32) (h0 : Heap) (n0 : Nat) (Z0 : n0 ≤ h0.size) :
    MetFree l x (head1 (Jvm.Cond.code x code maxLocals ret :: ws) room_1) (fun a U => a = #[(.int p0), (.int p1), (.int p2), (.int p3)] ∧ Z.Warmed39 U.vm ∧ U.heap = h0) (fun _ _ _ _ _ => True) (fun _ U o U' => ∃ v L, o = .returned v ∧ Q0 Z p0 p1 p2 p3 h0 n0 v U'.heap L ∧ FrameEnd U o U' L 6 22) := by
  refine MetFree.of_bodySF (plainFor_of_name pn1) hisR ?_
  intro p e s m args below meth c s₁ Bd hml0 hP hK
  obtain ⟨rfl, hZ, hh⟩ := hP
  have hx := Bd.exec
  have hby := Bd.bytes
  have hml : c.maxLocals = 14 := hml0
  have hown : s.vm.findClass "com/example/frugal_synth/frugalsynth/ArenaPriorityPinLaw" = some m.cls := findClass_of_methodNamed Bd.named
  have hnm := (name_of_methodNamed Bd.named Bd.method).1
  have X0 : Stand p l e room_1 s m #[(.int p0), (.int p1), (.int p2), (.int p3)] below meth c s₁ [] 0 0 := Stand.of_body Bd
  have e0 : s₁.heap = h0 := by rw [← hh, Bd.state]; rfl
  have N0 := Fr.nil n0
  have pre0 : ∀ t, Steps p.tables e below (s₁.setTop (mkF m 0 #[.val (.int p0), .val (.int p1), .val (.int p2), .val (.int p3), .unset, .unset, .unset, .unset, .unset, .unset, .unset, .unset, .unset, .unset] [])) t → Steps p.tables e below (s₁.setTop (entryFrame m #[(.int p0), (.int p1), (.int p2), (.int p3)] maxLocals)) t := fun t k => castTop (ef0 m p0 p1 p2 p3) k
  obtain ⟨T1, h1, k1, X1, e1, E1, A1, st1⟩ := newP X0 hx hZ (hw _ (List.mem_of_getElem? (i := 1) rfl)) e0 (g := (mkF m 26 #[.val (.int p0), .val (.int p1), .val (.int p2), .val (.int p3), .val (.int (((p0 &&& (2147483647 : Int32)) % (3 : Int32)) + (1 : Int32))), .val (.int (p1 &&& (1 : Int32))), .val (.int ((p2 &&& (2147483647 : Int32)) % (((p0 &&& (2147483647 : Int32)) % (3 : Int32)) + (1 : Int32)))), .unset, .unset, .unset, .unset, .unset, .unset, .unset] [(.int (6 : Int32))])) rfl (hb hby at_26) rfl (by decide) (cap := 6) (by decide) (by decide) (by decide) (by decide)
  obtain ⟨b1, g1⟩ : ∃ z, z = h0.size := ⟨_, rfl⟩
  rw [← g1] at A1 st1
  have g_b1 : n0 ≤ b1 := Nat.le_trans Z0 (Nat.le_of_eq g1.symm)
  have Z1 : n0 ≤ h1.size := Nat.le_trans Z0 E1.1
  have V1 : Arv Z h1 b1 k1 .int (6 : Int32) [(.int (0 : Int32)), (.int (0 : Int32)), (.int (0 : Int32)), (.int (0 : Int32)), (.int (0 : Int32)), (.int (0 : Int32))] (.int (0 : Int32)) := (Arv.new A1 (by decide)).pad (pad_rep [] (.int (0 : Int32)) 6)
  obtain ⟨cl2, Ar2, q2, S2, M2, H2, G2⟩ := V1
  have hin2 : ¬ ((0 : Int32) < 0 ∨ cl2.slots.size ≤ ((0 : Int32)).toNatClampNeg) := inb_of S2 ⟨by decide, by decide⟩
  obtain ⟨T3, h3, X3, e3, W3, st3⟩ := stI X1 hx hZ e1 Ar2 (j := (0 : Int32)) hin2 (g := (mkF m 34 #[.val (.int p0), .val (.int p1), .val (.int p2), .val (.int p3), .val (.int (((p0 &&& (2147483647 : Int32)) % (3 : Int32)) + (1 : Int32))), .val (.int (p1 &&& (1 : Int32))), .val (.int ((p2 &&& (2147483647 : Int32)) % (((p0 &&& (2147483647 : Int32)) % (3 : Int32)) + (1 : Int32)))), .val (.ref b1), .unset, .unset, .unset, .unset, .unset, .unset] [(.int p3), (.int (0 : Int32)), (.ref b1)])) rfl rfl (hb hby at_34)
  have Z3 : n0 ≤ h3.size := Nat.le_trans Z1 (Keep.of_wr W3).1
  have N3 := Fr.snoc X3 N0 g_b1
  have V3 : Arv Z h3 b1 k1 .int (6 : Int32) [(.int p3), (.int (0 : Int32)), (.int (0 : Int32)), (.int (0 : Int32)), (.int (0 : Int32)), (.int (0 : Int32))] (.int (0 : Int32)) := Arv.set Ar2 q2 S2 M2 H2 G2 rfl W3 0 rfl (Nat.le_of_ble_eq_true rfl)
  obtain ⟨cl4, Ar4, q4, S4, M4, H4, G4⟩ := V3
  have hin4 : ¬ ((1 : Int32) < 0 ∨ cl4.slots.size ≤ ((1 : Int32)).toNatClampNeg) := inb_of S4 ⟨by decide, by decide⟩
  obtain ⟨T5, h5, X5, e5, W5, st5⟩ := stI X3 hx hZ e3 Ar4 (j := (1 : Int32)) hin4 (g := (mkF m 41 #[.val (.int p0), .val (.int p1), .val (.int p2), .val (.int p3), .val (.int (((p0 &&& (2147483647 : Int32)) % (3 : Int32)) + (1 : Int32))), .val (.int (p1 &&& (1 : Int32))), .val (.int ((p2 &&& (2147483647 : Int32)) % (((p0 &&& (2147483647 : Int32)) % (3 : Int32)) + (1 : Int32)))), .val (.ref b1), .unset, .unset, .unset, .unset, .unset, .unset] [(.int (p3 + (1 : Int32))), (.int (1 : Int32)), (.ref b1)])) rfl rfl (hb hby at_41)
  have Z5 : n0 ≤ h5.size := Nat.le_trans Z3 (Keep.of_wr W5).1
  have N5 := Fr.snoc X5 N3 g_b1
  have V5 : Arv Z h5 b1 k1 .int (6 : Int32) [(.int p3), (.int (p3 + (1 : Int32))), (.int (0 : Int32)), (.int (0 : Int32)), (.int (0 : Int32)), (.int (0 : Int32))] (.int (0 : Int32)) := Arv.set Ar4 q4 S4 M4 H4 G4 rfl W5 1 rfl (Nat.le_of_ble_eq_true rfl)
  obtain ⟨cl6, Ar6, q6, S6, M6, H6, G6⟩ := V5
  have hin6 : ¬ ((2 : Int32) < 0 ∨ cl6.slots.size ≤ ((2 : Int32)).toNatClampNeg) := inb_of S6 ⟨by decide, by decide⟩
  obtain ⟨T7, h7, X7, e7, W7, st7⟩ := stI X5 hx hZ e5 Ar6 (j := (2 : Int32)) hin6 (g := (mkF m 48 #[.val (.int p0), .val (.int p1), .val (.int p2), .val (.int p3), .val (.int (((p0 &&& (2147483647 : Int32)) % (3 : Int32)) + (1 : Int32))), .val (.int (p1 &&& (1 : Int32))), .val (.int ((p2 &&& (2147483647 : Int32)) % (((p0 &&& (2147483647 : Int32)) % (3 : Int32)) + (1 : Int32)))), .val (.ref b1), .unset, .unset, .unset, .unset, .unset, .unset] [(.int (p3 + (2 : Int32))), (.int (2 : Int32)), (.ref b1)])) rfl rfl (hb hby at_48)
  have Z7 : n0 ≤ h7.size := Nat.le_trans Z5 (Keep.of_wr W7).1
  have N7 := Fr.snoc X7 N5 g_b1
  have V7 : Arv Z h7 b1 k1 .int (6 : Int32) [(.int p3), (.int (p3 + (1 : Int32))), (.int (p3 + (2 : Int32))), (.int (0 : Int32)), (.int (0 : Int32)), (.int (0 : Int32))] (.int (0 : Int32)) := Arv.set Ar6 q6 S6 M6 H6 G6 rfl W7 2 rfl (Nat.le_of_ble_eq_true rfl)
  obtain ⟨cl8, Ar8, q8, S8, M8, H8, G8⟩ := V7
  have hin8 : ¬ ((3 : Int32) < 0 ∨ cl8.slots.size ≤ ((3 : Int32)).toNatClampNeg) := inb_of S8 ⟨by decide, by decide⟩
  obtain ⟨T9, h9, X9, e9, W9, st9⟩ := stI X7 hx hZ e7 Ar8 (j := (3 : Int32)) hin8 (g := (mkF m 55 #[.val (.int p0), .val (.int p1), .val (.int p2), .val (.int p3), .val (.int (((p0 &&& (2147483647 : Int32)) % (3 : Int32)) + (1 : Int32))), .val (.int (p1 &&& (1 : Int32))), .val (.int ((p2 &&& (2147483647 : Int32)) % (((p0 &&& (2147483647 : Int32)) % (3 : Int32)) + (1 : Int32)))), .val (.ref b1), .unset, .unset, .unset, .unset, .unset, .unset] [(.int (p3 + (3 : Int32))), (.int (3 : Int32)), (.ref b1)])) rfl rfl (hb hby at_55)
  have Z9 : n0 ≤ h9.size := Nat.le_trans Z7 (Keep.of_wr W9).1
  have N9 := Fr.snoc X9 N7 g_b1
  have V9 : Arv Z h9 b1 k1 .int (6 : Int32) [(.int p3), (.int (p3 + (1 : Int32))), (.int (p3 + (2 : Int32))), (.int (p3 + (3 : Int32))), (.int (0 : Int32)), (.int (0 : Int32))] (.int (0 : Int32)) := Arv.set Ar8 q8 S8 M8 H8 G8 rfl W9 3 rfl (Nat.le_of_ble_eq_true rfl)
  obtain ⟨cl10, Ar10, q10, S10, M10, H10, G10⟩ := V9
  have hin10 : ¬ ((4 : Int32) < 0 ∨ cl10.slots.size ≤ ((4 : Int32)).toNatClampNeg) := inb_of S10 ⟨by decide, by decide⟩
  obtain ⟨T11, h11, X11, e11, W11, st11⟩ := stI X9 hx hZ e9 Ar10 (j := (4 : Int32)) hin10 (g := (mkF m 62 #[.val (.int p0), .val (.int p1), .val (.int p2), .val (.int p3), .val (.int (((p0 &&& (2147483647 : Int32)) % (3 : Int32)) + (1 : Int32))), .val (.int (p1 &&& (1 : Int32))), .val (.int ((p2 &&& (2147483647 : Int32)) % (((p0 &&& (2147483647 : Int32)) % (3 : Int32)) + (1 : Int32)))), .val (.ref b1), .unset, .unset, .unset, .unset, .unset, .unset] [(.int (p3 + (4 : Int32))), (.int (4 : Int32)), (.ref b1)])) rfl rfl (hb hby at_62)
  have Z11 : n0 ≤ h11.size := Nat.le_trans Z9 (Keep.of_wr W11).1
  have N11 := Fr.snoc X11 N9 g_b1
  have V11 : Arv Z h11 b1 k1 .int (6 : Int32) [(.int p3), (.int (p3 + (1 : Int32))), (.int (p3 + (2 : Int32))), (.int (p3 + (3 : Int32))), (.int (p3 + (4 : Int32))), (.int (0 : Int32))] (.int (0 : Int32)) := Arv.set Ar10 q10 S10 M10 H10 G10 rfl W11 4 rfl (Nat.le_of_ble_eq_true rfl)
  obtain ⟨cl12, Ar12, q12, S12, M12, H12, G12⟩ := V11
  have hin12 : ¬ ((5 : Int32) < 0 ∨ cl12.slots.size ≤ ((5 : Int32)).toNatClampNeg) := inb_of S12 ⟨by decide, by decide⟩
  obtain ⟨T13, h13, X13, e13, W13, st13⟩ := stI X11 hx hZ e11 Ar12 (j := (5 : Int32)) hin12 (g := (mkF m 69 #[.val (.int p0), .val (.int p1), .val (.int p2), .val (.int p3), .val (.int (((p0 &&& (2147483647 : Int32)) % (3 : Int32)) + (1 : Int32))), .val (.int (p1 &&& (1 : Int32))), .val (.int ((p2 &&& (2147483647 : Int32)) % (((p0 &&& (2147483647 : Int32)) % (3 : Int32)) + (1 : Int32)))), .val (.ref b1), .unset, .unset, .unset, .unset, .unset, .unset] [(.int (p3 + (5 : Int32))), (.int (5 : Int32)), (.ref b1)])) rfl rfl (hb hby at_69)
  have Z13 : n0 ≤ h13.size := Nat.le_trans Z11 (Keep.of_wr W13).1
  have N13 := Fr.snoc X13 N11 g_b1
  have V13 : Arv Z h13 b1 k1 .int (6 : Int32) [(.int p3), (.int (p3 + (1 : Int32))), (.int (p3 + (2 : Int32))), (.int (p3 + (3 : Int32))), (.int (p3 + (4 : Int32))), (.int (p3 + (5 : Int32)))] (.int (0 : Int32)) := Arv.set Ar12 q12 S12 M12 H12 G12 rfl W13 5 rfl (Nat.le_of_ble_eq_true rfl)
  obtain ⟨T14, h14, k14, X14, e14, E14, A14, st14⟩ := newP X13 hx hZ (hw _ (List.mem_of_getElem? (i := 1) rfl)) e13 (g := (mkF m 71 #[.val (.int p0), .val (.int p1), .val (.int p2), .val (.int p3), .val (.int (((p0 &&& (2147483647 : Int32)) % (3 : Int32)) + (1 : Int32))), .val (.int (p1 &&& (1 : Int32))), .val (.int ((p2 &&& (2147483647 : Int32)) % (((p0 &&& (2147483647 : Int32)) % (3 : Int32)) + (1 : Int32)))), .val (.ref b1), .unset, .unset, .unset, .unset, .unset, .unset] [(.int (2 : Int32))])) rfl (hb hby at_71) rfl (by decide) (cap := 2) (by decide) (by decide) (by decide) (by decide)
  obtain ⟨b14, g14⟩ : ∃ z, z = h13.size := ⟨_, rfl⟩
  rw [← g14] at A14 st14
  have ne_b1_b14 : b1 ≠ b14 := Nat.ne_of_lt (Nat.lt_of_lt_of_le V13.lt (Nat.le_of_eq g14.symm))
  have g_b14 : n0 ≤ b14 := Nat.le_trans Z13 (Nat.le_of_eq g14.symm)
  have Z14 : n0 ≤ h14.size := Nat.le_trans Z13 E14.1
  have V14 : Arv Z h14 b14 k14 .int (2 : Int32) [(.int (0 : Int32)), (.int (0 : Int32))] (.int (0 : Int32)) := (Arv.new A14 (by decide)).pad (pad_rep [] (.int (0 : Int32)) 2)
  obtain ⟨cl15, Ar15, q15, S15, M15, H15, G15⟩ := V14
  have hin15 : ¬ ((0 : Int32) < 0 ∨ cl15.slots.size ≤ ((0 : Int32)).toNatClampNeg) := inb_of S15 ⟨by decide, by decide⟩
  obtain ⟨T16, h16, X16, e16, W16, st16⟩ := stI X14 hx hZ e14 Ar15 (j := (0 : Int32)) hin15 (g := (mkF m 76 #[.val (.int p0), .val (.int p1), .val (.int p2), .val (.int p3), .val (.int (((p0 &&& (2147483647 : Int32)) % (3 : Int32)) + (1 : Int32))), .val (.int (p1 &&& (1 : Int32))), .val (.int ((p2 &&& (2147483647 : Int32)) % (((p0 &&& (2147483647 : Int32)) % (3 : Int32)) + (1 : Int32)))), .val (.ref b1), .unset, .unset, .unset, .unset, .unset, .unset] [(.int (0 : Int32)), (.int (0 : Int32)), (.ref b14), (.ref b14)])) rfl rfl (hb hby at_76)
  have Z16 : n0 ≤ h16.size := Nat.le_trans Z14 (Keep.of_wr W16).1
  have N16 := Fr.snoc X16 N13 g_b14
  have V16 : Arv Z h16 b14 k14 .int (2 : Int32) [(.int (0 : Int32)), (.int (0 : Int32))] (.int (0 : Int32)) := Arv.set Ar15 q15 S15 M15 H15 G15 rfl W16 0 rfl (Nat.le_of_ble_eq_true rfl)
  obtain ⟨cl17, Ar17, q17, S17, M17, H17, G17⟩ := V16
  have hin17 : ¬ ((1 : Int32) < 0 ∨ cl17.slots.size ≤ ((1 : Int32)).toNatClampNeg) := inb_of S17 ⟨by decide, by decide⟩
  obtain ⟨T18, h18, X18, e18, W18, st18⟩ := stI X16 hx hZ e16 Ar17 (j := (1 : Int32)) hin17 (g := (mkF m 80 #[.val (.int p0), .val (.int p1), .val (.int p2), .val (.int p3), .val (.int (((p0 &&& (2147483647 : Int32)) % (3 : Int32)) + (1 : Int32))), .val (.int (p1 &&& (1 : Int32))), .val (.int ((p2 &&& (2147483647 : Int32)) % (((p0 &&& (2147483647 : Int32)) % (3 : Int32)) + (1 : Int32)))), .val (.ref b1), .unset, .unset, .unset, .unset, .unset, .unset] [(.int (2 : Int32)), (.int (1 : Int32)), (.ref b14), (.ref b14)])) rfl rfl (hb hby at_80)
  have Z18 : n0 ≤ h18.size := Nat.le_trans Z16 (Keep.of_wr W18).1
  have N18 := Fr.snoc X18 N16 g_b14
  have V18 : Arv Z h18 b14 k14 .int (2 : Int32) [(.int (0 : Int32)), (.int (2 : Int32))] (.int (0 : Int32)) := Arv.set Ar17 q17 S17 M17 H17 G17 rfl W18 1 rfl (Nat.le_of_ble_eq_true rfl)
  obtain ⟨T19, h19, k19, X19, e19, E19, A19, st19⟩ := newP X18 hx hZ (hw _ (List.mem_of_getElem? (i := 1) rfl)) e18 (g := (mkF m 84 #[.val (.int p0), .val (.int p1), .val (.int p2), .val (.int p3), .val (.int (((p0 &&& (2147483647 : Int32)) % (3 : Int32)) + (1 : Int32))), .val (.int (p1 &&& (1 : Int32))), .val (.int ((p2 &&& (2147483647 : Int32)) % (((p0 &&& (2147483647 : Int32)) % (3 : Int32)) + (1 : Int32)))), .val (.ref b1), .val (.ref b14), .unset, .unset, .unset, .unset, .unset] [(.int (2 : Int32))])) rfl (hb hby at_84) rfl (by decide) (cap := 2) (by decide) (by decide) (by decide) (by decide)
  obtain ⟨b19, g19⟩ : ∃ z, z = h18.size := ⟨_, rfl⟩
  rw [← g19] at A19 st19
  have y20 := (((V13.ext E14).other W16 ne_b1_b14).other W18 ne_b1_b14)
  have ne_b1_b19 : b1 ≠ b19 := Nat.ne_of_lt (Nat.lt_of_lt_of_le y20.lt (Nat.le_of_eq g19.symm))
  have ne_b14_b19 : b14 ≠ b19 := Nat.ne_of_lt (Nat.lt_of_lt_of_le V18.lt (Nat.le_of_eq g19.symm))
  have g_b19 : n0 ≤ b19 := Nat.le_trans Z18 (Nat.le_of_eq g19.symm)
  have Z19 : n0 ≤ h19.size := Nat.le_trans Z18 E19.1
  have V19 : Arv Z h19 b19 k19 .int (2 : Int32) [(.int (0 : Int32)), (.int (0 : Int32))] (.int (0 : Int32)) := (Arv.new A19 (by decide)).pad (pad_rep [] (.int (0 : Int32)) 2)
  obtain ⟨cl21, Ar21, q21, S21, M21, H21, G21⟩ := V19
  have hin21 : ¬ ((0 : Int32) < 0 ∨ cl21.slots.size ≤ ((0 : Int32)).toNatClampNeg) := inb_of S21 ⟨by decide, by decide⟩
  obtain ⟨T22, h22, X22, e22, W22, st22⟩ := stI X19 hx hZ e19 Ar21 (j := (0 : Int32)) hin21 (g := (mkF m 89 #[.val (.int p0), .val (.int p1), .val (.int p2), .val (.int p3), .val (.int (((p0 &&& (2147483647 : Int32)) % (3 : Int32)) + (1 : Int32))), .val (.int (p1 &&& (1 : Int32))), .val (.int ((p2 &&& (2147483647 : Int32)) % (((p0 &&& (2147483647 : Int32)) % (3 : Int32)) + (1 : Int32)))), .val (.ref b1), .val (.ref b14), .unset, .unset, .unset, .unset, .unset] [(.int (0 : Int32)), (.int (0 : Int32)), (.ref b19), (.ref b19)])) rfl rfl (hb hby at_89)
  have Z22 : n0 ≤ h22.size := Nat.le_trans Z19 (Keep.of_wr W22).1
  have N22 := Fr.snoc X22 N18 g_b19
  have V22 : Arv Z h22 b19 k19 .int (2 : Int32) [(.int (0 : Int32)), (.int (0 : Int32))] (.int (0 : Int32)) := Arv.set Ar21 q21 S21 M21 H21 G21 rfl W22 0 rfl (Nat.le_of_ble_eq_true rfl)
  obtain ⟨cl23, Ar23, q23, S23, M23, H23, G23⟩ := V22
  have hin23 : ¬ ((1 : Int32) < 0 ∨ cl23.slots.size ≤ ((1 : Int32)).toNatClampNeg) := inb_of S23 ⟨by decide, by decide⟩
  obtain ⟨T24, h24, X24, e24, W24, st24⟩ := stI X22 hx hZ e22 Ar23 (j := (1 : Int32)) hin23 (g := (mkF m 93 #[.val (.int p0), .val (.int p1), .val (.int p2), .val (.int p3), .val (.int (((p0 &&& (2147483647 : Int32)) % (3 : Int32)) + (1 : Int32))), .val (.int (p1 &&& (1 : Int32))), .val (.int ((p2 &&& (2147483647 : Int32)) % (((p0 &&& (2147483647 : Int32)) % (3 : Int32)) + (1 : Int32)))), .val (.ref b1), .val (.ref b14), .unset, .unset, .unset, .unset, .unset] [(.int (0 : Int32)), (.int (1 : Int32)), (.ref b19), (.ref b19)])) rfl rfl (hb hby at_93)
  have Z24 : n0 ≤ h24.size := Nat.le_trans Z22 (Keep.of_wr W24).1
  have N24 := Fr.snoc X24 N22 g_b19
  have V24 : Arv Z h24 b19 k19 .int (2 : Int32) [(.int (0 : Int32)), (.int (0 : Int32))] (.int (0 : Int32)) := Arv.set Ar23 q23 S23 M23 H23 G23 rfl W24 1 rfl (Nat.le_of_ble_eq_true rfl)
  obtain ⟨T25, h25, k25, X25, e25, E25, A25, st25⟩ := newP X24 hx hZ (hw _ (List.mem_of_getElem? (i := 1) rfl)) e24 (g := (mkF m 97 #[.val (.int p0), .val (.int p1), .val (.int p2), .val (.int p3), .val (.int (((p0 &&& (2147483647 : Int32)) % (3 : Int32)) + (1 : Int32))), .val (.int (p1 &&& (1 : Int32))), .val (.int ((p2 &&& (2147483647 : Int32)) % (((p0 &&& (2147483647 : Int32)) % (3 : Int32)) + (1 : Int32)))), .val (.ref b1), .val (.ref b14), .val (.ref b19), .unset, .unset, .unset, .unset] [(.int (2 : Int32))])) rfl (hb hby at_97) rfl (by decide) (cap := 2) (by decide) (by decide) (by decide) (by decide)
  obtain ⟨b25, g25⟩ : ∃ z, z = h24.size := ⟨_, rfl⟩
  rw [← g25] at A25 st25
  have y26 := (((y20.ext E19).other W22 ne_b1_b19).other W24 ne_b1_b19)
  have ne_b1_b25 : b1 ≠ b25 := Nat.ne_of_lt (Nat.lt_of_lt_of_le y26.lt (Nat.le_of_eq g25.symm))
  have y27 := (((V18.ext E19).other W22 ne_b14_b19).other W24 ne_b14_b19)
  have ne_b14_b25 : b14 ≠ b25 := Nat.ne_of_lt (Nat.lt_of_lt_of_le y27.lt (Nat.le_of_eq g25.symm))
  have ne_b19_b25 : b19 ≠ b25 := Nat.ne_of_lt (Nat.lt_of_lt_of_le V24.lt (Nat.le_of_eq g25.symm))
  have g_b25 : n0 ≤ b25 := Nat.le_trans Z24 (Nat.le_of_eq g25.symm)
  have Z25 : n0 ≤ h25.size := Nat.le_trans Z24 E25.1
  have V25 : Arv Z h25 b25 k25 .int (2 : Int32) [(.int (0 : Int32)), (.int (0 : Int32))] (.int (0 : Int32)) := (Arv.new A25 (by decide)).pad (pad_rep [] (.int (0 : Int32)) 2)
  obtain ⟨cl28, Ar28, q28, S28, M28, H28, G28⟩ := V25
  have hin28 : ¬ ((0 : Int32) < 0 ∨ cl28.slots.size ≤ ((0 : Int32)).toNatClampNeg) := inb_of S28 ⟨by decide, by decide⟩
  obtain ⟨T29, h29, X29, e29, W29, st29⟩ := stI X25 hx hZ e25 Ar28 (j := (0 : Int32)) hin28 (g := (mkF m 102 #[.val (.int p0), .val (.int p1), .val (.int p2), .val (.int p3), .val (.int (((p0 &&& (2147483647 : Int32)) % (3 : Int32)) + (1 : Int32))), .val (.int (p1 &&& (1 : Int32))), .val (.int ((p2 &&& (2147483647 : Int32)) % (((p0 &&& (2147483647 : Int32)) % (3 : Int32)) + (1 : Int32)))), .val (.ref b1), .val (.ref b14), .val (.ref b19), .unset, .unset, .unset, .unset] [(.int (0 : Int32)), (.int (0 : Int32)), (.ref b25), (.ref b25)])) rfl rfl (hb hby at_102)
  have Z29 : n0 ≤ h29.size := Nat.le_trans Z25 (Keep.of_wr W29).1
  have N29 := Fr.snoc X29 N24 g_b25
  have V29 : Arv Z h29 b25 k25 .int (2 : Int32) [(.int (0 : Int32)), (.int (0 : Int32))] (.int (0 : Int32)) := Arv.set Ar28 q28 S28 M28 H28 G28 rfl W29 0 rfl (Nat.le_of_ble_eq_true rfl)
  obtain ⟨cl30, Ar30, q30, S30, M30, H30, G30⟩ := V29
  have hin30 : ¬ ((1 : Int32) < 0 ∨ cl30.slots.size ≤ ((1 : Int32)).toNatClampNeg) := inb_of S30 ⟨by decide, by decide⟩
  obtain ⟨T31, h31, X31, e31, W31, st31⟩ := stI X29 hx hZ e29 Ar30 (j := (1 : Int32)) hin30 (g := (mkF m 106 #[.val (.int p0), .val (.int p1), .val (.int p2), .val (.int p3), .val (.int (((p0 &&& (2147483647 : Int32)) % (3 : Int32)) + (1 : Int32))), .val (.int (p1 &&& (1 : Int32))), .val (.int ((p2 &&& (2147483647 : Int32)) % (((p0 &&& (2147483647 : Int32)) % (3 : Int32)) + (1 : Int32)))), .val (.ref b1), .val (.ref b14), .val (.ref b19), .unset, .unset, .unset, .unset] [(.int (0 : Int32)), (.int (1 : Int32)), (.ref b25), (.ref b25)])) rfl rfl (hb hby at_106)
  have Z31 : n0 ≤ h31.size := Nat.le_trans Z29 (Keep.of_wr W31).1
  have N31 := Fr.snoc X31 N29 g_b25
  have V31 : Arv Z h31 b25 k25 .int (2 : Int32) [(.int (0 : Int32)), (.int (0 : Int32))] (.int (0 : Int32)) := Arv.set Ar30 q30 S30 M30 H30 G30 rfl W31 1 rfl (Nat.le_of_ble_eq_true rfl)
  obtain ⟨T32, h32, k32, X32, e32, E32, A32, st32⟩ := newP X31 hx hZ (hw _ (List.mem_of_getElem? (i := 2) rfl)) e31 (g := (mkF m 110 #[.val (.int p0), .val (.int p1), .val (.int p2), .val (.int p3), .val (.int (((p0 &&& (2147483647 : Int32)) % (3 : Int32)) + (1 : Int32))), .val (.int (p1 &&& (1 : Int32))), .val (.int ((p2 &&& (2147483647 : Int32)) % (((p0 &&& (2147483647 : Int32)) % (3 : Int32)) + (1 : Int32)))), .val (.ref b1), .val (.ref b14), .val (.ref b19), .val (.ref b25), .unset, .unset, .unset] [(.int (2 : Int32))])) rfl (hb hby at_110) rfl (by decide) (cap := 2) (by decide) (by decide) (by decide) (by decide)
  obtain ⟨b32, g32⟩ : ∃ z, z = h31.size := ⟨_, rfl⟩
  rw [← g32] at A32 st32
  have y33 := (((y26.ext E25).other W29 ne_b1_b25).other W31 ne_b1_b25)
  have ne_b1_b32 : b1 ≠ b32 := Nat.ne_of_lt (Nat.lt_of_lt_of_le y33.lt (Nat.le_of_eq g32.symm))
  have y34 := (((y27.ext E25).other W29 ne_b14_b25).other W31 ne_b14_b25)
  have ne_b14_b32 : b14 ≠ b32 := Nat.ne_of_lt (Nat.lt_of_lt_of_le y34.lt (Nat.le_of_eq g32.symm))
  have y35 := (((V24.ext E25).other W29 ne_b19_b25).other W31 ne_b19_b25)
  have ne_b19_b32 : b19 ≠ b32 := Nat.ne_of_lt (Nat.lt_of_lt_of_le y35.lt (Nat.le_of_eq g32.symm))
  have ne_b25_b32 : b25 ≠ b32 := Nat.ne_of_lt (Nat.lt_of_lt_of_le V31.lt (Nat.le_of_eq g32.symm))
  have g_b32 : n0 ≤ b32 := Nat.le_trans Z31 (Nat.le_of_eq g32.symm)
  have Z32 : n0 ≤ h32.size := Nat.le_trans Z31 E32.1
  have V32 : Arv Z h32 b32 k32 .long (2 : Int32) [(.long (0 : Int64)), (.long (0 : Int64))] (.long (0 : Int64)) := (Arv.new A32 (by decide)).pad (pad_rep [] (.long (0 : Int64)) 2)
  obtain ⟨cl36, Ar36, q36, S36, M36, H36, G36⟩ := V32
  have hin36 : ¬ ((0 : Int32) < 0 ∨ cl36.slots.size ≤ ((0 : Int32)).toNatClampNeg) := inb_of S36 ⟨by decide, by decide⟩
  obtain ⟨T37, h37, X37, e37, W37, st37⟩ := stJ X32 hx hZ e32 Ar36 (j := (0 : Int32)) hin36 (g := (mkF m 115 #[.val (.int p0), .val (.int p1), .val (.int p2), .val (.int p3), .val (.int (((p0 &&& (2147483647 : Int32)) % (3 : Int32)) + (1 : Int32))), .val (.int (p1 &&& (1 : Int32))), .val (.int ((p2 &&& (2147483647 : Int32)) % (((p0 &&& (2147483647 : Int32)) % (3 : Int32)) + (1 : Int32)))), .val (.ref b1), .val (.ref b14), .val (.ref b19), .val (.ref b25), .unset, .unset, .unset] [(.long (0 : Int64)), (.int (0 : Int32)), (.ref b32), (.ref b32)])) rfl rfl (hb hby at_115)
  have Z37 : n0 ≤ h37.size := Nat.le_trans Z32 (Keep.of_wr W37).1
  have N37 := Fr.snoc X37 N31 g_b32
  have V37 : Arv Z h37 b32 k32 .long (2 : Int32) [(.long (0 : Int64)), (.long (0 : Int64))] (.long (0 : Int64)) := Arv.set Ar36 q36 S36 M36 H36 G36 rfl W37 0 rfl (Nat.le_of_ble_eq_true rfl)
  obtain ⟨cl38, Ar38, q38, S38, M38, H38, G38⟩ := V37
  have hin38 : ¬ ((1 : Int32) < 0 ∨ cl38.slots.size ≤ ((1 : Int32)).toNatClampNeg) := inb_of S38 ⟨by decide, by decide⟩
  obtain ⟨T39, h39, X39, e39, W39, st39⟩ := stJ X37 hx hZ e37 Ar38 (j := (1 : Int32)) hin38 (g := (mkF m 119 #[.val (.int p0), .val (.int p1), .val (.int p2), .val (.int p3), .val (.int (((p0 &&& (2147483647 : Int32)) % (3 : Int32)) + (1 : Int32))), .val (.int (p1 &&& (1 : Int32))), .val (.int ((p2 &&& (2147483647 : Int32)) % (((p0 &&& (2147483647 : Int32)) % (3 : Int32)) + (1 : Int32)))), .val (.ref b1), .val (.ref b14), .val (.ref b19), .val (.ref b25), .unset, .unset, .unset] [(.long (0 : Int64)), (.int (1 : Int32)), (.ref b32), (.ref b32)])) rfl rfl (hb hby at_119)
  have Z39 : n0 ≤ h39.size := Nat.le_trans Z37 (Keep.of_wr W39).1
  have N39 := Fr.snoc X39 N37 g_b32
  have V39 : Arv Z h39 b32 k32 .long (2 : Int32) [(.long (0 : Int64)), (.long (0 : Int64))] (.long (0 : Int64)) := Arv.set Ar38 q38 S38 M38 H38 G38 rfl W39 1 rfl (Nat.le_of_ble_eq_true rfl)
  obtain ⟨T40, h40, X40, e40, E40, A40, D40, -, st40⟩ := newO X39 hx hZ hown (hw _ (List.mem_of_getElem? (i := 3) rfl)) (hw _ (List.mem_of_getElem? (i := 4) rfl)) (hw _ (List.mem_of_getElem? (i := 5) rfl)) e39 (g := (mkF m 122 #[.val (.int p0), .val (.int p1), .val (.int p2), .val (.int p3), .val (.int (((p0 &&& (2147483647 : Int32)) % (3 : Int32)) + (1 : Int32))), .val (.int (p1 &&& (1 : Int32))), .val (.int ((p2 &&& (2147483647 : Int32)) % (((p0 &&& (2147483647 : Int32)) % (3 : Int32)) + (1 : Int32)))), .val (.ref b1), .val (.ref b14), .val (.ref b19), .val (.ref b25), .val (.ref b32), .unset, .unset] [])) rfl (hb hby at_122) (by decide) (by decide)
  obtain ⟨b40, g40⟩ : ∃ z, z = h39.size := ⟨_, rfl⟩
  rw [← g40] at A40 D40 st40
  have y41 := (((y33.ext E32).other W37 ne_b1_b32).other W39 ne_b1_b32)
  have ne_b1_b40 : b1 ≠ b40 := Nat.ne_of_lt (Nat.lt_of_lt_of_le y41.lt (Nat.le_of_eq g40.symm))
  have y42 := (((y34.ext E32).other W37 ne_b14_b32).other W39 ne_b14_b32)
  have ne_b14_b40 : b14 ≠ b40 := Nat.ne_of_lt (Nat.lt_of_lt_of_le y42.lt (Nat.le_of_eq g40.symm))
  have y43 := (((y35.ext E32).other W37 ne_b19_b32).other W39 ne_b19_b32)
  have ne_b19_b40 : b19 ≠ b40 := Nat.ne_of_lt (Nat.lt_of_lt_of_le y43.lt (Nat.le_of_eq g40.symm))
  have y44 := (((V31.ext E32).other W37 ne_b25_b32).other W39 ne_b25_b32)
  have ne_b25_b40 : b25 ≠ b40 := Nat.ne_of_lt (Nat.lt_of_lt_of_le y44.lt (Nat.le_of_eq g40.symm))
  have ne_b32_b40 : b32 ≠ b40 := Nat.ne_of_lt (Nat.lt_of_lt_of_le V39.lt (Nat.le_of_eq g40.symm))
  have g_b40 : n0 ≤ b40 := Nat.le_trans Z39 (Nat.le_of_eq g40.symm)
  have Z40 : n0 ≤ h40.size := Nat.le_trans Z39 E40.1
  have F40_assignmentCount : Fld Z h40 b40 "com/example/frugal_synth/frugalsynth/Arena" "assignmentCount" "I" (.int (0 : Int32)) := D40 (Or.inr (hw _ (List.mem_of_getElem? (i := 13) rfl))) (ty := .int) (by decide)
  have F40_firstChoice : Fld Z h40 b40 "com/example/frugal_synth/frugalsynth/Arena" "firstChoice" "[I" .null := D40 (Or.inr (hw _ (List.mem_of_getElem? (i := 15) rfl))) (ty := (.array .int)) (by decide)
  have F40_outputs : Fld Z h40 b40 "com/example/frugal_synth/frugalsynth/Arena" "outputs" "[I" .null := D40 (Or.inr (hw _ (List.mem_of_getElem? (i := 17) rfl))) (ty := (.array .int)) (by decide)
  have F40_targets : Fld Z h40 b40 "com/example/frugal_synth/frugalsynth/Arena" "targets" "[I" .null := D40 (Or.inr (hw _ (List.mem_of_getElem? (i := 19) rfl))) (ty := (.array .int)) (by decide)
  have F40_weights : Fld Z h40 b40 "com/example/frugal_synth/frugalsynth/Arena" "weights" "[J" .null := D40 (Or.inr (hw _ (List.mem_of_getElem? (i := 21) rfl))) (ty := (.array .long)) (by decide)
  have F40_parityCount : Fld Z h40 b40 "com/example/frugal_synth/frugalsynth/Arena" "parityCount" "I" (.int (0 : Int32)) := D40 (Or.inr (hw _ (List.mem_of_getElem? (i := 23) rfl))) (ty := .int) (by decide)
  have F40_priorities : Fld Z h40 b40 "com/example/frugal_synth/frugalsynth/Arena" "priorities" "[I" .null := D40 (Or.inr (hw _ (List.mem_of_getElem? (i := 25) rfl))) (ty := (.array .int)) (by decide)
  obtain ⟨_, _, ⟨T45, L45, k45, n45⟩, -, X45, ⟨Lc45, hQ45, l45, y45, z45⟩, st45⟩ := X40.specialBack hx (y := (⟨"com/example/frugal_synth/frugalsynth/Arena", "<init>", "(I[I[I[I[JI[I)V"⟩ : MethodName)) rfl hown (mvT hZ (hw _ (List.mem_of_getElem? (i := 6) rfl))) (mvT hZ (hw _ (List.mem_of_getElem? (i := 7) rfl))) (mvT hZ (hw _ (List.mem_of_getElem? (i := 8) rfl))) (by decide) (backOf (W := 1) (rm1 l Z a0' hw [] b40 (1 : Int32) b14 b19 b25 b32 (((p0 &&& (2147483647 : Int32)) % (3 : Int32)) + (1 : Int32)) b1 (0 : Int32) .null .null .null .null (0 : Int32) .null h40 n0 Z40 A40 F40_assignmentCount F40_firstChoice F40_outputs F40_targets F40_weights F40_parityCount F40_priorities g_b40) hZ (hw _ (List.mem_of_getElem? (i := 8) rfl)) (hw _ (List.mem_of_getElem? (i := 5) rfl)) (by decide) (by decide)) (g := (mkF m 139 #[.val (.int p0), .val (.int p1), .val (.int p2), .val (.int p3), .val (.int (((p0 &&& (2147483647 : Int32)) % (3 : Int32)) + (1 : Int32))), .val (.int (p1 &&& (1 : Int32))), .val (.int ((p2 &&& (2147483647 : Int32)) % (((p0 &&& (2147483647 : Int32)) % (3 : Int32)) + (1 : Int32)))), .val (.ref b1), .val (.ref b14), .val (.ref b19), .val (.ref b25), .val (.ref b32), .unset, .unset] [(.ref b1), (.int (((p0 &&& (2147483647 : Int32)) % (3 : Int32)) + (1 : Int32))), (.ref b32), (.ref b25), (.ref b19), (.ref b14), (.int (1 : Int32)), (.ref b40), (.ref b40)])) rfl (by rw [hml]; rfl) (Steps.refl _) (a := b40) (argsL := [(.int (1 : Int32)), (.ref b14), (.ref b19), (.ref b25), (.ref b32), (.int (((p0 &&& (2147483647 : Int32)) % (3 : Int32)) + (1 : Int32))), (.ref b1)]) (rest := [(.ref b40)]) (lenOf pd0 rfl) rfl (by show 2 * 0 + _ ≤ _; exact Nat.le_of_eq rfl) (hb hby at_139) (fun _ _ => ⟨rfl, e40, (by decide : 6 + 0 ≤ _), (by decide : 22 + 0 ≤ _)⟩)
  dsimp only [Pt.U, Pt.locs, Pt.cells, Pt.slots] at X45 l45 y45 z45 st45 hQ45
  subst l45 y45 z45
  obtain ⟨rfl, N45q, K45, u45_0, u45_1, u45_2, u45_3, u45_4, u45_5, u45_6, u45_7⟩ := hQ45
  have N45 := Fr.app N39 N45q
  have Z45 : n0 ≤ T45.heap.size := Nat.le_trans Z40 K45.1
  obtain ⟨_, _, ⟨T46, L46, k46, n46⟩, -, X46, ⟨Lc46, hQ46, l46, y46, z46⟩, st46⟩ := Jvm.LawKit.callS X45 hx (y := (⟨"com/example/frugal_synth/frugalsynth/ArenaPriorityPinLaw", "slot", "(III)I"⟩ : MethodName)) hown (mvT hZ (hw _ (List.mem_of_getElem? (i := 26) rfl))) (mvT hZ (hw _ (List.mem_of_getElem? (i := 27) rfl))) (mvT hZ (hw _ (List.mem_of_getElem? (i := 28) rfl))) (mvT hZ (hw _ (List.mem_of_getElem? (i := 29) rfl))) (by decide) (backOf (W := 1) (rm3 l Z a0' hw [] (((p0 &&& (2147483647 : Int32)) % (3 : Int32)) + (1 : Int32)) (p1 &&& (1 : Int32)) ((p2 &&& (2147483647 : Int32)) % (((p0 &&& (2147483647 : Int32)) % (3 : Int32)) + (1 : Int32))) T45.heap n0 Z45) hZ (hw _ (List.mem_of_getElem? (i := 29) rfl)) (hw _ (List.mem_of_getElem? (i := 28) rfl)) (by decide) (by decide)) (g := (mkF m 151 #[.val (.int p0), .val (.int p1), .val (.int p2), .val (.int p3), .val (.int (((p0 &&& (2147483647 : Int32)) % (3 : Int32)) + (1 : Int32))), .val (.int (p1 &&& (1 : Int32))), .val (.int ((p2 &&& (2147483647 : Int32)) % (((p0 &&& (2147483647 : Int32)) % (3 : Int32)) + (1 : Int32)))), .val (.ref b1), .val (.ref b14), .val (.ref b19), .val (.ref b25), .val (.ref b32), .val (.ref b40), .unset] [(.int ((p2 &&& (2147483647 : Int32)) % (((p0 &&& (2147483647 : Int32)) % (3 : Int32)) + (1 : Int32)))), (.int (p1 &&& (1 : Int32))), (.int (((p0 &&& (2147483647 : Int32)) % (3 : Int32)) + (1 : Int32))), (.int p3)])) rfl (by rw [hml]; rfl) (argsL := [(.int (((p0 &&& (2147483647 : Int32)) % (3 : Int32)) + (1 : Int32))), (.int (p1 &&& (1 : Int32))), (.int ((p2 &&& (2147483647 : Int32)) % (((p0 &&& (2147483647 : Int32)) % (3 : Int32)) + (1 : Int32))))]) (rest := [(.int p3)]) (lenOf pd1 rfl) rfl (by show 2 * 0 + _ ≤ _; exact Nat.le_of_eq rfl) (hb hby at_151) (fun _ _ => ⟨rfl, rfl, (by decide : 6 + 0 ≤ _), (by decide : 22 + 0 ≤ _)⟩)
  dsimp only [Pt.U, Pt.locs, Pt.cells, Pt.slots] at X46 l46 y46 z46 st46 hQ46
  subst l46 y46 z46
  obtain ⟨rfl, N46q, e46⟩ := hQ46
  have N46 := Fr.app N45 N46q
  have y48 := ((y41.ext E40).keep K45 (ninS ne_b1_b40 nin0))
  obtain ⟨cq47, kq47, q47a, q47b, q47c⟩ := isOf hZ e46 u45_0
  obtain ⟨_, _, ⟨T47, L47, k47, n47⟩, -, X47, ⟨Lc47, hQ47, l47, y47, z47⟩, st47⟩ := X46.virtualBack hx (y := (⟨"com/example/frugal_synth/frugalsynth/Arena", "priority", "(II)I"⟩ : MethodName)) (z := (⟨"com/example/frugal_synth/frugalsynth/Arena", "priority", "(II)I"⟩ : MethodName)) hown (mvT hZ (hw _ (List.mem_of_getElem? (i := 30) rfl))) (mvT hZ (hw _ (List.mem_of_getElem? (i := 31) rfl))) (notFace_of_selects (args := #[]) (mvT hZ (hw _ (List.mem_of_getElem? (i := 33) rfl)))) (mvT hZ (hw _ (List.mem_of_getElem? (i := 33) rfl))) (mvT hZ (hw _ (List.mem_of_getElem? (i := 32) rfl))) (by decide) (backOf (W := 0) (rm4 l Z a0' hw [] b40 (p1 &&& (1 : Int32)) ((p2 &&& (2147483647 : Int32)) % (((p0 &&& (2147483647 : Int32)) % (3 : Int32)) + (1 : Int32))) b1 (((p0 &&& (2147483647 : Int32)) % (3 : Int32)) + (1 : Int32)) [p3, (p3 + (1 : Int32)), (p3 + (2 : Int32)), (p3 + (3 : Int32)), (p3 + (4 : Int32)), (p3 + (5 : Int32))] (6 : Int32) k1 T45.heap n0 Z45 y48 u45_7 u45_6 (own_i0 p0 p1 p2)) hZ (hw _ (List.mem_of_getElem? (i := 34) rfl)) (hw _ (List.mem_of_getElem? (i := 5) rfl)) (by decide) (by decide)) q47a q47c (g := (mkF m 163 #[.val (.int p0), .val (.int p1), .val (.int p2), .val (.int p3), .val (.int (((p0 &&& (2147483647 : Int32)) % (3 : Int32)) + (1 : Int32))), .val (.int (p1 &&& (1 : Int32))), .val (.int ((p2 &&& (2147483647 : Int32)) % (((p0 &&& (2147483647 : Int32)) % (3 : Int32)) + (1 : Int32)))), .val (.ref b1), .val (.ref b14), .val (.ref b19), .val (.ref b25), .val (.ref b32), .val (.ref b40), .val (.int (p3 + (F3 (((p0 &&& (2147483647 : Int32)) % (3 : Int32)) + (1 : Int32)) (p1 &&& (1 : Int32)) ((p2 &&& (2147483647 : Int32)) % (((p0 &&& (2147483647 : Int32)) % (3 : Int32)) + (1 : Int32))))))] [(.int ((p2 &&& (2147483647 : Int32)) % (((p0 &&& (2147483647 : Int32)) % (3 : Int32)) + (1 : Int32)))), (.int (p1 &&& (1 : Int32))), (.ref b40)])) rfl (by rw [hml]; rfl) (Steps.refl _) (argsL := [(.int (p1 &&& (1 : Int32))), (.int ((p2 &&& (2147483647 : Int32)) % (((p0 &&& (2147483647 : Int32)) % (3 : Int32)) + (1 : Int32))))]) (rest := []) (lenOf pd2 rfl) rfl (by show 2 * 0 + _ ≤ _; exact Nat.le_of_eq rfl) (hb hby at_163) (fun _ _ => ⟨rfl, e46, (by decide : 6 + 0 ≤ _), (by decide : 22 + 0 ≤ _)⟩)
  dsimp only [Pt.U, Pt.locs, Pt.cells, Pt.slots] at X47 l47 y47 z47 st47 hQ47
  subst l47 y47 z47
  obtain ⟨rfl, N47q, e47⟩ := hQ47
  have N47 := Fr.app N46 N47q
  have pre49 : ∀ t, Steps p.tables e below (T47.setTop (mkF m 168 #[.val (.int p0), .val (.int p1), .val (.int p2), .val (.int p3), .val (.int (((p0 &&& (2147483647 : Int32)) % (3 : Int32)) + (1 : Int32))), .val (.int (p1 &&& (1 : Int32))), .val (.int ((p2 &&& (2147483647 : Int32)) % (((p0 &&& (2147483647 : Int32)) % (3 : Int32)) + (1 : Int32)))), .val (.ref b1), .val (.ref b14), .val (.ref b19), .val (.ref b25), .val (.ref b32), .val (.ref b40), .val (.int (p3 + (F3 (((p0 &&& (2147483647 : Int32)) % (3 : Int32)) + (1 : Int32)) (p1 &&& (1 : Int32)) ((p2 &&& (2147483647 : Int32)) % (((p0 &&& (2147483647 : Int32)) % (3 : Int32)) + (1 : Int32))))))] [(.int (p3 + (F3 (((p0 &&& (2147483647 : Int32)) % (3 : Int32)) + (1 : Int32)) (p1 &&& (1 : Int32)) ((p2 &&& (2147483647 : Int32)) % (((p0 &&& (2147483647 : Int32)) % (3 : Int32)) + (1 : Int32)))))), (.int (F4 (p1 &&& (1 : Int32)) ((p2 &&& (2147483647 : Int32)) % (((p0 &&& (2147483647 : Int32)) % (3 : Int32)) + (1 : Int32))) (((p0 &&& (2147483647 : Int32)) % (3 : Int32)) + (1 : Int32)) [p3, (p3 + (1 : Int32)), (p3 + (2 : Int32)), (p3 + (3 : Int32)), (p3 + (4 : Int32)), (p3 + (5 : Int32))] (6 : Int32)))])) t → Steps p.tables e below (s₁.setTop (entryFrame m #[(.int p0), (.int p1), (.int p2), (.int p3)] maxLocals)) t := fun t k => pre0 t (by
    show Steps p.tables e below (s₁.setTop (mkF m 0 #[.val (.int p0), .val (.int p1), .val (.int p2), .val (.int p3), .unset, .unset, .unset, .unset, .unset, .unset, .unset, .unset, .unset, .unset] [])) _
    refine XS.iloadN X0.here hx rfl (hb hby at_0) rfl ?_
    show Steps p.tables e below (s₁.setTop (mkF m 1 #[.val (.int p0), .val (.int p1), .val (.int p2), .val (.int p3), .unset, .unset, .unset, .unset, .unset, .unset, .unset, .unset, .unset, .unset] [(.int p0)])) _
    refine X0.ldcInt hx hown (mvT hZ (hw _ (List.mem_of_getElem? (i := 0) rfl))) (g := (mkF m 1 #[.val (.int p0), .val (.int p1), .val (.int p2), .val (.int p3), .unset, .unset, .unset, .unset, .unset, .unset, .unset, .unset, .unset, .unset] [(.int p0)])) rfl (hb hby at_1) _ ?_
    show Steps p.tables e below (s₁.setTop (mkF m 3 #[.val (.int p0), .val (.int p1), .val (.int p2), .val (.int p3), .unset, .unset, .unset, .unset, .unset, .unset, .unset, .unset, .unset, .unset] [(.int (2147483647 : Int32)), (.int p0)])) _
    refine XS.iand X0.here hx rfl (hb hby at_3) rfl ?_
    show Steps p.tables e below (s₁.setTop (mkF m 4 #[.val (.int p0), .val (.int p1), .val (.int p2), .val (.int p3), .unset, .unset, .unset, .unset, .unset, .unset, .unset, .unset, .unset, .unset] [(.int (p0 &&& (2147483647 : Int32)))])) _
    refine XS.iconst X0.here hx rfl (hb hby at_4) ?_
    show Steps p.tables e below (s₁.setTop (mkF m 5 #[.val (.int p0), .val (.int p1), .val (.int p2), .val (.int p3), .unset, .unset, .unset, .unset, .unset, .unset, .unset, .unset, .unset, .unset] [(.int (3 : Int32)), (.int (p0 &&& (2147483647 : Int32)))])) _
    refine Jvm.RoadKit.iremM X0 hx rfl (hb hby at_5) rfl (by decide) ?_
    show Steps p.tables e below (s₁.setTop (mkF m 6 #[.val (.int p0), .val (.int p1), .val (.int p2), .val (.int p3), .unset, .unset, .unset, .unset, .unset, .unset, .unset, .unset, .unset, .unset] [(.int ((p0 &&& (2147483647 : Int32)) % (3 : Int32)))])) _
    refine XS.iconst X0.here hx rfl (hb hby at_6) ?_
    show Steps p.tables e below (s₁.setTop (mkF m 7 #[.val (.int p0), .val (.int p1), .val (.int p2), .val (.int p3), .unset, .unset, .unset, .unset, .unset, .unset, .unset, .unset, .unset, .unset] [(.int (1 : Int32)), (.int ((p0 &&& (2147483647 : Int32)) % (3 : Int32)))])) _
    refine XS.iadd X0.here hx rfl (hb hby at_7) rfl ?_
    show Steps p.tables e below (s₁.setTop (mkF m 8 #[.val (.int p0), .val (.int p1), .val (.int p2), .val (.int p3), .unset, .unset, .unset, .unset, .unset, .unset, .unset, .unset, .unset, .unset] [(.int (((p0 &&& (2147483647 : Int32)) % (3 : Int32)) + (1 : Int32)))])) _
    refine XS.istore X0.here hx rfl (hb hby at_8) rfl (l' := #[.val (.int p0), .val (.int p1), .val (.int p2), .val (.int p3), .val (.int (((p0 &&& (2147483647 : Int32)) % (3 : Int32)) + (1 : Int32))), .unset, .unset, .unset, .unset, .unset, .unset, .unset, .unset, .unset]) rfl ?_
    show Steps p.tables e below (s₁.setTop (mkF m 10 #[.val (.int p0), .val (.int p1), .val (.int p2), .val (.int p3), .val (.int (((p0 &&& (2147483647 : Int32)) % (3 : Int32)) + (1 : Int32))), .unset, .unset, .unset, .unset, .unset, .unset, .unset, .unset, .unset] [])) _
    refine XS.iloadN X0.here hx rfl (hb hby at_10) rfl ?_
    show Steps p.tables e below (s₁.setTop (mkF m 11 #[.val (.int p0), .val (.int p1), .val (.int p2), .val (.int p3), .val (.int (((p0 &&& (2147483647 : Int32)) % (3 : Int32)) + (1 : Int32))), .unset, .unset, .unset, .unset, .unset, .unset, .unset, .unset, .unset] [(.int p1)])) _
    refine XS.iconst X0.here hx rfl (hb hby at_11) ?_
    show Steps p.tables e below (s₁.setTop (mkF m 12 #[.val (.int p0), .val (.int p1), .val (.int p2), .val (.int p3), .val (.int (((p0 &&& (2147483647 : Int32)) % (3 : Int32)) + (1 : Int32))), .unset, .unset, .unset, .unset, .unset, .unset, .unset, .unset, .unset] [(.int (1 : Int32)), (.int p1)])) _
    refine XS.iand X0.here hx rfl (hb hby at_12) rfl ?_
    show Steps p.tables e below (s₁.setTop (mkF m 13 #[.val (.int p0), .val (.int p1), .val (.int p2), .val (.int p3), .val (.int (((p0 &&& (2147483647 : Int32)) % (3 : Int32)) + (1 : Int32))), .unset, .unset, .unset, .unset, .unset, .unset, .unset, .unset, .unset] [(.int (p1 &&& (1 : Int32)))])) _
    refine XS.istore X0.here hx rfl (hb hby at_13) rfl (l' := #[.val (.int p0), .val (.int p1), .val (.int p2), .val (.int p3), .val (.int (((p0 &&& (2147483647 : Int32)) % (3 : Int32)) + (1 : Int32))), .val (.int (p1 &&& (1 : Int32))), .unset, .unset, .unset, .unset, .unset, .unset, .unset, .unset]) rfl ?_
    show Steps p.tables e below (s₁.setTop (mkF m 15 #[.val (.int p0), .val (.int p1), .val (.int p2), .val (.int p3), .val (.int (((p0 &&& (2147483647 : Int32)) % (3 : Int32)) + (1 : Int32))), .val (.int (p1 &&& (1 : Int32))), .unset, .unset, .unset, .unset, .unset, .unset, .unset, .unset] [])) _
    refine XS.iloadN X0.here hx rfl (hb hby at_15) rfl ?_
    show Steps p.tables e below (s₁.setTop (mkF m 16 #[.val (.int p0), .val (.int p1), .val (.int p2), .val (.int p3), .val (.int (((p0 &&& (2147483647 : Int32)) % (3 : Int32)) + (1 : Int32))), .val (.int (p1 &&& (1 : Int32))), .unset, .unset, .unset, .unset, .unset, .unset, .unset, .unset] [(.int p2)])) _
    refine X0.ldcInt hx hown (mvT hZ (hw _ (List.mem_of_getElem? (i := 0) rfl))) (g := (mkF m 16 #[.val (.int p0), .val (.int p1), .val (.int p2), .val (.int p3), .val (.int (((p0 &&& (2147483647 : Int32)) % (3 : Int32)) + (1 : Int32))), .val (.int (p1 &&& (1 : Int32))), .unset, .unset, .unset, .unset, .unset, .unset, .unset, .unset] [(.int p2)])) rfl (hb hby at_16) _ ?_
    show Steps p.tables e below (s₁.setTop (mkF m 18 #[.val (.int p0), .val (.int p1), .val (.int p2), .val (.int p3), .val (.int (((p0 &&& (2147483647 : Int32)) % (3 : Int32)) + (1 : Int32))), .val (.int (p1 &&& (1 : Int32))), .unset, .unset, .unset, .unset, .unset, .unset, .unset, .unset] [(.int (2147483647 : Int32)), (.int p2)])) _
    refine XS.iand X0.here hx rfl (hb hby at_18) rfl ?_
    show Steps p.tables e below (s₁.setTop (mkF m 19 #[.val (.int p0), .val (.int p1), .val (.int p2), .val (.int p3), .val (.int (((p0 &&& (2147483647 : Int32)) % (3 : Int32)) + (1 : Int32))), .val (.int (p1 &&& (1 : Int32))), .unset, .unset, .unset, .unset, .unset, .unset, .unset, .unset] [(.int (p2 &&& (2147483647 : Int32)))])) _
    refine XS.iload X0.here hx rfl (hb hby at_19) rfl ?_
    show Steps p.tables e below (s₁.setTop (mkF m 21 #[.val (.int p0), .val (.int p1), .val (.int p2), .val (.int p3), .val (.int (((p0 &&& (2147483647 : Int32)) % (3 : Int32)) + (1 : Int32))), .val (.int (p1 &&& (1 : Int32))), .unset, .unset, .unset, .unset, .unset, .unset, .unset, .unset] [(.int (((p0 &&& (2147483647 : Int32)) % (3 : Int32)) + (1 : Int32))), (.int (p2 &&& (2147483647 : Int32)))])) _
    refine Jvm.RoadKit.iremM X0 hx rfl (hb hby at_21) rfl (own_nz p0) ?_
    show Steps p.tables e below (s₁.setTop (mkF m 22 #[.val (.int p0), .val (.int p1), .val (.int p2), .val (.int p3), .val (.int (((p0 &&& (2147483647 : Int32)) % (3 : Int32)) + (1 : Int32))), .val (.int (p1 &&& (1 : Int32))), .unset, .unset, .unset, .unset, .unset, .unset, .unset, .unset] [(.int ((p2 &&& (2147483647 : Int32)) % (((p0 &&& (2147483647 : Int32)) % (3 : Int32)) + (1 : Int32))))])) _
    refine XS.istore X0.here hx rfl (hb hby at_22) rfl (l' := #[.val (.int p0), .val (.int p1), .val (.int p2), .val (.int p3), .val (.int (((p0 &&& (2147483647 : Int32)) % (3 : Int32)) + (1 : Int32))), .val (.int (p1 &&& (1 : Int32))), .val (.int ((p2 &&& (2147483647 : Int32)) % (((p0 &&& (2147483647 : Int32)) % (3 : Int32)) + (1 : Int32)))), .unset, .unset, .unset, .unset, .unset, .unset, .unset]) rfl ?_
    show Steps p.tables e below (s₁.setTop (mkF m 24 #[.val (.int p0), .val (.int p1), .val (.int p2), .val (.int p3), .val (.int (((p0 &&& (2147483647 : Int32)) % (3 : Int32)) + (1 : Int32))), .val (.int (p1 &&& (1 : Int32))), .val (.int ((p2 &&& (2147483647 : Int32)) % (((p0 &&& (2147483647 : Int32)) % (3 : Int32)) + (1 : Int32)))), .unset, .unset, .unset, .unset, .unset, .unset, .unset] [])) _
    refine XS.bipush X0.here hx rfl (hb hby at_24) ?_
    show Steps p.tables e below (s₁.setTop (mkF m 26 #[.val (.int p0), .val (.int p1), .val (.int p2), .val (.int p3), .val (.int (((p0 &&& (2147483647 : Int32)) % (3 : Int32)) + (1 : Int32))), .val (.int (p1 &&& (1 : Int32))), .val (.int ((p2 &&& (2147483647 : Int32)) % (((p0 &&& (2147483647 : Int32)) % (3 : Int32)) + (1 : Int32)))), .unset, .unset, .unset, .unset, .unset, .unset, .unset] [(.int (6 : Int32))])) _
    refine st1 _ ?_
    show Steps p.tables e below (T1.setTop (mkF m 28 #[.val (.int p0), .val (.int p1), .val (.int p2), .val (.int p3), .val (.int (((p0 &&& (2147483647 : Int32)) % (3 : Int32)) + (1 : Int32))), .val (.int (p1 &&& (1 : Int32))), .val (.int ((p2 &&& (2147483647 : Int32)) % (((p0 &&& (2147483647 : Int32)) % (3 : Int32)) + (1 : Int32)))), .unset, .unset, .unset, .unset, .unset, .unset, .unset] [(.ref b1)])) _
    refine XS.astore X1.here hx rfl (hb hby at_28) rfl rfl (l' := #[.val (.int p0), .val (.int p1), .val (.int p2), .val (.int p3), .val (.int (((p0 &&& (2147483647 : Int32)) % (3 : Int32)) + (1 : Int32))), .val (.int (p1 &&& (1 : Int32))), .val (.int ((p2 &&& (2147483647 : Int32)) % (((p0 &&& (2147483647 : Int32)) % (3 : Int32)) + (1 : Int32)))), .val (.ref b1), .unset, .unset, .unset, .unset, .unset, .unset]) rfl ?_
    show Steps p.tables e below (T1.setTop (mkF m 30 #[.val (.int p0), .val (.int p1), .val (.int p2), .val (.int p3), .val (.int (((p0 &&& (2147483647 : Int32)) % (3 : Int32)) + (1 : Int32))), .val (.int (p1 &&& (1 : Int32))), .val (.int ((p2 &&& (2147483647 : Int32)) % (((p0 &&& (2147483647 : Int32)) % (3 : Int32)) + (1 : Int32)))), .val (.ref b1), .unset, .unset, .unset, .unset, .unset, .unset] [])) _
    refine XS.aload X1.here hx rfl (hb hby at_30) rfl rfl ?_
    show Steps p.tables e below (T1.setTop (mkF m 32 #[.val (.int p0), .val (.int p1), .val (.int p2), .val (.int p3), .val (.int (((p0 &&& (2147483647 : Int32)) % (3 : Int32)) + (1 : Int32))), .val (.int (p1 &&& (1 : Int32))), .val (.int ((p2 &&& (2147483647 : Int32)) % (((p0 &&& (2147483647 : Int32)) % (3 : Int32)) + (1 : Int32)))), .val (.ref b1), .unset, .unset, .unset, .unset, .unset, .unset] [(.ref b1)])) _
    refine XS.iconst X1.here hx rfl (hb hby at_32) ?_
    show Steps p.tables e below (T1.setTop (mkF m 33 #[.val (.int p0), .val (.int p1), .val (.int p2), .val (.int p3), .val (.int (((p0 &&& (2147483647 : Int32)) % (3 : Int32)) + (1 : Int32))), .val (.int (p1 &&& (1 : Int32))), .val (.int ((p2 &&& (2147483647 : Int32)) % (((p0 &&& (2147483647 : Int32)) % (3 : Int32)) + (1 : Int32)))), .val (.ref b1), .unset, .unset, .unset, .unset, .unset, .unset] [(.int (0 : Int32)), (.ref b1)])) _
    refine XS.iloadN X1.here hx rfl (hb hby at_33) rfl ?_
    show Steps p.tables e below (T1.setTop (mkF m 34 #[.val (.int p0), .val (.int p1), .val (.int p2), .val (.int p3), .val (.int (((p0 &&& (2147483647 : Int32)) % (3 : Int32)) + (1 : Int32))), .val (.int (p1 &&& (1 : Int32))), .val (.int ((p2 &&& (2147483647 : Int32)) % (((p0 &&& (2147483647 : Int32)) % (3 : Int32)) + (1 : Int32)))), .val (.ref b1), .unset, .unset, .unset, .unset, .unset, .unset] [(.int p3), (.int (0 : Int32)), (.ref b1)])) _
    refine st3 _ ?_
    show Steps p.tables e below (T3.setTop (mkF m 35 #[.val (.int p0), .val (.int p1), .val (.int p2), .val (.int p3), .val (.int (((p0 &&& (2147483647 : Int32)) % (3 : Int32)) + (1 : Int32))), .val (.int (p1 &&& (1 : Int32))), .val (.int ((p2 &&& (2147483647 : Int32)) % (((p0 &&& (2147483647 : Int32)) % (3 : Int32)) + (1 : Int32)))), .val (.ref b1), .unset, .unset, .unset, .unset, .unset, .unset] [])) _
    refine XS.aload X3.here hx rfl (hb hby at_35) rfl rfl ?_
    show Steps p.tables e below (T3.setTop (mkF m 37 #[.val (.int p0), .val (.int p1), .val (.int p2), .val (.int p3), .val (.int (((p0 &&& (2147483647 : Int32)) % (3 : Int32)) + (1 : Int32))), .val (.int (p1 &&& (1 : Int32))), .val (.int ((p2 &&& (2147483647 : Int32)) % (((p0 &&& (2147483647 : Int32)) % (3 : Int32)) + (1 : Int32)))), .val (.ref b1), .unset, .unset, .unset, .unset, .unset, .unset] [(.ref b1)])) _
    refine XS.iconst X3.here hx rfl (hb hby at_37) ?_
    show Steps p.tables e below (T3.setTop (mkF m 38 #[.val (.int p0), .val (.int p1), .val (.int p2), .val (.int p3), .val (.int (((p0 &&& (2147483647 : Int32)) % (3 : Int32)) + (1 : Int32))), .val (.int (p1 &&& (1 : Int32))), .val (.int ((p2 &&& (2147483647 : Int32)) % (((p0 &&& (2147483647 : Int32)) % (3 : Int32)) + (1 : Int32)))), .val (.ref b1), .unset, .unset, .unset, .unset, .unset, .unset] [(.int (1 : Int32)), (.ref b1)])) _
    refine XS.iloadN X3.here hx rfl (hb hby at_38) rfl ?_
    show Steps p.tables e below (T3.setTop (mkF m 39 #[.val (.int p0), .val (.int p1), .val (.int p2), .val (.int p3), .val (.int (((p0 &&& (2147483647 : Int32)) % (3 : Int32)) + (1 : Int32))), .val (.int (p1 &&& (1 : Int32))), .val (.int ((p2 &&& (2147483647 : Int32)) % (((p0 &&& (2147483647 : Int32)) % (3 : Int32)) + (1 : Int32)))), .val (.ref b1), .unset, .unset, .unset, .unset, .unset, .unset] [(.int p3), (.int (1 : Int32)), (.ref b1)])) _
    refine XS.iconst X3.here hx rfl (hb hby at_39) ?_
    show Steps p.tables e below (T3.setTop (mkF m 40 #[.val (.int p0), .val (.int p1), .val (.int p2), .val (.int p3), .val (.int (((p0 &&& (2147483647 : Int32)) % (3 : Int32)) + (1 : Int32))), .val (.int (p1 &&& (1 : Int32))), .val (.int ((p2 &&& (2147483647 : Int32)) % (((p0 &&& (2147483647 : Int32)) % (3 : Int32)) + (1 : Int32)))), .val (.ref b1), .unset, .unset, .unset, .unset, .unset, .unset] [(.int (1 : Int32)), (.int p3), (.int (1 : Int32)), (.ref b1)])) _
    refine XS.iadd X3.here hx rfl (hb hby at_40) rfl ?_
    show Steps p.tables e below (T3.setTop (mkF m 41 #[.val (.int p0), .val (.int p1), .val (.int p2), .val (.int p3), .val (.int (((p0 &&& (2147483647 : Int32)) % (3 : Int32)) + (1 : Int32))), .val (.int (p1 &&& (1 : Int32))), .val (.int ((p2 &&& (2147483647 : Int32)) % (((p0 &&& (2147483647 : Int32)) % (3 : Int32)) + (1 : Int32)))), .val (.ref b1), .unset, .unset, .unset, .unset, .unset, .unset] [(.int (p3 + (1 : Int32))), (.int (1 : Int32)), (.ref b1)])) _
    refine st5 _ ?_
    show Steps p.tables e below (T5.setTop (mkF m 42 #[.val (.int p0), .val (.int p1), .val (.int p2), .val (.int p3), .val (.int (((p0 &&& (2147483647 : Int32)) % (3 : Int32)) + (1 : Int32))), .val (.int (p1 &&& (1 : Int32))), .val (.int ((p2 &&& (2147483647 : Int32)) % (((p0 &&& (2147483647 : Int32)) % (3 : Int32)) + (1 : Int32)))), .val (.ref b1), .unset, .unset, .unset, .unset, .unset, .unset] [])) _
    refine XS.aload X5.here hx rfl (hb hby at_42) rfl rfl ?_
    show Steps p.tables e below (T5.setTop (mkF m 44 #[.val (.int p0), .val (.int p1), .val (.int p2), .val (.int p3), .val (.int (((p0 &&& (2147483647 : Int32)) % (3 : Int32)) + (1 : Int32))), .val (.int (p1 &&& (1 : Int32))), .val (.int ((p2 &&& (2147483647 : Int32)) % (((p0 &&& (2147483647 : Int32)) % (3 : Int32)) + (1 : Int32)))), .val (.ref b1), .unset, .unset, .unset, .unset, .unset, .unset] [(.ref b1)])) _
    refine XS.iconst X5.here hx rfl (hb hby at_44) ?_
    show Steps p.tables e below (T5.setTop (mkF m 45 #[.val (.int p0), .val (.int p1), .val (.int p2), .val (.int p3), .val (.int (((p0 &&& (2147483647 : Int32)) % (3 : Int32)) + (1 : Int32))), .val (.int (p1 &&& (1 : Int32))), .val (.int ((p2 &&& (2147483647 : Int32)) % (((p0 &&& (2147483647 : Int32)) % (3 : Int32)) + (1 : Int32)))), .val (.ref b1), .unset, .unset, .unset, .unset, .unset, .unset] [(.int (2 : Int32)), (.ref b1)])) _
    refine XS.iloadN X5.here hx rfl (hb hby at_45) rfl ?_
    show Steps p.tables e below (T5.setTop (mkF m 46 #[.val (.int p0), .val (.int p1), .val (.int p2), .val (.int p3), .val (.int (((p0 &&& (2147483647 : Int32)) % (3 : Int32)) + (1 : Int32))), .val (.int (p1 &&& (1 : Int32))), .val (.int ((p2 &&& (2147483647 : Int32)) % (((p0 &&& (2147483647 : Int32)) % (3 : Int32)) + (1 : Int32)))), .val (.ref b1), .unset, .unset, .unset, .unset, .unset, .unset] [(.int p3), (.int (2 : Int32)), (.ref b1)])) _
    refine XS.iconst X5.here hx rfl (hb hby at_46) ?_
    show Steps p.tables e below (T5.setTop (mkF m 47 #[.val (.int p0), .val (.int p1), .val (.int p2), .val (.int p3), .val (.int (((p0 &&& (2147483647 : Int32)) % (3 : Int32)) + (1 : Int32))), .val (.int (p1 &&& (1 : Int32))), .val (.int ((p2 &&& (2147483647 : Int32)) % (((p0 &&& (2147483647 : Int32)) % (3 : Int32)) + (1 : Int32)))), .val (.ref b1), .unset, .unset, .unset, .unset, .unset, .unset] [(.int (2 : Int32)), (.int p3), (.int (2 : Int32)), (.ref b1)])) _
    refine XS.iadd X5.here hx rfl (hb hby at_47) rfl ?_
    show Steps p.tables e below (T5.setTop (mkF m 48 #[.val (.int p0), .val (.int p1), .val (.int p2), .val (.int p3), .val (.int (((p0 &&& (2147483647 : Int32)) % (3 : Int32)) + (1 : Int32))), .val (.int (p1 &&& (1 : Int32))), .val (.int ((p2 &&& (2147483647 : Int32)) % (((p0 &&& (2147483647 : Int32)) % (3 : Int32)) + (1 : Int32)))), .val (.ref b1), .unset, .unset, .unset, .unset, .unset, .unset] [(.int (p3 + (2 : Int32))), (.int (2 : Int32)), (.ref b1)])) _
    refine st7 _ ?_
    show Steps p.tables e below (T7.setTop (mkF m 49 #[.val (.int p0), .val (.int p1), .val (.int p2), .val (.int p3), .val (.int (((p0 &&& (2147483647 : Int32)) % (3 : Int32)) + (1 : Int32))), .val (.int (p1 &&& (1 : Int32))), .val (.int ((p2 &&& (2147483647 : Int32)) % (((p0 &&& (2147483647 : Int32)) % (3 : Int32)) + (1 : Int32)))), .val (.ref b1), .unset, .unset, .unset, .unset, .unset, .unset] [])) _
    refine XS.aload X7.here hx rfl (hb hby at_49) rfl rfl ?_
    show Steps p.tables e below (T7.setTop (mkF m 51 #[.val (.int p0), .val (.int p1), .val (.int p2), .val (.int p3), .val (.int (((p0 &&& (2147483647 : Int32)) % (3 : Int32)) + (1 : Int32))), .val (.int (p1 &&& (1 : Int32))), .val (.int ((p2 &&& (2147483647 : Int32)) % (((p0 &&& (2147483647 : Int32)) % (3 : Int32)) + (1 : Int32)))), .val (.ref b1), .unset, .unset, .unset, .unset, .unset, .unset] [(.ref b1)])) _
    refine XS.iconst X7.here hx rfl (hb hby at_51) ?_
    show Steps p.tables e below (T7.setTop (mkF m 52 #[.val (.int p0), .val (.int p1), .val (.int p2), .val (.int p3), .val (.int (((p0 &&& (2147483647 : Int32)) % (3 : Int32)) + (1 : Int32))), .val (.int (p1 &&& (1 : Int32))), .val (.int ((p2 &&& (2147483647 : Int32)) % (((p0 &&& (2147483647 : Int32)) % (3 : Int32)) + (1 : Int32)))), .val (.ref b1), .unset, .unset, .unset, .unset, .unset, .unset] [(.int (3 : Int32)), (.ref b1)])) _
    refine XS.iloadN X7.here hx rfl (hb hby at_52) rfl ?_
    show Steps p.tables e below (T7.setTop (mkF m 53 #[.val (.int p0), .val (.int p1), .val (.int p2), .val (.int p3), .val (.int (((p0 &&& (2147483647 : Int32)) % (3 : Int32)) + (1 : Int32))), .val (.int (p1 &&& (1 : Int32))), .val (.int ((p2 &&& (2147483647 : Int32)) % (((p0 &&& (2147483647 : Int32)) % (3 : Int32)) + (1 : Int32)))), .val (.ref b1), .unset, .unset, .unset, .unset, .unset, .unset] [(.int p3), (.int (3 : Int32)), (.ref b1)])) _
    refine XS.iconst X7.here hx rfl (hb hby at_53) ?_
    show Steps p.tables e below (T7.setTop (mkF m 54 #[.val (.int p0), .val (.int p1), .val (.int p2), .val (.int p3), .val (.int (((p0 &&& (2147483647 : Int32)) % (3 : Int32)) + (1 : Int32))), .val (.int (p1 &&& (1 : Int32))), .val (.int ((p2 &&& (2147483647 : Int32)) % (((p0 &&& (2147483647 : Int32)) % (3 : Int32)) + (1 : Int32)))), .val (.ref b1), .unset, .unset, .unset, .unset, .unset, .unset] [(.int (3 : Int32)), (.int p3), (.int (3 : Int32)), (.ref b1)])) _
    refine XS.iadd X7.here hx rfl (hb hby at_54) rfl ?_
    show Steps p.tables e below (T7.setTop (mkF m 55 #[.val (.int p0), .val (.int p1), .val (.int p2), .val (.int p3), .val (.int (((p0 &&& (2147483647 : Int32)) % (3 : Int32)) + (1 : Int32))), .val (.int (p1 &&& (1 : Int32))), .val (.int ((p2 &&& (2147483647 : Int32)) % (((p0 &&& (2147483647 : Int32)) % (3 : Int32)) + (1 : Int32)))), .val (.ref b1), .unset, .unset, .unset, .unset, .unset, .unset] [(.int (p3 + (3 : Int32))), (.int (3 : Int32)), (.ref b1)])) _
    refine st9 _ ?_
    show Steps p.tables e below (T9.setTop (mkF m 56 #[.val (.int p0), .val (.int p1), .val (.int p2), .val (.int p3), .val (.int (((p0 &&& (2147483647 : Int32)) % (3 : Int32)) + (1 : Int32))), .val (.int (p1 &&& (1 : Int32))), .val (.int ((p2 &&& (2147483647 : Int32)) % (((p0 &&& (2147483647 : Int32)) % (3 : Int32)) + (1 : Int32)))), .val (.ref b1), .unset, .unset, .unset, .unset, .unset, .unset] [])) _
    refine XS.aload X9.here hx rfl (hb hby at_56) rfl rfl ?_
    show Steps p.tables e below (T9.setTop (mkF m 58 #[.val (.int p0), .val (.int p1), .val (.int p2), .val (.int p3), .val (.int (((p0 &&& (2147483647 : Int32)) % (3 : Int32)) + (1 : Int32))), .val (.int (p1 &&& (1 : Int32))), .val (.int ((p2 &&& (2147483647 : Int32)) % (((p0 &&& (2147483647 : Int32)) % (3 : Int32)) + (1 : Int32)))), .val (.ref b1), .unset, .unset, .unset, .unset, .unset, .unset] [(.ref b1)])) _
    refine XS.iconst X9.here hx rfl (hb hby at_58) ?_
    show Steps p.tables e below (T9.setTop (mkF m 59 #[.val (.int p0), .val (.int p1), .val (.int p2), .val (.int p3), .val (.int (((p0 &&& (2147483647 : Int32)) % (3 : Int32)) + (1 : Int32))), .val (.int (p1 &&& (1 : Int32))), .val (.int ((p2 &&& (2147483647 : Int32)) % (((p0 &&& (2147483647 : Int32)) % (3 : Int32)) + (1 : Int32)))), .val (.ref b1), .unset, .unset, .unset, .unset, .unset, .unset] [(.int (4 : Int32)), (.ref b1)])) _
    refine XS.iloadN X9.here hx rfl (hb hby at_59) rfl ?_
    show Steps p.tables e below (T9.setTop (mkF m 60 #[.val (.int p0), .val (.int p1), .val (.int p2), .val (.int p3), .val (.int (((p0 &&& (2147483647 : Int32)) % (3 : Int32)) + (1 : Int32))), .val (.int (p1 &&& (1 : Int32))), .val (.int ((p2 &&& (2147483647 : Int32)) % (((p0 &&& (2147483647 : Int32)) % (3 : Int32)) + (1 : Int32)))), .val (.ref b1), .unset, .unset, .unset, .unset, .unset, .unset] [(.int p3), (.int (4 : Int32)), (.ref b1)])) _
    refine XS.iconst X9.here hx rfl (hb hby at_60) ?_
    show Steps p.tables e below (T9.setTop (mkF m 61 #[.val (.int p0), .val (.int p1), .val (.int p2), .val (.int p3), .val (.int (((p0 &&& (2147483647 : Int32)) % (3 : Int32)) + (1 : Int32))), .val (.int (p1 &&& (1 : Int32))), .val (.int ((p2 &&& (2147483647 : Int32)) % (((p0 &&& (2147483647 : Int32)) % (3 : Int32)) + (1 : Int32)))), .val (.ref b1), .unset, .unset, .unset, .unset, .unset, .unset] [(.int (4 : Int32)), (.int p3), (.int (4 : Int32)), (.ref b1)])) _
    refine XS.iadd X9.here hx rfl (hb hby at_61) rfl ?_
    show Steps p.tables e below (T9.setTop (mkF m 62 #[.val (.int p0), .val (.int p1), .val (.int p2), .val (.int p3), .val (.int (((p0 &&& (2147483647 : Int32)) % (3 : Int32)) + (1 : Int32))), .val (.int (p1 &&& (1 : Int32))), .val (.int ((p2 &&& (2147483647 : Int32)) % (((p0 &&& (2147483647 : Int32)) % (3 : Int32)) + (1 : Int32)))), .val (.ref b1), .unset, .unset, .unset, .unset, .unset, .unset] [(.int (p3 + (4 : Int32))), (.int (4 : Int32)), (.ref b1)])) _
    refine st11 _ ?_
    show Steps p.tables e below (T11.setTop (mkF m 63 #[.val (.int p0), .val (.int p1), .val (.int p2), .val (.int p3), .val (.int (((p0 &&& (2147483647 : Int32)) % (3 : Int32)) + (1 : Int32))), .val (.int (p1 &&& (1 : Int32))), .val (.int ((p2 &&& (2147483647 : Int32)) % (((p0 &&& (2147483647 : Int32)) % (3 : Int32)) + (1 : Int32)))), .val (.ref b1), .unset, .unset, .unset, .unset, .unset, .unset] [])) _
    refine XS.aload X11.here hx rfl (hb hby at_63) rfl rfl ?_
    show Steps p.tables e below (T11.setTop (mkF m 65 #[.val (.int p0), .val (.int p1), .val (.int p2), .val (.int p3), .val (.int (((p0 &&& (2147483647 : Int32)) % (3 : Int32)) + (1 : Int32))), .val (.int (p1 &&& (1 : Int32))), .val (.int ((p2 &&& (2147483647 : Int32)) % (((p0 &&& (2147483647 : Int32)) % (3 : Int32)) + (1 : Int32)))), .val (.ref b1), .unset, .unset, .unset, .unset, .unset, .unset] [(.ref b1)])) _
    refine XS.iconst X11.here hx rfl (hb hby at_65) ?_
    show Steps p.tables e below (T11.setTop (mkF m 66 #[.val (.int p0), .val (.int p1), .val (.int p2), .val (.int p3), .val (.int (((p0 &&& (2147483647 : Int32)) % (3 : Int32)) + (1 : Int32))), .val (.int (p1 &&& (1 : Int32))), .val (.int ((p2 &&& (2147483647 : Int32)) % (((p0 &&& (2147483647 : Int32)) % (3 : Int32)) + (1 : Int32)))), .val (.ref b1), .unset, .unset, .unset, .unset, .unset, .unset] [(.int (5 : Int32)), (.ref b1)])) _
    refine XS.iloadN X11.here hx rfl (hb hby at_66) rfl ?_
    show Steps p.tables e below (T11.setTop (mkF m 67 #[.val (.int p0), .val (.int p1), .val (.int p2), .val (.int p3), .val (.int (((p0 &&& (2147483647 : Int32)) % (3 : Int32)) + (1 : Int32))), .val (.int (p1 &&& (1 : Int32))), .val (.int ((p2 &&& (2147483647 : Int32)) % (((p0 &&& (2147483647 : Int32)) % (3 : Int32)) + (1 : Int32)))), .val (.ref b1), .unset, .unset, .unset, .unset, .unset, .unset] [(.int p3), (.int (5 : Int32)), (.ref b1)])) _
    refine XS.iconst X11.here hx rfl (hb hby at_67) ?_
    show Steps p.tables e below (T11.setTop (mkF m 68 #[.val (.int p0), .val (.int p1), .val (.int p2), .val (.int p3), .val (.int (((p0 &&& (2147483647 : Int32)) % (3 : Int32)) + (1 : Int32))), .val (.int (p1 &&& (1 : Int32))), .val (.int ((p2 &&& (2147483647 : Int32)) % (((p0 &&& (2147483647 : Int32)) % (3 : Int32)) + (1 : Int32)))), .val (.ref b1), .unset, .unset, .unset, .unset, .unset, .unset] [(.int (5 : Int32)), (.int p3), (.int (5 : Int32)), (.ref b1)])) _
    refine XS.iadd X11.here hx rfl (hb hby at_68) rfl ?_
    show Steps p.tables e below (T11.setTop (mkF m 69 #[.val (.int p0), .val (.int p1), .val (.int p2), .val (.int p3), .val (.int (((p0 &&& (2147483647 : Int32)) % (3 : Int32)) + (1 : Int32))), .val (.int (p1 &&& (1 : Int32))), .val (.int ((p2 &&& (2147483647 : Int32)) % (((p0 &&& (2147483647 : Int32)) % (3 : Int32)) + (1 : Int32)))), .val (.ref b1), .unset, .unset, .unset, .unset, .unset, .unset] [(.int (p3 + (5 : Int32))), (.int (5 : Int32)), (.ref b1)])) _
    refine st13 _ ?_
    show Steps p.tables e below (T13.setTop (mkF m 70 #[.val (.int p0), .val (.int p1), .val (.int p2), .val (.int p3), .val (.int (((p0 &&& (2147483647 : Int32)) % (3 : Int32)) + (1 : Int32))), .val (.int (p1 &&& (1 : Int32))), .val (.int ((p2 &&& (2147483647 : Int32)) % (((p0 &&& (2147483647 : Int32)) % (3 : Int32)) + (1 : Int32)))), .val (.ref b1), .unset, .unset, .unset, .unset, .unset, .unset] [])) _
    refine XS.iconst X13.here hx rfl (hb hby at_70) ?_
    show Steps p.tables e below (T13.setTop (mkF m 71 #[.val (.int p0), .val (.int p1), .val (.int p2), .val (.int p3), .val (.int (((p0 &&& (2147483647 : Int32)) % (3 : Int32)) + (1 : Int32))), .val (.int (p1 &&& (1 : Int32))), .val (.int ((p2 &&& (2147483647 : Int32)) % (((p0 &&& (2147483647 : Int32)) % (3 : Int32)) + (1 : Int32)))), .val (.ref b1), .unset, .unset, .unset, .unset, .unset, .unset] [(.int (2 : Int32))])) _
    refine st14 _ ?_
    show Steps p.tables e below (T14.setTop (mkF m 73 #[.val (.int p0), .val (.int p1), .val (.int p2), .val (.int p3), .val (.int (((p0 &&& (2147483647 : Int32)) % (3 : Int32)) + (1 : Int32))), .val (.int (p1 &&& (1 : Int32))), .val (.int ((p2 &&& (2147483647 : Int32)) % (((p0 &&& (2147483647 : Int32)) % (3 : Int32)) + (1 : Int32)))), .val (.ref b1), .unset, .unset, .unset, .unset, .unset, .unset] [(.ref b14)])) _
    refine XS.dup X14.here hx rfl (hb hby at_73) rfl rfl ?_
    show Steps p.tables e below (T14.setTop (mkF m 74 #[.val (.int p0), .val (.int p1), .val (.int p2), .val (.int p3), .val (.int (((p0 &&& (2147483647 : Int32)) % (3 : Int32)) + (1 : Int32))), .val (.int (p1 &&& (1 : Int32))), .val (.int ((p2 &&& (2147483647 : Int32)) % (((p0 &&& (2147483647 : Int32)) % (3 : Int32)) + (1 : Int32)))), .val (.ref b1), .unset, .unset, .unset, .unset, .unset, .unset] [(.ref b14), (.ref b14)])) _
    refine XS.iconst X14.here hx rfl (hb hby at_74) ?_
    show Steps p.tables e below (T14.setTop (mkF m 75 #[.val (.int p0), .val (.int p1), .val (.int p2), .val (.int p3), .val (.int (((p0 &&& (2147483647 : Int32)) % (3 : Int32)) + (1 : Int32))), .val (.int (p1 &&& (1 : Int32))), .val (.int ((p2 &&& (2147483647 : Int32)) % (((p0 &&& (2147483647 : Int32)) % (3 : Int32)) + (1 : Int32)))), .val (.ref b1), .unset, .unset, .unset, .unset, .unset, .unset] [(.int (0 : Int32)), (.ref b14), (.ref b14)])) _
    refine XS.iconst X14.here hx rfl (hb hby at_75) ?_
    show Steps p.tables e below (T14.setTop (mkF m 76 #[.val (.int p0), .val (.int p1), .val (.int p2), .val (.int p3), .val (.int (((p0 &&& (2147483647 : Int32)) % (3 : Int32)) + (1 : Int32))), .val (.int (p1 &&& (1 : Int32))), .val (.int ((p2 &&& (2147483647 : Int32)) % (((p0 &&& (2147483647 : Int32)) % (3 : Int32)) + (1 : Int32)))), .val (.ref b1), .unset, .unset, .unset, .unset, .unset, .unset] [(.int (0 : Int32)), (.int (0 : Int32)), (.ref b14), (.ref b14)])) _
    refine st16 _ ?_
    show Steps p.tables e below (T16.setTop (mkF m 77 #[.val (.int p0), .val (.int p1), .val (.int p2), .val (.int p3), .val (.int (((p0 &&& (2147483647 : Int32)) % (3 : Int32)) + (1 : Int32))), .val (.int (p1 &&& (1 : Int32))), .val (.int ((p2 &&& (2147483647 : Int32)) % (((p0 &&& (2147483647 : Int32)) % (3 : Int32)) + (1 : Int32)))), .val (.ref b1), .unset, .unset, .unset, .unset, .unset, .unset] [(.ref b14)])) _
    refine XS.dup X16.here hx rfl (hb hby at_77) rfl rfl ?_
    show Steps p.tables e below (T16.setTop (mkF m 78 #[.val (.int p0), .val (.int p1), .val (.int p2), .val (.int p3), .val (.int (((p0 &&& (2147483647 : Int32)) % (3 : Int32)) + (1 : Int32))), .val (.int (p1 &&& (1 : Int32))), .val (.int ((p2 &&& (2147483647 : Int32)) % (((p0 &&& (2147483647 : Int32)) % (3 : Int32)) + (1 : Int32)))), .val (.ref b1), .unset, .unset, .unset, .unset, .unset, .unset] [(.ref b14), (.ref b14)])) _
    refine XS.iconst X16.here hx rfl (hb hby at_78) ?_
    show Steps p.tables e below (T16.setTop (mkF m 79 #[.val (.int p0), .val (.int p1), .val (.int p2), .val (.int p3), .val (.int (((p0 &&& (2147483647 : Int32)) % (3 : Int32)) + (1 : Int32))), .val (.int (p1 &&& (1 : Int32))), .val (.int ((p2 &&& (2147483647 : Int32)) % (((p0 &&& (2147483647 : Int32)) % (3 : Int32)) + (1 : Int32)))), .val (.ref b1), .unset, .unset, .unset, .unset, .unset, .unset] [(.int (1 : Int32)), (.ref b14), (.ref b14)])) _
    refine XS.iconst X16.here hx rfl (hb hby at_79) ?_
    show Steps p.tables e below (T16.setTop (mkF m 80 #[.val (.int p0), .val (.int p1), .val (.int p2), .val (.int p3), .val (.int (((p0 &&& (2147483647 : Int32)) % (3 : Int32)) + (1 : Int32))), .val (.int (p1 &&& (1 : Int32))), .val (.int ((p2 &&& (2147483647 : Int32)) % (((p0 &&& (2147483647 : Int32)) % (3 : Int32)) + (1 : Int32)))), .val (.ref b1), .unset, .unset, .unset, .unset, .unset, .unset] [(.int (2 : Int32)), (.int (1 : Int32)), (.ref b14), (.ref b14)])) _
    refine st18 _ ?_
    show Steps p.tables e below (T18.setTop (mkF m 81 #[.val (.int p0), .val (.int p1), .val (.int p2), .val (.int p3), .val (.int (((p0 &&& (2147483647 : Int32)) % (3 : Int32)) + (1 : Int32))), .val (.int (p1 &&& (1 : Int32))), .val (.int ((p2 &&& (2147483647 : Int32)) % (((p0 &&& (2147483647 : Int32)) % (3 : Int32)) + (1 : Int32)))), .val (.ref b1), .unset, .unset, .unset, .unset, .unset, .unset] [(.ref b14)])) _
    refine XS.astore X18.here hx rfl (hb hby at_81) rfl rfl (l' := #[.val (.int p0), .val (.int p1), .val (.int p2), .val (.int p3), .val (.int (((p0 &&& (2147483647 : Int32)) % (3 : Int32)) + (1 : Int32))), .val (.int (p1 &&& (1 : Int32))), .val (.int ((p2 &&& (2147483647 : Int32)) % (((p0 &&& (2147483647 : Int32)) % (3 : Int32)) + (1 : Int32)))), .val (.ref b1), .val (.ref b14), .unset, .unset, .unset, .unset, .unset]) rfl ?_
    show Steps p.tables e below (T18.setTop (mkF m 83 #[.val (.int p0), .val (.int p1), .val (.int p2), .val (.int p3), .val (.int (((p0 &&& (2147483647 : Int32)) % (3 : Int32)) + (1 : Int32))), .val (.int (p1 &&& (1 : Int32))), .val (.int ((p2 &&& (2147483647 : Int32)) % (((p0 &&& (2147483647 : Int32)) % (3 : Int32)) + (1 : Int32)))), .val (.ref b1), .val (.ref b14), .unset, .unset, .unset, .unset, .unset] [])) _
    refine XS.iconst X18.here hx rfl (hb hby at_83) ?_
    show Steps p.tables e below (T18.setTop (mkF m 84 #[.val (.int p0), .val (.int p1), .val (.int p2), .val (.int p3), .val (.int (((p0 &&& (2147483647 : Int32)) % (3 : Int32)) + (1 : Int32))), .val (.int (p1 &&& (1 : Int32))), .val (.int ((p2 &&& (2147483647 : Int32)) % (((p0 &&& (2147483647 : Int32)) % (3 : Int32)) + (1 : Int32)))), .val (.ref b1), .val (.ref b14), .unset, .unset, .unset, .unset, .unset] [(.int (2 : Int32))])) _
    refine st19 _ ?_
    show Steps p.tables e below (T19.setTop (mkF m 86 #[.val (.int p0), .val (.int p1), .val (.int p2), .val (.int p3), .val (.int (((p0 &&& (2147483647 : Int32)) % (3 : Int32)) + (1 : Int32))), .val (.int (p1 &&& (1 : Int32))), .val (.int ((p2 &&& (2147483647 : Int32)) % (((p0 &&& (2147483647 : Int32)) % (3 : Int32)) + (1 : Int32)))), .val (.ref b1), .val (.ref b14), .unset, .unset, .unset, .unset, .unset] [(.ref b19)])) _
    refine XS.dup X19.here hx rfl (hb hby at_86) rfl rfl ?_
    show Steps p.tables e below (T19.setTop (mkF m 87 #[.val (.int p0), .val (.int p1), .val (.int p2), .val (.int p3), .val (.int (((p0 &&& (2147483647 : Int32)) % (3 : Int32)) + (1 : Int32))), .val (.int (p1 &&& (1 : Int32))), .val (.int ((p2 &&& (2147483647 : Int32)) % (((p0 &&& (2147483647 : Int32)) % (3 : Int32)) + (1 : Int32)))), .val (.ref b1), .val (.ref b14), .unset, .unset, .unset, .unset, .unset] [(.ref b19), (.ref b19)])) _
    refine XS.iconst X19.here hx rfl (hb hby at_87) ?_
    show Steps p.tables e below (T19.setTop (mkF m 88 #[.val (.int p0), .val (.int p1), .val (.int p2), .val (.int p3), .val (.int (((p0 &&& (2147483647 : Int32)) % (3 : Int32)) + (1 : Int32))), .val (.int (p1 &&& (1 : Int32))), .val (.int ((p2 &&& (2147483647 : Int32)) % (((p0 &&& (2147483647 : Int32)) % (3 : Int32)) + (1 : Int32)))), .val (.ref b1), .val (.ref b14), .unset, .unset, .unset, .unset, .unset] [(.int (0 : Int32)), (.ref b19), (.ref b19)])) _
    refine XS.iconst X19.here hx rfl (hb hby at_88) ?_
    show Steps p.tables e below (T19.setTop (mkF m 89 #[.val (.int p0), .val (.int p1), .val (.int p2), .val (.int p3), .val (.int (((p0 &&& (2147483647 : Int32)) % (3 : Int32)) + (1 : Int32))), .val (.int (p1 &&& (1 : Int32))), .val (.int ((p2 &&& (2147483647 : Int32)) % (((p0 &&& (2147483647 : Int32)) % (3 : Int32)) + (1 : Int32)))), .val (.ref b1), .val (.ref b14), .unset, .unset, .unset, .unset, .unset] [(.int (0 : Int32)), (.int (0 : Int32)), (.ref b19), (.ref b19)])) _
    refine st22 _ ?_
    show Steps p.tables e below (T22.setTop (mkF m 90 #[.val (.int p0), .val (.int p1), .val (.int p2), .val (.int p3), .val (.int (((p0 &&& (2147483647 : Int32)) % (3 : Int32)) + (1 : Int32))), .val (.int (p1 &&& (1 : Int32))), .val (.int ((p2 &&& (2147483647 : Int32)) % (((p0 &&& (2147483647 : Int32)) % (3 : Int32)) + (1 : Int32)))), .val (.ref b1), .val (.ref b14), .unset, .unset, .unset, .unset, .unset] [(.ref b19)])) _
    refine XS.dup X22.here hx rfl (hb hby at_90) rfl rfl ?_
    show Steps p.tables e below (T22.setTop (mkF m 91 #[.val (.int p0), .val (.int p1), .val (.int p2), .val (.int p3), .val (.int (((p0 &&& (2147483647 : Int32)) % (3 : Int32)) + (1 : Int32))), .val (.int (p1 &&& (1 : Int32))), .val (.int ((p2 &&& (2147483647 : Int32)) % (((p0 &&& (2147483647 : Int32)) % (3 : Int32)) + (1 : Int32)))), .val (.ref b1), .val (.ref b14), .unset, .unset, .unset, .unset, .unset] [(.ref b19), (.ref b19)])) _
    refine XS.iconst X22.here hx rfl (hb hby at_91) ?_
    show Steps p.tables e below (T22.setTop (mkF m 92 #[.val (.int p0), .val (.int p1), .val (.int p2), .val (.int p3), .val (.int (((p0 &&& (2147483647 : Int32)) % (3 : Int32)) + (1 : Int32))), .val (.int (p1 &&& (1 : Int32))), .val (.int ((p2 &&& (2147483647 : Int32)) % (((p0 &&& (2147483647 : Int32)) % (3 : Int32)) + (1 : Int32)))), .val (.ref b1), .val (.ref b14), .unset, .unset, .unset, .unset, .unset] [(.int (1 : Int32)), (.ref b19), (.ref b19)])) _
    refine XS.iconst X22.here hx rfl (hb hby at_92) ?_
    show Steps p.tables e below (T22.setTop (mkF m 93 #[.val (.int p0), .val (.int p1), .val (.int p2), .val (.int p3), .val (.int (((p0 &&& (2147483647 : Int32)) % (3 : Int32)) + (1 : Int32))), .val (.int (p1 &&& (1 : Int32))), .val (.int ((p2 &&& (2147483647 : Int32)) % (((p0 &&& (2147483647 : Int32)) % (3 : Int32)) + (1 : Int32)))), .val (.ref b1), .val (.ref b14), .unset, .unset, .unset, .unset, .unset] [(.int (0 : Int32)), (.int (1 : Int32)), (.ref b19), (.ref b19)])) _
    refine st24 _ ?_
    show Steps p.tables e below (T24.setTop (mkF m 94 #[.val (.int p0), .val (.int p1), .val (.int p2), .val (.int p3), .val (.int (((p0 &&& (2147483647 : Int32)) % (3 : Int32)) + (1 : Int32))), .val (.int (p1 &&& (1 : Int32))), .val (.int ((p2 &&& (2147483647 : Int32)) % (((p0 &&& (2147483647 : Int32)) % (3 : Int32)) + (1 : Int32)))), .val (.ref b1), .val (.ref b14), .unset, .unset, .unset, .unset, .unset] [(.ref b19)])) _
    refine XS.astore X24.here hx rfl (hb hby at_94) rfl rfl (l' := #[.val (.int p0), .val (.int p1), .val (.int p2), .val (.int p3), .val (.int (((p0 &&& (2147483647 : Int32)) % (3 : Int32)) + (1 : Int32))), .val (.int (p1 &&& (1 : Int32))), .val (.int ((p2 &&& (2147483647 : Int32)) % (((p0 &&& (2147483647 : Int32)) % (3 : Int32)) + (1 : Int32)))), .val (.ref b1), .val (.ref b14), .val (.ref b19), .unset, .unset, .unset, .unset]) rfl ?_
    show Steps p.tables e below (T24.setTop (mkF m 96 #[.val (.int p0), .val (.int p1), .val (.int p2), .val (.int p3), .val (.int (((p0 &&& (2147483647 : Int32)) % (3 : Int32)) + (1 : Int32))), .val (.int (p1 &&& (1 : Int32))), .val (.int ((p2 &&& (2147483647 : Int32)) % (((p0 &&& (2147483647 : Int32)) % (3 : Int32)) + (1 : Int32)))), .val (.ref b1), .val (.ref b14), .val (.ref b19), .unset, .unset, .unset, .unset] [])) _
    refine XS.iconst X24.here hx rfl (hb hby at_96) ?_
    show Steps p.tables e below (T24.setTop (mkF m 97 #[.val (.int p0), .val (.int p1), .val (.int p2), .val (.int p3), .val (.int (((p0 &&& (2147483647 : Int32)) % (3 : Int32)) + (1 : Int32))), .val (.int (p1 &&& (1 : Int32))), .val (.int ((p2 &&& (2147483647 : Int32)) % (((p0 &&& (2147483647 : Int32)) % (3 : Int32)) + (1 : Int32)))), .val (.ref b1), .val (.ref b14), .val (.ref b19), .unset, .unset, .unset, .unset] [(.int (2 : Int32))])) _
    refine st25 _ ?_
    show Steps p.tables e below (T25.setTop (mkF m 99 #[.val (.int p0), .val (.int p1), .val (.int p2), .val (.int p3), .val (.int (((p0 &&& (2147483647 : Int32)) % (3 : Int32)) + (1 : Int32))), .val (.int (p1 &&& (1 : Int32))), .val (.int ((p2 &&& (2147483647 : Int32)) % (((p0 &&& (2147483647 : Int32)) % (3 : Int32)) + (1 : Int32)))), .val (.ref b1), .val (.ref b14), .val (.ref b19), .unset, .unset, .unset, .unset] [(.ref b25)])) _
    refine XS.dup X25.here hx rfl (hb hby at_99) rfl rfl ?_
    show Steps p.tables e below (T25.setTop (mkF m 100 #[.val (.int p0), .val (.int p1), .val (.int p2), .val (.int p3), .val (.int (((p0 &&& (2147483647 : Int32)) % (3 : Int32)) + (1 : Int32))), .val (.int (p1 &&& (1 : Int32))), .val (.int ((p2 &&& (2147483647 : Int32)) % (((p0 &&& (2147483647 : Int32)) % (3 : Int32)) + (1 : Int32)))), .val (.ref b1), .val (.ref b14), .val (.ref b19), .unset, .unset, .unset, .unset] [(.ref b25), (.ref b25)])) _
    refine XS.iconst X25.here hx rfl (hb hby at_100) ?_
    show Steps p.tables e below (T25.setTop (mkF m 101 #[.val (.int p0), .val (.int p1), .val (.int p2), .val (.int p3), .val (.int (((p0 &&& (2147483647 : Int32)) % (3 : Int32)) + (1 : Int32))), .val (.int (p1 &&& (1 : Int32))), .val (.int ((p2 &&& (2147483647 : Int32)) % (((p0 &&& (2147483647 : Int32)) % (3 : Int32)) + (1 : Int32)))), .val (.ref b1), .val (.ref b14), .val (.ref b19), .unset, .unset, .unset, .unset] [(.int (0 : Int32)), (.ref b25), (.ref b25)])) _
    refine XS.iconst X25.here hx rfl (hb hby at_101) ?_
    show Steps p.tables e below (T25.setTop (mkF m 102 #[.val (.int p0), .val (.int p1), .val (.int p2), .val (.int p3), .val (.int (((p0 &&& (2147483647 : Int32)) % (3 : Int32)) + (1 : Int32))), .val (.int (p1 &&& (1 : Int32))), .val (.int ((p2 &&& (2147483647 : Int32)) % (((p0 &&& (2147483647 : Int32)) % (3 : Int32)) + (1 : Int32)))), .val (.ref b1), .val (.ref b14), .val (.ref b19), .unset, .unset, .unset, .unset] [(.int (0 : Int32)), (.int (0 : Int32)), (.ref b25), (.ref b25)])) _
    refine st29 _ ?_
    show Steps p.tables e below (T29.setTop (mkF m 103 #[.val (.int p0), .val (.int p1), .val (.int p2), .val (.int p3), .val (.int (((p0 &&& (2147483647 : Int32)) % (3 : Int32)) + (1 : Int32))), .val (.int (p1 &&& (1 : Int32))), .val (.int ((p2 &&& (2147483647 : Int32)) % (((p0 &&& (2147483647 : Int32)) % (3 : Int32)) + (1 : Int32)))), .val (.ref b1), .val (.ref b14), .val (.ref b19), .unset, .unset, .unset, .unset] [(.ref b25)])) _
    refine XS.dup X29.here hx rfl (hb hby at_103) rfl rfl ?_
    show Steps p.tables e below (T29.setTop (mkF m 104 #[.val (.int p0), .val (.int p1), .val (.int p2), .val (.int p3), .val (.int (((p0 &&& (2147483647 : Int32)) % (3 : Int32)) + (1 : Int32))), .val (.int (p1 &&& (1 : Int32))), .val (.int ((p2 &&& (2147483647 : Int32)) % (((p0 &&& (2147483647 : Int32)) % (3 : Int32)) + (1 : Int32)))), .val (.ref b1), .val (.ref b14), .val (.ref b19), .unset, .unset, .unset, .unset] [(.ref b25), (.ref b25)])) _
    refine XS.iconst X29.here hx rfl (hb hby at_104) ?_
    show Steps p.tables e below (T29.setTop (mkF m 105 #[.val (.int p0), .val (.int p1), .val (.int p2), .val (.int p3), .val (.int (((p0 &&& (2147483647 : Int32)) % (3 : Int32)) + (1 : Int32))), .val (.int (p1 &&& (1 : Int32))), .val (.int ((p2 &&& (2147483647 : Int32)) % (((p0 &&& (2147483647 : Int32)) % (3 : Int32)) + (1 : Int32)))), .val (.ref b1), .val (.ref b14), .val (.ref b19), .unset, .unset, .unset, .unset] [(.int (1 : Int32)), (.ref b25), (.ref b25)])) _
    refine XS.iconst X29.here hx rfl (hb hby at_105) ?_
    show Steps p.tables e below (T29.setTop (mkF m 106 #[.val (.int p0), .val (.int p1), .val (.int p2), .val (.int p3), .val (.int (((p0 &&& (2147483647 : Int32)) % (3 : Int32)) + (1 : Int32))), .val (.int (p1 &&& (1 : Int32))), .val (.int ((p2 &&& (2147483647 : Int32)) % (((p0 &&& (2147483647 : Int32)) % (3 : Int32)) + (1 : Int32)))), .val (.ref b1), .val (.ref b14), .val (.ref b19), .unset, .unset, .unset, .unset] [(.int (0 : Int32)), (.int (1 : Int32)), (.ref b25), (.ref b25)])) _
    refine st31 _ ?_
    show Steps p.tables e below (T31.setTop (mkF m 107 #[.val (.int p0), .val (.int p1), .val (.int p2), .val (.int p3), .val (.int (((p0 &&& (2147483647 : Int32)) % (3 : Int32)) + (1 : Int32))), .val (.int (p1 &&& (1 : Int32))), .val (.int ((p2 &&& (2147483647 : Int32)) % (((p0 &&& (2147483647 : Int32)) % (3 : Int32)) + (1 : Int32)))), .val (.ref b1), .val (.ref b14), .val (.ref b19), .unset, .unset, .unset, .unset] [(.ref b25)])) _
    refine XS.astore X31.here hx rfl (hb hby at_107) rfl rfl (l' := #[.val (.int p0), .val (.int p1), .val (.int p2), .val (.int p3), .val (.int (((p0 &&& (2147483647 : Int32)) % (3 : Int32)) + (1 : Int32))), .val (.int (p1 &&& (1 : Int32))), .val (.int ((p2 &&& (2147483647 : Int32)) % (((p0 &&& (2147483647 : Int32)) % (3 : Int32)) + (1 : Int32)))), .val (.ref b1), .val (.ref b14), .val (.ref b19), .val (.ref b25), .unset, .unset, .unset]) rfl ?_
    show Steps p.tables e below (T31.setTop (mkF m 109 #[.val (.int p0), .val (.int p1), .val (.int p2), .val (.int p3), .val (.int (((p0 &&& (2147483647 : Int32)) % (3 : Int32)) + (1 : Int32))), .val (.int (p1 &&& (1 : Int32))), .val (.int ((p2 &&& (2147483647 : Int32)) % (((p0 &&& (2147483647 : Int32)) % (3 : Int32)) + (1 : Int32)))), .val (.ref b1), .val (.ref b14), .val (.ref b19), .val (.ref b25), .unset, .unset, .unset] [])) _
    refine XS.iconst X31.here hx rfl (hb hby at_109) ?_
    show Steps p.tables e below (T31.setTop (mkF m 110 #[.val (.int p0), .val (.int p1), .val (.int p2), .val (.int p3), .val (.int (((p0 &&& (2147483647 : Int32)) % (3 : Int32)) + (1 : Int32))), .val (.int (p1 &&& (1 : Int32))), .val (.int ((p2 &&& (2147483647 : Int32)) % (((p0 &&& (2147483647 : Int32)) % (3 : Int32)) + (1 : Int32)))), .val (.ref b1), .val (.ref b14), .val (.ref b19), .val (.ref b25), .unset, .unset, .unset] [(.int (2 : Int32))])) _
    refine st32 _ ?_
    show Steps p.tables e below (T32.setTop (mkF m 112 #[.val (.int p0), .val (.int p1), .val (.int p2), .val (.int p3), .val (.int (((p0 &&& (2147483647 : Int32)) % (3 : Int32)) + (1 : Int32))), .val (.int (p1 &&& (1 : Int32))), .val (.int ((p2 &&& (2147483647 : Int32)) % (((p0 &&& (2147483647 : Int32)) % (3 : Int32)) + (1 : Int32)))), .val (.ref b1), .val (.ref b14), .val (.ref b19), .val (.ref b25), .unset, .unset, .unset] [(.ref b32)])) _
    refine XS.dup X32.here hx rfl (hb hby at_112) rfl rfl ?_
    show Steps p.tables e below (T32.setTop (mkF m 113 #[.val (.int p0), .val (.int p1), .val (.int p2), .val (.int p3), .val (.int (((p0 &&& (2147483647 : Int32)) % (3 : Int32)) + (1 : Int32))), .val (.int (p1 &&& (1 : Int32))), .val (.int ((p2 &&& (2147483647 : Int32)) % (((p0 &&& (2147483647 : Int32)) % (3 : Int32)) + (1 : Int32)))), .val (.ref b1), .val (.ref b14), .val (.ref b19), .val (.ref b25), .unset, .unset, .unset] [(.ref b32), (.ref b32)])) _
    refine XS.iconst X32.here hx rfl (hb hby at_113) ?_
    show Steps p.tables e below (T32.setTop (mkF m 114 #[.val (.int p0), .val (.int p1), .val (.int p2), .val (.int p3), .val (.int (((p0 &&& (2147483647 : Int32)) % (3 : Int32)) + (1 : Int32))), .val (.int (p1 &&& (1 : Int32))), .val (.int ((p2 &&& (2147483647 : Int32)) % (((p0 &&& (2147483647 : Int32)) % (3 : Int32)) + (1 : Int32)))), .val (.ref b1), .val (.ref b14), .val (.ref b19), .val (.ref b25), .unset, .unset, .unset] [(.int (0 : Int32)), (.ref b32), (.ref b32)])) _
    refine XS.lconst X32.here hx rfl (hb hby at_114) ?_
    show Steps p.tables e below (T32.setTop (mkF m 115 #[.val (.int p0), .val (.int p1), .val (.int p2), .val (.int p3), .val (.int (((p0 &&& (2147483647 : Int32)) % (3 : Int32)) + (1 : Int32))), .val (.int (p1 &&& (1 : Int32))), .val (.int ((p2 &&& (2147483647 : Int32)) % (((p0 &&& (2147483647 : Int32)) % (3 : Int32)) + (1 : Int32)))), .val (.ref b1), .val (.ref b14), .val (.ref b19), .val (.ref b25), .unset, .unset, .unset] [(.long (0 : Int64)), (.int (0 : Int32)), (.ref b32), (.ref b32)])) _
    refine st37 _ ?_
    show Steps p.tables e below (T37.setTop (mkF m 116 #[.val (.int p0), .val (.int p1), .val (.int p2), .val (.int p3), .val (.int (((p0 &&& (2147483647 : Int32)) % (3 : Int32)) + (1 : Int32))), .val (.int (p1 &&& (1 : Int32))), .val (.int ((p2 &&& (2147483647 : Int32)) % (((p0 &&& (2147483647 : Int32)) % (3 : Int32)) + (1 : Int32)))), .val (.ref b1), .val (.ref b14), .val (.ref b19), .val (.ref b25), .unset, .unset, .unset] [(.ref b32)])) _
    refine XS.dup X37.here hx rfl (hb hby at_116) rfl rfl ?_
    show Steps p.tables e below (T37.setTop (mkF m 117 #[.val (.int p0), .val (.int p1), .val (.int p2), .val (.int p3), .val (.int (((p0 &&& (2147483647 : Int32)) % (3 : Int32)) + (1 : Int32))), .val (.int (p1 &&& (1 : Int32))), .val (.int ((p2 &&& (2147483647 : Int32)) % (((p0 &&& (2147483647 : Int32)) % (3 : Int32)) + (1 : Int32)))), .val (.ref b1), .val (.ref b14), .val (.ref b19), .val (.ref b25), .unset, .unset, .unset] [(.ref b32), (.ref b32)])) _
    refine XS.iconst X37.here hx rfl (hb hby at_117) ?_
    show Steps p.tables e below (T37.setTop (mkF m 118 #[.val (.int p0), .val (.int p1), .val (.int p2), .val (.int p3), .val (.int (((p0 &&& (2147483647 : Int32)) % (3 : Int32)) + (1 : Int32))), .val (.int (p1 &&& (1 : Int32))), .val (.int ((p2 &&& (2147483647 : Int32)) % (((p0 &&& (2147483647 : Int32)) % (3 : Int32)) + (1 : Int32)))), .val (.ref b1), .val (.ref b14), .val (.ref b19), .val (.ref b25), .unset, .unset, .unset] [(.int (1 : Int32)), (.ref b32), (.ref b32)])) _
    refine XS.lconst X37.here hx rfl (hb hby at_118) ?_
    show Steps p.tables e below (T37.setTop (mkF m 119 #[.val (.int p0), .val (.int p1), .val (.int p2), .val (.int p3), .val (.int (((p0 &&& (2147483647 : Int32)) % (3 : Int32)) + (1 : Int32))), .val (.int (p1 &&& (1 : Int32))), .val (.int ((p2 &&& (2147483647 : Int32)) % (((p0 &&& (2147483647 : Int32)) % (3 : Int32)) + (1 : Int32)))), .val (.ref b1), .val (.ref b14), .val (.ref b19), .val (.ref b25), .unset, .unset, .unset] [(.long (0 : Int64)), (.int (1 : Int32)), (.ref b32), (.ref b32)])) _
    refine st39 _ ?_
    show Steps p.tables e below (T39.setTop (mkF m 120 #[.val (.int p0), .val (.int p1), .val (.int p2), .val (.int p3), .val (.int (((p0 &&& (2147483647 : Int32)) % (3 : Int32)) + (1 : Int32))), .val (.int (p1 &&& (1 : Int32))), .val (.int ((p2 &&& (2147483647 : Int32)) % (((p0 &&& (2147483647 : Int32)) % (3 : Int32)) + (1 : Int32)))), .val (.ref b1), .val (.ref b14), .val (.ref b19), .val (.ref b25), .unset, .unset, .unset] [(.ref b32)])) _
    refine XS.astore X39.here hx rfl (hb hby at_120) rfl rfl (l' := #[.val (.int p0), .val (.int p1), .val (.int p2), .val (.int p3), .val (.int (((p0 &&& (2147483647 : Int32)) % (3 : Int32)) + (1 : Int32))), .val (.int (p1 &&& (1 : Int32))), .val (.int ((p2 &&& (2147483647 : Int32)) % (((p0 &&& (2147483647 : Int32)) % (3 : Int32)) + (1 : Int32)))), .val (.ref b1), .val (.ref b14), .val (.ref b19), .val (.ref b25), .val (.ref b32), .unset, .unset]) rfl ?_
    show Steps p.tables e below (T39.setTop (mkF m 122 #[.val (.int p0), .val (.int p1), .val (.int p2), .val (.int p3), .val (.int (((p0 &&& (2147483647 : Int32)) % (3 : Int32)) + (1 : Int32))), .val (.int (p1 &&& (1 : Int32))), .val (.int ((p2 &&& (2147483647 : Int32)) % (((p0 &&& (2147483647 : Int32)) % (3 : Int32)) + (1 : Int32)))), .val (.ref b1), .val (.ref b14), .val (.ref b19), .val (.ref b25), .val (.ref b32), .unset, .unset] [])) _
    refine st40 _ ?_
    show Steps p.tables e below (T40.setTop (mkF m 125 #[.val (.int p0), .val (.int p1), .val (.int p2), .val (.int p3), .val (.int (((p0 &&& (2147483647 : Int32)) % (3 : Int32)) + (1 : Int32))), .val (.int (p1 &&& (1 : Int32))), .val (.int ((p2 &&& (2147483647 : Int32)) % (((p0 &&& (2147483647 : Int32)) % (3 : Int32)) + (1 : Int32)))), .val (.ref b1), .val (.ref b14), .val (.ref b19), .val (.ref b25), .val (.ref b32), .unset, .unset] [(.ref b40)])) _
    refine XS.dup X40.here hx rfl (hb hby at_125) rfl rfl ?_
    show Steps p.tables e below (T40.setTop (mkF m 126 #[.val (.int p0), .val (.int p1), .val (.int p2), .val (.int p3), .val (.int (((p0 &&& (2147483647 : Int32)) % (3 : Int32)) + (1 : Int32))), .val (.int (p1 &&& (1 : Int32))), .val (.int ((p2 &&& (2147483647 : Int32)) % (((p0 &&& (2147483647 : Int32)) % (3 : Int32)) + (1 : Int32)))), .val (.ref b1), .val (.ref b14), .val (.ref b19), .val (.ref b25), .val (.ref b32), .unset, .unset] [(.ref b40), (.ref b40)])) _
    refine XS.iconst X40.here hx rfl (hb hby at_126) ?_
    show Steps p.tables e below (T40.setTop (mkF m 127 #[.val (.int p0), .val (.int p1), .val (.int p2), .val (.int p3), .val (.int (((p0 &&& (2147483647 : Int32)) % (3 : Int32)) + (1 : Int32))), .val (.int (p1 &&& (1 : Int32))), .val (.int ((p2 &&& (2147483647 : Int32)) % (((p0 &&& (2147483647 : Int32)) % (3 : Int32)) + (1 : Int32)))), .val (.ref b1), .val (.ref b14), .val (.ref b19), .val (.ref b25), .val (.ref b32), .unset, .unset] [(.int (1 : Int32)), (.ref b40), (.ref b40)])) _
    refine XS.aload X40.here hx rfl (hb hby at_127) rfl rfl ?_
    show Steps p.tables e below (T40.setTop (mkF m 129 #[.val (.int p0), .val (.int p1), .val (.int p2), .val (.int p3), .val (.int (((p0 &&& (2147483647 : Int32)) % (3 : Int32)) + (1 : Int32))), .val (.int (p1 &&& (1 : Int32))), .val (.int ((p2 &&& (2147483647 : Int32)) % (((p0 &&& (2147483647 : Int32)) % (3 : Int32)) + (1 : Int32)))), .val (.ref b1), .val (.ref b14), .val (.ref b19), .val (.ref b25), .val (.ref b32), .unset, .unset] [(.ref b14), (.int (1 : Int32)), (.ref b40), (.ref b40)])) _
    refine XS.aload X40.here hx rfl (hb hby at_129) rfl rfl ?_
    show Steps p.tables e below (T40.setTop (mkF m 131 #[.val (.int p0), .val (.int p1), .val (.int p2), .val (.int p3), .val (.int (((p0 &&& (2147483647 : Int32)) % (3 : Int32)) + (1 : Int32))), .val (.int (p1 &&& (1 : Int32))), .val (.int ((p2 &&& (2147483647 : Int32)) % (((p0 &&& (2147483647 : Int32)) % (3 : Int32)) + (1 : Int32)))), .val (.ref b1), .val (.ref b14), .val (.ref b19), .val (.ref b25), .val (.ref b32), .unset, .unset] [(.ref b19), (.ref b14), (.int (1 : Int32)), (.ref b40), (.ref b40)])) _
    refine XS.aload X40.here hx rfl (hb hby at_131) rfl rfl ?_
    show Steps p.tables e below (T40.setTop (mkF m 133 #[.val (.int p0), .val (.int p1), .val (.int p2), .val (.int p3), .val (.int (((p0 &&& (2147483647 : Int32)) % (3 : Int32)) + (1 : Int32))), .val (.int (p1 &&& (1 : Int32))), .val (.int ((p2 &&& (2147483647 : Int32)) % (((p0 &&& (2147483647 : Int32)) % (3 : Int32)) + (1 : Int32)))), .val (.ref b1), .val (.ref b14), .val (.ref b19), .val (.ref b25), .val (.ref b32), .unset, .unset] [(.ref b25), (.ref b19), (.ref b14), (.int (1 : Int32)), (.ref b40), (.ref b40)])) _
    refine XS.aload X40.here hx rfl (hb hby at_133) rfl rfl ?_
    show Steps p.tables e below (T40.setTop (mkF m 135 #[.val (.int p0), .val (.int p1), .val (.int p2), .val (.int p3), .val (.int (((p0 &&& (2147483647 : Int32)) % (3 : Int32)) + (1 : Int32))), .val (.int (p1 &&& (1 : Int32))), .val (.int ((p2 &&& (2147483647 : Int32)) % (((p0 &&& (2147483647 : Int32)) % (3 : Int32)) + (1 : Int32)))), .val (.ref b1), .val (.ref b14), .val (.ref b19), .val (.ref b25), .val (.ref b32), .unset, .unset] [(.ref b32), (.ref b25), (.ref b19), (.ref b14), (.int (1 : Int32)), (.ref b40), (.ref b40)])) _
    refine XS.iload X40.here hx rfl (hb hby at_135) rfl ?_
    show Steps p.tables e below (T40.setTop (mkF m 137 #[.val (.int p0), .val (.int p1), .val (.int p2), .val (.int p3), .val (.int (((p0 &&& (2147483647 : Int32)) % (3 : Int32)) + (1 : Int32))), .val (.int (p1 &&& (1 : Int32))), .val (.int ((p2 &&& (2147483647 : Int32)) % (((p0 &&& (2147483647 : Int32)) % (3 : Int32)) + (1 : Int32)))), .val (.ref b1), .val (.ref b14), .val (.ref b19), .val (.ref b25), .val (.ref b32), .unset, .unset] [(.int (((p0 &&& (2147483647 : Int32)) % (3 : Int32)) + (1 : Int32))), (.ref b32), (.ref b25), (.ref b19), (.ref b14), (.int (1 : Int32)), (.ref b40), (.ref b40)])) _
    refine XS.aload X40.here hx rfl (hb hby at_137) rfl rfl ?_
    show Steps p.tables e below (T40.setTop (mkF m 139 #[.val (.int p0), .val (.int p1), .val (.int p2), .val (.int p3), .val (.int (((p0 &&& (2147483647 : Int32)) % (3 : Int32)) + (1 : Int32))), .val (.int (p1 &&& (1 : Int32))), .val (.int ((p2 &&& (2147483647 : Int32)) % (((p0 &&& (2147483647 : Int32)) % (3 : Int32)) + (1 : Int32)))), .val (.ref b1), .val (.ref b14), .val (.ref b19), .val (.ref b25), .val (.ref b32), .unset, .unset] [(.ref b1), (.int (((p0 &&& (2147483647 : Int32)) % (3 : Int32)) + (1 : Int32))), (.ref b32), (.ref b25), (.ref b19), (.ref b14), (.int (1 : Int32)), (.ref b40), (.ref b40)])) _
    refine st45.trans ?_
    show Steps p.tables e below (T45.setTop (mkF m 142 #[.val (.int p0), .val (.int p1), .val (.int p2), .val (.int p3), .val (.int (((p0 &&& (2147483647 : Int32)) % (3 : Int32)) + (1 : Int32))), .val (.int (p1 &&& (1 : Int32))), .val (.int ((p2 &&& (2147483647 : Int32)) % (((p0 &&& (2147483647 : Int32)) % (3 : Int32)) + (1 : Int32)))), .val (.ref b1), .val (.ref b14), .val (.ref b19), .val (.ref b25), .val (.ref b32), .unset, .unset] [(.ref b40)])) _
    refine XS.astore X45.here hx rfl (hb hby at_142) rfl rfl (l' := #[.val (.int p0), .val (.int p1), .val (.int p2), .val (.int p3), .val (.int (((p0 &&& (2147483647 : Int32)) % (3 : Int32)) + (1 : Int32))), .val (.int (p1 &&& (1 : Int32))), .val (.int ((p2 &&& (2147483647 : Int32)) % (((p0 &&& (2147483647 : Int32)) % (3 : Int32)) + (1 : Int32)))), .val (.ref b1), .val (.ref b14), .val (.ref b19), .val (.ref b25), .val (.ref b32), .val (.ref b40), .unset]) rfl ?_
    show Steps p.tables e below (T45.setTop (mkF m 144 #[.val (.int p0), .val (.int p1), .val (.int p2), .val (.int p3), .val (.int (((p0 &&& (2147483647 : Int32)) % (3 : Int32)) + (1 : Int32))), .val (.int (p1 &&& (1 : Int32))), .val (.int ((p2 &&& (2147483647 : Int32)) % (((p0 &&& (2147483647 : Int32)) % (3 : Int32)) + (1 : Int32)))), .val (.ref b1), .val (.ref b14), .val (.ref b19), .val (.ref b25), .val (.ref b32), .val (.ref b40), .unset] [])) _
    refine XS.iloadN X45.here hx rfl (hb hby at_144) rfl ?_
    show Steps p.tables e below (T45.setTop (mkF m 145 #[.val (.int p0), .val (.int p1), .val (.int p2), .val (.int p3), .val (.int (((p0 &&& (2147483647 : Int32)) % (3 : Int32)) + (1 : Int32))), .val (.int (p1 &&& (1 : Int32))), .val (.int ((p2 &&& (2147483647 : Int32)) % (((p0 &&& (2147483647 : Int32)) % (3 : Int32)) + (1 : Int32)))), .val (.ref b1), .val (.ref b14), .val (.ref b19), .val (.ref b25), .val (.ref b32), .val (.ref b40), .unset] [(.int p3)])) _
    refine XS.iload X45.here hx rfl (hb hby at_145) rfl ?_
    show Steps p.tables e below (T45.setTop (mkF m 147 #[.val (.int p0), .val (.int p1), .val (.int p2), .val (.int p3), .val (.int (((p0 &&& (2147483647 : Int32)) % (3 : Int32)) + (1 : Int32))), .val (.int (p1 &&& (1 : Int32))), .val (.int ((p2 &&& (2147483647 : Int32)) % (((p0 &&& (2147483647 : Int32)) % (3 : Int32)) + (1 : Int32)))), .val (.ref b1), .val (.ref b14), .val (.ref b19), .val (.ref b25), .val (.ref b32), .val (.ref b40), .unset] [(.int (((p0 &&& (2147483647 : Int32)) % (3 : Int32)) + (1 : Int32))), (.int p3)])) _
    refine XS.iload X45.here hx rfl (hb hby at_147) rfl ?_
    show Steps p.tables e below (T45.setTop (mkF m 149 #[.val (.int p0), .val (.int p1), .val (.int p2), .val (.int p3), .val (.int (((p0 &&& (2147483647 : Int32)) % (3 : Int32)) + (1 : Int32))), .val (.int (p1 &&& (1 : Int32))), .val (.int ((p2 &&& (2147483647 : Int32)) % (((p0 &&& (2147483647 : Int32)) % (3 : Int32)) + (1 : Int32)))), .val (.ref b1), .val (.ref b14), .val (.ref b19), .val (.ref b25), .val (.ref b32), .val (.ref b40), .unset] [(.int (p1 &&& (1 : Int32))), (.int (((p0 &&& (2147483647 : Int32)) % (3 : Int32)) + (1 : Int32))), (.int p3)])) _
    refine XS.iload X45.here hx rfl (hb hby at_149) rfl ?_
    show Steps p.tables e below (T45.setTop (mkF m 151 #[.val (.int p0), .val (.int p1), .val (.int p2), .val (.int p3), .val (.int (((p0 &&& (2147483647 : Int32)) % (3 : Int32)) + (1 : Int32))), .val (.int (p1 &&& (1 : Int32))), .val (.int ((p2 &&& (2147483647 : Int32)) % (((p0 &&& (2147483647 : Int32)) % (3 : Int32)) + (1 : Int32)))), .val (.ref b1), .val (.ref b14), .val (.ref b19), .val (.ref b25), .val (.ref b32), .val (.ref b40), .unset] [(.int ((p2 &&& (2147483647 : Int32)) % (((p0 &&& (2147483647 : Int32)) % (3 : Int32)) + (1 : Int32)))), (.int (p1 &&& (1 : Int32))), (.int (((p0 &&& (2147483647 : Int32)) % (3 : Int32)) + (1 : Int32))), (.int p3)])) _
    refine st46 _ ?_
    show Steps p.tables e below (T46.setTop (mkF m 154 #[.val (.int p0), .val (.int p1), .val (.int p2), .val (.int p3), .val (.int (((p0 &&& (2147483647 : Int32)) % (3 : Int32)) + (1 : Int32))), .val (.int (p1 &&& (1 : Int32))), .val (.int ((p2 &&& (2147483647 : Int32)) % (((p0 &&& (2147483647 : Int32)) % (3 : Int32)) + (1 : Int32)))), .val (.ref b1), .val (.ref b14), .val (.ref b19), .val (.ref b25), .val (.ref b32), .val (.ref b40), .unset] [(.int (F3 (((p0 &&& (2147483647 : Int32)) % (3 : Int32)) + (1 : Int32)) (p1 &&& (1 : Int32)) ((p2 &&& (2147483647 : Int32)) % (((p0 &&& (2147483647 : Int32)) % (3 : Int32)) + (1 : Int32))))), (.int p3)])) _
    refine XS.iadd X46.here hx rfl (hb hby at_154) rfl ?_
    show Steps p.tables e below (T46.setTop (mkF m 155 #[.val (.int p0), .val (.int p1), .val (.int p2), .val (.int p3), .val (.int (((p0 &&& (2147483647 : Int32)) % (3 : Int32)) + (1 : Int32))), .val (.int (p1 &&& (1 : Int32))), .val (.int ((p2 &&& (2147483647 : Int32)) % (((p0 &&& (2147483647 : Int32)) % (3 : Int32)) + (1 : Int32)))), .val (.ref b1), .val (.ref b14), .val (.ref b19), .val (.ref b25), .val (.ref b32), .val (.ref b40), .unset] [(.int (p3 + (F3 (((p0 &&& (2147483647 : Int32)) % (3 : Int32)) + (1 : Int32)) (p1 &&& (1 : Int32)) ((p2 &&& (2147483647 : Int32)) % (((p0 &&& (2147483647 : Int32)) % (3 : Int32)) + (1 : Int32))))))])) _
    refine XS.istore X46.here hx rfl (hb hby at_155) rfl (l' := #[.val (.int p0), .val (.int p1), .val (.int p2), .val (.int p3), .val (.int (((p0 &&& (2147483647 : Int32)) % (3 : Int32)) + (1 : Int32))), .val (.int (p1 &&& (1 : Int32))), .val (.int ((p2 &&& (2147483647 : Int32)) % (((p0 &&& (2147483647 : Int32)) % (3 : Int32)) + (1 : Int32)))), .val (.ref b1), .val (.ref b14), .val (.ref b19), .val (.ref b25), .val (.ref b32), .val (.ref b40), .val (.int (p3 + (F3 (((p0 &&& (2147483647 : Int32)) % (3 : Int32)) + (1 : Int32)) (p1 &&& (1 : Int32)) ((p2 &&& (2147483647 : Int32)) % (((p0 &&& (2147483647 : Int32)) % (3 : Int32)) + (1 : Int32))))))]) rfl ?_
    show Steps p.tables e below (T46.setTop (mkF m 157 #[.val (.int p0), .val (.int p1), .val (.int p2), .val (.int p3), .val (.int (((p0 &&& (2147483647 : Int32)) % (3 : Int32)) + (1 : Int32))), .val (.int (p1 &&& (1 : Int32))), .val (.int ((p2 &&& (2147483647 : Int32)) % (((p0 &&& (2147483647 : Int32)) % (3 : Int32)) + (1 : Int32)))), .val (.ref b1), .val (.ref b14), .val (.ref b19), .val (.ref b25), .val (.ref b32), .val (.ref b40), .val (.int (p3 + (F3 (((p0 &&& (2147483647 : Int32)) % (3 : Int32)) + (1 : Int32)) (p1 &&& (1 : Int32)) ((p2 &&& (2147483647 : Int32)) % (((p0 &&& (2147483647 : Int32)) % (3 : Int32)) + (1 : Int32))))))] [])) _
    refine XS.aload X46.here hx rfl (hb hby at_157) rfl rfl ?_
    show Steps p.tables e below (T46.setTop (mkF m 159 #[.val (.int p0), .val (.int p1), .val (.int p2), .val (.int p3), .val (.int (((p0 &&& (2147483647 : Int32)) % (3 : Int32)) + (1 : Int32))), .val (.int (p1 &&& (1 : Int32))), .val (.int ((p2 &&& (2147483647 : Int32)) % (((p0 &&& (2147483647 : Int32)) % (3 : Int32)) + (1 : Int32)))), .val (.ref b1), .val (.ref b14), .val (.ref b19), .val (.ref b25), .val (.ref b32), .val (.ref b40), .val (.int (p3 + (F3 (((p0 &&& (2147483647 : Int32)) % (3 : Int32)) + (1 : Int32)) (p1 &&& (1 : Int32)) ((p2 &&& (2147483647 : Int32)) % (((p0 &&& (2147483647 : Int32)) % (3 : Int32)) + (1 : Int32))))))] [(.ref b40)])) _
    refine XS.iload X46.here hx rfl (hb hby at_159) rfl ?_
    show Steps p.tables e below (T46.setTop (mkF m 161 #[.val (.int p0), .val (.int p1), .val (.int p2), .val (.int p3), .val (.int (((p0 &&& (2147483647 : Int32)) % (3 : Int32)) + (1 : Int32))), .val (.int (p1 &&& (1 : Int32))), .val (.int ((p2 &&& (2147483647 : Int32)) % (((p0 &&& (2147483647 : Int32)) % (3 : Int32)) + (1 : Int32)))), .val (.ref b1), .val (.ref b14), .val (.ref b19), .val (.ref b25), .val (.ref b32), .val (.ref b40), .val (.int (p3 + (F3 (((p0 &&& (2147483647 : Int32)) % (3 : Int32)) + (1 : Int32)) (p1 &&& (1 : Int32)) ((p2 &&& (2147483647 : Int32)) % (((p0 &&& (2147483647 : Int32)) % (3 : Int32)) + (1 : Int32))))))] [(.int (p1 &&& (1 : Int32))), (.ref b40)])) _
    refine XS.iload X46.here hx rfl (hb hby at_161) rfl ?_
    show Steps p.tables e below (T46.setTop (mkF m 163 #[.val (.int p0), .val (.int p1), .val (.int p2), .val (.int p3), .val (.int (((p0 &&& (2147483647 : Int32)) % (3 : Int32)) + (1 : Int32))), .val (.int (p1 &&& (1 : Int32))), .val (.int ((p2 &&& (2147483647 : Int32)) % (((p0 &&& (2147483647 : Int32)) % (3 : Int32)) + (1 : Int32)))), .val (.ref b1), .val (.ref b14), .val (.ref b19), .val (.ref b25), .val (.ref b32), .val (.ref b40), .val (.int (p3 + (F3 (((p0 &&& (2147483647 : Int32)) % (3 : Int32)) + (1 : Int32)) (p1 &&& (1 : Int32)) ((p2 &&& (2147483647 : Int32)) % (((p0 &&& (2147483647 : Int32)) % (3 : Int32)) + (1 : Int32))))))] [(.int ((p2 &&& (2147483647 : Int32)) % (((p0 &&& (2147483647 : Int32)) % (3 : Int32)) + (1 : Int32)))), (.int (p1 &&& (1 : Int32))), (.ref b40)])) _
    refine st47.trans ?_
    show Steps p.tables e below (T47.setTop (mkF m 166 #[.val (.int p0), .val (.int p1), .val (.int p2), .val (.int p3), .val (.int (((p0 &&& (2147483647 : Int32)) % (3 : Int32)) + (1 : Int32))), .val (.int (p1 &&& (1 : Int32))), .val (.int ((p2 &&& (2147483647 : Int32)) % (((p0 &&& (2147483647 : Int32)) % (3 : Int32)) + (1 : Int32)))), .val (.ref b1), .val (.ref b14), .val (.ref b19), .val (.ref b25), .val (.ref b32), .val (.ref b40), .val (.int (p3 + (F3 (((p0 &&& (2147483647 : Int32)) % (3 : Int32)) + (1 : Int32)) (p1 &&& (1 : Int32)) ((p2 &&& (2147483647 : Int32)) % (((p0 &&& (2147483647 : Int32)) % (3 : Int32)) + (1 : Int32))))))] [(.int (F4 (p1 &&& (1 : Int32)) ((p2 &&& (2147483647 : Int32)) % (((p0 &&& (2147483647 : Int32)) % (3 : Int32)) + (1 : Int32))) (((p0 &&& (2147483647 : Int32)) % (3 : Int32)) + (1 : Int32)) [p3, (p3 + (1 : Int32)), (p3 + (2 : Int32)), (p3 + (3 : Int32)), (p3 + (4 : Int32)), (p3 + (5 : Int32))] (6 : Int32)))])) _
    refine XS.iload X47.here hx rfl (hb hby at_166) rfl ?_
    exact k)
  by_cases hc168_50 : (F4 (p1 &&& (1 : Int32)) ((p2 &&& (2147483647 : Int32)) % (((p0 &&& (2147483647 : Int32)) % (3 : Int32)) + (1 : Int32))) (((p0 &&& (2147483647 : Int32)) % (3 : Int32)) + (1 : Int32)) [p3, (p3 + (1 : Int32)), (p3 + (2 : Int32)), (p3 + (3 : Int32)), (p3 + (4 : Int32)), (p3 + (5 : Int32))] (6 : Int32)) = (p3 + (F3 (((p0 &&& (2147483647 : Int32)) % (3 : Int32)) + (1 : Int32)) (p1 &&& (1 : Int32)) ((p2 &&& (2147483647 : Int32)) % (((p0 &&& (2147483647 : Int32)) % (3 : Int32)) + (1 : Int32)))))
  · have pre51 : ∀ t, Steps p.tables e below (T47.setTop (mkF m 176 #[.val (.int p0), .val (.int p1), .val (.int p2), .val (.int p3), .val (.int (((p0 &&& (2147483647 : Int32)) % (3 : Int32)) + (1 : Int32))), .val (.int (p1 &&& (1 : Int32))), .val (.int ((p2 &&& (2147483647 : Int32)) % (((p0 &&& (2147483647 : Int32)) % (3 : Int32)) + (1 : Int32)))), .val (.ref b1), .val (.ref b14), .val (.ref b19), .val (.ref b25), .val (.ref b32), .val (.ref b40), .val (.int (p3 + (F3 (((p0 &&& (2147483647 : Int32)) % (3 : Int32)) + (1 : Int32)) (p1 &&& (1 : Int32)) ((p2 &&& (2147483647 : Int32)) % (((p0 &&& (2147483647 : Int32)) % (3 : Int32)) + (1 : Int32))))))] [(.int (1 : Int32))])) t → Steps p.tables e below (s₁.setTop (entryFrame m #[(.int p0), (.int p1), (.int p2), (.int p3)] maxLocals)) t := fun t k => pre49 t (by
      show Steps p.tables e below (T47.setTop (mkF m 168 #[.val (.int p0), .val (.int p1), .val (.int p2), .val (.int p3), .val (.int (((p0 &&& (2147483647 : Int32)) % (3 : Int32)) + (1 : Int32))), .val (.int (p1 &&& (1 : Int32))), .val (.int ((p2 &&& (2147483647 : Int32)) % (((p0 &&& (2147483647 : Int32)) % (3 : Int32)) + (1 : Int32)))), .val (.ref b1), .val (.ref b14), .val (.ref b19), .val (.ref b25), .val (.ref b32), .val (.ref b40), .val (.int (p3 + (F3 (((p0 &&& (2147483647 : Int32)) % (3 : Int32)) + (1 : Int32)) (p1 &&& (1 : Int32)) ((p2 &&& (2147483647 : Int32)) % (((p0 &&& (2147483647 : Int32)) % (3 : Int32)) + (1 : Int32))))))] [(.int (p3 + (F3 (((p0 &&& (2147483647 : Int32)) % (3 : Int32)) + (1 : Int32)) (p1 &&& (1 : Int32)) ((p2 &&& (2147483647 : Int32)) % (((p0 &&& (2147483647 : Int32)) % (3 : Int32)) + (1 : Int32)))))), (.int (F4 (p1 &&& (1 : Int32)) ((p2 &&& (2147483647 : Int32)) % (((p0 &&& (2147483647 : Int32)) % (3 : Int32)) + (1 : Int32))) (((p0 &&& (2147483647 : Int32)) % (3 : Int32)) + (1 : Int32)) [p3, (p3 + (1 : Int32)), (p3 + (2 : Int32)), (p3 + (3 : Int32)), (p3 + (4 : Int32)), (p3 + (5 : Int32))] (6 : Int32)))])) _
      refine XS.icmpNo X47.here hx rfl (hb hby at_168) rfl (teq hc168_50).2 ?_
      show Steps p.tables e below (T47.setTop (mkF m 171 #[.val (.int p0), .val (.int p1), .val (.int p2), .val (.int p3), .val (.int (((p0 &&& (2147483647 : Int32)) % (3 : Int32)) + (1 : Int32))), .val (.int (p1 &&& (1 : Int32))), .val (.int ((p2 &&& (2147483647 : Int32)) % (((p0 &&& (2147483647 : Int32)) % (3 : Int32)) + (1 : Int32)))), .val (.ref b1), .val (.ref b14), .val (.ref b19), .val (.ref b25), .val (.ref b32), .val (.ref b40), .val (.int (p3 + (F3 (((p0 &&& (2147483647 : Int32)) % (3 : Int32)) + (1 : Int32)) (p1 &&& (1 : Int32)) ((p2 &&& (2147483647 : Int32)) % (((p0 &&& (2147483647 : Int32)) % (3 : Int32)) + (1 : Int32))))))] [])) _
      refine XS.iconst X47.here hx rfl (hb hby at_171) ?_
      show Steps p.tables e below (T47.setTop (mkF m 172 #[.val (.int p0), .val (.int p1), .val (.int p2), .val (.int p3), .val (.int (((p0 &&& (2147483647 : Int32)) % (3 : Int32)) + (1 : Int32))), .val (.int (p1 &&& (1 : Int32))), .val (.int ((p2 &&& (2147483647 : Int32)) % (((p0 &&& (2147483647 : Int32)) % (3 : Int32)) + (1 : Int32)))), .val (.ref b1), .val (.ref b14), .val (.ref b19), .val (.ref b25), .val (.ref b32), .val (.ref b40), .val (.int (p3 + (F3 (((p0 &&& (2147483647 : Int32)) % (3 : Int32)) + (1 : Int32)) (p1 &&& (1 : Int32)) ((p2 &&& (2147483647 : Int32)) % (((p0 &&& (2147483647 : Int32)) % (3 : Int32)) + (1 : Int32))))))] [(.int (1 : Int32))])) _
      refine XS.goto X47.here hx rfl (pc0 := 172) (pc' := 176) rfl (hb hby at_172) (by decide) (by decide) ?_
      exact k)
    obtain ⟨fs, hr, hrun, hended, hW, hsame⟩ := X47.leave (v := some (.int (1 : Int32))) (fun h => by rw [Bd.returns] at h; cases h)
    have hF : (F0 p0 p1 p2 p3) = (1 : Int32) := by unfold F0; rw [if_pos hc168_50]
    exact ⟨_, _, pre51 _ (retN X47 hx (t := .boolean) Bd.returns (by simp) (hb hby at_176) hr), hrun, hended, _, _, rfl, ⟨by rw [hF], N47⟩, ⟨_, rfl⟩, hW, hsame.mono (by decide) (by decide)⟩
  have pre52 : ∀ t, Steps p.tables e below (T47.setTop (mkF m 176 #[.val (.int p0), .val (.int p1), .val (.int p2), .val (.int p3), .val (.int (((p0 &&& (2147483647 : Int32)) % (3 : Int32)) + (1 : Int32))), .val (.int (p1 &&& (1 : Int32))), .val (.int ((p2 &&& (2147483647 : Int32)) % (((p0 &&& (2147483647 : Int32)) % (3 : Int32)) + (1 : Int32)))), .val (.ref b1), .val (.ref b14), .val (.ref b19), .val (.ref b25), .val (.ref b32), .val (.ref b40), .val (.int (p3 + (F3 (((p0 &&& (2147483647 : Int32)) % (3 : Int32)) + (1 : Int32)) (p1 &&& (1 : Int32)) ((p2 &&& (2147483647 : Int32)) % (((p0 &&& (2147483647 : Int32)) % (3 : Int32)) + (1 : Int32))))))] [(.int (0 : Int32))])) t → Steps p.tables e below (s₁.setTop (entryFrame m #[(.int p0), (.int p1), (.int p2), (.int p3)] maxLocals)) t := fun t k => pre49 t (by
    show Steps p.tables e below (T47.setTop (mkF m 168 #[.val (.int p0), .val (.int p1), .val (.int p2), .val (.int p3), .val (.int (((p0 &&& (2147483647 : Int32)) % (3 : Int32)) + (1 : Int32))), .val (.int (p1 &&& (1 : Int32))), .val (.int ((p2 &&& (2147483647 : Int32)) % (((p0 &&& (2147483647 : Int32)) % (3 : Int32)) + (1 : Int32)))), .val (.ref b1), .val (.ref b14), .val (.ref b19), .val (.ref b25), .val (.ref b32), .val (.ref b40), .val (.int (p3 + (F3 (((p0 &&& (2147483647 : Int32)) % (3 : Int32)) + (1 : Int32)) (p1 &&& (1 : Int32)) ((p2 &&& (2147483647 : Int32)) % (((p0 &&& (2147483647 : Int32)) % (3 : Int32)) + (1 : Int32))))))] [(.int (p3 + (F3 (((p0 &&& (2147483647 : Int32)) % (3 : Int32)) + (1 : Int32)) (p1 &&& (1 : Int32)) ((p2 &&& (2147483647 : Int32)) % (((p0 &&& (2147483647 : Int32)) % (3 : Int32)) + (1 : Int32)))))), (.int (F4 (p1 &&& (1 : Int32)) ((p2 &&& (2147483647 : Int32)) % (((p0 &&& (2147483647 : Int32)) % (3 : Int32)) + (1 : Int32))) (((p0 &&& (2147483647 : Int32)) % (3 : Int32)) + (1 : Int32)) [p3, (p3 + (1 : Int32)), (p3 + (2 : Int32)), (p3 + (3 : Int32)), (p3 + (4 : Int32)), (p3 + (5 : Int32))] (6 : Int32)))])) _
    refine XS.icmpYes X47.here hx rfl (pc0 := 168) (pc' := 175) rfl (hb hby at_168) rfl (feq hc168_50).2 (by decide) (by decide) ?_
    show Steps p.tables e below (T47.setTop (mkF m 175 #[.val (.int p0), .val (.int p1), .val (.int p2), .val (.int p3), .val (.int (((p0 &&& (2147483647 : Int32)) % (3 : Int32)) + (1 : Int32))), .val (.int (p1 &&& (1 : Int32))), .val (.int ((p2 &&& (2147483647 : Int32)) % (((p0 &&& (2147483647 : Int32)) % (3 : Int32)) + (1 : Int32)))), .val (.ref b1), .val (.ref b14), .val (.ref b19), .val (.ref b25), .val (.ref b32), .val (.ref b40), .val (.int (p3 + (F3 (((p0 &&& (2147483647 : Int32)) % (3 : Int32)) + (1 : Int32)) (p1 &&& (1 : Int32)) ((p2 &&& (2147483647 : Int32)) % (((p0 &&& (2147483647 : Int32)) % (3 : Int32)) + (1 : Int32))))))] [])) _
    refine XS.iconst X47.here hx rfl (hb hby at_175) ?_
    exact k)
  obtain ⟨fs, hr, hrun, hended, hW, hsame⟩ := X47.leave (v := some (.int (0 : Int32))) (fun h => by rw [Bd.returns] at h; cases h)
  have hF : (F0 p0 p1 p2 p3) = (0 : Int32) := by unfold F0; rw [if_neg hc168_50]
  exact ⟨_, _, pre52 _ (retN X47 hx (t := .boolean) Bd.returns (by simp) (hb hby at_176) hr), hrun, hended, _, _, rfl, ⟨by rw [hF], N47⟩, ⟨_, rfl⟩, hW, hsame.mono (by decide) (by decide)⟩
theorem own_at (x n c k v : Int32) (i : Nat) (h1 : ((c * n) + k).toNatClampNeg = i) (h2 : [x, x + 1, x + 2, x + 3, x + 4, x + 5].getD i 0 = x + F3 n c k) : F4 c k n [x, (x + (1 : Int32)), (x + (2 : Int32)), (x + (3 : Int32)), (x + (4 : Int32)), (x + (5 : Int32))] (6 : Int32) = x + F3 n c k := by
  unfold F4; rw [h1]; exact h2
theorem own_law (p0 p1 p2 p3 : Int32) : F0 p0 p1 p2 p3 = 1 := by
  unfold F0
  rw [if_pos]
  refine own_all p0 p1 p2 (P := fun n c k => F4 c k n [p3, (p3 + (1 : Int32)), (p3 + (2 : Int32)), (p3 + (3 : Int32)), (p3 + (4 : Int32)), (p3 + (5 : Int32))] (6 : Int32) = p3 + F3 n c k) ⟨?_, ?_, ?_, ?_, ?_, ?_, ?_, ?_, ?_, ?_, ?_, ?_⟩
  · exact (Int32.add_zero p3).symm
  · rfl
  · exact (Int32.add_zero p3).symm
  · rfl
  · rfl
  · rfl
  · exact (Int32.add_zero p3).symm
  · rfl
  · rfl
  · rfl
  · rfl
  · rfl
set_option maxRecDepth 65536 in
set_option maxHeartbeats 40000000 in
theorem comes_1 {Post : Tables → Env → Array Value → State → Outcome → State → Prop} (hpost : ∀ tb e args s v u, (limb_1_1.after args s (.returned v) u = true ∧ limb_1_2.after args s (.returned v) u = true ∧ True) → FrameEnd s (.returned v) u (Jvm.fieldLocs frame_1_writes args s ++ Jvm.arrayLocs frame_1_arrays args s ++ Jvm.staticLocs frame_1_statics s) 24 128 → Post tb e args s (.returned v) u) :
    ArmFor flags0 classFile x code maxLocals ret World_1 tables_1 room_1 Calls_1 rest_1 Pre_1 Post := by
  intro l hfl _ _ p e ha hc hk s m args below hf hA hF happ hP
  obtain ⟨hcalls, hrest, hpre⟩ := hP
  obtain ⟨-, -, -, hnamed, -, -, -, hat⟩ := (Spec.applies_iff hf).mp happ
  obtain ⟨hg, hn⟩ := and_e (Cond.before_iff.mp (show (Jvm.Cond.and given_1 narrow_1).before args s = true from hpre))
  obtain ⟨hcount, g0⟩ := and_e hg
  obtain ⟨ga0, g1⟩ := and_e g0
  obtain ⟨ga1, g2⟩ := and_e g1
  obtain ⟨ga2, g3⟩ := and_e g2
  obtain ⟨w0, w1, w2, w3, rfl⟩ : ∃ w0 w1 w2 w3 : Value, args = #[w0, w1, w2, w3] := by
    have hs : args.size = 4 := by simpa [Cond.value, given_1] using hcount
    obtain ⟨L⟩ := args
    match L, hs with
    | [w0, w1, w2, w3], _ => exact ⟨w0, w1, w2, w3, rfl⟩
  have hw := fun d (hd : d ∈ tables_1) => atoms_spec (ws := Jvm.Cond.code x code maxLocals ret :: tables_1) hat d (List.mem_cons_of_mem _ hd)
  obtain ⟨i0, ei0⟩ := is_v ga0
  obtain rfl : w0 = (.int i0) := Option.some.inj ei0
  obtain ⟨i1, ei1⟩ := is_v ga1
  obtain rfl : w1 = (.int i1) := Option.some.inj ei1
  obtain ⟨i2, ei2⟩ := is_v ga2
  obtain rfl : w2 = (.int i2) := Option.some.inj ei2
  obtain ⟨i3, ei3⟩ := is_v g3
  obtain rfl : w3 = (.int i3) := Option.some.inj ei3
  obtain ⟨n, o, h1, h2, h3, _, L, rfl, ⟨rfl, N⟩, hq⟩ := rm0 l s _ hw tables_1 i0 i1 i2 i3 s.heap s.heap.size (Nat.le_refl _) p e ha hc hk s m _ below hf ((Spec.applies_iff_loose hf).mp happ).1 ⟨rfl, State.Warmed39.refl s, rfl⟩ trivial
  have hlaw := own_law i0 i1 i2 i3
  refine ⟨n, _, h1, h2, h3, hpost _ _ _ _ _ _ ⟨Cond.after_iff.mpr rfl, Cond.after_iff.mpr (eq_i res_at (Term.int_eval (1)) (congrArg Value.int hlaw)), trivial⟩ ⟨hq.1, hq.2.1, (hq.2.2.sift fun y hy => Or.inr (N y hy)).mono (by decide) (by decide)⟩⟩
theorem main_1_1 : Claimed_1_1 := comes_1 fun _ _ _ _ _ _ h hF => ⟨h.1, hF⟩
theorem main_1_2 : Claimed_1_2 := comes_1 fun _ _ _ _ _ _ h hF => ⟨h.2.1, hF⟩
end Jvm.Pilot.@@N@@
namespace Jvm.Pilot.@@N@@
open Jvm Jvm.ClassFile Sem Op Lib Jvm.Free Jvm.Stand Jvm.Pilot.@@N@@.Jvm.D
/-! MADE BY PROGRAM (witnessworld.py) out of the Statement's table words and the real class files: 11 classes; the members and pool entries that the words name. The judged class is class 1, her method 1. -/
namespace start1
open Jvm.ClassFile
def u (s : String) : CpInfo := .utf8 (stringToUtf16 s)
/-- a pool by its gaps: so many unusable entries, then the entry; so many at the end -/
def gap : Nat → List CpInfo → List CpInfo
  | 0, r => r
  | n + 1, r => .unusable :: gap n r
def poolList (es : List (Nat × CpInfo)) (last : Nat) : List CpInfo := es.foldr (fun e r => gap e.1 (e.2 :: r)) (gap last [])
def pool (es : List (Nat × CpInfo)) (last : Nat) : Array CpInfo := ⟨poolList es last⟩
def fileOf (pool : Array CpInfo) (this : Nat) (attrs : Array Attribute := #[]) (ms : Array MethodInfo := #[]) (fl : Nat := 33) (sup : Nat := 0) (ifs : Array Nat := #[]) (fds : Array FieldInfo := #[]) : ClassFile where
  minorVersion := 0
  majorVersion := 65
  constantPool := pool
  accessFlags := fl
  thisClass := this
  superClass := sup
  interfaces := ifs
  fields := fds
  methods := ms
  attributes := attrs
def plain (name : String) (sup : Option ClassId) : Class where
  name := name
  kind := .ordinary
  loader := none
  accessFlags := 33
  super := sup
  interfaces := #[]
  cf := none
  fields := #[]
  methods := #[]
  instanceTypes := #[]
  staticTypes := #[]
  resolved := #[]
  callSites := []
  init := .initialized
  statics := none
  mirror := none

def pool0 : Array CpInfo := pool [(5, u "<init>"), (0, u "()V"), (1, .class_ 10), (1, u "java/lang/Object")] 113

def k0c0 : Code := { maxStack := 0, maxLocals := 1, code := object_method_1_code, exceptionTable := #[], attributes := #[] }
def k0m0 : Method := { name := "<init>", desc := "()V", sig := { parameters := [], returnType := none }, accessFlags := 1, code := some k0c0 }
/-- java/lang/Object -/
def k0 : Class := { plain "java/lang/Object" none with
  accessFlags := 33
  interfaces := #[]
  cf := some (fileOf pool0 8 #[] #[{ accessFlags := 1, nameIndex := 5, descriptorIndex := 6, attributes := #[] }] 33 0 #[] #[])
  fields := #[]
  methods := #[k0m0]
  instanceTypes := #[]
  staticTypes := #[]
  resolved := Array.replicate 124 none
  statics := none }

def pool1 : Array CpInfo := pool [(2, .class_ 4), (1, u "java/lang/Object"), (0, u "<init>"), (0, u "()V"), (0, .integer 2147483647), (0, .class_ 9), (0, u "com/example/frugal_synth/frugalsynth/Arena"), (0, .methodref 8 11), (0, .nameAndType 5 12), (0, u "(I[I[I[I[JI[I)V"), (0, .methodref 14 15), (0, .class_ 16), (0, .nameAndType 17 18), (0, u "com/example/frugal_synth/frugalsynth/ArenaPriorityPinLaw"), (0, u "slot"), (0, u "(III)I"), (0, .methodref 8 20), (0, .nameAndType 21 22), (0, u "priority"), (0, u "(II)I"), (2, u "law"), (0, u "(IIII)Z")] 7

def k1m0 : Method := { name := "<init>", desc := "()V", sig := { parameters := [], returnType := none }, accessFlags := 1, code := none }
def k1c1 : Code := { maxStack := 9, maxLocals := 14, code := code, exceptionTable := #[], attributes := #[] }
def k1m1 : Method := { name := "law", desc := "(IIII)Z", sig := { parameters := [.int, .int, .int, .int], returnType := some .boolean }, accessFlags := 9, code := some k1c1 }
def k1c2 : Code := { maxStack := 2, maxLocals := 3, code := method_3_code, exceptionTable := #[], attributes := #[] }
def k1m2 : Method := { name := "slot", desc := "(III)I", sig := { parameters := [.int, .int, .int], returnType := some .int }, accessFlags := 10, code := some k1c2 }
/-- com/example/frugal_synth/frugalsynth/ArenaPriorityPinLaw -/
def k1 : Class := { plain "com/example/frugal_synth/frugalsynth/ArenaPriorityPinLaw" (some 0) with
  accessFlags := 49
  interfaces := #[]
  cf := some (fileOf pool1 14 #[] #[{ accessFlags := 1, nameIndex := 5, descriptorIndex := 6, attributes := #[] }, { accessFlags := 9, nameIndex := 25, descriptorIndex := 26, attributes := #[] }, { accessFlags := 10, nameIndex := 17, descriptorIndex := 18, attributes := #[] }] 49 2 #[] #[])
  fields := #[]
  methods := #[k1m0, k1m1, k1m2]
  instanceTypes := #[]
  staticTypes := #[]
  resolved := Array.replicate 34 none
  statics := none }

def pool2 : Array CpInfo := pool [(1, .methodref 2 3), (0, .class_ 4), (0, .nameAndType 5 6), (0, u "java/lang/Object"), (0, u "<init>"), (0, u "()V"), (0, .fieldref 8 9), (0, .class_ 10), (0, .nameAndType 11 12), (0, u "com/example/frugal_synth/frugalsynth/Arena"), (0, u "assignmentCount"), (0, u "I"), (0, .fieldref 8 14), (0, .nameAndType 15 16), (0, u "firstChoice"), (0, u "[I"), (0, .fieldref 8 18), (0, .nameAndType 19 16), (0, u "outputs"), (0, .fieldref 8 21), (0, .nameAndType 22 16), (0, u "targets"), (0, .fieldref 8 24), (0, .nameAndType 25 26), (0, u "weights"), (0, u "[J"), (0, .fieldref 8 28), (0, .nameAndType 29 12), (0, u "parityCount"), (0, .fieldref 8 31), (0, .nameAndType 32 16), (0, u "priorities"), (28, .class_ 62), (0, u "com/example/frugal_synth/frugalsynth/Arena$Builder"), (54, u "predecessors"), (10, .class_ 130), (1, u "com/example/frugal_synth/frugalsynth/Arena$Predecessors"), (12, u "(II)I"), (25, u "Lcom/example/frugal_synth/frugalsynth/Arena$Predecessors;"), (3, u "UNUSED"), (0, u "B"), (2, u "LEADS"), (1, u "REACHES"), (1, u "AVOIDS"), (1, u "(I[I[I[I[JI[I)V"), (8, u "priority")] 38

def k2c0 : Code := { maxStack := 2, maxLocals := 8, code := prog_2_method_1_code, exceptionTable := #[], attributes := #[] }
def k2m0 : Method := { name := "<init>", desc := "(I[I[I[I[JI[I)V", sig := { parameters := [.int, (.array .int), (.array .int), (.array .int), (.array .long), .int, (.array .int)], returnType := none }, accessFlags := 0, code := some k2c0 }
def k2c1 : Code := { maxStack := 3, maxLocals := 3, code := prog_2_method_12_code, exceptionTable := #[], attributes := #[] }
def k2m1 : Method := { name := "priority", desc := "(II)I", sig := { parameters := [.int, .int], returnType := some .int }, accessFlags := 0, code := some k2c1 }
/-- com/example/frugal_synth/frugalsynth/Arena -/
def k2 : Class := { plain "com/example/frugal_synth/frugalsynth/Arena" (some 0) with
  accessFlags := 32
  interfaces := #[]
  cf := some (fileOf pool2 8 #[.nestMembers #[61, 128]] #[{ accessFlags := 0, nameIndex := 5, descriptorIndex := 183, attributes := #[] }, { accessFlags := 0, nameIndex := 192, descriptorIndex := 143, attributes := #[] }] 32 2 #[] #[{ accessFlags := 24, nameIndex := 173, descriptorIndex := 174, attributes := #[] }, { accessFlags := 24, nameIndex := 177, descriptorIndex := 174, attributes := #[] }, { accessFlags := 24, nameIndex := 179, descriptorIndex := 174, attributes := #[] }, { accessFlags := 24, nameIndex := 181, descriptorIndex := 174, attributes := #[] }, { accessFlags := 18, nameIndex := 11, descriptorIndex := 12, attributes := #[] }, { accessFlags := 18, nameIndex := 15, descriptorIndex := 16, attributes := #[] }, { accessFlags := 18, nameIndex := 19, descriptorIndex := 16, attributes := #[] }, { accessFlags := 18, nameIndex := 22, descriptorIndex := 16, attributes := #[] }, { accessFlags := 18, nameIndex := 25, descriptorIndex := 26, attributes := #[] }, { accessFlags := 18, nameIndex := 29, descriptorIndex := 12, attributes := #[] }, { accessFlags := 18, nameIndex := 32, descriptorIndex := 16, attributes := #[] }, { accessFlags := 2, nameIndex := 117, descriptorIndex := 169, attributes := #[] }])
  fields := #[{ name := "UNUSED", type := .byte, accessFlags := 24, slot := 0, constantValue := 0 }, { name := "LEADS", type := .byte, accessFlags := 24, slot := 1, constantValue := 0 }, { name := "REACHES", type := .byte, accessFlags := 24, slot := 2, constantValue := 0 }, { name := "AVOIDS", type := .byte, accessFlags := 24, slot := 3, constantValue := 0 }, { name := "assignmentCount", type := .int, accessFlags := 18, slot := 0, constantValue := 0 }, { name := "firstChoice", type := (.array .int), accessFlags := 18, slot := 1, constantValue := 0 }, { name := "outputs", type := (.array .int), accessFlags := 18, slot := 2, constantValue := 0 }, { name := "targets", type := (.array .int), accessFlags := 18, slot := 3, constantValue := 0 }, { name := "weights", type := (.array .long), accessFlags := 18, slot := 4, constantValue := 0 }, { name := "parityCount", type := .int, accessFlags := 18, slot := 5, constantValue := 0 }, { name := "priorities", type := (.array .int), accessFlags := 18, slot := 6, constantValue := 0 }, { name := "predecessors", type := (.object "com/example/frugal_synth/frugalsynth/Arena$Predecessors"), accessFlags := 2, slot := 7, constantValue := 0 }]
  methods := #[k2m0, k2m1]
  instanceTypes := #[.int, (.array .int), (.array .int), (.array .int), (.array .long), .int, (.array .int), (.object "com/example/frugal_synth/frugalsynth/Arena$Predecessors")]
  staticTypes := #[.byte, .byte, .byte, .byte]
  resolved := Array.replicate 231 none
  statics := none }

def pool3 : Array CpInfo := pool [(1, u "java/lang/Cloneable"), (0, .class_ 1), (0, u "java/lang/Object"), (0, .class_ 3)] 3

/-- java/lang/Cloneable -/
def k3 : Class := { plain "java/lang/Cloneable" (some 0) with
  accessFlags := 1537
  interfaces := #[]
  cf := some (fileOf pool3 2 #[] #[] 1537 4 #[] #[])
  fields := #[]
  methods := #[]
  instanceTypes := #[]
  staticTypes := #[]
  resolved := Array.replicate 8 none
  statics := none }

def pool4 : Array CpInfo := pool [(1, u "java/io/Serializable"), (0, .class_ 1), (0, u "java/lang/Object"), (0, .class_ 3)] 3

/-- java/io/Serializable -/
def k4 : Class := { plain "java/io/Serializable" (some 0) with
  accessFlags := 1537
  interfaces := #[]
  cf := some (fileOf pool4 2 #[] #[] 1537 4 #[] #[])
  fields := #[]
  methods := #[]
  instanceTypes := #[]
  staticTypes := #[]
  resolved := Array.replicate 8 none
  statics := none }

/-- the primitive byte -/
def k5 : Class := { plain "byte" none with kind := .primitive 'B', accessFlags := 0x411 }
/-- [B -/
def k6 : Class := { plain "[B" (some 0) with kind := .array 5 .byte, interfaces := #[3, 4], accessFlags := 1041 }

/-- the primitive int -/
def k7 : Class := { plain "int" none with kind := .primitive 'I', accessFlags := 0x411 }
/-- [I -/
def k8 : Class := { plain "[I" (some 0) with kind := .array 7 .int, interfaces := #[3, 4], accessFlags := 1041 }

/-- the primitive long -/
def k9 : Class := { plain "long" none with kind := .primitive 'J', accessFlags := 0x411 }
/-- [J -/
def k10 : Class := { plain "[J" (some 0) with kind := .array 9 .long, interfaces := #[3, 4], accessFlags := 1041 }

def heap : Heap := #[]
def classes : Array Class := #[k0, k1, k2, k3, k4, k5, k6, k7, k8, k9, k10]
def interned : List (Array UInt16 × Addr) := []
def slotsUsed : Nat := 0
def theMethod : MethodId := ⟨1, 1⟩
def args0 : Array Value := #[.int 7, .int 7, .int 7, .int 7]
def aboutOver (below : List Frame) : State where
  vm := { classes := classes, interned := interned.toArray }
  heap := heap
  slotsUsed := slotsUsed
  threads := #[{ frames := .invoking theMethod args0 :: below }]
def below0 : List Frame := [.native { method := ⟨0, 0⟩, args := #[] }]
def about1 : State := aboutOver below0
def p0 : Program := .bare "" "" ""
def e0 : Env := launch0.env 0 0 0
theorem w_frames : about1.frames = Frame.invoking theMethod args0 :: below0 := rfl
set_option maxRecDepth 65536 in
theorem w_args : argsFit about1.vm theMethod args0 = true := by decide +kernel
set_option maxRecDepth 65536 in
theorem w_heap : heapFits about1 = true := by decide +kernel
set_option maxRecDepth 65536 in
theorem w_runnable : about1.curStatus? = some .runnable := by decide +kernel
set_option maxRecDepth 65536 in
theorem w_alone : about1.alone = true := by decide +kernel
set_option maxRecDepth 65536 in
theorem w_named : about1.methodNamed? x = some theMethod := by decide +kernel
set_option maxRecDepth 65536 in
theorem w_hears : about1.hears theMethod below0 = true := by decide +kernel
set_option maxRecDepth 65536 in
theorem w_ripe : about1.ripe theMethod args0 below0 = true := by decide +kernel
theorem w_running : about1.status = .running := rfl
set_option maxRecDepth 65536 in
theorem w_room : about1.hasRoom e0.platform room_1 = true :=
  launch0.hasRoom_least _ room_1 (by decide +kernel) (by decide +kernel) (by decide +kernel) (by decide +kernel) (by decide +kernel) (by decide +kernel)
theorem allAtoms_all (ts : List Jvm.Cond) (a : Array Jvm.Value) (st : Jvm.State) : (allAtoms ts).before a st = ts.all (fun c => c.before a st) := by
  induction ts with
  | nil => rfl
  | cons c t ih =>
    show (Jvm.Cond.and c (allAtoms t)).before a st = _
    rw [Jvm.Cond.before_and, ih, List.all_cons]
def words1 : List Jvm.Cond := Jvm.Cond.code x code maxLocals ret :: tables_1
/-- a 'code' word, met by the world's own term for the bytes: nothing is compared byte by byte -/
theorem code_word {y : MethodName} {bytes : ByteArray} {mx : Nat} {rt : Option FieldType} {a : Array Value} {s : State} {m : MethodId} {meth : Method} {c : Code} (h1 : s.methodNamed? y = some m) (h2 : s.vm.method? m = some meth) (h3 : meth.code = some c) (h4 : c.code = bytes)
    (h5 : (c.maxLocals == mx && c.exceptionTable.isEmpty && decide (c.maxStack ≤ mostOperands) && decide (meth.sig.returnType = rt) && !meth.locks && decide (parseMethodDescriptor y.desc = some meth.sig)) = true) : (Jvm.Cond.code y bytes mx rt).before a s = true := by
  simp only [Bool.and_eq_true, beq_iff_eq, Bool.not_eq_true', decide_eq_true_eq] at h5
  obtain ⟨⟨⟨⟨⟨g1, g2⟩, g3⟩, g4⟩, g5⟩, g6⟩ := h5
  simp [Cond.before, Cond.holds, Cond.value, h1, h2, h3, h4, g1, g2, g3, g4, g5, g6]
def isCode : Jvm.Cond → Bool
  | .code _ _ _ _ => true
  | _ => false
theorem all_split {L : List Jvm.Cond} {P : Jvm.Cond → Bool} (h1 : L.all (fun c => isCode c || P c) = true) (h2 : ∀ c ∈ L.filter isCode, P c = true) : L.all P = true := by
  refine List.all_eq_true.mpr fun c hc => ?_
  have h := List.all_eq_true.mp h1 c hc
  rcases Bool.eq_false_or_eq_true (isCode c) with hi | hi
  · exact h2 c (List.mem_filter.mpr ⟨hc, hi⟩)
  · simpa [hi] using h
set_option maxRecDepth 65536 in
theorem w_c0 : (Jvm.Cond.code x code maxLocals ret).before args0 about1 = true := code_word (m := ⟨1, 1⟩) (meth := k1m1) (c := k1c1) (by decide +kernel) rfl rfl rfl (by decide +kernel)
set_option maxRecDepth 65536 in
theorem w_c1 : (Jvm.Cond.code ({ cls := "com/example/frugal_synth/frugalsynth/Arena", name := "<init>", desc := "(I[I[I[I[JI[I)V" } : Jvm.MethodName) prog_2_method_1_code (8 : Nat) (Option.none : Option Jvm.ClassFile.FieldType)).before args0 about1 = true := code_word (m := ⟨2, 0⟩) (meth := k2m0) (c := k2c0) (by decide +kernel) rfl rfl rfl (by decide +kernel)
set_option maxRecDepth 65536 in
theorem w_c2 : (Jvm.Cond.code ({ cls := "java/lang/Object", name := "<init>", desc := "()V" } : Jvm.MethodName) object_method_1_code (1 : Nat) (Option.none : Option Jvm.ClassFile.FieldType)).before args0 about1 = true := code_word (m := ⟨0, 0⟩) (meth := k0m0) (c := k0c0) (by decide +kernel) rfl rfl rfl (by decide +kernel)
set_option maxRecDepth 65536 in
theorem w_c3 : (Jvm.Cond.code ({ cls := "com/example/frugal_synth/frugalsynth/ArenaPriorityPinLaw", name := "slot", desc := "(III)I" } : Jvm.MethodName) method_3_code (3 : Nat) (Option.some Jvm.ClassFile.FieldType.int)).before args0 about1 = true := code_word (m := ⟨1, 2⟩) (meth := k1m2) (c := k1c2) (by decide +kernel) rfl rfl rfl (by decide +kernel)
set_option maxRecDepth 65536 in
theorem w_c4 : (Jvm.Cond.code ({ cls := "com/example/frugal_synth/frugalsynth/Arena", name := "priority", desc := "(II)I" } : Jvm.MethodName) prog_2_method_12_code (3 : Nat) (Option.some Jvm.ClassFile.FieldType.int)).before args0 about1 = true := code_word (m := ⟨2, 1⟩) (meth := k2m1) (c := k2c1) (by decide +kernel) rfl rfl rfl (by decide +kernel)
def codes1 : List Jvm.Cond := [Jvm.Cond.code x code maxLocals ret, Jvm.Cond.code ({ cls := "com/example/frugal_synth/frugalsynth/Arena", name := "<init>", desc := "(I[I[I[I[JI[I)V" } : Jvm.MethodName) prog_2_method_1_code (8 : Nat) (Option.none : Option Jvm.ClassFile.FieldType), Jvm.Cond.code ({ cls := "java/lang/Object", name := "<init>", desc := "()V" } : Jvm.MethodName) object_method_1_code (1 : Nat) (Option.none : Option Jvm.ClassFile.FieldType), Jvm.Cond.code ({ cls := "com/example/frugal_synth/frugalsynth/ArenaPriorityPinLaw", name := "slot", desc := "(III)I" } : Jvm.MethodName) method_3_code (3 : Nat) (Option.some Jvm.ClassFile.FieldType.int), Jvm.Cond.code ({ cls := "com/example/frugal_synth/frugalsynth/Arena", name := "priority", desc := "(II)I" } : Jvm.MethodName) prog_2_method_12_code (3 : Nat) (Option.some Jvm.ClassFile.FieldType.int)]
set_option maxRecDepth 65536 in
theorem codes_eq : words1.filter isCode = codes1 := rfl
theorem w_codes : ∀ c ∈ words1.filter isCode, c.before args0 about1 = true := by
  rw [codes_eq]
  intro c hc
  simp only [codes1, List.mem_cons, List.not_mem_nil, or_false] at hc
  rcases hc with rfl | rfl | rfl | rfl | rfl
  · exact w_c0
  · exact w_c1
  · exact w_c2
  · exact w_c3
  · exact w_c4
set_option maxRecDepth 65536 in
theorem w_t1 : (words1.take 24).all (fun c => isCode c || c.before args0 about1) = true := by decide +kernel
set_option maxRecDepth 65536 in
theorem w_t2 : (words1.drop 24).all (fun c => isCode c || c.before args0 about1) = true := by decide +kernel
theorem w_tables : (allAtoms (Jvm.Cond.code x code maxLocals ret :: tables_1)).before args0 about1 = true := by
  rw [allAtoms_all]
  show words1.all (fun c => c.before args0 about1) = true
  refine all_split ?_ w_codes
  rw [← List.take_append_drop 24 words1, List.all_append, w_t1, w_t2]
  rfl
set_option maxRecDepth 65536 in
theorem w_case : (Jvm.Cond.and given_1 narrow_1).before args0 about1 = true := by decide +kernel
theorem w_applies : (headSpec (Jvm.Cond.code x code maxLocals ret :: tables_1) room_1).applies x e0.platform about1 = true :=
  (Spec.applies_iff w_frames).mpr ⟨w_running, w_runnable, w_alone, w_named, w_hears, w_ripe, w_room, w_tables⟩
theorem atStart : AtStart classFile x code maxLocals ret World_1 tables_1 room_1 Calls_1 rest_1 Pre_1 launch0 p0 e0 about1 theMethod args0 below0 :=
  ⟨lists_1, trivial, launch0.admits_env _ _ _, launch0.least_env, fairChoices_fair.cas, fairChoices_fair.clock, w_frames, w_args, w_heap, w_applies, trivial, trivial, w_case⟩
end start1
theorem witness_1 : WitnessClaimed_1 := ⟨start1.p0, start1.e0, start1.about1, start1.theMethod, start1.args0, start1.below0, start1.atStart⟩
end Jvm.Pilot.@@N@@
