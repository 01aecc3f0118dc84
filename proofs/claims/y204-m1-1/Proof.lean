import JvmDerived
import JvmDerived.Pilot.@@N@@Statement
import JvmDerived.Pilot.@@N@@Code
set_option linter.unusedVariables false
set_option linter.unusedSimpArgs false
namespace Jvm.RoadKit
open Sem ClassFile Op Lib Jvm.Stand Jvm.Free Jvm.LawKit
section New
variable {p : Program} {l : Launch} {e : Env} {R : Room} {s : State} {m : MethodId} {args : Array Value} {below : List Frame} {meth : Method} {c : Code} {T : State} {locs : List Loc} {cells slots : Nat}
theorem retI (X : Stand p l e R s m args below meth c T locs cells slots) (hx : p.tables.exec = Jvm.exec) {pc : Nat} {Ls : Array Slot} {z : Int32} {rest : List Value} (hret : meth.sig.returnType = some .int) (hd : decode c.code pc = .ok (.ireturn, 1)) {fs : List Frame}
    (hl : ∀ (f : JFrame) (acts : List Action), f.method = m → f.locked = none → f.entered = [] → (doReturn e (T.setTop f) acts (some (.int z))).1 = T.setFrames fs) : Steps p.tables e below (T.setTop (mkF m pc Ls (.int z :: rest))) (T.setFrames fs) := by
  have hm' : T.vm.method? m = some meth := X.method'
  have hn : narrow .int (.int z) = .int z := rfl
  show Steps p.tables e below (T.setTop { method := m, pc := pc, locals := Ls, stack := _ :: rest, locked := none }) _
  jvm_step X.here [X.here.top, hx, hd, hm', hret, hn]
  first | (intro acts; rw [hl _ acts rfl rfl rfl]) | rw [hl _ _ rfl rfl rfl]
  exact Steps.refl _
end New
end Jvm.RoadKit
namespace Jvm.Pilot.@@N@@
open Jvm Jvm.ClassFile Sem Op Lib Jvm.Free Jvm.Stand Jvm.LawKit Jvm.RoadKit Bundle Jvm.Pilot.@@N@@.Jvm.D
theorem own_getDI (xs : List Int32) (k : Nat) : (xs.map Value.int).getD k (.int 0) = .int (xs.getD k 0) := by simp only [List.getD_eq_getElem?_getD, List.getElem?_map]; cases xs[k]? <;> rfl
theorem own_getDJ (xs : List Int64) (k : Nat) : (xs.map Value.long).getD k (.long 0) = .long (xs.getD k 0) := by simp only [List.getD_eq_getElem?_getD, List.getElem?_map]; cases xs[k]? <;> rfl
theorem d1_0 : decode prog_2_method_1_code 0 = .ok (.aload_n 0, 1) := by decide +kernel
theorem d1_1 : decode prog_2_method_1_code 1 = .ok (.invokespecial 1, 3) := by decide +kernel
theorem d1_4 : decode prog_2_method_1_code 4 = .ok (.aload_n 0, 1) := by decide +kernel
theorem d1_5 : decode prog_2_method_1_code 5 = .ok (.iload_n 1, 1) := by decide +kernel
theorem d1_6 : decode prog_2_method_1_code 6 = .ok (.putfield 7, 3) := by decide +kernel
theorem d1_9 : decode prog_2_method_1_code 9 = .ok (.aload_n 0, 1) := by decide +kernel
theorem d1_10 : decode prog_2_method_1_code 10 = .ok (.aload_n 2, 1) := by decide +kernel
theorem d1_11 : decode prog_2_method_1_code 11 = .ok (.putfield 13, 3) := by decide +kernel
theorem d1_14 : decode prog_2_method_1_code 14 = .ok (.aload_n 0, 1) := by decide +kernel
theorem d1_15 : decode prog_2_method_1_code 15 = .ok (.aload_n 3, 1) := by decide +kernel
theorem d1_16 : decode prog_2_method_1_code 16 = .ok (.putfield 17, 3) := by decide +kernel
theorem d1_19 : decode prog_2_method_1_code 19 = .ok (.aload_n 0, 1) := by decide +kernel
theorem d1_20 : decode prog_2_method_1_code 20 = .ok (.aload 4, 2) := by decide +kernel
theorem d1_22 : decode prog_2_method_1_code 22 = .ok (.putfield 20, 3) := by decide +kernel
theorem d1_25 : decode prog_2_method_1_code 25 = .ok (.aload_n 0, 1) := by decide +kernel
theorem d1_26 : decode prog_2_method_1_code 26 = .ok (.aload 5, 2) := by decide +kernel
theorem d1_28 : decode prog_2_method_1_code 28 = .ok (.putfield 23, 3) := by decide +kernel
theorem d1_31 : decode prog_2_method_1_code 31 = .ok (.aload_n 0, 1) := by decide +kernel
theorem d1_32 : decode prog_2_method_1_code 32 = .ok (.iload 6, 2) := by decide +kernel
theorem d1_34 : decode prog_2_method_1_code 34 = .ok (.putfield 27, 3) := by decide +kernel
theorem d1_37 : decode prog_2_method_1_code 37 = .ok (.aload_n 0, 1) := by decide +kernel
theorem d1_38 : decode prog_2_method_1_code 38 = .ok (.aload 7, 2) := by decide +kernel
theorem d1_40 : decode prog_2_method_1_code 40 = .ok (.putfield 30, 3) := by decide +kernel
theorem d1_43 : decode prog_2_method_1_code 43 = .ok (.return_, 1) := by decide +kernel
theorem d3_0 : decode prog_2_method_8_code 0 = .ok (.aload_n 0, 1) := by decide +kernel
theorem d3_1 : decode prog_2_method_8_code 1 = .ok (.getfield 13, 3) := by decide +kernel
theorem d3_4 : decode prog_2_method_8_code 4 = .ok (.iload_n 1, 1) := by decide +kernel
theorem d3_5 : decode prog_2_method_8_code 5 = .ok (.aload_n 0, 1) := by decide +kernel
theorem d3_6 : decode prog_2_method_8_code 6 = .ok (.getfield 7, 3) := by decide +kernel
theorem d3_9 : decode prog_2_method_8_code 9 = .ok (.imul, 1) := by decide +kernel
theorem d3_10 : decode prog_2_method_8_code 10 = .ok (.iload_n 2, 1) := by decide +kernel
theorem d3_11 : decode prog_2_method_8_code 11 = .ok (.iadd, 1) := by decide +kernel
theorem d3_12 : decode prog_2_method_8_code 12 = .ok (.iconst 1, 1) := by decide +kernel
theorem d3_13 : decode prog_2_method_8_code 13 = .ok (.iadd, 1) := by decide +kernel
theorem d3_14 : decode prog_2_method_8_code 14 = .ok (.iaload, 1) := by decide +kernel
theorem d3_15 : decode prog_2_method_8_code 15 = .ok (.ireturn, 1) := by decide +kernel
theorem d4_0 : decode prog_2_method_7_code 0 = .ok (.aload_n 0, 1) := by decide +kernel
theorem d4_1 : decode prog_2_method_7_code 1 = .ok (.getfield 13, 3) := by decide +kernel
theorem d4_4 : decode prog_2_method_7_code 4 = .ok (.iload_n 1, 1) := by decide +kernel
theorem d4_5 : decode prog_2_method_7_code 5 = .ok (.aload_n 0, 1) := by decide +kernel
theorem d4_6 : decode prog_2_method_7_code 6 = .ok (.getfield 7, 3) := by decide +kernel
theorem d4_9 : decode prog_2_method_7_code 9 = .ok (.imul, 1) := by decide +kernel
theorem d4_10 : decode prog_2_method_7_code 10 = .ok (.iload_n 2, 1) := by decide +kernel
theorem d4_11 : decode prog_2_method_7_code 11 = .ok (.iadd, 1) := by decide +kernel
theorem d4_12 : decode prog_2_method_7_code 12 = .ok (.iaload, 1) := by decide +kernel
theorem d4_13 : decode prog_2_method_7_code 13 = .ok (.ireturn, 1) := by decide +kernel
theorem d5_0 : decode prog_2_method_5_code 0 = .ok (.aload_n 0, 1) := by decide +kernel
theorem d5_1 : decode prog_2_method_5_code 1 = .ok (.getfield 20, 3) := by decide +kernel
theorem d5_4 : decode prog_2_method_5_code 4 = .ok (.arraylength, 1) := by decide +kernel
theorem d5_5 : decode prog_2_method_5_code 5 = .ok (.ireturn, 1) := by decide +kernel
theorem pd0 : parseMethodDescriptor "(I[I[I[I[JI[I)V" = some ⟨[.int, (.array .int), (.array .int), (.array .int), (.array .long), .int, (.array .int)], none⟩ := by decide +kernel
theorem pd1 : parseMethodDescriptor "(II)I" = some ⟨[.int, .int], some .int⟩ := by decide +kernel
theorem pd2 : parseMethodDescriptor "()I" = some ⟨[], some .int⟩ := by decide +kernel
theorem pn0 : plainName "com/example/frugal_synth/frugalsynth/Arena" = true := by first | (simp [plainName, overriddenIn]; done) | decide +kernel
theorem pn1 : plainName "com/example/frugal_synth/frugalsynth/ArenaEndChoicePinLaw" = true := by first | (simp [plainName, overriddenIn]; done) | decide +kernel
theorem ef1 (m : MethodId) (x0 : Addr) (x1 : Int32) (x2 : Addr) (x3 : Addr) (x4 : Addr) (x5 : Addr) (x6 : Int32) (x7 : Addr) : entryFrame m #[(.ref x0), (.int x1), (.ref x2), (.ref x3), (.ref x4), (.ref x5), (.int x6), (.ref x7)] 8 = mkF m 0 #[.val (.ref x0), .val (.int x1), .val (.ref x2), .val (.ref x3), .val (.ref x4), .val (.ref x5), .val (.int x6), .val (.ref x7)] [] := by first | (simp [entryFrame, mkF, argsToLocals, Value.category]; done) | rfl
def Q1 (Z : State) (a0 : Addr) (p1 : Int32) (a2 : Addr) (a3 : Addr) (a4 : Addr) (a5 : Addr) (p6 : Int32) (a7 : Addr) (wa0_assignmentCount : Int32) (wa0_firstChoice : Value) (wa0_outputs : Value) (wa0_targets : Value) (wa0_weights : Value) (wa0_parityCount : Int32) (wa0_priorities : Value) (h0 : Heap) (n0 : Nat) (v : Option Value) (h : Heap) (L : List Loc) : Prop := v = none ∧ Fr n0 L ∧ Keep h0 h [a0] ∧ Exa Z h a0 "com/example/frugal_synth/frugalsynth/Arena" ∧ Fld Z h a0 "com/example/frugal_synth/frugalsynth/Arena" "assignmentCount" "I" (.int p1) ∧ Fld Z h a0 "com/example/frugal_synth/frugalsynth/Arena" "firstChoice" "[I" (.ref a2) ∧ Fld Z h a0 "com/example/frugal_synth/frugalsynth/Arena" "outputs" "[I" (.ref a3) ∧ Fld Z h a0 "com/example/frugal_synth/frugalsynth/Arena" "targets" "[I" (.ref a4) ∧ Fld Z h a0 "com/example/frugal_synth/frugalsynth/Arena" "weights" "[J" (.ref a5) ∧ Fld Z h a0 "com/example/frugal_synth/frugalsynth/Arena" "parityCount" "I" (.int p6) ∧ Fld Z h a0 "com/example/frugal_synth/frugalsynth/Arena" "priorities" "[I" (.ref a7)
set_option maxRecDepth 65536 in
set_option maxHeartbeats 40000000 in
theorem rm1 (l : Launch) (Z : State) (a0' : Array Value) (hw : ∀ d ∈ tables_1, d.before a0' Z = true) (ws : List Jvm.Cond) (a0 : Addr) (p1 : Int32) (a2 : Addr) (a3 : Addr) (a4 : Addr) (a5 : Addr) (p6 : Int32) (a7 : Addr) (wa0_assignmentCount : Int32) (wa0_firstChoice : Value) (wa0_outputs : Value) (wa0_targets : Value) (wa0_weights : Value) (wa0_parityCount : Int32) (wa0_priorities : Value) (h0 : Heap) (n0 : Nat) (Z0 : n0 ≤ h0.size) (E_a0 : Exa Z h0 a0 "com/example/frugal_synth/frugalsynth/Arena") (F_wa0_assignmentCount : Fld Z h0 a0 "com/example/frugal_synth/frugalsynth/Arena" "assignmentCount" "I" (.int wa0_assignmentCount)) (F_wa0_firstChoice : Fld Z h0 a0 "com/example/frugal_synth/frugalsynth/Arena" "firstChoice" "[I" wa0_firstChoice) (F_wa0_outputs : Fld Z h0 a0 "com/example/frugal_synth/frugalsynth/Arena" "outputs" "[I" wa0_outputs) (F_wa0_targets : Fld Z h0 a0 "com/example/frugal_synth/frugalsynth/Arena" "targets" "[I" wa0_targets) (F_wa0_weights : Fld Z h0 a0 "com/example/frugal_synth/frugalsynth/Arena" "weights" "[J" wa0_weights) (F_wa0_parityCount : Fld Z h0 a0 "com/example/frugal_synth/frugalsynth/Arena" "parityCount" "I" (.int wa0_parityCount)) (F_wa0_priorities : Fld Z h0 a0 "com/example/frugal_synth/frugalsynth/Arena" "priorities" "[I" wa0_priorities) (g_a0 : n0 ≤ a0) :
    MetFree l (⟨"com/example/frugal_synth/frugalsynth/Arena", "<init>", "(I[I[I[I[JI[I)V"⟩ : MethodName) (head1 (Jvm.Cond.code (⟨"com/example/frugal_synth/frugalsynth/Arena", "<init>", "(I[I[I[I[JI[I)V"⟩ : MethodName) prog_2_method_1_code 8 none :: ws) ({ frames := 1, cells := 0, slots := 0, locals := 12 } : Room)) (fun a U => a = #[(.ref a0), (.int p1), (.ref a2), (.ref a3), (.ref a4), (.ref a5), (.int p6), (.ref a7)] ∧ Z.Warmed39 U.vm ∧ U.heap = h0) (fun _ _ _ _ _ => True) (fun _ U o U' => ∃ v L, o = .returned v ∧ Q1 Z a0 p1 a2 a3 a4 a5 p6 a7 wa0_assignmentCount wa0_firstChoice wa0_outputs wa0_targets wa0_weights wa0_parityCount wa0_priorities h0 n0 v U'.heap L ∧ FrameEnd U o U' L ({ frames := 1, cells := 0, slots := 0, locals := 12 } : Room).cells ({ frames := 1, cells := 0, slots := 0, locals := 12 } : Room).slots) := by
  refine MetFree.of_bodySF (plainFor_of_name pn0) hisR ?_
  intro p e s m args below meth c s₁ Bd hml0 hP hK
  obtain ⟨rfl, hZ, hh⟩ := hP
  have hx := Bd.exec
  have hby := Bd.bytes
  have hml : c.maxLocals = 8 := hml0
  have hown : s.vm.findClass "com/example/frugal_synth/frugalsynth/Arena" = some m.cls := findClass_of_methodNamed Bd.named
  have hnm := (name_of_methodNamed Bd.named Bd.method).1
  have X0 : Stand p l e ({ frames := 1, cells := 0, slots := 0, locals := 12 } : Room) s m #[(.ref a0), (.int p1), (.ref a2), (.ref a3), (.ref a4), (.ref a5), (.int p6), (.ref a7)] below meth c s₁ [] 0 0 := Stand.of_body Bd
  have e0 : s₁.heap = h0 := by rw [← hh, Bd.state]; rfl
  have N0 := Fr.nil n0
  have hlk : meth.locks = false := by first | exact BodyLoose.notSynchronized Bd | exact Body.notSynchronized Bd
  have pre0 : ∀ t, Steps p.tables e below (s₁.setTop (mkF m 0 #[.val (.ref a0), .val (.int p1), .val (.ref a2), .val (.ref a3), .val (.ref a4), .val (.ref a5), .val (.int p6), .val (.ref a7)] [])) t → Steps p.tables e below (s₁.setTop (entryFrame m #[(.ref a0), (.int p1), (.ref a2), (.ref a3), (.ref a4), (.ref a5), (.int p6), (.ref a7)] 8)) t := fun t k => castTop (ef1 m a0 p1 a2 a3 a4 a5 p6 a7) k
  obtain ⟨T1, X1, e1, st1⟩ := initO X0 hx hZ hown (hw _ (List.mem_of_getElem? (i := 9) rfl)) (hw _ (List.mem_of_getElem? (i := 10) rfl)) (hw _ (List.mem_of_getElem? (i := 11) rfl)) e0 (g := (mkF m 1 #[.val (.ref a0), .val (.int p1), .val (.ref a2), .val (.ref a3), .val (.ref a4), .val (.ref a5), .val (.int p6), .val (.ref a7)] [(.ref a0)])) rfl (by rw [hml]; rfl) rfl (hb hby d1_1) (by decide) (W := 0) (by show 2 * 0 + _ ≤ _; exact Nat.le_of_eq rfl) (by decide)
  obtain ⟨T2, h2, X2, e2, W2, st2⟩ := putF X1 hx hZ hown (host := "") (Or.inl (hw _ (List.mem_of_getElem? (i := 12) rfl))) Via.refl e1 F_wa0_assignmentCount E_a0 (Or.inr ⟨(hw _ (List.mem_of_getElem? (i := 13) rfl)), rfl, hnm⟩) (hw _ (List.mem_of_getElem? (i := 3) rfl)) (ty := .int) (by decide) rfl rfl (g := (mkF m 6 #[.val (.ref a0), .val (.int p1), .val (.ref a2), .val (.ref a3), .val (.ref a4), .val (.ref a5), .val (.int p6), .val (.ref a7)] [(.int p1), (.ref a0)])) rfl rfl (hb hby d1_6)
  have Z2 : n0 ≤ h2.size := Nat.le_trans Z0 (Keep.of_wr W2).1
  have N2 := Fr.snoc X2 N0 g_a0
  have KC2 : Keep h0 h2 [a0] := (Keep.refl h0 [a0]).wr W2 (Or.inl (List.mem_of_getElem? (i := 0) rfl))
  have Fw2 := F_wa0_assignmentCount.same W2
  have y3 := (E_a0.wr W2)
  have y4 := (F_wa0_firstChoice.other W2 (Or.inr (slot_ne (Or.inr (hw _ (List.mem_of_getElem? (i := 15) rfl))) (Or.inr (hw _ (List.mem_of_getElem? (i := 13) rfl))) (by decide) (t := (.array .int)) (t' := .int) (by decide) (by decide))))
  obtain ⟨T5, h5, X5, e5, W5, st5⟩ := putF X2 hx hZ hown (host := "") (Or.inl (hw _ (List.mem_of_getElem? (i := 14) rfl))) Via.refl e2 y4 y3 (Or.inr ⟨(hw _ (List.mem_of_getElem? (i := 15) rfl)), rfl, hnm⟩) (hw _ (List.mem_of_getElem? (i := 3) rfl)) (ty := (.array .int)) (by decide) rfl rfl (g := (mkF m 11 #[.val (.ref a0), .val (.int p1), .val (.ref a2), .val (.ref a3), .val (.ref a4), .val (.ref a5), .val (.int p6), .val (.ref a7)] [(.ref a2), (.ref a0)])) rfl rfl (hb hby d1_11)
  have Z5 : n0 ≤ h5.size := Nat.le_trans Z2 (Keep.of_wr W5).1
  have N5 := Fr.snoc X5 N2 g_a0
  have KC5 : Keep h0 h5 [a0] := KC2.wr W5 (Or.inl (List.mem_of_getElem? (i := 0) rfl))
  have Fw5 := y4.same W5
  have y6 := (y3.wr W5)
  have y7 := ((F_wa0_outputs.other W2 (Or.inr (slot_ne (Or.inr (hw _ (List.mem_of_getElem? (i := 17) rfl))) (Or.inr (hw _ (List.mem_of_getElem? (i := 13) rfl))) (by decide) (t := (.array .int)) (t' := .int) (by decide) (by decide)))).other W5 (Or.inr (slot_ne (Or.inr (hw _ (List.mem_of_getElem? (i := 17) rfl))) (Or.inr (hw _ (List.mem_of_getElem? (i := 15) rfl))) (by decide) (t := (.array .int)) (t' := (.array .int)) (by decide) (by decide))))
  obtain ⟨T8, h8, X8, e8, W8, st8⟩ := putF X5 hx hZ hown (host := "") (Or.inl (hw _ (List.mem_of_getElem? (i := 16) rfl))) Via.refl e5 y7 y6 (Or.inr ⟨(hw _ (List.mem_of_getElem? (i := 17) rfl)), rfl, hnm⟩) (hw _ (List.mem_of_getElem? (i := 3) rfl)) (ty := (.array .int)) (by decide) rfl rfl (g := (mkF m 16 #[.val (.ref a0), .val (.int p1), .val (.ref a2), .val (.ref a3), .val (.ref a4), .val (.ref a5), .val (.int p6), .val (.ref a7)] [(.ref a3), (.ref a0)])) rfl rfl (hb hby d1_16)
  have Z8 : n0 ≤ h8.size := Nat.le_trans Z5 (Keep.of_wr W8).1
  have N8 := Fr.snoc X8 N5 g_a0
  have KC8 : Keep h0 h8 [a0] := KC5.wr W8 (Or.inl (List.mem_of_getElem? (i := 0) rfl))
  have Fw8 := y7.same W8
  have y9 := (y6.wr W8)
  have y10 := (((F_wa0_targets.other W2 (Or.inr (slot_ne (Or.inr (hw _ (List.mem_of_getElem? (i := 19) rfl))) (Or.inr (hw _ (List.mem_of_getElem? (i := 13) rfl))) (by decide) (t := (.array .int)) (t' := .int) (by decide) (by decide)))).other W5 (Or.inr (slot_ne (Or.inr (hw _ (List.mem_of_getElem? (i := 19) rfl))) (Or.inr (hw _ (List.mem_of_getElem? (i := 15) rfl))) (by decide) (t := (.array .int)) (t' := (.array .int)) (by decide) (by decide)))).other W8 (Or.inr (slot_ne (Or.inr (hw _ (List.mem_of_getElem? (i := 19) rfl))) (Or.inr (hw _ (List.mem_of_getElem? (i := 17) rfl))) (by decide) (t := (.array .int)) (t' := (.array .int)) (by decide) (by decide))))
  obtain ⟨T11, h11, X11, e11, W11, st11⟩ := putF X8 hx hZ hown (host := "") (Or.inl (hw _ (List.mem_of_getElem? (i := 18) rfl))) Via.refl e8 y10 y9 (Or.inr ⟨(hw _ (List.mem_of_getElem? (i := 19) rfl)), rfl, hnm⟩) (hw _ (List.mem_of_getElem? (i := 3) rfl)) (ty := (.array .int)) (by decide) rfl rfl (g := (mkF m 22 #[.val (.ref a0), .val (.int p1), .val (.ref a2), .val (.ref a3), .val (.ref a4), .val (.ref a5), .val (.int p6), .val (.ref a7)] [(.ref a4), (.ref a0)])) rfl rfl (hb hby d1_22)
  have Z11 : n0 ≤ h11.size := Nat.le_trans Z8 (Keep.of_wr W11).1
  have N11 := Fr.snoc X11 N8 g_a0
  have KC11 : Keep h0 h11 [a0] := KC8.wr W11 (Or.inl (List.mem_of_getElem? (i := 0) rfl))
  have Fw11 := y10.same W11
  have y12 := (y9.wr W11)
  have y13 := ((((F_wa0_weights.other W2 (Or.inr (slot_ne (Or.inr (hw _ (List.mem_of_getElem? (i := 21) rfl))) (Or.inr (hw _ (List.mem_of_getElem? (i := 13) rfl))) (by decide) (t := (.array .long)) (t' := .int) (by decide) (by decide)))).other W5 (Or.inr (slot_ne (Or.inr (hw _ (List.mem_of_getElem? (i := 21) rfl))) (Or.inr (hw _ (List.mem_of_getElem? (i := 15) rfl))) (by decide) (t := (.array .long)) (t' := (.array .int)) (by decide) (by decide)))).other W8 (Or.inr (slot_ne (Or.inr (hw _ (List.mem_of_getElem? (i := 21) rfl))) (Or.inr (hw _ (List.mem_of_getElem? (i := 17) rfl))) (by decide) (t := (.array .long)) (t' := (.array .int)) (by decide) (by decide)))).other W11 (Or.inr (slot_ne (Or.inr (hw _ (List.mem_of_getElem? (i := 21) rfl))) (Or.inr (hw _ (List.mem_of_getElem? (i := 19) rfl))) (by decide) (t := (.array .long)) (t' := (.array .int)) (by decide) (by decide))))
  obtain ⟨T14, h14, X14, e14, W14, st14⟩ := putF X11 hx hZ hown (host := "") (Or.inl (hw _ (List.mem_of_getElem? (i := 20) rfl))) Via.refl e11 y13 y12 (Or.inr ⟨(hw _ (List.mem_of_getElem? (i := 21) rfl)), rfl, hnm⟩) (hw _ (List.mem_of_getElem? (i := 3) rfl)) (ty := (.array .long)) (by decide) rfl rfl (g := (mkF m 28 #[.val (.ref a0), .val (.int p1), .val (.ref a2), .val (.ref a3), .val (.ref a4), .val (.ref a5), .val (.int p6), .val (.ref a7)] [(.ref a5), (.ref a0)])) rfl rfl (hb hby d1_28)
  have Z14 : n0 ≤ h14.size := Nat.le_trans Z11 (Keep.of_wr W14).1
  have N14 := Fr.snoc X14 N11 g_a0
  have KC14 : Keep h0 h14 [a0] := KC11.wr W14 (Or.inl (List.mem_of_getElem? (i := 0) rfl))
  have Fw14 := y13.same W14
  have y15 := (y12.wr W14)
  have y16 := (((((F_wa0_parityCount.other W2 (Or.inr (slot_ne (Or.inr (hw _ (List.mem_of_getElem? (i := 23) rfl))) (Or.inr (hw _ (List.mem_of_getElem? (i := 13) rfl))) (by decide) (t := .int) (t' := .int) (by decide) (by decide)))).other W5 (Or.inr (slot_ne (Or.inr (hw _ (List.mem_of_getElem? (i := 23) rfl))) (Or.inr (hw _ (List.mem_of_getElem? (i := 15) rfl))) (by decide) (t := .int) (t' := (.array .int)) (by decide) (by decide)))).other W8 (Or.inr (slot_ne (Or.inr (hw _ (List.mem_of_getElem? (i := 23) rfl))) (Or.inr (hw _ (List.mem_of_getElem? (i := 17) rfl))) (by decide) (t := .int) (t' := (.array .int)) (by decide) (by decide)))).other W11 (Or.inr (slot_ne (Or.inr (hw _ (List.mem_of_getElem? (i := 23) rfl))) (Or.inr (hw _ (List.mem_of_getElem? (i := 19) rfl))) (by decide) (t := .int) (t' := (.array .int)) (by decide) (by decide)))).other W14 (Or.inr (slot_ne (Or.inr (hw _ (List.mem_of_getElem? (i := 23) rfl))) (Or.inr (hw _ (List.mem_of_getElem? (i := 21) rfl))) (by decide) (t := .int) (t' := (.array .long)) (by decide) (by decide))))
  obtain ⟨T17, h17, X17, e17, W17, st17⟩ := putF X14 hx hZ hown (host := "") (Or.inl (hw _ (List.mem_of_getElem? (i := 22) rfl))) Via.refl e14 y16 y15 (Or.inr ⟨(hw _ (List.mem_of_getElem? (i := 23) rfl)), rfl, hnm⟩) (hw _ (List.mem_of_getElem? (i := 3) rfl)) (ty := .int) (by decide) rfl rfl (g := (mkF m 34 #[.val (.ref a0), .val (.int p1), .val (.ref a2), .val (.ref a3), .val (.ref a4), .val (.ref a5), .val (.int p6), .val (.ref a7)] [(.int p6), (.ref a0)])) rfl rfl (hb hby d1_34)
  have Z17 : n0 ≤ h17.size := Nat.le_trans Z14 (Keep.of_wr W17).1
  have N17 := Fr.snoc X17 N14 g_a0
  have KC17 : Keep h0 h17 [a0] := KC14.wr W17 (Or.inl (List.mem_of_getElem? (i := 0) rfl))
  have Fw17 := y16.same W17
  have y18 := (y15.wr W17)
  have y19 := ((((((F_wa0_priorities.other W2 (Or.inr (slot_ne (Or.inr (hw _ (List.mem_of_getElem? (i := 25) rfl))) (Or.inr (hw _ (List.mem_of_getElem? (i := 13) rfl))) (by decide) (t := (.array .int)) (t' := .int) (by decide) (by decide)))).other W5 (Or.inr (slot_ne (Or.inr (hw _ (List.mem_of_getElem? (i := 25) rfl))) (Or.inr (hw _ (List.mem_of_getElem? (i := 15) rfl))) (by decide) (t := (.array .int)) (t' := (.array .int)) (by decide) (by decide)))).other W8 (Or.inr (slot_ne (Or.inr (hw _ (List.mem_of_getElem? (i := 25) rfl))) (Or.inr (hw _ (List.mem_of_getElem? (i := 17) rfl))) (by decide) (t := (.array .int)) (t' := (.array .int)) (by decide) (by decide)))).other W11 (Or.inr (slot_ne (Or.inr (hw _ (List.mem_of_getElem? (i := 25) rfl))) (Or.inr (hw _ (List.mem_of_getElem? (i := 19) rfl))) (by decide) (t := (.array .int)) (t' := (.array .int)) (by decide) (by decide)))).other W14 (Or.inr (slot_ne (Or.inr (hw _ (List.mem_of_getElem? (i := 25) rfl))) (Or.inr (hw _ (List.mem_of_getElem? (i := 21) rfl))) (by decide) (t := (.array .int)) (t' := (.array .long)) (by decide) (by decide)))).other W17 (Or.inr (slot_ne (Or.inr (hw _ (List.mem_of_getElem? (i := 25) rfl))) (Or.inr (hw _ (List.mem_of_getElem? (i := 23) rfl))) (by decide) (t := (.array .int)) (t' := .int) (by decide) (by decide))))
  obtain ⟨T20, h20, X20, e20, W20, st20⟩ := putF X17 hx hZ hown (host := "") (Or.inl (hw _ (List.mem_of_getElem? (i := 24) rfl))) Via.refl e17 y19 y18 (Or.inr ⟨(hw _ (List.mem_of_getElem? (i := 25) rfl)), rfl, hnm⟩) (hw _ (List.mem_of_getElem? (i := 3) rfl)) (ty := (.array .int)) (by decide) rfl rfl (g := (mkF m 40 #[.val (.ref a0), .val (.int p1), .val (.ref a2), .val (.ref a3), .val (.ref a4), .val (.ref a5), .val (.int p6), .val (.ref a7)] [(.ref a7), (.ref a0)])) rfl rfl (hb hby d1_40)
  have Z20 : n0 ≤ h20.size := Nat.le_trans Z17 (Keep.of_wr W20).1
  have N20 := Fr.snoc X20 N17 g_a0
  have KC20 : Keep h0 h20 [a0] := KC17.wr W20 (Or.inl (List.mem_of_getElem? (i := 0) rfl))
  have Fw20 := y19.same W20
  have pre21 : ∀ t, Steps p.tables e below (T20.setTop (mkF m 43 #[.val (.ref a0), .val (.int p1), .val (.ref a2), .val (.ref a3), .val (.ref a4), .val (.ref a5), .val (.int p6), .val (.ref a7)] [])) t → Steps p.tables e below (s₁.setTop (entryFrame m #[(.ref a0), (.int p1), (.ref a2), (.ref a3), (.ref a4), (.ref a5), (.int p6), (.ref a7)] 8)) t := fun t k => pre0 t (by
    show Steps p.tables e below (s₁.setTop (mkF m 0 #[.val (.ref a0), .val (.int p1), .val (.ref a2), .val (.ref a3), .val (.ref a4), .val (.ref a5), .val (.int p6), .val (.ref a7)] [])) _
    refine XS.aloadN X0.here hx rfl (hb hby d1_0) rfl rfl ?_
    show Steps p.tables e below (s₁.setTop (mkF m 1 #[.val (.ref a0), .val (.int p1), .val (.ref a2), .val (.ref a3), .val (.ref a4), .val (.ref a5), .val (.int p6), .val (.ref a7)] [(.ref a0)])) _
    refine st1 _ ?_
    show Steps p.tables e below (T1.setTop (mkF m 4 #[.val (.ref a0), .val (.int p1), .val (.ref a2), .val (.ref a3), .val (.ref a4), .val (.ref a5), .val (.int p6), .val (.ref a7)] [])) _
    refine XS.aloadN X1.here hx rfl (hb hby d1_4) rfl rfl ?_
    show Steps p.tables e below (T1.setTop (mkF m 5 #[.val (.ref a0), .val (.int p1), .val (.ref a2), .val (.ref a3), .val (.ref a4), .val (.ref a5), .val (.int p6), .val (.ref a7)] [(.ref a0)])) _
    refine XS.iloadN X1.here hx rfl (hb hby d1_5) rfl ?_
    show Steps p.tables e below (T1.setTop (mkF m 6 #[.val (.ref a0), .val (.int p1), .val (.ref a2), .val (.ref a3), .val (.ref a4), .val (.ref a5), .val (.int p6), .val (.ref a7)] [(.int p1), (.ref a0)])) _
    refine st2 _ ?_
    show Steps p.tables e below (T2.setTop (mkF m 9 #[.val (.ref a0), .val (.int p1), .val (.ref a2), .val (.ref a3), .val (.ref a4), .val (.ref a5), .val (.int p6), .val (.ref a7)] [])) _
    refine XS.aloadN X2.here hx rfl (hb hby d1_9) rfl rfl ?_
    show Steps p.tables e below (T2.setTop (mkF m 10 #[.val (.ref a0), .val (.int p1), .val (.ref a2), .val (.ref a3), .val (.ref a4), .val (.ref a5), .val (.int p6), .val (.ref a7)] [(.ref a0)])) _
    refine XS.aloadN X2.here hx rfl (hb hby d1_10) rfl rfl ?_
    show Steps p.tables e below (T2.setTop (mkF m 11 #[.val (.ref a0), .val (.int p1), .val (.ref a2), .val (.ref a3), .val (.ref a4), .val (.ref a5), .val (.int p6), .val (.ref a7)] [(.ref a2), (.ref a0)])) _
    refine st5 _ ?_
    show Steps p.tables e below (T5.setTop (mkF m 14 #[.val (.ref a0), .val (.int p1), .val (.ref a2), .val (.ref a3), .val (.ref a4), .val (.ref a5), .val (.int p6), .val (.ref a7)] [])) _
    refine XS.aloadN X5.here hx rfl (hb hby d1_14) rfl rfl ?_
    show Steps p.tables e below (T5.setTop (mkF m 15 #[.val (.ref a0), .val (.int p1), .val (.ref a2), .val (.ref a3), .val (.ref a4), .val (.ref a5), .val (.int p6), .val (.ref a7)] [(.ref a0)])) _
    refine XS.aloadN X5.here hx rfl (hb hby d1_15) rfl rfl ?_
    show Steps p.tables e below (T5.setTop (mkF m 16 #[.val (.ref a0), .val (.int p1), .val (.ref a2), .val (.ref a3), .val (.ref a4), .val (.ref a5), .val (.int p6), .val (.ref a7)] [(.ref a3), (.ref a0)])) _
    refine st8 _ ?_
    show Steps p.tables e below (T8.setTop (mkF m 19 #[.val (.ref a0), .val (.int p1), .val (.ref a2), .val (.ref a3), .val (.ref a4), .val (.ref a5), .val (.int p6), .val (.ref a7)] [])) _
    refine XS.aloadN X8.here hx rfl (hb hby d1_19) rfl rfl ?_
    show Steps p.tables e below (T8.setTop (mkF m 20 #[.val (.ref a0), .val (.int p1), .val (.ref a2), .val (.ref a3), .val (.ref a4), .val (.ref a5), .val (.int p6), .val (.ref a7)] [(.ref a0)])) _
    refine XS.aload X8.here hx rfl (hb hby d1_20) rfl rfl ?_
    show Steps p.tables e below (T8.setTop (mkF m 22 #[.val (.ref a0), .val (.int p1), .val (.ref a2), .val (.ref a3), .val (.ref a4), .val (.ref a5), .val (.int p6), .val (.ref a7)] [(.ref a4), (.ref a0)])) _
    refine st11 _ ?_
    show Steps p.tables e below (T11.setTop (mkF m 25 #[.val (.ref a0), .val (.int p1), .val (.ref a2), .val (.ref a3), .val (.ref a4), .val (.ref a5), .val (.int p6), .val (.ref a7)] [])) _
    refine XS.aloadN X11.here hx rfl (hb hby d1_25) rfl rfl ?_
    show Steps p.tables e below (T11.setTop (mkF m 26 #[.val (.ref a0), .val (.int p1), .val (.ref a2), .val (.ref a3), .val (.ref a4), .val (.ref a5), .val (.int p6), .val (.ref a7)] [(.ref a0)])) _
    refine XS.aload X11.here hx rfl (hb hby d1_26) rfl rfl ?_
    show Steps p.tables e below (T11.setTop (mkF m 28 #[.val (.ref a0), .val (.int p1), .val (.ref a2), .val (.ref a3), .val (.ref a4), .val (.ref a5), .val (.int p6), .val (.ref a7)] [(.ref a5), (.ref a0)])) _
    refine st14 _ ?_
    show Steps p.tables e below (T14.setTop (mkF m 31 #[.val (.ref a0), .val (.int p1), .val (.ref a2), .val (.ref a3), .val (.ref a4), .val (.ref a5), .val (.int p6), .val (.ref a7)] [])) _
    refine XS.aloadN X14.here hx rfl (hb hby d1_31) rfl rfl ?_
    show Steps p.tables e below (T14.setTop (mkF m 32 #[.val (.ref a0), .val (.int p1), .val (.ref a2), .val (.ref a3), .val (.ref a4), .val (.ref a5), .val (.int p6), .val (.ref a7)] [(.ref a0)])) _
    refine XS.iload X14.here hx rfl (hb hby d1_32) rfl ?_
    show Steps p.tables e below (T14.setTop (mkF m 34 #[.val (.ref a0), .val (.int p1), .val (.ref a2), .val (.ref a3), .val (.ref a4), .val (.ref a5), .val (.int p6), .val (.ref a7)] [(.int p6), (.ref a0)])) _
    refine st17 _ ?_
    show Steps p.tables e below (T17.setTop (mkF m 37 #[.val (.ref a0), .val (.int p1), .val (.ref a2), .val (.ref a3), .val (.ref a4), .val (.ref a5), .val (.int p6), .val (.ref a7)] [])) _
    refine XS.aloadN X17.here hx rfl (hb hby d1_37) rfl rfl ?_
    show Steps p.tables e below (T17.setTop (mkF m 38 #[.val (.ref a0), .val (.int p1), .val (.ref a2), .val (.ref a3), .val (.ref a4), .val (.ref a5), .val (.int p6), .val (.ref a7)] [(.ref a0)])) _
    refine XS.aload X17.here hx rfl (hb hby d1_38) rfl rfl ?_
    show Steps p.tables e below (T17.setTop (mkF m 40 #[.val (.ref a0), .val (.int p1), .val (.ref a2), .val (.ref a3), .val (.ref a4), .val (.ref a5), .val (.int p6), .val (.ref a7)] [(.ref a7), (.ref a0)])) _
    refine st20 _ ?_
    exact k)
  obtain ⟨fs, hr, hrun, hended, hW, hsame⟩ := X20.leave (v := none) (fun _ => rfl) hlk
  have y22 := (y18.wr W20)
  have y23 := ((((((Fw2.other W5 (Or.inr (slot_ne (Or.inr (hw _ (List.mem_of_getElem? (i := 13) rfl))) (Or.inr (hw _ (List.mem_of_getElem? (i := 15) rfl))) (by decide) (t := .int) (t' := (.array .int)) (by decide) (by decide)))).other W8 (Or.inr (slot_ne (Or.inr (hw _ (List.mem_of_getElem? (i := 13) rfl))) (Or.inr (hw _ (List.mem_of_getElem? (i := 17) rfl))) (by decide) (t := .int) (t' := (.array .int)) (by decide) (by decide)))).other W11 (Or.inr (slot_ne (Or.inr (hw _ (List.mem_of_getElem? (i := 13) rfl))) (Or.inr (hw _ (List.mem_of_getElem? (i := 19) rfl))) (by decide) (t := .int) (t' := (.array .int)) (by decide) (by decide)))).other W14 (Or.inr (slot_ne (Or.inr (hw _ (List.mem_of_getElem? (i := 13) rfl))) (Or.inr (hw _ (List.mem_of_getElem? (i := 21) rfl))) (by decide) (t := .int) (t' := (.array .long)) (by decide) (by decide)))).other W17 (Or.inr (slot_ne (Or.inr (hw _ (List.mem_of_getElem? (i := 13) rfl))) (Or.inr (hw _ (List.mem_of_getElem? (i := 23) rfl))) (by decide) (t := .int) (t' := .int) (by decide) (by decide)))).other W20 (Or.inr (slot_ne (Or.inr (hw _ (List.mem_of_getElem? (i := 13) rfl))) (Or.inr (hw _ (List.mem_of_getElem? (i := 25) rfl))) (by decide) (t := .int) (t' := (.array .int)) (by decide) (by decide))))
  have y24 := (((((Fw5.other W8 (Or.inr (slot_ne (Or.inr (hw _ (List.mem_of_getElem? (i := 15) rfl))) (Or.inr (hw _ (List.mem_of_getElem? (i := 17) rfl))) (by decide) (t := (.array .int)) (t' := (.array .int)) (by decide) (by decide)))).other W11 (Or.inr (slot_ne (Or.inr (hw _ (List.mem_of_getElem? (i := 15) rfl))) (Or.inr (hw _ (List.mem_of_getElem? (i := 19) rfl))) (by decide) (t := (.array .int)) (t' := (.array .int)) (by decide) (by decide)))).other W14 (Or.inr (slot_ne (Or.inr (hw _ (List.mem_of_getElem? (i := 15) rfl))) (Or.inr (hw _ (List.mem_of_getElem? (i := 21) rfl))) (by decide) (t := (.array .int)) (t' := (.array .long)) (by decide) (by decide)))).other W17 (Or.inr (slot_ne (Or.inr (hw _ (List.mem_of_getElem? (i := 15) rfl))) (Or.inr (hw _ (List.mem_of_getElem? (i := 23) rfl))) (by decide) (t := (.array .int)) (t' := .int) (by decide) (by decide)))).other W20 (Or.inr (slot_ne (Or.inr (hw _ (List.mem_of_getElem? (i := 15) rfl))) (Or.inr (hw _ (List.mem_of_getElem? (i := 25) rfl))) (by decide) (t := (.array .int)) (t' := (.array .int)) (by decide) (by decide))))
  have y25 := ((((Fw8.other W11 (Or.inr (slot_ne (Or.inr (hw _ (List.mem_of_getElem? (i := 17) rfl))) (Or.inr (hw _ (List.mem_of_getElem? (i := 19) rfl))) (by decide) (t := (.array .int)) (t' := (.array .int)) (by decide) (by decide)))).other W14 (Or.inr (slot_ne (Or.inr (hw _ (List.mem_of_getElem? (i := 17) rfl))) (Or.inr (hw _ (List.mem_of_getElem? (i := 21) rfl))) (by decide) (t := (.array .int)) (t' := (.array .long)) (by decide) (by decide)))).other W17 (Or.inr (slot_ne (Or.inr (hw _ (List.mem_of_getElem? (i := 17) rfl))) (Or.inr (hw _ (List.mem_of_getElem? (i := 23) rfl))) (by decide) (t := (.array .int)) (t' := .int) (by decide) (by decide)))).other W20 (Or.inr (slot_ne (Or.inr (hw _ (List.mem_of_getElem? (i := 17) rfl))) (Or.inr (hw _ (List.mem_of_getElem? (i := 25) rfl))) (by decide) (t := (.array .int)) (t' := (.array .int)) (by decide) (by decide))))
  have y26 := (((Fw11.other W14 (Or.inr (slot_ne (Or.inr (hw _ (List.mem_of_getElem? (i := 19) rfl))) (Or.inr (hw _ (List.mem_of_getElem? (i := 21) rfl))) (by decide) (t := (.array .int)) (t' := (.array .long)) (by decide) (by decide)))).other W17 (Or.inr (slot_ne (Or.inr (hw _ (List.mem_of_getElem? (i := 19) rfl))) (Or.inr (hw _ (List.mem_of_getElem? (i := 23) rfl))) (by decide) (t := (.array .int)) (t' := .int) (by decide) (by decide)))).other W20 (Or.inr (slot_ne (Or.inr (hw _ (List.mem_of_getElem? (i := 19) rfl))) (Or.inr (hw _ (List.mem_of_getElem? (i := 25) rfl))) (by decide) (t := (.array .int)) (t' := (.array .int)) (by decide) (by decide))))
  have y27 := ((Fw14.other W17 (Or.inr (slot_ne (Or.inr (hw _ (List.mem_of_getElem? (i := 21) rfl))) (Or.inr (hw _ (List.mem_of_getElem? (i := 23) rfl))) (by decide) (t := (.array .long)) (t' := .int) (by decide) (by decide)))).other W20 (Or.inr (slot_ne (Or.inr (hw _ (List.mem_of_getElem? (i := 21) rfl))) (Or.inr (hw _ (List.mem_of_getElem? (i := 25) rfl))) (by decide) (t := (.array .long)) (t' := (.array .int)) (by decide) (by decide))))
  have y28 := (Fw17.other W20 (Or.inr (slot_ne (Or.inr (hw _ (List.mem_of_getElem? (i := 23) rfl))) (Or.inr (hw _ (List.mem_of_getElem? (i := 25) rfl))) (by decide) (t := .int) (t' := (.array .int)) (by decide) (by decide))))
  exact ⟨_, _, pre21 _ (X20.returnOut hx Bd.returns (hb hby d1_43) hr), hrun, hended, _, _, rfl, (by show Q1 Z a0 p1 a2 a3 a4 a5 p6 a7 wa0_assignmentCount wa0_firstChoice wa0_outputs wa0_targets wa0_weights wa0_parityCount wa0_priorities h0 n0 _ T20.heap _; rw [e20]; exact ⟨rfl, N20, KC20, y22, y23, y24, y25, y26, y27, y28, Fw20⟩), ⟨_, rfl⟩, hW, hsame.mono (by decide) (by decide)⟩
def F3 (p1 : Int32) (p2 : Int32) (wa0_assignmentCount : Int32) (xs_wa0_firstChoice : List Int32) (z_wa0_firstChoice : Int32) : Int32 := ((xs_wa0_firstChoice : List Int32).getD ((((p1 * wa0_assignmentCount) + p2) + (1 : Int32))).toNatClampNeg 0)
theorem ef3 (m : MethodId) (x0 : Addr) (x1 : Int32) (x2 : Int32) : entryFrame m #[(.ref x0), (.int x1), (.int x2)] 3 = mkF m 0 #[.val (.ref x0), .val (.int x1), .val (.int x2)] [] := by first | (simp [entryFrame, mkF, argsToLocals, Value.category]; done) | rfl
def Q3 (Z : State) (a0 : Addr) (p1 : Int32) (p2 : Int32) (wa0_firstChoice : Addr) (wa0_assignmentCount : Int32) (xs_wa0_firstChoice : List Int32) (z_wa0_firstChoice : Int32) (k_wa0_firstChoice : ClassId) (h0 : Heap) (n0 : Nat) (v : Option Value) (h : Heap) (L : List Loc) : Prop := v = some (.int (F3 p1 p2 wa0_assignmentCount xs_wa0_firstChoice z_wa0_firstChoice)) ∧ Fr n0 L ∧ h = h0
set_option maxRecDepth 65536 in
set_option maxHeartbeats 40000000 in
theorem rm3 (l : Launch) (Z : State) (a0' : Array Value) (hw : ∀ d ∈ tables_1, d.before a0' Z = true) (ws : List Jvm.Cond) (a0 : Addr) (p1 : Int32) (p2 : Int32) (wa0_firstChoice : Addr) (wa0_assignmentCount : Int32) (xs_wa0_firstChoice : List Int32) (z_wa0_firstChoice : Int32) (k_wa0_firstChoice : ClassId) (h0 : Heap) (n0 : Nat) (Z0 : n0 ≤ h0.size) (V_wa0_firstChoice : Arv Z h0 wa0_firstChoice k_wa0_firstChoice .int z_wa0_firstChoice (xs_wa0_firstChoice.map Value.int) (.int 0)) (F_wa0_firstChoice : Fld Z h0 a0 "com/example/frugal_synth/frugalsynth/Arena" "firstChoice" "[I" (.ref wa0_firstChoice)) (F_wa0_assignmentCount : Fld Z h0 a0 "com/example/frugal_synth/frugalsynth/Arena" "assignmentCount" "I" (.int wa0_assignmentCount)) (hin_14 : ¬ (((p1 * wa0_assignmentCount) + p2) + (1 : Int32)) < 0 ∧ (((p1 * wa0_assignmentCount) + p2) + (1 : Int32)) < z_wa0_firstChoice) :
    MetFree l (⟨"com/example/frugal_synth/frugalsynth/Arena", "endChoice", "(II)I"⟩ : MethodName) (head1 (Jvm.Cond.code (⟨"com/example/frugal_synth/frugalsynth/Arena", "endChoice", "(II)I"⟩ : MethodName) prog_2_method_8_code 3 (some .int) :: ws) ({ frames := 0, cells := 0, slots := 0, locals := 0 } : Room)) (fun a U => a = #[(.ref a0), (.int p1), (.int p2)] ∧ Z.Warmed39 U.vm ∧ U.heap = h0) (fun _ _ _ _ _ => True) (fun _ U o U' => ∃ v L, o = .returned v ∧ Q3 Z a0 p1 p2 wa0_firstChoice wa0_assignmentCount xs_wa0_firstChoice z_wa0_firstChoice k_wa0_firstChoice h0 n0 v U'.heap L ∧ FrameEnd U o U' L ({ frames := 0, cells := 0, slots := 0, locals := 0 } : Room).cells ({ frames := 0, cells := 0, slots := 0, locals := 0 } : Room).slots) := by
  refine MetFree.of_bodySF (plainFor_of_name pn0) hisR ?_
  intro p e s m args below meth c s₁ Bd hml0 hP hK
  obtain ⟨rfl, hZ, hh⟩ := hP
  have hx := Bd.exec
  have hby := Bd.bytes
  have hml : c.maxLocals = 3 := hml0
  have hown : s.vm.findClass "com/example/frugal_synth/frugalsynth/Arena" = some m.cls := findClass_of_methodNamed Bd.named
  have hnm := (name_of_methodNamed Bd.named Bd.method).1
  have X0 : Stand p l e ({ frames := 0, cells := 0, slots := 0, locals := 0 } : Room) s m #[(.ref a0), (.int p1), (.int p2)] below meth c s₁ [] 0 0 := Stand.of_body Bd
  have e0 : s₁.heap = h0 := by rw [← hh, Bd.state]; rfl
  have N0 := Fr.nil n0
  have hlk : meth.locks = false := by first | exact BodyLoose.notSynchronized Bd | exact Body.notSynchronized Bd
  have pre0 : ∀ t, Steps p.tables e below (s₁.setTop (mkF m 0 #[.val (.ref a0), .val (.int p1), .val (.int p2)] [])) t → Steps p.tables e below (s₁.setTop (entryFrame m #[(.ref a0), (.int p1), (.int p2)] 3)) t := fun t k => castTop (ef3 m a0 p1 p2) k
  obtain ⟨T1, X1, e1, st1⟩ := getF X0 hx hZ hown (host := "") (Or.inl (hw _ (List.mem_of_getElem? (i := 14) rfl))) Via.refl e0 F_wa0_firstChoice (g := (mkF m 1 #[.val (.ref a0), .val (.int p1), .val (.int p2)] [(.ref a0)])) rfl rfl (hb hby d3_1)
  obtain ⟨T2, X2, e2, st2⟩ := getF X1 hx hZ hown (host := "") (Or.inl (hw _ (List.mem_of_getElem? (i := 12) rfl))) Via.refl e1 F_wa0_assignmentCount (g := (mkF m 6 #[.val (.ref a0), .val (.int p1), .val (.int p2)] [(.ref a0), (.int p1), (.ref wa0_firstChoice)])) rfl rfl (hb hby d3_6)
  obtain ⟨cl3, Ar3, q3, S3, M3, H3, G3⟩ := id V_wa0_firstChoice
  have hin3 : ¬ ((((p1 * wa0_assignmentCount) + p2) + (1 : Int32)) < 0 ∨ cl3.slots.size ≤ ((((p1 * wa0_assignmentCount) + p2) + (1 : Int32))).toNatClampNeg) := inb_of S3 hin_14
  have hat3 : cl3.slots[((((p1 * wa0_assignmentCount) + p2) + (1 : Int32))).toNatClampNeg]? = some (.int ((xs_wa0_firstChoice : List Int32).getD ((((p1 * wa0_assignmentCount) + p2) + (1 : Int32))).toNatClampNeg 0)) := H3.at hin3 (own_getDI xs_wa0_firstChoice _)
  have pre4 : ∀ t, Steps p.tables e below (T2.setTop (mkF m 15 #[.val (.ref a0), .val (.int p1), .val (.int p2)] [(.int ((xs_wa0_firstChoice : List Int32).getD ((((p1 * wa0_assignmentCount) + p2) + (1 : Int32))).toNatClampNeg 0))])) t → Steps p.tables e below (s₁.setTop (entryFrame m #[(.ref a0), (.int p1), (.int p2)] 3)) t := fun t k => pre0 t (by
    show Steps p.tables e below (s₁.setTop (mkF m 0 #[.val (.ref a0), .val (.int p1), .val (.int p2)] [])) _
    refine XS.aloadN X0.here hx rfl (hb hby d3_0) rfl rfl ?_
    show Steps p.tables e below (s₁.setTop (mkF m 1 #[.val (.ref a0), .val (.int p1), .val (.int p2)] [(.ref a0)])) _
    refine st1 _ ?_
    show Steps p.tables e below (T1.setTop (mkF m 4 #[.val (.ref a0), .val (.int p1), .val (.int p2)] [(.ref wa0_firstChoice)])) _
    refine XS.iloadN X1.here hx rfl (hb hby d3_4) rfl ?_
    show Steps p.tables e below (T1.setTop (mkF m 5 #[.val (.ref a0), .val (.int p1), .val (.int p2)] [(.int p1), (.ref wa0_firstChoice)])) _
    refine XS.aloadN X1.here hx rfl (hb hby d3_5) rfl rfl ?_
    show Steps p.tables e below (T1.setTop (mkF m 6 #[.val (.ref a0), .val (.int p1), .val (.int p2)] [(.ref a0), (.int p1), (.ref wa0_firstChoice)])) _
    refine st2 _ ?_
    show Steps p.tables e below (T2.setTop (mkF m 9 #[.val (.ref a0), .val (.int p1), .val (.int p2)] [(.int wa0_assignmentCount), (.int p1), (.ref wa0_firstChoice)])) _
    refine XS.imul X2.here hx rfl (hb hby d3_9) rfl ?_
    show Steps p.tables e below (T2.setTop (mkF m 10 #[.val (.ref a0), .val (.int p1), .val (.int p2)] [(.int (p1 * wa0_assignmentCount)), (.ref wa0_firstChoice)])) _
    refine XS.iloadN X2.here hx rfl (hb hby d3_10) rfl ?_
    show Steps p.tables e below (T2.setTop (mkF m 11 #[.val (.ref a0), .val (.int p1), .val (.int p2)] [(.int p2), (.int (p1 * wa0_assignmentCount)), (.ref wa0_firstChoice)])) _
    refine XS.iadd X2.here hx rfl (hb hby d3_11) rfl ?_
    show Steps p.tables e below (T2.setTop (mkF m 12 #[.val (.ref a0), .val (.int p1), .val (.int p2)] [(.int ((p1 * wa0_assignmentCount) + p2)), (.ref wa0_firstChoice)])) _
    refine XS.iconst X2.here hx rfl (hb hby d3_12) ?_
    show Steps p.tables e below (T2.setTop (mkF m 13 #[.val (.ref a0), .val (.int p1), .val (.int p2)] [(.int (1 : Int32)), (.int ((p1 * wa0_assignmentCount) + p2)), (.ref wa0_firstChoice)])) _
    refine XS.iadd X2.here hx rfl (hb hby d3_13) rfl ?_
    show Steps p.tables e below (T2.setTop (mkF m 14 #[.val (.ref a0), .val (.int p1), .val (.int p2)] [(.int (((p1 * wa0_assignmentCount) + p2) + (1 : Int32))), (.ref wa0_firstChoice)])) _
    refine X2.iaload hx (j := (((p1 * wa0_assignmentCount) + p2) + (1 : Int32))) (v := (.int ((xs_wa0_firstChoice : List Int32).getD ((((p1 * wa0_assignmentCount) + p2) + (1 : Int32))).toNatClampNeg 0))) (by rw [e2]; exact Ar3.1) (State.isArrayOf_alike hZ.alike Ar3.2.1) Ar3.2.2 hin3 hat3 (g := (mkF m 14 #[.val (.ref a0), .val (.int p1), .val (.int p2)] [(.int (((p1 * wa0_assignmentCount) + p2) + (1 : Int32))), (.ref wa0_firstChoice)])) rfl rfl (hb hby d3_14) _ ?_
    exact k)
  obtain ⟨fs, hr, hrun, hended, hW, hsame⟩ := X2.leave (v := some (.int ((xs_wa0_firstChoice : List Int32).getD ((((p1 * wa0_assignmentCount) + p2) + (1 : Int32))).toNatClampNeg 0))) (fun h => by rw [Bd.returns] at h; cases h) hlk
  have hF : (F3 p1 p2 wa0_assignmentCount xs_wa0_firstChoice z_wa0_firstChoice) = ((xs_wa0_firstChoice : List Int32).getD ((((p1 * wa0_assignmentCount) + p2) + (1 : Int32))).toNatClampNeg 0) := by rfl
  exact ⟨_, _, pre4 _ (retI X2 hx Bd.returns (hb hby d3_15) hr), hrun, hended, _, _, rfl, ⟨by rw [hF], N0, e2⟩, ⟨_, rfl⟩, hW, hsame.mono (by decide) (by decide)⟩
def F4 (p1 : Int32) (p2 : Int32) (wa0_assignmentCount : Int32) (xs_wa0_firstChoice : List Int32) (z_wa0_firstChoice : Int32) : Int32 := ((xs_wa0_firstChoice : List Int32).getD (((p1 * wa0_assignmentCount) + p2)).toNatClampNeg 0)
theorem ef4 (m : MethodId) (x0 : Addr) (x1 : Int32) (x2 : Int32) : entryFrame m #[(.ref x0), (.int x1), (.int x2)] 3 = mkF m 0 #[.val (.ref x0), .val (.int x1), .val (.int x2)] [] := by first | (simp [entryFrame, mkF, argsToLocals, Value.category]; done) | rfl
def Q4 (Z : State) (a0 : Addr) (p1 : Int32) (p2 : Int32) (wa0_firstChoice : Addr) (wa0_assignmentCount : Int32) (xs_wa0_firstChoice : List Int32) (z_wa0_firstChoice : Int32) (k_wa0_firstChoice : ClassId) (h0 : Heap) (n0 : Nat) (v : Option Value) (h : Heap) (L : List Loc) : Prop := v = some (.int (F4 p1 p2 wa0_assignmentCount xs_wa0_firstChoice z_wa0_firstChoice)) ∧ Fr n0 L ∧ h = h0
set_option maxRecDepth 65536 in
set_option maxHeartbeats 40000000 in
theorem rm4 (l : Launch) (Z : State) (a0' : Array Value) (hw : ∀ d ∈ tables_1, d.before a0' Z = true) (ws : List Jvm.Cond) (a0 : Addr) (p1 : Int32) (p2 : Int32) (wa0_firstChoice : Addr) (wa0_assignmentCount : Int32) (xs_wa0_firstChoice : List Int32) (z_wa0_firstChoice : Int32) (k_wa0_firstChoice : ClassId) (h0 : Heap) (n0 : Nat) (Z0 : n0 ≤ h0.size) (V_wa0_firstChoice : Arv Z h0 wa0_firstChoice k_wa0_firstChoice .int z_wa0_firstChoice (xs_wa0_firstChoice.map Value.int) (.int 0)) (F_wa0_firstChoice : Fld Z h0 a0 "com/example/frugal_synth/frugalsynth/Arena" "firstChoice" "[I" (.ref wa0_firstChoice)) (F_wa0_assignmentCount : Fld Z h0 a0 "com/example/frugal_synth/frugalsynth/Arena" "assignmentCount" "I" (.int wa0_assignmentCount)) (hin_12 : ¬ ((p1 * wa0_assignmentCount) + p2) < 0 ∧ ((p1 * wa0_assignmentCount) + p2) < z_wa0_firstChoice) :
    MetFree l (⟨"com/example/frugal_synth/frugalsynth/Arena", "firstChoice", "(II)I"⟩ : MethodName) (head1 (Jvm.Cond.code (⟨"com/example/frugal_synth/frugalsynth/Arena", "firstChoice", "(II)I"⟩ : MethodName) prog_2_method_7_code 3 (some .int) :: ws) ({ frames := 0, cells := 0, slots := 0, locals := 0 } : Room)) (fun a U => a = #[(.ref a0), (.int p1), (.int p2)] ∧ Z.Warmed39 U.vm ∧ U.heap = h0) (fun _ _ _ _ _ => True) (fun _ U o U' => ∃ v L, o = .returned v ∧ Q4 Z a0 p1 p2 wa0_firstChoice wa0_assignmentCount xs_wa0_firstChoice z_wa0_firstChoice k_wa0_firstChoice h0 n0 v U'.heap L ∧ FrameEnd U o U' L ({ frames := 0, cells := 0, slots := 0, locals := 0 } : Room).cells ({ frames := 0, cells := 0, slots := 0, locals := 0 } : Room).slots) := by
  refine MetFree.of_bodySF (plainFor_of_name pn0) hisR ?_
  intro p e s m args below meth c s₁ Bd hml0 hP hK
  obtain ⟨rfl, hZ, hh⟩ := hP
  have hx := Bd.exec
  have hby := Bd.bytes
  have hml : c.maxLocals = 3 := hml0
  have hown : s.vm.findClass "com/example/frugal_synth/frugalsynth/Arena" = some m.cls := findClass_of_methodNamed Bd.named
  have hnm := (name_of_methodNamed Bd.named Bd.method).1
  have X0 : Stand p l e ({ frames := 0, cells := 0, slots := 0, locals := 0 } : Room) s m #[(.ref a0), (.int p1), (.int p2)] below meth c s₁ [] 0 0 := Stand.of_body Bd
  have e0 : s₁.heap = h0 := by rw [← hh, Bd.state]; rfl
  have N0 := Fr.nil n0
  have hlk : meth.locks = false := by first | exact BodyLoose.notSynchronized Bd | exact Body.notSynchronized Bd
  have pre0 : ∀ t, Steps p.tables e below (s₁.setTop (mkF m 0 #[.val (.ref a0), .val (.int p1), .val (.int p2)] [])) t → Steps p.tables e below (s₁.setTop (entryFrame m #[(.ref a0), (.int p1), (.int p2)] 3)) t := fun t k => castTop (ef4 m a0 p1 p2) k
  obtain ⟨T1, X1, e1, st1⟩ := getF X0 hx hZ hown (host := "") (Or.inl (hw _ (List.mem_of_getElem? (i := 14) rfl))) Via.refl e0 F_wa0_firstChoice (g := (mkF m 1 #[.val (.ref a0), .val (.int p1), .val (.int p2)] [(.ref a0)])) rfl rfl (hb hby d4_1)
  obtain ⟨T2, X2, e2, st2⟩ := getF X1 hx hZ hown (host := "") (Or.inl (hw _ (List.mem_of_getElem? (i := 12) rfl))) Via.refl e1 F_wa0_assignmentCount (g := (mkF m 6 #[.val (.ref a0), .val (.int p1), .val (.int p2)] [(.ref a0), (.int p1), (.ref wa0_firstChoice)])) rfl rfl (hb hby d4_6)
  obtain ⟨cl3, Ar3, q3, S3, M3, H3, G3⟩ := id V_wa0_firstChoice
  have hin3 : ¬ (((p1 * wa0_assignmentCount) + p2) < 0 ∨ cl3.slots.size ≤ (((p1 * wa0_assignmentCount) + p2)).toNatClampNeg) := inb_of S3 hin_12
  have hat3 : cl3.slots[(((p1 * wa0_assignmentCount) + p2)).toNatClampNeg]? = some (.int ((xs_wa0_firstChoice : List Int32).getD (((p1 * wa0_assignmentCount) + p2)).toNatClampNeg 0)) := H3.at hin3 (own_getDI xs_wa0_firstChoice _)
  have pre4 : ∀ t, Steps p.tables e below (T2.setTop (mkF m 13 #[.val (.ref a0), .val (.int p1), .val (.int p2)] [(.int ((xs_wa0_firstChoice : List Int32).getD (((p1 * wa0_assignmentCount) + p2)).toNatClampNeg 0))])) t → Steps p.tables e below (s₁.setTop (entryFrame m #[(.ref a0), (.int p1), (.int p2)] 3)) t := fun t k => pre0 t (by
    show Steps p.tables e below (s₁.setTop (mkF m 0 #[.val (.ref a0), .val (.int p1), .val (.int p2)] [])) _
    refine XS.aloadN X0.here hx rfl (hb hby d4_0) rfl rfl ?_
    show Steps p.tables e below (s₁.setTop (mkF m 1 #[.val (.ref a0), .val (.int p1), .val (.int p2)] [(.ref a0)])) _
    refine st1 _ ?_
    show Steps p.tables e below (T1.setTop (mkF m 4 #[.val (.ref a0), .val (.int p1), .val (.int p2)] [(.ref wa0_firstChoice)])) _
    refine XS.iloadN X1.here hx rfl (hb hby d4_4) rfl ?_
    show Steps p.tables e below (T1.setTop (mkF m 5 #[.val (.ref a0), .val (.int p1), .val (.int p2)] [(.int p1), (.ref wa0_firstChoice)])) _
    refine XS.aloadN X1.here hx rfl (hb hby d4_5) rfl rfl ?_
    show Steps p.tables e below (T1.setTop (mkF m 6 #[.val (.ref a0), .val (.int p1), .val (.int p2)] [(.ref a0), (.int p1), (.ref wa0_firstChoice)])) _
    refine st2 _ ?_
    show Steps p.tables e below (T2.setTop (mkF m 9 #[.val (.ref a0), .val (.int p1), .val (.int p2)] [(.int wa0_assignmentCount), (.int p1), (.ref wa0_firstChoice)])) _
    refine XS.imul X2.here hx rfl (hb hby d4_9) rfl ?_
    show Steps p.tables e below (T2.setTop (mkF m 10 #[.val (.ref a0), .val (.int p1), .val (.int p2)] [(.int (p1 * wa0_assignmentCount)), (.ref wa0_firstChoice)])) _
    refine XS.iloadN X2.here hx rfl (hb hby d4_10) rfl ?_
    show Steps p.tables e below (T2.setTop (mkF m 11 #[.val (.ref a0), .val (.int p1), .val (.int p2)] [(.int p2), (.int (p1 * wa0_assignmentCount)), (.ref wa0_firstChoice)])) _
    refine XS.iadd X2.here hx rfl (hb hby d4_11) rfl ?_
    show Steps p.tables e below (T2.setTop (mkF m 12 #[.val (.ref a0), .val (.int p1), .val (.int p2)] [(.int ((p1 * wa0_assignmentCount) + p2)), (.ref wa0_firstChoice)])) _
    refine X2.iaload hx (j := ((p1 * wa0_assignmentCount) + p2)) (v := (.int ((xs_wa0_firstChoice : List Int32).getD (((p1 * wa0_assignmentCount) + p2)).toNatClampNeg 0))) (by rw [e2]; exact Ar3.1) (State.isArrayOf_alike hZ.alike Ar3.2.1) Ar3.2.2 hin3 hat3 (g := (mkF m 12 #[.val (.ref a0), .val (.int p1), .val (.int p2)] [(.int ((p1 * wa0_assignmentCount) + p2)), (.ref wa0_firstChoice)])) rfl rfl (hb hby d4_12) _ ?_
    exact k)
  obtain ⟨fs, hr, hrun, hended, hW, hsame⟩ := X2.leave (v := some (.int ((xs_wa0_firstChoice : List Int32).getD (((p1 * wa0_assignmentCount) + p2)).toNatClampNeg 0))) (fun h => by rw [Bd.returns] at h; cases h) hlk
  have hF : (F4 p1 p2 wa0_assignmentCount xs_wa0_firstChoice z_wa0_firstChoice) = ((xs_wa0_firstChoice : List Int32).getD (((p1 * wa0_assignmentCount) + p2)).toNatClampNeg 0) := by rfl
  exact ⟨_, _, pre4 _ (retI X2 hx Bd.returns (hb hby d4_13) hr), hrun, hended, _, _, rfl, ⟨by rw [hF], N0, e2⟩, ⟨_, rfl⟩, hW, hsame.mono (by decide) (by decide)⟩
def F5 (xs_wa0_targets : List Int32) (z_wa0_targets : Int32) : Int32 := z_wa0_targets
theorem ef5 (m : MethodId) (x0 : Addr) : entryFrame m #[(.ref x0)] 1 = mkF m 0 #[.val (.ref x0)] [] := by first | (simp [entryFrame, mkF, argsToLocals, Value.category]; done) | rfl
def Q5 (Z : State) (a0 : Addr) (wa0_targets : Addr) (xs_wa0_targets : List Int32) (z_wa0_targets : Int32) (k_wa0_targets : ClassId) (h0 : Heap) (n0 : Nat) (v : Option Value) (h : Heap) (L : List Loc) : Prop := v = some (.int (F5 xs_wa0_targets z_wa0_targets)) ∧ Fr n0 L ∧ h = h0
set_option maxRecDepth 65536 in
set_option maxHeartbeats 40000000 in
theorem rm5 (l : Launch) (Z : State) (a0' : Array Value) (hw : ∀ d ∈ tables_1, d.before a0' Z = true) (ws : List Jvm.Cond) (a0 : Addr) (wa0_targets : Addr) (xs_wa0_targets : List Int32) (z_wa0_targets : Int32) (k_wa0_targets : ClassId) (h0 : Heap) (n0 : Nat) (Z0 : n0 ≤ h0.size) (V_wa0_targets : Arv Z h0 wa0_targets k_wa0_targets .int z_wa0_targets (xs_wa0_targets.map Value.int) (.int 0)) (F_wa0_targets : Fld Z h0 a0 "com/example/frugal_synth/frugalsynth/Arena" "targets" "[I" (.ref wa0_targets)) :
    MetFree l (⟨"com/example/frugal_synth/frugalsynth/Arena", "choiceCount", "()I"⟩ : MethodName) (head1 (Jvm.Cond.code (⟨"com/example/frugal_synth/frugalsynth/Arena", "choiceCount", "()I"⟩ : MethodName) prog_2_method_5_code 1 (some .int) :: ws) ({ frames := 0, cells := 0, slots := 0, locals := 0 } : Room)) (fun a U => a = #[(.ref a0)] ∧ Z.Warmed39 U.vm ∧ U.heap = h0) (fun _ _ _ _ _ => True) (fun _ U o U' => ∃ v L, o = .returned v ∧ Q5 Z a0 wa0_targets xs_wa0_targets z_wa0_targets k_wa0_targets h0 n0 v U'.heap L ∧ FrameEnd U o U' L ({ frames := 0, cells := 0, slots := 0, locals := 0 } : Room).cells ({ frames := 0, cells := 0, slots := 0, locals := 0 } : Room).slots) := by
  refine MetFree.of_bodySF (plainFor_of_name pn0) hisR ?_
  intro p e s m args below meth c s₁ Bd hml0 hP hK
  obtain ⟨rfl, hZ, hh⟩ := hP
  have hx := Bd.exec
  have hby := Bd.bytes
  have hml : c.maxLocals = 1 := hml0
  have hown : s.vm.findClass "com/example/frugal_synth/frugalsynth/Arena" = some m.cls := findClass_of_methodNamed Bd.named
  have hnm := (name_of_methodNamed Bd.named Bd.method).1
  have X0 : Stand p l e ({ frames := 0, cells := 0, slots := 0, locals := 0 } : Room) s m #[(.ref a0)] below meth c s₁ [] 0 0 := Stand.of_body Bd
  have e0 : s₁.heap = h0 := by rw [← hh, Bd.state]; rfl
  have N0 := Fr.nil n0
  have hlk : meth.locks = false := by first | exact BodyLoose.notSynchronized Bd | exact Body.notSynchronized Bd
  have pre0 : ∀ t, Steps p.tables e below (s₁.setTop (mkF m 0 #[.val (.ref a0)] [])) t → Steps p.tables e below (s₁.setTop (entryFrame m #[(.ref a0)] 1)) t := fun t k => castTop (ef5 m a0) k
  obtain ⟨T1, X1, e1, st1⟩ := getF X0 hx hZ hown (host := "") (Or.inl (hw _ (List.mem_of_getElem? (i := 18) rfl))) Via.refl e0 F_wa0_targets (g := (mkF m 1 #[.val (.ref a0)] [(.ref a0)])) rfl rfl (hb hby d5_1)
  obtain ⟨cl2, Ar2, q2, S2, M2, H2, G2⟩ := id V_wa0_targets
  have pre3 : ∀ t, Steps p.tables e below (T1.setTop (mkF m 5 #[.val (.ref a0)] [(.int z_wa0_targets)])) t → Steps p.tables e below (s₁.setTop (entryFrame m #[(.ref a0)] 1)) t := fun t k => pre0 t (by
    show Steps p.tables e below (s₁.setTop (mkF m 0 #[.val (.ref a0)] [])) _
    refine XS.aloadN X0.here hx rfl (hb hby d5_0) rfl rfl ?_
    show Steps p.tables e below (s₁.setTop (mkF m 1 #[.val (.ref a0)] [(.ref a0)])) _
    refine st1 _ ?_
    show Steps p.tables e below (T1.setTop (mkF m 4 #[.val (.ref a0)] [(.ref wa0_targets)])) _
    refine X1.arraylength hx (by rw [e1]; exact Ar2.1) (State.isArrayOf_alike hZ.alike Ar2.2.1) (g := (mkF m 4 #[.val (.ref a0)] [(.ref wa0_targets)])) rfl rfl (hb hby d5_4) _ ?_
    rw [len_of S2 M2]
    exact k)
  obtain ⟨fs, hr, hrun, hended, hW, hsame⟩ := X1.leave (v := some (.int z_wa0_targets)) (fun h => by rw [Bd.returns] at h; cases h) hlk
  have hF : (F5 xs_wa0_targets z_wa0_targets) = z_wa0_targets := by rfl
  exact ⟨_, _, pre3 _ (retI X1 hx Bd.returns (hb hby d5_5) hr), hrun, hended, _, _, rfl, ⟨by rw [hF], N0, e1⟩, ⟨_, rfl⟩, hW, hsame.mono (by decide) (by decide)⟩
def f0_v0 (p0 : Int32) (p1 : Int32) (p2 : Int32) (p3 : Int32) : Int32 := ((p0.toUInt32 >>> ((2 : Int32) &&& 31).toUInt32).toInt32)
def f0_v1 (p0 : Int32) (p1 : Int32) (p2 : Int32) (p3 : Int32) : Int32 := ((p0.toUInt32 >>> ((4 : Int32) &&& 31).toUInt32).toInt32)
def f0_v2 (p0 : Int32) (p1 : Int32) (p2 : Int32) (p3 : Int32) : Int32 := ((p0.toUInt32 >>> ((6 : Int32) &&& 31).toUInt32).toInt32)
def f0_v3 (p0 : Int32) (p1 : Int32) (p2 : Int32) (p3 : Int32) : Int32 := ((p0.toUInt32 >>> ((8 : Int32) &&& 31).toUInt32).toInt32)
def f0_v4 (p0 : Int32) (p1 : Int32) (p2 : Int32) (p3 : Int32) : Int32 := ((p0.toUInt32 >>> ((10 : Int32) &&& 31).toUInt32).toInt32)
def f0_v5 (p0 : Int32) (p1 : Int32) (p2 : Int32) (p3 : Int32) : Int32 := ((p0.toUInt32 >>> ((12 : Int32) &&& 31).toUInt32).toInt32)
def f0_v6 (p0 : Int32) (p1 : Int32) (p2 : Int32) (p3 : Int32) : Int32 := ((p0 &&& (3 : Int32)) + ((f0_v0 p0 p1 p2 p3) &&& (3 : Int32)))
def f0_v7 (p0 : Int32) (p1 : Int32) (p2 : Int32) (p3 : Int32) : Int32 := ((f0_v6 p0 p1 p2 p3) + ((f0_v1 p0 p1 p2 p3) &&& (3 : Int32)))
def f0_v8 (p0 : Int32) (p1 : Int32) (p2 : Int32) (p3 : Int32) : Int32 := ((f0_v7 p0 p1 p2 p3) + ((f0_v2 p0 p1 p2 p3) &&& (3 : Int32)))
def f0_v9 (p0 : Int32) (p1 : Int32) (p2 : Int32) (p3 : Int32) : Int32 := ((f0_v8 p0 p1 p2 p3) + ((f0_v3 p0 p1 p2 p3) &&& (3 : Int32)))
def f0_v10 (p0 : Int32) (p1 : Int32) (p2 : Int32) (p3 : Int32) : Int32 := ((f0_v9 p0 p1 p2 p3) + ((f0_v4 p0 p1 p2 p3) &&& (3 : Int32)))
def f0_v11 (p0 : Int32) (p1 : Int32) (p2 : Int32) (p3 : Int32) : Int32 := ((f0_v10 p0 p1 p2 p3) + ((f0_v5 p0 p1 p2 p3) &&& (3 : Int32)))
def f0_v12 (p0 : Int32) (p1 : Int32) (p2 : Int32) (p3 : Int32) : Int32 := (((0 : Int32) + (p0 &&& (3 : Int32))) + ((f0_v0 p0 p1 p2 p3) &&& (3 : Int32)))
def f0_v13 (p0 : Int32) (p1 : Int32) (p2 : Int32) (p3 : Int32) : Int32 := ((f0_v12 p0 p1 p2 p3) + ((f0_v1 p0 p1 p2 p3) &&& (3 : Int32)))
def f0_v14 (p0 : Int32) (p1 : Int32) (p2 : Int32) (p3 : Int32) : Int32 := ((f0_v13 p0 p1 p2 p3) + ((f0_v2 p0 p1 p2 p3) &&& (3 : Int32)))
def f0_v15 (p0 : Int32) (p1 : Int32) (p2 : Int32) (p3 : Int32) : Int32 := ((f0_v14 p0 p1 p2 p3) + ((f0_v3 p0 p1 p2 p3) &&& (3 : Int32)))
def f0_v16 (p0 : Int32) (p1 : Int32) (p2 : Int32) (p3 : Int32) : Int32 := ((f0_v15 p0 p1 p2 p3) + ((f0_v4 p0 p1 p2 p3) &&& (3 : Int32)))
def f0_v17 (p0 : Int32) (p1 : Int32) (p2 : Int32) (p3 : Int32) : Int32 := ((f0_v16 p0 p1 p2 p3) + ((f0_v5 p0 p1 p2 p3) &&& (3 : Int32)))
def f0_v18 (p0 : Int32) (p1 : Int32) (p2 : Int32) (p3 : Int32) : Int32 := ((f0_v17 p0 p1 p2 p3) + ((21 : Int32) - (f0_v11 p0 p1 p2 p3)))
def f0_v19 (p0 : Int32) (p1 : Int32) (p2 : Int32) (p3 : Int32) : Int32 := ((1 : Int32) <<< ((p1 &&& (3 : Int32)) &&& 31))
def f0_v20 (p0 : Int32) (p1 : Int32) (p2 : Int32) (p3 : Int32) : Int32 := ((8 : Int32) >>> ((p1 &&& (3 : Int32)) &&& 31))
def f0_v21 (p0 : Int32) (p1 : Int32) (p2 : Int32) (p3 : Int32) : Int32 := ((p2 &&& (2147483647 : Int32)) % (f0_v20 p0 p1 p2 p3))
def f0_v22 (p0 : Int32) (p1 : Int32) (p2 : Int32) (p3 : Int32) : Int32 := ((p3 &&& (2147483647 : Int32)) % (f0_v19 p0 p1 p2 p3))
def f0_v23 (p0 : Int32) (p1 : Int32) (p2 : Int32) (p3 : Int32) : Int32 := (((f0_v21 p0 p1 p2 p3) * (f0_v19 p0 p1 p2 p3)) + (f0_v22 p0 p1 p2 p3))
def f0_v24 (p0 : Int32) (p1 : Int32) (p2 : Int32) (p3 : Int32) : Int32 := (F3 (f0_v21 p0 p1 p2 p3) (f0_v22 p0 p1 p2 p3) (f0_v19 p0 p1 p2 p3) [(0 : Int32), ((0 : Int32) + (p0 &&& (3 : Int32))), (f0_v12 p0 p1 p2 p3), (f0_v13 p0 p1 p2 p3), (f0_v14 p0 p1 p2 p3), (f0_v15 p0 p1 p2 p3), (f0_v16 p0 p1 p2 p3), (f0_v17 p0 p1 p2 p3), (f0_v18 p0 p1 p2 p3)] (9 : Int32))
def f0_v25 (p0 : Int32) (p1 : Int32) (p2 : Int32) (p3 : Int32) : Int32 := (([(0 : Int32), ((0 : Int32) + (p0 &&& (3 : Int32))), (f0_v12 p0 p1 p2 p3), (f0_v13 p0 p1 p2 p3), (f0_v14 p0 p1 p2 p3), (f0_v15 p0 p1 p2 p3), (f0_v16 p0 p1 p2 p3), (f0_v17 p0 p1 p2 p3), (f0_v18 p0 p1 p2 p3)] : List Int32).getD ((f0_v23 p0 p1 p2 p3)).toNatClampNeg 0)
def f0_v26 (p0 : Int32) (p1 : Int32) (p2 : Int32) (p3 : Int32) : Int32 := (([(p0 &&& (3 : Int32)), ((f0_v0 p0 p1 p2 p3) &&& (3 : Int32)), ((f0_v1 p0 p1 p2 p3) &&& (3 : Int32)), ((f0_v2 p0 p1 p2 p3) &&& (3 : Int32)), ((f0_v3 p0 p1 p2 p3) &&& (3 : Int32)), ((f0_v4 p0 p1 p2 p3) &&& (3 : Int32)), ((f0_v5 p0 p1 p2 p3) &&& (3 : Int32)), ((21 : Int32) - (f0_v11 p0 p1 p2 p3))] : List Int32).getD ((f0_v23 p0 p1 p2 p3)).toNatClampNeg 0)
def f0_m106 (p0 : Int32) (p1 : Int32) (p2 : Int32) (p3 : Int32) : Int32 := (if (f0_v24 p0 p1 p2 p3) = ((f0_v25 p0 p1 p2 p3) + (f0_v26 p0 p1 p2 p3)) then (1 : Int32) else (0 : Int32))
def f0_v27 (p0 : Int32) (p1 : Int32) (p2 : Int32) (p3 : Int32) : Int32 := (F4 (f0_v21 p0 p1 p2 p3) (f0_v22 p0 p1 p2 p3) (f0_v19 p0 p1 p2 p3) [(0 : Int32), ((0 : Int32) + (p0 &&& (3 : Int32))), (f0_v12 p0 p1 p2 p3), (f0_v13 p0 p1 p2 p3), (f0_v14 p0 p1 p2 p3), (f0_v15 p0 p1 p2 p3), (f0_v16 p0 p1 p2 p3), (f0_v17 p0 p1 p2 p3), (f0_v18 p0 p1 p2 p3)] (9 : Int32))
def f0_m116 (p0 : Int32) (p1 : Int32) (p2 : Int32) (p3 : Int32) : Int32 := (if (f0_m106 p0 p1 p2 p3) = (0 : Int32) then (0 : Int32) else (if ((f0_v24 p0 p1 p2 p3) - (f0_v27 p0 p1 p2 p3)) = (f0_v26 p0 p1 p2 p3) then (1 : Int32) else (0 : Int32)))
def f0_v28 (p0 : Int32) (p1 : Int32) (p2 : Int32) (p3 : Int32) : Int32 := (F4 (f0_v21 p0 p1 p2 p3) ((f0_v22 p0 p1 p2 p3) + (1 : Int32)) (f0_v19 p0 p1 p2 p3) [(0 : Int32), ((0 : Int32) + (p0 &&& (3 : Int32))), (f0_v12 p0 p1 p2 p3), (f0_v13 p0 p1 p2 p3), (f0_v14 p0 p1 p2 p3), (f0_v15 p0 p1 p2 p3), (f0_v16 p0 p1 p2 p3), (f0_v17 p0 p1 p2 p3), (f0_v18 p0 p1 p2 p3)] (9 : Int32))
def f0_m127 (p0 : Int32) (p1 : Int32) (p2 : Int32) (p3 : Int32) : Int32 := (if (f0_m116 p0 p1 p2 p3) = (0 : Int32) then (0 : Int32) else (if (f0_v24 p0 p1 p2 p3) = (f0_v28 p0 p1 p2 p3) then (1 : Int32) else (0 : Int32)))
def f0_v29 (p0 : Int32) (p1 : Int32) (p2 : Int32) (p3 : Int32) : Int32 := (F4 ((f0_v21 p0 p1 p2 p3) + (1 : Int32)) (0 : Int32) (f0_v19 p0 p1 p2 p3) [(0 : Int32), ((0 : Int32) + (p0 &&& (3 : Int32))), (f0_v12 p0 p1 p2 p3), (f0_v13 p0 p1 p2 p3), (f0_v14 p0 p1 p2 p3), (f0_v15 p0 p1 p2 p3), (f0_v16 p0 p1 p2 p3), (f0_v17 p0 p1 p2 p3), (f0_v18 p0 p1 p2 p3)] (9 : Int32))
def f0_m139 (p0 : Int32) (p1 : Int32) (p2 : Int32) (p3 : Int32) : Int32 := (if (f0_m116 p0 p1 p2 p3) = (0 : Int32) then (0 : Int32) else (if (f0_v24 p0 p1 p2 p3) = (f0_v29 p0 p1 p2 p3) then (1 : Int32) else (0 : Int32)))
def f0_v30 (p0 : Int32) (p1 : Int32) (p2 : Int32) (p3 : Int32) : Int32 := (F5 [(0 : Int32), (0 : Int32), (0 : Int32), (0 : Int32), (0 : Int32), (0 : Int32), (0 : Int32), (0 : Int32), (0 : Int32), (0 : Int32), (0 : Int32), (0 : Int32), (0 : Int32), (0 : Int32), (0 : Int32), (0 : Int32), (0 : Int32), (0 : Int32), (0 : Int32), (0 : Int32), (0 : Int32)] (21 : Int32))
def f0_m150 (p0 : Int32) (p1 : Int32) (p2 : Int32) (p3 : Int32) : Int32 := (if (f0_m116 p0 p1 p2 p3) = (0 : Int32) then (0 : Int32) else (if (f0_v24 p0 p1 p2 p3) = (f0_v30 p0 p1 p2 p3) then (1 : Int32) else (0 : Int32)))
def f0_m152 (p0 : Int32) (p1 : Int32) (p2 : Int32) (p3 : Int32) : Int32 := (if ((f0_v22 p0 p1 p2 p3) + (1 : Int32)) < (f0_v19 p0 p1 p2 p3) then (f0_m127 p0 p1 p2 p3) else (if ((f0_v21 p0 p1 p2 p3) + (1 : Int32)) < (f0_v20 p0 p1 p2 p3) then (f0_m139 p0 p1 p2 p3) else (f0_m150 p0 p1 p2 p3)))
def F0 (p0 : Int32) (p1 : Int32) (p2 : Int32) (p3 : Int32) : Int32 := ((f0_m152 p0 p1 p2 p3) &&& 1)
theorem own_q (x : Int32) : x &&& 3 = 0 ∨ x &&& 3 = 1 ∨ x &&& 3 = 2 ∨ x &&& 3 = 3 := by
  have r : (x &&& (3 : Int32)).toInt = x.toInt % (2 ^ 2 : Nat) := c_mask x 3 2 (by decide) (by decide)
  have q : (x &&& (3 : Int32)).toInt = 0 ∨ (x &&& (3 : Int32)).toInt = 1 ∨ (x &&& (3 : Int32)).toInt = 2 ∨ (x &&& (3 : Int32)).toInt = 3 := by omega
  rcases q with q | q | q | q
  · exact Or.inl (Int32.toInt_inj.mp q)
  · exact Or.inr (Or.inl (Int32.toInt_inj.mp q))
  · exact Or.inr (Or.inr (Or.inl (Int32.toInt_inj.mp q)))
  · exact Or.inr (Or.inr (Or.inr (Int32.toInt_inj.mp q)))
theorem own_r (x d : Int32) (D : Int) (hd : d.toInt = D) (hD : 0 < D) : 0 ≤ ((x &&& (2147483647 : Int32)) % d).toInt ∧ ((x &&& (2147483647 : Int32)) % d).toInt < D := by
  have em0 : (x &&& (2147483647 : Int32)).toInt = x.toInt % (2 ^ 31 : Nat) := c_mask x 2147483647 31 (by decide) (by decide)
  have er := (c_irem (x &&& (2147483647 : Int32)) d D hd).1 (by omega)
  rw [er]
  exact ⟨Int.emod_nonneg _ (by omega), Int.emod_lt_of_pos _ hD⟩
theorem own_mix (p a : Int32) (ac : Int32) (A : Int) (hA : ac.toInt = A) (P : Int) (hP : p.toInt * A = P) (h1 : 0 ≤ P) (h2 : P ≤ 8) (h3 : 0 ≤ a.toInt) (h4 : a.toInt ≤ 8) : (p * ac + a).toInt = P + a.toInt := by
  have m := c_imul p ac; rw [hA, hP] at m
  have rm := rng32 (p * ac)
  have s := c_iadd (p * ac) a
  have rs := rng32 (p * ac + a)
  omega
theorem own_ac (p0 p1 p2 p3 : Int32) : (f0_v19 p0 p1 p2 p3 = 1 ∧ f0_v20 p0 p1 p2 p3 = 8) ∨ (f0_v19 p0 p1 p2 p3 = 2 ∧ f0_v20 p0 p1 p2 p3 = 4) ∨ (f0_v19 p0 p1 p2 p3 = 4 ∧ f0_v20 p0 p1 p2 p3 = 2) ∨ (f0_v19 p0 p1 p2 p3 = 8 ∧ f0_v20 p0 p1 p2 p3 = 1) := by
  unfold f0_v19 f0_v20
  rcases own_q p1 with h | h | h | h <;> rw [h] <;> decide
theorem own_nz19 (p0 p1 p2 p3 : Int32) : f0_v19 p0 p1 p2 p3 ≠ 0 := by
  rcases own_ac p0 p1 p2 p3 with h | h | h | h <;> rw [h.1] <;> decide
theorem own_nz20 (p0 p1 p2 p3 : Int32) : f0_v20 p0 p1 p2 p3 ≠ 0 := by
  rcases own_ac p0 p1 p2 p3 with h | h | h | h <;> rw [h.2] <;> decide
/-- the place s = p * ac + a lies in 0 .. 7; s + 1 is the place of (p, a + 1); of (p + 1, 0) where a + 1 = ac; and 8 where p + 1 = n too -/
theorem own_idx (p0 p1 p2 p3 : Int32) : (0 ≤ (f0_v23 p0 p1 p2 p3).toInt ∧ (f0_v23 p0 p1 p2 p3).toInt < 8) ∧ ((f0_v21 p0 p1 p2 p3) * (f0_v19 p0 p1 p2 p3) + ((f0_v22 p0 p1 p2 p3) + 1)).toInt = (f0_v23 p0 p1 p2 p3).toInt + 1
    ∧ (0 ≤ (((f0_v21 p0 p1 p2 p3) + 1) * (f0_v19 p0 p1 p2 p3) + 0).toInt ∧ (((f0_v21 p0 p1 p2 p3) + 1) * (f0_v19 p0 p1 p2 p3) + 0).toInt ≤ 8) ∧ (¬ ((f0_v22 p0 p1 p2 p3) + (1 : Int32)) < (f0_v19 p0 p1 p2 p3) → (((f0_v21 p0 p1 p2 p3) + 1) * (f0_v19 p0 p1 p2 p3) + 0).toInt = (f0_v23 p0 p1 p2 p3).toInt + 1 ∧ (¬ ((f0_v21 p0 p1 p2 p3) + (1 : Int32)) < (f0_v20 p0 p1 p2 p3) → (f0_v23 p0 p1 p2 p3).toInt = 7)) := by
  unfold f0_v23 f0_v21 f0_v22
  rw [Int32.lt_iff_toInt_lt, Int32.lt_iff_toInt_lt]
  have o : (1 : Int32).toInt = 1 := rfl
  have z : (0 : Int32).toInt = 0 := rfl
  rcases own_ac p0 p1 p2 p3 with h | h | h | h <;> rw [h.1, h.2]
  · have a := own_r p2 8 8 (by decide) (by decide); have b := own_r p3 1 1 (by decide) (by decide)
    generalize (p2 &&& (2147483647 : Int32)) % 8 = p at *
    generalize (p3 &&& (2147483647 : Int32)) % 1 = q at *
    have q1 : (q + 1).toInt = q.toInt + 1 := by have := c_iadd q 1; have := rng32 (q + 1); omega
    have p1 : (p + 1).toInt = p.toInt + 1 := by have := c_iadd p 1; have := rng32 (p + 1); omega
    have ca : (1 : Int32).toInt = 1 := rfl
    have cn : (8 : Int32).toInt = 8 := rfl
    rw [own_mix p q 1 1 (by decide) _ rfl (by omega) (by omega) b.1 (by omega), own_mix p (q + 1) 1 1 (by decide) _ rfl (by omega) (by omega) (by omega) (by omega), own_mix (p + 1) 0 1 1 (by decide) _ rfl (by omega) (by omega) (by decide) (by decide)]
    omega
  · have a := own_r p2 4 4 (by decide) (by decide); have b := own_r p3 2 2 (by decide) (by decide)
    generalize (p2 &&& (2147483647 : Int32)) % 4 = p at *
    generalize (p3 &&& (2147483647 : Int32)) % 2 = q at *
    have q1 : (q + 1).toInt = q.toInt + 1 := by have := c_iadd q 1; have := rng32 (q + 1); omega
    have p1 : (p + 1).toInt = p.toInt + 1 := by have := c_iadd p 1; have := rng32 (p + 1); omega
    have ca : (2 : Int32).toInt = 2 := rfl
    have cn : (4 : Int32).toInt = 4 := rfl
    rw [own_mix p q 2 2 (by decide) _ rfl (by omega) (by omega) b.1 (by omega), own_mix p (q + 1) 2 2 (by decide) _ rfl (by omega) (by omega) (by omega) (by omega), own_mix (p + 1) 0 2 2 (by decide) _ rfl (by omega) (by omega) (by decide) (by decide)]
    omega
  · have a := own_r p2 2 2 (by decide) (by decide); have b := own_r p3 4 4 (by decide) (by decide)
    generalize (p2 &&& (2147483647 : Int32)) % 2 = p at *
    generalize (p3 &&& (2147483647 : Int32)) % 4 = q at *
    have q1 : (q + 1).toInt = q.toInt + 1 := by have := c_iadd q 1; have := rng32 (q + 1); omega
    have p1 : (p + 1).toInt = p.toInt + 1 := by have := c_iadd p 1; have := rng32 (p + 1); omega
    have ca : (4 : Int32).toInt = 4 := rfl
    have cn : (2 : Int32).toInt = 2 := rfl
    rw [own_mix p q 4 4 (by decide) _ rfl (by omega) (by omega) b.1 (by omega), own_mix p (q + 1) 4 4 (by decide) _ rfl (by omega) (by omega) (by omega) (by omega), own_mix (p + 1) 0 4 4 (by decide) _ rfl (by omega) (by omega) (by decide) (by decide)]
    omega
  · have a := own_r p2 1 1 (by decide) (by decide); have b := own_r p3 8 8 (by decide) (by decide)
    generalize (p2 &&& (2147483647 : Int32)) % 1 = p at *
    generalize (p3 &&& (2147483647 : Int32)) % 8 = q at *
    have q1 : (q + 1).toInt = q.toInt + 1 := by have := c_iadd q 1; have := rng32 (q + 1); omega
    have p1 : (p + 1).toInt = p.toInt + 1 := by have := c_iadd p 1; have := rng32 (p + 1); omega
    have ca : (8 : Int32).toInt = 8 := rfl
    have cn : (1 : Int32).toInt = 1 := rfl
    rw [own_mix p q 8 8 (by decide) _ rfl (by omega) (by omega) b.1 (by omega), own_mix p (q + 1) 8 8 (by decide) _ rfl (by omega) (by omega) (by omega) (by omega), own_mix (p + 1) 0 8 8 (by decide) _ rfl (by omega) (by omega) (by decide) (by decide)]
    omega
theorem own_i0 (p0 p1 p2 p3 : Int32) : ¬ (((f0_v21 p0 p1 p2 p3) * (f0_v19 p0 p1 p2 p3)) + (f0_v22 p0 p1 p2 p3)) < 0 ∧ (((f0_v21 p0 p1 p2 p3) * (f0_v19 p0 p1 p2 p3)) + (f0_v22 p0 p1 p2 p3)) < (9 : Int32) := by
  have h := (own_idx p0 p1 p2 p3).1
  unfold f0_v23 at h
  rw [Int32.lt_iff_toInt_lt, Int32.lt_iff_toInt_lt, show (0 : Int32).toInt = 0 from rfl, show (9 : Int32).toInt = 9 from rfl]
  omega
theorem own_i8 (p0 p1 p2 p3 : Int32) : ¬ (f0_v23 p0 p1 p2 p3) < 0 ∧ (f0_v23 p0 p1 p2 p3) < (8 : Int32) := by
  have h := (own_idx p0 p1 p2 p3).1
  rw [Int32.lt_iff_toInt_lt, Int32.lt_iff_toInt_lt, show (0 : Int32).toInt = 0 from rfl, show (8 : Int32).toInt = 8 from rfl]
  omega
theorem own_up (x y : Int32) (h : 0 ≤ x.toInt ∧ x.toInt < 8) (e : y.toInt = x.toInt + 1) : y = x + 1 := by
  apply Int32.toInt_inj.mp
  have := c_iadd x 1; have := rng32 (x + 1); have o : (1 : Int32).toInt = 1 := rfl
  omega
theorem own_i1 (p0 p1 p2 p3 : Int32) : ¬ ((((f0_v21 p0 p1 p2 p3) * (f0_v19 p0 p1 p2 p3)) + (f0_v22 p0 p1 p2 p3)) + (1 : Int32)) < 0 ∧ ((((f0_v21 p0 p1 p2 p3) * (f0_v19 p0 p1 p2 p3)) + (f0_v22 p0 p1 p2 p3)) + (1 : Int32)) < (9 : Int32) := by
  have h := (own_idx p0 p1 p2 p3).1
  unfold f0_v23 at h
  generalize ((f0_v21 p0 p1 p2 p3) * (f0_v19 p0 p1 p2 p3)) + (f0_v22 p0 p1 p2 p3) = x at *
  have := c_iadd x 1; have := rng32 (x + 1); have o : (1 : Int32).toInt = 1 := rfl
  rw [Int32.lt_iff_toInt_lt, Int32.lt_iff_toInt_lt, show (0 : Int32).toInt = 0 from rfl, show (9 : Int32).toInt = 9 from rfl]
  omega
theorem own_i2 (p0 p1 p2 p3 : Int32) : ¬ (((f0_v21 p0 p1 p2 p3) * (f0_v19 p0 p1 p2 p3)) + ((f0_v22 p0 p1 p2 p3) + (1 : Int32))) < 0 ∧ (((f0_v21 p0 p1 p2 p3) * (f0_v19 p0 p1 p2 p3)) + ((f0_v22 p0 p1 p2 p3) + (1 : Int32))) < (9 : Int32) := by
  have h := own_idx p0 p1 p2 p3
  rw [Int32.lt_iff_toInt_lt, Int32.lt_iff_toInt_lt, show (0 : Int32).toInt = 0 from rfl, show (9 : Int32).toInt = 9 from rfl]
  omega
theorem own_i3 (p0 p1 p2 p3 : Int32) : ¬ ((((f0_v21 p0 p1 p2 p3) + (1 : Int32)) * (f0_v19 p0 p1 p2 p3)) + (0 : Int32)) < 0 ∧ ((((f0_v21 p0 p1 p2 p3) + (1 : Int32)) * (f0_v19 p0 p1 p2 p3)) + (0 : Int32)) < (9 : Int32) := by
  have h := own_idx p0 p1 p2 p3
  rw [Int32.lt_iff_toInt_lt, Int32.lt_iff_toInt_lt, show (0 : Int32).toInt = 0 from rfl, show (9 : Int32).toInt = 9 from rfl]
  omega
theorem ef0 (m : MethodId) (x0 : Int32) (x1 : Int32) (x2 : Int32) (x3 : Int32) : entryFrame m #[(.int x0), (.int x1), (.int x2), (.int x3)] maxLocals = mkF m 0 #[.val (.int x0), .val (.int x1), .val (.int x2), .val (.int x3), .unset, .unset, .unset, .unset, .unset, .unset, .unset, .unset, .unset, .unset, .unset] [] := by first | (simp [entryFrame, mkF, argsToLocals, Value.category, maxLocals]; done) | rfl
def Q0 (Z : State) (p0 : Int32) (p1 : Int32) (p2 : Int32) (p3 : Int32) (h0 : Heap) (n0 : Nat) (v : Option Value) (h : Heap) (L : List Loc) : Prop := v = some (.int (F0 p0 p1 p2 p3)) ∧ Fr n0 L
set_option maxRecDepth 65536 in
set_option maxHeartbeats 40000000 in
theorem rm0 (l : Launch) (Z : State) (a0' : Array Value) (hw : ∀ d ∈ tables_1, d.before a0' Z = true) (ws : List Jvm.Cond) (p0 : Int32) (p1 : Int32) (p2 : Int32) (p3 : Int32) (h0 : Heap) (n0 : Nat) (Z0 : n0 ≤ h0.size) :
    MetFree l x (head1 (Jvm.Cond.code x code maxLocals ret :: ws) room_1) (fun a U => a = #[(.int p0), (.int p1), (.int p2), (.int p3)] ∧ Z.Warmed39 U.vm ∧ U.heap = h0) (fun _ _ _ _ _ => True) (fun _ U o U' => ∃ v L, o = .returned v ∧ Q0 Z p0 p1 p2 p3 h0 n0 v U'.heap L ∧ FrameEnd U o U' L 7 88) := by
  refine MetFree.of_bodySF (plainFor_of_name pn1) hisR ?_
  intro p e s m args below meth c s₁ Bd hml0 hP hK
  obtain ⟨rfl, hZ, hh⟩ := hP
  have hx := Bd.exec
  have hby := Bd.bytes
  have hml : c.maxLocals = 15 := hml0
  have hown : s.vm.findClass "com/example/frugal_synth/frugalsynth/ArenaEndChoicePinLaw" = some m.cls := findClass_of_methodNamed Bd.named
  have hnm := (name_of_methodNamed Bd.named Bd.method).1
  have X0 : Stand p l e room_1 s m #[(.int p0), (.int p1), (.int p2), (.int p3)] below meth c s₁ [] 0 0 := Stand.of_body Bd
  have e0 : s₁.heap = h0 := by rw [← hh, Bd.state]; rfl
  have N0 := Fr.nil n0
  have hlk : meth.locks = false := by first | exact BodyLoose.notSynchronized Bd | exact Body.notSynchronized Bd
  have pre0 : ∀ t, Steps p.tables e below (s₁.setTop (mkF m 0 #[.val (.int p0), .val (.int p1), .val (.int p2), .val (.int p3), .unset, .unset, .unset, .unset, .unset, .unset, .unset, .unset, .unset, .unset, .unset] [])) t → Steps p.tables e below (s₁.setTop (entryFrame m #[(.int p0), (.int p1), (.int p2), (.int p3)] maxLocals)) t := fun t k => castTop (ef0 m p0 p1 p2 p3) k
  obtain ⟨T1, h1, k1, X1, e1, E1, A1, st1⟩ := newP X0 hx hZ (hw _ (List.mem_of_getElem? (i := 0) rfl)) e0 (g := (mkF m 2 #[.val (.int p0), .val (.int p1), .val (.int p2), .val (.int p3), .unset, .unset, .unset, .unset, .unset, .unset, .unset, .unset, .unset, .unset, .unset] [(.int (8 : Int32))])) rfl (hb hby at_2) rfl (by decide) (cap := 8) (by decide) (by decide) (by decide) (by decide)
  obtain ⟨b1, g1⟩ : ∃ z, z = h0.size := ⟨_, rfl⟩
  rw [← g1] at A1 st1
  have g_b1 : n0 ≤ b1 := Nat.le_trans Z0 (Nat.le_of_eq g1.symm)
  have Z1 : n0 ≤ h1.size := Nat.le_trans Z0 E1.1
  have V1 : Arv Z h1 b1 k1 .int (8 : Int32) [(.int (0 : Int32)), (.int (0 : Int32)), (.int (0 : Int32)), (.int (0 : Int32)), (.int (0 : Int32)), (.int (0 : Int32)), (.int (0 : Int32)), (.int (0 : Int32))] (.int (0 : Int32)) := (Arv.new A1 (by decide)).pad (pad_rep [] (.int (0 : Int32)) 8)
  obtain ⟨cl2, Ar2, q2, S2, M2, H2, G2⟩ := id V1
  have hin2 : ¬ ((0 : Int32) < 0 ∨ cl2.slots.size ≤ ((0 : Int32)).toNatClampNeg) := inb_of S2 ⟨by decide, by decide⟩
  obtain ⟨T3, h3, X3, e3, W3, st3⟩ := stI X1 hx hZ e1 Ar2 (j := (0 : Int32)) hin2 (g := (mkF m 12 #[.val (.int p0), .val (.int p1), .val (.int p2), .val (.int p3), .val (.ref b1), .unset, .unset, .unset, .unset, .unset, .unset, .unset, .unset, .unset, .unset] [(.int (p0 &&& (3 : Int32))), (.int (0 : Int32)), (.ref b1)])) rfl rfl (hb hby at_12)
  have Z3 : n0 ≤ h3.size := Nat.le_trans Z1 (Keep.of_wr W3).1
  have N3 := Fr.snoc X3 N0 g_b1
  have V3 : Arv Z h3 b1 k1 .int (8 : Int32) [(.int (p0 &&& (3 : Int32))), (.int (0 : Int32)), (.int (0 : Int32)), (.int (0 : Int32)), (.int (0 : Int32)), (.int (0 : Int32)), (.int (0 : Int32)), (.int (0 : Int32))] (.int (0 : Int32)) := Arv.set Ar2 q2 S2 M2 H2 G2 rfl W3 0 rfl (Nat.le_of_ble_eq_true rfl)
  obtain ⟨cl4, Ar4, q4, S4, M4, H4, G4⟩ := id V3
  have hin4 : ¬ ((1 : Int32) < 0 ∨ cl4.slots.size ≤ ((1 : Int32)).toNatClampNeg) := inb_of S4 ⟨by decide, by decide⟩
  obtain ⟨T5, h5, X5, e5, W5, st5⟩ := stI X3 hx hZ e3 Ar4 (j := (1 : Int32)) hin4 (g := (mkF m 21 #[.val (.int p0), .val (.int p1), .val (.int p2), .val (.int p3), .val (.ref b1), .unset, .unset, .unset, .unset, .unset, .unset, .unset, .unset, .unset, .unset] [(.int ((f0_v0 p0 p1 p2 p3) &&& (3 : Int32))), (.int (1 : Int32)), (.ref b1)])) rfl rfl (hb hby at_21)
  have Z5 : n0 ≤ h5.size := Nat.le_trans Z3 (Keep.of_wr W5).1
  have N5 := Fr.snoc X5 N3 g_b1
  have V5 : Arv Z h5 b1 k1 .int (8 : Int32) [(.int (p0 &&& (3 : Int32))), (.int ((f0_v0 p0 p1 p2 p3) &&& (3 : Int32))), (.int (0 : Int32)), (.int (0 : Int32)), (.int (0 : Int32)), (.int (0 : Int32)), (.int (0 : Int32)), (.int (0 : Int32))] (.int (0 : Int32)) := Arv.set Ar4 q4 S4 M4 H4 G4 rfl W5 1 rfl (Nat.le_of_ble_eq_true rfl)
  obtain ⟨cl6, Ar6, q6, S6, M6, H6, G6⟩ := id V5
  have hin6 : ¬ ((2 : Int32) < 0 ∨ cl6.slots.size ≤ ((2 : Int32)).toNatClampNeg) := inb_of S6 ⟨by decide, by decide⟩
  obtain ⟨T7, h7, X7, e7, W7, st7⟩ := stI X5 hx hZ e5 Ar6 (j := (2 : Int32)) hin6 (g := (mkF m 30 #[.val (.int p0), .val (.int p1), .val (.int p2), .val (.int p3), .val (.ref b1), .unset, .unset, .unset, .unset, .unset, .unset, .unset, .unset, .unset, .unset] [(.int ((f0_v1 p0 p1 p2 p3) &&& (3 : Int32))), (.int (2 : Int32)), (.ref b1)])) rfl rfl (hb hby at_30)
  have Z7 : n0 ≤ h7.size := Nat.le_trans Z5 (Keep.of_wr W7).1
  have N7 := Fr.snoc X7 N5 g_b1
  have V7 : Arv Z h7 b1 k1 .int (8 : Int32) [(.int (p0 &&& (3 : Int32))), (.int ((f0_v0 p0 p1 p2 p3) &&& (3 : Int32))), (.int ((f0_v1 p0 p1 p2 p3) &&& (3 : Int32))), (.int (0 : Int32)), (.int (0 : Int32)), (.int (0 : Int32)), (.int (0 : Int32)), (.int (0 : Int32))] (.int (0 : Int32)) := Arv.set Ar6 q6 S6 M6 H6 G6 rfl W7 2 rfl (Nat.le_of_ble_eq_true rfl)
  obtain ⟨cl8, Ar8, q8, S8, M8, H8, G8⟩ := id V7
  have hin8 : ¬ ((3 : Int32) < 0 ∨ cl8.slots.size ≤ ((3 : Int32)).toNatClampNeg) := inb_of S8 ⟨by decide, by decide⟩
  obtain ⟨T9, h9, X9, e9, W9, st9⟩ := stI X7 hx hZ e7 Ar8 (j := (3 : Int32)) hin8 (g := (mkF m 40 #[.val (.int p0), .val (.int p1), .val (.int p2), .val (.int p3), .val (.ref b1), .unset, .unset, .unset, .unset, .unset, .unset, .unset, .unset, .unset, .unset] [(.int ((f0_v2 p0 p1 p2 p3) &&& (3 : Int32))), (.int (3 : Int32)), (.ref b1)])) rfl rfl (hb hby at_40)
  have Z9 : n0 ≤ h9.size := Nat.le_trans Z7 (Keep.of_wr W9).1
  have N9 := Fr.snoc X9 N7 g_b1
  have V9 : Arv Z h9 b1 k1 .int (8 : Int32) [(.int (p0 &&& (3 : Int32))), (.int ((f0_v0 p0 p1 p2 p3) &&& (3 : Int32))), (.int ((f0_v1 p0 p1 p2 p3) &&& (3 : Int32))), (.int ((f0_v2 p0 p1 p2 p3) &&& (3 : Int32))), (.int (0 : Int32)), (.int (0 : Int32)), (.int (0 : Int32)), (.int (0 : Int32))] (.int (0 : Int32)) := Arv.set Ar8 q8 S8 M8 H8 G8 rfl W9 3 rfl (Nat.le_of_ble_eq_true rfl)
  obtain ⟨cl10, Ar10, q10, S10, M10, H10, G10⟩ := id V9
  have hin10 : ¬ ((4 : Int32) < 0 ∨ cl10.slots.size ≤ ((4 : Int32)).toNatClampNeg) := inb_of S10 ⟨by decide, by decide⟩
  obtain ⟨T11, h11, X11, e11, W11, st11⟩ := stI X9 hx hZ e9 Ar10 (j := (4 : Int32)) hin10 (g := (mkF m 50 #[.val (.int p0), .val (.int p1), .val (.int p2), .val (.int p3), .val (.ref b1), .unset, .unset, .unset, .unset, .unset, .unset, .unset, .unset, .unset, .unset] [(.int ((f0_v3 p0 p1 p2 p3) &&& (3 : Int32))), (.int (4 : Int32)), (.ref b1)])) rfl rfl (hb hby at_50)
  have Z11 : n0 ≤ h11.size := Nat.le_trans Z9 (Keep.of_wr W11).1
  have N11 := Fr.snoc X11 N9 g_b1
  have V11 : Arv Z h11 b1 k1 .int (8 : Int32) [(.int (p0 &&& (3 : Int32))), (.int ((f0_v0 p0 p1 p2 p3) &&& (3 : Int32))), (.int ((f0_v1 p0 p1 p2 p3) &&& (3 : Int32))), (.int ((f0_v2 p0 p1 p2 p3) &&& (3 : Int32))), (.int ((f0_v3 p0 p1 p2 p3) &&& (3 : Int32))), (.int (0 : Int32)), (.int (0 : Int32)), (.int (0 : Int32))] (.int (0 : Int32)) := Arv.set Ar10 q10 S10 M10 H10 G10 rfl W11 4 rfl (Nat.le_of_ble_eq_true rfl)
  obtain ⟨cl12, Ar12, q12, S12, M12, H12, G12⟩ := id V11
  have hin12 : ¬ ((5 : Int32) < 0 ∨ cl12.slots.size ≤ ((5 : Int32)).toNatClampNeg) := inb_of S12 ⟨by decide, by decide⟩
  obtain ⟨T13, h13, X13, e13, W13, st13⟩ := stI X11 hx hZ e11 Ar12 (j := (5 : Int32)) hin12 (g := (mkF m 60 #[.val (.int p0), .val (.int p1), .val (.int p2), .val (.int p3), .val (.ref b1), .unset, .unset, .unset, .unset, .unset, .unset, .unset, .unset, .unset, .unset] [(.int ((f0_v4 p0 p1 p2 p3) &&& (3 : Int32))), (.int (5 : Int32)), (.ref b1)])) rfl rfl (hb hby at_60)
  have Z13 : n0 ≤ h13.size := Nat.le_trans Z11 (Keep.of_wr W13).1
  have N13 := Fr.snoc X13 N11 g_b1
  have V13 : Arv Z h13 b1 k1 .int (8 : Int32) [(.int (p0 &&& (3 : Int32))), (.int ((f0_v0 p0 p1 p2 p3) &&& (3 : Int32))), (.int ((f0_v1 p0 p1 p2 p3) &&& (3 : Int32))), (.int ((f0_v2 p0 p1 p2 p3) &&& (3 : Int32))), (.int ((f0_v3 p0 p1 p2 p3) &&& (3 : Int32))), (.int ((f0_v4 p0 p1 p2 p3) &&& (3 : Int32))), (.int (0 : Int32)), (.int (0 : Int32))] (.int (0 : Int32)) := Arv.set Ar12 q12 S12 M12 H12 G12 rfl W13 5 rfl (Nat.le_of_ble_eq_true rfl)
  obtain ⟨cl14, Ar14, q14, S14, M14, H14, G14⟩ := id V13
  have hin14 : ¬ ((6 : Int32) < 0 ∨ cl14.slots.size ≤ ((6 : Int32)).toNatClampNeg) := inb_of S14 ⟨by decide, by decide⟩
  obtain ⟨T15, h15, X15, e15, W15, st15⟩ := stI X13 hx hZ e13 Ar14 (j := (6 : Int32)) hin14 (g := (mkF m 71 #[.val (.int p0), .val (.int p1), .val (.int p2), .val (.int p3), .val (.ref b1), .unset, .unset, .unset, .unset, .unset, .unset, .unset, .unset, .unset, .unset] [(.int ((f0_v5 p0 p1 p2 p3) &&& (3 : Int32))), (.int (6 : Int32)), (.ref b1)])) rfl rfl (hb hby at_71)
  have Z15 : n0 ≤ h15.size := Nat.le_trans Z13 (Keep.of_wr W15).1
  have N15 := Fr.snoc X15 N13 g_b1
  have V15 : Arv Z h15 b1 k1 .int (8 : Int32) [(.int (p0 &&& (3 : Int32))), (.int ((f0_v0 p0 p1 p2 p3) &&& (3 : Int32))), (.int ((f0_v1 p0 p1 p2 p3) &&& (3 : Int32))), (.int ((f0_v2 p0 p1 p2 p3) &&& (3 : Int32))), (.int ((f0_v3 p0 p1 p2 p3) &&& (3 : Int32))), (.int ((f0_v4 p0 p1 p2 p3) &&& (3 : Int32))), (.int ((f0_v5 p0 p1 p2 p3) &&& (3 : Int32))), (.int (0 : Int32))] (.int (0 : Int32)) := Arv.set Ar14 q14 S14 M14 H14 G14 rfl W15 6 rfl (Nat.le_of_ble_eq_true rfl)
  obtain ⟨cl16, Ar16, q16, S16, M16, H16, G16⟩ := id V15
  have hin16 : ¬ ((0 : Int32) < 0 ∨ cl16.slots.size ≤ ((0 : Int32)).toNatClampNeg) := inb_of S16 ⟨by decide, by decide⟩
  have hat16 : cl16.slots[((0 : Int32)).toNatClampNeg]? = some (.int (p0 &&& (3 : Int32))) := H16.at hin16 rfl
  obtain ⟨cl17, Ar17, q17, S17, M17, H17, G17⟩ := id V15
  have hin17 : ¬ ((1 : Int32) < 0 ∨ cl17.slots.size ≤ ((1 : Int32)).toNatClampNeg) := inb_of S17 ⟨by decide, by decide⟩
  have hat17 : cl17.slots[((1 : Int32)).toNatClampNeg]? = some (.int ((f0_v0 p0 p1 p2 p3) &&& (3 : Int32))) := H17.at hin17 rfl
  obtain ⟨cl18, Ar18, q18, S18, M18, H18, G18⟩ := id V15
  have hin18 : ¬ ((2 : Int32) < 0 ∨ cl18.slots.size ≤ ((2 : Int32)).toNatClampNeg) := inb_of S18 ⟨by decide, by decide⟩
  have hat18 : cl18.slots[((2 : Int32)).toNatClampNeg]? = some (.int ((f0_v1 p0 p1 p2 p3) &&& (3 : Int32))) := H18.at hin18 rfl
  obtain ⟨cl19, Ar19, q19, S19, M19, H19, G19⟩ := id V15
  have hin19 : ¬ ((3 : Int32) < 0 ∨ cl19.slots.size ≤ ((3 : Int32)).toNatClampNeg) := inb_of S19 ⟨by decide, by decide⟩
  have hat19 : cl19.slots[((3 : Int32)).toNatClampNeg]? = some (.int ((f0_v2 p0 p1 p2 p3) &&& (3 : Int32))) := H19.at hin19 rfl
  obtain ⟨cl20, Ar20, q20, S20, M20, H20, G20⟩ := id V15
  have hin20 : ¬ ((4 : Int32) < 0 ∨ cl20.slots.size ≤ ((4 : Int32)).toNatClampNeg) := inb_of S20 ⟨by decide, by decide⟩
  have hat20 : cl20.slots[((4 : Int32)).toNatClampNeg]? = some (.int ((f0_v3 p0 p1 p2 p3) &&& (3 : Int32))) := H20.at hin20 rfl
  obtain ⟨cl21, Ar21, q21, S21, M21, H21, G21⟩ := id V15
  have hin21 : ¬ ((5 : Int32) < 0 ∨ cl21.slots.size ≤ ((5 : Int32)).toNatClampNeg) := inb_of S21 ⟨by decide, by decide⟩
  have hat21 : cl21.slots[((5 : Int32)).toNatClampNeg]? = some (.int ((f0_v4 p0 p1 p2 p3) &&& (3 : Int32))) := H21.at hin21 rfl
  obtain ⟨cl22, Ar22, q22, S22, M22, H22, G22⟩ := id V15
  have hin22 : ¬ ((6 : Int32) < 0 ∨ cl22.slots.size ≤ ((6 : Int32)).toNatClampNeg) := inb_of S22 ⟨by decide, by decide⟩
  have hat22 : cl22.slots[((6 : Int32)).toNatClampNeg]? = some (.int ((f0_v5 p0 p1 p2 p3) &&& (3 : Int32))) := H22.at hin22 rfl
  obtain ⟨cl23, Ar23, q23, S23, M23, H23, G23⟩ := id V15
  have hin23 : ¬ ((7 : Int32) < 0 ∨ cl23.slots.size ≤ ((7 : Int32)).toNatClampNeg) := inb_of S23 ⟨by decide, by decide⟩
  obtain ⟨T24, h24, X24, e24, W24, st24⟩ := stI X15 hx hZ e15 Ar23 (j := (7 : Int32)) hin23 (g := (mkF m 114 #[.val (.int p0), .val (.int p1), .val (.int p2), .val (.int p3), .val (.ref b1), .unset, .unset, .unset, .unset, .unset, .unset, .unset, .unset, .unset, .unset] [(.int ((21 : Int32) - (f0_v11 p0 p1 p2 p3))), (.int (7 : Int32)), (.ref b1)])) rfl rfl (hb hby at_114)
  have Z24 : n0 ≤ h24.size := Nat.le_trans Z15 (Keep.of_wr W24).1
  have N24 := Fr.snoc X24 N15 g_b1
  have V24 : Arv Z h24 b1 k1 .int (8 : Int32) [(.int (p0 &&& (3 : Int32))), (.int ((f0_v0 p0 p1 p2 p3) &&& (3 : Int32))), (.int ((f0_v1 p0 p1 p2 p3) &&& (3 : Int32))), (.int ((f0_v2 p0 p1 p2 p3) &&& (3 : Int32))), (.int ((f0_v3 p0 p1 p2 p3) &&& (3 : Int32))), (.int ((f0_v4 p0 p1 p2 p3) &&& (3 : Int32))), (.int ((f0_v5 p0 p1 p2 p3) &&& (3 : Int32))), (.int ((21 : Int32) - (f0_v11 p0 p1 p2 p3)))] (.int (0 : Int32)) := Arv.set Ar23 q23 S23 M23 H23 G23 rfl W24 7 rfl (Nat.le_of_ble_eq_true rfl)
  obtain ⟨T25, h25, k25, X25, e25, E25, A25, st25⟩ := newP X24 hx hZ (hw _ (List.mem_of_getElem? (i := 0) rfl)) e24 (g := (mkF m 117 #[.val (.int p0), .val (.int p1), .val (.int p2), .val (.int p3), .val (.ref b1), .unset, .unset, .unset, .unset, .unset, .unset, .unset, .unset, .unset, .unset] [(.int (9 : Int32))])) rfl (hb hby at_117) rfl (by decide) (cap := 9) (by decide) (by decide) (by decide) (by decide)
  obtain ⟨b25, g25⟩ : ∃ z, z = h24.size := ⟨_, rfl⟩
  rw [← g25] at A25 st25
  have ne_b1_b25 : b1 ≠ b25 := Nat.ne_of_lt (Nat.lt_of_lt_of_le V24.lt (Nat.le_of_eq g25.symm))
  have g_b25 : n0 ≤ b25 := Nat.le_trans Z24 (Nat.le_of_eq g25.symm)
  have Z25 : n0 ≤ h25.size := Nat.le_trans Z24 E25.1
  have V25 : Arv Z h25 b25 k25 .int (9 : Int32) [(.int (0 : Int32)), (.int (0 : Int32)), (.int (0 : Int32)), (.int (0 : Int32)), (.int (0 : Int32)), (.int (0 : Int32)), (.int (0 : Int32)), (.int (0 : Int32)), (.int (0 : Int32))] (.int (0 : Int32)) := (Arv.new A25 (by decide)).pad (pad_rep [] (.int (0 : Int32)) 9)
  obtain ⟨cl26, Ar26, q26, S26, M26, H26, G26⟩ := id V25
  have hin26 : ¬ ((0 : Int32) < 0 ∨ cl26.slots.size ≤ ((0 : Int32)).toNatClampNeg) := inb_of S26 ⟨by decide, by decide⟩
  obtain ⟨T27, h27, X27, e27, W27, st27⟩ := stI X25 hx hZ e25 Ar26 (j := (0 : Int32)) hin26 (g := (mkF m 125 #[.val (.int p0), .val (.int p1), .val (.int p2), .val (.int p3), .val (.ref b1), .val (.ref b25), .unset, .unset, .unset, .unset, .unset, .unset, .unset, .unset, .unset] [(.int (0 : Int32)), (.int (0 : Int32)), (.ref b25)])) rfl rfl (hb hby at_125)
  have Z27 : n0 ≤ h27.size := Nat.le_trans Z25 (Keep.of_wr W27).1
  have N27 := Fr.snoc X27 N24 g_b25
  have V27 : Arv Z h27 b25 k25 .int (9 : Int32) [(.int (0 : Int32)), (.int (0 : Int32)), (.int (0 : Int32)), (.int (0 : Int32)), (.int (0 : Int32)), (.int (0 : Int32)), (.int (0 : Int32)), (.int (0 : Int32)), (.int (0 : Int32))] (.int (0 : Int32)) := Arv.set Ar26 q26 S26 M26 H26 G26 rfl W27 0 rfl (Nat.le_of_ble_eq_true rfl)
  obtain ⟨cl28, Ar28, q28, S28, M28, H28, G28⟩ := id V27
  have hin28 : ¬ ((0 : Int32) < 0 ∨ cl28.slots.size ≤ ((0 : Int32)).toNatClampNeg) := inb_of S28 ⟨by decide, by decide⟩
  have hat28 : cl28.slots[((0 : Int32)).toNatClampNeg]? = some (.int (0 : Int32)) := H28.at hin28 rfl
  have y29 := ((V24.ext E25).other W27 ne_b1_b25)
  obtain ⟨cl30, Ar30, q30, S30, M30, H30, G30⟩ := id y29
  have hin30 : ¬ ((0 : Int32) < 0 ∨ cl30.slots.size ≤ ((0 : Int32)).toNatClampNeg) := inb_of S30 ⟨by decide, by decide⟩
  have hat30 : cl30.slots[((0 : Int32)).toNatClampNeg]? = some (.int (p0 &&& (3 : Int32))) := H30.at hin30 rfl
  obtain ⟨cl31, Ar31, q31, S31, M31, H31, G31⟩ := id V27
  have hin31 : ¬ ((1 : Int32) < 0 ∨ cl31.slots.size ≤ ((1 : Int32)).toNatClampNeg) := inb_of S31 ⟨by decide, by decide⟩
  obtain ⟨T32, h32, X32, e32, W32, st32⟩ := stI X27 hx hZ e27 Ar31 (j := (1 : Int32)) hin31 (g := (mkF m 138 #[.val (.int p0), .val (.int p1), .val (.int p2), .val (.int p3), .val (.ref b1), .val (.ref b25), .unset, .unset, .unset, .unset, .unset, .unset, .unset, .unset, .unset] [(.int ((0 : Int32) + (p0 &&& (3 : Int32)))), (.int (1 : Int32)), (.ref b25)])) rfl rfl (hb hby at_138)
  have Z32 : n0 ≤ h32.size := Nat.le_trans Z27 (Keep.of_wr W32).1
  have N32 := Fr.snoc X32 N27 g_b25
  have V32 : Arv Z h32 b25 k25 .int (9 : Int32) [(.int (0 : Int32)), (.int ((0 : Int32) + (p0 &&& (3 : Int32)))), (.int (0 : Int32)), (.int (0 : Int32)), (.int (0 : Int32)), (.int (0 : Int32)), (.int (0 : Int32)), (.int (0 : Int32)), (.int (0 : Int32))] (.int (0 : Int32)) := Arv.set Ar31 q31 S31 M31 H31 G31 rfl W32 1 rfl (Nat.le_of_ble_eq_true rfl)
  obtain ⟨cl33, Ar33, q33, S33, M33, H33, G33⟩ := id V32
  have hin33 : ¬ ((1 : Int32) < 0 ∨ cl33.slots.size ≤ ((1 : Int32)).toNatClampNeg) := inb_of S33 ⟨by decide, by decide⟩
  have hat33 : cl33.slots[((1 : Int32)).toNatClampNeg]? = some (.int ((0 : Int32) + (p0 &&& (3 : Int32)))) := H33.at hin33 rfl
  have y34 := (y29.other W32 ne_b1_b25)
  obtain ⟨cl35, Ar35, q35, S35, M35, H35, G35⟩ := id y34
  have hin35 : ¬ ((1 : Int32) < 0 ∨ cl35.slots.size ≤ ((1 : Int32)).toNatClampNeg) := inb_of S35 ⟨by decide, by decide⟩
  have hat35 : cl35.slots[((1 : Int32)).toNatClampNeg]? = some (.int ((f0_v0 p0 p1 p2 p3) &&& (3 : Int32))) := H35.at hin35 rfl
  obtain ⟨cl36, Ar36, q36, S36, M36, H36, G36⟩ := id V32
  have hin36 : ¬ ((2 : Int32) < 0 ∨ cl36.slots.size ≤ ((2 : Int32)).toNatClampNeg) := inb_of S36 ⟨by decide, by decide⟩
  obtain ⟨T37, h37, X37, e37, W37, st37⟩ := stI X32 hx hZ e32 Ar36 (j := (2 : Int32)) hin36 (g := (mkF m 151 #[.val (.int p0), .val (.int p1), .val (.int p2), .val (.int p3), .val (.ref b1), .val (.ref b25), .unset, .unset, .unset, .unset, .unset, .unset, .unset, .unset, .unset] [(.int (f0_v12 p0 p1 p2 p3)), (.int (2 : Int32)), (.ref b25)])) rfl rfl (hb hby at_151)
  have Z37 : n0 ≤ h37.size := Nat.le_trans Z32 (Keep.of_wr W37).1
  have N37 := Fr.snoc X37 N32 g_b25
  have V37 : Arv Z h37 b25 k25 .int (9 : Int32) [(.int (0 : Int32)), (.int ((0 : Int32) + (p0 &&& (3 : Int32)))), (.int (f0_v12 p0 p1 p2 p3)), (.int (0 : Int32)), (.int (0 : Int32)), (.int (0 : Int32)), (.int (0 : Int32)), (.int (0 : Int32)), (.int (0 : Int32))] (.int (0 : Int32)) := Arv.set Ar36 q36 S36 M36 H36 G36 rfl W37 2 rfl (Nat.le_of_ble_eq_true rfl)
  obtain ⟨cl38, Ar38, q38, S38, M38, H38, G38⟩ := id V37
  have hin38 : ¬ ((2 : Int32) < 0 ∨ cl38.slots.size ≤ ((2 : Int32)).toNatClampNeg) := inb_of S38 ⟨by decide, by decide⟩
  have hat38 : cl38.slots[((2 : Int32)).toNatClampNeg]? = some (.int (f0_v12 p0 p1 p2 p3)) := H38.at hin38 rfl
  have y39 := (y34.other W37 ne_b1_b25)
  obtain ⟨cl40, Ar40, q40, S40, M40, H40, G40⟩ := id y39
  have hin40 : ¬ ((2 : Int32) < 0 ∨ cl40.slots.size ≤ ((2 : Int32)).toNatClampNeg) := inb_of S40 ⟨by decide, by decide⟩
  have hat40 : cl40.slots[((2 : Int32)).toNatClampNeg]? = some (.int ((f0_v1 p0 p1 p2 p3) &&& (3 : Int32))) := H40.at hin40 rfl
  obtain ⟨cl41, Ar41, q41, S41, M41, H41, G41⟩ := id V37
  have hin41 : ¬ ((3 : Int32) < 0 ∨ cl41.slots.size ≤ ((3 : Int32)).toNatClampNeg) := inb_of S41 ⟨by decide, by decide⟩
  obtain ⟨T42, h42, X42, e42, W42, st42⟩ := stI X37 hx hZ e37 Ar41 (j := (3 : Int32)) hin41 (g := (mkF m 164 #[.val (.int p0), .val (.int p1), .val (.int p2), .val (.int p3), .val (.ref b1), .val (.ref b25), .unset, .unset, .unset, .unset, .unset, .unset, .unset, .unset, .unset] [(.int (f0_v13 p0 p1 p2 p3)), (.int (3 : Int32)), (.ref b25)])) rfl rfl (hb hby at_164)
  have Z42 : n0 ≤ h42.size := Nat.le_trans Z37 (Keep.of_wr W42).1
  have N42 := Fr.snoc X42 N37 g_b25
  have V42 : Arv Z h42 b25 k25 .int (9 : Int32) [(.int (0 : Int32)), (.int ((0 : Int32) + (p0 &&& (3 : Int32)))), (.int (f0_v12 p0 p1 p2 p3)), (.int (f0_v13 p0 p1 p2 p3)), (.int (0 : Int32)), (.int (0 : Int32)), (.int (0 : Int32)), (.int (0 : Int32)), (.int (0 : Int32))] (.int (0 : Int32)) := Arv.set Ar41 q41 S41 M41 H41 G41 rfl W42 3 rfl (Nat.le_of_ble_eq_true rfl)
  obtain ⟨cl43, Ar43, q43, S43, M43, H43, G43⟩ := id V42
  have hin43 : ¬ ((3 : Int32) < 0 ∨ cl43.slots.size ≤ ((3 : Int32)).toNatClampNeg) := inb_of S43 ⟨by decide, by decide⟩
  have hat43 : cl43.slots[((3 : Int32)).toNatClampNeg]? = some (.int (f0_v13 p0 p1 p2 p3)) := H43.at hin43 rfl
  have y44 := (y39.other W42 ne_b1_b25)
  obtain ⟨cl45, Ar45, q45, S45, M45, H45, G45⟩ := id y44
  have hin45 : ¬ ((3 : Int32) < 0 ∨ cl45.slots.size ≤ ((3 : Int32)).toNatClampNeg) := inb_of S45 ⟨by decide, by decide⟩
  have hat45 : cl45.slots[((3 : Int32)).toNatClampNeg]? = some (.int ((f0_v2 p0 p1 p2 p3) &&& (3 : Int32))) := H45.at hin45 rfl
  obtain ⟨cl46, Ar46, q46, S46, M46, H46, G46⟩ := id V42
  have hin46 : ¬ ((4 : Int32) < 0 ∨ cl46.slots.size ≤ ((4 : Int32)).toNatClampNeg) := inb_of S46 ⟨by decide, by decide⟩
  obtain ⟨T47, h47, X47, e47, W47, st47⟩ := stI X42 hx hZ e42 Ar46 (j := (4 : Int32)) hin46 (g := (mkF m 177 #[.val (.int p0), .val (.int p1), .val (.int p2), .val (.int p3), .val (.ref b1), .val (.ref b25), .unset, .unset, .unset, .unset, .unset, .unset, .unset, .unset, .unset] [(.int (f0_v14 p0 p1 p2 p3)), (.int (4 : Int32)), (.ref b25)])) rfl rfl (hb hby at_177)
  have Z47 : n0 ≤ h47.size := Nat.le_trans Z42 (Keep.of_wr W47).1
  have N47 := Fr.snoc X47 N42 g_b25
  have V47 : Arv Z h47 b25 k25 .int (9 : Int32) [(.int (0 : Int32)), (.int ((0 : Int32) + (p0 &&& (3 : Int32)))), (.int (f0_v12 p0 p1 p2 p3)), (.int (f0_v13 p0 p1 p2 p3)), (.int (f0_v14 p0 p1 p2 p3)), (.int (0 : Int32)), (.int (0 : Int32)), (.int (0 : Int32)), (.int (0 : Int32))] (.int (0 : Int32)) := Arv.set Ar46 q46 S46 M46 H46 G46 rfl W47 4 rfl (Nat.le_of_ble_eq_true rfl)
  obtain ⟨cl48, Ar48, q48, S48, M48, H48, G48⟩ := id V47
  have hin48 : ¬ ((4 : Int32) < 0 ∨ cl48.slots.size ≤ ((4 : Int32)).toNatClampNeg) := inb_of S48 ⟨by decide, by decide⟩
  have hat48 : cl48.slots[((4 : Int32)).toNatClampNeg]? = some (.int (f0_v14 p0 p1 p2 p3)) := H48.at hin48 rfl
  have y49 := (y44.other W47 ne_b1_b25)
  obtain ⟨cl50, Ar50, q50, S50, M50, H50, G50⟩ := id y49
  have hin50 : ¬ ((4 : Int32) < 0 ∨ cl50.slots.size ≤ ((4 : Int32)).toNatClampNeg) := inb_of S50 ⟨by decide, by decide⟩
  have hat50 : cl50.slots[((4 : Int32)).toNatClampNeg]? = some (.int ((f0_v3 p0 p1 p2 p3) &&& (3 : Int32))) := H50.at hin50 rfl
  obtain ⟨cl51, Ar51, q51, S51, M51, H51, G51⟩ := id V47
  have hin51 : ¬ ((5 : Int32) < 0 ∨ cl51.slots.size ≤ ((5 : Int32)).toNatClampNeg) := inb_of S51 ⟨by decide, by decide⟩
  obtain ⟨T52, h52, X52, e52, W52, st52⟩ := stI X47 hx hZ e47 Ar51 (j := (5 : Int32)) hin51 (g := (mkF m 190 #[.val (.int p0), .val (.int p1), .val (.int p2), .val (.int p3), .val (.ref b1), .val (.ref b25), .unset, .unset, .unset, .unset, .unset, .unset, .unset, .unset, .unset] [(.int (f0_v15 p0 p1 p2 p3)), (.int (5 : Int32)), (.ref b25)])) rfl rfl (hb hby at_190)
  have Z52 : n0 ≤ h52.size := Nat.le_trans Z47 (Keep.of_wr W52).1
  have N52 := Fr.snoc X52 N47 g_b25
  have V52 : Arv Z h52 b25 k25 .int (9 : Int32) [(.int (0 : Int32)), (.int ((0 : Int32) + (p0 &&& (3 : Int32)))), (.int (f0_v12 p0 p1 p2 p3)), (.int (f0_v13 p0 p1 p2 p3)), (.int (f0_v14 p0 p1 p2 p3)), (.int (f0_v15 p0 p1 p2 p3)), (.int (0 : Int32)), (.int (0 : Int32)), (.int (0 : Int32))] (.int (0 : Int32)) := Arv.set Ar51 q51 S51 M51 H51 G51 rfl W52 5 rfl (Nat.le_of_ble_eq_true rfl)
  obtain ⟨cl53, Ar53, q53, S53, M53, H53, G53⟩ := id V52
  have hin53 : ¬ ((5 : Int32) < 0 ∨ cl53.slots.size ≤ ((5 : Int32)).toNatClampNeg) := inb_of S53 ⟨by decide, by decide⟩
  have hat53 : cl53.slots[((5 : Int32)).toNatClampNeg]? = some (.int (f0_v15 p0 p1 p2 p3)) := H53.at hin53 rfl
  have y54 := (y49.other W52 ne_b1_b25)
  obtain ⟨cl55, Ar55, q55, S55, M55, H55, G55⟩ := id y54
  have hin55 : ¬ ((5 : Int32) < 0 ∨ cl55.slots.size ≤ ((5 : Int32)).toNatClampNeg) := inb_of S55 ⟨by decide, by decide⟩
  have hat55 : cl55.slots[((5 : Int32)).toNatClampNeg]? = some (.int ((f0_v4 p0 p1 p2 p3) &&& (3 : Int32))) := H55.at hin55 rfl
  obtain ⟨cl56, Ar56, q56, S56, M56, H56, G56⟩ := id V52
  have hin56 : ¬ ((6 : Int32) < 0 ∨ cl56.slots.size ≤ ((6 : Int32)).toNatClampNeg) := inb_of S56 ⟨by decide, by decide⟩
  obtain ⟨T57, h57, X57, e57, W57, st57⟩ := stI X52 hx hZ e52 Ar56 (j := (6 : Int32)) hin56 (g := (mkF m 204 #[.val (.int p0), .val (.int p1), .val (.int p2), .val (.int p3), .val (.ref b1), .val (.ref b25), .unset, .unset, .unset, .unset, .unset, .unset, .unset, .unset, .unset] [(.int (f0_v16 p0 p1 p2 p3)), (.int (6 : Int32)), (.ref b25)])) rfl rfl (hb hby at_204)
  have Z57 : n0 ≤ h57.size := Nat.le_trans Z52 (Keep.of_wr W57).1
  have N57 := Fr.snoc X57 N52 g_b25
  have V57 : Arv Z h57 b25 k25 .int (9 : Int32) [(.int (0 : Int32)), (.int ((0 : Int32) + (p0 &&& (3 : Int32)))), (.int (f0_v12 p0 p1 p2 p3)), (.int (f0_v13 p0 p1 p2 p3)), (.int (f0_v14 p0 p1 p2 p3)), (.int (f0_v15 p0 p1 p2 p3)), (.int (f0_v16 p0 p1 p2 p3)), (.int (0 : Int32)), (.int (0 : Int32))] (.int (0 : Int32)) := Arv.set Ar56 q56 S56 M56 H56 G56 rfl W57 6 rfl (Nat.le_of_ble_eq_true rfl)
  obtain ⟨cl58, Ar58, q58, S58, M58, H58, G58⟩ := id V57
  have hin58 : ¬ ((6 : Int32) < 0 ∨ cl58.slots.size ≤ ((6 : Int32)).toNatClampNeg) := inb_of S58 ⟨by decide, by decide⟩
  have hat58 : cl58.slots[((6 : Int32)).toNatClampNeg]? = some (.int (f0_v16 p0 p1 p2 p3)) := H58.at hin58 rfl
  have y59 := (y54.other W57 ne_b1_b25)
  obtain ⟨cl60, Ar60, q60, S60, M60, H60, G60⟩ := id y59
  have hin60 : ¬ ((6 : Int32) < 0 ∨ cl60.slots.size ≤ ((6 : Int32)).toNatClampNeg) := inb_of S60 ⟨by decide, by decide⟩
  have hat60 : cl60.slots[((6 : Int32)).toNatClampNeg]? = some (.int ((f0_v5 p0 p1 p2 p3) &&& (3 : Int32))) := H60.at hin60 rfl
  obtain ⟨cl61, Ar61, q61, S61, M61, H61, G61⟩ := id V57
  have hin61 : ¬ ((7 : Int32) < 0 ∨ cl61.slots.size ≤ ((7 : Int32)).toNatClampNeg) := inb_of S61 ⟨by decide, by decide⟩
  obtain ⟨T62, h62, X62, e62, W62, st62⟩ := stI X57 hx hZ e57 Ar61 (j := (7 : Int32)) hin61 (g := (mkF m 220 #[.val (.int p0), .val (.int p1), .val (.int p2), .val (.int p3), .val (.ref b1), .val (.ref b25), .unset, .unset, .unset, .unset, .unset, .unset, .unset, .unset, .unset] [(.int (f0_v17 p0 p1 p2 p3)), (.int (7 : Int32)), (.ref b25)])) rfl rfl (hb hby at_220)
  have Z62 : n0 ≤ h62.size := Nat.le_trans Z57 (Keep.of_wr W62).1
  have N62 := Fr.snoc X62 N57 g_b25
  have V62 : Arv Z h62 b25 k25 .int (9 : Int32) [(.int (0 : Int32)), (.int ((0 : Int32) + (p0 &&& (3 : Int32)))), (.int (f0_v12 p0 p1 p2 p3)), (.int (f0_v13 p0 p1 p2 p3)), (.int (f0_v14 p0 p1 p2 p3)), (.int (f0_v15 p0 p1 p2 p3)), (.int (f0_v16 p0 p1 p2 p3)), (.int (f0_v17 p0 p1 p2 p3)), (.int (0 : Int32))] (.int (0 : Int32)) := Arv.set Ar61 q61 S61 M61 H61 G61 rfl W62 7 rfl (Nat.le_of_ble_eq_true rfl)
  obtain ⟨cl63, Ar63, q63, S63, M63, H63, G63⟩ := id V62
  have hin63 : ¬ ((7 : Int32) < 0 ∨ cl63.slots.size ≤ ((7 : Int32)).toNatClampNeg) := inb_of S63 ⟨by decide, by decide⟩
  have hat63 : cl63.slots[((7 : Int32)).toNatClampNeg]? = some (.int (f0_v17 p0 p1 p2 p3)) := H63.at hin63 rfl
  have y64 := (y59.other W62 ne_b1_b25)
  obtain ⟨cl65, Ar65, q65, S65, M65, H65, G65⟩ := id y64
  have hin65 : ¬ ((7 : Int32) < 0 ∨ cl65.slots.size ≤ ((7 : Int32)).toNatClampNeg) := inb_of S65 ⟨by decide, by decide⟩
  have hat65 : cl65.slots[((7 : Int32)).toNatClampNeg]? = some (.int ((21 : Int32) - (f0_v11 p0 p1 p2 p3))) := H65.at hin65 rfl
  obtain ⟨cl66, Ar66, q66, S66, M66, H66, G66⟩ := id V62
  have hin66 : ¬ ((8 : Int32) < 0 ∨ cl66.slots.size ≤ ((8 : Int32)).toNatClampNeg) := inb_of S66 ⟨by decide, by decide⟩
  obtain ⟨T67, h67, X67, e67, W67, st67⟩ := stI X62 hx hZ e62 Ar66 (j := (8 : Int32)) hin66 (g := (mkF m 236 #[.val (.int p0), .val (.int p1), .val (.int p2), .val (.int p3), .val (.ref b1), .val (.ref b25), .unset, .unset, .unset, .unset, .unset, .unset, .unset, .unset, .unset] [(.int (f0_v18 p0 p1 p2 p3)), (.int (8 : Int32)), (.ref b25)])) rfl rfl (hb hby at_236)
  have Z67 : n0 ≤ h67.size := Nat.le_trans Z62 (Keep.of_wr W67).1
  have N67 := Fr.snoc X67 N62 g_b25
  have V67 : Arv Z h67 b25 k25 .int (9 : Int32) [(.int (0 : Int32)), (.int ((0 : Int32) + (p0 &&& (3 : Int32)))), (.int (f0_v12 p0 p1 p2 p3)), (.int (f0_v13 p0 p1 p2 p3)), (.int (f0_v14 p0 p1 p2 p3)), (.int (f0_v15 p0 p1 p2 p3)), (.int (f0_v16 p0 p1 p2 p3)), (.int (f0_v17 p0 p1 p2 p3)), (.int (f0_v18 p0 p1 p2 p3))] (.int (0 : Int32)) := Arv.set Ar66 q66 S66 M66 H66 G66 rfl W67 8 rfl (Nat.le_of_ble_eq_true rfl)
  obtain ⟨T68, h68, X68, e68, E68, A68, D68, -, st68⟩ := newO X67 hx hZ hown (hw _ (List.mem_of_getElem? (i := 2) rfl)) (hw _ (List.mem_of_getElem? (i := 3) rfl)) (hw _ (List.mem_of_getElem? (i := 4) rfl)) e67 (g := (mkF m 283 #[.val (.int p0), .val (.int p1), .val (.int p2), .val (.int p3), .val (.ref b1), .val (.ref b25), .val (.int (p1 &&& (3 : Int32))), .val (.int (f0_v19 p0 p1 p2 p3)), .val (.int (f0_v20 p0 p1 p2 p3)), .val (.int (f0_v21 p0 p1 p2 p3)), .val (.int (f0_v22 p0 p1 p2 p3)), .val (.int (f0_v23 p0 p1 p2 p3)), .unset, .unset, .unset] [])) rfl (hb hby at_283) (by decide) (by decide)
  obtain ⟨b68, g68⟩ : ∃ z, z = h67.size := ⟨_, rfl⟩
  rw [← g68] at A68 D68 st68
  have y69 := (y64.other W67 ne_b1_b25)
  have ne_b1_b68 : b1 ≠ b68 := Nat.ne_of_lt (Nat.lt_of_lt_of_le y69.lt (Nat.le_of_eq g68.symm))
  have ne_b25_b68 : b25 ≠ b68 := Nat.ne_of_lt (Nat.lt_of_lt_of_le V67.lt (Nat.le_of_eq g68.symm))
  have g_b68 : n0 ≤ b68 := Nat.le_trans Z67 (Nat.le_of_eq g68.symm)
  have Z68 : n0 ≤ h68.size := Nat.le_trans Z67 E68.1
  have F68_assignmentCount : Fld Z h68 b68 "com/example/frugal_synth/frugalsynth/Arena" "assignmentCount" "I" (.int (0 : Int32)) := D68 (Or.inr (hw _ (List.mem_of_getElem? (i := 13) rfl))) (ty := .int) (by decide)
  have F68_firstChoice : Fld Z h68 b68 "com/example/frugal_synth/frugalsynth/Arena" "firstChoice" "[I" .null := D68 (Or.inr (hw _ (List.mem_of_getElem? (i := 15) rfl))) (ty := (.array .int)) (by decide)
  have F68_outputs : Fld Z h68 b68 "com/example/frugal_synth/frugalsynth/Arena" "outputs" "[I" .null := D68 (Or.inr (hw _ (List.mem_of_getElem? (i := 17) rfl))) (ty := (.array .int)) (by decide)
  have F68_targets : Fld Z h68 b68 "com/example/frugal_synth/frugalsynth/Arena" "targets" "[I" .null := D68 (Or.inr (hw _ (List.mem_of_getElem? (i := 19) rfl))) (ty := (.array .int)) (by decide)
  have F68_weights : Fld Z h68 b68 "com/example/frugal_synth/frugalsynth/Arena" "weights" "[J" .null := D68 (Or.inr (hw _ (List.mem_of_getElem? (i := 21) rfl))) (ty := (.array .long)) (by decide)
  have F68_parityCount : Fld Z h68 b68 "com/example/frugal_synth/frugalsynth/Arena" "parityCount" "I" (.int (0 : Int32)) := D68 (Or.inr (hw _ (List.mem_of_getElem? (i := 23) rfl))) (ty := .int) (by decide)
  have F68_priorities : Fld Z h68 b68 "com/example/frugal_synth/frugalsynth/Arena" "priorities" "[I" .null := D68 (Or.inr (hw _ (List.mem_of_getElem? (i := 25) rfl))) (ty := (.array .int)) (by decide)
  obtain ⟨T70, h70, k70, X70, e70, E70, A70, st70⟩ := newP X68 hx hZ (hw _ (List.mem_of_getElem? (i := 0) rfl)) e68 (g := (mkF m 293 #[.val (.int p0), .val (.int p1), .val (.int p2), .val (.int p3), .val (.ref b1), .val (.ref b25), .val (.int (p1 &&& (3 : Int32))), .val (.int (f0_v19 p0 p1 p2 p3)), .val (.int (f0_v20 p0 p1 p2 p3)), .val (.int (f0_v21 p0 p1 p2 p3)), .val (.int (f0_v22 p0 p1 p2 p3)), .val (.int (f0_v23 p0 p1 p2 p3)), .unset, .unset, .unset] [(.int (21 : Int32)), (.ref b25), (.int (f0_v19 p0 p1 p2 p3)), (.ref b68), (.ref b68)])) rfl (hb hby at_293) rfl (by decide) (cap := 21) (by decide) (by decide) (by decide) (by decide)
  obtain ⟨b70, g70⟩ : ∃ z, z = h68.size := ⟨_, rfl⟩
  rw [← g70] at A70 st70
  have y71 := (y69.ext E68)
  have ne_b1_b70 : b1 ≠ b70 := Nat.ne_of_lt (Nat.lt_of_lt_of_le y71.lt (Nat.le_of_eq g70.symm))
  have y72 := (V67.ext E68)
  have ne_b25_b70 : b25 ≠ b70 := Nat.ne_of_lt (Nat.lt_of_lt_of_le y72.lt (Nat.le_of_eq g70.symm))
  have ne_b68_b70 : b68 ≠ b70 := Nat.ne_of_lt (Nat.lt_of_lt_of_le A68.lt (Nat.le_of_eq g70.symm))
  have g_b70 : n0 ≤ b70 := Nat.le_trans Z68 (Nat.le_of_eq g70.symm)
  have Z70 : n0 ≤ h70.size := Nat.le_trans Z68 E70.1
  have V70 : Arv Z h70 b70 k70 .int (21 : Int32) [(.int (0 : Int32)), (.int (0 : Int32)), (.int (0 : Int32)), (.int (0 : Int32)), (.int (0 : Int32)), (.int (0 : Int32)), (.int (0 : Int32)), (.int (0 : Int32)), (.int (0 : Int32)), (.int (0 : Int32)), (.int (0 : Int32)), (.int (0 : Int32)), (.int (0 : Int32)), (.int (0 : Int32)), (.int (0 : Int32)), (.int (0 : Int32)), (.int (0 : Int32)), (.int (0 : Int32)), (.int (0 : Int32)), (.int (0 : Int32)), (.int (0 : Int32))] (.int (0 : Int32)) := (Arv.new A70 (by decide)).pad (pad_rep [] (.int (0 : Int32)) 21)
  obtain ⟨T73, h73, k73, X73, e73, E73, A73, st73⟩ := newP X70 hx hZ (hw _ (List.mem_of_getElem? (i := 0) rfl)) e70 (g := (mkF m 297 #[.val (.int p0), .val (.int p1), .val (.int p2), .val (.int p3), .val (.ref b1), .val (.ref b25), .val (.int (p1 &&& (3 : Int32))), .val (.int (f0_v19 p0 p1 p2 p3)), .val (.int (f0_v20 p0 p1 p2 p3)), .val (.int (f0_v21 p0 p1 p2 p3)), .val (.int (f0_v22 p0 p1 p2 p3)), .val (.int (f0_v23 p0 p1 p2 p3)), .unset, .unset, .unset] [(.int (21 : Int32)), (.ref b70), (.ref b25), (.int (f0_v19 p0 p1 p2 p3)), (.ref b68), (.ref b68)])) rfl (hb hby at_297) rfl (by decide) (cap := 21) (by decide) (by decide) (by decide) (by decide)
  obtain ⟨b73, g73⟩ : ∃ z, z = h70.size := ⟨_, rfl⟩
  rw [← g73] at A73 st73
  have y74 := (y71.ext E70)
  have ne_b1_b73 : b1 ≠ b73 := Nat.ne_of_lt (Nat.lt_of_lt_of_le y74.lt (Nat.le_of_eq g73.symm))
  have y75 := (y72.ext E70)
  have ne_b25_b73 : b25 ≠ b73 := Nat.ne_of_lt (Nat.lt_of_lt_of_le y75.lt (Nat.le_of_eq g73.symm))
  have y76 := (A68.ext E70)
  have ne_b68_b73 : b68 ≠ b73 := Nat.ne_of_lt (Nat.lt_of_lt_of_le y76.lt (Nat.le_of_eq g73.symm))
  have ne_b70_b73 : b70 ≠ b73 := Nat.ne_of_lt (Nat.lt_of_lt_of_le V70.lt (Nat.le_of_eq g73.symm))
  have g_b73 : n0 ≤ b73 := Nat.le_trans Z70 (Nat.le_of_eq g73.symm)
  have Z73 : n0 ≤ h73.size := Nat.le_trans Z70 E73.1
  have V73 : Arv Z h73 b73 k73 .int (21 : Int32) [(.int (0 : Int32)), (.int (0 : Int32)), (.int (0 : Int32)), (.int (0 : Int32)), (.int (0 : Int32)), (.int (0 : Int32)), (.int (0 : Int32)), (.int (0 : Int32)), (.int (0 : Int32)), (.int (0 : Int32)), (.int (0 : Int32)), (.int (0 : Int32)), (.int (0 : Int32)), (.int (0 : Int32)), (.int (0 : Int32)), (.int (0 : Int32)), (.int (0 : Int32)), (.int (0 : Int32)), (.int (0 : Int32)), (.int (0 : Int32)), (.int (0 : Int32))] (.int (0 : Int32)) := (Arv.new A73 (by decide)).pad (pad_rep [] (.int (0 : Int32)) 21)
  obtain ⟨T77, h77, k77, X77, e77, E77, A77, st77⟩ := newP X73 hx hZ (hw _ (List.mem_of_getElem? (i := 5) rfl)) e73 (g := (mkF m 301 #[.val (.int p0), .val (.int p1), .val (.int p2), .val (.int p3), .val (.ref b1), .val (.ref b25), .val (.int (p1 &&& (3 : Int32))), .val (.int (f0_v19 p0 p1 p2 p3)), .val (.int (f0_v20 p0 p1 p2 p3)), .val (.int (f0_v21 p0 p1 p2 p3)), .val (.int (f0_v22 p0 p1 p2 p3)), .val (.int (f0_v23 p0 p1 p2 p3)), .unset, .unset, .unset] [(.int (21 : Int32)), (.ref b73), (.ref b70), (.ref b25), (.int (f0_v19 p0 p1 p2 p3)), (.ref b68), (.ref b68)])) rfl (hb hby at_301) rfl (by decide) (cap := 21) (by decide) (by decide) (by decide) (by decide)
  obtain ⟨b77, g77⟩ : ∃ z, z = h73.size := ⟨_, rfl⟩
  rw [← g77] at A77 st77
  have y78 := (y74.ext E73)
  have ne_b1_b77 : b1 ≠ b77 := Nat.ne_of_lt (Nat.lt_of_lt_of_le y78.lt (Nat.le_of_eq g77.symm))
  have y79 := (y75.ext E73)
  have ne_b25_b77 : b25 ≠ b77 := Nat.ne_of_lt (Nat.lt_of_lt_of_le y79.lt (Nat.le_of_eq g77.symm))
  have y80 := (y76.ext E73)
  have ne_b68_b77 : b68 ≠ b77 := Nat.ne_of_lt (Nat.lt_of_lt_of_le y80.lt (Nat.le_of_eq g77.symm))
  have y81 := (V70.ext E73)
  have ne_b70_b77 : b70 ≠ b77 := Nat.ne_of_lt (Nat.lt_of_lt_of_le y81.lt (Nat.le_of_eq g77.symm))
  have ne_b73_b77 : b73 ≠ b77 := Nat.ne_of_lt (Nat.lt_of_lt_of_le V73.lt (Nat.le_of_eq g77.symm))
  have g_b77 : n0 ≤ b77 := Nat.le_trans Z73 (Nat.le_of_eq g77.symm)
  have Z77 : n0 ≤ h77.size := Nat.le_trans Z73 E77.1
  have V77 : Arv Z h77 b77 k77 .long (21 : Int32) [(.long (0 : Int64)), (.long (0 : Int64)), (.long (0 : Int64)), (.long (0 : Int64)), (.long (0 : Int64)), (.long (0 : Int64)), (.long (0 : Int64)), (.long (0 : Int64)), (.long (0 : Int64)), (.long (0 : Int64)), (.long (0 : Int64)), (.long (0 : Int64)), (.long (0 : Int64)), (.long (0 : Int64)), (.long (0 : Int64)), (.long (0 : Int64)), (.long (0 : Int64)), (.long (0 : Int64)), (.long (0 : Int64)), (.long (0 : Int64)), (.long (0 : Int64))] (.long (0 : Int64)) := (Arv.new A77 (by decide)).pad (pad_rep [] (.long (0 : Int64)) 21)
  obtain ⟨T82, h82, k82, X82, e82, E82, A82, st82⟩ := newP X77 hx hZ (hw _ (List.mem_of_getElem? (i := 0) rfl)) e77 (g := (mkF m 305 #[.val (.int p0), .val (.int p1), .val (.int p2), .val (.int p3), .val (.ref b1), .val (.ref b25), .val (.int (p1 &&& (3 : Int32))), .val (.int (f0_v19 p0 p1 p2 p3)), .val (.int (f0_v20 p0 p1 p2 p3)), .val (.int (f0_v21 p0 p1 p2 p3)), .val (.int (f0_v22 p0 p1 p2 p3)), .val (.int (f0_v23 p0 p1 p2 p3)), .unset, .unset, .unset] [(.int (0 : Int32)), (.int (0 : Int32)), (.ref b77), (.ref b73), (.ref b70), (.ref b25), (.int (f0_v19 p0 p1 p2 p3)), (.ref b68), (.ref b68)])) rfl (hb hby at_305) rfl (by decide) (cap := 0) (by decide) (by decide) (by decide) (by decide)
  obtain ⟨b82, g82⟩ : ∃ z, z = h77.size := ⟨_, rfl⟩
  rw [← g82] at A82 st82
  have y83 := (y78.ext E77)
  have ne_b1_b82 : b1 ≠ b82 := Nat.ne_of_lt (Nat.lt_of_lt_of_le y83.lt (Nat.le_of_eq g82.symm))
  have y84 := (y79.ext E77)
  have ne_b25_b82 : b25 ≠ b82 := Nat.ne_of_lt (Nat.lt_of_lt_of_le y84.lt (Nat.le_of_eq g82.symm))
  have y85 := (y80.ext E77)
  have ne_b68_b82 : b68 ≠ b82 := Nat.ne_of_lt (Nat.lt_of_lt_of_le y85.lt (Nat.le_of_eq g82.symm))
  have y86 := (y81.ext E77)
  have ne_b70_b82 : b70 ≠ b82 := Nat.ne_of_lt (Nat.lt_of_lt_of_le y86.lt (Nat.le_of_eq g82.symm))
  have y87 := (V73.ext E77)
  have ne_b73_b82 : b73 ≠ b82 := Nat.ne_of_lt (Nat.lt_of_lt_of_le y87.lt (Nat.le_of_eq g82.symm))
  have ne_b77_b82 : b77 ≠ b82 := Nat.ne_of_lt (Nat.lt_of_lt_of_le V77.lt (Nat.le_of_eq g82.symm))
  have g_b82 : n0 ≤ b82 := Nat.le_trans Z77 (Nat.le_of_eq g82.symm)
  have Z82 : n0 ≤ h82.size := Nat.le_trans Z77 E82.1
  have V82 : Arv Z h82 b82 k82 .int (0 : Int32) [] (.int (0 : Int32)) := (Arv.new A82 (by decide)).pad (pad_rep [] (.int (0 : Int32)) 0)
  have y89 := ((((F68_assignmentCount.ext E70).ext E73).ext E77).ext E82)
  have y90 := ((((F68_firstChoice.ext E70).ext E73).ext E77).ext E82)
  have y91 := ((((F68_outputs.ext E70).ext E73).ext E77).ext E82)
  have y92 := ((((F68_targets.ext E70).ext E73).ext E77).ext E82)
  have y93 := ((((F68_weights.ext E70).ext E73).ext E77).ext E82)
  have y94 := ((((F68_parityCount.ext E70).ext E73).ext E77).ext E82)
  have y95 := ((((F68_priorities.ext E70).ext E73).ext E77).ext E82)
  have y96 := (y85.ext E82)
  obtain ⟨_, _, ⟨T88, L88, k88, n88⟩, -, X88, ⟨Lc88, hQ88, l88, y88, z88⟩, st88⟩ := X82.specialBack hx (y := (⟨"com/example/frugal_synth/frugalsynth/Arena", "<init>", "(I[I[I[I[JI[I)V"⟩ : MethodName)) rfl hown (mvT hZ (hw _ (List.mem_of_getElem? (i := 6) rfl))) (mvT hZ (hw _ (List.mem_of_getElem? (i := 7) rfl))) (mvT hZ (hw _ (List.mem_of_getElem? (i := 8) rfl))) (by decide) (backOf (W := 1) (rm1 l Z a0' hw [] b68 (f0_v19 p0 p1 p2 p3) b25 b70 b73 b77 (0 : Int32) b82 (0 : Int32) .null .null .null .null (0 : Int32) .null h82 n0 Z82 y96 y89 y90 y91 y92 y93 y94 y95 g_b68) hZ (hw _ (List.mem_of_getElem? (i := 8) rfl)) (hw _ (List.mem_of_getElem? (i := 4) rfl)) (by decide) (by decide)) (g := (mkF m 307 #[.val (.int p0), .val (.int p1), .val (.int p2), .val (.int p3), .val (.ref b1), .val (.ref b25), .val (.int (p1 &&& (3 : Int32))), .val (.int (f0_v19 p0 p1 p2 p3)), .val (.int (f0_v20 p0 p1 p2 p3)), .val (.int (f0_v21 p0 p1 p2 p3)), .val (.int (f0_v22 p0 p1 p2 p3)), .val (.int (f0_v23 p0 p1 p2 p3)), .unset, .unset, .unset] [(.ref b82), (.int (0 : Int32)), (.ref b77), (.ref b73), (.ref b70), (.ref b25), (.int (f0_v19 p0 p1 p2 p3)), (.ref b68), (.ref b68)])) rfl (by rw [hml]; rfl) (Steps.refl _) (a := b68) (argsL := [(.int (f0_v19 p0 p1 p2 p3)), (.ref b25), (.ref b70), (.ref b73), (.ref b77), (.int (0 : Int32)), (.ref b82)]) (rest := [(.ref b68)]) (lenOf pd0 rfl) rfl (by show 2 * 0 + _ ≤ _; exact Nat.le_of_eq rfl) (hb hby at_307) (fun _ _ => ⟨rfl, e82, (by decide : 7 + 0 ≤ _), (by decide : 88 + 0 ≤ _)⟩)
  dsimp only [Pt.U, Pt.locs, Pt.cells, Pt.slots] at X88 l88 y88 z88 st88 hQ88
  subst l88 y88 z88
  obtain ⟨rfl, N88q, K88, u88_0, u88_1, u88_2, u88_3, u88_4, u88_5, u88_6, u88_7⟩ := hQ88
  have N88 := Fr.app N67 N88q
  have Z88 : n0 ≤ T88.heap.size := Nat.le_trans Z82 K88.1
  have y98 := ((y84.ext E82).keep K88 (ninS ne_b25_b68 nin0))
  obtain ⟨cq97, kq97, q97a, q97b, q97c⟩ := isOf hZ rfl u88_0
  obtain ⟨_, _, ⟨T97, L97, k97, n97⟩, -, X97, ⟨Lc97, hQ97, l97, y97, z97⟩, st97⟩ := X88.virtualBack hx (y := (⟨"com/example/frugal_synth/frugalsynth/Arena", "endChoice", "(II)I"⟩ : MethodName)) (z := (⟨"com/example/frugal_synth/frugalsynth/Arena", "endChoice", "(II)I"⟩ : MethodName)) hown (mvT hZ (hw _ (List.mem_of_getElem? (i := 26) rfl))) (mvT hZ (hw _ (List.mem_of_getElem? (i := 27) rfl))) (notFace_of_selects (args := #[]) (mvT hZ (hw _ (List.mem_of_getElem? (i := 29) rfl)))) (mvT hZ (hw _ (List.mem_of_getElem? (i := 29) rfl))) (mvT hZ (hw _ (List.mem_of_getElem? (i := 28) rfl))) (by decide) (backOf (W := 0) (rm3 l Z a0' hw [] b68 (f0_v21 p0 p1 p2 p3) (f0_v22 p0 p1 p2 p3) b25 (f0_v19 p0 p1 p2 p3) [(0 : Int32), ((0 : Int32) + (p0 &&& (3 : Int32))), (f0_v12 p0 p1 p2 p3), (f0_v13 p0 p1 p2 p3), (f0_v14 p0 p1 p2 p3), (f0_v15 p0 p1 p2 p3), (f0_v16 p0 p1 p2 p3), (f0_v17 p0 p1 p2 p3), (f0_v18 p0 p1 p2 p3)] (9 : Int32) k25 T88.heap n0 Z88 y98 u88_2 u88_1 (own_i1 p0 p1 p2 p3)) hZ (hw _ (List.mem_of_getElem? (i := 30) rfl)) (hw _ (List.mem_of_getElem? (i := 4) rfl)) (by decide) (by decide)) q97a q97c (g := (mkF m 318 #[.val (.int p0), .val (.int p1), .val (.int p2), .val (.int p3), .val (.ref b1), .val (.ref b25), .val (.int (p1 &&& (3 : Int32))), .val (.int (f0_v19 p0 p1 p2 p3)), .val (.int (f0_v20 p0 p1 p2 p3)), .val (.int (f0_v21 p0 p1 p2 p3)), .val (.int (f0_v22 p0 p1 p2 p3)), .val (.int (f0_v23 p0 p1 p2 p3)), .val (.ref b68), .unset, .unset] [(.int (f0_v22 p0 p1 p2 p3)), (.int (f0_v21 p0 p1 p2 p3)), (.ref b68)])) rfl (by rw [hml]; rfl) (Steps.refl _) (argsL := [(.int (f0_v21 p0 p1 p2 p3)), (.int (f0_v22 p0 p1 p2 p3))]) (rest := []) (lenOf pd1 rfl) rfl (by show 2 * 0 + _ ≤ _; exact Nat.le_of_eq rfl) (hb hby at_318) (fun _ _ => ⟨rfl, rfl, (by decide : 7 + 0 ≤ _), (by decide : 88 + 0 ≤ _)⟩)
  dsimp only [Pt.U, Pt.locs, Pt.cells, Pt.slots] at X97 l97 y97 z97 st97 hQ97
  subst l97 y97 z97
  obtain ⟨rfl, N97q, e97⟩ := hQ97
  have N97 := Fr.app N88 N97q
  obtain ⟨cl99, Ar99, q99, S99, M99, H99, G99⟩ := id y98
  have hin99 : ¬ ((f0_v23 p0 p1 p2 p3) < 0 ∨ cl99.slots.size ≤ ((f0_v23 p0 p1 p2 p3)).toNatClampNeg) := inb_of S99 (own_i0 p0 p1 p2 p3)
  have hat99 : cl99.slots[((f0_v23 p0 p1 p2 p3)).toNatClampNeg]? = some (.int (([(0 : Int32), ((0 : Int32) + (p0 &&& (3 : Int32))), (f0_v12 p0 p1 p2 p3), (f0_v13 p0 p1 p2 p3), (f0_v14 p0 p1 p2 p3), (f0_v15 p0 p1 p2 p3), (f0_v16 p0 p1 p2 p3), (f0_v17 p0 p1 p2 p3), (f0_v18 p0 p1 p2 p3)] : List Int32).getD ((f0_v23 p0 p1 p2 p3)).toNatClampNeg 0)) := H99.at hin99 (own_getDI [(0 : Int32), ((0 : Int32) + (p0 &&& (3 : Int32))), (f0_v12 p0 p1 p2 p3), (f0_v13 p0 p1 p2 p3), (f0_v14 p0 p1 p2 p3), (f0_v15 p0 p1 p2 p3), (f0_v16 p0 p1 p2 p3), (f0_v17 p0 p1 p2 p3), (f0_v18 p0 p1 p2 p3)] _)
  have y100 := ((y83.ext E82).keep K88 (ninS ne_b1_b68 nin0))
  obtain ⟨cl101, Ar101, q101, S101, M101, H101, G101⟩ := id y100
  have hin101 : ¬ ((f0_v23 p0 p1 p2 p3) < 0 ∨ cl101.slots.size ≤ ((f0_v23 p0 p1 p2 p3)).toNatClampNeg) := inb_of S101 (own_i8 p0 p1 p2 p3)
  have hat101 : cl101.slots[((f0_v23 p0 p1 p2 p3)).toNatClampNeg]? = some (.int (([(p0 &&& (3 : Int32)), ((f0_v0 p0 p1 p2 p3) &&& (3 : Int32)), ((f0_v1 p0 p1 p2 p3) &&& (3 : Int32)), ((f0_v2 p0 p1 p2 p3) &&& (3 : Int32)), ((f0_v3 p0 p1 p2 p3) &&& (3 : Int32)), ((f0_v4 p0 p1 p2 p3) &&& (3 : Int32)), ((f0_v5 p0 p1 p2 p3) &&& (3 : Int32)), ((21 : Int32) - (f0_v11 p0 p1 p2 p3))] : List Int32).getD ((f0_v23 p0 p1 p2 p3)).toNatClampNeg 0)) := H101.at hin101 (own_getDI [(p0 &&& (3 : Int32)), ((f0_v0 p0 p1 p2 p3) &&& (3 : Int32)), ((f0_v1 p0 p1 p2 p3) &&& (3 : Int32)), ((f0_v2 p0 p1 p2 p3) &&& (3 : Int32)), ((f0_v3 p0 p1 p2 p3) &&& (3 : Int32)), ((f0_v4 p0 p1 p2 p3) &&& (3 : Int32)), ((f0_v5 p0 p1 p2 p3) &&& (3 : Int32)), ((21 : Int32) - (f0_v11 p0 p1 p2 p3))] _)
  have pre102 : ∀ t, Steps p.tables e below (T97.setTop (mkF m 336 #[.val (.int p0), .val (.int p1), .val (.int p2), .val (.int p3), .val (.ref b1), .val (.ref b25), .val (.int (p1 &&& (3 : Int32))), .val (.int (f0_v19 p0 p1 p2 p3)), .val (.int (f0_v20 p0 p1 p2 p3)), .val (.int (f0_v21 p0 p1 p2 p3)), .val (.int (f0_v22 p0 p1 p2 p3)), .val (.int (f0_v23 p0 p1 p2 p3)), .val (.ref b68), .val (.int (f0_v24 p0 p1 p2 p3)), .unset] [(.int ((f0_v25 p0 p1 p2 p3) + (f0_v26 p0 p1 p2 p3))), (.int (f0_v24 p0 p1 p2 p3))])) t → Steps p.tables e below (s₁.setTop (entryFrame m #[(.int p0), (.int p1), (.int p2), (.int p3)] maxLocals)) t := fun t k => pre0 t (by
    show Steps p.tables e below (s₁.setTop (mkF m 0 #[.val (.int p0), .val (.int p1), .val (.int p2), .val (.int p3), .unset, .unset, .unset, .unset, .unset, .unset, .unset, .unset, .unset, .unset, .unset] [])) _
    refine XS.bipush X0.here hx rfl (hb hby at_0) ?_
    show Steps p.tables e below (s₁.setTop (mkF m 2 #[.val (.int p0), .val (.int p1), .val (.int p2), .val (.int p3), .unset, .unset, .unset, .unset, .unset, .unset, .unset, .unset, .unset, .unset, .unset] [(.int (8 : Int32))])) _
    refine st1 _ ?_
    show Steps p.tables e below (T1.setTop (mkF m 4 #[.val (.int p0), .val (.int p1), .val (.int p2), .val (.int p3), .unset, .unset, .unset, .unset, .unset, .unset, .unset, .unset, .unset, .unset, .unset] [(.ref b1)])) _
    refine XS.astore X1.here hx rfl (hb hby at_4) rfl rfl (l' := #[.val (.int p0), .val (.int p1), .val (.int p2), .val (.int p3), .val (.ref b1), .unset, .unset, .unset, .unset, .unset, .unset, .unset, .unset, .unset, .unset]) rfl ?_
    show Steps p.tables e below (T1.setTop (mkF m 6 #[.val (.int p0), .val (.int p1), .val (.int p2), .val (.int p3), .val (.ref b1), .unset, .unset, .unset, .unset, .unset, .unset, .unset, .unset, .unset, .unset] [])) _
    refine XS.aload X1.here hx rfl (hb hby at_6) rfl rfl ?_
    show Steps p.tables e below (T1.setTop (mkF m 8 #[.val (.int p0), .val (.int p1), .val (.int p2), .val (.int p3), .val (.ref b1), .unset, .unset, .unset, .unset, .unset, .unset, .unset, .unset, .unset, .unset] [(.ref b1)])) _
    refine XS.iconst X1.here hx rfl (hb hby at_8) ?_
    show Steps p.tables e below (T1.setTop (mkF m 9 #[.val (.int p0), .val (.int p1), .val (.int p2), .val (.int p3), .val (.ref b1), .unset, .unset, .unset, .unset, .unset, .unset, .unset, .unset, .unset, .unset] [(.int (0 : Int32)), (.ref b1)])) _
    refine XS.iloadN X1.here hx rfl (hb hby at_9) rfl ?_
    show Steps p.tables e below (T1.setTop (mkF m 10 #[.val (.int p0), .val (.int p1), .val (.int p2), .val (.int p3), .val (.ref b1), .unset, .unset, .unset, .unset, .unset, .unset, .unset, .unset, .unset, .unset] [(.int p0), (.int (0 : Int32)), (.ref b1)])) _
    refine XS.iconst X1.here hx rfl (hb hby at_10) ?_
    show Steps p.tables e below (T1.setTop (mkF m 11 #[.val (.int p0), .val (.int p1), .val (.int p2), .val (.int p3), .val (.ref b1), .unset, .unset, .unset, .unset, .unset, .unset, .unset, .unset, .unset, .unset] [(.int (3 : Int32)), (.int p0), (.int (0 : Int32)), (.ref b1)])) _
    refine XS.iand X1.here hx rfl (hb hby at_11) rfl ?_
    show Steps p.tables e below (T1.setTop (mkF m 12 #[.val (.int p0), .val (.int p1), .val (.int p2), .val (.int p3), .val (.ref b1), .unset, .unset, .unset, .unset, .unset, .unset, .unset, .unset, .unset, .unset] [(.int (p0 &&& (3 : Int32))), (.int (0 : Int32)), (.ref b1)])) _
    refine st3 _ ?_
    show Steps p.tables e below (T3.setTop (mkF m 13 #[.val (.int p0), .val (.int p1), .val (.int p2), .val (.int p3), .val (.ref b1), .unset, .unset, .unset, .unset, .unset, .unset, .unset, .unset, .unset, .unset] [])) _
    refine XS.aload X3.here hx rfl (hb hby at_13) rfl rfl ?_
    show Steps p.tables e below (T3.setTop (mkF m 15 #[.val (.int p0), .val (.int p1), .val (.int p2), .val (.int p3), .val (.ref b1), .unset, .unset, .unset, .unset, .unset, .unset, .unset, .unset, .unset, .unset] [(.ref b1)])) _
    refine XS.iconst X3.here hx rfl (hb hby at_15) ?_
    show Steps p.tables e below (T3.setTop (mkF m 16 #[.val (.int p0), .val (.int p1), .val (.int p2), .val (.int p3), .val (.ref b1), .unset, .unset, .unset, .unset, .unset, .unset, .unset, .unset, .unset, .unset] [(.int (1 : Int32)), (.ref b1)])) _
    refine XS.iloadN X3.here hx rfl (hb hby at_16) rfl ?_
    show Steps p.tables e below (T3.setTop (mkF m 17 #[.val (.int p0), .val (.int p1), .val (.int p2), .val (.int p3), .val (.ref b1), .unset, .unset, .unset, .unset, .unset, .unset, .unset, .unset, .unset, .unset] [(.int p0), (.int (1 : Int32)), (.ref b1)])) _
    refine XS.iconst X3.here hx rfl (hb hby at_17) ?_
    show Steps p.tables e below (T3.setTop (mkF m 18 #[.val (.int p0), .val (.int p1), .val (.int p2), .val (.int p3), .val (.ref b1), .unset, .unset, .unset, .unset, .unset, .unset, .unset, .unset, .unset, .unset] [(.int (2 : Int32)), (.int p0), (.int (1 : Int32)), (.ref b1)])) _
    refine XS.iushr X3.here hx rfl (hb hby at_18) rfl ?_
    show Steps p.tables e below (T3.setTop (mkF m 19 #[.val (.int p0), .val (.int p1), .val (.int p2), .val (.int p3), .val (.ref b1), .unset, .unset, .unset, .unset, .unset, .unset, .unset, .unset, .unset, .unset] [(.int (f0_v0 p0 p1 p2 p3)), (.int (1 : Int32)), (.ref b1)])) _
    refine XS.iconst X3.here hx rfl (hb hby at_19) ?_
    show Steps p.tables e below (T3.setTop (mkF m 20 #[.val (.int p0), .val (.int p1), .val (.int p2), .val (.int p3), .val (.ref b1), .unset, .unset, .unset, .unset, .unset, .unset, .unset, .unset, .unset, .unset] [(.int (3 : Int32)), (.int (f0_v0 p0 p1 p2 p3)), (.int (1 : Int32)), (.ref b1)])) _
    refine XS.iand X3.here hx rfl (hb hby at_20) rfl ?_
    show Steps p.tables e below (T3.setTop (mkF m 21 #[.val (.int p0), .val (.int p1), .val (.int p2), .val (.int p3), .val (.ref b1), .unset, .unset, .unset, .unset, .unset, .unset, .unset, .unset, .unset, .unset] [(.int ((f0_v0 p0 p1 p2 p3) &&& (3 : Int32))), (.int (1 : Int32)), (.ref b1)])) _
    refine st5 _ ?_
    show Steps p.tables e below (T5.setTop (mkF m 22 #[.val (.int p0), .val (.int p1), .val (.int p2), .val (.int p3), .val (.ref b1), .unset, .unset, .unset, .unset, .unset, .unset, .unset, .unset, .unset, .unset] [])) _
    refine XS.aload X5.here hx rfl (hb hby at_22) rfl rfl ?_
    show Steps p.tables e below (T5.setTop (mkF m 24 #[.val (.int p0), .val (.int p1), .val (.int p2), .val (.int p3), .val (.ref b1), .unset, .unset, .unset, .unset, .unset, .unset, .unset, .unset, .unset, .unset] [(.ref b1)])) _
    refine XS.iconst X5.here hx rfl (hb hby at_24) ?_
    show Steps p.tables e below (T5.setTop (mkF m 25 #[.val (.int p0), .val (.int p1), .val (.int p2), .val (.int p3), .val (.ref b1), .unset, .unset, .unset, .unset, .unset, .unset, .unset, .unset, .unset, .unset] [(.int (2 : Int32)), (.ref b1)])) _
    refine XS.iloadN X5.here hx rfl (hb hby at_25) rfl ?_
    show Steps p.tables e below (T5.setTop (mkF m 26 #[.val (.int p0), .val (.int p1), .val (.int p2), .val (.int p3), .val (.ref b1), .unset, .unset, .unset, .unset, .unset, .unset, .unset, .unset, .unset, .unset] [(.int p0), (.int (2 : Int32)), (.ref b1)])) _
    refine XS.iconst X5.here hx rfl (hb hby at_26) ?_
    show Steps p.tables e below (T5.setTop (mkF m 27 #[.val (.int p0), .val (.int p1), .val (.int p2), .val (.int p3), .val (.ref b1), .unset, .unset, .unset, .unset, .unset, .unset, .unset, .unset, .unset, .unset] [(.int (4 : Int32)), (.int p0), (.int (2 : Int32)), (.ref b1)])) _
    refine XS.iushr X5.here hx rfl (hb hby at_27) rfl ?_
    show Steps p.tables e below (T5.setTop (mkF m 28 #[.val (.int p0), .val (.int p1), .val (.int p2), .val (.int p3), .val (.ref b1), .unset, .unset, .unset, .unset, .unset, .unset, .unset, .unset, .unset, .unset] [(.int (f0_v1 p0 p1 p2 p3)), (.int (2 : Int32)), (.ref b1)])) _
    refine XS.iconst X5.here hx rfl (hb hby at_28) ?_
    show Steps p.tables e below (T5.setTop (mkF m 29 #[.val (.int p0), .val (.int p1), .val (.int p2), .val (.int p3), .val (.ref b1), .unset, .unset, .unset, .unset, .unset, .unset, .unset, .unset, .unset, .unset] [(.int (3 : Int32)), (.int (f0_v1 p0 p1 p2 p3)), (.int (2 : Int32)), (.ref b1)])) _
    refine XS.iand X5.here hx rfl (hb hby at_29) rfl ?_
    show Steps p.tables e below (T5.setTop (mkF m 30 #[.val (.int p0), .val (.int p1), .val (.int p2), .val (.int p3), .val (.ref b1), .unset, .unset, .unset, .unset, .unset, .unset, .unset, .unset, .unset, .unset] [(.int ((f0_v1 p0 p1 p2 p3) &&& (3 : Int32))), (.int (2 : Int32)), (.ref b1)])) _
    refine st7 _ ?_
    show Steps p.tables e below (T7.setTop (mkF m 31 #[.val (.int p0), .val (.int p1), .val (.int p2), .val (.int p3), .val (.ref b1), .unset, .unset, .unset, .unset, .unset, .unset, .unset, .unset, .unset, .unset] [])) _
    refine XS.aload X7.here hx rfl (hb hby at_31) rfl rfl ?_
    show Steps p.tables e below (T7.setTop (mkF m 33 #[.val (.int p0), .val (.int p1), .val (.int p2), .val (.int p3), .val (.ref b1), .unset, .unset, .unset, .unset, .unset, .unset, .unset, .unset, .unset, .unset] [(.ref b1)])) _
    refine XS.iconst X7.here hx rfl (hb hby at_33) ?_
    show Steps p.tables e below (T7.setTop (mkF m 34 #[.val (.int p0), .val (.int p1), .val (.int p2), .val (.int p3), .val (.ref b1), .unset, .unset, .unset, .unset, .unset, .unset, .unset, .unset, .unset, .unset] [(.int (3 : Int32)), (.ref b1)])) _
    refine XS.iloadN X7.here hx rfl (hb hby at_34) rfl ?_
    show Steps p.tables e below (T7.setTop (mkF m 35 #[.val (.int p0), .val (.int p1), .val (.int p2), .val (.int p3), .val (.ref b1), .unset, .unset, .unset, .unset, .unset, .unset, .unset, .unset, .unset, .unset] [(.int p0), (.int (3 : Int32)), (.ref b1)])) _
    refine XS.bipush X7.here hx rfl (hb hby at_35) ?_
    show Steps p.tables e below (T7.setTop (mkF m 37 #[.val (.int p0), .val (.int p1), .val (.int p2), .val (.int p3), .val (.ref b1), .unset, .unset, .unset, .unset, .unset, .unset, .unset, .unset, .unset, .unset] [(.int (6 : Int32)), (.int p0), (.int (3 : Int32)), (.ref b1)])) _
    refine XS.iushr X7.here hx rfl (hb hby at_37) rfl ?_
    show Steps p.tables e below (T7.setTop (mkF m 38 #[.val (.int p0), .val (.int p1), .val (.int p2), .val (.int p3), .val (.ref b1), .unset, .unset, .unset, .unset, .unset, .unset, .unset, .unset, .unset, .unset] [(.int (f0_v2 p0 p1 p2 p3)), (.int (3 : Int32)), (.ref b1)])) _
    refine XS.iconst X7.here hx rfl (hb hby at_38) ?_
    show Steps p.tables e below (T7.setTop (mkF m 39 #[.val (.int p0), .val (.int p1), .val (.int p2), .val (.int p3), .val (.ref b1), .unset, .unset, .unset, .unset, .unset, .unset, .unset, .unset, .unset, .unset] [(.int (3 : Int32)), (.int (f0_v2 p0 p1 p2 p3)), (.int (3 : Int32)), (.ref b1)])) _
    refine XS.iand X7.here hx rfl (hb hby at_39) rfl ?_
    show Steps p.tables e below (T7.setTop (mkF m 40 #[.val (.int p0), .val (.int p1), .val (.int p2), .val (.int p3), .val (.ref b1), .unset, .unset, .unset, .unset, .unset, .unset, .unset, .unset, .unset, .unset] [(.int ((f0_v2 p0 p1 p2 p3) &&& (3 : Int32))), (.int (3 : Int32)), (.ref b1)])) _
    refine st9 _ ?_
    show Steps p.tables e below (T9.setTop (mkF m 41 #[.val (.int p0), .val (.int p1), .val (.int p2), .val (.int p3), .val (.ref b1), .unset, .unset, .unset, .unset, .unset, .unset, .unset, .unset, .unset, .unset] [])) _
    refine XS.aload X9.here hx rfl (hb hby at_41) rfl rfl ?_
    show Steps p.tables e below (T9.setTop (mkF m 43 #[.val (.int p0), .val (.int p1), .val (.int p2), .val (.int p3), .val (.ref b1), .unset, .unset, .unset, .unset, .unset, .unset, .unset, .unset, .unset, .unset] [(.ref b1)])) _
    refine XS.iconst X9.here hx rfl (hb hby at_43) ?_
    show Steps p.tables e below (T9.setTop (mkF m 44 #[.val (.int p0), .val (.int p1), .val (.int p2), .val (.int p3), .val (.ref b1), .unset, .unset, .unset, .unset, .unset, .unset, .unset, .unset, .unset, .unset] [(.int (4 : Int32)), (.ref b1)])) _
    refine XS.iloadN X9.here hx rfl (hb hby at_44) rfl ?_
    show Steps p.tables e below (T9.setTop (mkF m 45 #[.val (.int p0), .val (.int p1), .val (.int p2), .val (.int p3), .val (.ref b1), .unset, .unset, .unset, .unset, .unset, .unset, .unset, .unset, .unset, .unset] [(.int p0), (.int (4 : Int32)), (.ref b1)])) _
    refine XS.bipush X9.here hx rfl (hb hby at_45) ?_
    show Steps p.tables e below (T9.setTop (mkF m 47 #[.val (.int p0), .val (.int p1), .val (.int p2), .val (.int p3), .val (.ref b1), .unset, .unset, .unset, .unset, .unset, .unset, .unset, .unset, .unset, .unset] [(.int (8 : Int32)), (.int p0), (.int (4 : Int32)), (.ref b1)])) _
    refine XS.iushr X9.here hx rfl (hb hby at_47) rfl ?_
    show Steps p.tables e below (T9.setTop (mkF m 48 #[.val (.int p0), .val (.int p1), .val (.int p2), .val (.int p3), .val (.ref b1), .unset, .unset, .unset, .unset, .unset, .unset, .unset, .unset, .unset, .unset] [(.int (f0_v3 p0 p1 p2 p3)), (.int (4 : Int32)), (.ref b1)])) _
    refine XS.iconst X9.here hx rfl (hb hby at_48) ?_
    show Steps p.tables e below (T9.setTop (mkF m 49 #[.val (.int p0), .val (.int p1), .val (.int p2), .val (.int p3), .val (.ref b1), .unset, .unset, .unset, .unset, .unset, .unset, .unset, .unset, .unset, .unset] [(.int (3 : Int32)), (.int (f0_v3 p0 p1 p2 p3)), (.int (4 : Int32)), (.ref b1)])) _
    refine XS.iand X9.here hx rfl (hb hby at_49) rfl ?_
    show Steps p.tables e below (T9.setTop (mkF m 50 #[.val (.int p0), .val (.int p1), .val (.int p2), .val (.int p3), .val (.ref b1), .unset, .unset, .unset, .unset, .unset, .unset, .unset, .unset, .unset, .unset] [(.int ((f0_v3 p0 p1 p2 p3) &&& (3 : Int32))), (.int (4 : Int32)), (.ref b1)])) _
    refine st11 _ ?_
    show Steps p.tables e below (T11.setTop (mkF m 51 #[.val (.int p0), .val (.int p1), .val (.int p2), .val (.int p3), .val (.ref b1), .unset, .unset, .unset, .unset, .unset, .unset, .unset, .unset, .unset, .unset] [])) _
    refine XS.aload X11.here hx rfl (hb hby at_51) rfl rfl ?_
    show Steps p.tables e below (T11.setTop (mkF m 53 #[.val (.int p0), .val (.int p1), .val (.int p2), .val (.int p3), .val (.ref b1), .unset, .unset, .unset, .unset, .unset, .unset, .unset, .unset, .unset, .unset] [(.ref b1)])) _
    refine XS.iconst X11.here hx rfl (hb hby at_53) ?_
    show Steps p.tables e below (T11.setTop (mkF m 54 #[.val (.int p0), .val (.int p1), .val (.int p2), .val (.int p3), .val (.ref b1), .unset, .unset, .unset, .unset, .unset, .unset, .unset, .unset, .unset, .unset] [(.int (5 : Int32)), (.ref b1)])) _
    refine XS.iloadN X11.here hx rfl (hb hby at_54) rfl ?_
    show Steps p.tables e below (T11.setTop (mkF m 55 #[.val (.int p0), .val (.int p1), .val (.int p2), .val (.int p3), .val (.ref b1), .unset, .unset, .unset, .unset, .unset, .unset, .unset, .unset, .unset, .unset] [(.int p0), (.int (5 : Int32)), (.ref b1)])) _
    refine XS.bipush X11.here hx rfl (hb hby at_55) ?_
    show Steps p.tables e below (T11.setTop (mkF m 57 #[.val (.int p0), .val (.int p1), .val (.int p2), .val (.int p3), .val (.ref b1), .unset, .unset, .unset, .unset, .unset, .unset, .unset, .unset, .unset, .unset] [(.int (10 : Int32)), (.int p0), (.int (5 : Int32)), (.ref b1)])) _
    refine XS.iushr X11.here hx rfl (hb hby at_57) rfl ?_
    show Steps p.tables e below (T11.setTop (mkF m 58 #[.val (.int p0), .val (.int p1), .val (.int p2), .val (.int p3), .val (.ref b1), .unset, .unset, .unset, .unset, .unset, .unset, .unset, .unset, .unset, .unset] [(.int (f0_v4 p0 p1 p2 p3)), (.int (5 : Int32)), (.ref b1)])) _
    refine XS.iconst X11.here hx rfl (hb hby at_58) ?_
    show Steps p.tables e below (T11.setTop (mkF m 59 #[.val (.int p0), .val (.int p1), .val (.int p2), .val (.int p3), .val (.ref b1), .unset, .unset, .unset, .unset, .unset, .unset, .unset, .unset, .unset, .unset] [(.int (3 : Int32)), (.int (f0_v4 p0 p1 p2 p3)), (.int (5 : Int32)), (.ref b1)])) _
    refine XS.iand X11.here hx rfl (hb hby at_59) rfl ?_
    show Steps p.tables e below (T11.setTop (mkF m 60 #[.val (.int p0), .val (.int p1), .val (.int p2), .val (.int p3), .val (.ref b1), .unset, .unset, .unset, .unset, .unset, .unset, .unset, .unset, .unset, .unset] [(.int ((f0_v4 p0 p1 p2 p3) &&& (3 : Int32))), (.int (5 : Int32)), (.ref b1)])) _
    refine st13 _ ?_
    show Steps p.tables e below (T13.setTop (mkF m 61 #[.val (.int p0), .val (.int p1), .val (.int p2), .val (.int p3), .val (.ref b1), .unset, .unset, .unset, .unset, .unset, .unset, .unset, .unset, .unset, .unset] [])) _
    refine XS.aload X13.here hx rfl (hb hby at_61) rfl rfl ?_
    show Steps p.tables e below (T13.setTop (mkF m 63 #[.val (.int p0), .val (.int p1), .val (.int p2), .val (.int p3), .val (.ref b1), .unset, .unset, .unset, .unset, .unset, .unset, .unset, .unset, .unset, .unset] [(.ref b1)])) _
    refine XS.bipush X13.here hx rfl (hb hby at_63) ?_
    show Steps p.tables e below (T13.setTop (mkF m 65 #[.val (.int p0), .val (.int p1), .val (.int p2), .val (.int p3), .val (.ref b1), .unset, .unset, .unset, .unset, .unset, .unset, .unset, .unset, .unset, .unset] [(.int (6 : Int32)), (.ref b1)])) _
    refine XS.iloadN X13.here hx rfl (hb hby at_65) rfl ?_
    show Steps p.tables e below (T13.setTop (mkF m 66 #[.val (.int p0), .val (.int p1), .val (.int p2), .val (.int p3), .val (.ref b1), .unset, .unset, .unset, .unset, .unset, .unset, .unset, .unset, .unset, .unset] [(.int p0), (.int (6 : Int32)), (.ref b1)])) _
    refine XS.bipush X13.here hx rfl (hb hby at_66) ?_
    show Steps p.tables e below (T13.setTop (mkF m 68 #[.val (.int p0), .val (.int p1), .val (.int p2), .val (.int p3), .val (.ref b1), .unset, .unset, .unset, .unset, .unset, .unset, .unset, .unset, .unset, .unset] [(.int (12 : Int32)), (.int p0), (.int (6 : Int32)), (.ref b1)])) _
    refine XS.iushr X13.here hx rfl (hb hby at_68) rfl ?_
    show Steps p.tables e below (T13.setTop (mkF m 69 #[.val (.int p0), .val (.int p1), .val (.int p2), .val (.int p3), .val (.ref b1), .unset, .unset, .unset, .unset, .unset, .unset, .unset, .unset, .unset, .unset] [(.int (f0_v5 p0 p1 p2 p3)), (.int (6 : Int32)), (.ref b1)])) _
    refine XS.iconst X13.here hx rfl (hb hby at_69) ?_
    show Steps p.tables e below (T13.setTop (mkF m 70 #[.val (.int p0), .val (.int p1), .val (.int p2), .val (.int p3), .val (.ref b1), .unset, .unset, .unset, .unset, .unset, .unset, .unset, .unset, .unset, .unset] [(.int (3 : Int32)), (.int (f0_v5 p0 p1 p2 p3)), (.int (6 : Int32)), (.ref b1)])) _
    refine XS.iand X13.here hx rfl (hb hby at_70) rfl ?_
    show Steps p.tables e below (T13.setTop (mkF m 71 #[.val (.int p0), .val (.int p1), .val (.int p2), .val (.int p3), .val (.ref b1), .unset, .unset, .unset, .unset, .unset, .unset, .unset, .unset, .unset, .unset] [(.int ((f0_v5 p0 p1 p2 p3) &&& (3 : Int32))), (.int (6 : Int32)), (.ref b1)])) _
    refine st15 _ ?_
    show Steps p.tables e below (T15.setTop (mkF m 72 #[.val (.int p0), .val (.int p1), .val (.int p2), .val (.int p3), .val (.ref b1), .unset, .unset, .unset, .unset, .unset, .unset, .unset, .unset, .unset, .unset] [])) _
    refine XS.aload X15.here hx rfl (hb hby at_72) rfl rfl ?_
    show Steps p.tables e below (T15.setTop (mkF m 74 #[.val (.int p0), .val (.int p1), .val (.int p2), .val (.int p3), .val (.ref b1), .unset, .unset, .unset, .unset, .unset, .unset, .unset, .unset, .unset, .unset] [(.ref b1)])) _
    refine XS.bipush X15.here hx rfl (hb hby at_74) ?_
    show Steps p.tables e below (T15.setTop (mkF m 76 #[.val (.int p0), .val (.int p1), .val (.int p2), .val (.int p3), .val (.ref b1), .unset, .unset, .unset, .unset, .unset, .unset, .unset, .unset, .unset, .unset] [(.int (7 : Int32)), (.ref b1)])) _
    refine XS.bipush X15.here hx rfl (hb hby at_76) ?_
    show Steps p.tables e below (T15.setTop (mkF m 78 #[.val (.int p0), .val (.int p1), .val (.int p2), .val (.int p3), .val (.ref b1), .unset, .unset, .unset, .unset, .unset, .unset, .unset, .unset, .unset, .unset] [(.int (21 : Int32)), (.int (7 : Int32)), (.ref b1)])) _
    refine XS.aload X15.here hx rfl (hb hby at_78) rfl rfl ?_
    show Steps p.tables e below (T15.setTop (mkF m 80 #[.val (.int p0), .val (.int p1), .val (.int p2), .val (.int p3), .val (.ref b1), .unset, .unset, .unset, .unset, .unset, .unset, .unset, .unset, .unset, .unset] [(.ref b1), (.int (21 : Int32)), (.int (7 : Int32)), (.ref b1)])) _
    refine XS.iconst X15.here hx rfl (hb hby at_80) ?_
    show Steps p.tables e below (T15.setTop (mkF m 81 #[.val (.int p0), .val (.int p1), .val (.int p2), .val (.int p3), .val (.ref b1), .unset, .unset, .unset, .unset, .unset, .unset, .unset, .unset, .unset, .unset] [(.int (0 : Int32)), (.ref b1), (.int (21 : Int32)), (.int (7 : Int32)), (.ref b1)])) _
    refine X15.iaload hx (j := (0 : Int32)) (v := (.int (p0 &&& (3 : Int32)))) (by rw [e15]; exact Ar16.1) (State.isArrayOf_alike hZ.alike Ar16.2.1) Ar16.2.2 hin16 hat16 (g := (mkF m 81 #[.val (.int p0), .val (.int p1), .val (.int p2), .val (.int p3), .val (.ref b1), .unset, .unset, .unset, .unset, .unset, .unset, .unset, .unset, .unset, .unset] [(.int (0 : Int32)), (.ref b1), (.int (21 : Int32)), (.int (7 : Int32)), (.ref b1)])) rfl rfl (hb hby at_81) _ ?_
    show Steps p.tables e below (T15.setTop (mkF m 82 #[.val (.int p0), .val (.int p1), .val (.int p2), .val (.int p3), .val (.ref b1), .unset, .unset, .unset, .unset, .unset, .unset, .unset, .unset, .unset, .unset] [(.int (p0 &&& (3 : Int32))), (.int (21 : Int32)), (.int (7 : Int32)), (.ref b1)])) _
    refine XS.aload X15.here hx rfl (hb hby at_82) rfl rfl ?_
    show Steps p.tables e below (T15.setTop (mkF m 84 #[.val (.int p0), .val (.int p1), .val (.int p2), .val (.int p3), .val (.ref b1), .unset, .unset, .unset, .unset, .unset, .unset, .unset, .unset, .unset, .unset] [(.ref b1), (.int (p0 &&& (3 : Int32))), (.int (21 : Int32)), (.int (7 : Int32)), (.ref b1)])) _
    refine XS.iconst X15.here hx rfl (hb hby at_84) ?_
    show Steps p.tables e below (T15.setTop (mkF m 85 #[.val (.int p0), .val (.int p1), .val (.int p2), .val (.int p3), .val (.ref b1), .unset, .unset, .unset, .unset, .unset, .unset, .unset, .unset, .unset, .unset] [(.int (1 : Int32)), (.ref b1), (.int (p0 &&& (3 : Int32))), (.int (21 : Int32)), (.int (7 : Int32)), (.ref b1)])) _
    refine X15.iaload hx (j := (1 : Int32)) (v := (.int ((f0_v0 p0 p1 p2 p3) &&& (3 : Int32)))) (by rw [e15]; exact Ar17.1) (State.isArrayOf_alike hZ.alike Ar17.2.1) Ar17.2.2 hin17 hat17 (g := (mkF m 85 #[.val (.int p0), .val (.int p1), .val (.int p2), .val (.int p3), .val (.ref b1), .unset, .unset, .unset, .unset, .unset, .unset, .unset, .unset, .unset, .unset] [(.int (1 : Int32)), (.ref b1), (.int (p0 &&& (3 : Int32))), (.int (21 : Int32)), (.int (7 : Int32)), (.ref b1)])) rfl rfl (hb hby at_85) _ ?_
    show Steps p.tables e below (T15.setTop (mkF m 86 #[.val (.int p0), .val (.int p1), .val (.int p2), .val (.int p3), .val (.ref b1), .unset, .unset, .unset, .unset, .unset, .unset, .unset, .unset, .unset, .unset] [(.int ((f0_v0 p0 p1 p2 p3) &&& (3 : Int32))), (.int (p0 &&& (3 : Int32))), (.int (21 : Int32)), (.int (7 : Int32)), (.ref b1)])) _
    refine XS.iadd X15.here hx rfl (hb hby at_86) rfl ?_
    show Steps p.tables e below (T15.setTop (mkF m 87 #[.val (.int p0), .val (.int p1), .val (.int p2), .val (.int p3), .val (.ref b1), .unset, .unset, .unset, .unset, .unset, .unset, .unset, .unset, .unset, .unset] [(.int (f0_v6 p0 p1 p2 p3)), (.int (21 : Int32)), (.int (7 : Int32)), (.ref b1)])) _
    refine XS.aload X15.here hx rfl (hb hby at_87) rfl rfl ?_
    show Steps p.tables e below (T15.setTop (mkF m 89 #[.val (.int p0), .val (.int p1), .val (.int p2), .val (.int p3), .val (.ref b1), .unset, .unset, .unset, .unset, .unset, .unset, .unset, .unset, .unset, .unset] [(.ref b1), (.int (f0_v6 p0 p1 p2 p3)), (.int (21 : Int32)), (.int (7 : Int32)), (.ref b1)])) _
    refine XS.iconst X15.here hx rfl (hb hby at_89) ?_
    show Steps p.tables e below (T15.setTop (mkF m 90 #[.val (.int p0), .val (.int p1), .val (.int p2), .val (.int p3), .val (.ref b1), .unset, .unset, .unset, .unset, .unset, .unset, .unset, .unset, .unset, .unset] [(.int (2 : Int32)), (.ref b1), (.int (f0_v6 p0 p1 p2 p3)), (.int (21 : Int32)), (.int (7 : Int32)), (.ref b1)])) _
    refine X15.iaload hx (j := (2 : Int32)) (v := (.int ((f0_v1 p0 p1 p2 p3) &&& (3 : Int32)))) (by rw [e15]; exact Ar18.1) (State.isArrayOf_alike hZ.alike Ar18.2.1) Ar18.2.2 hin18 hat18 (g := (mkF m 90 #[.val (.int p0), .val (.int p1), .val (.int p2), .val (.int p3), .val (.ref b1), .unset, .unset, .unset, .unset, .unset, .unset, .unset, .unset, .unset, .unset] [(.int (2 : Int32)), (.ref b1), (.int (f0_v6 p0 p1 p2 p3)), (.int (21 : Int32)), (.int (7 : Int32)), (.ref b1)])) rfl rfl (hb hby at_90) _ ?_
    show Steps p.tables e below (T15.setTop (mkF m 91 #[.val (.int p0), .val (.int p1), .val (.int p2), .val (.int p3), .val (.ref b1), .unset, .unset, .unset, .unset, .unset, .unset, .unset, .unset, .unset, .unset] [(.int ((f0_v1 p0 p1 p2 p3) &&& (3 : Int32))), (.int (f0_v6 p0 p1 p2 p3)), (.int (21 : Int32)), (.int (7 : Int32)), (.ref b1)])) _
    refine XS.iadd X15.here hx rfl (hb hby at_91) rfl ?_
    show Steps p.tables e below (T15.setTop (mkF m 92 #[.val (.int p0), .val (.int p1), .val (.int p2), .val (.int p3), .val (.ref b1), .unset, .unset, .unset, .unset, .unset, .unset, .unset, .unset, .unset, .unset] [(.int (f0_v7 p0 p1 p2 p3)), (.int (21 : Int32)), (.int (7 : Int32)), (.ref b1)])) _
    refine XS.aload X15.here hx rfl (hb hby at_92) rfl rfl ?_
    show Steps p.tables e below (T15.setTop (mkF m 94 #[.val (.int p0), .val (.int p1), .val (.int p2), .val (.int p3), .val (.ref b1), .unset, .unset, .unset, .unset, .unset, .unset, .unset, .unset, .unset, .unset] [(.ref b1), (.int (f0_v7 p0 p1 p2 p3)), (.int (21 : Int32)), (.int (7 : Int32)), (.ref b1)])) _
    refine XS.iconst X15.here hx rfl (hb hby at_94) ?_
    show Steps p.tables e below (T15.setTop (mkF m 95 #[.val (.int p0), .val (.int p1), .val (.int p2), .val (.int p3), .val (.ref b1), .unset, .unset, .unset, .unset, .unset, .unset, .unset, .unset, .unset, .unset] [(.int (3 : Int32)), (.ref b1), (.int (f0_v7 p0 p1 p2 p3)), (.int (21 : Int32)), (.int (7 : Int32)), (.ref b1)])) _
    refine X15.iaload hx (j := (3 : Int32)) (v := (.int ((f0_v2 p0 p1 p2 p3) &&& (3 : Int32)))) (by rw [e15]; exact Ar19.1) (State.isArrayOf_alike hZ.alike Ar19.2.1) Ar19.2.2 hin19 hat19 (g := (mkF m 95 #[.val (.int p0), .val (.int p1), .val (.int p2), .val (.int p3), .val (.ref b1), .unset, .unset, .unset, .unset, .unset, .unset, .unset, .unset, .unset, .unset] [(.int (3 : Int32)), (.ref b1), (.int (f0_v7 p0 p1 p2 p3)), (.int (21 : Int32)), (.int (7 : Int32)), (.ref b1)])) rfl rfl (hb hby at_95) _ ?_
    show Steps p.tables e below (T15.setTop (mkF m 96 #[.val (.int p0), .val (.int p1), .val (.int p2), .val (.int p3), .val (.ref b1), .unset, .unset, .unset, .unset, .unset, .unset, .unset, .unset, .unset, .unset] [(.int ((f0_v2 p0 p1 p2 p3) &&& (3 : Int32))), (.int (f0_v7 p0 p1 p2 p3)), (.int (21 : Int32)), (.int (7 : Int32)), (.ref b1)])) _
    refine XS.iadd X15.here hx rfl (hb hby at_96) rfl ?_
    show Steps p.tables e below (T15.setTop (mkF m 97 #[.val (.int p0), .val (.int p1), .val (.int p2), .val (.int p3), .val (.ref b1), .unset, .unset, .unset, .unset, .unset, .unset, .unset, .unset, .unset, .unset] [(.int (f0_v8 p0 p1 p2 p3)), (.int (21 : Int32)), (.int (7 : Int32)), (.ref b1)])) _
    refine XS.aload X15.here hx rfl (hb hby at_97) rfl rfl ?_
    show Steps p.tables e below (T15.setTop (mkF m 99 #[.val (.int p0), .val (.int p1), .val (.int p2), .val (.int p3), .val (.ref b1), .unset, .unset, .unset, .unset, .unset, .unset, .unset, .unset, .unset, .unset] [(.ref b1), (.int (f0_v8 p0 p1 p2 p3)), (.int (21 : Int32)), (.int (7 : Int32)), (.ref b1)])) _
    refine XS.iconst X15.here hx rfl (hb hby at_99) ?_
    show Steps p.tables e below (T15.setTop (mkF m 100 #[.val (.int p0), .val (.int p1), .val (.int p2), .val (.int p3), .val (.ref b1), .unset, .unset, .unset, .unset, .unset, .unset, .unset, .unset, .unset, .unset] [(.int (4 : Int32)), (.ref b1), (.int (f0_v8 p0 p1 p2 p3)), (.int (21 : Int32)), (.int (7 : Int32)), (.ref b1)])) _
    refine X15.iaload hx (j := (4 : Int32)) (v := (.int ((f0_v3 p0 p1 p2 p3) &&& (3 : Int32)))) (by rw [e15]; exact Ar20.1) (State.isArrayOf_alike hZ.alike Ar20.2.1) Ar20.2.2 hin20 hat20 (g := (mkF m 100 #[.val (.int p0), .val (.int p1), .val (.int p2), .val (.int p3), .val (.ref b1), .unset, .unset, .unset, .unset, .unset, .unset, .unset, .unset, .unset, .unset] [(.int (4 : Int32)), (.ref b1), (.int (f0_v8 p0 p1 p2 p3)), (.int (21 : Int32)), (.int (7 : Int32)), (.ref b1)])) rfl rfl (hb hby at_100) _ ?_
    show Steps p.tables e below (T15.setTop (mkF m 101 #[.val (.int p0), .val (.int p1), .val (.int p2), .val (.int p3), .val (.ref b1), .unset, .unset, .unset, .unset, .unset, .unset, .unset, .unset, .unset, .unset] [(.int ((f0_v3 p0 p1 p2 p3) &&& (3 : Int32))), (.int (f0_v8 p0 p1 p2 p3)), (.int (21 : Int32)), (.int (7 : Int32)), (.ref b1)])) _
    refine XS.iadd X15.here hx rfl (hb hby at_101) rfl ?_
    show Steps p.tables e below (T15.setTop (mkF m 102 #[.val (.int p0), .val (.int p1), .val (.int p2), .val (.int p3), .val (.ref b1), .unset, .unset, .unset, .unset, .unset, .unset, .unset, .unset, .unset, .unset] [(.int (f0_v9 p0 p1 p2 p3)), (.int (21 : Int32)), (.int (7 : Int32)), (.ref b1)])) _
    refine XS.aload X15.here hx rfl (hb hby at_102) rfl rfl ?_
    show Steps p.tables e below (T15.setTop (mkF m 104 #[.val (.int p0), .val (.int p1), .val (.int p2), .val (.int p3), .val (.ref b1), .unset, .unset, .unset, .unset, .unset, .unset, .unset, .unset, .unset, .unset] [(.ref b1), (.int (f0_v9 p0 p1 p2 p3)), (.int (21 : Int32)), (.int (7 : Int32)), (.ref b1)])) _
    refine XS.iconst X15.here hx rfl (hb hby at_104) ?_
    show Steps p.tables e below (T15.setTop (mkF m 105 #[.val (.int p0), .val (.int p1), .val (.int p2), .val (.int p3), .val (.ref b1), .unset, .unset, .unset, .unset, .unset, .unset, .unset, .unset, .unset, .unset] [(.int (5 : Int32)), (.ref b1), (.int (f0_v9 p0 p1 p2 p3)), (.int (21 : Int32)), (.int (7 : Int32)), (.ref b1)])) _
    refine X15.iaload hx (j := (5 : Int32)) (v := (.int ((f0_v4 p0 p1 p2 p3) &&& (3 : Int32)))) (by rw [e15]; exact Ar21.1) (State.isArrayOf_alike hZ.alike Ar21.2.1) Ar21.2.2 hin21 hat21 (g := (mkF m 105 #[.val (.int p0), .val (.int p1), .val (.int p2), .val (.int p3), .val (.ref b1), .unset, .unset, .unset, .unset, .unset, .unset, .unset, .unset, .unset, .unset] [(.int (5 : Int32)), (.ref b1), (.int (f0_v9 p0 p1 p2 p3)), (.int (21 : Int32)), (.int (7 : Int32)), (.ref b1)])) rfl rfl (hb hby at_105) _ ?_
    show Steps p.tables e below (T15.setTop (mkF m 106 #[.val (.int p0), .val (.int p1), .val (.int p2), .val (.int p3), .val (.ref b1), .unset, .unset, .unset, .unset, .unset, .unset, .unset, .unset, .unset, .unset] [(.int ((f0_v4 p0 p1 p2 p3) &&& (3 : Int32))), (.int (f0_v9 p0 p1 p2 p3)), (.int (21 : Int32)), (.int (7 : Int32)), (.ref b1)])) _
    refine XS.iadd X15.here hx rfl (hb hby at_106) rfl ?_
    show Steps p.tables e below (T15.setTop (mkF m 107 #[.val (.int p0), .val (.int p1), .val (.int p2), .val (.int p3), .val (.ref b1), .unset, .unset, .unset, .unset, .unset, .unset, .unset, .unset, .unset, .unset] [(.int (f0_v10 p0 p1 p2 p3)), (.int (21 : Int32)), (.int (7 : Int32)), (.ref b1)])) _
    refine XS.aload X15.here hx rfl (hb hby at_107) rfl rfl ?_
    show Steps p.tables e below (T15.setTop (mkF m 109 #[.val (.int p0), .val (.int p1), .val (.int p2), .val (.int p3), .val (.ref b1), .unset, .unset, .unset, .unset, .unset, .unset, .unset, .unset, .unset, .unset] [(.ref b1), (.int (f0_v10 p0 p1 p2 p3)), (.int (21 : Int32)), (.int (7 : Int32)), (.ref b1)])) _
    refine XS.bipush X15.here hx rfl (hb hby at_109) ?_
    show Steps p.tables e below (T15.setTop (mkF m 111 #[.val (.int p0), .val (.int p1), .val (.int p2), .val (.int p3), .val (.ref b1), .unset, .unset, .unset, .unset, .unset, .unset, .unset, .unset, .unset, .unset] [(.int (6 : Int32)), (.ref b1), (.int (f0_v10 p0 p1 p2 p3)), (.int (21 : Int32)), (.int (7 : Int32)), (.ref b1)])) _
    refine X15.iaload hx (j := (6 : Int32)) (v := (.int ((f0_v5 p0 p1 p2 p3) &&& (3 : Int32)))) (by rw [e15]; exact Ar22.1) (State.isArrayOf_alike hZ.alike Ar22.2.1) Ar22.2.2 hin22 hat22 (g := (mkF m 111 #[.val (.int p0), .val (.int p1), .val (.int p2), .val (.int p3), .val (.ref b1), .unset, .unset, .unset, .unset, .unset, .unset, .unset, .unset, .unset, .unset] [(.int (6 : Int32)), (.ref b1), (.int (f0_v10 p0 p1 p2 p3)), (.int (21 : Int32)), (.int (7 : Int32)), (.ref b1)])) rfl rfl (hb hby at_111) _ ?_
    show Steps p.tables e below (T15.setTop (mkF m 112 #[.val (.int p0), .val (.int p1), .val (.int p2), .val (.int p3), .val (.ref b1), .unset, .unset, .unset, .unset, .unset, .unset, .unset, .unset, .unset, .unset] [(.int ((f0_v5 p0 p1 p2 p3) &&& (3 : Int32))), (.int (f0_v10 p0 p1 p2 p3)), (.int (21 : Int32)), (.int (7 : Int32)), (.ref b1)])) _
    refine XS.iadd X15.here hx rfl (hb hby at_112) rfl ?_
    show Steps p.tables e below (T15.setTop (mkF m 113 #[.val (.int p0), .val (.int p1), .val (.int p2), .val (.int p3), .val (.ref b1), .unset, .unset, .unset, .unset, .unset, .unset, .unset, .unset, .unset, .unset] [(.int (f0_v11 p0 p1 p2 p3)), (.int (21 : Int32)), (.int (7 : Int32)), (.ref b1)])) _
    refine XS.isub X15.here hx rfl (hb hby at_113) rfl ?_
    show Steps p.tables e below (T15.setTop (mkF m 114 #[.val (.int p0), .val (.int p1), .val (.int p2), .val (.int p3), .val (.ref b1), .unset, .unset, .unset, .unset, .unset, .unset, .unset, .unset, .unset, .unset] [(.int ((21 : Int32) - (f0_v11 p0 p1 p2 p3))), (.int (7 : Int32)), (.ref b1)])) _
    refine st24 _ ?_
    show Steps p.tables e below (T24.setTop (mkF m 115 #[.val (.int p0), .val (.int p1), .val (.int p2), .val (.int p3), .val (.ref b1), .unset, .unset, .unset, .unset, .unset, .unset, .unset, .unset, .unset, .unset] [])) _
    refine XS.bipush X24.here hx rfl (hb hby at_115) ?_
    show Steps p.tables e below (T24.setTop (mkF m 117 #[.val (.int p0), .val (.int p1), .val (.int p2), .val (.int p3), .val (.ref b1), .unset, .unset, .unset, .unset, .unset, .unset, .unset, .unset, .unset, .unset] [(.int (9 : Int32))])) _
    refine st25 _ ?_
    show Steps p.tables e below (T25.setTop (mkF m 119 #[.val (.int p0), .val (.int p1), .val (.int p2), .val (.int p3), .val (.ref b1), .unset, .unset, .unset, .unset, .unset, .unset, .unset, .unset, .unset, .unset] [(.ref b25)])) _
    refine XS.astore X25.here hx rfl (hb hby at_119) rfl rfl (l' := #[.val (.int p0), .val (.int p1), .val (.int p2), .val (.int p3), .val (.ref b1), .val (.ref b25), .unset, .unset, .unset, .unset, .unset, .unset, .unset, .unset, .unset]) rfl ?_
    show Steps p.tables e below (T25.setTop (mkF m 121 #[.val (.int p0), .val (.int p1), .val (.int p2), .val (.int p3), .val (.ref b1), .val (.ref b25), .unset, .unset, .unset, .unset, .unset, .unset, .unset, .unset, .unset] [])) _
    refine XS.aload X25.here hx rfl (hb hby at_121) rfl rfl ?_
    show Steps p.tables e below (T25.setTop (mkF m 123 #[.val (.int p0), .val (.int p1), .val (.int p2), .val (.int p3), .val (.ref b1), .val (.ref b25), .unset, .unset, .unset, .unset, .unset, .unset, .unset, .unset, .unset] [(.ref b25)])) _
    refine XS.iconst X25.here hx rfl (hb hby at_123) ?_
    show Steps p.tables e below (T25.setTop (mkF m 124 #[.val (.int p0), .val (.int p1), .val (.int p2), .val (.int p3), .val (.ref b1), .val (.ref b25), .unset, .unset, .unset, .unset, .unset, .unset, .unset, .unset, .unset] [(.int (0 : Int32)), (.ref b25)])) _
    refine XS.iconst X25.here hx rfl (hb hby at_124) ?_
    show Steps p.tables e below (T25.setTop (mkF m 125 #[.val (.int p0), .val (.int p1), .val (.int p2), .val (.int p3), .val (.ref b1), .val (.ref b25), .unset, .unset, .unset, .unset, .unset, .unset, .unset, .unset, .unset] [(.int (0 : Int32)), (.int (0 : Int32)), (.ref b25)])) _
    refine st27 _ ?_
    show Steps p.tables e below (T27.setTop (mkF m 126 #[.val (.int p0), .val (.int p1), .val (.int p2), .val (.int p3), .val (.ref b1), .val (.ref b25), .unset, .unset, .unset, .unset, .unset, .unset, .unset, .unset, .unset] [])) _
    refine XS.aload X27.here hx rfl (hb hby at_126) rfl rfl ?_
    show Steps p.tables e below (T27.setTop (mkF m 128 #[.val (.int p0), .val (.int p1), .val (.int p2), .val (.int p3), .val (.ref b1), .val (.ref b25), .unset, .unset, .unset, .unset, .unset, .unset, .unset, .unset, .unset] [(.ref b25)])) _
    refine XS.iconst X27.here hx rfl (hb hby at_128) ?_
    show Steps p.tables e below (T27.setTop (mkF m 129 #[.val (.int p0), .val (.int p1), .val (.int p2), .val (.int p3), .val (.ref b1), .val (.ref b25), .unset, .unset, .unset, .unset, .unset, .unset, .unset, .unset, .unset] [(.int (1 : Int32)), (.ref b25)])) _
    refine XS.aload X27.here hx rfl (hb hby at_129) rfl rfl ?_
    show Steps p.tables e below (T27.setTop (mkF m 131 #[.val (.int p0), .val (.int p1), .val (.int p2), .val (.int p3), .val (.ref b1), .val (.ref b25), .unset, .unset, .unset, .unset, .unset, .unset, .unset, .unset, .unset] [(.ref b25), (.int (1 : Int32)), (.ref b25)])) _
    refine XS.iconst X27.here hx rfl (hb hby at_131) ?_
    show Steps p.tables e below (T27.setTop (mkF m 132 #[.val (.int p0), .val (.int p1), .val (.int p2), .val (.int p3), .val (.ref b1), .val (.ref b25), .unset, .unset, .unset, .unset, .unset, .unset, .unset, .unset, .unset] [(.int (0 : Int32)), (.ref b25), (.int (1 : Int32)), (.ref b25)])) _
    refine X27.iaload hx (j := (0 : Int32)) (v := (.int (0 : Int32))) (by rw [e27]; exact Ar28.1) (State.isArrayOf_alike hZ.alike Ar28.2.1) Ar28.2.2 hin28 hat28 (g := (mkF m 132 #[.val (.int p0), .val (.int p1), .val (.int p2), .val (.int p3), .val (.ref b1), .val (.ref b25), .unset, .unset, .unset, .unset, .unset, .unset, .unset, .unset, .unset] [(.int (0 : Int32)), (.ref b25), (.int (1 : Int32)), (.ref b25)])) rfl rfl (hb hby at_132) _ ?_
    show Steps p.tables e below (T27.setTop (mkF m 133 #[.val (.int p0), .val (.int p1), .val (.int p2), .val (.int p3), .val (.ref b1), .val (.ref b25), .unset, .unset, .unset, .unset, .unset, .unset, .unset, .unset, .unset] [(.int (0 : Int32)), (.int (1 : Int32)), (.ref b25)])) _
    refine XS.aload X27.here hx rfl (hb hby at_133) rfl rfl ?_
    show Steps p.tables e below (T27.setTop (mkF m 135 #[.val (.int p0), .val (.int p1), .val (.int p2), .val (.int p3), .val (.ref b1), .val (.ref b25), .unset, .unset, .unset, .unset, .unset, .unset, .unset, .unset, .unset] [(.ref b1), (.int (0 : Int32)), (.int (1 : Int32)), (.ref b25)])) _
    refine XS.iconst X27.here hx rfl (hb hby at_135) ?_
    show Steps p.tables e below (T27.setTop (mkF m 136 #[.val (.int p0), .val (.int p1), .val (.int p2), .val (.int p3), .val (.ref b1), .val (.ref b25), .unset, .unset, .unset, .unset, .unset, .unset, .unset, .unset, .unset] [(.int (0 : Int32)), (.ref b1), (.int (0 : Int32)), (.int (1 : Int32)), (.ref b25)])) _
    refine X27.iaload hx (j := (0 : Int32)) (v := (.int (p0 &&& (3 : Int32)))) (by rw [e27]; exact Ar30.1) (State.isArrayOf_alike hZ.alike Ar30.2.1) Ar30.2.2 hin30 hat30 (g := (mkF m 136 #[.val (.int p0), .val (.int p1), .val (.int p2), .val (.int p3), .val (.ref b1), .val (.ref b25), .unset, .unset, .unset, .unset, .unset, .unset, .unset, .unset, .unset] [(.int (0 : Int32)), (.ref b1), (.int (0 : Int32)), (.int (1 : Int32)), (.ref b25)])) rfl rfl (hb hby at_136) _ ?_
    show Steps p.tables e below (T27.setTop (mkF m 137 #[.val (.int p0), .val (.int p1), .val (.int p2), .val (.int p3), .val (.ref b1), .val (.ref b25), .unset, .unset, .unset, .unset, .unset, .unset, .unset, .unset, .unset] [(.int (p0 &&& (3 : Int32))), (.int (0 : Int32)), (.int (1 : Int32)), (.ref b25)])) _
    refine XS.iadd X27.here hx rfl (hb hby at_137) rfl ?_
    show Steps p.tables e below (T27.setTop (mkF m 138 #[.val (.int p0), .val (.int p1), .val (.int p2), .val (.int p3), .val (.ref b1), .val (.ref b25), .unset, .unset, .unset, .unset, .unset, .unset, .unset, .unset, .unset] [(.int ((0 : Int32) + (p0 &&& (3 : Int32)))), (.int (1 : Int32)), (.ref b25)])) _
    refine st32 _ ?_
    show Steps p.tables e below (T32.setTop (mkF m 139 #[.val (.int p0), .val (.int p1), .val (.int p2), .val (.int p3), .val (.ref b1), .val (.ref b25), .unset, .unset, .unset, .unset, .unset, .unset, .unset, .unset, .unset] [])) _
    refine XS.aload X32.here hx rfl (hb hby at_139) rfl rfl ?_
    show Steps p.tables e below (T32.setTop (mkF m 141 #[.val (.int p0), .val (.int p1), .val (.int p2), .val (.int p3), .val (.ref b1), .val (.ref b25), .unset, .unset, .unset, .unset, .unset, .unset, .unset, .unset, .unset] [(.ref b25)])) _
    refine XS.iconst X32.here hx rfl (hb hby at_141) ?_
    show Steps p.tables e below (T32.setTop (mkF m 142 #[.val (.int p0), .val (.int p1), .val (.int p2), .val (.int p3), .val (.ref b1), .val (.ref b25), .unset, .unset, .unset, .unset, .unset, .unset, .unset, .unset, .unset] [(.int (2 : Int32)), (.ref b25)])) _
    refine XS.aload X32.here hx rfl (hb hby at_142) rfl rfl ?_
    show Steps p.tables e below (T32.setTop (mkF m 144 #[.val (.int p0), .val (.int p1), .val (.int p2), .val (.int p3), .val (.ref b1), .val (.ref b25), .unset, .unset, .unset, .unset, .unset, .unset, .unset, .unset, .unset] [(.ref b25), (.int (2 : Int32)), (.ref b25)])) _
    refine XS.iconst X32.here hx rfl (hb hby at_144) ?_
    show Steps p.tables e below (T32.setTop (mkF m 145 #[.val (.int p0), .val (.int p1), .val (.int p2), .val (.int p3), .val (.ref b1), .val (.ref b25), .unset, .unset, .unset, .unset, .unset, .unset, .unset, .unset, .unset] [(.int (1 : Int32)), (.ref b25), (.int (2 : Int32)), (.ref b25)])) _
    refine X32.iaload hx (j := (1 : Int32)) (v := (.int ((0 : Int32) + (p0 &&& (3 : Int32))))) (by rw [e32]; exact Ar33.1) (State.isArrayOf_alike hZ.alike Ar33.2.1) Ar33.2.2 hin33 hat33 (g := (mkF m 145 #[.val (.int p0), .val (.int p1), .val (.int p2), .val (.int p3), .val (.ref b1), .val (.ref b25), .unset, .unset, .unset, .unset, .unset, .unset, .unset, .unset, .unset] [(.int (1 : Int32)), (.ref b25), (.int (2 : Int32)), (.ref b25)])) rfl rfl (hb hby at_145) _ ?_
    show Steps p.tables e below (T32.setTop (mkF m 146 #[.val (.int p0), .val (.int p1), .val (.int p2), .val (.int p3), .val (.ref b1), .val (.ref b25), .unset, .unset, .unset, .unset, .unset, .unset, .unset, .unset, .unset] [(.int ((0 : Int32) + (p0 &&& (3 : Int32)))), (.int (2 : Int32)), (.ref b25)])) _
    refine XS.aload X32.here hx rfl (hb hby at_146) rfl rfl ?_
    show Steps p.tables e below (T32.setTop (mkF m 148 #[.val (.int p0), .val (.int p1), .val (.int p2), .val (.int p3), .val (.ref b1), .val (.ref b25), .unset, .unset, .unset, .unset, .unset, .unset, .unset, .unset, .unset] [(.ref b1), (.int ((0 : Int32) + (p0 &&& (3 : Int32)))), (.int (2 : Int32)), (.ref b25)])) _
    refine XS.iconst X32.here hx rfl (hb hby at_148) ?_
    show Steps p.tables e below (T32.setTop (mkF m 149 #[.val (.int p0), .val (.int p1), .val (.int p2), .val (.int p3), .val (.ref b1), .val (.ref b25), .unset, .unset, .unset, .unset, .unset, .unset, .unset, .unset, .unset] [(.int (1 : Int32)), (.ref b1), (.int ((0 : Int32) + (p0 &&& (3 : Int32)))), (.int (2 : Int32)), (.ref b25)])) _
    refine X32.iaload hx (j := (1 : Int32)) (v := (.int ((f0_v0 p0 p1 p2 p3) &&& (3 : Int32)))) (by rw [e32]; exact Ar35.1) (State.isArrayOf_alike hZ.alike Ar35.2.1) Ar35.2.2 hin35 hat35 (g := (mkF m 149 #[.val (.int p0), .val (.int p1), .val (.int p2), .val (.int p3), .val (.ref b1), .val (.ref b25), .unset, .unset, .unset, .unset, .unset, .unset, .unset, .unset, .unset] [(.int (1 : Int32)), (.ref b1), (.int ((0 : Int32) + (p0 &&& (3 : Int32)))), (.int (2 : Int32)), (.ref b25)])) rfl rfl (hb hby at_149) _ ?_
    show Steps p.tables e below (T32.setTop (mkF m 150 #[.val (.int p0), .val (.int p1), .val (.int p2), .val (.int p3), .val (.ref b1), .val (.ref b25), .unset, .unset, .unset, .unset, .unset, .unset, .unset, .unset, .unset] [(.int ((f0_v0 p0 p1 p2 p3) &&& (3 : Int32))), (.int ((0 : Int32) + (p0 &&& (3 : Int32)))), (.int (2 : Int32)), (.ref b25)])) _
    refine XS.iadd X32.here hx rfl (hb hby at_150) rfl ?_
    show Steps p.tables e below (T32.setTop (mkF m 151 #[.val (.int p0), .val (.int p1), .val (.int p2), .val (.int p3), .val (.ref b1), .val (.ref b25), .unset, .unset, .unset, .unset, .unset, .unset, .unset, .unset, .unset] [(.int (f0_v12 p0 p1 p2 p3)), (.int (2 : Int32)), (.ref b25)])) _
    refine st37 _ ?_
    show Steps p.tables e below (T37.setTop (mkF m 152 #[.val (.int p0), .val (.int p1), .val (.int p2), .val (.int p3), .val (.ref b1), .val (.ref b25), .unset, .unset, .unset, .unset, .unset, .unset, .unset, .unset, .unset] [])) _
    refine XS.aload X37.here hx rfl (hb hby at_152) rfl rfl ?_
    show Steps p.tables e below (T37.setTop (mkF m 154 #[.val (.int p0), .val (.int p1), .val (.int p2), .val (.int p3), .val (.ref b1), .val (.ref b25), .unset, .unset, .unset, .unset, .unset, .unset, .unset, .unset, .unset] [(.ref b25)])) _
    refine XS.iconst X37.here hx rfl (hb hby at_154) ?_
    show Steps p.tables e below (T37.setTop (mkF m 155 #[.val (.int p0), .val (.int p1), .val (.int p2), .val (.int p3), .val (.ref b1), .val (.ref b25), .unset, .unset, .unset, .unset, .unset, .unset, .unset, .unset, .unset] [(.int (3 : Int32)), (.ref b25)])) _
    refine XS.aload X37.here hx rfl (hb hby at_155) rfl rfl ?_
    show Steps p.tables e below (T37.setTop (mkF m 157 #[.val (.int p0), .val (.int p1), .val (.int p2), .val (.int p3), .val (.ref b1), .val (.ref b25), .unset, .unset, .unset, .unset, .unset, .unset, .unset, .unset, .unset] [(.ref b25), (.int (3 : Int32)), (.ref b25)])) _
    refine XS.iconst X37.here hx rfl (hb hby at_157) ?_
    show Steps p.tables e below (T37.setTop (mkF m 158 #[.val (.int p0), .val (.int p1), .val (.int p2), .val (.int p3), .val (.ref b1), .val (.ref b25), .unset, .unset, .unset, .unset, .unset, .unset, .unset, .unset, .unset] [(.int (2 : Int32)), (.ref b25), (.int (3 : Int32)), (.ref b25)])) _
    refine X37.iaload hx (j := (2 : Int32)) (v := (.int (f0_v12 p0 p1 p2 p3))) (by rw [e37]; exact Ar38.1) (State.isArrayOf_alike hZ.alike Ar38.2.1) Ar38.2.2 hin38 hat38 (g := (mkF m 158 #[.val (.int p0), .val (.int p1), .val (.int p2), .val (.int p3), .val (.ref b1), .val (.ref b25), .unset, .unset, .unset, .unset, .unset, .unset, .unset, .unset, .unset] [(.int (2 : Int32)), (.ref b25), (.int (3 : Int32)), (.ref b25)])) rfl rfl (hb hby at_158) _ ?_
    show Steps p.tables e below (T37.setTop (mkF m 159 #[.val (.int p0), .val (.int p1), .val (.int p2), .val (.int p3), .val (.ref b1), .val (.ref b25), .unset, .unset, .unset, .unset, .unset, .unset, .unset, .unset, .unset] [(.int (f0_v12 p0 p1 p2 p3)), (.int (3 : Int32)), (.ref b25)])) _
    refine XS.aload X37.here hx rfl (hb hby at_159) rfl rfl ?_
    show Steps p.tables e below (T37.setTop (mkF m 161 #[.val (.int p0), .val (.int p1), .val (.int p2), .val (.int p3), .val (.ref b1), .val (.ref b25), .unset, .unset, .unset, .unset, .unset, .unset, .unset, .unset, .unset] [(.ref b1), (.int (f0_v12 p0 p1 p2 p3)), (.int (3 : Int32)), (.ref b25)])) _
    refine XS.iconst X37.here hx rfl (hb hby at_161) ?_
    show Steps p.tables e below (T37.setTop (mkF m 162 #[.val (.int p0), .val (.int p1), .val (.int p2), .val (.int p3), .val (.ref b1), .val (.ref b25), .unset, .unset, .unset, .unset, .unset, .unset, .unset, .unset, .unset] [(.int (2 : Int32)), (.ref b1), (.int (f0_v12 p0 p1 p2 p3)), (.int (3 : Int32)), (.ref b25)])) _
    refine X37.iaload hx (j := (2 : Int32)) (v := (.int ((f0_v1 p0 p1 p2 p3) &&& (3 : Int32)))) (by rw [e37]; exact Ar40.1) (State.isArrayOf_alike hZ.alike Ar40.2.1) Ar40.2.2 hin40 hat40 (g := (mkF m 162 #[.val (.int p0), .val (.int p1), .val (.int p2), .val (.int p3), .val (.ref b1), .val (.ref b25), .unset, .unset, .unset, .unset, .unset, .unset, .unset, .unset, .unset] [(.int (2 : Int32)), (.ref b1), (.int (f0_v12 p0 p1 p2 p3)), (.int (3 : Int32)), (.ref b25)])) rfl rfl (hb hby at_162) _ ?_
    show Steps p.tables e below (T37.setTop (mkF m 163 #[.val (.int p0), .val (.int p1), .val (.int p2), .val (.int p3), .val (.ref b1), .val (.ref b25), .unset, .unset, .unset, .unset, .unset, .unset, .unset, .unset, .unset] [(.int ((f0_v1 p0 p1 p2 p3) &&& (3 : Int32))), (.int (f0_v12 p0 p1 p2 p3)), (.int (3 : Int32)), (.ref b25)])) _
    refine XS.iadd X37.here hx rfl (hb hby at_163) rfl ?_
    show Steps p.tables e below (T37.setTop (mkF m 164 #[.val (.int p0), .val (.int p1), .val (.int p2), .val (.int p3), .val (.ref b1), .val (.ref b25), .unset, .unset, .unset, .unset, .unset, .unset, .unset, .unset, .unset] [(.int (f0_v13 p0 p1 p2 p3)), (.int (3 : Int32)), (.ref b25)])) _
    refine st42 _ ?_
    show Steps p.tables e below (T42.setTop (mkF m 165 #[.val (.int p0), .val (.int p1), .val (.int p2), .val (.int p3), .val (.ref b1), .val (.ref b25), .unset, .unset, .unset, .unset, .unset, .unset, .unset, .unset, .unset] [])) _
    refine XS.aload X42.here hx rfl (hb hby at_165) rfl rfl ?_
    show Steps p.tables e below (T42.setTop (mkF m 167 #[.val (.int p0), .val (.int p1), .val (.int p2), .val (.int p3), .val (.ref b1), .val (.ref b25), .unset, .unset, .unset, .unset, .unset, .unset, .unset, .unset, .unset] [(.ref b25)])) _
    refine XS.iconst X42.here hx rfl (hb hby at_167) ?_
    show Steps p.tables e below (T42.setTop (mkF m 168 #[.val (.int p0), .val (.int p1), .val (.int p2), .val (.int p3), .val (.ref b1), .val (.ref b25), .unset, .unset, .unset, .unset, .unset, .unset, .unset, .unset, .unset] [(.int (4 : Int32)), (.ref b25)])) _
    refine XS.aload X42.here hx rfl (hb hby at_168) rfl rfl ?_
    show Steps p.tables e below (T42.setTop (mkF m 170 #[.val (.int p0), .val (.int p1), .val (.int p2), .val (.int p3), .val (.ref b1), .val (.ref b25), .unset, .unset, .unset, .unset, .unset, .unset, .unset, .unset, .unset] [(.ref b25), (.int (4 : Int32)), (.ref b25)])) _
    refine XS.iconst X42.here hx rfl (hb hby at_170) ?_
    show Steps p.tables e below (T42.setTop (mkF m 171 #[.val (.int p0), .val (.int p1), .val (.int p2), .val (.int p3), .val (.ref b1), .val (.ref b25), .unset, .unset, .unset, .unset, .unset, .unset, .unset, .unset, .unset] [(.int (3 : Int32)), (.ref b25), (.int (4 : Int32)), (.ref b25)])) _
    refine X42.iaload hx (j := (3 : Int32)) (v := (.int (f0_v13 p0 p1 p2 p3))) (by rw [e42]; exact Ar43.1) (State.isArrayOf_alike hZ.alike Ar43.2.1) Ar43.2.2 hin43 hat43 (g := (mkF m 171 #[.val (.int p0), .val (.int p1), .val (.int p2), .val (.int p3), .val (.ref b1), .val (.ref b25), .unset, .unset, .unset, .unset, .unset, .unset, .unset, .unset, .unset] [(.int (3 : Int32)), (.ref b25), (.int (4 : Int32)), (.ref b25)])) rfl rfl (hb hby at_171) _ ?_
    show Steps p.tables e below (T42.setTop (mkF m 172 #[.val (.int p0), .val (.int p1), .val (.int p2), .val (.int p3), .val (.ref b1), .val (.ref b25), .unset, .unset, .unset, .unset, .unset, .unset, .unset, .unset, .unset] [(.int (f0_v13 p0 p1 p2 p3)), (.int (4 : Int32)), (.ref b25)])) _
    refine XS.aload X42.here hx rfl (hb hby at_172) rfl rfl ?_
    show Steps p.tables e below (T42.setTop (mkF m 174 #[.val (.int p0), .val (.int p1), .val (.int p2), .val (.int p3), .val (.ref b1), .val (.ref b25), .unset, .unset, .unset, .unset, .unset, .unset, .unset, .unset, .unset] [(.ref b1), (.int (f0_v13 p0 p1 p2 p3)), (.int (4 : Int32)), (.ref b25)])) _
    refine XS.iconst X42.here hx rfl (hb hby at_174) ?_
    show Steps p.tables e below (T42.setTop (mkF m 175 #[.val (.int p0), .val (.int p1), .val (.int p2), .val (.int p3), .val (.ref b1), .val (.ref b25), .unset, .unset, .unset, .unset, .unset, .unset, .unset, .unset, .unset] [(.int (3 : Int32)), (.ref b1), (.int (f0_v13 p0 p1 p2 p3)), (.int (4 : Int32)), (.ref b25)])) _
    refine X42.iaload hx (j := (3 : Int32)) (v := (.int ((f0_v2 p0 p1 p2 p3) &&& (3 : Int32)))) (by rw [e42]; exact Ar45.1) (State.isArrayOf_alike hZ.alike Ar45.2.1) Ar45.2.2 hin45 hat45 (g := (mkF m 175 #[.val (.int p0), .val (.int p1), .val (.int p2), .val (.int p3), .val (.ref b1), .val (.ref b25), .unset, .unset, .unset, .unset, .unset, .unset, .unset, .unset, .unset] [(.int (3 : Int32)), (.ref b1), (.int (f0_v13 p0 p1 p2 p3)), (.int (4 : Int32)), (.ref b25)])) rfl rfl (hb hby at_175) _ ?_
    show Steps p.tables e below (T42.setTop (mkF m 176 #[.val (.int p0), .val (.int p1), .val (.int p2), .val (.int p3), .val (.ref b1), .val (.ref b25), .unset, .unset, .unset, .unset, .unset, .unset, .unset, .unset, .unset] [(.int ((f0_v2 p0 p1 p2 p3) &&& (3 : Int32))), (.int (f0_v13 p0 p1 p2 p3)), (.int (4 : Int32)), (.ref b25)])) _
    refine XS.iadd X42.here hx rfl (hb hby at_176) rfl ?_
    show Steps p.tables e below (T42.setTop (mkF m 177 #[.val (.int p0), .val (.int p1), .val (.int p2), .val (.int p3), .val (.ref b1), .val (.ref b25), .unset, .unset, .unset, .unset, .unset, .unset, .unset, .unset, .unset] [(.int (f0_v14 p0 p1 p2 p3)), (.int (4 : Int32)), (.ref b25)])) _
    refine st47 _ ?_
    show Steps p.tables e below (T47.setTop (mkF m 178 #[.val (.int p0), .val (.int p1), .val (.int p2), .val (.int p3), .val (.ref b1), .val (.ref b25), .unset, .unset, .unset, .unset, .unset, .unset, .unset, .unset, .unset] [])) _
    refine XS.aload X47.here hx rfl (hb hby at_178) rfl rfl ?_
    show Steps p.tables e below (T47.setTop (mkF m 180 #[.val (.int p0), .val (.int p1), .val (.int p2), .val (.int p3), .val (.ref b1), .val (.ref b25), .unset, .unset, .unset, .unset, .unset, .unset, .unset, .unset, .unset] [(.ref b25)])) _
    refine XS.iconst X47.here hx rfl (hb hby at_180) ?_
    show Steps p.tables e below (T47.setTop (mkF m 181 #[.val (.int p0), .val (.int p1), .val (.int p2), .val (.int p3), .val (.ref b1), .val (.ref b25), .unset, .unset, .unset, .unset, .unset, .unset, .unset, .unset, .unset] [(.int (5 : Int32)), (.ref b25)])) _
    refine XS.aload X47.here hx rfl (hb hby at_181) rfl rfl ?_
    show Steps p.tables e below (T47.setTop (mkF m 183 #[.val (.int p0), .val (.int p1), .val (.int p2), .val (.int p3), .val (.ref b1), .val (.ref b25), .unset, .unset, .unset, .unset, .unset, .unset, .unset, .unset, .unset] [(.ref b25), (.int (5 : Int32)), (.ref b25)])) _
    refine XS.iconst X47.here hx rfl (hb hby at_183) ?_
    show Steps p.tables e below (T47.setTop (mkF m 184 #[.val (.int p0), .val (.int p1), .val (.int p2), .val (.int p3), .val (.ref b1), .val (.ref b25), .unset, .unset, .unset, .unset, .unset, .unset, .unset, .unset, .unset] [(.int (4 : Int32)), (.ref b25), (.int (5 : Int32)), (.ref b25)])) _
    refine X47.iaload hx (j := (4 : Int32)) (v := (.int (f0_v14 p0 p1 p2 p3))) (by rw [e47]; exact Ar48.1) (State.isArrayOf_alike hZ.alike Ar48.2.1) Ar48.2.2 hin48 hat48 (g := (mkF m 184 #[.val (.int p0), .val (.int p1), .val (.int p2), .val (.int p3), .val (.ref b1), .val (.ref b25), .unset, .unset, .unset, .unset, .unset, .unset, .unset, .unset, .unset] [(.int (4 : Int32)), (.ref b25), (.int (5 : Int32)), (.ref b25)])) rfl rfl (hb hby at_184) _ ?_
    show Steps p.tables e below (T47.setTop (mkF m 185 #[.val (.int p0), .val (.int p1), .val (.int p2), .val (.int p3), .val (.ref b1), .val (.ref b25), .unset, .unset, .unset, .unset, .unset, .unset, .unset, .unset, .unset] [(.int (f0_v14 p0 p1 p2 p3)), (.int (5 : Int32)), (.ref b25)])) _
    refine XS.aload X47.here hx rfl (hb hby at_185) rfl rfl ?_
    show Steps p.tables e below (T47.setTop (mkF m 187 #[.val (.int p0), .val (.int p1), .val (.int p2), .val (.int p3), .val (.ref b1), .val (.ref b25), .unset, .unset, .unset, .unset, .unset, .unset, .unset, .unset, .unset] [(.ref b1), (.int (f0_v14 p0 p1 p2 p3)), (.int (5 : Int32)), (.ref b25)])) _
    refine XS.iconst X47.here hx rfl (hb hby at_187) ?_
    show Steps p.tables e below (T47.setTop (mkF m 188 #[.val (.int p0), .val (.int p1), .val (.int p2), .val (.int p3), .val (.ref b1), .val (.ref b25), .unset, .unset, .unset, .unset, .unset, .unset, .unset, .unset, .unset] [(.int (4 : Int32)), (.ref b1), (.int (f0_v14 p0 p1 p2 p3)), (.int (5 : Int32)), (.ref b25)])) _
    refine X47.iaload hx (j := (4 : Int32)) (v := (.int ((f0_v3 p0 p1 p2 p3) &&& (3 : Int32)))) (by rw [e47]; exact Ar50.1) (State.isArrayOf_alike hZ.alike Ar50.2.1) Ar50.2.2 hin50 hat50 (g := (mkF m 188 #[.val (.int p0), .val (.int p1), .val (.int p2), .val (.int p3), .val (.ref b1), .val (.ref b25), .unset, .unset, .unset, .unset, .unset, .unset, .unset, .unset, .unset] [(.int (4 : Int32)), (.ref b1), (.int (f0_v14 p0 p1 p2 p3)), (.int (5 : Int32)), (.ref b25)])) rfl rfl (hb hby at_188) _ ?_
    show Steps p.tables e below (T47.setTop (mkF m 189 #[.val (.int p0), .val (.int p1), .val (.int p2), .val (.int p3), .val (.ref b1), .val (.ref b25), .unset, .unset, .unset, .unset, .unset, .unset, .unset, .unset, .unset] [(.int ((f0_v3 p0 p1 p2 p3) &&& (3 : Int32))), (.int (f0_v14 p0 p1 p2 p3)), (.int (5 : Int32)), (.ref b25)])) _
    refine XS.iadd X47.here hx rfl (hb hby at_189) rfl ?_
    show Steps p.tables e below (T47.setTop (mkF m 190 #[.val (.int p0), .val (.int p1), .val (.int p2), .val (.int p3), .val (.ref b1), .val (.ref b25), .unset, .unset, .unset, .unset, .unset, .unset, .unset, .unset, .unset] [(.int (f0_v15 p0 p1 p2 p3)), (.int (5 : Int32)), (.ref b25)])) _
    refine st52 _ ?_
    show Steps p.tables e below (T52.setTop (mkF m 191 #[.val (.int p0), .val (.int p1), .val (.int p2), .val (.int p3), .val (.ref b1), .val (.ref b25), .unset, .unset, .unset, .unset, .unset, .unset, .unset, .unset, .unset] [])) _
    refine XS.aload X52.here hx rfl (hb hby at_191) rfl rfl ?_
    show Steps p.tables e below (T52.setTop (mkF m 193 #[.val (.int p0), .val (.int p1), .val (.int p2), .val (.int p3), .val (.ref b1), .val (.ref b25), .unset, .unset, .unset, .unset, .unset, .unset, .unset, .unset, .unset] [(.ref b25)])) _
    refine XS.bipush X52.here hx rfl (hb hby at_193) ?_
    show Steps p.tables e below (T52.setTop (mkF m 195 #[.val (.int p0), .val (.int p1), .val (.int p2), .val (.int p3), .val (.ref b1), .val (.ref b25), .unset, .unset, .unset, .unset, .unset, .unset, .unset, .unset, .unset] [(.int (6 : Int32)), (.ref b25)])) _
    refine XS.aload X52.here hx rfl (hb hby at_195) rfl rfl ?_
    show Steps p.tables e below (T52.setTop (mkF m 197 #[.val (.int p0), .val (.int p1), .val (.int p2), .val (.int p3), .val (.ref b1), .val (.ref b25), .unset, .unset, .unset, .unset, .unset, .unset, .unset, .unset, .unset] [(.ref b25), (.int (6 : Int32)), (.ref b25)])) _
    refine XS.iconst X52.here hx rfl (hb hby at_197) ?_
    show Steps p.tables e below (T52.setTop (mkF m 198 #[.val (.int p0), .val (.int p1), .val (.int p2), .val (.int p3), .val (.ref b1), .val (.ref b25), .unset, .unset, .unset, .unset, .unset, .unset, .unset, .unset, .unset] [(.int (5 : Int32)), (.ref b25), (.int (6 : Int32)), (.ref b25)])) _
    refine X52.iaload hx (j := (5 : Int32)) (v := (.int (f0_v15 p0 p1 p2 p3))) (by rw [e52]; exact Ar53.1) (State.isArrayOf_alike hZ.alike Ar53.2.1) Ar53.2.2 hin53 hat53 (g := (mkF m 198 #[.val (.int p0), .val (.int p1), .val (.int p2), .val (.int p3), .val (.ref b1), .val (.ref b25), .unset, .unset, .unset, .unset, .unset, .unset, .unset, .unset, .unset] [(.int (5 : Int32)), (.ref b25), (.int (6 : Int32)), (.ref b25)])) rfl rfl (hb hby at_198) _ ?_
    show Steps p.tables e below (T52.setTop (mkF m 199 #[.val (.int p0), .val (.int p1), .val (.int p2), .val (.int p3), .val (.ref b1), .val (.ref b25), .unset, .unset, .unset, .unset, .unset, .unset, .unset, .unset, .unset] [(.int (f0_v15 p0 p1 p2 p3)), (.int (6 : Int32)), (.ref b25)])) _
    refine XS.aload X52.here hx rfl (hb hby at_199) rfl rfl ?_
    show Steps p.tables e below (T52.setTop (mkF m 201 #[.val (.int p0), .val (.int p1), .val (.int p2), .val (.int p3), .val (.ref b1), .val (.ref b25), .unset, .unset, .unset, .unset, .unset, .unset, .unset, .unset, .unset] [(.ref b1), (.int (f0_v15 p0 p1 p2 p3)), (.int (6 : Int32)), (.ref b25)])) _
    refine XS.iconst X52.here hx rfl (hb hby at_201) ?_
    show Steps p.tables e below (T52.setTop (mkF m 202 #[.val (.int p0), .val (.int p1), .val (.int p2), .val (.int p3), .val (.ref b1), .val (.ref b25), .unset, .unset, .unset, .unset, .unset, .unset, .unset, .unset, .unset] [(.int (5 : Int32)), (.ref b1), (.int (f0_v15 p0 p1 p2 p3)), (.int (6 : Int32)), (.ref b25)])) _
    refine X52.iaload hx (j := (5 : Int32)) (v := (.int ((f0_v4 p0 p1 p2 p3) &&& (3 : Int32)))) (by rw [e52]; exact Ar55.1) (State.isArrayOf_alike hZ.alike Ar55.2.1) Ar55.2.2 hin55 hat55 (g := (mkF m 202 #[.val (.int p0), .val (.int p1), .val (.int p2), .val (.int p3), .val (.ref b1), .val (.ref b25), .unset, .unset, .unset, .unset, .unset, .unset, .unset, .unset, .unset] [(.int (5 : Int32)), (.ref b1), (.int (f0_v15 p0 p1 p2 p3)), (.int (6 : Int32)), (.ref b25)])) rfl rfl (hb hby at_202) _ ?_
    show Steps p.tables e below (T52.setTop (mkF m 203 #[.val (.int p0), .val (.int p1), .val (.int p2), .val (.int p3), .val (.ref b1), .val (.ref b25), .unset, .unset, .unset, .unset, .unset, .unset, .unset, .unset, .unset] [(.int ((f0_v4 p0 p1 p2 p3) &&& (3 : Int32))), (.int (f0_v15 p0 p1 p2 p3)), (.int (6 : Int32)), (.ref b25)])) _
    refine XS.iadd X52.here hx rfl (hb hby at_203) rfl ?_
    show Steps p.tables e below (T52.setTop (mkF m 204 #[.val (.int p0), .val (.int p1), .val (.int p2), .val (.int p3), .val (.ref b1), .val (.ref b25), .unset, .unset, .unset, .unset, .unset, .unset, .unset, .unset, .unset] [(.int (f0_v16 p0 p1 p2 p3)), (.int (6 : Int32)), (.ref b25)])) _
    refine st57 _ ?_
    show Steps p.tables e below (T57.setTop (mkF m 205 #[.val (.int p0), .val (.int p1), .val (.int p2), .val (.int p3), .val (.ref b1), .val (.ref b25), .unset, .unset, .unset, .unset, .unset, .unset, .unset, .unset, .unset] [])) _
    refine XS.aload X57.here hx rfl (hb hby at_205) rfl rfl ?_
    show Steps p.tables e below (T57.setTop (mkF m 207 #[.val (.int p0), .val (.int p1), .val (.int p2), .val (.int p3), .val (.ref b1), .val (.ref b25), .unset, .unset, .unset, .unset, .unset, .unset, .unset, .unset, .unset] [(.ref b25)])) _
    refine XS.bipush X57.here hx rfl (hb hby at_207) ?_
    show Steps p.tables e below (T57.setTop (mkF m 209 #[.val (.int p0), .val (.int p1), .val (.int p2), .val (.int p3), .val (.ref b1), .val (.ref b25), .unset, .unset, .unset, .unset, .unset, .unset, .unset, .unset, .unset] [(.int (7 : Int32)), (.ref b25)])) _
    refine XS.aload X57.here hx rfl (hb hby at_209) rfl rfl ?_
    show Steps p.tables e below (T57.setTop (mkF m 211 #[.val (.int p0), .val (.int p1), .val (.int p2), .val (.int p3), .val (.ref b1), .val (.ref b25), .unset, .unset, .unset, .unset, .unset, .unset, .unset, .unset, .unset] [(.ref b25), (.int (7 : Int32)), (.ref b25)])) _
    refine XS.bipush X57.here hx rfl (hb hby at_211) ?_
    show Steps p.tables e below (T57.setTop (mkF m 213 #[.val (.int p0), .val (.int p1), .val (.int p2), .val (.int p3), .val (.ref b1), .val (.ref b25), .unset, .unset, .unset, .unset, .unset, .unset, .unset, .unset, .unset] [(.int (6 : Int32)), (.ref b25), (.int (7 : Int32)), (.ref b25)])) _
    refine X57.iaload hx (j := (6 : Int32)) (v := (.int (f0_v16 p0 p1 p2 p3))) (by rw [e57]; exact Ar58.1) (State.isArrayOf_alike hZ.alike Ar58.2.1) Ar58.2.2 hin58 hat58 (g := (mkF m 213 #[.val (.int p0), .val (.int p1), .val (.int p2), .val (.int p3), .val (.ref b1), .val (.ref b25), .unset, .unset, .unset, .unset, .unset, .unset, .unset, .unset, .unset] [(.int (6 : Int32)), (.ref b25), (.int (7 : Int32)), (.ref b25)])) rfl rfl (hb hby at_213) _ ?_
    show Steps p.tables e below (T57.setTop (mkF m 214 #[.val (.int p0), .val (.int p1), .val (.int p2), .val (.int p3), .val (.ref b1), .val (.ref b25), .unset, .unset, .unset, .unset, .unset, .unset, .unset, .unset, .unset] [(.int (f0_v16 p0 p1 p2 p3)), (.int (7 : Int32)), (.ref b25)])) _
    refine XS.aload X57.here hx rfl (hb hby at_214) rfl rfl ?_
    show Steps p.tables e below (T57.setTop (mkF m 216 #[.val (.int p0), .val (.int p1), .val (.int p2), .val (.int p3), .val (.ref b1), .val (.ref b25), .unset, .unset, .unset, .unset, .unset, .unset, .unset, .unset, .unset] [(.ref b1), (.int (f0_v16 p0 p1 p2 p3)), (.int (7 : Int32)), (.ref b25)])) _
    refine XS.bipush X57.here hx rfl (hb hby at_216) ?_
    show Steps p.tables e below (T57.setTop (mkF m 218 #[.val (.int p0), .val (.int p1), .val (.int p2), .val (.int p3), .val (.ref b1), .val (.ref b25), .unset, .unset, .unset, .unset, .unset, .unset, .unset, .unset, .unset] [(.int (6 : Int32)), (.ref b1), (.int (f0_v16 p0 p1 p2 p3)), (.int (7 : Int32)), (.ref b25)])) _
    refine X57.iaload hx (j := (6 : Int32)) (v := (.int ((f0_v5 p0 p1 p2 p3) &&& (3 : Int32)))) (by rw [e57]; exact Ar60.1) (State.isArrayOf_alike hZ.alike Ar60.2.1) Ar60.2.2 hin60 hat60 (g := (mkF m 218 #[.val (.int p0), .val (.int p1), .val (.int p2), .val (.int p3), .val (.ref b1), .val (.ref b25), .unset, .unset, .unset, .unset, .unset, .unset, .unset, .unset, .unset] [(.int (6 : Int32)), (.ref b1), (.int (f0_v16 p0 p1 p2 p3)), (.int (7 : Int32)), (.ref b25)])) rfl rfl (hb hby at_218) _ ?_
    show Steps p.tables e below (T57.setTop (mkF m 219 #[.val (.int p0), .val (.int p1), .val (.int p2), .val (.int p3), .val (.ref b1), .val (.ref b25), .unset, .unset, .unset, .unset, .unset, .unset, .unset, .unset, .unset] [(.int ((f0_v5 p0 p1 p2 p3) &&& (3 : Int32))), (.int (f0_v16 p0 p1 p2 p3)), (.int (7 : Int32)), (.ref b25)])) _
    refine XS.iadd X57.here hx rfl (hb hby at_219) rfl ?_
    show Steps p.tables e below (T57.setTop (mkF m 220 #[.val (.int p0), .val (.int p1), .val (.int p2), .val (.int p3), .val (.ref b1), .val (.ref b25), .unset, .unset, .unset, .unset, .unset, .unset, .unset, .unset, .unset] [(.int (f0_v17 p0 p1 p2 p3)), (.int (7 : Int32)), (.ref b25)])) _
    refine st62 _ ?_
    show Steps p.tables e below (T62.setTop (mkF m 221 #[.val (.int p0), .val (.int p1), .val (.int p2), .val (.int p3), .val (.ref b1), .val (.ref b25), .unset, .unset, .unset, .unset, .unset, .unset, .unset, .unset, .unset] [])) _
    refine XS.aload X62.here hx rfl (hb hby at_221) rfl rfl ?_
    show Steps p.tables e below (T62.setTop (mkF m 223 #[.val (.int p0), .val (.int p1), .val (.int p2), .val (.int p3), .val (.ref b1), .val (.ref b25), .unset, .unset, .unset, .unset, .unset, .unset, .unset, .unset, .unset] [(.ref b25)])) _
    refine XS.bipush X62.here hx rfl (hb hby at_223) ?_
    show Steps p.tables e below (T62.setTop (mkF m 225 #[.val (.int p0), .val (.int p1), .val (.int p2), .val (.int p3), .val (.ref b1), .val (.ref b25), .unset, .unset, .unset, .unset, .unset, .unset, .unset, .unset, .unset] [(.int (8 : Int32)), (.ref b25)])) _
    refine XS.aload X62.here hx rfl (hb hby at_225) rfl rfl ?_
    show Steps p.tables e below (T62.setTop (mkF m 227 #[.val (.int p0), .val (.int p1), .val (.int p2), .val (.int p3), .val (.ref b1), .val (.ref b25), .unset, .unset, .unset, .unset, .unset, .unset, .unset, .unset, .unset] [(.ref b25), (.int (8 : Int32)), (.ref b25)])) _
    refine XS.bipush X62.here hx rfl (hb hby at_227) ?_
    show Steps p.tables e below (T62.setTop (mkF m 229 #[.val (.int p0), .val (.int p1), .val (.int p2), .val (.int p3), .val (.ref b1), .val (.ref b25), .unset, .unset, .unset, .unset, .unset, .unset, .unset, .unset, .unset] [(.int (7 : Int32)), (.ref b25), (.int (8 : Int32)), (.ref b25)])) _
    refine X62.iaload hx (j := (7 : Int32)) (v := (.int (f0_v17 p0 p1 p2 p3))) (by rw [e62]; exact Ar63.1) (State.isArrayOf_alike hZ.alike Ar63.2.1) Ar63.2.2 hin63 hat63 (g := (mkF m 229 #[.val (.int p0), .val (.int p1), .val (.int p2), .val (.int p3), .val (.ref b1), .val (.ref b25), .unset, .unset, .unset, .unset, .unset, .unset, .unset, .unset, .unset] [(.int (7 : Int32)), (.ref b25), (.int (8 : Int32)), (.ref b25)])) rfl rfl (hb hby at_229) _ ?_
    show Steps p.tables e below (T62.setTop (mkF m 230 #[.val (.int p0), .val (.int p1), .val (.int p2), .val (.int p3), .val (.ref b1), .val (.ref b25), .unset, .unset, .unset, .unset, .unset, .unset, .unset, .unset, .unset] [(.int (f0_v17 p0 p1 p2 p3)), (.int (8 : Int32)), (.ref b25)])) _
    refine XS.aload X62.here hx rfl (hb hby at_230) rfl rfl ?_
    show Steps p.tables e below (T62.setTop (mkF m 232 #[.val (.int p0), .val (.int p1), .val (.int p2), .val (.int p3), .val (.ref b1), .val (.ref b25), .unset, .unset, .unset, .unset, .unset, .unset, .unset, .unset, .unset] [(.ref b1), (.int (f0_v17 p0 p1 p2 p3)), (.int (8 : Int32)), (.ref b25)])) _
    refine XS.bipush X62.here hx rfl (hb hby at_232) ?_
    show Steps p.tables e below (T62.setTop (mkF m 234 #[.val (.int p0), .val (.int p1), .val (.int p2), .val (.int p3), .val (.ref b1), .val (.ref b25), .unset, .unset, .unset, .unset, .unset, .unset, .unset, .unset, .unset] [(.int (7 : Int32)), (.ref b1), (.int (f0_v17 p0 p1 p2 p3)), (.int (8 : Int32)), (.ref b25)])) _
    refine X62.iaload hx (j := (7 : Int32)) (v := (.int ((21 : Int32) - (f0_v11 p0 p1 p2 p3)))) (by rw [e62]; exact Ar65.1) (State.isArrayOf_alike hZ.alike Ar65.2.1) Ar65.2.2 hin65 hat65 (g := (mkF m 234 #[.val (.int p0), .val (.int p1), .val (.int p2), .val (.int p3), .val (.ref b1), .val (.ref b25), .unset, .unset, .unset, .unset, .unset, .unset, .unset, .unset, .unset] [(.int (7 : Int32)), (.ref b1), (.int (f0_v17 p0 p1 p2 p3)), (.int (8 : Int32)), (.ref b25)])) rfl rfl (hb hby at_234) _ ?_
    show Steps p.tables e below (T62.setTop (mkF m 235 #[.val (.int p0), .val (.int p1), .val (.int p2), .val (.int p3), .val (.ref b1), .val (.ref b25), .unset, .unset, .unset, .unset, .unset, .unset, .unset, .unset, .unset] [(.int ((21 : Int32) - (f0_v11 p0 p1 p2 p3))), (.int (f0_v17 p0 p1 p2 p3)), (.int (8 : Int32)), (.ref b25)])) _
    refine XS.iadd X62.here hx rfl (hb hby at_235) rfl ?_
    show Steps p.tables e below (T62.setTop (mkF m 236 #[.val (.int p0), .val (.int p1), .val (.int p2), .val (.int p3), .val (.ref b1), .val (.ref b25), .unset, .unset, .unset, .unset, .unset, .unset, .unset, .unset, .unset] [(.int (f0_v18 p0 p1 p2 p3)), (.int (8 : Int32)), (.ref b25)])) _
    refine st67 _ ?_
    show Steps p.tables e below (T67.setTop (mkF m 237 #[.val (.int p0), .val (.int p1), .val (.int p2), .val (.int p3), .val (.ref b1), .val (.ref b25), .unset, .unset, .unset, .unset, .unset, .unset, .unset, .unset, .unset] [])) _
    refine XS.iloadN X67.here hx rfl (hb hby at_237) rfl ?_
    show Steps p.tables e below (T67.setTop (mkF m 238 #[.val (.int p0), .val (.int p1), .val (.int p2), .val (.int p3), .val (.ref b1), .val (.ref b25), .unset, .unset, .unset, .unset, .unset, .unset, .unset, .unset, .unset] [(.int p1)])) _
    refine XS.iconst X67.here hx rfl (hb hby at_238) ?_
    show Steps p.tables e below (T67.setTop (mkF m 239 #[.val (.int p0), .val (.int p1), .val (.int p2), .val (.int p3), .val (.ref b1), .val (.ref b25), .unset, .unset, .unset, .unset, .unset, .unset, .unset, .unset, .unset] [(.int (3 : Int32)), (.int p1)])) _
    refine XS.iand X67.here hx rfl (hb hby at_239) rfl ?_
    show Steps p.tables e below (T67.setTop (mkF m 240 #[.val (.int p0), .val (.int p1), .val (.int p2), .val (.int p3), .val (.ref b1), .val (.ref b25), .unset, .unset, .unset, .unset, .unset, .unset, .unset, .unset, .unset] [(.int (p1 &&& (3 : Int32)))])) _
    refine XS.istore X67.here hx rfl (hb hby at_240) rfl (l' := #[.val (.int p0), .val (.int p1), .val (.int p2), .val (.int p3), .val (.ref b1), .val (.ref b25), .val (.int (p1 &&& (3 : Int32))), .unset, .unset, .unset, .unset, .unset, .unset, .unset, .unset]) rfl ?_
    show Steps p.tables e below (T67.setTop (mkF m 242 #[.val (.int p0), .val (.int p1), .val (.int p2), .val (.int p3), .val (.ref b1), .val (.ref b25), .val (.int (p1 &&& (3 : Int32))), .unset, .unset, .unset, .unset, .unset, .unset, .unset, .unset] [])) _
    refine XS.iconst X67.here hx rfl (hb hby at_242) ?_
    show Steps p.tables e below (T67.setTop (mkF m 243 #[.val (.int p0), .val (.int p1), .val (.int p2), .val (.int p3), .val (.ref b1), .val (.ref b25), .val (.int (p1 &&& (3 : Int32))), .unset, .unset, .unset, .unset, .unset, .unset, .unset, .unset] [(.int (1 : Int32))])) _
    refine XS.iload X67.here hx rfl (hb hby at_243) rfl ?_
    show Steps p.tables e below (T67.setTop (mkF m 245 #[.val (.int p0), .val (.int p1), .val (.int p2), .val (.int p3), .val (.ref b1), .val (.ref b25), .val (.int (p1 &&& (3 : Int32))), .unset, .unset, .unset, .unset, .unset, .unset, .unset, .unset] [(.int (p1 &&& (3 : Int32))), (.int (1 : Int32))])) _
    refine XS.ishl X67.here hx rfl (hb hby at_245) rfl ?_
    show Steps p.tables e below (T67.setTop (mkF m 246 #[.val (.int p0), .val (.int p1), .val (.int p2), .val (.int p3), .val (.ref b1), .val (.ref b25), .val (.int (p1 &&& (3 : Int32))), .unset, .unset, .unset, .unset, .unset, .unset, .unset, .unset] [(.int (f0_v19 p0 p1 p2 p3))])) _
    refine XS.istore X67.here hx rfl (hb hby at_246) rfl (l' := #[.val (.int p0), .val (.int p1), .val (.int p2), .val (.int p3), .val (.ref b1), .val (.ref b25), .val (.int (p1 &&& (3 : Int32))), .val (.int (f0_v19 p0 p1 p2 p3)), .unset, .unset, .unset, .unset, .unset, .unset, .unset]) rfl ?_
    show Steps p.tables e below (T67.setTop (mkF m 248 #[.val (.int p0), .val (.int p1), .val (.int p2), .val (.int p3), .val (.ref b1), .val (.ref b25), .val (.int (p1 &&& (3 : Int32))), .val (.int (f0_v19 p0 p1 p2 p3)), .unset, .unset, .unset, .unset, .unset, .unset, .unset] [])) _
    refine XS.bipush X67.here hx rfl (hb hby at_248) ?_
    show Steps p.tables e below (T67.setTop (mkF m 250 #[.val (.int p0), .val (.int p1), .val (.int p2), .val (.int p3), .val (.ref b1), .val (.ref b25), .val (.int (p1 &&& (3 : Int32))), .val (.int (f0_v19 p0 p1 p2 p3)), .unset, .unset, .unset, .unset, .unset, .unset, .unset] [(.int (8 : Int32))])) _
    refine XS.iload X67.here hx rfl (hb hby at_250) rfl ?_
    show Steps p.tables e below (T67.setTop (mkF m 252 #[.val (.int p0), .val (.int p1), .val (.int p2), .val (.int p3), .val (.ref b1), .val (.ref b25), .val (.int (p1 &&& (3 : Int32))), .val (.int (f0_v19 p0 p1 p2 p3)), .unset, .unset, .unset, .unset, .unset, .unset, .unset] [(.int (p1 &&& (3 : Int32))), (.int (8 : Int32))])) _
    refine XS.ishr X67.here hx rfl (hb hby at_252) rfl ?_
    show Steps p.tables e below (T67.setTop (mkF m 253 #[.val (.int p0), .val (.int p1), .val (.int p2), .val (.int p3), .val (.ref b1), .val (.ref b25), .val (.int (p1 &&& (3 : Int32))), .val (.int (f0_v19 p0 p1 p2 p3)), .unset, .unset, .unset, .unset, .unset, .unset, .unset] [(.int (f0_v20 p0 p1 p2 p3))])) _
    refine XS.istore X67.here hx rfl (hb hby at_253) rfl (l' := #[.val (.int p0), .val (.int p1), .val (.int p2), .val (.int p3), .val (.ref b1), .val (.ref b25), .val (.int (p1 &&& (3 : Int32))), .val (.int (f0_v19 p0 p1 p2 p3)), .val (.int (f0_v20 p0 p1 p2 p3)), .unset, .unset, .unset, .unset, .unset, .unset]) rfl ?_
    show Steps p.tables e below (T67.setTop (mkF m 255 #[.val (.int p0), .val (.int p1), .val (.int p2), .val (.int p3), .val (.ref b1), .val (.ref b25), .val (.int (p1 &&& (3 : Int32))), .val (.int (f0_v19 p0 p1 p2 p3)), .val (.int (f0_v20 p0 p1 p2 p3)), .unset, .unset, .unset, .unset, .unset, .unset] [])) _
    refine XS.iloadN X67.here hx rfl (hb hby at_255) rfl ?_
    show Steps p.tables e below (T67.setTop (mkF m 256 #[.val (.int p0), .val (.int p1), .val (.int p2), .val (.int p3), .val (.ref b1), .val (.ref b25), .val (.int (p1 &&& (3 : Int32))), .val (.int (f0_v19 p0 p1 p2 p3)), .val (.int (f0_v20 p0 p1 p2 p3)), .unset, .unset, .unset, .unset, .unset, .unset] [(.int p2)])) _
    refine X67.ldcInt hx hown (mvT hZ (hw _ (List.mem_of_getElem? (i := 1) rfl))) (g := (mkF m 256 #[.val (.int p0), .val (.int p1), .val (.int p2), .val (.int p3), .val (.ref b1), .val (.ref b25), .val (.int (p1 &&& (3 : Int32))), .val (.int (f0_v19 p0 p1 p2 p3)), .val (.int (f0_v20 p0 p1 p2 p3)), .unset, .unset, .unset, .unset, .unset, .unset] [(.int p2)])) rfl (hb hby at_256) _ ?_
    show Steps p.tables e below (T67.setTop (mkF m 258 #[.val (.int p0), .val (.int p1), .val (.int p2), .val (.int p3), .val (.ref b1), .val (.ref b25), .val (.int (p1 &&& (3 : Int32))), .val (.int (f0_v19 p0 p1 p2 p3)), .val (.int (f0_v20 p0 p1 p2 p3)), .unset, .unset, .unset, .unset, .unset, .unset] [(.int (2147483647 : Int32)), (.int p2)])) _
    refine XS.iand X67.here hx rfl (hb hby at_258) rfl ?_
    show Steps p.tables e below (T67.setTop (mkF m 259 #[.val (.int p0), .val (.int p1), .val (.int p2), .val (.int p3), .val (.ref b1), .val (.ref b25), .val (.int (p1 &&& (3 : Int32))), .val (.int (f0_v19 p0 p1 p2 p3)), .val (.int (f0_v20 p0 p1 p2 p3)), .unset, .unset, .unset, .unset, .unset, .unset] [(.int (p2 &&& (2147483647 : Int32)))])) _
    refine XS.iload X67.here hx rfl (hb hby at_259) rfl ?_
    show Steps p.tables e below (T67.setTop (mkF m 261 #[.val (.int p0), .val (.int p1), .val (.int p2), .val (.int p3), .val (.ref b1), .val (.ref b25), .val (.int (p1 &&& (3 : Int32))), .val (.int (f0_v19 p0 p1 p2 p3)), .val (.int (f0_v20 p0 p1 p2 p3)), .unset, .unset, .unset, .unset, .unset, .unset] [(.int (f0_v20 p0 p1 p2 p3)), (.int (p2 &&& (2147483647 : Int32)))])) _
    refine Jvm.RoadKit.iremM X67 hx rfl (hb hby at_261) rfl (own_nz20 p0 p1 p2 p3) ?_
    show Steps p.tables e below (T67.setTop (mkF m 262 #[.val (.int p0), .val (.int p1), .val (.int p2), .val (.int p3), .val (.ref b1), .val (.ref b25), .val (.int (p1 &&& (3 : Int32))), .val (.int (f0_v19 p0 p1 p2 p3)), .val (.int (f0_v20 p0 p1 p2 p3)), .unset, .unset, .unset, .unset, .unset, .unset] [(.int (f0_v21 p0 p1 p2 p3))])) _
    refine XS.istore X67.here hx rfl (hb hby at_262) rfl (l' := #[.val (.int p0), .val (.int p1), .val (.int p2), .val (.int p3), .val (.ref b1), .val (.ref b25), .val (.int (p1 &&& (3 : Int32))), .val (.int (f0_v19 p0 p1 p2 p3)), .val (.int (f0_v20 p0 p1 p2 p3)), .val (.int (f0_v21 p0 p1 p2 p3)), .unset, .unset, .unset, .unset, .unset]) rfl ?_
    show Steps p.tables e below (T67.setTop (mkF m 264 #[.val (.int p0), .val (.int p1), .val (.int p2), .val (.int p3), .val (.ref b1), .val (.ref b25), .val (.int (p1 &&& (3 : Int32))), .val (.int (f0_v19 p0 p1 p2 p3)), .val (.int (f0_v20 p0 p1 p2 p3)), .val (.int (f0_v21 p0 p1 p2 p3)), .unset, .unset, .unset, .unset, .unset] [])) _
    refine XS.iloadN X67.here hx rfl (hb hby at_264) rfl ?_
    show Steps p.tables e below (T67.setTop (mkF m 265 #[.val (.int p0), .val (.int p1), .val (.int p2), .val (.int p3), .val (.ref b1), .val (.ref b25), .val (.int (p1 &&& (3 : Int32))), .val (.int (f0_v19 p0 p1 p2 p3)), .val (.int (f0_v20 p0 p1 p2 p3)), .val (.int (f0_v21 p0 p1 p2 p3)), .unset, .unset, .unset, .unset, .unset] [(.int p3)])) _
    refine X67.ldcInt hx hown (mvT hZ (hw _ (List.mem_of_getElem? (i := 1) rfl))) (g := (mkF m 265 #[.val (.int p0), .val (.int p1), .val (.int p2), .val (.int p3), .val (.ref b1), .val (.ref b25), .val (.int (p1 &&& (3 : Int32))), .val (.int (f0_v19 p0 p1 p2 p3)), .val (.int (f0_v20 p0 p1 p2 p3)), .val (.int (f0_v21 p0 p1 p2 p3)), .unset, .unset, .unset, .unset, .unset] [(.int p3)])) rfl (hb hby at_265) _ ?_
    show Steps p.tables e below (T67.setTop (mkF m 267 #[.val (.int p0), .val (.int p1), .val (.int p2), .val (.int p3), .val (.ref b1), .val (.ref b25), .val (.int (p1 &&& (3 : Int32))), .val (.int (f0_v19 p0 p1 p2 p3)), .val (.int (f0_v20 p0 p1 p2 p3)), .val (.int (f0_v21 p0 p1 p2 p3)), .unset, .unset, .unset, .unset, .unset] [(.int (2147483647 : Int32)), (.int p3)])) _
    refine XS.iand X67.here hx rfl (hb hby at_267) rfl ?_
    show Steps p.tables e below (T67.setTop (mkF m 268 #[.val (.int p0), .val (.int p1), .val (.int p2), .val (.int p3), .val (.ref b1), .val (.ref b25), .val (.int (p1 &&& (3 : Int32))), .val (.int (f0_v19 p0 p1 p2 p3)), .val (.int (f0_v20 p0 p1 p2 p3)), .val (.int (f0_v21 p0 p1 p2 p3)), .unset, .unset, .unset, .unset, .unset] [(.int (p3 &&& (2147483647 : Int32)))])) _
    refine XS.iload X67.here hx rfl (hb hby at_268) rfl ?_
    show Steps p.tables e below (T67.setTop (mkF m 270 #[.val (.int p0), .val (.int p1), .val (.int p2), .val (.int p3), .val (.ref b1), .val (.ref b25), .val (.int (p1 &&& (3 : Int32))), .val (.int (f0_v19 p0 p1 p2 p3)), .val (.int (f0_v20 p0 p1 p2 p3)), .val (.int (f0_v21 p0 p1 p2 p3)), .unset, .unset, .unset, .unset, .unset] [(.int (f0_v19 p0 p1 p2 p3)), (.int (p3 &&& (2147483647 : Int32)))])) _
    refine Jvm.RoadKit.iremM X67 hx rfl (hb hby at_270) rfl (own_nz19 p0 p1 p2 p3) ?_
    show Steps p.tables e below (T67.setTop (mkF m 271 #[.val (.int p0), .val (.int p1), .val (.int p2), .val (.int p3), .val (.ref b1), .val (.ref b25), .val (.int (p1 &&& (3 : Int32))), .val (.int (f0_v19 p0 p1 p2 p3)), .val (.int (f0_v20 p0 p1 p2 p3)), .val (.int (f0_v21 p0 p1 p2 p3)), .unset, .unset, .unset, .unset, .unset] [(.int (f0_v22 p0 p1 p2 p3))])) _
    refine XS.istore X67.here hx rfl (hb hby at_271) rfl (l' := #[.val (.int p0), .val (.int p1), .val (.int p2), .val (.int p3), .val (.ref b1), .val (.ref b25), .val (.int (p1 &&& (3 : Int32))), .val (.int (f0_v19 p0 p1 p2 p3)), .val (.int (f0_v20 p0 p1 p2 p3)), .val (.int (f0_v21 p0 p1 p2 p3)), .val (.int (f0_v22 p0 p1 p2 p3)), .unset, .unset, .unset, .unset]) rfl ?_
    show Steps p.tables e below (T67.setTop (mkF m 273 #[.val (.int p0), .val (.int p1), .val (.int p2), .val (.int p3), .val (.ref b1), .val (.ref b25), .val (.int (p1 &&& (3 : Int32))), .val (.int (f0_v19 p0 p1 p2 p3)), .val (.int (f0_v20 p0 p1 p2 p3)), .val (.int (f0_v21 p0 p1 p2 p3)), .val (.int (f0_v22 p0 p1 p2 p3)), .unset, .unset, .unset, .unset] [])) _
    refine XS.iload X67.here hx rfl (hb hby at_273) rfl ?_
    show Steps p.tables e below (T67.setTop (mkF m 275 #[.val (.int p0), .val (.int p1), .val (.int p2), .val (.int p3), .val (.ref b1), .val (.ref b25), .val (.int (p1 &&& (3 : Int32))), .val (.int (f0_v19 p0 p1 p2 p3)), .val (.int (f0_v20 p0 p1 p2 p3)), .val (.int (f0_v21 p0 p1 p2 p3)), .val (.int (f0_v22 p0 p1 p2 p3)), .unset, .unset, .unset, .unset] [(.int (f0_v21 p0 p1 p2 p3))])) _
    refine XS.iload X67.here hx rfl (hb hby at_275) rfl ?_
    show Steps p.tables e below (T67.setTop (mkF m 277 #[.val (.int p0), .val (.int p1), .val (.int p2), .val (.int p3), .val (.ref b1), .val (.ref b25), .val (.int (p1 &&& (3 : Int32))), .val (.int (f0_v19 p0 p1 p2 p3)), .val (.int (f0_v20 p0 p1 p2 p3)), .val (.int (f0_v21 p0 p1 p2 p3)), .val (.int (f0_v22 p0 p1 p2 p3)), .unset, .unset, .unset, .unset] [(.int (f0_v19 p0 p1 p2 p3)), (.int (f0_v21 p0 p1 p2 p3))])) _
    refine XS.imul X67.here hx rfl (hb hby at_277) rfl ?_
    show Steps p.tables e below (T67.setTop (mkF m 278 #[.val (.int p0), .val (.int p1), .val (.int p2), .val (.int p3), .val (.ref b1), .val (.ref b25), .val (.int (p1 &&& (3 : Int32))), .val (.int (f0_v19 p0 p1 p2 p3)), .val (.int (f0_v20 p0 p1 p2 p3)), .val (.int (f0_v21 p0 p1 p2 p3)), .val (.int (f0_v22 p0 p1 p2 p3)), .unset, .unset, .unset, .unset] [(.int ((f0_v21 p0 p1 p2 p3) * (f0_v19 p0 p1 p2 p3)))])) _
    refine XS.iload X67.here hx rfl (hb hby at_278) rfl ?_
    show Steps p.tables e below (T67.setTop (mkF m 280 #[.val (.int p0), .val (.int p1), .val (.int p2), .val (.int p3), .val (.ref b1), .val (.ref b25), .val (.int (p1 &&& (3 : Int32))), .val (.int (f0_v19 p0 p1 p2 p3)), .val (.int (f0_v20 p0 p1 p2 p3)), .val (.int (f0_v21 p0 p1 p2 p3)), .val (.int (f0_v22 p0 p1 p2 p3)), .unset, .unset, .unset, .unset] [(.int (f0_v22 p0 p1 p2 p3)), (.int ((f0_v21 p0 p1 p2 p3) * (f0_v19 p0 p1 p2 p3)))])) _
    refine XS.iadd X67.here hx rfl (hb hby at_280) rfl ?_
    show Steps p.tables e below (T67.setTop (mkF m 281 #[.val (.int p0), .val (.int p1), .val (.int p2), .val (.int p3), .val (.ref b1), .val (.ref b25), .val (.int (p1 &&& (3 : Int32))), .val (.int (f0_v19 p0 p1 p2 p3)), .val (.int (f0_v20 p0 p1 p2 p3)), .val (.int (f0_v21 p0 p1 p2 p3)), .val (.int (f0_v22 p0 p1 p2 p3)), .unset, .unset, .unset, .unset] [(.int (f0_v23 p0 p1 p2 p3))])) _
    refine XS.istore X67.here hx rfl (hb hby at_281) rfl (l' := #[.val (.int p0), .val (.int p1), .val (.int p2), .val (.int p3), .val (.ref b1), .val (.ref b25), .val (.int (p1 &&& (3 : Int32))), .val (.int (f0_v19 p0 p1 p2 p3)), .val (.int (f0_v20 p0 p1 p2 p3)), .val (.int (f0_v21 p0 p1 p2 p3)), .val (.int (f0_v22 p0 p1 p2 p3)), .val (.int (f0_v23 p0 p1 p2 p3)), .unset, .unset, .unset]) rfl ?_
    show Steps p.tables e below (T67.setTop (mkF m 283 #[.val (.int p0), .val (.int p1), .val (.int p2), .val (.int p3), .val (.ref b1), .val (.ref b25), .val (.int (p1 &&& (3 : Int32))), .val (.int (f0_v19 p0 p1 p2 p3)), .val (.int (f0_v20 p0 p1 p2 p3)), .val (.int (f0_v21 p0 p1 p2 p3)), .val (.int (f0_v22 p0 p1 p2 p3)), .val (.int (f0_v23 p0 p1 p2 p3)), .unset, .unset, .unset] [])) _
    refine st68 _ ?_
    show Steps p.tables e below (T68.setTop (mkF m 286 #[.val (.int p0), .val (.int p1), .val (.int p2), .val (.int p3), .val (.ref b1), .val (.ref b25), .val (.int (p1 &&& (3 : Int32))), .val (.int (f0_v19 p0 p1 p2 p3)), .val (.int (f0_v20 p0 p1 p2 p3)), .val (.int (f0_v21 p0 p1 p2 p3)), .val (.int (f0_v22 p0 p1 p2 p3)), .val (.int (f0_v23 p0 p1 p2 p3)), .unset, .unset, .unset] [(.ref b68)])) _
    refine XS.dup X68.here hx rfl (hb hby at_286) rfl rfl ?_
    show Steps p.tables e below (T68.setTop (mkF m 287 #[.val (.int p0), .val (.int p1), .val (.int p2), .val (.int p3), .val (.ref b1), .val (.ref b25), .val (.int (p1 &&& (3 : Int32))), .val (.int (f0_v19 p0 p1 p2 p3)), .val (.int (f0_v20 p0 p1 p2 p3)), .val (.int (f0_v21 p0 p1 p2 p3)), .val (.int (f0_v22 p0 p1 p2 p3)), .val (.int (f0_v23 p0 p1 p2 p3)), .unset, .unset, .unset] [(.ref b68), (.ref b68)])) _
    refine XS.iload X68.here hx rfl (hb hby at_287) rfl ?_
    show Steps p.tables e below (T68.setTop (mkF m 289 #[.val (.int p0), .val (.int p1), .val (.int p2), .val (.int p3), .val (.ref b1), .val (.ref b25), .val (.int (p1 &&& (3 : Int32))), .val (.int (f0_v19 p0 p1 p2 p3)), .val (.int (f0_v20 p0 p1 p2 p3)), .val (.int (f0_v21 p0 p1 p2 p3)), .val (.int (f0_v22 p0 p1 p2 p3)), .val (.int (f0_v23 p0 p1 p2 p3)), .unset, .unset, .unset] [(.int (f0_v19 p0 p1 p2 p3)), (.ref b68), (.ref b68)])) _
    refine XS.aload X68.here hx rfl (hb hby at_289) rfl rfl ?_
    show Steps p.tables e below (T68.setTop (mkF m 291 #[.val (.int p0), .val (.int p1), .val (.int p2), .val (.int p3), .val (.ref b1), .val (.ref b25), .val (.int (p1 &&& (3 : Int32))), .val (.int (f0_v19 p0 p1 p2 p3)), .val (.int (f0_v20 p0 p1 p2 p3)), .val (.int (f0_v21 p0 p1 p2 p3)), .val (.int (f0_v22 p0 p1 p2 p3)), .val (.int (f0_v23 p0 p1 p2 p3)), .unset, .unset, .unset] [(.ref b25), (.int (f0_v19 p0 p1 p2 p3)), (.ref b68), (.ref b68)])) _
    refine XS.bipush X68.here hx rfl (hb hby at_291) ?_
    show Steps p.tables e below (T68.setTop (mkF m 293 #[.val (.int p0), .val (.int p1), .val (.int p2), .val (.int p3), .val (.ref b1), .val (.ref b25), .val (.int (p1 &&& (3 : Int32))), .val (.int (f0_v19 p0 p1 p2 p3)), .val (.int (f0_v20 p0 p1 p2 p3)), .val (.int (f0_v21 p0 p1 p2 p3)), .val (.int (f0_v22 p0 p1 p2 p3)), .val (.int (f0_v23 p0 p1 p2 p3)), .unset, .unset, .unset] [(.int (21 : Int32)), (.ref b25), (.int (f0_v19 p0 p1 p2 p3)), (.ref b68), (.ref b68)])) _
    refine st70 _ ?_
    show Steps p.tables e below (T70.setTop (mkF m 295 #[.val (.int p0), .val (.int p1), .val (.int p2), .val (.int p3), .val (.ref b1), .val (.ref b25), .val (.int (p1 &&& (3 : Int32))), .val (.int (f0_v19 p0 p1 p2 p3)), .val (.int (f0_v20 p0 p1 p2 p3)), .val (.int (f0_v21 p0 p1 p2 p3)), .val (.int (f0_v22 p0 p1 p2 p3)), .val (.int (f0_v23 p0 p1 p2 p3)), .unset, .unset, .unset] [(.ref b70), (.ref b25), (.int (f0_v19 p0 p1 p2 p3)), (.ref b68), (.ref b68)])) _
    refine XS.bipush X70.here hx rfl (hb hby at_295) ?_
    show Steps p.tables e below (T70.setTop (mkF m 297 #[.val (.int p0), .val (.int p1), .val (.int p2), .val (.int p3), .val (.ref b1), .val (.ref b25), .val (.int (p1 &&& (3 : Int32))), .val (.int (f0_v19 p0 p1 p2 p3)), .val (.int (f0_v20 p0 p1 p2 p3)), .val (.int (f0_v21 p0 p1 p2 p3)), .val (.int (f0_v22 p0 p1 p2 p3)), .val (.int (f0_v23 p0 p1 p2 p3)), .unset, .unset, .unset] [(.int (21 : Int32)), (.ref b70), (.ref b25), (.int (f0_v19 p0 p1 p2 p3)), (.ref b68), (.ref b68)])) _
    refine st73 _ ?_
    show Steps p.tables e below (T73.setTop (mkF m 299 #[.val (.int p0), .val (.int p1), .val (.int p2), .val (.int p3), .val (.ref b1), .val (.ref b25), .val (.int (p1 &&& (3 : Int32))), .val (.int (f0_v19 p0 p1 p2 p3)), .val (.int (f0_v20 p0 p1 p2 p3)), .val (.int (f0_v21 p0 p1 p2 p3)), .val (.int (f0_v22 p0 p1 p2 p3)), .val (.int (f0_v23 p0 p1 p2 p3)), .unset, .unset, .unset] [(.ref b73), (.ref b70), (.ref b25), (.int (f0_v19 p0 p1 p2 p3)), (.ref b68), (.ref b68)])) _
    refine XS.bipush X73.here hx rfl (hb hby at_299) ?_
    show Steps p.tables e below (T73.setTop (mkF m 301 #[.val (.int p0), .val (.int p1), .val (.int p2), .val (.int p3), .val (.ref b1), .val (.ref b25), .val (.int (p1 &&& (3 : Int32))), .val (.int (f0_v19 p0 p1 p2 p3)), .val (.int (f0_v20 p0 p1 p2 p3)), .val (.int (f0_v21 p0 p1 p2 p3)), .val (.int (f0_v22 p0 p1 p2 p3)), .val (.int (f0_v23 p0 p1 p2 p3)), .unset, .unset, .unset] [(.int (21 : Int32)), (.ref b73), (.ref b70), (.ref b25), (.int (f0_v19 p0 p1 p2 p3)), (.ref b68), (.ref b68)])) _
    refine st77 _ ?_
    show Steps p.tables e below (T77.setTop (mkF m 303 #[.val (.int p0), .val (.int p1), .val (.int p2), .val (.int p3), .val (.ref b1), .val (.ref b25), .val (.int (p1 &&& (3 : Int32))), .val (.int (f0_v19 p0 p1 p2 p3)), .val (.int (f0_v20 p0 p1 p2 p3)), .val (.int (f0_v21 p0 p1 p2 p3)), .val (.int (f0_v22 p0 p1 p2 p3)), .val (.int (f0_v23 p0 p1 p2 p3)), .unset, .unset, .unset] [(.ref b77), (.ref b73), (.ref b70), (.ref b25), (.int (f0_v19 p0 p1 p2 p3)), (.ref b68), (.ref b68)])) _
    refine XS.iconst X77.here hx rfl (hb hby at_303) ?_
    show Steps p.tables e below (T77.setTop (mkF m 304 #[.val (.int p0), .val (.int p1), .val (.int p2), .val (.int p3), .val (.ref b1), .val (.ref b25), .val (.int (p1 &&& (3 : Int32))), .val (.int (f0_v19 p0 p1 p2 p3)), .val (.int (f0_v20 p0 p1 p2 p3)), .val (.int (f0_v21 p0 p1 p2 p3)), .val (.int (f0_v22 p0 p1 p2 p3)), .val (.int (f0_v23 p0 p1 p2 p3)), .unset, .unset, .unset] [(.int (0 : Int32)), (.ref b77), (.ref b73), (.ref b70), (.ref b25), (.int (f0_v19 p0 p1 p2 p3)), (.ref b68), (.ref b68)])) _
    refine XS.iconst X77.here hx rfl (hb hby at_304) ?_
    show Steps p.tables e below (T77.setTop (mkF m 305 #[.val (.int p0), .val (.int p1), .val (.int p2), .val (.int p3), .val (.ref b1), .val (.ref b25), .val (.int (p1 &&& (3 : Int32))), .val (.int (f0_v19 p0 p1 p2 p3)), .val (.int (f0_v20 p0 p1 p2 p3)), .val (.int (f0_v21 p0 p1 p2 p3)), .val (.int (f0_v22 p0 p1 p2 p3)), .val (.int (f0_v23 p0 p1 p2 p3)), .unset, .unset, .unset] [(.int (0 : Int32)), (.int (0 : Int32)), (.ref b77), (.ref b73), (.ref b70), (.ref b25), (.int (f0_v19 p0 p1 p2 p3)), (.ref b68), (.ref b68)])) _
    refine st82 _ ?_
    show Steps p.tables e below (T82.setTop (mkF m 307 #[.val (.int p0), .val (.int p1), .val (.int p2), .val (.int p3), .val (.ref b1), .val (.ref b25), .val (.int (p1 &&& (3 : Int32))), .val (.int (f0_v19 p0 p1 p2 p3)), .val (.int (f0_v20 p0 p1 p2 p3)), .val (.int (f0_v21 p0 p1 p2 p3)), .val (.int (f0_v22 p0 p1 p2 p3)), .val (.int (f0_v23 p0 p1 p2 p3)), .unset, .unset, .unset] [(.ref b82), (.int (0 : Int32)), (.ref b77), (.ref b73), (.ref b70), (.ref b25), (.int (f0_v19 p0 p1 p2 p3)), (.ref b68), (.ref b68)])) _
    refine st88.trans ?_
    show Steps p.tables e below (T88.setTop (mkF m 310 #[.val (.int p0), .val (.int p1), .val (.int p2), .val (.int p3), .val (.ref b1), .val (.ref b25), .val (.int (p1 &&& (3 : Int32))), .val (.int (f0_v19 p0 p1 p2 p3)), .val (.int (f0_v20 p0 p1 p2 p3)), .val (.int (f0_v21 p0 p1 p2 p3)), .val (.int (f0_v22 p0 p1 p2 p3)), .val (.int (f0_v23 p0 p1 p2 p3)), .unset, .unset, .unset] [(.ref b68)])) _
    refine XS.astore X88.here hx rfl (hb hby at_310) rfl rfl (l' := #[.val (.int p0), .val (.int p1), .val (.int p2), .val (.int p3), .val (.ref b1), .val (.ref b25), .val (.int (p1 &&& (3 : Int32))), .val (.int (f0_v19 p0 p1 p2 p3)), .val (.int (f0_v20 p0 p1 p2 p3)), .val (.int (f0_v21 p0 p1 p2 p3)), .val (.int (f0_v22 p0 p1 p2 p3)), .val (.int (f0_v23 p0 p1 p2 p3)), .val (.ref b68), .unset, .unset]) rfl ?_
    show Steps p.tables e below (T88.setTop (mkF m 312 #[.val (.int p0), .val (.int p1), .val (.int p2), .val (.int p3), .val (.ref b1), .val (.ref b25), .val (.int (p1 &&& (3 : Int32))), .val (.int (f0_v19 p0 p1 p2 p3)), .val (.int (f0_v20 p0 p1 p2 p3)), .val (.int (f0_v21 p0 p1 p2 p3)), .val (.int (f0_v22 p0 p1 p2 p3)), .val (.int (f0_v23 p0 p1 p2 p3)), .val (.ref b68), .unset, .unset] [])) _
    refine XS.aload X88.here hx rfl (hb hby at_312) rfl rfl ?_
    show Steps p.tables e below (T88.setTop (mkF m 314 #[.val (.int p0), .val (.int p1), .val (.int p2), .val (.int p3), .val (.ref b1), .val (.ref b25), .val (.int (p1 &&& (3 : Int32))), .val (.int (f0_v19 p0 p1 p2 p3)), .val (.int (f0_v20 p0 p1 p2 p3)), .val (.int (f0_v21 p0 p1 p2 p3)), .val (.int (f0_v22 p0 p1 p2 p3)), .val (.int (f0_v23 p0 p1 p2 p3)), .val (.ref b68), .unset, .unset] [(.ref b68)])) _
    refine XS.iload X88.here hx rfl (hb hby at_314) rfl ?_
    show Steps p.tables e below (T88.setTop (mkF m 316 #[.val (.int p0), .val (.int p1), .val (.int p2), .val (.int p3), .val (.ref b1), .val (.ref b25), .val (.int (p1 &&& (3 : Int32))), .val (.int (f0_v19 p0 p1 p2 p3)), .val (.int (f0_v20 p0 p1 p2 p3)), .val (.int (f0_v21 p0 p1 p2 p3)), .val (.int (f0_v22 p0 p1 p2 p3)), .val (.int (f0_v23 p0 p1 p2 p3)), .val (.ref b68), .unset, .unset] [(.int (f0_v21 p0 p1 p2 p3)), (.ref b68)])) _
    refine XS.iload X88.here hx rfl (hb hby at_316) rfl ?_
    show Steps p.tables e below (T88.setTop (mkF m 318 #[.val (.int p0), .val (.int p1), .val (.int p2), .val (.int p3), .val (.ref b1), .val (.ref b25), .val (.int (p1 &&& (3 : Int32))), .val (.int (f0_v19 p0 p1 p2 p3)), .val (.int (f0_v20 p0 p1 p2 p3)), .val (.int (f0_v21 p0 p1 p2 p3)), .val (.int (f0_v22 p0 p1 p2 p3)), .val (.int (f0_v23 p0 p1 p2 p3)), .val (.ref b68), .unset, .unset] [(.int (f0_v22 p0 p1 p2 p3)), (.int (f0_v21 p0 p1 p2 p3)), (.ref b68)])) _
    refine st97.trans ?_
    show Steps p.tables e below (T97.setTop (mkF m 321 #[.val (.int p0), .val (.int p1), .val (.int p2), .val (.int p3), .val (.ref b1), .val (.ref b25), .val (.int (p1 &&& (3 : Int32))), .val (.int (f0_v19 p0 p1 p2 p3)), .val (.int (f0_v20 p0 p1 p2 p3)), .val (.int (f0_v21 p0 p1 p2 p3)), .val (.int (f0_v22 p0 p1 p2 p3)), .val (.int (f0_v23 p0 p1 p2 p3)), .val (.ref b68), .unset, .unset] [(.int (f0_v24 p0 p1 p2 p3))])) _
    refine XS.istore X97.here hx rfl (hb hby at_321) rfl (l' := #[.val (.int p0), .val (.int p1), .val (.int p2), .val (.int p3), .val (.ref b1), .val (.ref b25), .val (.int (p1 &&& (3 : Int32))), .val (.int (f0_v19 p0 p1 p2 p3)), .val (.int (f0_v20 p0 p1 p2 p3)), .val (.int (f0_v21 p0 p1 p2 p3)), .val (.int (f0_v22 p0 p1 p2 p3)), .val (.int (f0_v23 p0 p1 p2 p3)), .val (.ref b68), .val (.int (f0_v24 p0 p1 p2 p3)), .unset]) rfl ?_
    show Steps p.tables e below (T97.setTop (mkF m 323 #[.val (.int p0), .val (.int p1), .val (.int p2), .val (.int p3), .val (.ref b1), .val (.ref b25), .val (.int (p1 &&& (3 : Int32))), .val (.int (f0_v19 p0 p1 p2 p3)), .val (.int (f0_v20 p0 p1 p2 p3)), .val (.int (f0_v21 p0 p1 p2 p3)), .val (.int (f0_v22 p0 p1 p2 p3)), .val (.int (f0_v23 p0 p1 p2 p3)), .val (.ref b68), .val (.int (f0_v24 p0 p1 p2 p3)), .unset] [])) _
    refine XS.iload X97.here hx rfl (hb hby at_323) rfl ?_
    show Steps p.tables e below (T97.setTop (mkF m 325 #[.val (.int p0), .val (.int p1), .val (.int p2), .val (.int p3), .val (.ref b1), .val (.ref b25), .val (.int (p1 &&& (3 : Int32))), .val (.int (f0_v19 p0 p1 p2 p3)), .val (.int (f0_v20 p0 p1 p2 p3)), .val (.int (f0_v21 p0 p1 p2 p3)), .val (.int (f0_v22 p0 p1 p2 p3)), .val (.int (f0_v23 p0 p1 p2 p3)), .val (.ref b68), .val (.int (f0_v24 p0 p1 p2 p3)), .unset] [(.int (f0_v24 p0 p1 p2 p3))])) _
    refine XS.aload X97.here hx rfl (hb hby at_325) rfl rfl ?_
    show Steps p.tables e below (T97.setTop (mkF m 327 #[.val (.int p0), .val (.int p1), .val (.int p2), .val (.int p3), .val (.ref b1), .val (.ref b25), .val (.int (p1 &&& (3 : Int32))), .val (.int (f0_v19 p0 p1 p2 p3)), .val (.int (f0_v20 p0 p1 p2 p3)), .val (.int (f0_v21 p0 p1 p2 p3)), .val (.int (f0_v22 p0 p1 p2 p3)), .val (.int (f0_v23 p0 p1 p2 p3)), .val (.ref b68), .val (.int (f0_v24 p0 p1 p2 p3)), .unset] [(.ref b25), (.int (f0_v24 p0 p1 p2 p3))])) _
    refine XS.iload X97.here hx rfl (hb hby at_327) rfl ?_
    show Steps p.tables e below (T97.setTop (mkF m 329 #[.val (.int p0), .val (.int p1), .val (.int p2), .val (.int p3), .val (.ref b1), .val (.ref b25), .val (.int (p1 &&& (3 : Int32))), .val (.int (f0_v19 p0 p1 p2 p3)), .val (.int (f0_v20 p0 p1 p2 p3)), .val (.int (f0_v21 p0 p1 p2 p3)), .val (.int (f0_v22 p0 p1 p2 p3)), .val (.int (f0_v23 p0 p1 p2 p3)), .val (.ref b68), .val (.int (f0_v24 p0 p1 p2 p3)), .unset] [(.int (f0_v23 p0 p1 p2 p3)), (.ref b25), (.int (f0_v24 p0 p1 p2 p3))])) _
    refine X97.iaload hx (j := (f0_v23 p0 p1 p2 p3)) (v := (.int (([(0 : Int32), ((0 : Int32) + (p0 &&& (3 : Int32))), (f0_v12 p0 p1 p2 p3), (f0_v13 p0 p1 p2 p3), (f0_v14 p0 p1 p2 p3), (f0_v15 p0 p1 p2 p3), (f0_v16 p0 p1 p2 p3), (f0_v17 p0 p1 p2 p3), (f0_v18 p0 p1 p2 p3)] : List Int32).getD ((f0_v23 p0 p1 p2 p3)).toNatClampNeg 0))) (by rw [e97]; exact Ar99.1) (State.isArrayOf_alike hZ.alike Ar99.2.1) Ar99.2.2 hin99 hat99 (g := (mkF m 329 #[.val (.int p0), .val (.int p1), .val (.int p2), .val (.int p3), .val (.ref b1), .val (.ref b25), .val (.int (p1 &&& (3 : Int32))), .val (.int (f0_v19 p0 p1 p2 p3)), .val (.int (f0_v20 p0 p1 p2 p3)), .val (.int (f0_v21 p0 p1 p2 p3)), .val (.int (f0_v22 p0 p1 p2 p3)), .val (.int (f0_v23 p0 p1 p2 p3)), .val (.ref b68), .val (.int (f0_v24 p0 p1 p2 p3)), .unset] [(.int (f0_v23 p0 p1 p2 p3)), (.ref b25), (.int (f0_v24 p0 p1 p2 p3))])) rfl rfl (hb hby at_329) _ ?_
    show Steps p.tables e below (T97.setTop (mkF m 330 #[.val (.int p0), .val (.int p1), .val (.int p2), .val (.int p3), .val (.ref b1), .val (.ref b25), .val (.int (p1 &&& (3 : Int32))), .val (.int (f0_v19 p0 p1 p2 p3)), .val (.int (f0_v20 p0 p1 p2 p3)), .val (.int (f0_v21 p0 p1 p2 p3)), .val (.int (f0_v22 p0 p1 p2 p3)), .val (.int (f0_v23 p0 p1 p2 p3)), .val (.ref b68), .val (.int (f0_v24 p0 p1 p2 p3)), .unset] [(.int (f0_v25 p0 p1 p2 p3)), (.int (f0_v24 p0 p1 p2 p3))])) _
    refine XS.aload X97.here hx rfl (hb hby at_330) rfl rfl ?_
    show Steps p.tables e below (T97.setTop (mkF m 332 #[.val (.int p0), .val (.int p1), .val (.int p2), .val (.int p3), .val (.ref b1), .val (.ref b25), .val (.int (p1 &&& (3 : Int32))), .val (.int (f0_v19 p0 p1 p2 p3)), .val (.int (f0_v20 p0 p1 p2 p3)), .val (.int (f0_v21 p0 p1 p2 p3)), .val (.int (f0_v22 p0 p1 p2 p3)), .val (.int (f0_v23 p0 p1 p2 p3)), .val (.ref b68), .val (.int (f0_v24 p0 p1 p2 p3)), .unset] [(.ref b1), (.int (f0_v25 p0 p1 p2 p3)), (.int (f0_v24 p0 p1 p2 p3))])) _
    refine XS.iload X97.here hx rfl (hb hby at_332) rfl ?_
    show Steps p.tables e below (T97.setTop (mkF m 334 #[.val (.int p0), .val (.int p1), .val (.int p2), .val (.int p3), .val (.ref b1), .val (.ref b25), .val (.int (p1 &&& (3 : Int32))), .val (.int (f0_v19 p0 p1 p2 p3)), .val (.int (f0_v20 p0 p1 p2 p3)), .val (.int (f0_v21 p0 p1 p2 p3)), .val (.int (f0_v22 p0 p1 p2 p3)), .val (.int (f0_v23 p0 p1 p2 p3)), .val (.ref b68), .val (.int (f0_v24 p0 p1 p2 p3)), .unset] [(.int (f0_v23 p0 p1 p2 p3)), (.ref b1), (.int (f0_v25 p0 p1 p2 p3)), (.int (f0_v24 p0 p1 p2 p3))])) _
    refine X97.iaload hx (j := (f0_v23 p0 p1 p2 p3)) (v := (.int (([(p0 &&& (3 : Int32)), ((f0_v0 p0 p1 p2 p3) &&& (3 : Int32)), ((f0_v1 p0 p1 p2 p3) &&& (3 : Int32)), ((f0_v2 p0 p1 p2 p3) &&& (3 : Int32)), ((f0_v3 p0 p1 p2 p3) &&& (3 : Int32)), ((f0_v4 p0 p1 p2 p3) &&& (3 : Int32)), ((f0_v5 p0 p1 p2 p3) &&& (3 : Int32)), ((21 : Int32) - (f0_v11 p0 p1 p2 p3))] : List Int32).getD ((f0_v23 p0 p1 p2 p3)).toNatClampNeg 0))) (by rw [e97]; exact Ar101.1) (State.isArrayOf_alike hZ.alike Ar101.2.1) Ar101.2.2 hin101 hat101 (g := (mkF m 334 #[.val (.int p0), .val (.int p1), .val (.int p2), .val (.int p3), .val (.ref b1), .val (.ref b25), .val (.int (p1 &&& (3 : Int32))), .val (.int (f0_v19 p0 p1 p2 p3)), .val (.int (f0_v20 p0 p1 p2 p3)), .val (.int (f0_v21 p0 p1 p2 p3)), .val (.int (f0_v22 p0 p1 p2 p3)), .val (.int (f0_v23 p0 p1 p2 p3)), .val (.ref b68), .val (.int (f0_v24 p0 p1 p2 p3)), .unset] [(.int (f0_v23 p0 p1 p2 p3)), (.ref b1), (.int (f0_v25 p0 p1 p2 p3)), (.int (f0_v24 p0 p1 p2 p3))])) rfl rfl (hb hby at_334) _ ?_
    show Steps p.tables e below (T97.setTop (mkF m 335 #[.val (.int p0), .val (.int p1), .val (.int p2), .val (.int p3), .val (.ref b1), .val (.ref b25), .val (.int (p1 &&& (3 : Int32))), .val (.int (f0_v19 p0 p1 p2 p3)), .val (.int (f0_v20 p0 p1 p2 p3)), .val (.int (f0_v21 p0 p1 p2 p3)), .val (.int (f0_v22 p0 p1 p2 p3)), .val (.int (f0_v23 p0 p1 p2 p3)), .val (.ref b68), .val (.int (f0_v24 p0 p1 p2 p3)), .unset] [(.int (f0_v26 p0 p1 p2 p3)), (.int (f0_v25 p0 p1 p2 p3)), (.int (f0_v24 p0 p1 p2 p3))])) _
    refine XS.iadd X97.here hx rfl (hb hby at_335) rfl ?_
    exact k)
  obtain ⟨T103, L103, X103, e103, N103, pre103⟩ : ∃ (T' : State) (locs' : List Loc), Stand p l e room_1 s m #[(.int p0), (.int p1), (.int p2), (.int p3)] below meth c T' locs' 7 88 ∧ T'.heap = T88.heap ∧ Fr n0 locs' ∧ ∀ t, Steps p.tables e below (T'.setTop (mkF m 344 #[.val (.int p0), .val (.int p1), .val (.int p2), .val (.int p3), .val (.ref b1), .val (.ref b25), .val (.int (p1 &&& (3 : Int32))), .val (.int (f0_v19 p0 p1 p2 p3)), .val (.int (f0_v20 p0 p1 p2 p3)), .val (.int (f0_v21 p0 p1 p2 p3)), .val (.int (f0_v22 p0 p1 p2 p3)), .val (.int (f0_v23 p0 p1 p2 p3)), .val (.ref b68), .val (.int (f0_v24 p0 p1 p2 p3)), .unset] [(.int (f0_m106 p0 p1 p2 p3))])) t → Steps p.tables e below (s₁.setTop (entryFrame m #[(.int p0), (.int p1), (.int p2), (.int p3)] maxLocals)) t := by
    by_cases hc336_103 : (f0_v24 p0 p1 p2 p3) = ((f0_v25 p0 p1 p2 p3) + (f0_v26 p0 p1 p2 p3))
    · have pre104 : ∀ t, Steps p.tables e below (T97.setTop (mkF m 344 #[.val (.int p0), .val (.int p1), .val (.int p2), .val (.int p3), .val (.ref b1), .val (.ref b25), .val (.int (p1 &&& (3 : Int32))), .val (.int (f0_v19 p0 p1 p2 p3)), .val (.int (f0_v20 p0 p1 p2 p3)), .val (.int (f0_v21 p0 p1 p2 p3)), .val (.int (f0_v22 p0 p1 p2 p3)), .val (.int (f0_v23 p0 p1 p2 p3)), .val (.ref b68), .val (.int (f0_v24 p0 p1 p2 p3)), .unset] [(.int (1 : Int32))])) t → Steps p.tables e below (s₁.setTop (entryFrame m #[(.int p0), (.int p1), (.int p2), (.int p3)] maxLocals)) t := fun t k => pre102 t (by
        show Steps p.tables e below (T97.setTop (mkF m 336 #[.val (.int p0), .val (.int p1), .val (.int p2), .val (.int p3), .val (.ref b1), .val (.ref b25), .val (.int (p1 &&& (3 : Int32))), .val (.int (f0_v19 p0 p1 p2 p3)), .val (.int (f0_v20 p0 p1 p2 p3)), .val (.int (f0_v21 p0 p1 p2 p3)), .val (.int (f0_v22 p0 p1 p2 p3)), .val (.int (f0_v23 p0 p1 p2 p3)), .val (.ref b68), .val (.int (f0_v24 p0 p1 p2 p3)), .unset] [(.int ((f0_v25 p0 p1 p2 p3) + (f0_v26 p0 p1 p2 p3))), (.int (f0_v24 p0 p1 p2 p3))])) _
        refine XS.icmpNo X97.here hx rfl (hb hby at_336) rfl (teq hc336_103).2 ?_
        show Steps p.tables e below (T97.setTop (mkF m 339 #[.val (.int p0), .val (.int p1), .val (.int p2), .val (.int p3), .val (.ref b1), .val (.ref b25), .val (.int (p1 &&& (3 : Int32))), .val (.int (f0_v19 p0 p1 p2 p3)), .val (.int (f0_v20 p0 p1 p2 p3)), .val (.int (f0_v21 p0 p1 p2 p3)), .val (.int (f0_v22 p0 p1 p2 p3)), .val (.int (f0_v23 p0 p1 p2 p3)), .val (.ref b68), .val (.int (f0_v24 p0 p1 p2 p3)), .unset] [])) _
        refine XS.iconst X97.here hx rfl (hb hby at_339) ?_
        show Steps p.tables e below (T97.setTop (mkF m 340 #[.val (.int p0), .val (.int p1), .val (.int p2), .val (.int p3), .val (.ref b1), .val (.ref b25), .val (.int (p1 &&& (3 : Int32))), .val (.int (f0_v19 p0 p1 p2 p3)), .val (.int (f0_v20 p0 p1 p2 p3)), .val (.int (f0_v21 p0 p1 p2 p3)), .val (.int (f0_v22 p0 p1 p2 p3)), .val (.int (f0_v23 p0 p1 p2 p3)), .val (.ref b68), .val (.int (f0_v24 p0 p1 p2 p3)), .unset] [(.int (1 : Int32))])) _
        refine XS.goto X97.here hx rfl (pc0 := 340) (pc' := 344) rfl (hb hby at_340) (by decide) (by decide) ?_
        exact k)
      have q_f0_m106 : f0_m106 p0 p1 p2 p3 = (1 : Int32) := by unfold f0_m106; rw [if_pos hc336_103]
      rw [q_f0_m106]
      exact ⟨T97, _, X97, e97, N97, pre104⟩
    have pre105 : ∀ t, Steps p.tables e below (T97.setTop (mkF m 344 #[.val (.int p0), .val (.int p1), .val (.int p2), .val (.int p3), .val (.ref b1), .val (.ref b25), .val (.int (p1 &&& (3 : Int32))), .val (.int (f0_v19 p0 p1 p2 p3)), .val (.int (f0_v20 p0 p1 p2 p3)), .val (.int (f0_v21 p0 p1 p2 p3)), .val (.int (f0_v22 p0 p1 p2 p3)), .val (.int (f0_v23 p0 p1 p2 p3)), .val (.ref b68), .val (.int (f0_v24 p0 p1 p2 p3)), .unset] [(.int (0 : Int32))])) t → Steps p.tables e below (s₁.setTop (entryFrame m #[(.int p0), (.int p1), (.int p2), (.int p3)] maxLocals)) t := fun t k => pre102 t (by
      show Steps p.tables e below (T97.setTop (mkF m 336 #[.val (.int p0), .val (.int p1), .val (.int p2), .val (.int p3), .val (.ref b1), .val (.ref b25), .val (.int (p1 &&& (3 : Int32))), .val (.int (f0_v19 p0 p1 p2 p3)), .val (.int (f0_v20 p0 p1 p2 p3)), .val (.int (f0_v21 p0 p1 p2 p3)), .val (.int (f0_v22 p0 p1 p2 p3)), .val (.int (f0_v23 p0 p1 p2 p3)), .val (.ref b68), .val (.int (f0_v24 p0 p1 p2 p3)), .unset] [(.int ((f0_v25 p0 p1 p2 p3) + (f0_v26 p0 p1 p2 p3))), (.int (f0_v24 p0 p1 p2 p3))])) _
      refine XS.icmpYes X97.here hx rfl (pc0 := 336) (pc' := 343) rfl (hb hby at_336) rfl (feq hc336_103).2 (by decide) (by decide) ?_
      show Steps p.tables e below (T97.setTop (mkF m 343 #[.val (.int p0), .val (.int p1), .val (.int p2), .val (.int p3), .val (.ref b1), .val (.ref b25), .val (.int (p1 &&& (3 : Int32))), .val (.int (f0_v19 p0 p1 p2 p3)), .val (.int (f0_v20 p0 p1 p2 p3)), .val (.int (f0_v21 p0 p1 p2 p3)), .val (.int (f0_v22 p0 p1 p2 p3)), .val (.int (f0_v23 p0 p1 p2 p3)), .val (.ref b68), .val (.int (f0_v24 p0 p1 p2 p3)), .unset] [])) _
      refine XS.iconst X97.here hx rfl (hb hby at_343) ?_
      exact k)
    have q_f0_m106 : f0_m106 p0 p1 p2 p3 = (0 : Int32) := by unfold f0_m106; rw [if_neg hc336_103]
    rw [q_f0_m106]
    exact ⟨T97, _, X97, e97, N97, pre105⟩
  have pre107 : ∀ t, Steps p.tables e below (T103.setTop (mkF m 348 #[.val (.int p0), .val (.int p1), .val (.int p2), .val (.int p3), .val (.ref b1), .val (.ref b25), .val (.int (p1 &&& (3 : Int32))), .val (.int (f0_v19 p0 p1 p2 p3)), .val (.int (f0_v20 p0 p1 p2 p3)), .val (.int (f0_v21 p0 p1 p2 p3)), .val (.int (f0_v22 p0 p1 p2 p3)), .val (.int (f0_v23 p0 p1 p2 p3)), .val (.ref b68), .val (.int (f0_v24 p0 p1 p2 p3)), .val (.int (f0_m106 p0 p1 p2 p3))] [(.int (f0_m106 p0 p1 p2 p3))])) t → Steps p.tables e below (s₁.setTop (entryFrame m #[(.int p0), (.int p1), (.int p2), (.int p3)] maxLocals)) t := fun t k => pre103 t (by
    show Steps p.tables e below (T103.setTop (mkF m 344 #[.val (.int p0), .val (.int p1), .val (.int p2), .val (.int p3), .val (.ref b1), .val (.ref b25), .val (.int (p1 &&& (3 : Int32))), .val (.int (f0_v19 p0 p1 p2 p3)), .val (.int (f0_v20 p0 p1 p2 p3)), .val (.int (f0_v21 p0 p1 p2 p3)), .val (.int (f0_v22 p0 p1 p2 p3)), .val (.int (f0_v23 p0 p1 p2 p3)), .val (.ref b68), .val (.int (f0_v24 p0 p1 p2 p3)), .unset] [(.int (f0_m106 p0 p1 p2 p3))])) _
    refine XS.istore X103.here hx rfl (hb hby at_344) rfl (l' := #[.val (.int p0), .val (.int p1), .val (.int p2), .val (.int p3), .val (.ref b1), .val (.ref b25), .val (.int (p1 &&& (3 : Int32))), .val (.int (f0_v19 p0 p1 p2 p3)), .val (.int (f0_v20 p0 p1 p2 p3)), .val (.int (f0_v21 p0 p1 p2 p3)), .val (.int (f0_v22 p0 p1 p2 p3)), .val (.int (f0_v23 p0 p1 p2 p3)), .val (.ref b68), .val (.int (f0_v24 p0 p1 p2 p3)), .val (.int (f0_m106 p0 p1 p2 p3))]) rfl ?_
    show Steps p.tables e below (T103.setTop (mkF m 346 #[.val (.int p0), .val (.int p1), .val (.int p2), .val (.int p3), .val (.ref b1), .val (.ref b25), .val (.int (p1 &&& (3 : Int32))), .val (.int (f0_v19 p0 p1 p2 p3)), .val (.int (f0_v20 p0 p1 p2 p3)), .val (.int (f0_v21 p0 p1 p2 p3)), .val (.int (f0_v22 p0 p1 p2 p3)), .val (.int (f0_v23 p0 p1 p2 p3)), .val (.ref b68), .val (.int (f0_v24 p0 p1 p2 p3)), .val (.int (f0_m106 p0 p1 p2 p3))] [])) _
    refine XS.iload X103.here hx rfl (hb hby at_346) rfl ?_
    exact k)
  obtain ⟨T108, L108, X108, e108, N108, pre108⟩ : ∃ (T' : State) (locs' : List Loc), Stand p l e room_1 s m #[(.int p0), (.int p1), (.int p2), (.int p3)] below meth c T' locs' 7 88 ∧ T'.heap = T88.heap ∧ Fr n0 locs' ∧ ∀ t, Steps p.tables e below (T'.setTop (mkF m 376 #[.val (.int p0), .val (.int p1), .val (.int p2), .val (.int p3), .val (.ref b1), .val (.ref b25), .val (.int (p1 &&& (3 : Int32))), .val (.int (f0_v19 p0 p1 p2 p3)), .val (.int (f0_v20 p0 p1 p2 p3)), .val (.int (f0_v21 p0 p1 p2 p3)), .val (.int (f0_v22 p0 p1 p2 p3)), .val (.int (f0_v23 p0 p1 p2 p3)), .val (.ref b68), .val (.int (f0_v24 p0 p1 p2 p3)), .val (.int (f0_m106 p0 p1 p2 p3))] [(.int (f0_m116 p0 p1 p2 p3))])) t → Steps p.tables e below (s₁.setTop (entryFrame m #[(.int p0), (.int p1), (.int p2), (.int p3)] maxLocals)) t := by
    by_cases hc348_108 : (f0_m106 p0 p1 p2 p3) = (0 : Int32)
    · have pre109 : ∀ t, Steps p.tables e below (T103.setTop (mkF m 376 #[.val (.int p0), .val (.int p1), .val (.int p2), .val (.int p3), .val (.ref b1), .val (.ref b25), .val (.int (p1 &&& (3 : Int32))), .val (.int (f0_v19 p0 p1 p2 p3)), .val (.int (f0_v20 p0 p1 p2 p3)), .val (.int (f0_v21 p0 p1 p2 p3)), .val (.int (f0_v22 p0 p1 p2 p3)), .val (.int (f0_v23 p0 p1 p2 p3)), .val (.ref b68), .val (.int (f0_v24 p0 p1 p2 p3)), .val (.int (f0_m106 p0 p1 p2 p3))] [(.int (0 : Int32))])) t → Steps p.tables e below (s₁.setTop (entryFrame m #[(.int p0), (.int p1), (.int p2), (.int p3)] maxLocals)) t := fun t k => pre107 t (by
        show Steps p.tables e below (T103.setTop (mkF m 348 #[.val (.int p0), .val (.int p1), .val (.int p2), .val (.int p3), .val (.ref b1), .val (.ref b25), .val (.int (p1 &&& (3 : Int32))), .val (.int (f0_v19 p0 p1 p2 p3)), .val (.int (f0_v20 p0 p1 p2 p3)), .val (.int (f0_v21 p0 p1 p2 p3)), .val (.int (f0_v22 p0 p1 p2 p3)), .val (.int (f0_v23 p0 p1 p2 p3)), .val (.ref b68), .val (.int (f0_v24 p0 p1 p2 p3)), .val (.int (f0_m106 p0 p1 p2 p3))] [(.int (f0_m106 p0 p1 p2 p3))])) _
        refine XS.ifYes X103.here hx rfl (pc0 := 348) (pc' := 375) rfl (hb hby at_348) rfl ((if0 _ _).trans (teq hc348_108).1) (by decide) (by decide) ?_
        show Steps p.tables e below (T103.setTop (mkF m 375 #[.val (.int p0), .val (.int p1), .val (.int p2), .val (.int p3), .val (.ref b1), .val (.ref b25), .val (.int (p1 &&& (3 : Int32))), .val (.int (f0_v19 p0 p1 p2 p3)), .val (.int (f0_v20 p0 p1 p2 p3)), .val (.int (f0_v21 p0 p1 p2 p3)), .val (.int (f0_v22 p0 p1 p2 p3)), .val (.int (f0_v23 p0 p1 p2 p3)), .val (.ref b68), .val (.int (f0_v24 p0 p1 p2 p3)), .val (.int (f0_m106 p0 p1 p2 p3))] [])) _
        refine XS.iconst X103.here hx rfl (hb hby at_375) ?_
        exact k)
      have q_f0_m116 : f0_m116 p0 p1 p2 p3 = (0 : Int32) := by unfold f0_m116; rw [if_pos hc348_108]
      rw [q_f0_m116]
      exact ⟨T103, _, X103, e103, N103, pre109⟩
    obtain ⟨cq110, kq110, q110a, q110b, q110c⟩ := isOf hZ e103 u88_0
    obtain ⟨_, _, ⟨T110, L110, k110, n110⟩, -, X110, ⟨Lc110, hQ110, l110, y110, z110⟩, st110⟩ := X103.virtualBack hx (y := (⟨"com/example/frugal_synth/frugalsynth/Arena", "firstChoice", "(II)I"⟩ : MethodName)) (z := (⟨"com/example/frugal_synth/frugalsynth/Arena", "firstChoice", "(II)I"⟩ : MethodName)) hown (mvT hZ (hw _ (List.mem_of_getElem? (i := 31) rfl))) (mvT hZ (hw _ (List.mem_of_getElem? (i := 32) rfl))) (notFace_of_selects (args := #[]) (mvT hZ (hw _ (List.mem_of_getElem? (i := 34) rfl)))) (mvT hZ (hw _ (List.mem_of_getElem? (i := 34) rfl))) (mvT hZ (hw _ (List.mem_of_getElem? (i := 33) rfl))) (by decide) (backOf (W := 1) (rm4 l Z a0' hw [] b68 (f0_v21 p0 p1 p2 p3) (f0_v22 p0 p1 p2 p3) b25 (f0_v19 p0 p1 p2 p3) [(0 : Int32), ((0 : Int32) + (p0 &&& (3 : Int32))), (f0_v12 p0 p1 p2 p3), (f0_v13 p0 p1 p2 p3), (f0_v14 p0 p1 p2 p3), (f0_v15 p0 p1 p2 p3), (f0_v16 p0 p1 p2 p3), (f0_v17 p0 p1 p2 p3), (f0_v18 p0 p1 p2 p3)] (9 : Int32) k25 T88.heap n0 Z88 y98 u88_2 u88_1 (own_i0 p0 p1 p2 p3)) hZ (hw _ (List.mem_of_getElem? (i := 35) rfl)) (hw _ (List.mem_of_getElem? (i := 4) rfl)) (by decide) (by decide)) q110a q110c (g := (mkF m 359 #[.val (.int p0), .val (.int p1), .val (.int p2), .val (.int p3), .val (.ref b1), .val (.ref b25), .val (.int (p1 &&& (3 : Int32))), .val (.int (f0_v19 p0 p1 p2 p3)), .val (.int (f0_v20 p0 p1 p2 p3)), .val (.int (f0_v21 p0 p1 p2 p3)), .val (.int (f0_v22 p0 p1 p2 p3)), .val (.int (f0_v23 p0 p1 p2 p3)), .val (.ref b68), .val (.int (f0_v24 p0 p1 p2 p3)), .val (.int (f0_m106 p0 p1 p2 p3))] [(.int (f0_v22 p0 p1 p2 p3)), (.int (f0_v21 p0 p1 p2 p3)), (.ref b68), (.int (f0_v24 p0 p1 p2 p3))])) rfl (by rw [hml]; rfl) (Steps.refl _) (argsL := [(.int (f0_v21 p0 p1 p2 p3)), (.int (f0_v22 p0 p1 p2 p3))]) (rest := [(.int (f0_v24 p0 p1 p2 p3))]) (lenOf pd1 rfl) rfl (by show 2 * 0 + _ ≤ _; exact Nat.le_of_eq rfl) (hb hby at_359) (fun _ _ => ⟨rfl, e103, (by decide : 7 + 0 ≤ _), (by decide : 88 + 0 ≤ _)⟩)
    dsimp only [Pt.U, Pt.locs, Pt.cells, Pt.slots] at X110 l110 y110 z110 st110 hQ110
    subst l110 y110 z110
    obtain ⟨rfl, N110q, e110⟩ := hQ110
    have N110 := Fr.app N103 N110q
    obtain ⟨cl111, Ar111, q111, S111, M111, H111, G111⟩ := id y100
    have hin111 : ¬ ((f0_v23 p0 p1 p2 p3) < 0 ∨ cl111.slots.size ≤ ((f0_v23 p0 p1 p2 p3)).toNatClampNeg) := inb_of S111 (own_i8 p0 p1 p2 p3)
    have hat111 : cl111.slots[((f0_v23 p0 p1 p2 p3)).toNatClampNeg]? = some (.int (([(p0 &&& (3 : Int32)), ((f0_v0 p0 p1 p2 p3) &&& (3 : Int32)), ((f0_v1 p0 p1 p2 p3) &&& (3 : Int32)), ((f0_v2 p0 p1 p2 p3) &&& (3 : Int32)), ((f0_v3 p0 p1 p2 p3) &&& (3 : Int32)), ((f0_v4 p0 p1 p2 p3) &&& (3 : Int32)), ((f0_v5 p0 p1 p2 p3) &&& (3 : Int32)), ((21 : Int32) - (f0_v11 p0 p1 p2 p3))] : List Int32).getD ((f0_v23 p0 p1 p2 p3)).toNatClampNeg 0)) := H111.at hin111 (own_getDI [(p0 &&& (3 : Int32)), ((f0_v0 p0 p1 p2 p3) &&& (3 : Int32)), ((f0_v1 p0 p1 p2 p3) &&& (3 : Int32)), ((f0_v2 p0 p1 p2 p3) &&& (3 : Int32)), ((f0_v3 p0 p1 p2 p3) &&& (3 : Int32)), ((f0_v4 p0 p1 p2 p3) &&& (3 : Int32)), ((f0_v5 p0 p1 p2 p3) &&& (3 : Int32)), ((21 : Int32) - (f0_v11 p0 p1 p2 p3))] _)
    have pre112 : ∀ t, Steps p.tables e below (T110.setTop (mkF m 368 #[.val (.int p0), .val (.int p1), .val (.int p2), .val (.int p3), .val (.ref b1), .val (.ref b25), .val (.int (p1 &&& (3 : Int32))), .val (.int (f0_v19 p0 p1 p2 p3)), .val (.int (f0_v20 p0 p1 p2 p3)), .val (.int (f0_v21 p0 p1 p2 p3)), .val (.int (f0_v22 p0 p1 p2 p3)), .val (.int (f0_v23 p0 p1 p2 p3)), .val (.ref b68), .val (.int (f0_v24 p0 p1 p2 p3)), .val (.int (f0_m106 p0 p1 p2 p3))] [(.int (f0_v26 p0 p1 p2 p3)), (.int ((f0_v24 p0 p1 p2 p3) - (f0_v27 p0 p1 p2 p3)))])) t → Steps p.tables e below (s₁.setTop (entryFrame m #[(.int p0), (.int p1), (.int p2), (.int p3)] maxLocals)) t := fun t k => pre107 t (by
      show Steps p.tables e below (T103.setTop (mkF m 348 #[.val (.int p0), .val (.int p1), .val (.int p2), .val (.int p3), .val (.ref b1), .val (.ref b25), .val (.int (p1 &&& (3 : Int32))), .val (.int (f0_v19 p0 p1 p2 p3)), .val (.int (f0_v20 p0 p1 p2 p3)), .val (.int (f0_v21 p0 p1 p2 p3)), .val (.int (f0_v22 p0 p1 p2 p3)), .val (.int (f0_v23 p0 p1 p2 p3)), .val (.ref b68), .val (.int (f0_v24 p0 p1 p2 p3)), .val (.int (f0_m106 p0 p1 p2 p3))] [(.int (f0_m106 p0 p1 p2 p3))])) _
      refine XS.ifNo X103.here hx rfl (hb hby at_348) rfl ((if0 _ _).trans (feq hc348_108).1) ?_
      show Steps p.tables e below (T103.setTop (mkF m 351 #[.val (.int p0), .val (.int p1), .val (.int p2), .val (.int p3), .val (.ref b1), .val (.ref b25), .val (.int (p1 &&& (3 : Int32))), .val (.int (f0_v19 p0 p1 p2 p3)), .val (.int (f0_v20 p0 p1 p2 p3)), .val (.int (f0_v21 p0 p1 p2 p3)), .val (.int (f0_v22 p0 p1 p2 p3)), .val (.int (f0_v23 p0 p1 p2 p3)), .val (.ref b68), .val (.int (f0_v24 p0 p1 p2 p3)), .val (.int (f0_m106 p0 p1 p2 p3))] [])) _
      refine XS.iload X103.here hx rfl (hb hby at_351) rfl ?_
      show Steps p.tables e below (T103.setTop (mkF m 353 #[.val (.int p0), .val (.int p1), .val (.int p2), .val (.int p3), .val (.ref b1), .val (.ref b25), .val (.int (p1 &&& (3 : Int32))), .val (.int (f0_v19 p0 p1 p2 p3)), .val (.int (f0_v20 p0 p1 p2 p3)), .val (.int (f0_v21 p0 p1 p2 p3)), .val (.int (f0_v22 p0 p1 p2 p3)), .val (.int (f0_v23 p0 p1 p2 p3)), .val (.ref b68), .val (.int (f0_v24 p0 p1 p2 p3)), .val (.int (f0_m106 p0 p1 p2 p3))] [(.int (f0_v24 p0 p1 p2 p3))])) _
      refine XS.aload X103.here hx rfl (hb hby at_353) rfl rfl ?_
      show Steps p.tables e below (T103.setTop (mkF m 355 #[.val (.int p0), .val (.int p1), .val (.int p2), .val (.int p3), .val (.ref b1), .val (.ref b25), .val (.int (p1 &&& (3 : Int32))), .val (.int (f0_v19 p0 p1 p2 p3)), .val (.int (f0_v20 p0 p1 p2 p3)), .val (.int (f0_v21 p0 p1 p2 p3)), .val (.int (f0_v22 p0 p1 p2 p3)), .val (.int (f0_v23 p0 p1 p2 p3)), .val (.ref b68), .val (.int (f0_v24 p0 p1 p2 p3)), .val (.int (f0_m106 p0 p1 p2 p3))] [(.ref b68), (.int (f0_v24 p0 p1 p2 p3))])) _
      refine XS.iload X103.here hx rfl (hb hby at_355) rfl ?_
      show Steps p.tables e below (T103.setTop (mkF m 357 #[.val (.int p0), .val (.int p1), .val (.int p2), .val (.int p3), .val (.ref b1), .val (.ref b25), .val (.int (p1 &&& (3 : Int32))), .val (.int (f0_v19 p0 p1 p2 p3)), .val (.int (f0_v20 p0 p1 p2 p3)), .val (.int (f0_v21 p0 p1 p2 p3)), .val (.int (f0_v22 p0 p1 p2 p3)), .val (.int (f0_v23 p0 p1 p2 p3)), .val (.ref b68), .val (.int (f0_v24 p0 p1 p2 p3)), .val (.int (f0_m106 p0 p1 p2 p3))] [(.int (f0_v21 p0 p1 p2 p3)), (.ref b68), (.int (f0_v24 p0 p1 p2 p3))])) _
      refine XS.iload X103.here hx rfl (hb hby at_357) rfl ?_
      show Steps p.tables e below (T103.setTop (mkF m 359 #[.val (.int p0), .val (.int p1), .val (.int p2), .val (.int p3), .val (.ref b1), .val (.ref b25), .val (.int (p1 &&& (3 : Int32))), .val (.int (f0_v19 p0 p1 p2 p3)), .val (.int (f0_v20 p0 p1 p2 p3)), .val (.int (f0_v21 p0 p1 p2 p3)), .val (.int (f0_v22 p0 p1 p2 p3)), .val (.int (f0_v23 p0 p1 p2 p3)), .val (.ref b68), .val (.int (f0_v24 p0 p1 p2 p3)), .val (.int (f0_m106 p0 p1 p2 p3))] [(.int (f0_v22 p0 p1 p2 p3)), (.int (f0_v21 p0 p1 p2 p3)), (.ref b68), (.int (f0_v24 p0 p1 p2 p3))])) _
      refine st110.trans ?_
      show Steps p.tables e below (T110.setTop (mkF m 362 #[.val (.int p0), .val (.int p1), .val (.int p2), .val (.int p3), .val (.ref b1), .val (.ref b25), .val (.int (p1 &&& (3 : Int32))), .val (.int (f0_v19 p0 p1 p2 p3)), .val (.int (f0_v20 p0 p1 p2 p3)), .val (.int (f0_v21 p0 p1 p2 p3)), .val (.int (f0_v22 p0 p1 p2 p3)), .val (.int (f0_v23 p0 p1 p2 p3)), .val (.ref b68), .val (.int (f0_v24 p0 p1 p2 p3)), .val (.int (f0_m106 p0 p1 p2 p3))] [(.int (f0_v27 p0 p1 p2 p3)), (.int (f0_v24 p0 p1 p2 p3))])) _
      refine XS.isub X110.here hx rfl (hb hby at_362) rfl ?_
      show Steps p.tables e below (T110.setTop (mkF m 363 #[.val (.int p0), .val (.int p1), .val (.int p2), .val (.int p3), .val (.ref b1), .val (.ref b25), .val (.int (p1 &&& (3 : Int32))), .val (.int (f0_v19 p0 p1 p2 p3)), .val (.int (f0_v20 p0 p1 p2 p3)), .val (.int (f0_v21 p0 p1 p2 p3)), .val (.int (f0_v22 p0 p1 p2 p3)), .val (.int (f0_v23 p0 p1 p2 p3)), .val (.ref b68), .val (.int (f0_v24 p0 p1 p2 p3)), .val (.int (f0_m106 p0 p1 p2 p3))] [(.int ((f0_v24 p0 p1 p2 p3) - (f0_v27 p0 p1 p2 p3)))])) _
      refine XS.aload X110.here hx rfl (hb hby at_363) rfl rfl ?_
      show Steps p.tables e below (T110.setTop (mkF m 365 #[.val (.int p0), .val (.int p1), .val (.int p2), .val (.int p3), .val (.ref b1), .val (.ref b25), .val (.int (p1 &&& (3 : Int32))), .val (.int (f0_v19 p0 p1 p2 p3)), .val (.int (f0_v20 p0 p1 p2 p3)), .val (.int (f0_v21 p0 p1 p2 p3)), .val (.int (f0_v22 p0 p1 p2 p3)), .val (.int (f0_v23 p0 p1 p2 p3)), .val (.ref b68), .val (.int (f0_v24 p0 p1 p2 p3)), .val (.int (f0_m106 p0 p1 p2 p3))] [(.ref b1), (.int ((f0_v24 p0 p1 p2 p3) - (f0_v27 p0 p1 p2 p3)))])) _
      refine XS.iload X110.here hx rfl (hb hby at_365) rfl ?_
      show Steps p.tables e below (T110.setTop (mkF m 367 #[.val (.int p0), .val (.int p1), .val (.int p2), .val (.int p3), .val (.ref b1), .val (.ref b25), .val (.int (p1 &&& (3 : Int32))), .val (.int (f0_v19 p0 p1 p2 p3)), .val (.int (f0_v20 p0 p1 p2 p3)), .val (.int (f0_v21 p0 p1 p2 p3)), .val (.int (f0_v22 p0 p1 p2 p3)), .val (.int (f0_v23 p0 p1 p2 p3)), .val (.ref b68), .val (.int (f0_v24 p0 p1 p2 p3)), .val (.int (f0_m106 p0 p1 p2 p3))] [(.int (f0_v23 p0 p1 p2 p3)), (.ref b1), (.int ((f0_v24 p0 p1 p2 p3) - (f0_v27 p0 p1 p2 p3)))])) _
      refine X110.iaload hx (j := (f0_v23 p0 p1 p2 p3)) (v := (.int (([(p0 &&& (3 : Int32)), ((f0_v0 p0 p1 p2 p3) &&& (3 : Int32)), ((f0_v1 p0 p1 p2 p3) &&& (3 : Int32)), ((f0_v2 p0 p1 p2 p3) &&& (3 : Int32)), ((f0_v3 p0 p1 p2 p3) &&& (3 : Int32)), ((f0_v4 p0 p1 p2 p3) &&& (3 : Int32)), ((f0_v5 p0 p1 p2 p3) &&& (3 : Int32)), ((21 : Int32) - (f0_v11 p0 p1 p2 p3))] : List Int32).getD ((f0_v23 p0 p1 p2 p3)).toNatClampNeg 0))) (by rw [e110]; exact Ar111.1) (State.isArrayOf_alike hZ.alike Ar111.2.1) Ar111.2.2 hin111 hat111 (g := (mkF m 367 #[.val (.int p0), .val (.int p1), .val (.int p2), .val (.int p3), .val (.ref b1), .val (.ref b25), .val (.int (p1 &&& (3 : Int32))), .val (.int (f0_v19 p0 p1 p2 p3)), .val (.int (f0_v20 p0 p1 p2 p3)), .val (.int (f0_v21 p0 p1 p2 p3)), .val (.int (f0_v22 p0 p1 p2 p3)), .val (.int (f0_v23 p0 p1 p2 p3)), .val (.ref b68), .val (.int (f0_v24 p0 p1 p2 p3)), .val (.int (f0_m106 p0 p1 p2 p3))] [(.int (f0_v23 p0 p1 p2 p3)), (.ref b1), (.int ((f0_v24 p0 p1 p2 p3) - (f0_v27 p0 p1 p2 p3)))])) rfl rfl (hb hby at_367) _ ?_
      exact k)
    by_cases hc368_113 : ((f0_v24 p0 p1 p2 p3) - (f0_v27 p0 p1 p2 p3)) = (f0_v26 p0 p1 p2 p3)
    · have pre114 : ∀ t, Steps p.tables e below (T110.setTop (mkF m 376 #[.val (.int p0), .val (.int p1), .val (.int p2), .val (.int p3), .val (.ref b1), .val (.ref b25), .val (.int (p1 &&& (3 : Int32))), .val (.int (f0_v19 p0 p1 p2 p3)), .val (.int (f0_v20 p0 p1 p2 p3)), .val (.int (f0_v21 p0 p1 p2 p3)), .val (.int (f0_v22 p0 p1 p2 p3)), .val (.int (f0_v23 p0 p1 p2 p3)), .val (.ref b68), .val (.int (f0_v24 p0 p1 p2 p3)), .val (.int (f0_m106 p0 p1 p2 p3))] [(.int (1 : Int32))])) t → Steps p.tables e below (s₁.setTop (entryFrame m #[(.int p0), (.int p1), (.int p2), (.int p3)] maxLocals)) t := fun t k => pre112 t (by
        show Steps p.tables e below (T110.setTop (mkF m 368 #[.val (.int p0), .val (.int p1), .val (.int p2), .val (.int p3), .val (.ref b1), .val (.ref b25), .val (.int (p1 &&& (3 : Int32))), .val (.int (f0_v19 p0 p1 p2 p3)), .val (.int (f0_v20 p0 p1 p2 p3)), .val (.int (f0_v21 p0 p1 p2 p3)), .val (.int (f0_v22 p0 p1 p2 p3)), .val (.int (f0_v23 p0 p1 p2 p3)), .val (.ref b68), .val (.int (f0_v24 p0 p1 p2 p3)), .val (.int (f0_m106 p0 p1 p2 p3))] [(.int (f0_v26 p0 p1 p2 p3)), (.int ((f0_v24 p0 p1 p2 p3) - (f0_v27 p0 p1 p2 p3)))])) _
        refine XS.icmpNo X110.here hx rfl (hb hby at_368) rfl (teq hc368_113).2 ?_
        show Steps p.tables e below (T110.setTop (mkF m 371 #[.val (.int p0), .val (.int p1), .val (.int p2), .val (.int p3), .val (.ref b1), .val (.ref b25), .val (.int (p1 &&& (3 : Int32))), .val (.int (f0_v19 p0 p1 p2 p3)), .val (.int (f0_v20 p0 p1 p2 p3)), .val (.int (f0_v21 p0 p1 p2 p3)), .val (.int (f0_v22 p0 p1 p2 p3)), .val (.int (f0_v23 p0 p1 p2 p3)), .val (.ref b68), .val (.int (f0_v24 p0 p1 p2 p3)), .val (.int (f0_m106 p0 p1 p2 p3))] [])) _
        refine XS.iconst X110.here hx rfl (hb hby at_371) ?_
        show Steps p.tables e below (T110.setTop (mkF m 372 #[.val (.int p0), .val (.int p1), .val (.int p2), .val (.int p3), .val (.ref b1), .val (.ref b25), .val (.int (p1 &&& (3 : Int32))), .val (.int (f0_v19 p0 p1 p2 p3)), .val (.int (f0_v20 p0 p1 p2 p3)), .val (.int (f0_v21 p0 p1 p2 p3)), .val (.int (f0_v22 p0 p1 p2 p3)), .val (.int (f0_v23 p0 p1 p2 p3)), .val (.ref b68), .val (.int (f0_v24 p0 p1 p2 p3)), .val (.int (f0_m106 p0 p1 p2 p3))] [(.int (1 : Int32))])) _
        refine XS.goto X110.here hx rfl (pc0 := 372) (pc' := 376) rfl (hb hby at_372) (by decide) (by decide) ?_
        exact k)
      have q_f0_m116 : f0_m116 p0 p1 p2 p3 = (1 : Int32) := by unfold f0_m116; rw [if_neg hc348_108, if_pos hc368_113]
      rw [q_f0_m116]
      exact ⟨T110, _, X110, e110, N110, pre114⟩
    have pre115 : ∀ t, Steps p.tables e below (T110.setTop (mkF m 376 #[.val (.int p0), .val (.int p1), .val (.int p2), .val (.int p3), .val (.ref b1), .val (.ref b25), .val (.int (p1 &&& (3 : Int32))), .val (.int (f0_v19 p0 p1 p2 p3)), .val (.int (f0_v20 p0 p1 p2 p3)), .val (.int (f0_v21 p0 p1 p2 p3)), .val (.int (f0_v22 p0 p1 p2 p3)), .val (.int (f0_v23 p0 p1 p2 p3)), .val (.ref b68), .val (.int (f0_v24 p0 p1 p2 p3)), .val (.int (f0_m106 p0 p1 p2 p3))] [(.int (0 : Int32))])) t → Steps p.tables e below (s₁.setTop (entryFrame m #[(.int p0), (.int p1), (.int p2), (.int p3)] maxLocals)) t := fun t k => pre112 t (by
      show Steps p.tables e below (T110.setTop (mkF m 368 #[.val (.int p0), .val (.int p1), .val (.int p2), .val (.int p3), .val (.ref b1), .val (.ref b25), .val (.int (p1 &&& (3 : Int32))), .val (.int (f0_v19 p0 p1 p2 p3)), .val (.int (f0_v20 p0 p1 p2 p3)), .val (.int (f0_v21 p0 p1 p2 p3)), .val (.int (f0_v22 p0 p1 p2 p3)), .val (.int (f0_v23 p0 p1 p2 p3)), .val (.ref b68), .val (.int (f0_v24 p0 p1 p2 p3)), .val (.int (f0_m106 p0 p1 p2 p3))] [(.int (f0_v26 p0 p1 p2 p3)), (.int ((f0_v24 p0 p1 p2 p3) - (f0_v27 p0 p1 p2 p3)))])) _
      refine XS.icmpYes X110.here hx rfl (pc0 := 368) (pc' := 375) rfl (hb hby at_368) rfl (feq hc368_113).2 (by decide) (by decide) ?_
      show Steps p.tables e below (T110.setTop (mkF m 375 #[.val (.int p0), .val (.int p1), .val (.int p2), .val (.int p3), .val (.ref b1), .val (.ref b25), .val (.int (p1 &&& (3 : Int32))), .val (.int (f0_v19 p0 p1 p2 p3)), .val (.int (f0_v20 p0 p1 p2 p3)), .val (.int (f0_v21 p0 p1 p2 p3)), .val (.int (f0_v22 p0 p1 p2 p3)), .val (.int (f0_v23 p0 p1 p2 p3)), .val (.ref b68), .val (.int (f0_v24 p0 p1 p2 p3)), .val (.int (f0_m106 p0 p1 p2 p3))] [])) _
      refine XS.iconst X110.here hx rfl (hb hby at_375) ?_
      exact k)
    have q_f0_m116 : f0_m116 p0 p1 p2 p3 = (0 : Int32) := by unfold f0_m116; rw [if_neg hc348_108, if_neg hc368_113]
    rw [q_f0_m116]
    exact ⟨T110, _, X110, e110, N110, pre115⟩
  have pre117 : ∀ t, Steps p.tables e below (T108.setTop (mkF m 384 #[.val (.int p0), .val (.int p1), .val (.int p2), .val (.int p3), .val (.ref b1), .val (.ref b25), .val (.int (p1 &&& (3 : Int32))), .val (.int (f0_v19 p0 p1 p2 p3)), .val (.int (f0_v20 p0 p1 p2 p3)), .val (.int (f0_v21 p0 p1 p2 p3)), .val (.int (f0_v22 p0 p1 p2 p3)), .val (.int (f0_v23 p0 p1 p2 p3)), .val (.ref b68), .val (.int (f0_v24 p0 p1 p2 p3)), .val (.int (f0_m116 p0 p1 p2 p3))] [(.int (f0_v19 p0 p1 p2 p3)), (.int ((f0_v22 p0 p1 p2 p3) + (1 : Int32)))])) t → Steps p.tables e below (s₁.setTop (entryFrame m #[(.int p0), (.int p1), (.int p2), (.int p3)] maxLocals)) t := fun t k => pre108 t (by
    show Steps p.tables e below (T108.setTop (mkF m 376 #[.val (.int p0), .val (.int p1), .val (.int p2), .val (.int p3), .val (.ref b1), .val (.ref b25), .val (.int (p1 &&& (3 : Int32))), .val (.int (f0_v19 p0 p1 p2 p3)), .val (.int (f0_v20 p0 p1 p2 p3)), .val (.int (f0_v21 p0 p1 p2 p3)), .val (.int (f0_v22 p0 p1 p2 p3)), .val (.int (f0_v23 p0 p1 p2 p3)), .val (.ref b68), .val (.int (f0_v24 p0 p1 p2 p3)), .val (.int (f0_m106 p0 p1 p2 p3))] [(.int (f0_m116 p0 p1 p2 p3))])) _
    refine XS.istore X108.here hx rfl (hb hby at_376) rfl (l' := #[.val (.int p0), .val (.int p1), .val (.int p2), .val (.int p3), .val (.ref b1), .val (.ref b25), .val (.int (p1 &&& (3 : Int32))), .val (.int (f0_v19 p0 p1 p2 p3)), .val (.int (f0_v20 p0 p1 p2 p3)), .val (.int (f0_v21 p0 p1 p2 p3)), .val (.int (f0_v22 p0 p1 p2 p3)), .val (.int (f0_v23 p0 p1 p2 p3)), .val (.ref b68), .val (.int (f0_v24 p0 p1 p2 p3)), .val (.int (f0_m116 p0 p1 p2 p3))]) rfl ?_
    show Steps p.tables e below (T108.setTop (mkF m 378 #[.val (.int p0), .val (.int p1), .val (.int p2), .val (.int p3), .val (.ref b1), .val (.ref b25), .val (.int (p1 &&& (3 : Int32))), .val (.int (f0_v19 p0 p1 p2 p3)), .val (.int (f0_v20 p0 p1 p2 p3)), .val (.int (f0_v21 p0 p1 p2 p3)), .val (.int (f0_v22 p0 p1 p2 p3)), .val (.int (f0_v23 p0 p1 p2 p3)), .val (.ref b68), .val (.int (f0_v24 p0 p1 p2 p3)), .val (.int (f0_m116 p0 p1 p2 p3))] [])) _
    refine XS.iload X108.here hx rfl (hb hby at_378) rfl ?_
    show Steps p.tables e below (T108.setTop (mkF m 380 #[.val (.int p0), .val (.int p1), .val (.int p2), .val (.int p3), .val (.ref b1), .val (.ref b25), .val (.int (p1 &&& (3 : Int32))), .val (.int (f0_v19 p0 p1 p2 p3)), .val (.int (f0_v20 p0 p1 p2 p3)), .val (.int (f0_v21 p0 p1 p2 p3)), .val (.int (f0_v22 p0 p1 p2 p3)), .val (.int (f0_v23 p0 p1 p2 p3)), .val (.ref b68), .val (.int (f0_v24 p0 p1 p2 p3)), .val (.int (f0_m116 p0 p1 p2 p3))] [(.int (f0_v22 p0 p1 p2 p3))])) _
    refine XS.iconst X108.here hx rfl (hb hby at_380) ?_
    show Steps p.tables e below (T108.setTop (mkF m 381 #[.val (.int p0), .val (.int p1), .val (.int p2), .val (.int p3), .val (.ref b1), .val (.ref b25), .val (.int (p1 &&& (3 : Int32))), .val (.int (f0_v19 p0 p1 p2 p3)), .val (.int (f0_v20 p0 p1 p2 p3)), .val (.int (f0_v21 p0 p1 p2 p3)), .val (.int (f0_v22 p0 p1 p2 p3)), .val (.int (f0_v23 p0 p1 p2 p3)), .val (.ref b68), .val (.int (f0_v24 p0 p1 p2 p3)), .val (.int (f0_m116 p0 p1 p2 p3))] [(.int (1 : Int32)), (.int (f0_v22 p0 p1 p2 p3))])) _
    refine XS.iadd X108.here hx rfl (hb hby at_381) rfl ?_
    show Steps p.tables e below (T108.setTop (mkF m 382 #[.val (.int p0), .val (.int p1), .val (.int p2), .val (.int p3), .val (.ref b1), .val (.ref b25), .val (.int (p1 &&& (3 : Int32))), .val (.int (f0_v19 p0 p1 p2 p3)), .val (.int (f0_v20 p0 p1 p2 p3)), .val (.int (f0_v21 p0 p1 p2 p3)), .val (.int (f0_v22 p0 p1 p2 p3)), .val (.int (f0_v23 p0 p1 p2 p3)), .val (.ref b68), .val (.int (f0_v24 p0 p1 p2 p3)), .val (.int (f0_m116 p0 p1 p2 p3))] [(.int ((f0_v22 p0 p1 p2 p3) + (1 : Int32)))])) _
    refine XS.iload X108.here hx rfl (hb hby at_382) rfl ?_
    exact k)
  obtain ⟨T118, L118, X118, e118, N118, pre118⟩ : ∃ (T' : State) (locs' : List Loc), Stand p l e room_1 s m #[(.int p0), (.int p1), (.int p2), (.int p3)] below meth c T' locs' 7 88 ∧ T'.heap = T88.heap ∧ Fr n0 locs' ∧ ∀ t, Steps p.tables e below (T'.setTop (mkF m 479 #[.val (.int p0), .val (.int p1), .val (.int p2), .val (.int p3), .val (.ref b1), .val (.ref b25), .val (.int (p1 &&& (3 : Int32))), .val (.int (f0_v19 p0 p1 p2 p3)), .val (.int (f0_v20 p0 p1 p2 p3)), .val (.int (f0_v21 p0 p1 p2 p3)), .val (.int (f0_v22 p0 p1 p2 p3)), .val (.int (f0_v23 p0 p1 p2 p3)), .val (.ref b68), .val (.int (f0_v24 p0 p1 p2 p3)), .val (.int (f0_m152 p0 p1 p2 p3))] [])) t → Steps p.tables e below (s₁.setTop (entryFrame m #[(.int p0), (.int p1), (.int p2), (.int p3)] maxLocals)) t := by
    by_cases hc384_118 : ((f0_v22 p0 p1 p2 p3) + (1 : Int32)) < (f0_v19 p0 p1 p2 p3)
    · have pre119 : ∀ t, Steps p.tables e below (T108.setTop (mkF m 389 #[.val (.int p0), .val (.int p1), .val (.int p2), .val (.int p3), .val (.ref b1), .val (.ref b25), .val (.int (p1 &&& (3 : Int32))), .val (.int (f0_v19 p0 p1 p2 p3)), .val (.int (f0_v20 p0 p1 p2 p3)), .val (.int (f0_v21 p0 p1 p2 p3)), .val (.int (f0_v22 p0 p1 p2 p3)), .val (.int (f0_v23 p0 p1 p2 p3)), .val (.ref b68), .val (.int (f0_v24 p0 p1 p2 p3)), .val (.int (f0_m116 p0 p1 p2 p3))] [(.int (f0_m116 p0 p1 p2 p3))])) t → Steps p.tables e below (s₁.setTop (entryFrame m #[(.int p0), (.int p1), (.int p2), (.int p3)] maxLocals)) t := fun t k => pre117 t (by
        show Steps p.tables e below (T108.setTop (mkF m 384 #[.val (.int p0), .val (.int p1), .val (.int p2), .val (.int p3), .val (.ref b1), .val (.ref b25), .val (.int (p1 &&& (3 : Int32))), .val (.int (f0_v19 p0 p1 p2 p3)), .val (.int (f0_v20 p0 p1 p2 p3)), .val (.int (f0_v21 p0 p1 p2 p3)), .val (.int (f0_v22 p0 p1 p2 p3)), .val (.int (f0_v23 p0 p1 p2 p3)), .val (.ref b68), .val (.int (f0_v24 p0 p1 p2 p3)), .val (.int (f0_m116 p0 p1 p2 p3))] [(.int (f0_v19 p0 p1 p2 p3)), (.int ((f0_v22 p0 p1 p2 p3) + (1 : Int32)))])) _
        refine XS.icmpNo X108.here hx rfl (hb hby at_384) rfl (tlt hc384_118).2.1 ?_
        show Steps p.tables e below (T108.setTop (mkF m 387 #[.val (.int p0), .val (.int p1), .val (.int p2), .val (.int p3), .val (.ref b1), .val (.ref b25), .val (.int (p1 &&& (3 : Int32))), .val (.int (f0_v19 p0 p1 p2 p3)), .val (.int (f0_v20 p0 p1 p2 p3)), .val (.int (f0_v21 p0 p1 p2 p3)), .val (.int (f0_v22 p0 p1 p2 p3)), .val (.int (f0_v23 p0 p1 p2 p3)), .val (.ref b68), .val (.int (f0_v24 p0 p1 p2 p3)), .val (.int (f0_m116 p0 p1 p2 p3))] [])) _
        refine XS.iload X108.here hx rfl (hb hby at_387) rfl ?_
        exact k)
      obtain ⟨T120, L120, X120, e120, N120, pre120⟩ : ∃ (T' : State) (locs' : List Loc), Stand p l e room_1 s m #[(.int p0), (.int p1), (.int p2), (.int p3)] below meth c T' locs' 7 88 ∧ T'.heap = T88.heap ∧ Fr n0 locs' ∧ ∀ t, Steps p.tables e below (T'.setTop (mkF m 413 #[.val (.int p0), .val (.int p1), .val (.int p2), .val (.int p3), .val (.ref b1), .val (.ref b25), .val (.int (p1 &&& (3 : Int32))), .val (.int (f0_v19 p0 p1 p2 p3)), .val (.int (f0_v20 p0 p1 p2 p3)), .val (.int (f0_v21 p0 p1 p2 p3)), .val (.int (f0_v22 p0 p1 p2 p3)), .val (.int (f0_v23 p0 p1 p2 p3)), .val (.ref b68), .val (.int (f0_v24 p0 p1 p2 p3)), .val (.int (f0_m116 p0 p1 p2 p3))] [(.int (f0_m127 p0 p1 p2 p3))])) t → Steps p.tables e below (s₁.setTop (entryFrame m #[(.int p0), (.int p1), (.int p2), (.int p3)] maxLocals)) t := by
        by_cases hc389_120 : (f0_m116 p0 p1 p2 p3) = (0 : Int32)
        · have pre121 : ∀ t, Steps p.tables e below (T108.setTop (mkF m 413 #[.val (.int p0), .val (.int p1), .val (.int p2), .val (.int p3), .val (.ref b1), .val (.ref b25), .val (.int (p1 &&& (3 : Int32))), .val (.int (f0_v19 p0 p1 p2 p3)), .val (.int (f0_v20 p0 p1 p2 p3)), .val (.int (f0_v21 p0 p1 p2 p3)), .val (.int (f0_v22 p0 p1 p2 p3)), .val (.int (f0_v23 p0 p1 p2 p3)), .val (.ref b68), .val (.int (f0_v24 p0 p1 p2 p3)), .val (.int (f0_m116 p0 p1 p2 p3))] [(.int (0 : Int32))])) t → Steps p.tables e below (s₁.setTop (entryFrame m #[(.int p0), (.int p1), (.int p2), (.int p3)] maxLocals)) t := fun t k => pre119 t (by
            show Steps p.tables e below (T108.setTop (mkF m 389 #[.val (.int p0), .val (.int p1), .val (.int p2), .val (.int p3), .val (.ref b1), .val (.ref b25), .val (.int (p1 &&& (3 : Int32))), .val (.int (f0_v19 p0 p1 p2 p3)), .val (.int (f0_v20 p0 p1 p2 p3)), .val (.int (f0_v21 p0 p1 p2 p3)), .val (.int (f0_v22 p0 p1 p2 p3)), .val (.int (f0_v23 p0 p1 p2 p3)), .val (.ref b68), .val (.int (f0_v24 p0 p1 p2 p3)), .val (.int (f0_m116 p0 p1 p2 p3))] [(.int (f0_m116 p0 p1 p2 p3))])) _
            refine XS.ifYes X108.here hx rfl (pc0 := 389) (pc' := 412) rfl (hb hby at_389) rfl ((if0 _ _).trans (teq hc389_120).1) (by decide) (by decide) ?_
            show Steps p.tables e below (T108.setTop (mkF m 412 #[.val (.int p0), .val (.int p1), .val (.int p2), .val (.int p3), .val (.ref b1), .val (.ref b25), .val (.int (p1 &&& (3 : Int32))), .val (.int (f0_v19 p0 p1 p2 p3)), .val (.int (f0_v20 p0 p1 p2 p3)), .val (.int (f0_v21 p0 p1 p2 p3)), .val (.int (f0_v22 p0 p1 p2 p3)), .val (.int (f0_v23 p0 p1 p2 p3)), .val (.ref b68), .val (.int (f0_v24 p0 p1 p2 p3)), .val (.int (f0_m116 p0 p1 p2 p3))] [])) _
            refine XS.iconst X108.here hx rfl (hb hby at_412) ?_
            exact k)
          have q_f0_m127 : f0_m127 p0 p1 p2 p3 = (0 : Int32) := by unfold f0_m127; rw [if_pos hc389_120]
          rw [q_f0_m127]
          exact ⟨T108, _, X108, e108, N108, pre121⟩
        obtain ⟨cq122, kq122, q122a, q122b, q122c⟩ := isOf hZ e108 u88_0
        obtain ⟨_, _, ⟨T122, L122, k122, n122⟩, -, X122, ⟨Lc122, hQ122, l122, y122, z122⟩, st122⟩ := X108.virtualBack hx (y := (⟨"com/example/frugal_synth/frugalsynth/Arena", "firstChoice", "(II)I"⟩ : MethodName)) (z := (⟨"com/example/frugal_synth/frugalsynth/Arena", "firstChoice", "(II)I"⟩ : MethodName)) hown (mvT hZ (hw _ (List.mem_of_getElem? (i := 31) rfl))) (mvT hZ (hw _ (List.mem_of_getElem? (i := 32) rfl))) (notFace_of_selects (args := #[]) (mvT hZ (hw _ (List.mem_of_getElem? (i := 34) rfl)))) (mvT hZ (hw _ (List.mem_of_getElem? (i := 34) rfl))) (mvT hZ (hw _ (List.mem_of_getElem? (i := 33) rfl))) (by decide) (backOf (W := 1) (rm4 l Z a0' hw [] b68 (f0_v21 p0 p1 p2 p3) ((f0_v22 p0 p1 p2 p3) + (1 : Int32)) b25 (f0_v19 p0 p1 p2 p3) [(0 : Int32), ((0 : Int32) + (p0 &&& (3 : Int32))), (f0_v12 p0 p1 p2 p3), (f0_v13 p0 p1 p2 p3), (f0_v14 p0 p1 p2 p3), (f0_v15 p0 p1 p2 p3), (f0_v16 p0 p1 p2 p3), (f0_v17 p0 p1 p2 p3), (f0_v18 p0 p1 p2 p3)] (9 : Int32) k25 T88.heap n0 Z88 y98 u88_2 u88_1 (own_i2 p0 p1 p2 p3)) hZ (hw _ (List.mem_of_getElem? (i := 35) rfl)) (hw _ (List.mem_of_getElem? (i := 4) rfl)) (by decide) (by decide)) q122a q122c (g := (mkF m 402 #[.val (.int p0), .val (.int p1), .val (.int p2), .val (.int p3), .val (.ref b1), .val (.ref b25), .val (.int (p1 &&& (3 : Int32))), .val (.int (f0_v19 p0 p1 p2 p3)), .val (.int (f0_v20 p0 p1 p2 p3)), .val (.int (f0_v21 p0 p1 p2 p3)), .val (.int (f0_v22 p0 p1 p2 p3)), .val (.int (f0_v23 p0 p1 p2 p3)), .val (.ref b68), .val (.int (f0_v24 p0 p1 p2 p3)), .val (.int (f0_m116 p0 p1 p2 p3))] [(.int ((f0_v22 p0 p1 p2 p3) + (1 : Int32))), (.int (f0_v21 p0 p1 p2 p3)), (.ref b68), (.int (f0_v24 p0 p1 p2 p3))])) rfl (by rw [hml]; rfl) (Steps.refl _) (argsL := [(.int (f0_v21 p0 p1 p2 p3)), (.int ((f0_v22 p0 p1 p2 p3) + (1 : Int32)))]) (rest := [(.int (f0_v24 p0 p1 p2 p3))]) (lenOf pd1 rfl) rfl (by show 2 * 0 + _ ≤ _; exact Nat.le_of_eq rfl) (hb hby at_402) (fun _ _ => ⟨rfl, e108, (by decide : 7 + 0 ≤ _), (by decide : 88 + 0 ≤ _)⟩)
        dsimp only [Pt.U, Pt.locs, Pt.cells, Pt.slots] at X122 l122 y122 z122 st122 hQ122
        subst l122 y122 z122
        obtain ⟨rfl, N122q, e122⟩ := hQ122
        have N122 := Fr.app N108 N122q
        have pre123 : ∀ t, Steps p.tables e below (T122.setTop (mkF m 405 #[.val (.int p0), .val (.int p1), .val (.int p2), .val (.int p3), .val (.ref b1), .val (.ref b25), .val (.int (p1 &&& (3 : Int32))), .val (.int (f0_v19 p0 p1 p2 p3)), .val (.int (f0_v20 p0 p1 p2 p3)), .val (.int (f0_v21 p0 p1 p2 p3)), .val (.int (f0_v22 p0 p1 p2 p3)), .val (.int (f0_v23 p0 p1 p2 p3)), .val (.ref b68), .val (.int (f0_v24 p0 p1 p2 p3)), .val (.int (f0_m116 p0 p1 p2 p3))] [(.int (f0_v28 p0 p1 p2 p3)), (.int (f0_v24 p0 p1 p2 p3))])) t → Steps p.tables e below (s₁.setTop (entryFrame m #[(.int p0), (.int p1), (.int p2), (.int p3)] maxLocals)) t := fun t k => pre119 t (by
          show Steps p.tables e below (T108.setTop (mkF m 389 #[.val (.int p0), .val (.int p1), .val (.int p2), .val (.int p3), .val (.ref b1), .val (.ref b25), .val (.int (p1 &&& (3 : Int32))), .val (.int (f0_v19 p0 p1 p2 p3)), .val (.int (f0_v20 p0 p1 p2 p3)), .val (.int (f0_v21 p0 p1 p2 p3)), .val (.int (f0_v22 p0 p1 p2 p3)), .val (.int (f0_v23 p0 p1 p2 p3)), .val (.ref b68), .val (.int (f0_v24 p0 p1 p2 p3)), .val (.int (f0_m116 p0 p1 p2 p3))] [(.int (f0_m116 p0 p1 p2 p3))])) _
          refine XS.ifNo X108.here hx rfl (hb hby at_389) rfl ((if0 _ _).trans (feq hc389_120).1) ?_
          show Steps p.tables e below (T108.setTop (mkF m 392 #[.val (.int p0), .val (.int p1), .val (.int p2), .val (.int p3), .val (.ref b1), .val (.ref b25), .val (.int (p1 &&& (3 : Int32))), .val (.int (f0_v19 p0 p1 p2 p3)), .val (.int (f0_v20 p0 p1 p2 p3)), .val (.int (f0_v21 p0 p1 p2 p3)), .val (.int (f0_v22 p0 p1 p2 p3)), .val (.int (f0_v23 p0 p1 p2 p3)), .val (.ref b68), .val (.int (f0_v24 p0 p1 p2 p3)), .val (.int (f0_m116 p0 p1 p2 p3))] [])) _
          refine XS.iload X108.here hx rfl (hb hby at_392) rfl ?_
          show Steps p.tables e below (T108.setTop (mkF m 394 #[.val (.int p0), .val (.int p1), .val (.int p2), .val (.int p3), .val (.ref b1), .val (.ref b25), .val (.int (p1 &&& (3 : Int32))), .val (.int (f0_v19 p0 p1 p2 p3)), .val (.int (f0_v20 p0 p1 p2 p3)), .val (.int (f0_v21 p0 p1 p2 p3)), .val (.int (f0_v22 p0 p1 p2 p3)), .val (.int (f0_v23 p0 p1 p2 p3)), .val (.ref b68), .val (.int (f0_v24 p0 p1 p2 p3)), .val (.int (f0_m116 p0 p1 p2 p3))] [(.int (f0_v24 p0 p1 p2 p3))])) _
          refine XS.aload X108.here hx rfl (hb hby at_394) rfl rfl ?_
          show Steps p.tables e below (T108.setTop (mkF m 396 #[.val (.int p0), .val (.int p1), .val (.int p2), .val (.int p3), .val (.ref b1), .val (.ref b25), .val (.int (p1 &&& (3 : Int32))), .val (.int (f0_v19 p0 p1 p2 p3)), .val (.int (f0_v20 p0 p1 p2 p3)), .val (.int (f0_v21 p0 p1 p2 p3)), .val (.int (f0_v22 p0 p1 p2 p3)), .val (.int (f0_v23 p0 p1 p2 p3)), .val (.ref b68), .val (.int (f0_v24 p0 p1 p2 p3)), .val (.int (f0_m116 p0 p1 p2 p3))] [(.ref b68), (.int (f0_v24 p0 p1 p2 p3))])) _
          refine XS.iload X108.here hx rfl (hb hby at_396) rfl ?_
          show Steps p.tables e below (T108.setTop (mkF m 398 #[.val (.int p0), .val (.int p1), .val (.int p2), .val (.int p3), .val (.ref b1), .val (.ref b25), .val (.int (p1 &&& (3 : Int32))), .val (.int (f0_v19 p0 p1 p2 p3)), .val (.int (f0_v20 p0 p1 p2 p3)), .val (.int (f0_v21 p0 p1 p2 p3)), .val (.int (f0_v22 p0 p1 p2 p3)), .val (.int (f0_v23 p0 p1 p2 p3)), .val (.ref b68), .val (.int (f0_v24 p0 p1 p2 p3)), .val (.int (f0_m116 p0 p1 p2 p3))] [(.int (f0_v21 p0 p1 p2 p3)), (.ref b68), (.int (f0_v24 p0 p1 p2 p3))])) _
          refine XS.iload X108.here hx rfl (hb hby at_398) rfl ?_
          show Steps p.tables e below (T108.setTop (mkF m 400 #[.val (.int p0), .val (.int p1), .val (.int p2), .val (.int p3), .val (.ref b1), .val (.ref b25), .val (.int (p1 &&& (3 : Int32))), .val (.int (f0_v19 p0 p1 p2 p3)), .val (.int (f0_v20 p0 p1 p2 p3)), .val (.int (f0_v21 p0 p1 p2 p3)), .val (.int (f0_v22 p0 p1 p2 p3)), .val (.int (f0_v23 p0 p1 p2 p3)), .val (.ref b68), .val (.int (f0_v24 p0 p1 p2 p3)), .val (.int (f0_m116 p0 p1 p2 p3))] [(.int (f0_v22 p0 p1 p2 p3)), (.int (f0_v21 p0 p1 p2 p3)), (.ref b68), (.int (f0_v24 p0 p1 p2 p3))])) _
          refine XS.iconst X108.here hx rfl (hb hby at_400) ?_
          show Steps p.tables e below (T108.setTop (mkF m 401 #[.val (.int p0), .val (.int p1), .val (.int p2), .val (.int p3), .val (.ref b1), .val (.ref b25), .val (.int (p1 &&& (3 : Int32))), .val (.int (f0_v19 p0 p1 p2 p3)), .val (.int (f0_v20 p0 p1 p2 p3)), .val (.int (f0_v21 p0 p1 p2 p3)), .val (.int (f0_v22 p0 p1 p2 p3)), .val (.int (f0_v23 p0 p1 p2 p3)), .val (.ref b68), .val (.int (f0_v24 p0 p1 p2 p3)), .val (.int (f0_m116 p0 p1 p2 p3))] [(.int (1 : Int32)), (.int (f0_v22 p0 p1 p2 p3)), (.int (f0_v21 p0 p1 p2 p3)), (.ref b68), (.int (f0_v24 p0 p1 p2 p3))])) _
          refine XS.iadd X108.here hx rfl (hb hby at_401) rfl ?_
          show Steps p.tables e below (T108.setTop (mkF m 402 #[.val (.int p0), .val (.int p1), .val (.int p2), .val (.int p3), .val (.ref b1), .val (.ref b25), .val (.int (p1 &&& (3 : Int32))), .val (.int (f0_v19 p0 p1 p2 p3)), .val (.int (f0_v20 p0 p1 p2 p3)), .val (.int (f0_v21 p0 p1 p2 p3)), .val (.int (f0_v22 p0 p1 p2 p3)), .val (.int (f0_v23 p0 p1 p2 p3)), .val (.ref b68), .val (.int (f0_v24 p0 p1 p2 p3)), .val (.int (f0_m116 p0 p1 p2 p3))] [(.int ((f0_v22 p0 p1 p2 p3) + (1 : Int32))), (.int (f0_v21 p0 p1 p2 p3)), (.ref b68), (.int (f0_v24 p0 p1 p2 p3))])) _
          refine st122.trans ?_
          exact k)
        by_cases hc405_124 : (f0_v24 p0 p1 p2 p3) = (f0_v28 p0 p1 p2 p3)
        · have pre125 : ∀ t, Steps p.tables e below (T122.setTop (mkF m 413 #[.val (.int p0), .val (.int p1), .val (.int p2), .val (.int p3), .val (.ref b1), .val (.ref b25), .val (.int (p1 &&& (3 : Int32))), .val (.int (f0_v19 p0 p1 p2 p3)), .val (.int (f0_v20 p0 p1 p2 p3)), .val (.int (f0_v21 p0 p1 p2 p3)), .val (.int (f0_v22 p0 p1 p2 p3)), .val (.int (f0_v23 p0 p1 p2 p3)), .val (.ref b68), .val (.int (f0_v24 p0 p1 p2 p3)), .val (.int (f0_m116 p0 p1 p2 p3))] [(.int (1 : Int32))])) t → Steps p.tables e below (s₁.setTop (entryFrame m #[(.int p0), (.int p1), (.int p2), (.int p3)] maxLocals)) t := fun t k => pre123 t (by
            show Steps p.tables e below (T122.setTop (mkF m 405 #[.val (.int p0), .val (.int p1), .val (.int p2), .val (.int p3), .val (.ref b1), .val (.ref b25), .val (.int (p1 &&& (3 : Int32))), .val (.int (f0_v19 p0 p1 p2 p3)), .val (.int (f0_v20 p0 p1 p2 p3)), .val (.int (f0_v21 p0 p1 p2 p3)), .val (.int (f0_v22 p0 p1 p2 p3)), .val (.int (f0_v23 p0 p1 p2 p3)), .val (.ref b68), .val (.int (f0_v24 p0 p1 p2 p3)), .val (.int (f0_m116 p0 p1 p2 p3))] [(.int (f0_v28 p0 p1 p2 p3)), (.int (f0_v24 p0 p1 p2 p3))])) _
            refine XS.icmpNo X122.here hx rfl (hb hby at_405) rfl (teq hc405_124).2 ?_
            show Steps p.tables e below (T122.setTop (mkF m 408 #[.val (.int p0), .val (.int p1), .val (.int p2), .val (.int p3), .val (.ref b1), .val (.ref b25), .val (.int (p1 &&& (3 : Int32))), .val (.int (f0_v19 p0 p1 p2 p3)), .val (.int (f0_v20 p0 p1 p2 p3)), .val (.int (f0_v21 p0 p1 p2 p3)), .val (.int (f0_v22 p0 p1 p2 p3)), .val (.int (f0_v23 p0 p1 p2 p3)), .val (.ref b68), .val (.int (f0_v24 p0 p1 p2 p3)), .val (.int (f0_m116 p0 p1 p2 p3))] [])) _
            refine XS.iconst X122.here hx rfl (hb hby at_408) ?_
            show Steps p.tables e below (T122.setTop (mkF m 409 #[.val (.int p0), .val (.int p1), .val (.int p2), .val (.int p3), .val (.ref b1), .val (.ref b25), .val (.int (p1 &&& (3 : Int32))), .val (.int (f0_v19 p0 p1 p2 p3)), .val (.int (f0_v20 p0 p1 p2 p3)), .val (.int (f0_v21 p0 p1 p2 p3)), .val (.int (f0_v22 p0 p1 p2 p3)), .val (.int (f0_v23 p0 p1 p2 p3)), .val (.ref b68), .val (.int (f0_v24 p0 p1 p2 p3)), .val (.int (f0_m116 p0 p1 p2 p3))] [(.int (1 : Int32))])) _
            refine XS.goto X122.here hx rfl (pc0 := 409) (pc' := 413) rfl (hb hby at_409) (by decide) (by decide) ?_
            exact k)
          have q_f0_m127 : f0_m127 p0 p1 p2 p3 = (1 : Int32) := by unfold f0_m127; rw [if_neg hc389_120, if_pos hc405_124]
          rw [q_f0_m127]
          exact ⟨T122, _, X122, e122, N122, pre125⟩
        have pre126 : ∀ t, Steps p.tables e below (T122.setTop (mkF m 413 #[.val (.int p0), .val (.int p1), .val (.int p2), .val (.int p3), .val (.ref b1), .val (.ref b25), .val (.int (p1 &&& (3 : Int32))), .val (.int (f0_v19 p0 p1 p2 p3)), .val (.int (f0_v20 p0 p1 p2 p3)), .val (.int (f0_v21 p0 p1 p2 p3)), .val (.int (f0_v22 p0 p1 p2 p3)), .val (.int (f0_v23 p0 p1 p2 p3)), .val (.ref b68), .val (.int (f0_v24 p0 p1 p2 p3)), .val (.int (f0_m116 p0 p1 p2 p3))] [(.int (0 : Int32))])) t → Steps p.tables e below (s₁.setTop (entryFrame m #[(.int p0), (.int p1), (.int p2), (.int p3)] maxLocals)) t := fun t k => pre123 t (by
          show Steps p.tables e below (T122.setTop (mkF m 405 #[.val (.int p0), .val (.int p1), .val (.int p2), .val (.int p3), .val (.ref b1), .val (.ref b25), .val (.int (p1 &&& (3 : Int32))), .val (.int (f0_v19 p0 p1 p2 p3)), .val (.int (f0_v20 p0 p1 p2 p3)), .val (.int (f0_v21 p0 p1 p2 p3)), .val (.int (f0_v22 p0 p1 p2 p3)), .val (.int (f0_v23 p0 p1 p2 p3)), .val (.ref b68), .val (.int (f0_v24 p0 p1 p2 p3)), .val (.int (f0_m116 p0 p1 p2 p3))] [(.int (f0_v28 p0 p1 p2 p3)), (.int (f0_v24 p0 p1 p2 p3))])) _
          refine XS.icmpYes X122.here hx rfl (pc0 := 405) (pc' := 412) rfl (hb hby at_405) rfl (feq hc405_124).2 (by decide) (by decide) ?_
          show Steps p.tables e below (T122.setTop (mkF m 412 #[.val (.int p0), .val (.int p1), .val (.int p2), .val (.int p3), .val (.ref b1), .val (.ref b25), .val (.int (p1 &&& (3 : Int32))), .val (.int (f0_v19 p0 p1 p2 p3)), .val (.int (f0_v20 p0 p1 p2 p3)), .val (.int (f0_v21 p0 p1 p2 p3)), .val (.int (f0_v22 p0 p1 p2 p3)), .val (.int (f0_v23 p0 p1 p2 p3)), .val (.ref b68), .val (.int (f0_v24 p0 p1 p2 p3)), .val (.int (f0_m116 p0 p1 p2 p3))] [])) _
          refine XS.iconst X122.here hx rfl (hb hby at_412) ?_
          exact k)
        have q_f0_m127 : f0_m127 p0 p1 p2 p3 = (0 : Int32) := by unfold f0_m127; rw [if_neg hc389_120, if_neg hc405_124]
        rw [q_f0_m127]
        exact ⟨T122, _, X122, e122, N122, pre126⟩
      have pre128 : ∀ t, Steps p.tables e below (T120.setTop (mkF m 479 #[.val (.int p0), .val (.int p1), .val (.int p2), .val (.int p3), .val (.ref b1), .val (.ref b25), .val (.int (p1 &&& (3 : Int32))), .val (.int (f0_v19 p0 p1 p2 p3)), .val (.int (f0_v20 p0 p1 p2 p3)), .val (.int (f0_v21 p0 p1 p2 p3)), .val (.int (f0_v22 p0 p1 p2 p3)), .val (.int (f0_v23 p0 p1 p2 p3)), .val (.ref b68), .val (.int (f0_v24 p0 p1 p2 p3)), .val (.int (f0_m127 p0 p1 p2 p3))] [])) t → Steps p.tables e below (s₁.setTop (entryFrame m #[(.int p0), (.int p1), (.int p2), (.int p3)] maxLocals)) t := fun t k => pre120 t (by
        show Steps p.tables e below (T120.setTop (mkF m 413 #[.val (.int p0), .val (.int p1), .val (.int p2), .val (.int p3), .val (.ref b1), .val (.ref b25), .val (.int (p1 &&& (3 : Int32))), .val (.int (f0_v19 p0 p1 p2 p3)), .val (.int (f0_v20 p0 p1 p2 p3)), .val (.int (f0_v21 p0 p1 p2 p3)), .val (.int (f0_v22 p0 p1 p2 p3)), .val (.int (f0_v23 p0 p1 p2 p3)), .val (.ref b68), .val (.int (f0_v24 p0 p1 p2 p3)), .val (.int (f0_m116 p0 p1 p2 p3))] [(.int (f0_m127 p0 p1 p2 p3))])) _
        refine XS.istore X120.here hx rfl (hb hby at_413) rfl (l' := #[.val (.int p0), .val (.int p1), .val (.int p2), .val (.int p3), .val (.ref b1), .val (.ref b25), .val (.int (p1 &&& (3 : Int32))), .val (.int (f0_v19 p0 p1 p2 p3)), .val (.int (f0_v20 p0 p1 p2 p3)), .val (.int (f0_v21 p0 p1 p2 p3)), .val (.int (f0_v22 p0 p1 p2 p3)), .val (.int (f0_v23 p0 p1 p2 p3)), .val (.ref b68), .val (.int (f0_v24 p0 p1 p2 p3)), .val (.int (f0_m127 p0 p1 p2 p3))]) rfl ?_
        show Steps p.tables e below (T120.setTop (mkF m 415 #[.val (.int p0), .val (.int p1), .val (.int p2), .val (.int p3), .val (.ref b1), .val (.ref b25), .val (.int (p1 &&& (3 : Int32))), .val (.int (f0_v19 p0 p1 p2 p3)), .val (.int (f0_v20 p0 p1 p2 p3)), .val (.int (f0_v21 p0 p1 p2 p3)), .val (.int (f0_v22 p0 p1 p2 p3)), .val (.int (f0_v23 p0 p1 p2 p3)), .val (.ref b68), .val (.int (f0_v24 p0 p1 p2 p3)), .val (.int (f0_m127 p0 p1 p2 p3))] [])) _
        refine XS.goto X120.here hx rfl (pc0 := 415) (pc' := 479) rfl (hb hby at_415) (by decide) (by decide) ?_
        exact k)
      have q_f0_m152 : f0_m152 p0 p1 p2 p3 = (f0_m127 p0 p1 p2 p3) := by unfold f0_m152; rw [if_pos hc384_118]
      rw [q_f0_m152]
      exact ⟨T120, _, X120, e120, N120, pre128⟩
    have pre129 : ∀ t, Steps p.tables e below (T108.setTop (mkF m 424 #[.val (.int p0), .val (.int p1), .val (.int p2), .val (.int p3), .val (.ref b1), .val (.ref b25), .val (.int (p1 &&& (3 : Int32))), .val (.int (f0_v19 p0 p1 p2 p3)), .val (.int (f0_v20 p0 p1 p2 p3)), .val (.int (f0_v21 p0 p1 p2 p3)), .val (.int (f0_v22 p0 p1 p2 p3)), .val (.int (f0_v23 p0 p1 p2 p3)), .val (.ref b68), .val (.int (f0_v24 p0 p1 p2 p3)), .val (.int (f0_m116 p0 p1 p2 p3))] [(.int (f0_v20 p0 p1 p2 p3)), (.int ((f0_v21 p0 p1 p2 p3) + (1 : Int32)))])) t → Steps p.tables e below (s₁.setTop (entryFrame m #[(.int p0), (.int p1), (.int p2), (.int p3)] maxLocals)) t := fun t k => pre117 t (by
      show Steps p.tables e below (T108.setTop (mkF m 384 #[.val (.int p0), .val (.int p1), .val (.int p2), .val (.int p3), .val (.ref b1), .val (.ref b25), .val (.int (p1 &&& (3 : Int32))), .val (.int (f0_v19 p0 p1 p2 p3)), .val (.int (f0_v20 p0 p1 p2 p3)), .val (.int (f0_v21 p0 p1 p2 p3)), .val (.int (f0_v22 p0 p1 p2 p3)), .val (.int (f0_v23 p0 p1 p2 p3)), .val (.ref b68), .val (.int (f0_v24 p0 p1 p2 p3)), .val (.int (f0_m116 p0 p1 p2 p3))] [(.int (f0_v19 p0 p1 p2 p3)), (.int ((f0_v22 p0 p1 p2 p3) + (1 : Int32)))])) _
      refine XS.icmpYes X108.here hx rfl (pc0 := 384) (pc' := 418) rfl (hb hby at_384) rfl (flt hc384_118).2.1 (by decide) (by decide) ?_
      show Steps p.tables e below (T108.setTop (mkF m 418 #[.val (.int p0), .val (.int p1), .val (.int p2), .val (.int p3), .val (.ref b1), .val (.ref b25), .val (.int (p1 &&& (3 : Int32))), .val (.int (f0_v19 p0 p1 p2 p3)), .val (.int (f0_v20 p0 p1 p2 p3)), .val (.int (f0_v21 p0 p1 p2 p3)), .val (.int (f0_v22 p0 p1 p2 p3)), .val (.int (f0_v23 p0 p1 p2 p3)), .val (.ref b68), .val (.int (f0_v24 p0 p1 p2 p3)), .val (.int (f0_m116 p0 p1 p2 p3))] [])) _
      refine XS.iload X108.here hx rfl (hb hby at_418) rfl ?_
      show Steps p.tables e below (T108.setTop (mkF m 420 #[.val (.int p0), .val (.int p1), .val (.int p2), .val (.int p3), .val (.ref b1), .val (.ref b25), .val (.int (p1 &&& (3 : Int32))), .val (.int (f0_v19 p0 p1 p2 p3)), .val (.int (f0_v20 p0 p1 p2 p3)), .val (.int (f0_v21 p0 p1 p2 p3)), .val (.int (f0_v22 p0 p1 p2 p3)), .val (.int (f0_v23 p0 p1 p2 p3)), .val (.ref b68), .val (.int (f0_v24 p0 p1 p2 p3)), .val (.int (f0_m116 p0 p1 p2 p3))] [(.int (f0_v21 p0 p1 p2 p3))])) _
      refine XS.iconst X108.here hx rfl (hb hby at_420) ?_
      show Steps p.tables e below (T108.setTop (mkF m 421 #[.val (.int p0), .val (.int p1), .val (.int p2), .val (.int p3), .val (.ref b1), .val (.ref b25), .val (.int (p1 &&& (3 : Int32))), .val (.int (f0_v19 p0 p1 p2 p3)), .val (.int (f0_v20 p0 p1 p2 p3)), .val (.int (f0_v21 p0 p1 p2 p3)), .val (.int (f0_v22 p0 p1 p2 p3)), .val (.int (f0_v23 p0 p1 p2 p3)), .val (.ref b68), .val (.int (f0_v24 p0 p1 p2 p3)), .val (.int (f0_m116 p0 p1 p2 p3))] [(.int (1 : Int32)), (.int (f0_v21 p0 p1 p2 p3))])) _
      refine XS.iadd X108.here hx rfl (hb hby at_421) rfl ?_
      show Steps p.tables e below (T108.setTop (mkF m 422 #[.val (.int p0), .val (.int p1), .val (.int p2), .val (.int p3), .val (.ref b1), .val (.ref b25), .val (.int (p1 &&& (3 : Int32))), .val (.int (f0_v19 p0 p1 p2 p3)), .val (.int (f0_v20 p0 p1 p2 p3)), .val (.int (f0_v21 p0 p1 p2 p3)), .val (.int (f0_v22 p0 p1 p2 p3)), .val (.int (f0_v23 p0 p1 p2 p3)), .val (.ref b68), .val (.int (f0_v24 p0 p1 p2 p3)), .val (.int (f0_m116 p0 p1 p2 p3))] [(.int ((f0_v21 p0 p1 p2 p3) + (1 : Int32)))])) _
      refine XS.iload X108.here hx rfl (hb hby at_422) rfl ?_
      exact k)
    by_cases hc424_130 : ((f0_v21 p0 p1 p2 p3) + (1 : Int32)) < (f0_v20 p0 p1 p2 p3)
    · have pre131 : ∀ t, Steps p.tables e below (T108.setTop (mkF m 429 #[.val (.int p0), .val (.int p1), .val (.int p2), .val (.int p3), .val (.ref b1), .val (.ref b25), .val (.int (p1 &&& (3 : Int32))), .val (.int (f0_v19 p0 p1 p2 p3)), .val (.int (f0_v20 p0 p1 p2 p3)), .val (.int (f0_v21 p0 p1 p2 p3)), .val (.int (f0_v22 p0 p1 p2 p3)), .val (.int (f0_v23 p0 p1 p2 p3)), .val (.ref b68), .val (.int (f0_v24 p0 p1 p2 p3)), .val (.int (f0_m116 p0 p1 p2 p3))] [(.int (f0_m116 p0 p1 p2 p3))])) t → Steps p.tables e below (s₁.setTop (entryFrame m #[(.int p0), (.int p1), (.int p2), (.int p3)] maxLocals)) t := fun t k => pre129 t (by
        show Steps p.tables e below (T108.setTop (mkF m 424 #[.val (.int p0), .val (.int p1), .val (.int p2), .val (.int p3), .val (.ref b1), .val (.ref b25), .val (.int (p1 &&& (3 : Int32))), .val (.int (f0_v19 p0 p1 p2 p3)), .val (.int (f0_v20 p0 p1 p2 p3)), .val (.int (f0_v21 p0 p1 p2 p3)), .val (.int (f0_v22 p0 p1 p2 p3)), .val (.int (f0_v23 p0 p1 p2 p3)), .val (.ref b68), .val (.int (f0_v24 p0 p1 p2 p3)), .val (.int (f0_m116 p0 p1 p2 p3))] [(.int (f0_v20 p0 p1 p2 p3)), (.int ((f0_v21 p0 p1 p2 p3) + (1 : Int32)))])) _
        refine XS.icmpNo X108.here hx rfl (hb hby at_424) rfl (tlt hc424_130).2.1 ?_
        show Steps p.tables e below (T108.setTop (mkF m 427 #[.val (.int p0), .val (.int p1), .val (.int p2), .val (.int p3), .val (.ref b1), .val (.ref b25), .val (.int (p1 &&& (3 : Int32))), .val (.int (f0_v19 p0 p1 p2 p3)), .val (.int (f0_v20 p0 p1 p2 p3)), .val (.int (f0_v21 p0 p1 p2 p3)), .val (.int (f0_v22 p0 p1 p2 p3)), .val (.int (f0_v23 p0 p1 p2 p3)), .val (.ref b68), .val (.int (f0_v24 p0 p1 p2 p3)), .val (.int (f0_m116 p0 p1 p2 p3))] [])) _
        refine XS.iload X108.here hx rfl (hb hby at_427) rfl ?_
        exact k)
      obtain ⟨T132, L132, X132, e132, N132, pre132⟩ : ∃ (T' : State) (locs' : List Loc), Stand p l e room_1 s m #[(.int p0), (.int p1), (.int p2), (.int p3)] below meth c T' locs' 7 88 ∧ T'.heap = T88.heap ∧ Fr n0 locs' ∧ ∀ t, Steps p.tables e below (T'.setTop (mkF m 452 #[.val (.int p0), .val (.int p1), .val (.int p2), .val (.int p3), .val (.ref b1), .val (.ref b25), .val (.int (p1 &&& (3 : Int32))), .val (.int (f0_v19 p0 p1 p2 p3)), .val (.int (f0_v20 p0 p1 p2 p3)), .val (.int (f0_v21 p0 p1 p2 p3)), .val (.int (f0_v22 p0 p1 p2 p3)), .val (.int (f0_v23 p0 p1 p2 p3)), .val (.ref b68), .val (.int (f0_v24 p0 p1 p2 p3)), .val (.int (f0_m116 p0 p1 p2 p3))] [(.int (f0_m139 p0 p1 p2 p3))])) t → Steps p.tables e below (s₁.setTop (entryFrame m #[(.int p0), (.int p1), (.int p2), (.int p3)] maxLocals)) t := by
        by_cases hc429_132 : (f0_m116 p0 p1 p2 p3) = (0 : Int32)
        · have pre133 : ∀ t, Steps p.tables e below (T108.setTop (mkF m 452 #[.val (.int p0), .val (.int p1), .val (.int p2), .val (.int p3), .val (.ref b1), .val (.ref b25), .val (.int (p1 &&& (3 : Int32))), .val (.int (f0_v19 p0 p1 p2 p3)), .val (.int (f0_v20 p0 p1 p2 p3)), .val (.int (f0_v21 p0 p1 p2 p3)), .val (.int (f0_v22 p0 p1 p2 p3)), .val (.int (f0_v23 p0 p1 p2 p3)), .val (.ref b68), .val (.int (f0_v24 p0 p1 p2 p3)), .val (.int (f0_m116 p0 p1 p2 p3))] [(.int (0 : Int32))])) t → Steps p.tables e below (s₁.setTop (entryFrame m #[(.int p0), (.int p1), (.int p2), (.int p3)] maxLocals)) t := fun t k => pre131 t (by
            show Steps p.tables e below (T108.setTop (mkF m 429 #[.val (.int p0), .val (.int p1), .val (.int p2), .val (.int p3), .val (.ref b1), .val (.ref b25), .val (.int (p1 &&& (3 : Int32))), .val (.int (f0_v19 p0 p1 p2 p3)), .val (.int (f0_v20 p0 p1 p2 p3)), .val (.int (f0_v21 p0 p1 p2 p3)), .val (.int (f0_v22 p0 p1 p2 p3)), .val (.int (f0_v23 p0 p1 p2 p3)), .val (.ref b68), .val (.int (f0_v24 p0 p1 p2 p3)), .val (.int (f0_m116 p0 p1 p2 p3))] [(.int (f0_m116 p0 p1 p2 p3))])) _
            refine XS.ifYes X108.here hx rfl (pc0 := 429) (pc' := 451) rfl (hb hby at_429) rfl ((if0 _ _).trans (teq hc429_132).1) (by decide) (by decide) ?_
            show Steps p.tables e below (T108.setTop (mkF m 451 #[.val (.int p0), .val (.int p1), .val (.int p2), .val (.int p3), .val (.ref b1), .val (.ref b25), .val (.int (p1 &&& (3 : Int32))), .val (.int (f0_v19 p0 p1 p2 p3)), .val (.int (f0_v20 p0 p1 p2 p3)), .val (.int (f0_v21 p0 p1 p2 p3)), .val (.int (f0_v22 p0 p1 p2 p3)), .val (.int (f0_v23 p0 p1 p2 p3)), .val (.ref b68), .val (.int (f0_v24 p0 p1 p2 p3)), .val (.int (f0_m116 p0 p1 p2 p3))] [])) _
            refine XS.iconst X108.here hx rfl (hb hby at_451) ?_
            exact k)
          have q_f0_m139 : f0_m139 p0 p1 p2 p3 = (0 : Int32) := by unfold f0_m139; rw [if_pos hc429_132]
          rw [q_f0_m139]
          exact ⟨T108, _, X108, e108, N108, pre133⟩
        obtain ⟨cq134, kq134, q134a, q134b, q134c⟩ := isOf hZ e108 u88_0
        obtain ⟨_, _, ⟨T134, L134, k134, n134⟩, -, X134, ⟨Lc134, hQ134, l134, y134, z134⟩, st134⟩ := X108.virtualBack hx (y := (⟨"com/example/frugal_synth/frugalsynth/Arena", "firstChoice", "(II)I"⟩ : MethodName)) (z := (⟨"com/example/frugal_synth/frugalsynth/Arena", "firstChoice", "(II)I"⟩ : MethodName)) hown (mvT hZ (hw _ (List.mem_of_getElem? (i := 31) rfl))) (mvT hZ (hw _ (List.mem_of_getElem? (i := 32) rfl))) (notFace_of_selects (args := #[]) (mvT hZ (hw _ (List.mem_of_getElem? (i := 34) rfl)))) (mvT hZ (hw _ (List.mem_of_getElem? (i := 34) rfl))) (mvT hZ (hw _ (List.mem_of_getElem? (i := 33) rfl))) (by decide) (backOf (W := 1) (rm4 l Z a0' hw [] b68 ((f0_v21 p0 p1 p2 p3) + (1 : Int32)) (0 : Int32) b25 (f0_v19 p0 p1 p2 p3) [(0 : Int32), ((0 : Int32) + (p0 &&& (3 : Int32))), (f0_v12 p0 p1 p2 p3), (f0_v13 p0 p1 p2 p3), (f0_v14 p0 p1 p2 p3), (f0_v15 p0 p1 p2 p3), (f0_v16 p0 p1 p2 p3), (f0_v17 p0 p1 p2 p3), (f0_v18 p0 p1 p2 p3)] (9 : Int32) k25 T88.heap n0 Z88 y98 u88_2 u88_1 (own_i3 p0 p1 p2 p3)) hZ (hw _ (List.mem_of_getElem? (i := 35) rfl)) (hw _ (List.mem_of_getElem? (i := 4) rfl)) (by decide) (by decide)) q134a q134c (g := (mkF m 441 #[.val (.int p0), .val (.int p1), .val (.int p2), .val (.int p3), .val (.ref b1), .val (.ref b25), .val (.int (p1 &&& (3 : Int32))), .val (.int (f0_v19 p0 p1 p2 p3)), .val (.int (f0_v20 p0 p1 p2 p3)), .val (.int (f0_v21 p0 p1 p2 p3)), .val (.int (f0_v22 p0 p1 p2 p3)), .val (.int (f0_v23 p0 p1 p2 p3)), .val (.ref b68), .val (.int (f0_v24 p0 p1 p2 p3)), .val (.int (f0_m116 p0 p1 p2 p3))] [(.int (0 : Int32)), (.int ((f0_v21 p0 p1 p2 p3) + (1 : Int32))), (.ref b68), (.int (f0_v24 p0 p1 p2 p3))])) rfl (by rw [hml]; rfl) (Steps.refl _) (argsL := [(.int ((f0_v21 p0 p1 p2 p3) + (1 : Int32))), (.int (0 : Int32))]) (rest := [(.int (f0_v24 p0 p1 p2 p3))]) (lenOf pd1 rfl) rfl (by show 2 * 0 + _ ≤ _; exact Nat.le_of_eq rfl) (hb hby at_441) (fun _ _ => ⟨rfl, e108, (by decide : 7 + 0 ≤ _), (by decide : 88 + 0 ≤ _)⟩)
        dsimp only [Pt.U, Pt.locs, Pt.cells, Pt.slots] at X134 l134 y134 z134 st134 hQ134
        subst l134 y134 z134
        obtain ⟨rfl, N134q, e134⟩ := hQ134
        have N134 := Fr.app N108 N134q
        have pre135 : ∀ t, Steps p.tables e below (T134.setTop (mkF m 444 #[.val (.int p0), .val (.int p1), .val (.int p2), .val (.int p3), .val (.ref b1), .val (.ref b25), .val (.int (p1 &&& (3 : Int32))), .val (.int (f0_v19 p0 p1 p2 p3)), .val (.int (f0_v20 p0 p1 p2 p3)), .val (.int (f0_v21 p0 p1 p2 p3)), .val (.int (f0_v22 p0 p1 p2 p3)), .val (.int (f0_v23 p0 p1 p2 p3)), .val (.ref b68), .val (.int (f0_v24 p0 p1 p2 p3)), .val (.int (f0_m116 p0 p1 p2 p3))] [(.int (f0_v29 p0 p1 p2 p3)), (.int (f0_v24 p0 p1 p2 p3))])) t → Steps p.tables e below (s₁.setTop (entryFrame m #[(.int p0), (.int p1), (.int p2), (.int p3)] maxLocals)) t := fun t k => pre131 t (by
          show Steps p.tables e below (T108.setTop (mkF m 429 #[.val (.int p0), .val (.int p1), .val (.int p2), .val (.int p3), .val (.ref b1), .val (.ref b25), .val (.int (p1 &&& (3 : Int32))), .val (.int (f0_v19 p0 p1 p2 p3)), .val (.int (f0_v20 p0 p1 p2 p3)), .val (.int (f0_v21 p0 p1 p2 p3)), .val (.int (f0_v22 p0 p1 p2 p3)), .val (.int (f0_v23 p0 p1 p2 p3)), .val (.ref b68), .val (.int (f0_v24 p0 p1 p2 p3)), .val (.int (f0_m116 p0 p1 p2 p3))] [(.int (f0_m116 p0 p1 p2 p3))])) _
          refine XS.ifNo X108.here hx rfl (hb hby at_429) rfl ((if0 _ _).trans (feq hc429_132).1) ?_
          show Steps p.tables e below (T108.setTop (mkF m 432 #[.val (.int p0), .val (.int p1), .val (.int p2), .val (.int p3), .val (.ref b1), .val (.ref b25), .val (.int (p1 &&& (3 : Int32))), .val (.int (f0_v19 p0 p1 p2 p3)), .val (.int (f0_v20 p0 p1 p2 p3)), .val (.int (f0_v21 p0 p1 p2 p3)), .val (.int (f0_v22 p0 p1 p2 p3)), .val (.int (f0_v23 p0 p1 p2 p3)), .val (.ref b68), .val (.int (f0_v24 p0 p1 p2 p3)), .val (.int (f0_m116 p0 p1 p2 p3))] [])) _
          refine XS.iload X108.here hx rfl (hb hby at_432) rfl ?_
          show Steps p.tables e below (T108.setTop (mkF m 434 #[.val (.int p0), .val (.int p1), .val (.int p2), .val (.int p3), .val (.ref b1), .val (.ref b25), .val (.int (p1 &&& (3 : Int32))), .val (.int (f0_v19 p0 p1 p2 p3)), .val (.int (f0_v20 p0 p1 p2 p3)), .val (.int (f0_v21 p0 p1 p2 p3)), .val (.int (f0_v22 p0 p1 p2 p3)), .val (.int (f0_v23 p0 p1 p2 p3)), .val (.ref b68), .val (.int (f0_v24 p0 p1 p2 p3)), .val (.int (f0_m116 p0 p1 p2 p3))] [(.int (f0_v24 p0 p1 p2 p3))])) _
          refine XS.aload X108.here hx rfl (hb hby at_434) rfl rfl ?_
          show Steps p.tables e below (T108.setTop (mkF m 436 #[.val (.int p0), .val (.int p1), .val (.int p2), .val (.int p3), .val (.ref b1), .val (.ref b25), .val (.int (p1 &&& (3 : Int32))), .val (.int (f0_v19 p0 p1 p2 p3)), .val (.int (f0_v20 p0 p1 p2 p3)), .val (.int (f0_v21 p0 p1 p2 p3)), .val (.int (f0_v22 p0 p1 p2 p3)), .val (.int (f0_v23 p0 p1 p2 p3)), .val (.ref b68), .val (.int (f0_v24 p0 p1 p2 p3)), .val (.int (f0_m116 p0 p1 p2 p3))] [(.ref b68), (.int (f0_v24 p0 p1 p2 p3))])) _
          refine XS.iload X108.here hx rfl (hb hby at_436) rfl ?_
          show Steps p.tables e below (T108.setTop (mkF m 438 #[.val (.int p0), .val (.int p1), .val (.int p2), .val (.int p3), .val (.ref b1), .val (.ref b25), .val (.int (p1 &&& (3 : Int32))), .val (.int (f0_v19 p0 p1 p2 p3)), .val (.int (f0_v20 p0 p1 p2 p3)), .val (.int (f0_v21 p0 p1 p2 p3)), .val (.int (f0_v22 p0 p1 p2 p3)), .val (.int (f0_v23 p0 p1 p2 p3)), .val (.ref b68), .val (.int (f0_v24 p0 p1 p2 p3)), .val (.int (f0_m116 p0 p1 p2 p3))] [(.int (f0_v21 p0 p1 p2 p3)), (.ref b68), (.int (f0_v24 p0 p1 p2 p3))])) _
          refine XS.iconst X108.here hx rfl (hb hby at_438) ?_
          show Steps p.tables e below (T108.setTop (mkF m 439 #[.val (.int p0), .val (.int p1), .val (.int p2), .val (.int p3), .val (.ref b1), .val (.ref b25), .val (.int (p1 &&& (3 : Int32))), .val (.int (f0_v19 p0 p1 p2 p3)), .val (.int (f0_v20 p0 p1 p2 p3)), .val (.int (f0_v21 p0 p1 p2 p3)), .val (.int (f0_v22 p0 p1 p2 p3)), .val (.int (f0_v23 p0 p1 p2 p3)), .val (.ref b68), .val (.int (f0_v24 p0 p1 p2 p3)), .val (.int (f0_m116 p0 p1 p2 p3))] [(.int (1 : Int32)), (.int (f0_v21 p0 p1 p2 p3)), (.ref b68), (.int (f0_v24 p0 p1 p2 p3))])) _
          refine XS.iadd X108.here hx rfl (hb hby at_439) rfl ?_
          show Steps p.tables e below (T108.setTop (mkF m 440 #[.val (.int p0), .val (.int p1), .val (.int p2), .val (.int p3), .val (.ref b1), .val (.ref b25), .val (.int (p1 &&& (3 : Int32))), .val (.int (f0_v19 p0 p1 p2 p3)), .val (.int (f0_v20 p0 p1 p2 p3)), .val (.int (f0_v21 p0 p1 p2 p3)), .val (.int (f0_v22 p0 p1 p2 p3)), .val (.int (f0_v23 p0 p1 p2 p3)), .val (.ref b68), .val (.int (f0_v24 p0 p1 p2 p3)), .val (.int (f0_m116 p0 p1 p2 p3))] [(.int ((f0_v21 p0 p1 p2 p3) + (1 : Int32))), (.ref b68), (.int (f0_v24 p0 p1 p2 p3))])) _
          refine XS.iconst X108.here hx rfl (hb hby at_440) ?_
          show Steps p.tables e below (T108.setTop (mkF m 441 #[.val (.int p0), .val (.int p1), .val (.int p2), .val (.int p3), .val (.ref b1), .val (.ref b25), .val (.int (p1 &&& (3 : Int32))), .val (.int (f0_v19 p0 p1 p2 p3)), .val (.int (f0_v20 p0 p1 p2 p3)), .val (.int (f0_v21 p0 p1 p2 p3)), .val (.int (f0_v22 p0 p1 p2 p3)), .val (.int (f0_v23 p0 p1 p2 p3)), .val (.ref b68), .val (.int (f0_v24 p0 p1 p2 p3)), .val (.int (f0_m116 p0 p1 p2 p3))] [(.int (0 : Int32)), (.int ((f0_v21 p0 p1 p2 p3) + (1 : Int32))), (.ref b68), (.int (f0_v24 p0 p1 p2 p3))])) _
          refine st134.trans ?_
          exact k)
        by_cases hc444_136 : (f0_v24 p0 p1 p2 p3) = (f0_v29 p0 p1 p2 p3)
        · have pre137 : ∀ t, Steps p.tables e below (T134.setTop (mkF m 452 #[.val (.int p0), .val (.int p1), .val (.int p2), .val (.int p3), .val (.ref b1), .val (.ref b25), .val (.int (p1 &&& (3 : Int32))), .val (.int (f0_v19 p0 p1 p2 p3)), .val (.int (f0_v20 p0 p1 p2 p3)), .val (.int (f0_v21 p0 p1 p2 p3)), .val (.int (f0_v22 p0 p1 p2 p3)), .val (.int (f0_v23 p0 p1 p2 p3)), .val (.ref b68), .val (.int (f0_v24 p0 p1 p2 p3)), .val (.int (f0_m116 p0 p1 p2 p3))] [(.int (1 : Int32))])) t → Steps p.tables e below (s₁.setTop (entryFrame m #[(.int p0), (.int p1), (.int p2), (.int p3)] maxLocals)) t := fun t k => pre135 t (by
            show Steps p.tables e below (T134.setTop (mkF m 444 #[.val (.int p0), .val (.int p1), .val (.int p2), .val (.int p3), .val (.ref b1), .val (.ref b25), .val (.int (p1 &&& (3 : Int32))), .val (.int (f0_v19 p0 p1 p2 p3)), .val (.int (f0_v20 p0 p1 p2 p3)), .val (.int (f0_v21 p0 p1 p2 p3)), .val (.int (f0_v22 p0 p1 p2 p3)), .val (.int (f0_v23 p0 p1 p2 p3)), .val (.ref b68), .val (.int (f0_v24 p0 p1 p2 p3)), .val (.int (f0_m116 p0 p1 p2 p3))] [(.int (f0_v29 p0 p1 p2 p3)), (.int (f0_v24 p0 p1 p2 p3))])) _
            refine XS.icmpNo X134.here hx rfl (hb hby at_444) rfl (teq hc444_136).2 ?_
            show Steps p.tables e below (T134.setTop (mkF m 447 #[.val (.int p0), .val (.int p1), .val (.int p2), .val (.int p3), .val (.ref b1), .val (.ref b25), .val (.int (p1 &&& (3 : Int32))), .val (.int (f0_v19 p0 p1 p2 p3)), .val (.int (f0_v20 p0 p1 p2 p3)), .val (.int (f0_v21 p0 p1 p2 p3)), .val (.int (f0_v22 p0 p1 p2 p3)), .val (.int (f0_v23 p0 p1 p2 p3)), .val (.ref b68), .val (.int (f0_v24 p0 p1 p2 p3)), .val (.int (f0_m116 p0 p1 p2 p3))] [])) _
            refine XS.iconst X134.here hx rfl (hb hby at_447) ?_
            show Steps p.tables e below (T134.setTop (mkF m 448 #[.val (.int p0), .val (.int p1), .val (.int p2), .val (.int p3), .val (.ref b1), .val (.ref b25), .val (.int (p1 &&& (3 : Int32))), .val (.int (f0_v19 p0 p1 p2 p3)), .val (.int (f0_v20 p0 p1 p2 p3)), .val (.int (f0_v21 p0 p1 p2 p3)), .val (.int (f0_v22 p0 p1 p2 p3)), .val (.int (f0_v23 p0 p1 p2 p3)), .val (.ref b68), .val (.int (f0_v24 p0 p1 p2 p3)), .val (.int (f0_m116 p0 p1 p2 p3))] [(.int (1 : Int32))])) _
            refine XS.goto X134.here hx rfl (pc0 := 448) (pc' := 452) rfl (hb hby at_448) (by decide) (by decide) ?_
            exact k)
          have q_f0_m139 : f0_m139 p0 p1 p2 p3 = (1 : Int32) := by unfold f0_m139; rw [if_neg hc429_132, if_pos hc444_136]
          rw [q_f0_m139]
          exact ⟨T134, _, X134, e134, N134, pre137⟩
        have pre138 : ∀ t, Steps p.tables e below (T134.setTop (mkF m 452 #[.val (.int p0), .val (.int p1), .val (.int p2), .val (.int p3), .val (.ref b1), .val (.ref b25), .val (.int (p1 &&& (3 : Int32))), .val (.int (f0_v19 p0 p1 p2 p3)), .val (.int (f0_v20 p0 p1 p2 p3)), .val (.int (f0_v21 p0 p1 p2 p3)), .val (.int (f0_v22 p0 p1 p2 p3)), .val (.int (f0_v23 p0 p1 p2 p3)), .val (.ref b68), .val (.int (f0_v24 p0 p1 p2 p3)), .val (.int (f0_m116 p0 p1 p2 p3))] [(.int (0 : Int32))])) t → Steps p.tables e below (s₁.setTop (entryFrame m #[(.int p0), (.int p1), (.int p2), (.int p3)] maxLocals)) t := fun t k => pre135 t (by
          show Steps p.tables e below (T134.setTop (mkF m 444 #[.val (.int p0), .val (.int p1), .val (.int p2), .val (.int p3), .val (.ref b1), .val (.ref b25), .val (.int (p1 &&& (3 : Int32))), .val (.int (f0_v19 p0 p1 p2 p3)), .val (.int (f0_v20 p0 p1 p2 p3)), .val (.int (f0_v21 p0 p1 p2 p3)), .val (.int (f0_v22 p0 p1 p2 p3)), .val (.int (f0_v23 p0 p1 p2 p3)), .val (.ref b68), .val (.int (f0_v24 p0 p1 p2 p3)), .val (.int (f0_m116 p0 p1 p2 p3))] [(.int (f0_v29 p0 p1 p2 p3)), (.int (f0_v24 p0 p1 p2 p3))])) _
          refine XS.icmpYes X134.here hx rfl (pc0 := 444) (pc' := 451) rfl (hb hby at_444) rfl (feq hc444_136).2 (by decide) (by decide) ?_
          show Steps p.tables e below (T134.setTop (mkF m 451 #[.val (.int p0), .val (.int p1), .val (.int p2), .val (.int p3), .val (.ref b1), .val (.ref b25), .val (.int (p1 &&& (3 : Int32))), .val (.int (f0_v19 p0 p1 p2 p3)), .val (.int (f0_v20 p0 p1 p2 p3)), .val (.int (f0_v21 p0 p1 p2 p3)), .val (.int (f0_v22 p0 p1 p2 p3)), .val (.int (f0_v23 p0 p1 p2 p3)), .val (.ref b68), .val (.int (f0_v24 p0 p1 p2 p3)), .val (.int (f0_m116 p0 p1 p2 p3))] [])) _
          refine XS.iconst X134.here hx rfl (hb hby at_451) ?_
          exact k)
        have q_f0_m139 : f0_m139 p0 p1 p2 p3 = (0 : Int32) := by unfold f0_m139; rw [if_neg hc429_132, if_neg hc444_136]
        rw [q_f0_m139]
        exact ⟨T134, _, X134, e134, N134, pre138⟩
      have pre140 : ∀ t, Steps p.tables e below (T132.setTop (mkF m 479 #[.val (.int p0), .val (.int p1), .val (.int p2), .val (.int p3), .val (.ref b1), .val (.ref b25), .val (.int (p1 &&& (3 : Int32))), .val (.int (f0_v19 p0 p1 p2 p3)), .val (.int (f0_v20 p0 p1 p2 p3)), .val (.int (f0_v21 p0 p1 p2 p3)), .val (.int (f0_v22 p0 p1 p2 p3)), .val (.int (f0_v23 p0 p1 p2 p3)), .val (.ref b68), .val (.int (f0_v24 p0 p1 p2 p3)), .val (.int (f0_m139 p0 p1 p2 p3))] [])) t → Steps p.tables e below (s₁.setTop (entryFrame m #[(.int p0), (.int p1), (.int p2), (.int p3)] maxLocals)) t := fun t k => pre132 t (by
        show Steps p.tables e below (T132.setTop (mkF m 452 #[.val (.int p0), .val (.int p1), .val (.int p2), .val (.int p3), .val (.ref b1), .val (.ref b25), .val (.int (p1 &&& (3 : Int32))), .val (.int (f0_v19 p0 p1 p2 p3)), .val (.int (f0_v20 p0 p1 p2 p3)), .val (.int (f0_v21 p0 p1 p2 p3)), .val (.int (f0_v22 p0 p1 p2 p3)), .val (.int (f0_v23 p0 p1 p2 p3)), .val (.ref b68), .val (.int (f0_v24 p0 p1 p2 p3)), .val (.int (f0_m116 p0 p1 p2 p3))] [(.int (f0_m139 p0 p1 p2 p3))])) _
        refine XS.istore X132.here hx rfl (hb hby at_452) rfl (l' := #[.val (.int p0), .val (.int p1), .val (.int p2), .val (.int p3), .val (.ref b1), .val (.ref b25), .val (.int (p1 &&& (3 : Int32))), .val (.int (f0_v19 p0 p1 p2 p3)), .val (.int (f0_v20 p0 p1 p2 p3)), .val (.int (f0_v21 p0 p1 p2 p3)), .val (.int (f0_v22 p0 p1 p2 p3)), .val (.int (f0_v23 p0 p1 p2 p3)), .val (.ref b68), .val (.int (f0_v24 p0 p1 p2 p3)), .val (.int (f0_m139 p0 p1 p2 p3))]) rfl ?_
        show Steps p.tables e below (T132.setTop (mkF m 454 #[.val (.int p0), .val (.int p1), .val (.int p2), .val (.int p3), .val (.ref b1), .val (.ref b25), .val (.int (p1 &&& (3 : Int32))), .val (.int (f0_v19 p0 p1 p2 p3)), .val (.int (f0_v20 p0 p1 p2 p3)), .val (.int (f0_v21 p0 p1 p2 p3)), .val (.int (f0_v22 p0 p1 p2 p3)), .val (.int (f0_v23 p0 p1 p2 p3)), .val (.ref b68), .val (.int (f0_v24 p0 p1 p2 p3)), .val (.int (f0_m139 p0 p1 p2 p3))] [])) _
        refine XS.goto X132.here hx rfl (pc0 := 454) (pc' := 479) rfl (hb hby at_454) (by decide) (by decide) ?_
        exact k)
      have q_f0_m152 : f0_m152 p0 p1 p2 p3 = (f0_m139 p0 p1 p2 p3) := by unfold f0_m152; rw [if_neg hc384_118, if_pos hc424_130]
      rw [q_f0_m152]
      exact ⟨T132, _, X132, e132, N132, pre140⟩
    have pre141 : ∀ t, Steps p.tables e below (T108.setTop (mkF m 459 #[.val (.int p0), .val (.int p1), .val (.int p2), .val (.int p3), .val (.ref b1), .val (.ref b25), .val (.int (p1 &&& (3 : Int32))), .val (.int (f0_v19 p0 p1 p2 p3)), .val (.int (f0_v20 p0 p1 p2 p3)), .val (.int (f0_v21 p0 p1 p2 p3)), .val (.int (f0_v22 p0 p1 p2 p3)), .val (.int (f0_v23 p0 p1 p2 p3)), .val (.ref b68), .val (.int (f0_v24 p0 p1 p2 p3)), .val (.int (f0_m116 p0 p1 p2 p3))] [(.int (f0_m116 p0 p1 p2 p3))])) t → Steps p.tables e below (s₁.setTop (entryFrame m #[(.int p0), (.int p1), (.int p2), (.int p3)] maxLocals)) t := fun t k => pre129 t (by
      show Steps p.tables e below (T108.setTop (mkF m 424 #[.val (.int p0), .val (.int p1), .val (.int p2), .val (.int p3), .val (.ref b1), .val (.ref b25), .val (.int (p1 &&& (3 : Int32))), .val (.int (f0_v19 p0 p1 p2 p3)), .val (.int (f0_v20 p0 p1 p2 p3)), .val (.int (f0_v21 p0 p1 p2 p3)), .val (.int (f0_v22 p0 p1 p2 p3)), .val (.int (f0_v23 p0 p1 p2 p3)), .val (.ref b68), .val (.int (f0_v24 p0 p1 p2 p3)), .val (.int (f0_m116 p0 p1 p2 p3))] [(.int (f0_v20 p0 p1 p2 p3)), (.int ((f0_v21 p0 p1 p2 p3) + (1 : Int32)))])) _
      refine XS.icmpYes X108.here hx rfl (pc0 := 424) (pc' := 457) rfl (hb hby at_424) rfl (flt hc424_130).2.1 (by decide) (by decide) ?_
      show Steps p.tables e below (T108.setTop (mkF m 457 #[.val (.int p0), .val (.int p1), .val (.int p2), .val (.int p3), .val (.ref b1), .val (.ref b25), .val (.int (p1 &&& (3 : Int32))), .val (.int (f0_v19 p0 p1 p2 p3)), .val (.int (f0_v20 p0 p1 p2 p3)), .val (.int (f0_v21 p0 p1 p2 p3)), .val (.int (f0_v22 p0 p1 p2 p3)), .val (.int (f0_v23 p0 p1 p2 p3)), .val (.ref b68), .val (.int (f0_v24 p0 p1 p2 p3)), .val (.int (f0_m116 p0 p1 p2 p3))] [])) _
      refine XS.iload X108.here hx rfl (hb hby at_457) rfl ?_
      exact k)
    obtain ⟨T142, L142, X142, e142, N142, pre142⟩ : ∃ (T' : State) (locs' : List Loc), Stand p l e room_1 s m #[(.int p0), (.int p1), (.int p2), (.int p3)] below meth c T' locs' 7 88 ∧ T'.heap = T88.heap ∧ Fr n0 locs' ∧ ∀ t, Steps p.tables e below (T'.setTop (mkF m 477 #[.val (.int p0), .val (.int p1), .val (.int p2), .val (.int p3), .val (.ref b1), .val (.ref b25), .val (.int (p1 &&& (3 : Int32))), .val (.int (f0_v19 p0 p1 p2 p3)), .val (.int (f0_v20 p0 p1 p2 p3)), .val (.int (f0_v21 p0 p1 p2 p3)), .val (.int (f0_v22 p0 p1 p2 p3)), .val (.int (f0_v23 p0 p1 p2 p3)), .val (.ref b68), .val (.int (f0_v24 p0 p1 p2 p3)), .val (.int (f0_m116 p0 p1 p2 p3))] [(.int (f0_m150 p0 p1 p2 p3))])) t → Steps p.tables e below (s₁.setTop (entryFrame m #[(.int p0), (.int p1), (.int p2), (.int p3)] maxLocals)) t := by
      by_cases hc459_142 : (f0_m116 p0 p1 p2 p3) = (0 : Int32)
      · have pre143 : ∀ t, Steps p.tables e below (T108.setTop (mkF m 477 #[.val (.int p0), .val (.int p1), .val (.int p2), .val (.int p3), .val (.ref b1), .val (.ref b25), .val (.int (p1 &&& (3 : Int32))), .val (.int (f0_v19 p0 p1 p2 p3)), .val (.int (f0_v20 p0 p1 p2 p3)), .val (.int (f0_v21 p0 p1 p2 p3)), .val (.int (f0_v22 p0 p1 p2 p3)), .val (.int (f0_v23 p0 p1 p2 p3)), .val (.ref b68), .val (.int (f0_v24 p0 p1 p2 p3)), .val (.int (f0_m116 p0 p1 p2 p3))] [(.int (0 : Int32))])) t → Steps p.tables e below (s₁.setTop (entryFrame m #[(.int p0), (.int p1), (.int p2), (.int p3)] maxLocals)) t := fun t k => pre141 t (by
          show Steps p.tables e below (T108.setTop (mkF m 459 #[.val (.int p0), .val (.int p1), .val (.int p2), .val (.int p3), .val (.ref b1), .val (.ref b25), .val (.int (p1 &&& (3 : Int32))), .val (.int (f0_v19 p0 p1 p2 p3)), .val (.int (f0_v20 p0 p1 p2 p3)), .val (.int (f0_v21 p0 p1 p2 p3)), .val (.int (f0_v22 p0 p1 p2 p3)), .val (.int (f0_v23 p0 p1 p2 p3)), .val (.ref b68), .val (.int (f0_v24 p0 p1 p2 p3)), .val (.int (f0_m116 p0 p1 p2 p3))] [(.int (f0_m116 p0 p1 p2 p3))])) _
          refine XS.ifYes X108.here hx rfl (pc0 := 459) (pc' := 476) rfl (hb hby at_459) rfl ((if0 _ _).trans (teq hc459_142).1) (by decide) (by decide) ?_
          show Steps p.tables e below (T108.setTop (mkF m 476 #[.val (.int p0), .val (.int p1), .val (.int p2), .val (.int p3), .val (.ref b1), .val (.ref b25), .val (.int (p1 &&& (3 : Int32))), .val (.int (f0_v19 p0 p1 p2 p3)), .val (.int (f0_v20 p0 p1 p2 p3)), .val (.int (f0_v21 p0 p1 p2 p3)), .val (.int (f0_v22 p0 p1 p2 p3)), .val (.int (f0_v23 p0 p1 p2 p3)), .val (.ref b68), .val (.int (f0_v24 p0 p1 p2 p3)), .val (.int (f0_m116 p0 p1 p2 p3))] [])) _
          refine XS.iconst X108.here hx rfl (hb hby at_476) ?_
          exact k)
        have q_f0_m150 : f0_m150 p0 p1 p2 p3 = (0 : Int32) := by unfold f0_m150; rw [if_pos hc459_142]
        rw [q_f0_m150]
        exact ⟨T108, _, X108, e108, N108, pre143⟩
      have y145 := ((y87.ext E82).keep K88 (ninS (Ne.symm ne_b68_b73) nin0))
      obtain ⟨cq144, kq144, q144a, q144b, q144c⟩ := isOf hZ e108 u88_0
      obtain ⟨_, _, ⟨T144, L144, k144, n144⟩, -, X144, ⟨Lc144, hQ144, l144, y144, z144⟩, st144⟩ := X108.virtualBack hx (y := (⟨"com/example/frugal_synth/frugalsynth/Arena", "choiceCount", "()I"⟩ : MethodName)) (z := (⟨"com/example/frugal_synth/frugalsynth/Arena", "choiceCount", "()I"⟩ : MethodName)) hown (mvT hZ (hw _ (List.mem_of_getElem? (i := 36) rfl))) (mvT hZ (hw _ (List.mem_of_getElem? (i := 37) rfl))) (notFace_of_selects (args := #[]) (mvT hZ (hw _ (List.mem_of_getElem? (i := 39) rfl)))) (mvT hZ (hw _ (List.mem_of_getElem? (i := 39) rfl))) (mvT hZ (hw _ (List.mem_of_getElem? (i := 38) rfl))) (by decide) (backOf (W := 1) (rm5 l Z a0' hw [] b68 b73 [(0 : Int32), (0 : Int32), (0 : Int32), (0 : Int32), (0 : Int32), (0 : Int32), (0 : Int32), (0 : Int32), (0 : Int32), (0 : Int32), (0 : Int32), (0 : Int32), (0 : Int32), (0 : Int32), (0 : Int32), (0 : Int32), (0 : Int32), (0 : Int32), (0 : Int32), (0 : Int32), (0 : Int32)] (21 : Int32) k73 T88.heap n0 Z88 y145 u88_4) hZ (hw _ (List.mem_of_getElem? (i := 40) rfl)) (hw _ (List.mem_of_getElem? (i := 4) rfl)) (by decide) (by decide)) q144a q144c (g := (mkF m 466 #[.val (.int p0), .val (.int p1), .val (.int p2), .val (.int p3), .val (.ref b1), .val (.ref b25), .val (.int (p1 &&& (3 : Int32))), .val (.int (f0_v19 p0 p1 p2 p3)), .val (.int (f0_v20 p0 p1 p2 p3)), .val (.int (f0_v21 p0 p1 p2 p3)), .val (.int (f0_v22 p0 p1 p2 p3)), .val (.int (f0_v23 p0 p1 p2 p3)), .val (.ref b68), .val (.int (f0_v24 p0 p1 p2 p3)), .val (.int (f0_m116 p0 p1 p2 p3))] [(.ref b68), (.int (f0_v24 p0 p1 p2 p3))])) rfl (by rw [hml]; rfl) (Steps.refl _) (argsL := []) (rest := [(.int (f0_v24 p0 p1 p2 p3))]) (lenOf pd2 rfl) rfl (by show 2 * 0 + _ ≤ _; exact Nat.le_of_eq rfl) (hb hby at_466) (fun _ _ => ⟨rfl, e108, (by decide : 7 + 0 ≤ _), (by decide : 88 + 0 ≤ _)⟩)
      dsimp only [Pt.U, Pt.locs, Pt.cells, Pt.slots] at X144 l144 y144 z144 st144 hQ144
      subst l144 y144 z144
      obtain ⟨rfl, N144q, e144⟩ := hQ144
      have N144 := Fr.app N108 N144q
      have pre146 : ∀ t, Steps p.tables e below (T144.setTop (mkF m 469 #[.val (.int p0), .val (.int p1), .val (.int p2), .val (.int p3), .val (.ref b1), .val (.ref b25), .val (.int (p1 &&& (3 : Int32))), .val (.int (f0_v19 p0 p1 p2 p3)), .val (.int (f0_v20 p0 p1 p2 p3)), .val (.int (f0_v21 p0 p1 p2 p3)), .val (.int (f0_v22 p0 p1 p2 p3)), .val (.int (f0_v23 p0 p1 p2 p3)), .val (.ref b68), .val (.int (f0_v24 p0 p1 p2 p3)), .val (.int (f0_m116 p0 p1 p2 p3))] [(.int (f0_v30 p0 p1 p2 p3)), (.int (f0_v24 p0 p1 p2 p3))])) t → Steps p.tables e below (s₁.setTop (entryFrame m #[(.int p0), (.int p1), (.int p2), (.int p3)] maxLocals)) t := fun t k => pre141 t (by
        show Steps p.tables e below (T108.setTop (mkF m 459 #[.val (.int p0), .val (.int p1), .val (.int p2), .val (.int p3), .val (.ref b1), .val (.ref b25), .val (.int (p1 &&& (3 : Int32))), .val (.int (f0_v19 p0 p1 p2 p3)), .val (.int (f0_v20 p0 p1 p2 p3)), .val (.int (f0_v21 p0 p1 p2 p3)), .val (.int (f0_v22 p0 p1 p2 p3)), .val (.int (f0_v23 p0 p1 p2 p3)), .val (.ref b68), .val (.int (f0_v24 p0 p1 p2 p3)), .val (.int (f0_m116 p0 p1 p2 p3))] [(.int (f0_m116 p0 p1 p2 p3))])) _
        refine XS.ifNo X108.here hx rfl (hb hby at_459) rfl ((if0 _ _).trans (feq hc459_142).1) ?_
        show Steps p.tables e below (T108.setTop (mkF m 462 #[.val (.int p0), .val (.int p1), .val (.int p2), .val (.int p3), .val (.ref b1), .val (.ref b25), .val (.int (p1 &&& (3 : Int32))), .val (.int (f0_v19 p0 p1 p2 p3)), .val (.int (f0_v20 p0 p1 p2 p3)), .val (.int (f0_v21 p0 p1 p2 p3)), .val (.int (f0_v22 p0 p1 p2 p3)), .val (.int (f0_v23 p0 p1 p2 p3)), .val (.ref b68), .val (.int (f0_v24 p0 p1 p2 p3)), .val (.int (f0_m116 p0 p1 p2 p3))] [])) _
        refine XS.iload X108.here hx rfl (hb hby at_462) rfl ?_
        show Steps p.tables e below (T108.setTop (mkF m 464 #[.val (.int p0), .val (.int p1), .val (.int p2), .val (.int p3), .val (.ref b1), .val (.ref b25), .val (.int (p1 &&& (3 : Int32))), .val (.int (f0_v19 p0 p1 p2 p3)), .val (.int (f0_v20 p0 p1 p2 p3)), .val (.int (f0_v21 p0 p1 p2 p3)), .val (.int (f0_v22 p0 p1 p2 p3)), .val (.int (f0_v23 p0 p1 p2 p3)), .val (.ref b68), .val (.int (f0_v24 p0 p1 p2 p3)), .val (.int (f0_m116 p0 p1 p2 p3))] [(.int (f0_v24 p0 p1 p2 p3))])) _
        refine XS.aload X108.here hx rfl (hb hby at_464) rfl rfl ?_
        show Steps p.tables e below (T108.setTop (mkF m 466 #[.val (.int p0), .val (.int p1), .val (.int p2), .val (.int p3), .val (.ref b1), .val (.ref b25), .val (.int (p1 &&& (3 : Int32))), .val (.int (f0_v19 p0 p1 p2 p3)), .val (.int (f0_v20 p0 p1 p2 p3)), .val (.int (f0_v21 p0 p1 p2 p3)), .val (.int (f0_v22 p0 p1 p2 p3)), .val (.int (f0_v23 p0 p1 p2 p3)), .val (.ref b68), .val (.int (f0_v24 p0 p1 p2 p3)), .val (.int (f0_m116 p0 p1 p2 p3))] [(.ref b68), (.int (f0_v24 p0 p1 p2 p3))])) _
        refine st144.trans ?_
        exact k)
      by_cases hc469_147 : (f0_v24 p0 p1 p2 p3) = (f0_v30 p0 p1 p2 p3)
      · have pre148 : ∀ t, Steps p.tables e below (T144.setTop (mkF m 477 #[.val (.int p0), .val (.int p1), .val (.int p2), .val (.int p3), .val (.ref b1), .val (.ref b25), .val (.int (p1 &&& (3 : Int32))), .val (.int (f0_v19 p0 p1 p2 p3)), .val (.int (f0_v20 p0 p1 p2 p3)), .val (.int (f0_v21 p0 p1 p2 p3)), .val (.int (f0_v22 p0 p1 p2 p3)), .val (.int (f0_v23 p0 p1 p2 p3)), .val (.ref b68), .val (.int (f0_v24 p0 p1 p2 p3)), .val (.int (f0_m116 p0 p1 p2 p3))] [(.int (1 : Int32))])) t → Steps p.tables e below (s₁.setTop (entryFrame m #[(.int p0), (.int p1), (.int p2), (.int p3)] maxLocals)) t := fun t k => pre146 t (by
          show Steps p.tables e below (T144.setTop (mkF m 469 #[.val (.int p0), .val (.int p1), .val (.int p2), .val (.int p3), .val (.ref b1), .val (.ref b25), .val (.int (p1 &&& (3 : Int32))), .val (.int (f0_v19 p0 p1 p2 p3)), .val (.int (f0_v20 p0 p1 p2 p3)), .val (.int (f0_v21 p0 p1 p2 p3)), .val (.int (f0_v22 p0 p1 p2 p3)), .val (.int (f0_v23 p0 p1 p2 p3)), .val (.ref b68), .val (.int (f0_v24 p0 p1 p2 p3)), .val (.int (f0_m116 p0 p1 p2 p3))] [(.int (f0_v30 p0 p1 p2 p3)), (.int (f0_v24 p0 p1 p2 p3))])) _
          refine XS.icmpNo X144.here hx rfl (hb hby at_469) rfl (teq hc469_147).2 ?_
          show Steps p.tables e below (T144.setTop (mkF m 472 #[.val (.int p0), .val (.int p1), .val (.int p2), .val (.int p3), .val (.ref b1), .val (.ref b25), .val (.int (p1 &&& (3 : Int32))), .val (.int (f0_v19 p0 p1 p2 p3)), .val (.int (f0_v20 p0 p1 p2 p3)), .val (.int (f0_v21 p0 p1 p2 p3)), .val (.int (f0_v22 p0 p1 p2 p3)), .val (.int (f0_v23 p0 p1 p2 p3)), .val (.ref b68), .val (.int (f0_v24 p0 p1 p2 p3)), .val (.int (f0_m116 p0 p1 p2 p3))] [])) _
          refine XS.iconst X144.here hx rfl (hb hby at_472) ?_
          show Steps p.tables e below (T144.setTop (mkF m 473 #[.val (.int p0), .val (.int p1), .val (.int p2), .val (.int p3), .val (.ref b1), .val (.ref b25), .val (.int (p1 &&& (3 : Int32))), .val (.int (f0_v19 p0 p1 p2 p3)), .val (.int (f0_v20 p0 p1 p2 p3)), .val (.int (f0_v21 p0 p1 p2 p3)), .val (.int (f0_v22 p0 p1 p2 p3)), .val (.int (f0_v23 p0 p1 p2 p3)), .val (.ref b68), .val (.int (f0_v24 p0 p1 p2 p3)), .val (.int (f0_m116 p0 p1 p2 p3))] [(.int (1 : Int32))])) _
          refine XS.goto X144.here hx rfl (pc0 := 473) (pc' := 477) rfl (hb hby at_473) (by decide) (by decide) ?_
          exact k)
        have q_f0_m150 : f0_m150 p0 p1 p2 p3 = (1 : Int32) := by unfold f0_m150; rw [if_neg hc459_142, if_pos hc469_147]
        rw [q_f0_m150]
        exact ⟨T144, _, X144, e144, N144, pre148⟩
      have pre149 : ∀ t, Steps p.tables e below (T144.setTop (mkF m 477 #[.val (.int p0), .val (.int p1), .val (.int p2), .val (.int p3), .val (.ref b1), .val (.ref b25), .val (.int (p1 &&& (3 : Int32))), .val (.int (f0_v19 p0 p1 p2 p3)), .val (.int (f0_v20 p0 p1 p2 p3)), .val (.int (f0_v21 p0 p1 p2 p3)), .val (.int (f0_v22 p0 p1 p2 p3)), .val (.int (f0_v23 p0 p1 p2 p3)), .val (.ref b68), .val (.int (f0_v24 p0 p1 p2 p3)), .val (.int (f0_m116 p0 p1 p2 p3))] [(.int (0 : Int32))])) t → Steps p.tables e below (s₁.setTop (entryFrame m #[(.int p0), (.int p1), (.int p2), (.int p3)] maxLocals)) t := fun t k => pre146 t (by
        show Steps p.tables e below (T144.setTop (mkF m 469 #[.val (.int p0), .val (.int p1), .val (.int p2), .val (.int p3), .val (.ref b1), .val (.ref b25), .val (.int (p1 &&& (3 : Int32))), .val (.int (f0_v19 p0 p1 p2 p3)), .val (.int (f0_v20 p0 p1 p2 p3)), .val (.int (f0_v21 p0 p1 p2 p3)), .val (.int (f0_v22 p0 p1 p2 p3)), .val (.int (f0_v23 p0 p1 p2 p3)), .val (.ref b68), .val (.int (f0_v24 p0 p1 p2 p3)), .val (.int (f0_m116 p0 p1 p2 p3))] [(.int (f0_v30 p0 p1 p2 p3)), (.int (f0_v24 p0 p1 p2 p3))])) _
        refine XS.icmpYes X144.here hx rfl (pc0 := 469) (pc' := 476) rfl (hb hby at_469) rfl (feq hc469_147).2 (by decide) (by decide) ?_
        show Steps p.tables e below (T144.setTop (mkF m 476 #[.val (.int p0), .val (.int p1), .val (.int p2), .val (.int p3), .val (.ref b1), .val (.ref b25), .val (.int (p1 &&& (3 : Int32))), .val (.int (f0_v19 p0 p1 p2 p3)), .val (.int (f0_v20 p0 p1 p2 p3)), .val (.int (f0_v21 p0 p1 p2 p3)), .val (.int (f0_v22 p0 p1 p2 p3)), .val (.int (f0_v23 p0 p1 p2 p3)), .val (.ref b68), .val (.int (f0_v24 p0 p1 p2 p3)), .val (.int (f0_m116 p0 p1 p2 p3))] [])) _
        refine XS.iconst X144.here hx rfl (hb hby at_476) ?_
        exact k)
      have q_f0_m150 : f0_m150 p0 p1 p2 p3 = (0 : Int32) := by unfold f0_m150; rw [if_neg hc459_142, if_neg hc469_147]
      rw [q_f0_m150]
      exact ⟨T144, _, X144, e144, N144, pre149⟩
    have pre151 : ∀ t, Steps p.tables e below (T142.setTop (mkF m 479 #[.val (.int p0), .val (.int p1), .val (.int p2), .val (.int p3), .val (.ref b1), .val (.ref b25), .val (.int (p1 &&& (3 : Int32))), .val (.int (f0_v19 p0 p1 p2 p3)), .val (.int (f0_v20 p0 p1 p2 p3)), .val (.int (f0_v21 p0 p1 p2 p3)), .val (.int (f0_v22 p0 p1 p2 p3)), .val (.int (f0_v23 p0 p1 p2 p3)), .val (.ref b68), .val (.int (f0_v24 p0 p1 p2 p3)), .val (.int (f0_m150 p0 p1 p2 p3))] [])) t → Steps p.tables e below (s₁.setTop (entryFrame m #[(.int p0), (.int p1), (.int p2), (.int p3)] maxLocals)) t := fun t k => pre142 t (by
      show Steps p.tables e below (T142.setTop (mkF m 477 #[.val (.int p0), .val (.int p1), .val (.int p2), .val (.int p3), .val (.ref b1), .val (.ref b25), .val (.int (p1 &&& (3 : Int32))), .val (.int (f0_v19 p0 p1 p2 p3)), .val (.int (f0_v20 p0 p1 p2 p3)), .val (.int (f0_v21 p0 p1 p2 p3)), .val (.int (f0_v22 p0 p1 p2 p3)), .val (.int (f0_v23 p0 p1 p2 p3)), .val (.ref b68), .val (.int (f0_v24 p0 p1 p2 p3)), .val (.int (f0_m116 p0 p1 p2 p3))] [(.int (f0_m150 p0 p1 p2 p3))])) _
      refine XS.istore X142.here hx rfl (hb hby at_477) rfl (l' := #[.val (.int p0), .val (.int p1), .val (.int p2), .val (.int p3), .val (.ref b1), .val (.ref b25), .val (.int (p1 &&& (3 : Int32))), .val (.int (f0_v19 p0 p1 p2 p3)), .val (.int (f0_v20 p0 p1 p2 p3)), .val (.int (f0_v21 p0 p1 p2 p3)), .val (.int (f0_v22 p0 p1 p2 p3)), .val (.int (f0_v23 p0 p1 p2 p3)), .val (.ref b68), .val (.int (f0_v24 p0 p1 p2 p3)), .val (.int (f0_m150 p0 p1 p2 p3))]) rfl ?_
      exact k)
    have q_f0_m152 : f0_m152 p0 p1 p2 p3 = (f0_m150 p0 p1 p2 p3) := by unfold f0_m152; rw [if_neg hc384_118, if_neg hc424_130]
    rw [q_f0_m152]
    exact ⟨T142, _, X142, e142, N142, pre151⟩
  have pre153 : ∀ t, Steps p.tables e below (T118.setTop (mkF m 481 #[.val (.int p0), .val (.int p1), .val (.int p2), .val (.int p3), .val (.ref b1), .val (.ref b25), .val (.int (p1 &&& (3 : Int32))), .val (.int (f0_v19 p0 p1 p2 p3)), .val (.int (f0_v20 p0 p1 p2 p3)), .val (.int (f0_v21 p0 p1 p2 p3)), .val (.int (f0_v22 p0 p1 p2 p3)), .val (.int (f0_v23 p0 p1 p2 p3)), .val (.ref b68), .val (.int (f0_v24 p0 p1 p2 p3)), .val (.int (f0_m152 p0 p1 p2 p3))] [(.int (f0_m152 p0 p1 p2 p3))])) t → Steps p.tables e below (s₁.setTop (entryFrame m #[(.int p0), (.int p1), (.int p2), (.int p3)] maxLocals)) t := fun t k => pre118 t (by
    show Steps p.tables e below (T118.setTop (mkF m 479 #[.val (.int p0), .val (.int p1), .val (.int p2), .val (.int p3), .val (.ref b1), .val (.ref b25), .val (.int (p1 &&& (3 : Int32))), .val (.int (f0_v19 p0 p1 p2 p3)), .val (.int (f0_v20 p0 p1 p2 p3)), .val (.int (f0_v21 p0 p1 p2 p3)), .val (.int (f0_v22 p0 p1 p2 p3)), .val (.int (f0_v23 p0 p1 p2 p3)), .val (.ref b68), .val (.int (f0_v24 p0 p1 p2 p3)), .val (.int (f0_m152 p0 p1 p2 p3))] [])) _
    refine XS.iload X118.here hx rfl (hb hby at_479) rfl ?_
    exact k)
  obtain ⟨fs, hr, hrun, hended, hW, hsame⟩ := X118.leave (v := some (.int ((f0_m152 p0 p1 p2 p3) &&& 1))) (fun h => by rw [Bd.returns] at h; cases h) hlk
  have hF : (F0 p0 p1 p2 p3) = ((f0_m152 p0 p1 p2 p3) &&& 1) := by rfl
  exact ⟨_, _, pre153 _ (retN X118 hx (t := .boolean) Bd.returns (by simp) (hb hby at_481) hr), hrun, hended, _, _, rfl, ⟨by rw [hF], N118⟩, ⟨_, rfl⟩, hW, hsame.mono (by decide) (by decide)⟩
theorem own_8 (x : Int32) (h : 0 ≤ x.toInt ∧ x.toInt < 8) : x = 0 ∨ x = 1 ∨ x = 2 ∨ x = 3 ∨ x = 4 ∨ x = 5 ∨ x = 6 ∨ x = 7 := by
  have q : x.toInt = 0 ∨ x.toInt = 1 ∨ x.toInt = 2 ∨ x.toInt = 3 ∨ x.toInt = 4 ∨ x.toInt = 5 ∨ x.toInt = 6 ∨ x.toInt = 7 := by omega
  rcases q with q | q | q | q | q | q | q | q
  · exact Or.inl (Int32.toInt_inj.mp q)
  · exact Or.inr (Or.inl (Int32.toInt_inj.mp q))
  · exact Or.inr (Or.inr (Or.inl (Int32.toInt_inj.mp q)))
  · exact Or.inr (Or.inr (Or.inr (Or.inl (Int32.toInt_inj.mp q))))
  · exact Or.inr (Or.inr (Or.inr (Or.inr (Or.inl (Int32.toInt_inj.mp q)))))
  · exact Or.inr (Or.inr (Or.inr (Or.inr (Or.inr (Or.inl (Int32.toInt_inj.mp q))))))
  · exact Or.inr (Or.inr (Or.inr (Or.inr (Or.inr (Or.inr (Or.inl (Int32.toInt_inj.mp q)))))))
  · exact Or.inr (Or.inr (Or.inr (Or.inr (Or.inr (Or.inr (Or.inr (Int32.toInt_inj.mp q)))))))
theorem own_acs (x y : Int32) : (x + y) - x = y := by rw [Int32.add_comm, Int32.add_sub_cancel]
/-- the ends of the ranges -/
def own_f (p0 p1 p2 p3 : Int32) : List Int32 := [(0 : Int32), ((0 : Int32) + (p0 &&& (3 : Int32))), (f0_v12 p0 p1 p2 p3), (f0_v13 p0 p1 p2 p3), (f0_v14 p0 p1 p2 p3), (f0_v15 p0 p1 p2 p3), (f0_v16 p0 p1 p2 p3), (f0_v17 p0 p1 p2 p3), (f0_v18 p0 p1 p2 p3)]
theorem own_sum (p0 p1 p2 p3 : Int32) : f0_v18 p0 p1 p2 p3 = 21 := by
  have e : f0_v17 p0 p1 p2 p3 = f0_v11 p0 p1 p2 p3 := by
    unfold f0_v17 f0_v16 f0_v15 f0_v14 f0_v13 f0_v12 f0_v11 f0_v10 f0_v9 f0_v8 f0_v7 f0_v6
    rw [Int32.zero_add]
  unfold f0_v18
  rw [e, Int32.add_comm, Int32.sub_add_cancel]
theorem own_step (p0 p1 p2 p3 : Int32) : (own_f p0 p1 p2 p3).getD (f0_v23 p0 p1 p2 p3 + 1).toNatClampNeg 0 = f0_v25 p0 p1 p2 p3 + f0_v26 p0 p1 p2 p3 := by
  have h := (own_idx p0 p1 p2 p3).1
  unfold f0_v25 f0_v26 own_f
  generalize f0_v23 p0 p1 p2 p3 = x at *
  rcases own_8 x h with h | h | h | h | h | h | h | h <;> rw [h] <;> rfl
theorem own_24 (p0 p1 p2 p3 : Int32) : f0_v24 p0 p1 p2 p3 = (own_f p0 p1 p2 p3).getD (f0_v23 p0 p1 p2 p3 + 1).toNatClampNeg 0 := rfl
theorem own_27 (p0 p1 p2 p3 : Int32) : f0_v27 p0 p1 p2 p3 = f0_v25 p0 p1 p2 p3 := rfl
theorem own_28 (p0 p1 p2 p3 : Int32) : f0_v28 p0 p1 p2 p3 = f0_v24 p0 p1 p2 p3 := by
  have h := own_idx p0 p1 p2 p3
  rw [own_24, ← own_up _ _ h.1 h.2.1]; rfl
theorem own_29 (p0 p1 p2 p3 : Int32) (g : ¬ ((f0_v22 p0 p1 p2 p3) + (1 : Int32)) < (f0_v19 p0 p1 p2 p3)) : f0_v29 p0 p1 p2 p3 = f0_v24 p0 p1 p2 p3 := by
  have h := own_idx p0 p1 p2 p3
  rw [own_24, ← own_up _ _ h.1 (h.2.2.2 g).1]; rfl
theorem own_30 (p0 p1 p2 p3 : Int32) (g : ¬ ((f0_v22 p0 p1 p2 p3) + (1 : Int32)) < (f0_v19 p0 p1 p2 p3)) (g' : ¬ ((f0_v21 p0 p1 p2 p3) + (1 : Int32)) < (f0_v20 p0 p1 p2 p3)) : f0_v30 p0 p1 p2 p3 = f0_v24 p0 p1 p2 p3 := by
  have h := own_idx p0 p1 p2 p3
  have e : f0_v23 p0 p1 p2 p3 = 7 := Int32.toInt_inj.mp ((h.2.2.2 g).2 g')
  rw [own_24, e]
  exact (own_sum p0 p1 p2 p3).symm
theorem own_116 (p0 p1 p2 p3 : Int32) : f0_m116 p0 p1 p2 p3 = 1 := by
  unfold f0_m116 f0_m106
  rw [own_27, own_24, own_step, if_pos rfl, if_neg (by decide), own_acs, if_pos rfl]
theorem own_law (p0 p1 p2 p3 : Int32) : F0 p0 p1 p2 p3 = 1 := by
  unfold F0 f0_m152 f0_m127 f0_m139 f0_m150
  rw [own_116, own_28]
  by_cases g : ((f0_v22 p0 p1 p2 p3) + (1 : Int32)) < (f0_v19 p0 p1 p2 p3)
  · rw [if_pos g, if_neg (by decide), if_pos rfl]; rfl
  · rw [if_neg g, own_29 _ _ _ _ g]
    by_cases g' : ((f0_v21 p0 p1 p2 p3) + (1 : Int32)) < (f0_v20 p0 p1 p2 p3)
    · rw [if_pos g', if_neg (by decide), if_pos rfl]; rfl
    · rw [if_neg g', own_30 _ _ _ _ g g', if_neg (by decide), if_pos rfl]; rfl
set_option maxRecDepth 65536 in
set_option maxHeartbeats 40000000 in
theorem comes_1 {Post : Tables → Env → Array Value → State → Outcome → State → Prop} (hpost : ∀ tb e args s v u, (limb_1_1.after args s (.returned v) u = true ∧ limb_1_2.after args s (.returned v) u = true ∧ True) → FrameEnd s (.returned v) u (Jvm.fieldLocs frame_1_writes args s ++ Jvm.arrayLocs frame_1_arrays args s ++ Jvm.staticLocs frame_1_statics s) 24 256 → Post tb e args s (.returned v) u) :
    ArmFor flags0 classFile x code maxLocals ret World_1 tables_1 room_1 Calls_1 rest_1 Pre_1 Post := by
  intro l hfl _ _ p e ha hc hk s m args below hf hA hF happ hP
  obtain ⟨hcalls, hrest, hpre⟩ := hP
  obtain ⟨-, -, -, hnamed, -, -, -, hat⟩ := (Spec.applies_iff hf).mp happ
  obtain ⟨hg, hn⟩ := and_e (Cond.before_iff.mp (show (Jvm.Cond.and given_1 narrow_1).before args s = true from hpre))
  obtain ⟨hcount, g0⟩ := and_e hg
  obtain ⟨ga0, g1⟩ := and_e g0
  obtain ⟨ga1, g2⟩ := and_e g1
  obtain ⟨ga2, g3⟩ := and_e g2
  obtain ⟨w0, w1, w2, w3, rfl⟩ : ∃ w0 w1 w2 w3 : Value, args = #[w0, w1, w2, w3] := by
    have hs : args.size = 4 := by simpa [Cond.value, given_1] using hcount
    obtain ⟨L⟩ := args
    match L, hs with
    | [w0, w1, w2, w3], _ => exact ⟨w0, w1, w2, w3, rfl⟩
  have hw := fun d (hd : d ∈ tables_1) => atoms_spec (ws := Jvm.Cond.code x code maxLocals ret :: tables_1) hat d (List.mem_cons_of_mem _ hd)
  obtain ⟨i0, ei0⟩ := is_v ga0
  obtain rfl : w0 = (.int i0) := Option.some.inj ei0
  obtain ⟨i1, ei1⟩ := is_v ga1
  obtain rfl : w1 = (.int i1) := Option.some.inj ei1
  obtain ⟨i2, ei2⟩ := is_v ga2
  obtain rfl : w2 = (.int i2) := Option.some.inj ei2
  obtain ⟨i3, ei3⟩ := is_v g3
  obtain rfl : w3 = (.int i3) := Option.some.inj ei3
  obtain ⟨n, o, h1, h2, h3, _, L, rfl, ⟨rfl, N⟩, hq⟩ := rm0 l s _ hw tables_1 i0 i1 i2 i3 s.heap s.heap.size (Nat.le_refl _) p e ha hc hk s m _ below hf ((Spec.applies_iff_loose hf).mp happ).1 ⟨rfl, State.Warmed39.refl s, rfl⟩ trivial
  have hlaw := own_law i0 i1 i2 i3
  refine ⟨n, _, h1, h2, h3, hpost _ _ _ _ _ _ ⟨Cond.after_iff.mpr rfl, Cond.after_iff.mpr (eq_i res_at (Term.int_eval (1)) (congrArg Value.int hlaw)), trivial⟩ ⟨hq.1, hq.2.1, (hq.2.2.sift fun y hy => Or.inr (N y hy)).mono (by decide) (by decide)⟩⟩
theorem main_1_1 : Claimed_1_1 := comes_1 fun _ _ _ _ _ _ h hF => ⟨h.1, hF⟩
theorem main_1_2 : Claimed_1_2 := comes_1 fun _ _ _ _ _ _ h hF => ⟨h.2.1, hF⟩
end Jvm.Pilot.@@N@@
namespace Jvm.Pilot.@@N@@
open Jvm Jvm.ClassFile Sem Op Lib Jvm.Free Jvm.Stand Jvm.Pilot.@@N@@.Jvm.D
/-! MADE BY PROGRAM (witnessworld.py) out of the Statement's table words and the real class files: 11 classes; the members and pool entries that the words name. The judged class is class 1, her method 1. -/
namespace start1
open Jvm.ClassFile
def u (s : String) : CpInfo := .utf8 (stringToUtf16 s)
/-- a pool by its gaps: so many unusable entries, then the entry; so many at the end -/
def gap : Nat → List CpInfo → List CpInfo
  | 0, r => r
  | n + 1, r => .unusable :: gap n r
def poolList (es : List (Nat × CpInfo)) (last : Nat) : List CpInfo := es.foldr (fun e r => gap e.1 (e.2 :: r)) (gap last [])
def pool (es : List (Nat × CpInfo)) (last : Nat) : Array CpInfo := ⟨poolList es last⟩
def fileOf (pool : Array CpInfo) (this : Nat) (attrs : Array Attribute := #[]) (ms : Array MethodInfo := #[]) (fl : Nat := 33) (sup : Nat := 0) (ifs : Array Nat := #[]) (fds : Array FieldInfo := #[]) : ClassFile where
  minorVersion := 0
  majorVersion := 65
  constantPool := pool
  accessFlags := fl
  thisClass := this
  superClass := sup
  interfaces := ifs
  fields := fds
  methods := ms
  attributes := attrs
def plain (name : String) (sup : Option ClassId) : Class where
  name := name
  kind := .ordinary
  loader := none
  accessFlags := 33
  super := sup
  interfaces := #[]
  cf := none
  fields := #[]
  methods := #[]
  instanceTypes := #[]
  staticTypes := #[]
  resolved := #[]
  callSites := []
  init := .initialized
  statics := none
  mirror := none

def pool0 : Array CpInfo := pool [(5, u "<init>"), (0, u "()V"), (1, .class_ 10), (1, u "java/lang/Object")] 113

def k0c0 : Code := { maxStack := 0, maxLocals := 1, code := object_method_1_code, exceptionTable := #[], attributes := #[] }
def k0m0 : Method := { name := "<init>", desc := "()V", sig := { parameters := [], returnType := none }, accessFlags := 1, code := some k0c0 }
/-- java/lang/Object -/
def k0 : Class := { plain "java/lang/Object" none with
  accessFlags := 33
  interfaces := #[]
  cf := some (fileOf pool0 8 #[] #[{ accessFlags := 1, nameIndex := 5, descriptorIndex := 6, attributes := #[] }] 33 0 #[] #[])
  fields := #[]
  methods := #[k0m0]
  instanceTypes := #[]
  staticTypes := #[]
  resolved := Array.replicate 124 none
  statics := none }

def pool1 : Array CpInfo := pool [(2, .class_ 4), (1, u "java/lang/Object"), (0, u "<init>"), (0, u "()V"), (0, .integer 2147483647), (0, .class_ 9), (0, u "com/example/frugal_synth/frugalsynth/Arena"), (0, .methodref 8 11), (0, .nameAndType 5 12), (0, u "(I[I[I[I[JI[I)V"), (0, .methodref 8 14), (0, .nameAndType 15 16), (0, u "endChoice"), (0, u "(II)I"), (0, .methodref 8 18), (0, .nameAndType 19 16), (0, u "firstChoice"), (0, .methodref 8 21), (0, .nameAndType 22 23), (0, u "choiceCount"), (0, u "()I"), (0, .class_ 25), (0, u "com/example/frugal_synth/frugalsynth/ArenaEndChoicePinLaw"), (2, u "law"), (0, u "(IIII)Z")] 5

def k1m0 : Method := { name := "<init>", desc := "()V", sig := { parameters := [], returnType := none }, accessFlags := 1, code := none }
def k1c1 : Code := { maxStack := 9, maxLocals := 15, code := code, exceptionTable := #[], attributes := #[] }
def k1m1 : Method := { name := "law", desc := "(IIII)Z", sig := { parameters := [.int, .int, .int, .int], returnType := some .boolean }, accessFlags := 9, code := some k1c1 }
/-- com/example/frugal_synth/frugalsynth/ArenaEndChoicePinLaw -/
def k1 : Class := { plain "com/example/frugal_synth/frugalsynth/ArenaEndChoicePinLaw" (some 0) with
  accessFlags := 49
  interfaces := #[]
  cf := some (fileOf pool1 24 #[] #[{ accessFlags := 1, nameIndex := 5, descriptorIndex := 6, attributes := #[] }, { accessFlags := 9, nameIndex := 28, descriptorIndex := 29, attributes := #[] }] 49 2 #[] #[])
  fields := #[]
  methods := #[k1m0, k1m1]
  instanceTypes := #[]
  staticTypes := #[]
  resolved := Array.replicate 35 none
  statics := none }

def pool2 : Array CpInfo := pool [(1, .methodref 2 3), (0, .class_ 4), (0, .nameAndType 5 6), (0, u "java/lang/Object"), (0, u "<init>"), (0, u "()V"), (0, .fieldref 8 9), (0, .class_ 10), (0, .nameAndType 11 12), (0, u "com/example/frugal_synth/frugalsynth/Arena"), (0, u "assignmentCount"), (0, u "I"), (0, .fieldref 8 14), (0, .nameAndType 15 16), (0, u "firstChoice"), (0, u "[I"), (0, .fieldref 8 18), (0, .nameAndType 19 16), (0, u "outputs"), (0, .fieldref 8 21), (0, .nameAndType 22 16), (0, u "targets"), (0, .fieldref 8 24), (0, .nameAndType 25 26), (0, u "weights"), (0, u "[J"), (0, .fieldref 8 28), (0, .nameAndType 29 12), (0, u "parityCount"), (0, .fieldref 8 31), (0, .nameAndType 32 16), (0, u "priorities"), (11, u "()I"), (16, .class_ 62), (0, u "com/example/frugal_synth/frugalsynth/Arena$Builder"), (54, u "predecessors"), (10, .class_ 130), (1, u "com/example/frugal_synth/frugalsynth/Arena$Predecessors"), (9, u "choiceCount"), (2, u "(II)I"), (2, u "endChoice"), (22, u "Lcom/example/frugal_synth/frugalsynth/Arena$Predecessors;"), (3, u "UNUSED"), (0, u "B"), (2, u "LEADS"), (1, u "REACHES"), (1, u "AVOIDS"), (1, u "(I[I[I[I[JI[I)V")] 47

def k2c0 : Code := { maxStack := 2, maxLocals := 8, code := prog_2_method_1_code, exceptionTable := #[], attributes := #[] }
def k2m0 : Method := { name := "<init>", desc := "(I[I[I[I[JI[I)V", sig := { parameters := [.int, (.array .int), (.array .int), (.array .int), (.array .long), .int, (.array .int)], returnType := none }, accessFlags := 0, code := some k2c0 }
def k2c1 : Code := { maxStack := 1, maxLocals := 1, code := prog_2_method_5_code, exceptionTable := #[], attributes := #[] }
def k2m1 : Method := { name := "choiceCount", desc := "()I", sig := { parameters := [], returnType := some .int }, accessFlags := 0, code := some k2c1 }
def k2c2 : Code := { maxStack := 3, maxLocals := 3, code := prog_2_method_7_code, exceptionTable := #[], attributes := #[] }
def k2m2 : Method := { name := "firstChoice", desc := "(II)I", sig := { parameters := [.int, .int], returnType := some .int }, accessFlags := 0, code := some k2c2 }
def k2c3 : Code := { maxStack := 3, maxLocals := 3, code := prog_2_method_8_code, exceptionTable := #[], attributes := #[] }
def k2m3 : Method := { name := "endChoice", desc := "(II)I", sig := { parameters := [.int, .int], returnType := some .int }, accessFlags := 0, code := some k2c3 }
/-- com/example/frugal_synth/frugalsynth/Arena -/
def k2 : Class := { plain "com/example/frugal_synth/frugalsynth/Arena" (some 0) with
  accessFlags := 32
  interfaces := #[]
  cf := some (fileOf pool2 8 #[.nestMembers #[61, 128]] #[{ accessFlags := 0, nameIndex := 5, descriptorIndex := 183, attributes := #[] }, { accessFlags := 0, nameIndex := 140, descriptorIndex := 44, attributes := #[] }, { accessFlags := 0, nameIndex := 15, descriptorIndex := 143, attributes := #[] }, { accessFlags := 0, nameIndex := 146, descriptorIndex := 143, attributes := #[] }] 32 2 #[] #[{ accessFlags := 24, nameIndex := 173, descriptorIndex := 174, attributes := #[] }, { accessFlags := 24, nameIndex := 177, descriptorIndex := 174, attributes := #[] }, { accessFlags := 24, nameIndex := 179, descriptorIndex := 174, attributes := #[] }, { accessFlags := 24, nameIndex := 181, descriptorIndex := 174, attributes := #[] }, { accessFlags := 18, nameIndex := 11, descriptorIndex := 12, attributes := #[] }, { accessFlags := 18, nameIndex := 15, descriptorIndex := 16, attributes := #[] }, { accessFlags := 18, nameIndex := 19, descriptorIndex := 16, attributes := #[] }, { accessFlags := 18, nameIndex := 22, descriptorIndex := 16, attributes := #[] }, { accessFlags := 18, nameIndex := 25, descriptorIndex := 26, attributes := #[] }, { accessFlags := 18, nameIndex := 29, descriptorIndex := 12, attributes := #[] }, { accessFlags := 18, nameIndex := 32, descriptorIndex := 16, attributes := #[] }, { accessFlags := 2, nameIndex := 117, descriptorIndex := 169, attributes := #[] }])
  fields := #[{ name := "UNUSED", type := .byte, accessFlags := 24, slot := 0, constantValue := 0 }, { name := "LEADS", type := .byte, accessFlags := 24, slot := 1, constantValue := 0 }, { name := "REACHES", type := .byte, accessFlags := 24, slot := 2, constantValue := 0 }, { name := "AVOIDS", type := .byte, accessFlags := 24, slot := 3, constantValue := 0 }, { name := "assignmentCount", type := .int, accessFlags := 18, slot := 0, constantValue := 0 }, { name := "firstChoice", type := (.array .int), accessFlags := 18, slot := 1, constantValue := 0 }, { name := "outputs", type := (.array .int), accessFlags := 18, slot := 2, constantValue := 0 }, { name := "targets", type := (.array .int), accessFlags := 18, slot := 3, constantValue := 0 }, { name := "weights", type := (.array .long), accessFlags := 18, slot := 4, constantValue := 0 }, { name := "parityCount", type := .int, accessFlags := 18, slot := 5, constantValue := 0 }, { name := "priorities", type := (.array .int), accessFlags := 18, slot := 6, constantValue := 0 }, { name := "predecessors", type := (.object "com/example/frugal_synth/frugalsynth/Arena$Predecessors"), accessFlags := 2, slot := 7, constantValue := 0 }]
  methods := #[k2m0, k2m1, k2m2, k2m3]
  instanceTypes := #[.int, (.array .int), (.array .int), (.array .int), (.array .long), .int, (.array .int), (.object "com/example/frugal_synth/frugalsynth/Arena$Predecessors")]
  staticTypes := #[.byte, .byte, .byte, .byte]
  resolved := Array.replicate 231 none
  statics := none }

def pool3 : Array CpInfo := pool [(1, u "java/lang/Cloneable"), (0, .class_ 1), (0, u "java/lang/Object"), (0, .class_ 3)] 3

/-- java/lang/Cloneable -/
def k3 : Class := { plain "java/lang/Cloneable" (some 0) with
  accessFlags := 1537
  interfaces := #[]
  cf := some (fileOf pool3 2 #[] #[] 1537 4 #[] #[])
  fields := #[]
  methods := #[]
  instanceTypes := #[]
  staticTypes := #[]
  resolved := Array.replicate 8 none
  statics := none }

def pool4 : Array CpInfo := pool [(1, u "java/io/Serializable"), (0, .class_ 1), (0, u "java/lang/Object"), (0, .class_ 3)] 3

/-- java/io/Serializable -/
def k4 : Class := { plain "java/io/Serializable" (some 0) with
  accessFlags := 1537
  interfaces := #[]
  cf := some (fileOf pool4 2 #[] #[] 1537 4 #[] #[])
  fields := #[]
  methods := #[]
  instanceTypes := #[]
  staticTypes := #[]
  resolved := Array.replicate 8 none
  statics := none }

/-- the primitive byte -/
def k5 : Class := { plain "byte" none with kind := .primitive 'B', accessFlags := 0x411 }
/-- [B -/
def k6 : Class := { plain "[B" (some 0) with kind := .array 5 .byte, interfaces := #[3, 4], accessFlags := 1041 }

/-- the primitive int -/
def k7 : Class := { plain "int" none with kind := .primitive 'I', accessFlags := 0x411 }
/-- [I -/
def k8 : Class := { plain "[I" (some 0) with kind := .array 7 .int, interfaces := #[3, 4], accessFlags := 1041 }

/-- the primitive long -/
def k9 : Class := { plain "long" none with kind := .primitive 'J', accessFlags := 0x411 }
/-- [J -/
def k10 : Class := { plain "[J" (some 0) with kind := .array 9 .long, interfaces := #[3, 4], accessFlags := 1041 }

def heap : Heap := #[]
def classes : Array Class := #[k0, k1, k2, k3, k4, k5, k6, k7, k8, k9, k10]
def interned : List (Array UInt16 × Addr) := []
def slotsUsed : Nat := 0
def theMethod : MethodId := ⟨1, 1⟩
def args0 : Array Value := #[.int 7, .int 7, .int 7, .int 7]
def aboutOver (below : List Frame) : State where
  vm := { classes := classes, interned := interned.toArray }
  heap := heap
  slotsUsed := slotsUsed
  threads := #[{ frames := .invoking theMethod args0 :: below }]
def below0 : List Frame := [.native { method := ⟨0, 0⟩, args := #[] }]
def about1 : State := aboutOver below0
def p0 : Program := .bare "" "" ""
def e0 : Env := launch0.env 0 0 0
theorem w_frames : about1.frames = Frame.invoking theMethod args0 :: below0 := rfl
set_option maxRecDepth 65536 in
theorem w_args : argsFit about1.vm theMethod args0 = true := by decide +kernel
set_option maxRecDepth 65536 in
theorem w_heap : heapFits about1 = true := by decide +kernel
set_option maxRecDepth 65536 in
theorem w_runnable : about1.curStatus? = some .runnable := by decide +kernel
set_option maxRecDepth 65536 in
theorem w_alone : about1.alone = true := by decide +kernel
set_option maxRecDepth 65536 in
theorem w_named : about1.methodNamed? x = some theMethod := by decide +kernel
set_option maxRecDepth 65536 in
theorem w_hears : about1.hears theMethod below0 = true := by decide +kernel
set_option maxRecDepth 65536 in
theorem w_ripe : about1.ripe theMethod args0 below0 = true := by decide +kernel
theorem w_running : about1.status = .running := rfl
set_option maxRecDepth 65536 in
theorem w_room : about1.hasRoom e0.platform room_1 = true :=
  launch0.hasRoom_least _ room_1 (by decide +kernel) (by decide +kernel) (by decide +kernel) (by decide +kernel) (by decide +kernel) (by decide +kernel)
theorem allAtoms_all (ts : List Jvm.Cond) (a : Array Jvm.Value) (st : Jvm.State) : (allAtoms ts).before a st = ts.all (fun c => c.before a st) := by
  induction ts with
  | nil => rfl
  | cons c t ih =>
    show (Jvm.Cond.and c (allAtoms t)).before a st = _
    rw [Jvm.Cond.before_and, ih, List.all_cons]
def words1 : List Jvm.Cond := Jvm.Cond.code x code maxLocals ret :: tables_1
/-- a 'code' word, met by the world's own term for the bytes: nothing is compared byte by byte -/
theorem code_word {y : MethodName} {bytes : ByteArray} {mx : Nat} {rt : Option FieldType} {a : Array Value} {s : State} {m : MethodId} {meth : Method} {c : Code} (h1 : s.methodNamed? y = some m) (h2 : s.vm.method? m = some meth) (h3 : meth.code = some c) (h4 : c.code = bytes)
    (h5 : (c.maxLocals == mx && c.exceptionTable.isEmpty && decide (c.maxStack ≤ mostOperands) && decide (meth.sig.returnType = rt) && !meth.locks && decide (parseMethodDescriptor y.desc = some meth.sig)) = true) : (Jvm.Cond.code y bytes mx rt).before a s = true := by
  simp only [Bool.and_eq_true, beq_iff_eq, Bool.not_eq_true', decide_eq_true_eq] at h5
  obtain ⟨⟨⟨⟨⟨g1, g2⟩, g3⟩, g4⟩, g5⟩, g6⟩ := h5
  simp [Cond.before, Cond.holds, Cond.value, h1, h2, h3, h4, g1, g2, g3, g4, g5, g6]
def isCode : Jvm.Cond → Bool
  | .code _ _ _ _ => true
  | _ => false
theorem all_split {L : List Jvm.Cond} {P : Jvm.Cond → Bool} (h1 : L.all (fun c => isCode c || P c) = true) (h2 : ∀ c ∈ L.filter isCode, P c = true) : L.all P = true := by
  refine List.all_eq_true.mpr fun c hc => ?_
  have h := List.all_eq_true.mp h1 c hc
  rcases Bool.eq_false_or_eq_true (isCode c) with hi | hi
  · exact h2 c (List.mem_filter.mpr ⟨hc, hi⟩)
  · simpa [hi] using h
set_option maxRecDepth 65536 in
theorem w_c0 : (Jvm.Cond.code x code maxLocals ret).before args0 about1 = true := code_word (m := ⟨1, 1⟩) (meth := k1m1) (c := k1c1) (by decide +kernel) rfl rfl rfl (by decide +kernel)
set_option maxRecDepth 65536 in
theorem w_c1 : (Jvm.Cond.code ({ cls := "com/example/frugal_synth/frugalsynth/Arena", name := "<init>", desc := "(I[I[I[I[JI[I)V" } : Jvm.MethodName) prog_2_method_1_code (8 : Nat) (Option.none : Option Jvm.ClassFile.FieldType)).before args0 about1 = true := code_word (m := ⟨2, 0⟩) (meth := k2m0) (c := k2c0) (by decide +kernel) rfl rfl rfl (by decide +kernel)
set_option maxRecDepth 65536 in
theorem w_c2 : (Jvm.Cond.code ({ cls := "java/lang/Object", name := "<init>", desc := "()V" } : Jvm.MethodName) object_method_1_code (1 : Nat) (Option.none : Option Jvm.ClassFile.FieldType)).before args0 about1 = true := code_word (m := ⟨0, 0⟩) (meth := k0m0) (c := k0c0) (by decide +kernel) rfl rfl rfl (by decide +kernel)
set_option maxRecDepth 65536 in
theorem w_c3 : (Jvm.Cond.code ({ cls := "com/example/frugal_synth/frugalsynth/Arena", name := "endChoice", desc := "(II)I" } : Jvm.MethodName) prog_2_method_8_code (3 : Nat) (Option.some Jvm.ClassFile.FieldType.int)).before args0 about1 = true := code_word (m := ⟨2, 3⟩) (meth := k2m3) (c := k2c3) (by decide +kernel) rfl rfl rfl (by decide +kernel)
set_option maxRecDepth 65536 in
theorem w_c4 : (Jvm.Cond.code ({ cls := "com/example/frugal_synth/frugalsynth/Arena", name := "firstChoice", desc := "(II)I" } : Jvm.MethodName) prog_2_method_7_code (3 : Nat) (Option.some Jvm.ClassFile.FieldType.int)).before args0 about1 = true := code_word (m := ⟨2, 2⟩) (meth := k2m2) (c := k2c2) (by decide +kernel) rfl rfl rfl (by decide +kernel)
set_option maxRecDepth 65536 in
theorem w_c5 : (Jvm.Cond.code ({ cls := "com/example/frugal_synth/frugalsynth/Arena", name := "choiceCount", desc := "()I" } : Jvm.MethodName) prog_2_method_5_code (1 : Nat) (Option.some Jvm.ClassFile.FieldType.int)).before args0 about1 = true := code_word (m := ⟨2, 1⟩) (meth := k2m1) (c := k2c1) (by decide +kernel) rfl rfl rfl (by decide +kernel)
def codes1 : List Jvm.Cond := [Jvm.Cond.code x code maxLocals ret, Jvm.Cond.code ({ cls := "com/example/frugal_synth/frugalsynth/Arena", name := "<init>", desc := "(I[I[I[I[JI[I)V" } : Jvm.MethodName) prog_2_method_1_code (8 : Nat) (Option.none : Option Jvm.ClassFile.FieldType), Jvm.Cond.code ({ cls := "java/lang/Object", name := "<init>", desc := "()V" } : Jvm.MethodName) object_method_1_code (1 : Nat) (Option.none : Option Jvm.ClassFile.FieldType), Jvm.Cond.code ({ cls := "com/example/frugal_synth/frugalsynth/Arena", name := "endChoice", desc := "(II)I" } : Jvm.MethodName) prog_2_method_8_code (3 : Nat) (Option.some Jvm.ClassFile.FieldType.int), Jvm.Cond.code ({ cls := "com/example/frugal_synth/frugalsynth/Arena", name := "firstChoice", desc := "(II)I" } : Jvm.MethodName) prog_2_method_7_code (3 : Nat) (Option.some Jvm.ClassFile.FieldType.int), Jvm.Cond.code ({ cls := "com/example/frugal_synth/frugalsynth/Arena", name := "choiceCount", desc := "()I" } : Jvm.MethodName) prog_2_method_5_code (1 : Nat) (Option.some Jvm.ClassFile.FieldType.int)]
set_option maxRecDepth 65536 in
theorem codes_eq : words1.filter isCode = codes1 := rfl
theorem w_codes : ∀ c ∈ words1.filter isCode, c.before args0 about1 = true := by
  rw [codes_eq]
  intro c hc
  simp only [codes1, List.mem_cons, List.not_mem_nil, or_false] at hc
  rcases hc with rfl | rfl | rfl | rfl | rfl | rfl
  · exact w_c0
  · exact w_c1
  · exact w_c2
  · exact w_c3
  · exact w_c4
  · exact w_c5
set_option maxRecDepth 65536 in
theorem w_t1 : (words1.take 24).all (fun c => isCode c || c.before args0 about1) = true := by decide +kernel
set_option maxRecDepth 65536 in
theorem w_t2 : (words1.drop 24).all (fun c => isCode c || c.before args0 about1) = true := by decide +kernel
theorem w_tables : (allAtoms (Jvm.Cond.code x code maxLocals ret :: tables_1)).before args0 about1 = true := by
  rw [allAtoms_all]
  show words1.all (fun c => c.before args0 about1) = true
  refine all_split ?_ w_codes
  rw [← List.take_append_drop 24 words1, List.all_append, w_t1, w_t2]
  rfl
set_option maxRecDepth 65536 in
theorem w_case : (Jvm.Cond.and given_1 narrow_1).before args0 about1 = true := by decide +kernel
theorem w_applies : (headSpec (Jvm.Cond.code x code maxLocals ret :: tables_1) room_1).applies x e0.platform about1 = true :=
  (Spec.applies_iff w_frames).mpr ⟨w_running, w_runnable, w_alone, w_named, w_hears, w_ripe, w_room, w_tables⟩
theorem atStart : AtStart classFile x code maxLocals ret World_1 tables_1 room_1 Calls_1 rest_1 Pre_1 launch0 p0 e0 about1 theMethod args0 below0 :=
  ⟨lists_1, trivial, launch0.admits_env _ _ _, launch0.least_env, fairChoices_fair.cas, fairChoices_fair.clock, w_frames, w_args, w_heap, w_applies, trivial, trivial, w_case⟩
end start1
theorem witness_1 : WitnessClaimed_1 := ⟨start1.p0, start1.e0, start1.about1, start1.theMethod, start1.args0, start1.below0, start1.atStart⟩
end Jvm.Pilot.@@N@@
