import JvmDerived
import JvmDerived.Pilot.@@N@@Statement
import JvmDerived.Pilot.@@N@@Code
set_option linter.unusedVariables false
set_option linter.unusedSimpArgs false
namespace Jvm.RoadKit
open Sem ClassFile Op Lib Jvm.Stand Jvm.Free Jvm.LawKit
section New
variable {p : Program} {l : Launch} {e : Env} {R : Room} {s : State} {m : MethodId} {args : Array Value} {below : List Frame} {meth : Method} {c : Code} {T : State} {locs : List Loc} {cells slots : Nat}
theorem retI (X : Stand p l e R s m args below meth c T locs cells slots) (hx : p.tables.exec = Jvm.exec) {pc : Nat} {Ls : Array Slot} {z : Int32} {rest : List Value} (hret : meth.sig.returnType = some .int) (hd : decode c.code pc = .ok (.ireturn, 1)) {fs : List Frame}
    (hl : ∀ (f : JFrame) (acts : List Action), f.method = m → f.locked = none → f.entered = [] → (doReturn e (T.setTop f) acts (some (.int z))).1 = T.setFrames fs) : Steps p.tables e below (T.setTop (mkF m pc Ls (.int z :: rest))) (T.setFrames fs) := by
  have hm' : T.vm.method? m = some meth := X.method'
  have hn : narrow .int (.int z) = .int z := rfl
  show Steps p.tables e below (T.setTop { method := m, pc := pc, locals := Ls, stack := _ :: rest, locked := none }) _
  jvm_step X.here [X.here.top, hx, hd, hm', hret, hn]
  first | (intro acts; rw [hl _ acts rfl rfl rfl]) | rw [hl _ _ rfl rfl rfl]
  exact Steps.refl _
end New
end Jvm.RoadKit
namespace Jvm.Pilot.@@N@@
open Jvm Jvm.ClassFile Sem Op Lib Jvm.Free Jvm.Stand Jvm.LawKit Jvm.RoadKit Bundle Jvm.Pilot.@@N@@.Jvm.D
theorem d1_0 : decode prog_6_method_5_code 0 = .ok (.iload_n 0, 1) := by decide +kernel
theorem d1_1 : decode prog_6_method_5_code 1 = .ok (.sipush 212, 3) := by decide +kernel
theorem d1_4 : decode prog_6_method_5_code 4 = .ok (.if_icmp .lt 14, 3) := by decide +kernel
theorem d1_18 : decode prog_6_method_5_code 18 = .ok (.iload_n 0, 1) := by decide +kernel
theorem d1_19 : decode prog_6_method_5_code 19 = .ok (.sipush 160, 3) := by decide +kernel
theorem d1_22 : decode prog_6_method_5_code 22 = .ok (.if_icmp .lt 11, 3) := by decide +kernel
theorem d1_33 : decode prog_6_method_5_code 33 = .ok (.iload_n 0, 1) := by decide +kernel
theorem d1_34 : decode prog_6_method_5_code 34 = .ok (.sipush 144, 3) := by decide +kernel
theorem d1_37 : decode prog_6_method_5_code 37 = .ok (.if_icmp .lt 11, 3) := by decide +kernel
theorem d1_48 : decode prog_6_method_5_code 48 = .ok (.iload_n 0, 1) := by decide +kernel
theorem d1_49 : decode prog_6_method_5_code 49 = .ok (.bipush 15, 2) := by decide +kernel
theorem d1_51 : decode prog_6_method_5_code 51 = .ok (.iand, 1) := by decide +kernel
theorem d1_52 : decode prog_6_method_5_code 52 = .ok (.istore_n 1, 1) := by decide +kernel
theorem d1_40 : decode prog_6_method_5_code 40 = .ok (.iload_n 0, 1) := by decide +kernel
theorem d1_41 : decode prog_6_method_5_code 41 = .ok (.bipush 15, 2) := by decide +kernel
theorem d1_43 : decode prog_6_method_5_code 43 = .ok (.iand, 1) := by decide +kernel
theorem d1_44 : decode prog_6_method_5_code 44 = .ok (.istore_n 1, 1) := by decide +kernel
theorem d1_45 : decode prog_6_method_5_code 45 = .ok (.goto 8, 3) := by decide +kernel
theorem d1_25 : decode prog_6_method_5_code 25 = .ok (.iload_n 0, 1) := by decide +kernel
theorem d1_26 : decode prog_6_method_5_code 26 = .ok (.bipush 31, 2) := by decide +kernel
theorem d1_28 : decode prog_6_method_5_code 28 = .ok (.iand, 1) := by decide +kernel
theorem d1_29 : decode prog_6_method_5_code 29 = .ok (.istore_n 1, 1) := by decide +kernel
theorem d1_30 : decode prog_6_method_5_code 30 = .ok (.goto 23, 3) := by decide +kernel
theorem d1_7 : decode prog_6_method_5_code 7 = .ok (.iconst 1, 1) := by decide +kernel
theorem d1_8 : decode prog_6_method_5_code 8 = .ok (.iload_n 0, 1) := by decide +kernel
theorem d1_9 : decode prog_6_method_5_code 9 = .ok (.sipush 212, 3) := by decide +kernel
theorem d1_12 : decode prog_6_method_5_code 12 = .ok (.isub, 1) := by decide +kernel
theorem d1_13 : decode prog_6_method_5_code 13 = .ok (.ishl, 1) := by decide +kernel
theorem d1_14 : decode prog_6_method_5_code 14 = .ok (.istore_n 1, 1) := by decide +kernel
theorem d1_15 : decode prog_6_method_5_code 15 = .ok (.goto 38, 3) := by decide +kernel
theorem d1_53 : decode prog_6_method_5_code 53 = .ok (.iload_n 1, 1) := by decide +kernel
theorem d1_54 : decode prog_6_method_5_code 54 = .ok (.ireturn, 1) := by decide +kernel
theorem d2_0 : decode method_2_code 0 = .ok (.iload_n 0, 1) := by decide +kernel
theorem d2_1 : decode method_2_code 1 = .ok (.ifCond .ne 5, 3) := by decide +kernel
theorem d2_4 : decode method_2_code 4 = .ok (.iconst 1, 1) := by decide +kernel
theorem d2_5 : decode method_2_code 5 = .ok (.ireturn, 1) := by decide +kernel
theorem d2_6 : decode method_2_code 6 = .ok (.iload_n 0, 1) := by decide +kernel
theorem d2_7 : decode method_2_code 7 = .ok (.iconst 1, 1) := by decide +kernel
theorem d2_8 : decode method_2_code 8 = .ok (.if_icmp .ne 5, 3) := by decide +kernel
theorem d2_11 : decode method_2_code 11 = .ok (.iconst 2, 1) := by decide +kernel
theorem d2_12 : decode method_2_code 12 = .ok (.ireturn, 1) := by decide +kernel
theorem d2_13 : decode method_2_code 13 = .ok (.iload_n 0, 1) := by decide +kernel
theorem d2_14 : decode method_2_code 14 = .ok (.iconst 2, 1) := by decide +kernel
theorem d2_15 : decode method_2_code 15 = .ok (.if_icmp .ne 5, 3) := by decide +kernel
theorem d2_18 : decode method_2_code 18 = .ok (.iconst 4, 1) := by decide +kernel
theorem d2_19 : decode method_2_code 19 = .ok (.ireturn, 1) := by decide +kernel
theorem d2_20 : decode method_2_code 20 = .ok (.iload_n 0, 1) := by decide +kernel
theorem d2_21 : decode method_2_code 21 = .ok (.iconst 3, 1) := by decide +kernel
theorem d2_22 : decode method_2_code 22 = .ok (.if_icmp .ne 6, 3) := by decide +kernel
theorem d2_25 : decode method_2_code 25 = .ok (.bipush 8, 2) := by decide +kernel
theorem d2_27 : decode method_2_code 27 = .ok (.ireturn, 1) := by decide +kernel
theorem d2_28 : decode method_2_code 28 = .ok (.bipush 16, 2) := by decide +kernel
theorem d2_30 : decode method_2_code 30 = .ok (.ireturn, 1) := by decide +kernel
theorem pd0 : parseMethodDescriptor "(I)I" = some ⟨[.int], some .int⟩ := by decide +kernel
theorem pn0 : plainName "com/example/furoshiki/furoshiki/Format" = true := by first | (simp [plainName, overriddenIn]; done) | decide +kernel
theorem pn1 : plainName "com/example/furoshiki/furoshiki/FormatFixSizePinLaw" = true := by first | (simp [plainName, overriddenIn]; done) | decide +kernel
def f1_m11 (p0 : Int32) : Int32 := (if p0 < (212 : Int32) then (if p0 < (160 : Int32) then (if p0 < (144 : Int32) then (p0 &&& (15 : Int32)) else (p0 &&& (15 : Int32))) else (p0 &&& (31 : Int32))) else ((1 : Int32) <<< ((p0 - (212 : Int32)) &&& 31)))
def F1 (p0 : Int32) : Int32 := (f1_m11 p0)
theorem ef1 (m : MethodId) (x0 : Int32) : entryFrame m #[(.int x0)] 2 = mkF m 0 #[.val (.int x0), .unset] [] := by first | (simp [entryFrame, mkF, argsToLocals, Value.category]; done) | rfl
def Q1 (Z : State) (p0 : Int32) (h0 : Heap) (n0 : Nat) (v : Option Value) (h : Heap) (L : List Loc) : Prop := v = some (.int (F1 p0)) ∧ Fr n0 L ∧ h = h0
set_option maxRecDepth 65536 in
set_option maxHeartbeats 40000000 in
theorem rm1 (l : Launch) (Z : State) (a0 : Array Value) (hw : ∀ d ∈ tables_1, d.before a0 Z = true) (ws : List Jvm.Cond) (p0 : Int32) (h0 : Heap) (n0 : Nat) (Z0 : n0 ≤ h0.size) :
    MetFree l (⟨"com/example/furoshiki/furoshiki/Format", "fixSize", "(I)I"⟩ : MethodName) (head1 (Jvm.Cond.code (⟨"com/example/furoshiki/furoshiki/Format", "fixSize", "(I)I"⟩ : MethodName) prog_6_method_5_code 2 (some .int) :: ws) ({ frames := 0, cells := 0, slots := 0, locals := 0 } : Room)) (fun a U => a = #[(.int p0)] ∧ Z.Warmed39 U.vm ∧ U.heap = h0) (fun _ _ _ _ _ => True) (fun _ U o U' => ∃ v L, o = .returned v ∧ Q1 Z p0 h0 n0 v U'.heap L ∧ FrameEnd U o U' L ({ frames := 0, cells := 0, slots := 0, locals := 0 } : Room).cells ({ frames := 0, cells := 0, slots := 0, locals := 0 } : Room).slots) := by
  refine MetFree.of_bodySF (plainFor_of_name pn0) hisR ?_
  intro p e s m args below meth c s₁ Bd hml0 hP hK
  obtain ⟨rfl, hZ, hh⟩ := hP
  have hx := Bd.exec
  have hby := Bd.bytes
  have hml : c.maxLocals = 2 := hml0
  have hown : s.vm.findClass "com/example/furoshiki/furoshiki/Format" = some m.cls := findClass_of_methodNamed Bd.named
  have hnm := (name_of_methodNamed Bd.named Bd.method).1
  have X0 : Stand p l e ({ frames := 0, cells := 0, slots := 0, locals := 0 } : Room) s m #[(.int p0)] below meth c s₁ [] 0 0 := Stand.of_body Bd
  have e0 : s₁.heap = h0 := by rw [← hh, Bd.state]; rfl
  have N0 := Fr.nil n0
  have pre0 : ∀ t, Steps p.tables e below (s₁.setTop (mkF m 0 #[.val (.int p0), .unset] [])) t → Steps p.tables e below (s₁.setTop (entryFrame m #[(.int p0)] 2)) t := fun t k => castTop (ef1 m p0) k
  have pre1 : ∀ t, Steps p.tables e below (s₁.setTop (mkF m 4 #[.val (.int p0), .unset] [(.int (212 : Int32)), (.int p0)])) t → Steps p.tables e below (s₁.setTop (entryFrame m #[(.int p0)] 2)) t := fun t k => pre0 t (by
    show Steps p.tables e below (s₁.setTop (mkF m 0 #[.val (.int p0), .unset] [])) _
    refine XS.iloadN X0.here hx rfl (hb hby d1_0) rfl ?_
    show Steps p.tables e below (s₁.setTop (mkF m 1 #[.val (.int p0), .unset] [(.int p0)])) _
    refine XS.sipush X0.here hx rfl (hb hby d1_1) ?_
    exact k)
  obtain ⟨T2, L2, X2, e2, N2, pre2⟩ : ∃ (T' : State) (locs' : List Loc), Stand p l e ({ frames := 0, cells := 0, slots := 0, locals := 0 } : Room) s m #[(.int p0)] below meth c T' locs' 0 0 ∧ T'.heap = h0 ∧ Fr n0 locs' ∧ ∀ t, Steps p.tables e below (T'.setTop (mkF m 53 #[.val (.int p0), .val (.int (f1_m11 p0))] [])) t → Steps p.tables e below (s₁.setTop (entryFrame m #[(.int p0)] 2)) t := by
    by_cases hc4_2 : p0 < (212 : Int32)
    · have pre3 : ∀ t, Steps p.tables e below (s₁.setTop (mkF m 22 #[.val (.int p0), .unset] [(.int (160 : Int32)), (.int p0)])) t → Steps p.tables e below (s₁.setTop (entryFrame m #[(.int p0)] 2)) t := fun t k => pre1 t (by
        show Steps p.tables e below (s₁.setTop (mkF m 4 #[.val (.int p0), .unset] [(.int (212 : Int32)), (.int p0)])) _
        refine XS.icmpYes X0.here hx rfl (pc0 := 4) (pc' := 18) rfl (hb hby d1_4) rfl (tlt hc4_2).1 (by decide) (by decide) ?_
        show Steps p.tables e below (s₁.setTop (mkF m 18 #[.val (.int p0), .unset] [])) _
        refine XS.iloadN X0.here hx rfl (hb hby d1_18) rfl ?_
        show Steps p.tables e below (s₁.setTop (mkF m 19 #[.val (.int p0), .unset] [(.int p0)])) _
        refine XS.sipush X0.here hx rfl (hb hby d1_19) ?_
        exact k)
      by_cases hc22_4 : p0 < (160 : Int32)
      · have pre5 : ∀ t, Steps p.tables e below (s₁.setTop (mkF m 37 #[.val (.int p0), .unset] [(.int (144 : Int32)), (.int p0)])) t → Steps p.tables e below (s₁.setTop (entryFrame m #[(.int p0)] 2)) t := fun t k => pre3 t (by
          show Steps p.tables e below (s₁.setTop (mkF m 22 #[.val (.int p0), .unset] [(.int (160 : Int32)), (.int p0)])) _
          refine XS.icmpYes X0.here hx rfl (pc0 := 22) (pc' := 33) rfl (hb hby d1_22) rfl (tlt hc22_4).1 (by decide) (by decide) ?_
          show Steps p.tables e below (s₁.setTop (mkF m 33 #[.val (.int p0), .unset] [])) _
          refine XS.iloadN X0.here hx rfl (hb hby d1_33) rfl ?_
          show Steps p.tables e below (s₁.setTop (mkF m 34 #[.val (.int p0), .unset] [(.int p0)])) _
          refine XS.sipush X0.here hx rfl (hb hby d1_34) ?_
          exact k)
        by_cases hc37_6 : p0 < (144 : Int32)
        · have pre7 : ∀ t, Steps p.tables e below (s₁.setTop (mkF m 53 #[.val (.int p0), .val (.int (p0 &&& (15 : Int32)))] [])) t → Steps p.tables e below (s₁.setTop (entryFrame m #[(.int p0)] 2)) t := fun t k => pre5 t (by
            show Steps p.tables e below (s₁.setTop (mkF m 37 #[.val (.int p0), .unset] [(.int (144 : Int32)), (.int p0)])) _
            refine XS.icmpYes X0.here hx rfl (pc0 := 37) (pc' := 48) rfl (hb hby d1_37) rfl (tlt hc37_6).1 (by decide) (by decide) ?_
            show Steps p.tables e below (s₁.setTop (mkF m 48 #[.val (.int p0), .unset] [])) _
            refine XS.iloadN X0.here hx rfl (hb hby d1_48) rfl ?_
            show Steps p.tables e below (s₁.setTop (mkF m 49 #[.val (.int p0), .unset] [(.int p0)])) _
            refine XS.bipush X0.here hx rfl (hb hby d1_49) ?_
            show Steps p.tables e below (s₁.setTop (mkF m 51 #[.val (.int p0), .unset] [(.int (15 : Int32)), (.int p0)])) _
            refine XS.iand X0.here hx rfl (hb hby d1_51) rfl ?_
            show Steps p.tables e below (s₁.setTop (mkF m 52 #[.val (.int p0), .unset] [(.int (p0 &&& (15 : Int32)))])) _
            refine XS.istoreN X0.here hx rfl (hb hby d1_52) rfl (l' := #[.val (.int p0), .val (.int (p0 &&& (15 : Int32)))]) rfl ?_
            exact k)
          have q_f1_m11 : f1_m11 p0 = (p0 &&& (15 : Int32)) := by unfold f1_m11; rw [if_pos hc4_2, if_pos hc22_4, if_pos hc37_6]
          rw [q_f1_m11]
          exact ⟨s₁, _, X0, e0, N0, pre7⟩
        have pre8 : ∀ t, Steps p.tables e below (s₁.setTop (mkF m 53 #[.val (.int p0), .val (.int (p0 &&& (15 : Int32)))] [])) t → Steps p.tables e below (s₁.setTop (entryFrame m #[(.int p0)] 2)) t := fun t k => pre5 t (by
          show Steps p.tables e below (s₁.setTop (mkF m 37 #[.val (.int p0), .unset] [(.int (144 : Int32)), (.int p0)])) _
          refine XS.icmpNo X0.here hx rfl (hb hby d1_37) rfl (flt hc37_6).1 ?_
          show Steps p.tables e below (s₁.setTop (mkF m 40 #[.val (.int p0), .unset] [])) _
          refine XS.iloadN X0.here hx rfl (hb hby d1_40) rfl ?_
          show Steps p.tables e below (s₁.setTop (mkF m 41 #[.val (.int p0), .unset] [(.int p0)])) _
          refine XS.bipush X0.here hx rfl (hb hby d1_41) ?_
          show Steps p.tables e below (s₁.setTop (mkF m 43 #[.val (.int p0), .unset] [(.int (15 : Int32)), (.int p0)])) _
          refine XS.iand X0.here hx rfl (hb hby d1_43) rfl ?_
          show Steps p.tables e below (s₁.setTop (mkF m 44 #[.val (.int p0), .unset] [(.int (p0 &&& (15 : Int32)))])) _
          refine XS.istoreN X0.here hx rfl (hb hby d1_44) rfl (l' := #[.val (.int p0), .val (.int (p0 &&& (15 : Int32)))]) rfl ?_
          show Steps p.tables e below (s₁.setTop (mkF m 45 #[.val (.int p0), .val (.int (p0 &&& (15 : Int32)))] [])) _
          refine XS.goto X0.here hx rfl (pc0 := 45) (pc' := 53) rfl (hb hby d1_45) (by decide) (by decide) ?_
          exact k)
        have q_f1_m11 : f1_m11 p0 = (p0 &&& (15 : Int32)) := by unfold f1_m11; rw [if_pos hc4_2, if_pos hc22_4, if_neg hc37_6]
        rw [q_f1_m11]
        exact ⟨s₁, _, X0, e0, N0, pre8⟩
      have pre9 : ∀ t, Steps p.tables e below (s₁.setTop (mkF m 53 #[.val (.int p0), .val (.int (p0 &&& (31 : Int32)))] [])) t → Steps p.tables e below (s₁.setTop (entryFrame m #[(.int p0)] 2)) t := fun t k => pre3 t (by
        show Steps p.tables e below (s₁.setTop (mkF m 22 #[.val (.int p0), .unset] [(.int (160 : Int32)), (.int p0)])) _
        refine XS.icmpNo X0.here hx rfl (hb hby d1_22) rfl (flt hc22_4).1 ?_
        show Steps p.tables e below (s₁.setTop (mkF m 25 #[.val (.int p0), .unset] [])) _
        refine XS.iloadN X0.here hx rfl (hb hby d1_25) rfl ?_
        show Steps p.tables e below (s₁.setTop (mkF m 26 #[.val (.int p0), .unset] [(.int p0)])) _
        refine XS.bipush X0.here hx rfl (hb hby d1_26) ?_
        show Steps p.tables e below (s₁.setTop (mkF m 28 #[.val (.int p0), .unset] [(.int (31 : Int32)), (.int p0)])) _
        refine XS.iand X0.here hx rfl (hb hby d1_28) rfl ?_
        show Steps p.tables e below (s₁.setTop (mkF m 29 #[.val (.int p0), .unset] [(.int (p0 &&& (31 : Int32)))])) _
        refine XS.istoreN X0.here hx rfl (hb hby d1_29) rfl (l' := #[.val (.int p0), .val (.int (p0 &&& (31 : Int32)))]) rfl ?_
        show Steps p.tables e below (s₁.setTop (mkF m 30 #[.val (.int p0), .val (.int (p0 &&& (31 : Int32)))] [])) _
        refine XS.goto X0.here hx rfl (pc0 := 30) (pc' := 53) rfl (hb hby d1_30) (by decide) (by decide) ?_
        exact k)
      have q_f1_m11 : f1_m11 p0 = (p0 &&& (31 : Int32)) := by unfold f1_m11; rw [if_pos hc4_2, if_neg hc22_4]
      rw [q_f1_m11]
      exact ⟨s₁, _, X0, e0, N0, pre9⟩
    have pre10 : ∀ t, Steps p.tables e below (s₁.setTop (mkF m 53 #[.val (.int p0), .val (.int ((1 : Int32) <<< ((p0 - (212 : Int32)) &&& 31)))] [])) t → Steps p.tables e below (s₁.setTop (entryFrame m #[(.int p0)] 2)) t := fun t k => pre1 t (by
      show Steps p.tables e below (s₁.setTop (mkF m 4 #[.val (.int p0), .unset] [(.int (212 : Int32)), (.int p0)])) _
      refine XS.icmpNo X0.here hx rfl (hb hby d1_4) rfl (flt hc4_2).1 ?_
      show Steps p.tables e below (s₁.setTop (mkF m 7 #[.val (.int p0), .unset] [])) _
      refine XS.iconst X0.here hx rfl (hb hby d1_7) ?_
      show Steps p.tables e below (s₁.setTop (mkF m 8 #[.val (.int p0), .unset] [(.int (1 : Int32))])) _
      refine XS.iloadN X0.here hx rfl (hb hby d1_8) rfl ?_
      show Steps p.tables e below (s₁.setTop (mkF m 9 #[.val (.int p0), .unset] [(.int p0), (.int (1 : Int32))])) _
      refine XS.sipush X0.here hx rfl (hb hby d1_9) ?_
      show Steps p.tables e below (s₁.setTop (mkF m 12 #[.val (.int p0), .unset] [(.int (212 : Int32)), (.int p0), (.int (1 : Int32))])) _
      refine XS.isub X0.here hx rfl (hb hby d1_12) rfl ?_
      show Steps p.tables e below (s₁.setTop (mkF m 13 #[.val (.int p0), .unset] [(.int (p0 - (212 : Int32))), (.int (1 : Int32))])) _
      refine XS.ishl X0.here hx rfl (hb hby d1_13) rfl ?_
      show Steps p.tables e below (s₁.setTop (mkF m 14 #[.val (.int p0), .unset] [(.int ((1 : Int32) <<< ((p0 - (212 : Int32)) &&& 31)))])) _
      refine XS.istoreN X0.here hx rfl (hb hby d1_14) rfl (l' := #[.val (.int p0), .val (.int ((1 : Int32) <<< ((p0 - (212 : Int32)) &&& 31)))]) rfl ?_
      show Steps p.tables e below (s₁.setTop (mkF m 15 #[.val (.int p0), .val (.int ((1 : Int32) <<< ((p0 - (212 : Int32)) &&& 31)))] [])) _
      refine XS.goto X0.here hx rfl (pc0 := 15) (pc' := 53) rfl (hb hby d1_15) (by decide) (by decide) ?_
      exact k)
    have q_f1_m11 : f1_m11 p0 = ((1 : Int32) <<< ((p0 - (212 : Int32)) &&& 31)) := by unfold f1_m11; rw [if_neg hc4_2]
    rw [q_f1_m11]
    exact ⟨s₁, _, X0, e0, N0, pre10⟩
  have pre12 : ∀ t, Steps p.tables e below (T2.setTop (mkF m 54 #[.val (.int p0), .val (.int (f1_m11 p0))] [(.int (f1_m11 p0))])) t → Steps p.tables e below (s₁.setTop (entryFrame m #[(.int p0)] 2)) t := fun t k => pre2 t (by
    show Steps p.tables e below (T2.setTop (mkF m 53 #[.val (.int p0), .val (.int (f1_m11 p0))] [])) _
    refine XS.iloadN X2.here hx rfl (hb hby d1_53) rfl ?_
    exact k)
  obtain ⟨fs, hr, hrun, hended, hW, hsame⟩ := X2.leave (v := some (.int (f1_m11 p0))) (fun h => by rw [Bd.returns] at h; cases h)
  have hF : F1 p0 = (f1_m11 p0) := by rfl
  exact ⟨_, _, pre12 _ (retI X2 hx Bd.returns (hb hby d1_54) hr), hrun, hended, _, _, rfl, ⟨by rw [hF], N2, e2⟩, ⟨_, rfl⟩, hW, hsame.mono (by decide) (by decide)⟩
def F2 (p0 : Int32) : Int32 := (if p0 = (0 : Int32) then (1 : Int32) else (if p0 = (1 : Int32) then (2 : Int32) else (if p0 = (2 : Int32) then (4 : Int32) else (if p0 = (3 : Int32) then (8 : Int32) else (16 : Int32)))))
theorem ef2 (m : MethodId) (x0 : Int32) : entryFrame m #[(.int x0)] 1 = mkF m 0 #[.val (.int x0)] [] := by first | (simp [entryFrame, mkF, argsToLocals, Value.category]; done) | rfl
def Q2 (Z : State) (p0 : Int32) (h0 : Heap) (n0 : Nat) (v : Option Value) (h : Heap) (L : List Loc) : Prop := v = some (.int (F2 p0)) ∧ Fr n0 L ∧ h = h0
set_option maxRecDepth 65536 in
set_option maxHeartbeats 40000000 in
theorem rm2 (l : Launch) (Z : State) (a0 : Array Value) (hw : ∀ d ∈ tables_1, d.before a0 Z = true) (ws : List Jvm.Cond) (p0 : Int32) (h0 : Heap) (n0 : Nat) (Z0 : n0 ≤ h0.size) :
    MetFree l (⟨"com/example/furoshiki/furoshiki/FormatFixSizePinLaw", "fixextLength", "(I)I"⟩ : MethodName) (head1 (Jvm.Cond.code (⟨"com/example/furoshiki/furoshiki/FormatFixSizePinLaw", "fixextLength", "(I)I"⟩ : MethodName) method_2_code 1 (some .int) :: ws) ({ frames := 0, cells := 0, slots := 0, locals := 0 } : Room)) (fun a U => a = #[(.int p0)] ∧ Z.Warmed39 U.vm ∧ U.heap = h0) (fun _ _ _ _ _ => True) (fun _ U o U' => ∃ v L, o = .returned v ∧ Q2 Z p0 h0 n0 v U'.heap L ∧ FrameEnd U o U' L ({ frames := 0, cells := 0, slots := 0, locals := 0 } : Room).cells ({ frames := 0, cells := 0, slots := 0, locals := 0 } : Room).slots) := by
  refine MetFree.of_bodySF (plainFor_of_name pn1) hisR ?_
  intro p e s m args below meth c s₁ Bd hml0 hP hK
  obtain ⟨rfl, hZ, hh⟩ := hP
  have hx := Bd.exec
  have hby := Bd.bytes
  have hml : c.maxLocals = 1 := hml0
  have hown : s.vm.findClass "com/example/furoshiki/furoshiki/FormatFixSizePinLaw" = some m.cls := findClass_of_methodNamed Bd.named
  have hnm := (name_of_methodNamed Bd.named Bd.method).1
  have X0 : Stand p l e ({ frames := 0, cells := 0, slots := 0, locals := 0 } : Room) s m #[(.int p0)] below meth c s₁ [] 0 0 := Stand.of_body Bd
  have e0 : s₁.heap = h0 := by rw [← hh, Bd.state]; rfl
  have N0 := Fr.nil n0
  have pre0 : ∀ t, Steps p.tables e below (s₁.setTop (mkF m 0 #[.val (.int p0)] [])) t → Steps p.tables e below (s₁.setTop (entryFrame m #[(.int p0)] 1)) t := fun t k => castTop (ef2 m p0) k
  have pre1 : ∀ t, Steps p.tables e below (s₁.setTop (mkF m 1 #[.val (.int p0)] [(.int p0)])) t → Steps p.tables e below (s₁.setTop (entryFrame m #[(.int p0)] 1)) t := fun t k => pre0 t (by
    show Steps p.tables e below (s₁.setTop (mkF m 0 #[.val (.int p0)] [])) _
    refine XS.iloadN X0.here hx rfl (hb hby d2_0) rfl ?_
    exact k)
  by_cases hc1_2 : p0 = (0 : Int32)
  · have pre3 : ∀ t, Steps p.tables e below (s₁.setTop (mkF m 5 #[.val (.int p0)] [(.int (1 : Int32))])) t → Steps p.tables e below (s₁.setTop (entryFrame m #[(.int p0)] 1)) t := fun t k => pre1 t (by
      show Steps p.tables e below (s₁.setTop (mkF m 1 #[.val (.int p0)] [(.int p0)])) _
      refine XS.ifNo X0.here hx rfl (hb hby d2_1) rfl ((if0 _ _).trans (teq hc1_2).2) ?_
      show Steps p.tables e below (s₁.setTop (mkF m 4 #[.val (.int p0)] [])) _
      refine XS.iconst X0.here hx rfl (hb hby d2_4) ?_
      exact k)
    obtain ⟨fs, hr, hrun, hended, hW, hsame⟩ := X0.leave (v := some (.int (1 : Int32))) (fun h => by rw [Bd.returns] at h; cases h)
    have hF : F2 p0 = (1 : Int32) := by unfold F2; rw [if_pos hc1_2]
    exact ⟨_, _, pre3 _ (retI X0 hx Bd.returns (hb hby d2_5) hr), hrun, hended, _, _, rfl, ⟨by rw [hF], N0, e0⟩, ⟨_, rfl⟩, hW, hsame.mono (by decide) (by decide)⟩
  have pre4 : ∀ t, Steps p.tables e below (s₁.setTop (mkF m 8 #[.val (.int p0)] [(.int (1 : Int32)), (.int p0)])) t → Steps p.tables e below (s₁.setTop (entryFrame m #[(.int p0)] 1)) t := fun t k => pre1 t (by
    show Steps p.tables e below (s₁.setTop (mkF m 1 #[.val (.int p0)] [(.int p0)])) _
    refine XS.ifYes X0.here hx rfl (pc0 := 1) (pc' := 6) rfl (hb hby d2_1) rfl ((if0 _ _).trans (feq hc1_2).2) (by decide) (by decide) ?_
    show Steps p.tables e below (s₁.setTop (mkF m 6 #[.val (.int p0)] [])) _
    refine XS.iloadN X0.here hx rfl (hb hby d2_6) rfl ?_
    show Steps p.tables e below (s₁.setTop (mkF m 7 #[.val (.int p0)] [(.int p0)])) _
    refine XS.iconst X0.here hx rfl (hb hby d2_7) ?_
    exact k)
  by_cases hc8_5 : p0 = (1 : Int32)
  · have pre6 : ∀ t, Steps p.tables e below (s₁.setTop (mkF m 12 #[.val (.int p0)] [(.int (2 : Int32))])) t → Steps p.tables e below (s₁.setTop (entryFrame m #[(.int p0)] 1)) t := fun t k => pre4 t (by
      show Steps p.tables e below (s₁.setTop (mkF m 8 #[.val (.int p0)] [(.int (1 : Int32)), (.int p0)])) _
      refine XS.icmpNo X0.here hx rfl (hb hby d2_8) rfl (teq hc8_5).2 ?_
      show Steps p.tables e below (s₁.setTop (mkF m 11 #[.val (.int p0)] [])) _
      refine XS.iconst X0.here hx rfl (hb hby d2_11) ?_
      exact k)
    obtain ⟨fs, hr, hrun, hended, hW, hsame⟩ := X0.leave (v := some (.int (2 : Int32))) (fun h => by rw [Bd.returns] at h; cases h)
    have hF : F2 p0 = (2 : Int32) := by unfold F2; rw [if_neg hc1_2, if_pos hc8_5]
    exact ⟨_, _, pre6 _ (retI X0 hx Bd.returns (hb hby d2_12) hr), hrun, hended, _, _, rfl, ⟨by rw [hF], N0, e0⟩, ⟨_, rfl⟩, hW, hsame.mono (by decide) (by decide)⟩
  have pre7 : ∀ t, Steps p.tables e below (s₁.setTop (mkF m 15 #[.val (.int p0)] [(.int (2 : Int32)), (.int p0)])) t → Steps p.tables e below (s₁.setTop (entryFrame m #[(.int p0)] 1)) t := fun t k => pre4 t (by
    show Steps p.tables e below (s₁.setTop (mkF m 8 #[.val (.int p0)] [(.int (1 : Int32)), (.int p0)])) _
    refine XS.icmpYes X0.here hx rfl (pc0 := 8) (pc' := 13) rfl (hb hby d2_8) rfl (feq hc8_5).2 (by decide) (by decide) ?_
    show Steps p.tables e below (s₁.setTop (mkF m 13 #[.val (.int p0)] [])) _
    refine XS.iloadN X0.here hx rfl (hb hby d2_13) rfl ?_
    show Steps p.tables e below (s₁.setTop (mkF m 14 #[.val (.int p0)] [(.int p0)])) _
    refine XS.iconst X0.here hx rfl (hb hby d2_14) ?_
    exact k)
  by_cases hc15_8 : p0 = (2 : Int32)
  · have pre9 : ∀ t, Steps p.tables e below (s₁.setTop (mkF m 19 #[.val (.int p0)] [(.int (4 : Int32))])) t → Steps p.tables e below (s₁.setTop (entryFrame m #[(.int p0)] 1)) t := fun t k => pre7 t (by
      show Steps p.tables e below (s₁.setTop (mkF m 15 #[.val (.int p0)] [(.int (2 : Int32)), (.int p0)])) _
      refine XS.icmpNo X0.here hx rfl (hb hby d2_15) rfl (teq hc15_8).2 ?_
      show Steps p.tables e below (s₁.setTop (mkF m 18 #[.val (.int p0)] [])) _
      refine XS.iconst X0.here hx rfl (hb hby d2_18) ?_
      exact k)
    obtain ⟨fs, hr, hrun, hended, hW, hsame⟩ := X0.leave (v := some (.int (4 : Int32))) (fun h => by rw [Bd.returns] at h; cases h)
    have hF : F2 p0 = (4 : Int32) := by unfold F2; rw [if_neg hc1_2, if_neg hc8_5, if_pos hc15_8]
    exact ⟨_, _, pre9 _ (retI X0 hx Bd.returns (hb hby d2_19) hr), hrun, hended, _, _, rfl, ⟨by rw [hF], N0, e0⟩, ⟨_, rfl⟩, hW, hsame.mono (by decide) (by decide)⟩
  have pre10 : ∀ t, Steps p.tables e below (s₁.setTop (mkF m 22 #[.val (.int p0)] [(.int (3 : Int32)), (.int p0)])) t → Steps p.tables e below (s₁.setTop (entryFrame m #[(.int p0)] 1)) t := fun t k => pre7 t (by
    show Steps p.tables e below (s₁.setTop (mkF m 15 #[.val (.int p0)] [(.int (2 : Int32)), (.int p0)])) _
    refine XS.icmpYes X0.here hx rfl (pc0 := 15) (pc' := 20) rfl (hb hby d2_15) rfl (feq hc15_8).2 (by decide) (by decide) ?_
    show Steps p.tables e below (s₁.setTop (mkF m 20 #[.val (.int p0)] [])) _
    refine XS.iloadN X0.here hx rfl (hb hby d2_20) rfl ?_
    show Steps p.tables e below (s₁.setTop (mkF m 21 #[.val (.int p0)] [(.int p0)])) _
    refine XS.iconst X0.here hx rfl (hb hby d2_21) ?_
    exact k)
  by_cases hc22_11 : p0 = (3 : Int32)
  · have pre12 : ∀ t, Steps p.tables e below (s₁.setTop (mkF m 27 #[.val (.int p0)] [(.int (8 : Int32))])) t → Steps p.tables e below (s₁.setTop (entryFrame m #[(.int p0)] 1)) t := fun t k => pre10 t (by
      show Steps p.tables e below (s₁.setTop (mkF m 22 #[.val (.int p0)] [(.int (3 : Int32)), (.int p0)])) _
      refine XS.icmpNo X0.here hx rfl (hb hby d2_22) rfl (teq hc22_11).2 ?_
      show Steps p.tables e below (s₁.setTop (mkF m 25 #[.val (.int p0)] [])) _
      refine XS.bipush X0.here hx rfl (hb hby d2_25) ?_
      exact k)
    obtain ⟨fs, hr, hrun, hended, hW, hsame⟩ := X0.leave (v := some (.int (8 : Int32))) (fun h => by rw [Bd.returns] at h; cases h)
    have hF : F2 p0 = (8 : Int32) := by unfold F2; rw [if_neg hc1_2, if_neg hc8_5, if_neg hc15_8, if_pos hc22_11]
    exact ⟨_, _, pre12 _ (retI X0 hx Bd.returns (hb hby d2_27) hr), hrun, hended, _, _, rfl, ⟨by rw [hF], N0, e0⟩, ⟨_, rfl⟩, hW, hsame.mono (by decide) (by decide)⟩
  have pre13 : ∀ t, Steps p.tables e below (s₁.setTop (mkF m 30 #[.val (.int p0)] [(.int (16 : Int32))])) t → Steps p.tables e below (s₁.setTop (entryFrame m #[(.int p0)] 1)) t := fun t k => pre10 t (by
    show Steps p.tables e below (s₁.setTop (mkF m 22 #[.val (.int p0)] [(.int (3 : Int32)), (.int p0)])) _
    refine XS.icmpYes X0.here hx rfl (pc0 := 22) (pc' := 28) rfl (hb hby d2_22) rfl (feq hc22_11).2 (by decide) (by decide) ?_
    show Steps p.tables e below (s₁.setTop (mkF m 28 #[.val (.int p0)] [])) _
    refine XS.bipush X0.here hx rfl (hb hby d2_28) ?_
    exact k)
  obtain ⟨fs, hr, hrun, hended, hW, hsame⟩ := X0.leave (v := some (.int (16 : Int32))) (fun h => by rw [Bd.returns] at h; cases h)
  have hF : F2 p0 = (16 : Int32) := by unfold F2; rw [if_neg hc1_2, if_neg hc8_5, if_neg hc15_8, if_neg hc22_11]
  exact ⟨_, _, pre13 _ (retI X0 hx Bd.returns (hb hby d2_30) hr), hrun, hended, _, _, rfl, ⟨by rw [hF], N0, e0⟩, ⟨_, rfl⟩, hW, hsame.mono (by decide) (by decide)⟩
def f0_m12 (p0 : Int32) (p1 : Int32) : Int32 := (if (p0 &&& (3 : Int32)) = (0 : Int32) then ((128 : Int32) + (p1 &&& (15 : Int32))) else (if (p0 &&& (3 : Int32)) = (1 : Int32) then ((144 : Int32) + (p1 &&& (15 : Int32))) else (if (p0 &&& (3 : Int32)) = (2 : Int32) then ((160 : Int32) + (p1 &&& (31 : Int32))) else ((212 : Int32) + ((p1 &&& (2147483647 : Int32)) % (5 : Int32))))))
def f0_m13 (p0 : Int32) (p1 : Int32) : Int32 := (if (p0 &&& (3 : Int32)) = (0 : Int32) then (p1 &&& (15 : Int32)) else (if (p0 &&& (3 : Int32)) = (1 : Int32) then (p1 &&& (15 : Int32)) else (if (p0 &&& (3 : Int32)) = (2 : Int32) then (p1 &&& (31 : Int32)) else (F2 ((p1 &&& (2147483647 : Int32)) % (5 : Int32))))))
def f0_m14 (p0 : Int32) (p1 : Int32) : Int32 := (if (p0 &&& (3 : Int32)) = (0 : Int32) then (p1 &&& (15 : Int32)) else (if (p0 &&& (3 : Int32)) = (1 : Int32) then (p1 &&& (15 : Int32)) else (if (p0 &&& (3 : Int32)) = (2 : Int32) then (p1 &&& (31 : Int32)) else ((p1 &&& (2147483647 : Int32)) % (5 : Int32)))))
def F0 (p0 : Int32) (p1 : Int32) : Int32 := (if (F1 (f0_m12 p0 p1)) = (f0_m13 p0 p1) then (1 : Int32) else (0 : Int32))
theorem ef0 (m : MethodId) (x0 : Int32) (x1 : Int32) : entryFrame m #[(.int x0), (.int x1)] maxLocals = mkF m 0 #[.val (.int x0), .val (.int x1), .unset, .unset, .unset, .unset] [] := by first | (simp [entryFrame, mkF, argsToLocals, Value.category, maxLocals]; done) | rfl
def Q0 (Z : State) (p0 : Int32) (p1 : Int32) (h0 : Heap) (n0 : Nat) (v : Option Value) (h : Heap) (L : List Loc) : Prop := v = some (.int (F0 p0 p1)) ∧ Fr n0 L ∧ h = h0
set_option maxRecDepth 65536 in
set_option maxHeartbeats 40000000 in
theorem rm0 (l : Launch) (Z : State) (a0 : Array Value) (hw : ∀ d ∈ tables_1, d.before a0 Z = true) (ws : List Jvm.Cond) (p0 : Int32) (p1 : Int32) (h0 : Heap) (n0 : Nat) (Z0 : n0 ≤ h0.size) :
    MetFree l x (head1 (Jvm.Cond.code x code maxLocals ret :: ws) room_1) (fun a U => a = #[(.int p0), (.int p1)] ∧ Z.Warmed39 U.vm ∧ U.heap = h0) (fun _ _ _ _ _ => True) (fun _ U o U' => ∃ v L, o = .returned v ∧ Q0 Z p0 p1 h0 n0 v U'.heap L ∧ FrameEnd U o U' L room_1.cells room_1.slots) := by
  refine MetFree.of_bodySF (plainFor_of_name pn1) hisR ?_
  intro p e s m args below meth c s₁ Bd hml0 hP hK
  obtain ⟨rfl, hZ, hh⟩ := hP
  have hx := Bd.exec
  have hby := Bd.bytes
  have hml : c.maxLocals = 6 := hml0
  have hown : s.vm.findClass "com/example/furoshiki/furoshiki/FormatFixSizePinLaw" = some m.cls := findClass_of_methodNamed Bd.named
  have hnm := (name_of_methodNamed Bd.named Bd.method).1
  have X0 : Stand p l e room_1 s m #[(.int p0), (.int p1)] below meth c s₁ [] 0 0 := Stand.of_body Bd
  have e0 : s₁.heap = h0 := by rw [← hh, Bd.state]; rfl
  have N0 := Fr.nil n0
  have pre0 : ∀ t, Steps p.tables e below (s₁.setTop (mkF m 0 #[.val (.int p0), .val (.int p1), .unset, .unset, .unset, .unset] [])) t → Steps p.tables e below (s₁.setTop (entryFrame m #[(.int p0), (.int p1)] maxLocals)) t := fun t k => castTop (ef0 m p0 p1) k
  have pre1 : ∀ t, Steps p.tables e below (s₁.setTop (mkF m 5 #[.val (.int p0), .val (.int p1), .val (.int (p0 &&& (3 : Int32))), .unset, .unset, .unset] [(.int (p0 &&& (3 : Int32)))])) t → Steps p.tables e below (s₁.setTop (entryFrame m #[(.int p0), (.int p1)] maxLocals)) t := fun t k => pre0 t (by
    show Steps p.tables e below (s₁.setTop (mkF m 0 #[.val (.int p0), .val (.int p1), .unset, .unset, .unset, .unset] [])) _
    refine XS.iloadN X0.here hx rfl (hb hby at_0) rfl ?_
    show Steps p.tables e below (s₁.setTop (mkF m 1 #[.val (.int p0), .val (.int p1), .unset, .unset, .unset, .unset] [(.int p0)])) _
    refine XS.iconst X0.here hx rfl (hb hby at_1) ?_
    show Steps p.tables e below (s₁.setTop (mkF m 2 #[.val (.int p0), .val (.int p1), .unset, .unset, .unset, .unset] [(.int (3 : Int32)), (.int p0)])) _
    refine XS.iand X0.here hx rfl (hb hby at_2) rfl ?_
    show Steps p.tables e below (s₁.setTop (mkF m 3 #[.val (.int p0), .val (.int p1), .unset, .unset, .unset, .unset] [(.int (p0 &&& (3 : Int32)))])) _
    refine XS.istoreN X0.here hx rfl (hb hby at_3) rfl (l' := #[.val (.int p0), .val (.int p1), .val (.int (p0 &&& (3 : Int32))), .unset, .unset, .unset]) rfl ?_
    show Steps p.tables e below (s₁.setTop (mkF m 4 #[.val (.int p0), .val (.int p1), .val (.int (p0 &&& (3 : Int32))), .unset, .unset, .unset] [])) _
    refine XS.iloadN X0.here hx rfl (hb hby at_4) rfl ?_
    exact k)
  obtain ⟨T2, L2, X2, e2, N2, pre2⟩ : ∃ (T' : State) (locs' : List Loc), Stand p l e room_1 s m #[(.int p0), (.int p1)] below meth c T' locs' 0 0 ∧ T'.heap = h0 ∧ Fr n0 locs' ∧ ∀ t, Steps p.tables e below (T'.setTop (mkF m 100 #[.val (.int p0), .val (.int p1), .val (.int (p0 &&& (3 : Int32))), .val (.int (f0_m12 p0 p1)), .val (.int (f0_m13 p0 p1)), .val (.int (f0_m14 p0 p1))] [])) t → Steps p.tables e below (s₁.setTop (entryFrame m #[(.int p0), (.int p1)] maxLocals)) t := by
    by_cases hc5_2 : (p0 &&& (3 : Int32)) = (0 : Int32)
    · have pre3 : ∀ t, Steps p.tables e below (s₁.setTop (mkF m 100 #[.val (.int p0), .val (.int p1), .val (.int (p0 &&& (3 : Int32))), .val (.int ((128 : Int32) + (p1 &&& (15 : Int32)))), .val (.int (p1 &&& (15 : Int32))), .val (.int (p1 &&& (15 : Int32)))] [])) t → Steps p.tables e below (s₁.setTop (entryFrame m #[(.int p0), (.int p1)] maxLocals)) t := fun t k => pre1 t (by
        show Steps p.tables e below (s₁.setTop (mkF m 5 #[.val (.int p0), .val (.int p1), .val (.int (p0 &&& (3 : Int32))), .unset, .unset, .unset] [(.int (p0 &&& (3 : Int32)))])) _
        refine XS.ifNo X0.here hx rfl (hb hby at_5) rfl ((if0 _ _).trans (teq hc5_2).2) ?_
        show Steps p.tables e below (s₁.setTop (mkF m 8 #[.val (.int p0), .val (.int p1), .val (.int (p0 &&& (3 : Int32))), .unset, .unset, .unset] [])) _
        refine XS.iloadN X0.here hx rfl (hb hby at_8) rfl ?_
        show Steps p.tables e below (s₁.setTop (mkF m 9 #[.val (.int p0), .val (.int p1), .val (.int (p0 &&& (3 : Int32))), .unset, .unset, .unset] [(.int p1)])) _
        refine XS.bipush X0.here hx rfl (hb hby at_9) ?_
        show Steps p.tables e below (s₁.setTop (mkF m 11 #[.val (.int p0), .val (.int p1), .val (.int (p0 &&& (3 : Int32))), .unset, .unset, .unset] [(.int (15 : Int32)), (.int p1)])) _
        refine XS.iand X0.here hx rfl (hb hby at_11) rfl ?_
        show Steps p.tables e below (s₁.setTop (mkF m 12 #[.val (.int p0), .val (.int p1), .val (.int (p0 &&& (3 : Int32))), .unset, .unset, .unset] [(.int (p1 &&& (15 : Int32)))])) _
        refine XS.istore X0.here hx rfl (hb hby at_12) rfl (l' := #[.val (.int p0), .val (.int p1), .val (.int (p0 &&& (3 : Int32))), .unset, .unset, .val (.int (p1 &&& (15 : Int32)))]) rfl ?_
        show Steps p.tables e below (s₁.setTop (mkF m 14 #[.val (.int p0), .val (.int p1), .val (.int (p0 &&& (3 : Int32))), .unset, .unset, .val (.int (p1 &&& (15 : Int32)))] [])) _
        refine XS.sipush X0.here hx rfl (hb hby at_14) ?_
        show Steps p.tables e below (s₁.setTop (mkF m 17 #[.val (.int p0), .val (.int p1), .val (.int (p0 &&& (3 : Int32))), .unset, .unset, .val (.int (p1 &&& (15 : Int32)))] [(.int (128 : Int32))])) _
        refine XS.iload X0.here hx rfl (hb hby at_17) rfl ?_
        show Steps p.tables e below (s₁.setTop (mkF m 19 #[.val (.int p0), .val (.int p1), .val (.int (p0 &&& (3 : Int32))), .unset, .unset, .val (.int (p1 &&& (15 : Int32)))] [(.int (p1 &&& (15 : Int32))), (.int (128 : Int32))])) _
        refine XS.iadd X0.here hx rfl (hb hby at_19) rfl ?_
        show Steps p.tables e below (s₁.setTop (mkF m 20 #[.val (.int p0), .val (.int p1), .val (.int (p0 &&& (3 : Int32))), .unset, .unset, .val (.int (p1 &&& (15 : Int32)))] [(.int ((128 : Int32) + (p1 &&& (15 : Int32))))])) _
        refine XS.istoreN X0.here hx rfl (hb hby at_20) rfl (l' := #[.val (.int p0), .val (.int p1), .val (.int (p0 &&& (3 : Int32))), .val (.int ((128 : Int32) + (p1 &&& (15 : Int32)))), .unset, .val (.int (p1 &&& (15 : Int32)))]) rfl ?_
        show Steps p.tables e below (s₁.setTop (mkF m 21 #[.val (.int p0), .val (.int p1), .val (.int (p0 &&& (3 : Int32))), .val (.int ((128 : Int32) + (p1 &&& (15 : Int32)))), .unset, .val (.int (p1 &&& (15 : Int32)))] [])) _
        refine XS.iload X0.here hx rfl (hb hby at_21) rfl ?_
        show Steps p.tables e below (s₁.setTop (mkF m 23 #[.val (.int p0), .val (.int p1), .val (.int (p0 &&& (3 : Int32))), .val (.int ((128 : Int32) + (p1 &&& (15 : Int32)))), .unset, .val (.int (p1 &&& (15 : Int32)))] [(.int (p1 &&& (15 : Int32)))])) _
        refine XS.istore X0.here hx rfl (hb hby at_23) rfl (l' := #[.val (.int p0), .val (.int p1), .val (.int (p0 &&& (3 : Int32))), .val (.int ((128 : Int32) + (p1 &&& (15 : Int32)))), .val (.int (p1 &&& (15 : Int32))), .val (.int (p1 &&& (15 : Int32)))]) rfl ?_
        show Steps p.tables e below (s₁.setTop (mkF m 25 #[.val (.int p0), .val (.int p1), .val (.int (p0 &&& (3 : Int32))), .val (.int ((128 : Int32) + (p1 &&& (15 : Int32)))), .val (.int (p1 &&& (15 : Int32))), .val (.int (p1 &&& (15 : Int32)))] [])) _
        refine XS.goto X0.here hx rfl (pc0 := 25) (pc' := 100) rfl (hb hby at_25) (by decide) (by decide) ?_
        exact k)
      have q_f0_m12 : f0_m12 p0 p1 = ((128 : Int32) + (p1 &&& (15 : Int32))) := by unfold f0_m12; rw [if_pos hc5_2]
      rw [q_f0_m12]
      have q_f0_m13 : f0_m13 p0 p1 = (p1 &&& (15 : Int32)) := by unfold f0_m13; rw [if_pos hc5_2]
      rw [q_f0_m13]
      have q_f0_m14 : f0_m14 p0 p1 = (p1 &&& (15 : Int32)) := by unfold f0_m14; rw [if_pos hc5_2]
      rw [q_f0_m14]
      exact ⟨s₁, _, X0, e0, N0, pre3⟩
    have pre4 : ∀ t, Steps p.tables e below (s₁.setTop (mkF m 30 #[.val (.int p0), .val (.int p1), .val (.int (p0 &&& (3 : Int32))), .unset, .unset, .unset] [(.int (1 : Int32)), (.int (p0 &&& (3 : Int32)))])) t → Steps p.tables e below (s₁.setTop (entryFrame m #[(.int p0), (.int p1)] maxLocals)) t := fun t k => pre1 t (by
      show Steps p.tables e below (s₁.setTop (mkF m 5 #[.val (.int p0), .val (.int p1), .val (.int (p0 &&& (3 : Int32))), .unset, .unset, .unset] [(.int (p0 &&& (3 : Int32)))])) _
      refine XS.ifYes X0.here hx rfl (pc0 := 5) (pc' := 28) rfl (hb hby at_5) rfl ((if0 _ _).trans (feq hc5_2).2) (by decide) (by decide) ?_
      show Steps p.tables e below (s₁.setTop (mkF m 28 #[.val (.int p0), .val (.int p1), .val (.int (p0 &&& (3 : Int32))), .unset, .unset, .unset] [])) _
      refine XS.iloadN X0.here hx rfl (hb hby at_28) rfl ?_
      show Steps p.tables e below (s₁.setTop (mkF m 29 #[.val (.int p0), .val (.int p1), .val (.int (p0 &&& (3 : Int32))), .unset, .unset, .unset] [(.int (p0 &&& (3 : Int32)))])) _
      refine XS.iconst X0.here hx rfl (hb hby at_29) ?_
      exact k)
    by_cases hc30_5 : (p0 &&& (3 : Int32)) = (1 : Int32)
    · have pre6 : ∀ t, Steps p.tables e below (s₁.setTop (mkF m 100 #[.val (.int p0), .val (.int p1), .val (.int (p0 &&& (3 : Int32))), .val (.int ((144 : Int32) + (p1 &&& (15 : Int32)))), .val (.int (p1 &&& (15 : Int32))), .val (.int (p1 &&& (15 : Int32)))] [])) t → Steps p.tables e below (s₁.setTop (entryFrame m #[(.int p0), (.int p1)] maxLocals)) t := fun t k => pre4 t (by
        show Steps p.tables e below (s₁.setTop (mkF m 30 #[.val (.int p0), .val (.int p1), .val (.int (p0 &&& (3 : Int32))), .unset, .unset, .unset] [(.int (1 : Int32)), (.int (p0 &&& (3 : Int32)))])) _
        refine XS.icmpNo X0.here hx rfl (hb hby at_30) rfl (teq hc30_5).2 ?_
        show Steps p.tables e below (s₁.setTop (mkF m 33 #[.val (.int p0), .val (.int p1), .val (.int (p0 &&& (3 : Int32))), .unset, .unset, .unset] [])) _
        refine XS.iloadN X0.here hx rfl (hb hby at_33) rfl ?_
        show Steps p.tables e below (s₁.setTop (mkF m 34 #[.val (.int p0), .val (.int p1), .val (.int (p0 &&& (3 : Int32))), .unset, .unset, .unset] [(.int p1)])) _
        refine XS.bipush X0.here hx rfl (hb hby at_34) ?_
        show Steps p.tables e below (s₁.setTop (mkF m 36 #[.val (.int p0), .val (.int p1), .val (.int (p0 &&& (3 : Int32))), .unset, .unset, .unset] [(.int (15 : Int32)), (.int p1)])) _
        refine XS.iand X0.here hx rfl (hb hby at_36) rfl ?_
        show Steps p.tables e below (s₁.setTop (mkF m 37 #[.val (.int p0), .val (.int p1), .val (.int (p0 &&& (3 : Int32))), .unset, .unset, .unset] [(.int (p1 &&& (15 : Int32)))])) _
        refine XS.istore X0.here hx rfl (hb hby at_37) rfl (l' := #[.val (.int p0), .val (.int p1), .val (.int (p0 &&& (3 : Int32))), .unset, .unset, .val (.int (p1 &&& (15 : Int32)))]) rfl ?_
        show Steps p.tables e below (s₁.setTop (mkF m 39 #[.val (.int p0), .val (.int p1), .val (.int (p0 &&& (3 : Int32))), .unset, .unset, .val (.int (p1 &&& (15 : Int32)))] [])) _
        refine XS.sipush X0.here hx rfl (hb hby at_39) ?_
        show Steps p.tables e below (s₁.setTop (mkF m 42 #[.val (.int p0), .val (.int p1), .val (.int (p0 &&& (3 : Int32))), .unset, .unset, .val (.int (p1 &&& (15 : Int32)))] [(.int (144 : Int32))])) _
        refine XS.iload X0.here hx rfl (hb hby at_42) rfl ?_
        show Steps p.tables e below (s₁.setTop (mkF m 44 #[.val (.int p0), .val (.int p1), .val (.int (p0 &&& (3 : Int32))), .unset, .unset, .val (.int (p1 &&& (15 : Int32)))] [(.int (p1 &&& (15 : Int32))), (.int (144 : Int32))])) _
        refine XS.iadd X0.here hx rfl (hb hby at_44) rfl ?_
        show Steps p.tables e below (s₁.setTop (mkF m 45 #[.val (.int p0), .val (.int p1), .val (.int (p0 &&& (3 : Int32))), .unset, .unset, .val (.int (p1 &&& (15 : Int32)))] [(.int ((144 : Int32) + (p1 &&& (15 : Int32))))])) _
        refine XS.istoreN X0.here hx rfl (hb hby at_45) rfl (l' := #[.val (.int p0), .val (.int p1), .val (.int (p0 &&& (3 : Int32))), .val (.int ((144 : Int32) + (p1 &&& (15 : Int32)))), .unset, .val (.int (p1 &&& (15 : Int32)))]) rfl ?_
        show Steps p.tables e below (s₁.setTop (mkF m 46 #[.val (.int p0), .val (.int p1), .val (.int (p0 &&& (3 : Int32))), .val (.int ((144 : Int32) + (p1 &&& (15 : Int32)))), .unset, .val (.int (p1 &&& (15 : Int32)))] [])) _
        refine XS.iload X0.here hx rfl (hb hby at_46) rfl ?_
        show Steps p.tables e below (s₁.setTop (mkF m 48 #[.val (.int p0), .val (.int p1), .val (.int (p0 &&& (3 : Int32))), .val (.int ((144 : Int32) + (p1 &&& (15 : Int32)))), .unset, .val (.int (p1 &&& (15 : Int32)))] [(.int (p1 &&& (15 : Int32)))])) _
        refine XS.istore X0.here hx rfl (hb hby at_48) rfl (l' := #[.val (.int p0), .val (.int p1), .val (.int (p0 &&& (3 : Int32))), .val (.int ((144 : Int32) + (p1 &&& (15 : Int32)))), .val (.int (p1 &&& (15 : Int32))), .val (.int (p1 &&& (15 : Int32)))]) rfl ?_
        show Steps p.tables e below (s₁.setTop (mkF m 50 #[.val (.int p0), .val (.int p1), .val (.int (p0 &&& (3 : Int32))), .val (.int ((144 : Int32) + (p1 &&& (15 : Int32)))), .val (.int (p1 &&& (15 : Int32))), .val (.int (p1 &&& (15 : Int32)))] [])) _
        refine XS.goto X0.here hx rfl (pc0 := 50) (pc' := 100) rfl (hb hby at_50) (by decide) (by decide) ?_
        exact k)
      have q_f0_m12 : f0_m12 p0 p1 = ((144 : Int32) + (p1 &&& (15 : Int32))) := by unfold f0_m12; rw [if_neg hc5_2, if_pos hc30_5]
      rw [q_f0_m12]
      have q_f0_m13 : f0_m13 p0 p1 = (p1 &&& (15 : Int32)) := by unfold f0_m13; rw [if_neg hc5_2, if_pos hc30_5]
      rw [q_f0_m13]
      have q_f0_m14 : f0_m14 p0 p1 = (p1 &&& (15 : Int32)) := by unfold f0_m14; rw [if_neg hc5_2, if_pos hc30_5]
      rw [q_f0_m14]
      exact ⟨s₁, _, X0, e0, N0, pre6⟩
    have pre7 : ∀ t, Steps p.tables e below (s₁.setTop (mkF m 55 #[.val (.int p0), .val (.int p1), .val (.int (p0 &&& (3 : Int32))), .unset, .unset, .unset] [(.int (2 : Int32)), (.int (p0 &&& (3 : Int32)))])) t → Steps p.tables e below (s₁.setTop (entryFrame m #[(.int p0), (.int p1)] maxLocals)) t := fun t k => pre4 t (by
      show Steps p.tables e below (s₁.setTop (mkF m 30 #[.val (.int p0), .val (.int p1), .val (.int (p0 &&& (3 : Int32))), .unset, .unset, .unset] [(.int (1 : Int32)), (.int (p0 &&& (3 : Int32)))])) _
      refine XS.icmpYes X0.here hx rfl (pc0 := 30) (pc' := 53) rfl (hb hby at_30) rfl (feq hc30_5).2 (by decide) (by decide) ?_
      show Steps p.tables e below (s₁.setTop (mkF m 53 #[.val (.int p0), .val (.int p1), .val (.int (p0 &&& (3 : Int32))), .unset, .unset, .unset] [])) _
      refine XS.iloadN X0.here hx rfl (hb hby at_53) rfl ?_
      show Steps p.tables e below (s₁.setTop (mkF m 54 #[.val (.int p0), .val (.int p1), .val (.int (p0 &&& (3 : Int32))), .unset, .unset, .unset] [(.int (p0 &&& (3 : Int32)))])) _
      refine XS.iconst X0.here hx rfl (hb hby at_54) ?_
      exact k)
    by_cases hc55_8 : (p0 &&& (3 : Int32)) = (2 : Int32)
    · have pre9 : ∀ t, Steps p.tables e below (s₁.setTop (mkF m 100 #[.val (.int p0), .val (.int p1), .val (.int (p0 &&& (3 : Int32))), .val (.int ((160 : Int32) + (p1 &&& (31 : Int32)))), .val (.int (p1 &&& (31 : Int32))), .val (.int (p1 &&& (31 : Int32)))] [])) t → Steps p.tables e below (s₁.setTop (entryFrame m #[(.int p0), (.int p1)] maxLocals)) t := fun t k => pre7 t (by
        show Steps p.tables e below (s₁.setTop (mkF m 55 #[.val (.int p0), .val (.int p1), .val (.int (p0 &&& (3 : Int32))), .unset, .unset, .unset] [(.int (2 : Int32)), (.int (p0 &&& (3 : Int32)))])) _
        refine XS.icmpNo X0.here hx rfl (hb hby at_55) rfl (teq hc55_8).2 ?_
        show Steps p.tables e below (s₁.setTop (mkF m 58 #[.val (.int p0), .val (.int p1), .val (.int (p0 &&& (3 : Int32))), .unset, .unset, .unset] [])) _
        refine XS.iloadN X0.here hx rfl (hb hby at_58) rfl ?_
        show Steps p.tables e below (s₁.setTop (mkF m 59 #[.val (.int p0), .val (.int p1), .val (.int (p0 &&& (3 : Int32))), .unset, .unset, .unset] [(.int p1)])) _
        refine XS.bipush X0.here hx rfl (hb hby at_59) ?_
        show Steps p.tables e below (s₁.setTop (mkF m 61 #[.val (.int p0), .val (.int p1), .val (.int (p0 &&& (3 : Int32))), .unset, .unset, .unset] [(.int (31 : Int32)), (.int p1)])) _
        refine XS.iand X0.here hx rfl (hb hby at_61) rfl ?_
        show Steps p.tables e below (s₁.setTop (mkF m 62 #[.val (.int p0), .val (.int p1), .val (.int (p0 &&& (3 : Int32))), .unset, .unset, .unset] [(.int (p1 &&& (31 : Int32)))])) _
        refine XS.istore X0.here hx rfl (hb hby at_62) rfl (l' := #[.val (.int p0), .val (.int p1), .val (.int (p0 &&& (3 : Int32))), .unset, .unset, .val (.int (p1 &&& (31 : Int32)))]) rfl ?_
        show Steps p.tables e below (s₁.setTop (mkF m 64 #[.val (.int p0), .val (.int p1), .val (.int (p0 &&& (3 : Int32))), .unset, .unset, .val (.int (p1 &&& (31 : Int32)))] [])) _
        refine XS.sipush X0.here hx rfl (hb hby at_64) ?_
        show Steps p.tables e below (s₁.setTop (mkF m 67 #[.val (.int p0), .val (.int p1), .val (.int (p0 &&& (3 : Int32))), .unset, .unset, .val (.int (p1 &&& (31 : Int32)))] [(.int (160 : Int32))])) _
        refine XS.iload X0.here hx rfl (hb hby at_67) rfl ?_
        show Steps p.tables e below (s₁.setTop (mkF m 69 #[.val (.int p0), .val (.int p1), .val (.int (p0 &&& (3 : Int32))), .unset, .unset, .val (.int (p1 &&& (31 : Int32)))] [(.int (p1 &&& (31 : Int32))), (.int (160 : Int32))])) _
        refine XS.iadd X0.here hx rfl (hb hby at_69) rfl ?_
        show Steps p.tables e below (s₁.setTop (mkF m 70 #[.val (.int p0), .val (.int p1), .val (.int (p0 &&& (3 : Int32))), .unset, .unset, .val (.int (p1 &&& (31 : Int32)))] [(.int ((160 : Int32) + (p1 &&& (31 : Int32))))])) _
        refine XS.istoreN X0.here hx rfl (hb hby at_70) rfl (l' := #[.val (.int p0), .val (.int p1), .val (.int (p0 &&& (3 : Int32))), .val (.int ((160 : Int32) + (p1 &&& (31 : Int32)))), .unset, .val (.int (p1 &&& (31 : Int32)))]) rfl ?_
        show Steps p.tables e below (s₁.setTop (mkF m 71 #[.val (.int p0), .val (.int p1), .val (.int (p0 &&& (3 : Int32))), .val (.int ((160 : Int32) + (p1 &&& (31 : Int32)))), .unset, .val (.int (p1 &&& (31 : Int32)))] [])) _
        refine XS.iload X0.here hx rfl (hb hby at_71) rfl ?_
        show Steps p.tables e below (s₁.setTop (mkF m 73 #[.val (.int p0), .val (.int p1), .val (.int (p0 &&& (3 : Int32))), .val (.int ((160 : Int32) + (p1 &&& (31 : Int32)))), .unset, .val (.int (p1 &&& (31 : Int32)))] [(.int (p1 &&& (31 : Int32)))])) _
        refine XS.istore X0.here hx rfl (hb hby at_73) rfl (l' := #[.val (.int p0), .val (.int p1), .val (.int (p0 &&& (3 : Int32))), .val (.int ((160 : Int32) + (p1 &&& (31 : Int32)))), .val (.int (p1 &&& (31 : Int32))), .val (.int (p1 &&& (31 : Int32)))]) rfl ?_
        show Steps p.tables e below (s₁.setTop (mkF m 75 #[.val (.int p0), .val (.int p1), .val (.int (p0 &&& (3 : Int32))), .val (.int ((160 : Int32) + (p1 &&& (31 : Int32)))), .val (.int (p1 &&& (31 : Int32))), .val (.int (p1 &&& (31 : Int32)))] [])) _
        refine XS.goto X0.here hx rfl (pc0 := 75) (pc' := 100) rfl (hb hby at_75) (by decide) (by decide) ?_
        exact k)
      have q_f0_m12 : f0_m12 p0 p1 = ((160 : Int32) + (p1 &&& (31 : Int32))) := by unfold f0_m12; rw [if_neg hc5_2, if_neg hc30_5, if_pos hc55_8]
      rw [q_f0_m12]
      have q_f0_m13 : f0_m13 p0 p1 = (p1 &&& (31 : Int32)) := by unfold f0_m13; rw [if_neg hc5_2, if_neg hc30_5, if_pos hc55_8]
      rw [q_f0_m13]
      have q_f0_m14 : f0_m14 p0 p1 = (p1 &&& (31 : Int32)) := by unfold f0_m14; rw [if_neg hc5_2, if_neg hc30_5, if_pos hc55_8]
      rw [q_f0_m14]
      exact ⟨s₁, _, X0, e0, N0, pre9⟩
    obtain ⟨_, _, ⟨T10, L10, k10, n10⟩, -, X10, ⟨Lc10, hQ10, l10, y10, z10⟩, st10⟩ := Jvm.LawKit.callS X0 hx (y := (⟨"com/example/furoshiki/furoshiki/FormatFixSizePinLaw", "fixextLength", "(I)I"⟩ : MethodName)) hown (mvT hZ (hw _ (List.mem_of_getElem? (i := 5) rfl))) (mvT hZ (hw _ (List.mem_of_getElem? (i := 6) rfl))) (mvT hZ (hw _ (List.mem_of_getElem? (i := 7) rfl))) (mvT hZ (hw _ (List.mem_of_getElem? (i := 8) rfl))) (by decide) (backOf (W := 0) (rm2 l Z a0 hw [] ((p1 &&& (2147483647 : Int32)) % (5 : Int32)) h0 n0 Z0) hZ (hw _ (List.mem_of_getElem? (i := 8) rfl)) (hw _ (List.mem_of_getElem? (i := 7) rfl)) (by decide) (by decide)) (g := (mkF m 95 #[.val (.int p0), .val (.int p1), .val (.int (p0 &&& (3 : Int32))), .val (.int ((212 : Int32) + ((p1 &&& (2147483647 : Int32)) % (5 : Int32)))), .unset, .val (.int ((p1 &&& (2147483647 : Int32)) % (5 : Int32)))] [(.int ((p1 &&& (2147483647 : Int32)) % (5 : Int32)))])) rfl (by rw [hml]; rfl) (argsL := [(.int ((p1 &&& (2147483647 : Int32)) % (5 : Int32)))]) (rest := []) (lenOf pd0 rfl) rfl (by show 2 * 0 + _ ≤ _; exact Nat.le_of_eq rfl) (hb hby at_95) (fun _ _ => ⟨rfl, e0, (by decide : 0 + 0 ≤ _), (by decide : 0 + 0 ≤ _)⟩)
    dsimp only [Pt.U, Pt.locs, Pt.cells, Pt.slots] at X10 l10 y10 z10 st10 hQ10
    subst l10 y10 z10
    obtain ⟨rfl, N10q, e10⟩ := hQ10
    have N10 := Fr.app N0 N10q
    have pre11 : ∀ t, Steps p.tables e below (T10.setTop (mkF m 100 #[.val (.int p0), .val (.int p1), .val (.int (p0 &&& (3 : Int32))), .val (.int ((212 : Int32) + ((p1 &&& (2147483647 : Int32)) % (5 : Int32)))), .val (.int (F2 ((p1 &&& (2147483647 : Int32)) % (5 : Int32)))), .val (.int ((p1 &&& (2147483647 : Int32)) % (5 : Int32)))] [])) t → Steps p.tables e below (s₁.setTop (entryFrame m #[(.int p0), (.int p1)] maxLocals)) t := fun t k => pre7 t (by
      show Steps p.tables e below (s₁.setTop (mkF m 55 #[.val (.int p0), .val (.int p1), .val (.int (p0 &&& (3 : Int32))), .unset, .unset, .unset] [(.int (2 : Int32)), (.int (p0 &&& (3 : Int32)))])) _
      refine XS.icmpYes X0.here hx rfl (pc0 := 55) (pc' := 78) rfl (hb hby at_55) rfl (feq hc55_8).2 (by decide) (by decide) ?_
      show Steps p.tables e below (s₁.setTop (mkF m 78 #[.val (.int p0), .val (.int p1), .val (.int (p0 &&& (3 : Int32))), .unset, .unset, .unset] [])) _
      refine XS.iloadN X0.here hx rfl (hb hby at_78) rfl ?_
      show Steps p.tables e below (s₁.setTop (mkF m 79 #[.val (.int p0), .val (.int p1), .val (.int (p0 &&& (3 : Int32))), .unset, .unset, .unset] [(.int p1)])) _
      refine X0.ldcInt hx hown (mvT hZ (hw _ (List.mem_of_getElem? (i := 4) rfl))) (g := (mkF m 79 #[.val (.int p0), .val (.int p1), .val (.int (p0 &&& (3 : Int32))), .unset, .unset, .unset] [(.int p1)])) rfl (hb hby at_79) _ ?_
      show Steps p.tables e below (s₁.setTop (mkF m 81 #[.val (.int p0), .val (.int p1), .val (.int (p0 &&& (3 : Int32))), .unset, .unset, .unset] [(.int (2147483647 : Int32)), (.int p1)])) _
      refine XS.iand X0.here hx rfl (hb hby at_81) rfl ?_
      show Steps p.tables e below (s₁.setTop (mkF m 82 #[.val (.int p0), .val (.int p1), .val (.int (p0 &&& (3 : Int32))), .unset, .unset, .unset] [(.int (p1 &&& (2147483647 : Int32)))])) _
      refine XS.iconst X0.here hx rfl (hb hby at_82) ?_
      show Steps p.tables e below (s₁.setTop (mkF m 83 #[.val (.int p0), .val (.int p1), .val (.int (p0 &&& (3 : Int32))), .unset, .unset, .unset] [(.int (5 : Int32)), (.int (p1 &&& (2147483647 : Int32)))])) _
      refine Jvm.RoadKit.iremM X0 hx rfl (hb hby at_83) rfl (by decide) ?_
      show Steps p.tables e below (s₁.setTop (mkF m 84 #[.val (.int p0), .val (.int p1), .val (.int (p0 &&& (3 : Int32))), .unset, .unset, .unset] [(.int ((p1 &&& (2147483647 : Int32)) % (5 : Int32)))])) _
      refine XS.istore X0.here hx rfl (hb hby at_84) rfl (l' := #[.val (.int p0), .val (.int p1), .val (.int (p0 &&& (3 : Int32))), .unset, .unset, .val (.int ((p1 &&& (2147483647 : Int32)) % (5 : Int32)))]) rfl ?_
      show Steps p.tables e below (s₁.setTop (mkF m 86 #[.val (.int p0), .val (.int p1), .val (.int (p0 &&& (3 : Int32))), .unset, .unset, .val (.int ((p1 &&& (2147483647 : Int32)) % (5 : Int32)))] [])) _
      refine XS.sipush X0.here hx rfl (hb hby at_86) ?_
      show Steps p.tables e below (s₁.setTop (mkF m 89 #[.val (.int p0), .val (.int p1), .val (.int (p0 &&& (3 : Int32))), .unset, .unset, .val (.int ((p1 &&& (2147483647 : Int32)) % (5 : Int32)))] [(.int (212 : Int32))])) _
      refine XS.iload X0.here hx rfl (hb hby at_89) rfl ?_
      show Steps p.tables e below (s₁.setTop (mkF m 91 #[.val (.int p0), .val (.int p1), .val (.int (p0 &&& (3 : Int32))), .unset, .unset, .val (.int ((p1 &&& (2147483647 : Int32)) % (5 : Int32)))] [(.int ((p1 &&& (2147483647 : Int32)) % (5 : Int32))), (.int (212 : Int32))])) _
      refine XS.iadd X0.here hx rfl (hb hby at_91) rfl ?_
      show Steps p.tables e below (s₁.setTop (mkF m 92 #[.val (.int p0), .val (.int p1), .val (.int (p0 &&& (3 : Int32))), .unset, .unset, .val (.int ((p1 &&& (2147483647 : Int32)) % (5 : Int32)))] [(.int ((212 : Int32) + ((p1 &&& (2147483647 : Int32)) % (5 : Int32))))])) _
      refine XS.istoreN X0.here hx rfl (hb hby at_92) rfl (l' := #[.val (.int p0), .val (.int p1), .val (.int (p0 &&& (3 : Int32))), .val (.int ((212 : Int32) + ((p1 &&& (2147483647 : Int32)) % (5 : Int32)))), .unset, .val (.int ((p1 &&& (2147483647 : Int32)) % (5 : Int32)))]) rfl ?_
      show Steps p.tables e below (s₁.setTop (mkF m 93 #[.val (.int p0), .val (.int p1), .val (.int (p0 &&& (3 : Int32))), .val (.int ((212 : Int32) + ((p1 &&& (2147483647 : Int32)) % (5 : Int32)))), .unset, .val (.int ((p1 &&& (2147483647 : Int32)) % (5 : Int32)))] [])) _
      refine XS.iload X0.here hx rfl (hb hby at_93) rfl ?_
      show Steps p.tables e below (s₁.setTop (mkF m 95 #[.val (.int p0), .val (.int p1), .val (.int (p0 &&& (3 : Int32))), .val (.int ((212 : Int32) + ((p1 &&& (2147483647 : Int32)) % (5 : Int32)))), .unset, .val (.int ((p1 &&& (2147483647 : Int32)) % (5 : Int32)))] [(.int ((p1 &&& (2147483647 : Int32)) % (5 : Int32)))])) _
      refine st10 _ ?_
      show Steps p.tables e below (T10.setTop (mkF m 98 #[.val (.int p0), .val (.int p1), .val (.int (p0 &&& (3 : Int32))), .val (.int ((212 : Int32) + ((p1 &&& (2147483647 : Int32)) % (5 : Int32)))), .unset, .val (.int ((p1 &&& (2147483647 : Int32)) % (5 : Int32)))] [(.int (F2 ((p1 &&& (2147483647 : Int32)) % (5 : Int32))))])) _
      refine XS.istore X10.here hx rfl (hb hby at_98) rfl (l' := #[.val (.int p0), .val (.int p1), .val (.int (p0 &&& (3 : Int32))), .val (.int ((212 : Int32) + ((p1 &&& (2147483647 : Int32)) % (5 : Int32)))), .val (.int (F2 ((p1 &&& (2147483647 : Int32)) % (5 : Int32)))), .val (.int ((p1 &&& (2147483647 : Int32)) % (5 : Int32)))]) rfl ?_
      exact k)
    have q_f0_m12 : f0_m12 p0 p1 = ((212 : Int32) + ((p1 &&& (2147483647 : Int32)) % (5 : Int32))) := by unfold f0_m12; rw [if_neg hc5_2, if_neg hc30_5, if_neg hc55_8]
    rw [q_f0_m12]
    have q_f0_m13 : f0_m13 p0 p1 = (F2 ((p1 &&& (2147483647 : Int32)) % (5 : Int32))) := by unfold f0_m13; rw [if_neg hc5_2, if_neg hc30_5, if_neg hc55_8]
    rw [q_f0_m13]
    have q_f0_m14 : f0_m14 p0 p1 = ((p1 &&& (2147483647 : Int32)) % (5 : Int32)) := by unfold f0_m14; rw [if_neg hc5_2, if_neg hc30_5, if_neg hc55_8]
    rw [q_f0_m14]
    exact ⟨T10, _, X10, e10, N10, pre11⟩
  obtain ⟨_, _, ⟨T15, L15, k15, n15⟩, -, X15, ⟨Lc15, hQ15, l15, y15, z15⟩, st15⟩ := Jvm.LawKit.callS X2 hx (y := (⟨"com/example/furoshiki/furoshiki/Format", "fixSize", "(I)I"⟩ : MethodName)) hown (mvT hZ (hw _ (List.mem_of_getElem? (i := 0) rfl))) (mvT hZ (hw _ (List.mem_of_getElem? (i := 1) rfl))) (mvT hZ (hw _ (List.mem_of_getElem? (i := 2) rfl))) (mvT hZ (hw _ (List.mem_of_getElem? (i := 3) rfl))) (by decide) (backOf (W := 0) (rm1 l Z a0 hw [] (f0_m12 p0 p1) h0 n0 Z0) hZ (hw _ (List.mem_of_getElem? (i := 3) rfl)) (hw _ (List.mem_of_getElem? (i := 2) rfl)) (by decide) (by decide)) (g := (mkF m 101 #[.val (.int p0), .val (.int p1), .val (.int (p0 &&& (3 : Int32))), .val (.int (f0_m12 p0 p1)), .val (.int (f0_m13 p0 p1)), .val (.int (f0_m14 p0 p1))] [(.int (f0_m12 p0 p1))])) rfl (by rw [hml]; rfl) (argsL := [(.int (f0_m12 p0 p1))]) (rest := []) (lenOf pd0 rfl) rfl (by show 2 * 0 + _ ≤ _; exact Nat.le_of_eq rfl) (hb hby at_101) (fun _ _ => ⟨rfl, e2, (by decide : 0 + 0 ≤ _), (by decide : 0 + 0 ≤ _)⟩)
  dsimp only [Pt.U, Pt.locs, Pt.cells, Pt.slots] at X15 l15 y15 z15 st15 hQ15
  subst l15 y15 z15
  obtain ⟨rfl, N15q, e15⟩ := hQ15
  have N15 := Fr.app N2 N15q
  have pre16 : ∀ t, Steps p.tables e below (T15.setTop (mkF m 106 #[.val (.int p0), .val (.int p1), .val (.int (p0 &&& (3 : Int32))), .val (.int (f0_m12 p0 p1)), .val (.int (f0_m13 p0 p1)), .val (.int (f0_m14 p0 p1))] [(.int (f0_m13 p0 p1)), (.int (F1 (f0_m12 p0 p1)))])) t → Steps p.tables e below (s₁.setTop (entryFrame m #[(.int p0), (.int p1)] maxLocals)) t := fun t k => pre2 t (by
    show Steps p.tables e below (T2.setTop (mkF m 100 #[.val (.int p0), .val (.int p1), .val (.int (p0 &&& (3 : Int32))), .val (.int (f0_m12 p0 p1)), .val (.int (f0_m13 p0 p1)), .val (.int (f0_m14 p0 p1))] [])) _
    refine XS.iloadN X2.here hx rfl (hb hby at_100) rfl ?_
    show Steps p.tables e below (T2.setTop (mkF m 101 #[.val (.int p0), .val (.int p1), .val (.int (p0 &&& (3 : Int32))), .val (.int (f0_m12 p0 p1)), .val (.int (f0_m13 p0 p1)), .val (.int (f0_m14 p0 p1))] [(.int (f0_m12 p0 p1))])) _
    refine st15 _ ?_
    show Steps p.tables e below (T15.setTop (mkF m 104 #[.val (.int p0), .val (.int p1), .val (.int (p0 &&& (3 : Int32))), .val (.int (f0_m12 p0 p1)), .val (.int (f0_m13 p0 p1)), .val (.int (f0_m14 p0 p1))] [(.int (F1 (f0_m12 p0 p1)))])) _
    refine XS.iload X15.here hx rfl (hb hby at_104) rfl ?_
    exact k)
  by_cases hc106_17 : (F1 (f0_m12 p0 p1)) = (f0_m13 p0 p1)
  · have pre18 : ∀ t, Steps p.tables e below (T15.setTop (mkF m 114 #[.val (.int p0), .val (.int p1), .val (.int (p0 &&& (3 : Int32))), .val (.int (f0_m12 p0 p1)), .val (.int (f0_m13 p0 p1)), .val (.int (f0_m14 p0 p1))] [(.int (1 : Int32))])) t → Steps p.tables e below (s₁.setTop (entryFrame m #[(.int p0), (.int p1)] maxLocals)) t := fun t k => pre16 t (by
      show Steps p.tables e below (T15.setTop (mkF m 106 #[.val (.int p0), .val (.int p1), .val (.int (p0 &&& (3 : Int32))), .val (.int (f0_m12 p0 p1)), .val (.int (f0_m13 p0 p1)), .val (.int (f0_m14 p0 p1))] [(.int (f0_m13 p0 p1)), (.int (F1 (f0_m12 p0 p1)))])) _
      refine XS.icmpNo X15.here hx rfl (hb hby at_106) rfl (teq hc106_17).2 ?_
      show Steps p.tables e below (T15.setTop (mkF m 109 #[.val (.int p0), .val (.int p1), .val (.int (p0 &&& (3 : Int32))), .val (.int (f0_m12 p0 p1)), .val (.int (f0_m13 p0 p1)), .val (.int (f0_m14 p0 p1))] [])) _
      refine XS.iconst X15.here hx rfl (hb hby at_109) ?_
      show Steps p.tables e below (T15.setTop (mkF m 110 #[.val (.int p0), .val (.int p1), .val (.int (p0 &&& (3 : Int32))), .val (.int (f0_m12 p0 p1)), .val (.int (f0_m13 p0 p1)), .val (.int (f0_m14 p0 p1))] [(.int (1 : Int32))])) _
      refine XS.goto X15.here hx rfl (pc0 := 110) (pc' := 114) rfl (hb hby at_110) (by decide) (by decide) ?_
      exact k)
    obtain ⟨fs, hr, hrun, hended, hW, hsame⟩ := X15.leave (v := some (.int (1 : Int32))) (fun h => by rw [Bd.returns] at h; cases h)
    have hF : F0 p0 p1 = (1 : Int32) := by unfold F0; rw [if_pos hc106_17]
    exact ⟨_, _, pre18 _ (retN X15 hx (t := .boolean) Bd.returns (by simp) (hb hby at_114) hr), hrun, hended, _, _, rfl, ⟨by rw [hF], N15, e15⟩, ⟨_, rfl⟩, hW, hsame.mono (by decide) (by decide)⟩
  have pre19 : ∀ t, Steps p.tables e below (T15.setTop (mkF m 114 #[.val (.int p0), .val (.int p1), .val (.int (p0 &&& (3 : Int32))), .val (.int (f0_m12 p0 p1)), .val (.int (f0_m13 p0 p1)), .val (.int (f0_m14 p0 p1))] [(.int (0 : Int32))])) t → Steps p.tables e below (s₁.setTop (entryFrame m #[(.int p0), (.int p1)] maxLocals)) t := fun t k => pre16 t (by
    show Steps p.tables e below (T15.setTop (mkF m 106 #[.val (.int p0), .val (.int p1), .val (.int (p0 &&& (3 : Int32))), .val (.int (f0_m12 p0 p1)), .val (.int (f0_m13 p0 p1)), .val (.int (f0_m14 p0 p1))] [(.int (f0_m13 p0 p1)), (.int (F1 (f0_m12 p0 p1)))])) _
    refine XS.icmpYes X15.here hx rfl (pc0 := 106) (pc' := 113) rfl (hb hby at_106) rfl (feq hc106_17).2 (by decide) (by decide) ?_
    show Steps p.tables e below (T15.setTop (mkF m 113 #[.val (.int p0), .val (.int p1), .val (.int (p0 &&& (3 : Int32))), .val (.int (f0_m12 p0 p1)), .val (.int (f0_m13 p0 p1)), .val (.int (f0_m14 p0 p1))] [])) _
    refine XS.iconst X15.here hx rfl (hb hby at_113) ?_
    exact k)
  obtain ⟨fs, hr, hrun, hended, hW, hsame⟩ := X15.leave (v := some (.int (0 : Int32))) (fun h => by rw [Bd.returns] at h; cases h)
  have hF : F0 p0 p1 = (0 : Int32) := by unfold F0; rw [if_neg hc106_17]
  exact ⟨_, _, pre19 _ (retN X15 hx (t := .boolean) Bd.returns (by simp) (hb hby at_114) hr), hrun, hended, _, _, rfl, ⟨by rw [hF], N15, e15⟩, ⟨_, rfl⟩, hW, hsame.mono (by decide) (by decide)⟩
theorem own_lit (x : Int32) (n : Nat) (h0 : 0 ≤ x.toInt) (h : x.toInt < n) (hn : n ≤ 2147483647) : ∃ k : Fin n, x = Int32.ofNat k.1 := by
  obtain ⟨k, hk⟩ : ∃ k : Nat, x.toInt = k := ⟨x.toInt.toNat, by omega⟩
  refine ⟨⟨k, by omega⟩, ?_⟩
  apply Int32.toInt_inj.mp
  rw [Int32.toInt_ofNat_of_lt (show k < 2 ^ 31 by omega), hk]
theorem own_f16 : ∀ k : Fin 16, F1 ((128 : Int32) + Int32.ofNat k.1) = Int32.ofNat k.1 ∧ F1 ((144 : Int32) + Int32.ofNat k.1) = Int32.ofNat k.1 := by decide
theorem own_f32 : ∀ k : Fin 32, F1 ((160 : Int32) + Int32.ofNat k.1) = Int32.ofNat k.1 := by decide
theorem own_f5 : ∀ k : Fin 5, F1 ((212 : Int32) + Int32.ofNat k.1) = F2 (Int32.ofNat k.1) := by decide
theorem own_eq (p0 p1 : Int32) : F1 (f0_m12 p0 p1) = f0_m13 p0 p1 := by
  have e15 : (p1 &&& (15 : Int32)).toInt = p1.toInt % (2 ^ 4 : Nat) := c_mask p1 15 4 (by decide) (by decide)
  have e31 : (p1 &&& (31 : Int32)).toInt = p1.toInt % (2 ^ 5 : Nat) := c_mask p1 31 5 (by decide) (by decide)
  have em : (p1 &&& (2147483647 : Int32)).toInt = p1.toInt % (2 ^ 31 : Nat) := c_mask p1 2147483647 31 (by decide) (by decide)
  have er := (c_irem (p1 &&& (2147483647 : Int32)) 5 5 (by decide)).1 (by omega)
  obtain ⟨a, ha⟩ := own_lit (p1 &&& 15) 16 (by omega) (by omega) (by omega)
  obtain ⟨b, hb⟩ := own_lit (p1 &&& 31) 32 (by omega) (by omega) (by omega)
  obtain ⟨c, hc⟩ := own_lit ((p1 &&& 2147483647) % 5) 5 (by omega) (by omega) (by omega)
  unfold f0_m12 f0_m13
  rw [ha, hb, hc]
  by_cases h1 : (p0 &&& (3 : Int32)) = 0
  · rw [if_pos h1, if_pos h1]; exact (own_f16 a).1
  rw [if_neg h1, if_neg h1]
  by_cases h2 : (p0 &&& (3 : Int32)) = 1
  · rw [if_pos h2, if_pos h2]; exact (own_f16 a).2
  rw [if_neg h2, if_neg h2]
  by_cases h3 : (p0 &&& (3 : Int32)) = 2
  · rw [if_pos h3, if_pos h3]; exact own_f32 b
  rw [if_neg h3, if_neg h3]; exact own_f5 c
theorem own_law (p0 p1 : Int32) : F0 p0 p1 = 1 := by
  unfold F0
  rw [if_pos (own_eq _ _)]
set_option maxRecDepth 65536 in
set_option maxHeartbeats 40000000 in
theorem comes_1 {Post : Tables → Env → Array Value → State → Outcome → State → Prop} (hpost : ∀ tb e args s v u, (limb_1_1.after args s (.returned v) u = true ∧ limb_1_2.after args s (.returned v) u = true ∧ True) → FrameEnd s (.returned v) u (Jvm.fieldLocs frame_1_writes args s ++ Jvm.arrayLocs frame_1_arrays args s ++ Jvm.staticLocs frame_1_statics s) 0 0 → Post tb e args s (.returned v) u) :
    ArmFor flags0 classFile x code maxLocals ret World_1 tables_1 room_1 Calls_1 rest_1 Pre_1 Post := by
  intro l hfl _ _ p e ha hc hk s m args below hf hA hF happ hP
  obtain ⟨hcalls, hrest, hpre⟩ := hP
  obtain ⟨-, -, -, hnamed, -, -, -, hat⟩ := (Spec.applies_iff hf).mp happ
  obtain ⟨hg, hn⟩ := and_e (Cond.before_iff.mp (show (Jvm.Cond.and given_1 narrow_1).before args s = true from hpre))
  obtain ⟨hcount, g0⟩ := and_e hg
  obtain ⟨ga0, g1⟩ := and_e g0
  obtain ⟨w0, w1, rfl⟩ : ∃ w0 w1 : Value, args = #[w0, w1] := by
    have hs : args.size = 2 := by simpa [Cond.value, given_1] using hcount
    obtain ⟨L⟩ := args
    match L, hs with
    | [w0, w1], _ => exact ⟨w0, w1, rfl⟩
  have hw := fun d (hd : d ∈ tables_1) => atoms_spec (ws := Jvm.Cond.code x code maxLocals ret :: tables_1) hat d (List.mem_cons_of_mem _ hd)
  obtain ⟨i0, ei0⟩ := is_v ga0
  obtain rfl : w0 = (.int i0) := Option.some.inj ei0
  obtain ⟨i1, ei1⟩ := is_v g1
  obtain rfl : w1 = (.int i1) := Option.some.inj ei1
  obtain ⟨n, o, h1, h2, h3, _, L, rfl, ⟨rfl, N, -⟩, hq⟩ := rm0 l s _ hw tables_1 i0 i1 s.heap s.heap.size (Nat.le_refl _) p e ha hc hk s m _ below hf ((Spec.applies_iff_loose hf).mp happ).1 ⟨rfl, State.Warmed39.refl s, rfl⟩ trivial
  have hlaw := own_law i0 i1
  refine ⟨n, _, h1, h2, h3, hpost _ _ _ _ _ _ ⟨Cond.after_iff.mpr rfl, Cond.after_iff.mpr (eq_i res_at (Term.int_eval (1)) (congrArg Value.int hlaw)), trivial⟩ ⟨hq.1, hq.2.1, (hq.2.2.sift fun y hy => Or.inr (N y hy)).mono (by decide) (by decide)⟩⟩
theorem main_1_1 : Claimed_1_1 := comes_1 fun _ _ _ _ _ _ h hF => ⟨h.1, hF⟩
theorem main_1_2 : Claimed_1_2 := comes_1 fun _ _ _ _ _ _ h hF => ⟨h.2.1, hF⟩
end Jvm.Pilot.@@N@@
namespace Jvm.Pilot.@@N@@
open Jvm Jvm.ClassFile Sem Op Lib Jvm.Free Jvm.Stand Jvm.Pilot.@@N@@.Jvm.D
/-! MADE BY PROGRAM (witnessworld.py) out of the Statement's table words and the real class files: 9 classes; the members and pool entries that the words name. The judged class is class 1, her method 2. -/
namespace start1
open Jvm.ClassFile
def u (s : String) : CpInfo := .utf8 (stringToUtf16 s)
/-- a pool by its gaps: so many unusable entries, then the entry; so many at the end -/
def gap : Nat → List CpInfo → List CpInfo
  | 0, r => r
  | n + 1, r => .unusable :: gap n r
def poolList (es : List (Nat × CpInfo)) (last : Nat) : List CpInfo := es.foldr (fun e r => gap e.1 (e.2 :: r)) (gap last [])
def pool (es : List (Nat × CpInfo)) (last : Nat) : Array CpInfo := ⟨poolList es last⟩
def fileOf (pool : Array CpInfo) (this : Nat) (attrs : Array Attribute := #[]) (ms : Array MethodInfo := #[]) (fl : Nat := 33) (sup : Nat := 0) (ifs : Array Nat := #[]) (fds : Array FieldInfo := #[]) : ClassFile where
  minorVersion := 0
  majorVersion := 65
  constantPool := pool
  accessFlags := fl
  thisClass := this
  superClass := sup
  interfaces := ifs
  fields := fds
  methods := ms
  attributes := attrs
def plain (name : String) (sup : Option ClassId) : Class where
  name := name
  kind := .ordinary
  loader := none
  accessFlags := 33
  super := sup
  interfaces := #[]
  cf := none
  fields := #[]
  methods := #[]
  instanceTypes := #[]
  staticTypes := #[]
  resolved := #[]
  callSites := []
  init := .initialized
  statics := none
  mirror := none

def pool0 : Array CpInfo := pool [(5, u "<init>"), (0, u "()V"), (1, .class_ 10), (1, u "java/lang/Object")] 113

def k0m0 : Method := { name := "<init>", desc := "()V", sig := { parameters := [], returnType := none }, accessFlags := 1, code := none }
/-- java/lang/Object -/
def k0 : Class := { plain "java/lang/Object" none with
  accessFlags := 33
  interfaces := #[]
  cf := some (fileOf pool0 8 #[] #[{ accessFlags := 1, nameIndex := 5, descriptorIndex := 6, attributes := #[] }] 33 0 #[] #[])
  fields := #[]
  methods := #[k0m0]
  instanceTypes := #[]
  staticTypes := #[]
  resolved := Array.replicate 124 none
  statics := none }

def pool1 : Array CpInfo := pool [(2, .class_ 4), (1, u "java/lang/Object"), (0, u "<init>"), (0, u "()V"), (0, .integer 2147483647), (0, .methodref 9 10), (0, .class_ 11), (0, .nameAndType 12 13), (0, u "com/example/furoshiki/furoshiki/FormatFixSizePinLaw"), (0, u "fixextLength"), (0, u "(I)I"), (0, .methodref 15 16), (0, .class_ 17), (0, .nameAndType 18 13), (0, u "com/example/furoshiki/furoshiki/Format"), (0, u "fixSize"), (3, u "law"), (0, u "(II)Z")] 2

def k1m0 : Method := { name := "<init>", desc := "()V", sig := { parameters := [], returnType := none }, accessFlags := 2, code := none }
def k1c1 : Code := { maxStack := 2, maxLocals := 1, code := method_2_code, exceptionTable := #[], attributes := #[] }
def k1m1 : Method := { name := "fixextLength", desc := "(I)I", sig := { parameters := [.int], returnType := some .int }, accessFlags := 10, code := some k1c1 }
def k1c2 : Code := { maxStack := 2, maxLocals := 6, code := code, exceptionTable := #[], attributes := #[] }
def k1m2 : Method := { name := "law", desc := "(II)Z", sig := { parameters := [.int, .int], returnType := some .boolean }, accessFlags := 9, code := some k1c2 }
/-- com/example/furoshiki/furoshiki/FormatFixSizePinLaw -/
def k1 : Class := { plain "com/example/furoshiki/furoshiki/FormatFixSizePinLaw" (some 0) with
  accessFlags := 49
  interfaces := #[]
  cf := some (fileOf pool1 9 #[] #[{ accessFlags := 2, nameIndex := 5, descriptorIndex := 6, attributes := #[] }, { accessFlags := 10, nameIndex := 12, descriptorIndex := 13, attributes := #[] }, { accessFlags := 9, nameIndex := 22, descriptorIndex := 23, attributes := #[] }] 49 2 #[] #[])
  fields := #[]
  methods := #[k1m0, k1m1, k1m2]
  instanceTypes := #[]
  staticTypes := #[]
  resolved := Array.replicate 26 none
  statics := none }

def pool2 : Array CpInfo := pool [(2, .class_ 4), (1, u "java/lang/Object"), (0, u "<init>"), (0, u "()V"), (1, .class_ 10), (1, u "com/example/furoshiki/furoshiki/Format"), (0, u "TYPES"), (0, u "[Lcom/example/furoshiki/furoshiki/ValueType;"), (11, u "(I)I"), (5, u "EXT_FORMATS"), (0, u "Lcom/example/furoshiki/furoshiki/Format$SizedFormats;"), (1, .class_ 35), (1, u "com/example/furoshiki/furoshiki/Format$SizedFormats"), (6, u "BIN_FORMATS"), (2, u "STR_FORMATS"), (2, u "ARRAY_FORMATS"), (2, u "MAP_FORMATS"), (21, u "NIL"), (12, u "FIXINT_MIN"), (0, u "I"), (2, u "FIXINT_MAX"), (1, u "FIXMAP"), (1, u "FIXARRAY"), (1, u "FIXSTR"), (1, u "FIXMAP_MAX_SIZE"), (1, u "FIXARRAY_MAX_SIZE"), (0, u "FIXSTR_MAX_LENGTH"), (2, u "FALSE"), (1, u "TRUE"), (1, u "BIN8"), (1, u "BIN16"), (1, u "BIN32"), (1, u "EXT8"), (1, u "EXT16"), (1, u "EXT32"), (1, u "FLOAT32"), (1, u "FLOAT64"), (1, u "UINT8"), (1, u "UINT16"), (1, u "UINT32"), (1, u "UINT64"), (1, u "INT8"), (1, u "INT16"), (1, u "INT32"), (1, u "INT64"), (1, u "FIXEXT1"), (1, u "FIXEXT_MAX_LENGTH"), (1, u "STR8"), (1, u "STR16"), (1, u "STR32"), (1, u "ARRAY16"), (1, u "ARRAY32"), (1, u "MAP16"), (1, u "MAP32"), (1, u "TIMESTAMP32_LENGTH"), (1, u "TIMESTAMP64_LENGTH"), (1, u "TIMESTAMP96_LENGTH"), (1, u "TIMESTAMP64_SECONDS_BITS"), (1, u "NONE"), (7, u "fixSize")] 7

def k2m0 : Method := { name := "<init>", desc := "()V", sig := { parameters := [], returnType := none }, accessFlags := 2, code := none }
def k2c1 : Code := { maxStack := 3, maxLocals := 2, code := prog_6_method_5_code, exceptionTable := #[], attributes := #[] }
def k2m1 : Method := { name := "fixSize", desc := "(I)I", sig := { parameters := [.int], returnType := some .int }, accessFlags := 8, code := some k2c1 }
/-- com/example/furoshiki/furoshiki/Format -/
def k2 : Class := { plain "com/example/furoshiki/furoshiki/Format" (some 0) with
  accessFlags := 48
  interfaces := #[]
  cf := some (fileOf pool2 8 #[.nestMembers #[33]] #[{ accessFlags := 2, nameIndex := 5, descriptorIndex := 6, attributes := #[] }, { accessFlags := 8, nameIndex := 174, descriptorIndex := 24, attributes := #[] }] 48 2 #[] #[{ accessFlags := 24, nameIndex := 86, descriptorIndex := 87, attributes := #[] }, { accessFlags := 24, nameIndex := 90, descriptorIndex := 87, attributes := #[] }, { accessFlags := 24, nameIndex := 92, descriptorIndex := 87, attributes := #[] }, { accessFlags := 24, nameIndex := 94, descriptorIndex := 87, attributes := #[] }, { accessFlags := 24, nameIndex := 96, descriptorIndex := 87, attributes := #[] }, { accessFlags := 24, nameIndex := 98, descriptorIndex := 87, attributes := #[] }, { accessFlags := 24, nameIndex := 100, descriptorIndex := 87, attributes := #[] }, { accessFlags := 24, nameIndex := 101, descriptorIndex := 87, attributes := #[] }, { accessFlags := 24, nameIndex := 73, descriptorIndex := 87, attributes := #[] }, { accessFlags := 24, nameIndex := 104, descriptorIndex := 87, attributes := #[] }, { accessFlags := 24, nameIndex := 106, descriptorIndex := 87, attributes := #[] }, { accessFlags := 24, nameIndex := 108, descriptorIndex := 87, attributes := #[] }, { accessFlags := 24, nameIndex := 110, descriptorIndex := 87, attributes := #[] }, { accessFlags := 24, nameIndex := 112, descriptorIndex := 87, attributes := #[] }, { accessFlags := 24, nameIndex := 114, descriptorIndex := 87, attributes := #[] }, { accessFlags := 24, nameIndex := 116, descriptorIndex := 87, attributes := #[] }, { accessFlags := 24, nameIndex := 118, descriptorIndex := 87, attributes := #[] }, { accessFlags := 24, nameIndex := 120, descriptorIndex := 87, attributes := #[] }, { accessFlags := 24, nameIndex := 122, descriptorIndex := 87, attributes := #[] }, { accessFlags := 24, nameIndex := 124, descriptorIndex := 87, attributes := #[] }, { accessFlags := 24, nameIndex := 126, descriptorIndex := 87, attributes := #[] }, { accessFlags := 24, nameIndex := 128, descriptorIndex := 87, attributes := #[] }, { accessFlags := 24, nameIndex := 130, descriptorIndex := 87, attributes := #[] }, { accessFlags := 24, nameIndex := 132, descriptorIndex := 87, attributes := #[] }, { accessFlags := 24, nameIndex := 134, descriptorIndex := 87, attributes := #[] }, { accessFlags := 24, nameIndex := 136, descriptorIndex := 87, attributes := #[] }, { accessFlags := 24, nameIndex := 138, descriptorIndex := 87, attributes := #[] }, { accessFlags := 24, nameIndex := 140, descriptorIndex := 87, attributes := #[] }, { accessFlags := 24, nameIndex := 142, descriptorIndex := 87, attributes := #[] }, { accessFlags := 24, nameIndex := 144, descriptorIndex := 87, attributes := #[] }, { accessFlags := 24, nameIndex := 146, descriptorIndex := 87, attributes := #[] }, { accessFlags := 24, nameIndex := 148, descriptorIndex := 87, attributes := #[] }, { accessFlags := 24, nameIndex := 150, descriptorIndex := 87, attributes := #[] }, { accessFlags := 24, nameIndex := 152, descriptorIndex := 87, attributes := #[] }, { accessFlags := 24, nameIndex := 154, descriptorIndex := 87, attributes := #[] }, { accessFlags := 24, nameIndex := 156, descriptorIndex := 87, attributes := #[] }, { accessFlags := 24, nameIndex := 158, descriptorIndex := 87, attributes := #[] }, { accessFlags := 24, nameIndex := 160, descriptorIndex := 87, attributes := #[] }, { accessFlags := 24, nameIndex := 162, descriptorIndex := 87, attributes := #[] }, { accessFlags := 24, nameIndex := 164, descriptorIndex := 87, attributes := #[] }, { accessFlags := 24, nameIndex := 166, descriptorIndex := 87, attributes := #[] }, { accessFlags := 24, nameIndex := 42, descriptorIndex := 31, attributes := #[] }, { accessFlags := 24, nameIndex := 30, descriptorIndex := 31, attributes := #[] }, { accessFlags := 24, nameIndex := 45, descriptorIndex := 31, attributes := #[] }, { accessFlags := 24, nameIndex := 48, descriptorIndex := 31, attributes := #[] }, { accessFlags := 24, nameIndex := 51, descriptorIndex := 31, attributes := #[] }, { accessFlags := 26, nameIndex := 11, descriptorIndex := 12, attributes := #[] }])
  fields := #[{ name := "FIXINT_MIN", type := .int, accessFlags := 24, slot := 0, constantValue := 0 }, { name := "FIXINT_MAX", type := .int, accessFlags := 24, slot := 1, constantValue := 0 }, { name := "FIXMAP", type := .int, accessFlags := 24, slot := 2, constantValue := 0 }, { name := "FIXARRAY", type := .int, accessFlags := 24, slot := 3, constantValue := 0 }, { name := "FIXSTR", type := .int, accessFlags := 24, slot := 4, constantValue := 0 }, { name := "FIXMAP_MAX_SIZE", type := .int, accessFlags := 24, slot := 5, constantValue := 0 }, { name := "FIXARRAY_MAX_SIZE", type := .int, accessFlags := 24, slot := 6, constantValue := 0 }, { name := "FIXSTR_MAX_LENGTH", type := .int, accessFlags := 24, slot := 7, constantValue := 0 }, { name := "NIL", type := .int, accessFlags := 24, slot := 8, constantValue := 0 }, { name := "FALSE", type := .int, accessFlags := 24, slot := 9, constantValue := 0 }, { name := "TRUE", type := .int, accessFlags := 24, slot := 10, constantValue := 0 }, { name := "BIN8", type := .int, accessFlags := 24, slot := 11, constantValue := 0 }, { name := "BIN16", type := .int, accessFlags := 24, slot := 12, constantValue := 0 }, { name := "BIN32", type := .int, accessFlags := 24, slot := 13, constantValue := 0 }, { name := "EXT8", type := .int, accessFlags := 24, slot := 14, constantValue := 0 }, { name := "EXT16", type := .int, accessFlags := 24, slot := 15, constantValue := 0 }, { name := "EXT32", type := .int, accessFlags := 24, slot := 16, constantValue := 0 }, { name := "FLOAT32", type := .int, accessFlags := 24, slot := 17, constantValue := 0 }, { name := "FLOAT64", type := .int, accessFlags := 24, slot := 18, constantValue := 0 }, { name := "UINT8", type := .int, accessFlags := 24, slot := 19, constantValue := 0 }, { name := "UINT16", type := .int, accessFlags := 24, slot := 20, constantValue := 0 }, { name := "UINT32", type := .int, accessFlags := 24, slot := 21, constantValue := 0 }, { name := "UINT64", type := .int, accessFlags := 24, slot := 22, constantValue := 0 }, { name := "INT8", type := .int, accessFlags := 24, slot := 23, constantValue := 0 }, { name := "INT16", type := .int, accessFlags := 24, slot := 24, constantValue := 0 }, { name := "INT32", type := .int, accessFlags := 24, slot := 25, constantValue := 0 }, { name := "INT64", type := .int, accessFlags := 24, slot := 26, constantValue := 0 }, { name := "FIXEXT1", type := .int, accessFlags := 24, slot := 27, constantValue := 0 }, { name := "FIXEXT_MAX_LENGTH", type := .int, accessFlags := 24, slot := 28, constantValue := 0 }, { name := "STR8", type := .int, accessFlags := 24, slot := 29, constantValue := 0 }, { name := "STR16", type := .int, accessFlags := 24, slot := 30, constantValue := 0 }, { name := "STR32", type := .int, accessFlags := 24, slot := 31, constantValue := 0 }, { name := "ARRAY16", type := .int, accessFlags := 24, slot := 32, constantValue := 0 }, { name := "ARRAY32", type := .int, accessFlags := 24, slot := 33, constantValue := 0 }, { name := "MAP16", type := .int, accessFlags := 24, slot := 34, constantValue := 0 }, { name := "MAP32", type := .int, accessFlags := 24, slot := 35, constantValue := 0 }, { name := "TIMESTAMP32_LENGTH", type := .int, accessFlags := 24, slot := 36, constantValue := 0 }, { name := "TIMESTAMP64_LENGTH", type := .int, accessFlags := 24, slot := 37, constantValue := 0 }, { name := "TIMESTAMP96_LENGTH", type := .int, accessFlags := 24, slot := 38, constantValue := 0 }, { name := "TIMESTAMP64_SECONDS_BITS", type := .int, accessFlags := 24, slot := 39, constantValue := 0 }, { name := "NONE", type := .int, accessFlags := 24, slot := 40, constantValue := 0 }, { name := "BIN_FORMATS", type := (.object "com/example/furoshiki/furoshiki/Format$SizedFormats"), accessFlags := 24, slot := 41, constantValue := 0 }, { name := "EXT_FORMATS", type := (.object "com/example/furoshiki/furoshiki/Format$SizedFormats"), accessFlags := 24, slot := 42, constantValue := 0 }, { name := "STR_FORMATS", type := (.object "com/example/furoshiki/furoshiki/Format$SizedFormats"), accessFlags := 24, slot := 43, constantValue := 0 }, { name := "ARRAY_FORMATS", type := (.object "com/example/furoshiki/furoshiki/Format$SizedFormats"), accessFlags := 24, slot := 44, constantValue := 0 }, { name := "MAP_FORMATS", type := (.object "com/example/furoshiki/furoshiki/Format$SizedFormats"), accessFlags := 24, slot := 45, constantValue := 0 }, { name := "TYPES", type := (.array (.object "com/example/furoshiki/furoshiki/ValueType")), accessFlags := 26, slot := 46, constantValue := 0 }]
  methods := #[k2m0, k2m1]
  instanceTypes := #[]
  staticTypes := #[.int, .int, .int, .int, .int, .int, .int, .int, .int, .int, .int, .int, .int, .int, .int, .int, .int, .int, .int, .int, .int, .int, .int, .int, .int, .int, .int, .int, .int, .int, .int, .int, .int, .int, .int, .int, .int, .int, .int, .int, .int, (.object "com/example/furoshiki/furoshiki/Format$SizedFormats"), (.object "com/example/furoshiki/furoshiki/Format$SizedFormats"), (.object "com/example/furoshiki/furoshiki/Format$SizedFormats"), (.object "com/example/furoshiki/furoshiki/Format$SizedFormats"), (.object "com/example/furoshiki/furoshiki/Format$SizedFormats"), (.array (.object "com/example/furoshiki/furoshiki/ValueType"))]
  resolved := Array.replicate 182 none
  statics := none }

def pool3 : Array CpInfo := pool [(1, u "java/lang/Cloneable"), (0, .class_ 1), (0, u "java/lang/Object"), (0, .class_ 3)] 3

/-- java/lang/Cloneable -/
def k3 : Class := { plain "java/lang/Cloneable" (some 0) with
  accessFlags := 1537
  interfaces := #[]
  cf := some (fileOf pool3 2 #[] #[] 1537 4 #[] #[])
  fields := #[]
  methods := #[]
  instanceTypes := #[]
  staticTypes := #[]
  resolved := Array.replicate 8 none
  statics := none }

def pool4 : Array CpInfo := pool [(1, u "java/io/Serializable"), (0, .class_ 1), (0, u "java/lang/Object"), (0, .class_ 3)] 3

/-- java/io/Serializable -/
def k4 : Class := { plain "java/io/Serializable" (some 0) with
  accessFlags := 1537
  interfaces := #[]
  cf := some (fileOf pool4 2 #[] #[] 1537 4 #[] #[])
  fields := #[]
  methods := #[]
  instanceTypes := #[]
  staticTypes := #[]
  resolved := Array.replicate 8 none
  statics := none }

/-- the primitive byte -/
def k5 : Class := { plain "byte" none with kind := .primitive 'B', accessFlags := 0x411 }
/-- [B -/
def k6 : Class := { plain "[B" (some 0) with kind := .array 5 .byte, interfaces := #[3, 4], accessFlags := 1041 }

/-- the primitive int -/
def k7 : Class := { plain "int" none with kind := .primitive 'I', accessFlags := 0x411 }
/-- [I -/
def k8 : Class := { plain "[I" (some 0) with kind := .array 7 .int, interfaces := #[3, 4], accessFlags := 1041 }

def heap : Heap := #[]
def classes : Array Class := #[k0, k1, k2, k3, k4, k5, k6, k7, k8]
def interned : List (Array UInt16 × Addr) := []
def slotsUsed : Nat := 0
def theMethod : MethodId := ⟨1, 2⟩
def args0 : Array Value := #[.int 7, .int 7]
def aboutOver (below : List Frame) : State where
  vm := { classes := classes, interned := interned.toArray }
  heap := heap
  slotsUsed := slotsUsed
  threads := #[{ frames := .invoking theMethod args0 :: below }]
def below0 : List Frame := [.native { method := ⟨0, 0⟩, args := #[] }]
def about1 : State := aboutOver below0
def p0 : Program := .bare "" "" ""
def e0 : Env := launch0.env 0 0 0
theorem w_frames : about1.frames = Frame.invoking theMethod args0 :: below0 := rfl
set_option maxRecDepth 65536 in
theorem w_args : argsFit about1.vm theMethod args0 = true := by decide +kernel
set_option maxRecDepth 65536 in
theorem w_heap : heapFits about1 = true := by decide +kernel
set_option maxRecDepth 65536 in
theorem w_runnable : about1.curStatus? = some .runnable := by decide +kernel
set_option maxRecDepth 65536 in
theorem w_alone : about1.alone = true := by decide +kernel
set_option maxRecDepth 65536 in
theorem w_named : about1.methodNamed? x = some theMethod := by decide +kernel
set_option maxRecDepth 65536 in
theorem w_hears : about1.hears theMethod below0 = true := by decide +kernel
set_option maxRecDepth 65536 in
theorem w_ripe : about1.ripe theMethod args0 below0 = true := by decide +kernel
theorem w_running : about1.status = .running := rfl
set_option maxRecDepth 65536 in
theorem w_room : about1.hasRoom e0.platform room_1 = true :=
  launch0.hasRoom_least _ room_1 (by decide +kernel) (by decide +kernel) (by decide +kernel) (by decide +kernel) (by decide +kernel) (by decide +kernel)
theorem allAtoms_all (ts : List Jvm.Cond) (a : Array Jvm.Value) (st : Jvm.State) : (allAtoms ts).before a st = ts.all (fun c => c.before a st) := by
  induction ts with
  | nil => rfl
  | cons c t ih =>
    show (Jvm.Cond.and c (allAtoms t)).before a st = _
    rw [Jvm.Cond.before_and, ih, List.all_cons]
def words1 : List Jvm.Cond := Jvm.Cond.code x code maxLocals ret :: tables_1
/-- a 'code' word, met by the world's own term for the bytes: nothing is compared byte by byte -/
theorem code_word {y : MethodName} {bytes : ByteArray} {mx : Nat} {rt : Option FieldType} {a : Array Value} {s : State} {m : MethodId} {meth : Method} {c : Code} (h1 : s.methodNamed? y = some m) (h2 : s.vm.method? m = some meth) (h3 : meth.code = some c) (h4 : c.code = bytes)
    (h5 : (c.maxLocals == mx && c.exceptionTable.isEmpty && decide (c.maxStack ≤ mostOperands) && decide (meth.sig.returnType = rt) && !meth.locks && decide (parseMethodDescriptor y.desc = some meth.sig)) = true) : (Jvm.Cond.code y bytes mx rt).before a s = true := by
  simp only [Bool.and_eq_true, beq_iff_eq, Bool.not_eq_true', decide_eq_true_eq] at h5
  obtain ⟨⟨⟨⟨⟨g1, g2⟩, g3⟩, g4⟩, g5⟩, g6⟩ := h5
  simp [Cond.before, Cond.holds, Cond.value, h1, h2, h3, h4, g1, g2, g3, g4, g5, g6]
def isCode : Jvm.Cond → Bool
  | .code _ _ _ _ => true
  | _ => false
theorem all_split {L : List Jvm.Cond} {P : Jvm.Cond → Bool} (h1 : L.all (fun c => isCode c || P c) = true) (h2 : ∀ c ∈ L.filter isCode, P c = true) : L.all P = true := by
  refine List.all_eq_true.mpr fun c hc => ?_
  have h := List.all_eq_true.mp h1 c hc
  rcases Bool.eq_false_or_eq_true (isCode c) with hi | hi
  · exact h2 c (List.mem_filter.mpr ⟨hc, hi⟩)
  · simpa [hi] using h
set_option maxRecDepth 65536 in
theorem w_c0 : (Jvm.Cond.code x code maxLocals ret).before args0 about1 = true := code_word (m := ⟨1, 2⟩) (meth := k1m2) (c := k1c2) (by decide +kernel) rfl rfl rfl (by decide +kernel)
set_option maxRecDepth 65536 in
theorem w_c1 : (Jvm.Cond.code ({ cls := "com/example/furoshiki/furoshiki/Format", name := "fixSize", desc := "(I)I" } : Jvm.MethodName) prog_6_method_5_code (2 : Nat) (Option.some Jvm.ClassFile.FieldType.int)).before args0 about1 = true := code_word (m := ⟨2, 1⟩) (meth := k2m1) (c := k2c1) (by decide +kernel) rfl rfl rfl (by decide +kernel)
set_option maxRecDepth 65536 in
theorem w_c2 : (Jvm.Cond.code ({ cls := "com/example/furoshiki/furoshiki/FormatFixSizePinLaw", name := "fixextLength", desc := "(I)I" } : Jvm.MethodName) method_2_code (1 : Nat) (Option.some Jvm.ClassFile.FieldType.int)).before args0 about1 = true := code_word (m := ⟨1, 1⟩) (meth := k1m1) (c := k1c1) (by decide +kernel) rfl rfl rfl (by decide +kernel)
def codes1 : List Jvm.Cond := [Jvm.Cond.code x code maxLocals ret, Jvm.Cond.code ({ cls := "com/example/furoshiki/furoshiki/Format", name := "fixSize", desc := "(I)I" } : Jvm.MethodName) prog_6_method_5_code (2 : Nat) (Option.some Jvm.ClassFile.FieldType.int), Jvm.Cond.code ({ cls := "com/example/furoshiki/furoshiki/FormatFixSizePinLaw", name := "fixextLength", desc := "(I)I" } : Jvm.MethodName) method_2_code (1 : Nat) (Option.some Jvm.ClassFile.FieldType.int)]
set_option maxRecDepth 65536 in
theorem codes_eq : words1.filter isCode = codes1 := rfl
theorem w_codes : ∀ c ∈ words1.filter isCode, c.before args0 about1 = true := by
  rw [codes_eq]
  intro c hc
  simp only [codes1, List.mem_cons, List.not_mem_nil, or_false] at hc
  rcases hc with rfl | rfl | rfl
  · exact w_c0
  · exact w_c1
  · exact w_c2
set_option maxRecDepth 65536 in
theorem w_t1 : words1.all (fun c => isCode c || c.before args0 about1) = true := by decide +kernel
theorem w_tables : (allAtoms (Jvm.Cond.code x code maxLocals ret :: tables_1)).before args0 about1 = true := by
  rw [allAtoms_all]
  show words1.all (fun c => c.before args0 about1) = true
  refine all_split ?_ w_codes
  rw [w_t1]
set_option maxRecDepth 65536 in
theorem w_case : (Jvm.Cond.and given_1 narrow_1).before args0 about1 = true := by decide +kernel
theorem w_applies : (headSpec (Jvm.Cond.code x code maxLocals ret :: tables_1) room_1).applies x e0.platform about1 = true :=
  (Spec.applies_iff w_frames).mpr ⟨w_running, w_runnable, w_alone, w_named, w_hears, w_ripe, w_room, w_tables⟩
theorem atStart : AtStart classFile x code maxLocals ret World_1 tables_1 room_1 Calls_1 rest_1 Pre_1 launch0 p0 e0 about1 theMethod args0 below0 :=
  ⟨lists_1, trivial, launch0.admits_env _ _ _, launch0.least_env, fairChoices_fair.cas, fairChoices_fair.clock, w_frames, w_args, w_heap, w_applies, trivial, trivial, w_case⟩
end start1
theorem witness_1 : WitnessClaimed_1 := ⟨start1.p0, start1.e0, start1.about1, start1.theMethod, start1.args0, start1.below0, start1.atStart⟩
end Jvm.Pilot.@@N@@
