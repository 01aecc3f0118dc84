import JvmDerived
import JvmDerived.Pilot.@@N@@Statement
import JvmDerived.Pilot.@@N@@Code
set_option linter.unusedVariables false
set_option linter.unusedSimpArgs false
namespace Jvm.RoadKit
open Sem ClassFile Op Lib Jvm.Stand Jvm.Free Jvm.LawKit
section New
variable {p : Program} {l : Launch} {e : Env} {R : Room} {s : State} {m : MethodId} {args : Array Value} {below : List Frame} {meth : Method} {c : Code} {T : State} {locs : List Loc} {cells slots : Nat}
theorem retI (X : Stand p l e R s m args below meth c T locs cells slots) (hx : p.tables.exec = Jvm.exec) {pc : Nat} {Ls : Array Slot} {z : Int32} {rest : List Value} (hret : meth.sig.returnType = some .int) (hd : decode c.code pc = .ok (.ireturn, 1)) {fs : List Frame}
    (hl : ∀ (f : JFrame) (acts : List Action), f.method = m → f.locked = none → f.entered = [] → (doReturn e (T.setTop f) acts (some (.int z))).1 = T.setFrames fs) : Steps p.tables e below (T.setTop (mkF m pc Ls (.int z :: rest))) (T.setFrames fs) := by
  have hm' : T.vm.method? m = some meth := X.method'
  have hn : narrow .int (.int z) = .int z := rfl
  show Steps p.tables e below (T.setTop { method := m, pc := pc, locals := Ls, stack := _ :: rest, locked := none }) _
  jvm_step X.here [X.here.top, hx, hd, hm', hret, hn]
  first | (intro acts; rw [hl _ acts rfl rfl rfl]) | rw [hl _ _ rfl rfl rfl]
  exact Steps.refl _
end New
end Jvm.RoadKit
namespace Jvm.Pilot.@@N@@
open Jvm Jvm.ClassFile Sem Op Lib Jvm.Free Jvm.Stand Jvm.LawKit Jvm.RoadKit Bundle Jvm.Pilot.@@N@@.Jvm.D
theorem d1_0 : decode prog_75_method_17_code 0 = .ok (.iload_n 0, 1) := by decide +kernel
theorem d1_1 : decode prog_75_method_17_code 1 = .ok (.bipush 32, 2) := by decide +kernel
theorem d1_3 : decode prog_75_method_17_code 3 = .ok (.if_icmp .eq 21, 3) := by decide +kernel
theorem d1_24 : decode prog_75_method_17_code 24 = .ok (.iconst 1, 1) := by decide +kernel
theorem d1_25 : decode prog_75_method_17_code 25 = .ok (.goto 4, 3) := by decide +kernel
theorem d1_29 : decode prog_75_method_17_code 29 = .ok (.ireturn, 1) := by decide +kernel
theorem d1_6 : decode prog_75_method_17_code 6 = .ok (.iload_n 0, 1) := by decide +kernel
theorem d1_7 : decode prog_75_method_17_code 7 = .ok (.bipush 9, 2) := by decide +kernel
theorem d1_9 : decode prog_75_method_17_code 9 = .ok (.if_icmp .eq 15, 3) := by decide +kernel
theorem d1_12 : decode prog_75_method_17_code 12 = .ok (.iload_n 0, 1) := by decide +kernel
theorem d1_13 : decode prog_75_method_17_code 13 = .ok (.bipush 13, 2) := by decide +kernel
theorem d1_15 : decode prog_75_method_17_code 15 = .ok (.if_icmp .eq 9, 3) := by decide +kernel
theorem d1_18 : decode prog_75_method_17_code 18 = .ok (.iload_n 0, 1) := by decide +kernel
theorem d1_19 : decode prog_75_method_17_code 19 = .ok (.bipush 10, 2) := by decide +kernel
theorem d1_21 : decode prog_75_method_17_code 21 = .ok (.if_icmp .ne 7, 3) := by decide +kernel
theorem d1_28 : decode prog_75_method_17_code 28 = .ok (.iconst 0, 1) := by decide +kernel
theorem d2_0 : decode method_2_code 0 = .ok (.iload_n 0, 1) := by decide +kernel
theorem d2_1 : decode method_2_code 1 = .ok (.bipush 32, 2) := by decide +kernel
theorem d2_3 : decode method_2_code 3 = .ok (.if_icmp .ne 5, 3) := by decide +kernel
theorem d2_6 : decode method_2_code 6 = .ok (.iconst 1, 1) := by decide +kernel
theorem d2_7 : decode method_2_code 7 = .ok (.ireturn, 1) := by decide +kernel
theorem d2_8 : decode method_2_code 8 = .ok (.iload_n 0, 1) := by decide +kernel
theorem d2_9 : decode method_2_code 9 = .ok (.bipush 9, 2) := by decide +kernel
theorem d2_11 : decode method_2_code 11 = .ok (.if_icmp .lt 25, 3) := by decide +kernel
theorem d2_36 : decode method_2_code 36 = .ok (.iconst 0, 1) := by decide +kernel
theorem d2_37 : decode method_2_code 37 = .ok (.ireturn, 1) := by decide +kernel
theorem d2_14 : decode method_2_code 14 = .ok (.iload_n 0, 1) := by decide +kernel
theorem d2_15 : decode method_2_code 15 = .ok (.bipush 13, 2) := by decide +kernel
theorem d2_17 : decode method_2_code 17 = .ok (.if_icmp .gt 19, 3) := by decide +kernel
theorem d2_20 : decode method_2_code 20 = .ok (.iload_n 0, 1) := by decide +kernel
theorem d2_21 : decode method_2_code 21 = .ok (.bipush 11, 2) := by decide +kernel
theorem d2_23 : decode method_2_code 23 = .ok (.if_icmp .eq 13, 3) := by decide +kernel
theorem d2_26 : decode method_2_code 26 = .ok (.iload_n 0, 1) := by decide +kernel
theorem d2_27 : decode method_2_code 27 = .ok (.bipush 12, 2) := by decide +kernel
theorem d2_29 : decode method_2_code 29 = .ok (.if_icmp .eq 7, 3) := by decide +kernel
theorem d2_32 : decode method_2_code 32 = .ok (.iconst 1, 1) := by decide +kernel
theorem d2_33 : decode method_2_code 33 = .ok (.goto 4, 3) := by decide +kernel
theorem pd0 : parseMethodDescriptor "(I)Z" = some ⟨[.int], some .boolean⟩ := by decide +kernel
theorem pn0 : plainName "com/example/tenon/tenon/Parser" = true := by first | (simp [plainName, overriddenIn]; done) | decide +kernel
theorem pn1 : plainName "com/example/tenon/tenon/ParserIsSpacePinLaw" = true := by first | (simp [plainName, overriddenIn]; done) | decide +kernel
def F1 (p0 : Int32) : Int32 := (if p0 = (32 : Int32) then (1 : Int32) else (if p0 = (9 : Int32) then (1 : Int32) else (if p0 = (13 : Int32) then (1 : Int32) else (if p0 = (10 : Int32) then (1 : Int32) else (0 : Int32)))))
theorem ef1 (m : MethodId) (x0 : Int32) : entryFrame m #[(.int x0)] 1 = mkF m 0 #[.val (.int x0)] [] := by first | (simp [entryFrame, mkF, argsToLocals, Value.category]; done) | rfl
def Q1 (Z : State) (p0 : Int32) (h0 : Heap) (n0 : Nat) (v : Option Value) (h : Heap) (L : List Loc) : Prop := v = some (.int (F1 p0)) ∧ Fr n0 L ∧ h = h0
set_option maxRecDepth 65536 in
set_option maxHeartbeats 40000000 in
theorem rm1 (l : Launch) (Z : State) (a0 : Array Value) (hw : ∀ d ∈ tables_1, d.before a0 Z = true) (ws : List Jvm.Cond) (p0 : Int32) (h0 : Heap) (n0 : Nat) (Z0 : n0 ≤ h0.size) :
    MetFree l (⟨"com/example/tenon/tenon/Parser", "isSpace", "(I)Z"⟩ : MethodName) (head1 (Jvm.Cond.code (⟨"com/example/tenon/tenon/Parser", "isSpace", "(I)Z"⟩ : MethodName) prog_75_method_17_code 1 (some .boolean) :: ws) ({ frames := 0, cells := 0, slots := 0, locals := 0 } : Room)) (fun a U => a = #[(.int p0)] ∧ Z.Warmed39 U.vm ∧ U.heap = h0) (fun _ _ _ _ _ => True) (fun _ U o U' => ∃ v L, o = .returned v ∧ Q1 Z p0 h0 n0 v U'.heap L ∧ FrameEnd U o U' L ({ frames := 0, cells := 0, slots := 0, locals := 0 } : Room).cells ({ frames := 0, cells := 0, slots := 0, locals := 0 } : Room).slots) := by
  refine MetFree.of_bodySF (plainFor_of_name pn0) hisR ?_
  intro p e s m args below meth c s₁ Bd hml0 hP hK
  obtain ⟨rfl, hZ, hh⟩ := hP
  have hx := Bd.exec
  have hby := Bd.bytes
  have hml : c.maxLocals = 1 := hml0
  have hown : s.vm.findClass "com/example/tenon/tenon/Parser" = some m.cls := findClass_of_methodNamed Bd.named
  have hnm := (name_of_methodNamed Bd.named Bd.method).1
  have X0 : Stand p l e ({ frames := 0, cells := 0, slots := 0, locals := 0 } : Room) s m #[(.int p0)] below meth c s₁ [] 0 0 := Stand.of_body Bd
  have e0 : s₁.heap = h0 := by rw [← hh, Bd.state]; rfl
  have N0 := Fr.nil n0
  have hlk : meth.locks = false := by first | exact BodyLoose.notSynchronized Bd | exact Body.notSynchronized Bd
  have pre0 : ∀ t, Steps p.tables e below (s₁.setTop (mkF m 0 #[.val (.int p0)] [])) t → Steps p.tables e below (s₁.setTop (entryFrame m #[(.int p0)] 1)) t := fun t k => castTop (ef1 m p0) k
  have pre1 : ∀ t, Steps p.tables e below (s₁.setTop (mkF m 3 #[.val (.int p0)] [(.int (32 : Int32)), (.int p0)])) t → Steps p.tables e below (s₁.setTop (entryFrame m #[(.int p0)] 1)) t := fun t k => pre0 t (by
    show Steps p.tables e below (s₁.setTop (mkF m 0 #[.val (.int p0)] [])) _
    refine XS.iloadN X0.here hx rfl (hb hby d1_0) rfl ?_
    show Steps p.tables e below (s₁.setTop (mkF m 1 #[.val (.int p0)] [(.int p0)])) _
    refine XS.bipush X0.here hx rfl (hb hby d1_1) ?_
    exact k)
  by_cases hc3_2 : p0 = (32 : Int32)
  · have pre3 : ∀ t, Steps p.tables e below (s₁.setTop (mkF m 29 #[.val (.int p0)] [(.int (1 : Int32))])) t → Steps p.tables e below (s₁.setTop (entryFrame m #[(.int p0)] 1)) t := fun t k => pre1 t (by
      show Steps p.tables e below (s₁.setTop (mkF m 3 #[.val (.int p0)] [(.int (32 : Int32)), (.int p0)])) _
      refine XS.icmpYes X0.here hx rfl (pc0 := 3) (pc' := 24) rfl (hb hby d1_3) rfl (teq hc3_2).1 (by decide) (by decide) ?_
      show Steps p.tables e below (s₁.setTop (mkF m 24 #[.val (.int p0)] [])) _
      refine XS.iconst X0.here hx rfl (hb hby d1_24) ?_
      show Steps p.tables e below (s₁.setTop (mkF m 25 #[.val (.int p0)] [(.int (1 : Int32))])) _
      refine XS.goto X0.here hx rfl (pc0 := 25) (pc' := 29) rfl (hb hby d1_25) (by decide) (by decide) ?_
      exact k)
    obtain ⟨fs, hr, hrun, hended, hW, hsame⟩ := X0.leave (v := some (.int (1 : Int32))) (fun h => by rw [Bd.returns] at h; cases h) hlk
    have hF : F1 p0 = (1 : Int32) := by unfold F1; rw [if_pos hc3_2]
    exact ⟨_, _, pre3 _ (retN X0 hx (t := .boolean) Bd.returns (by simp) (hb hby d1_29) hr), hrun, hended, _, _, rfl, ⟨by rw [hF], N0, e0⟩, ⟨_, rfl⟩, hW, hsame.mono (by decide) (by decide)⟩
  have pre4 : ∀ t, Steps p.tables e below (s₁.setTop (mkF m 9 #[.val (.int p0)] [(.int (9 : Int32)), (.int p0)])) t → Steps p.tables e below (s₁.setTop (entryFrame m #[(.int p0)] 1)) t := fun t k => pre1 t (by
    show Steps p.tables e below (s₁.setTop (mkF m 3 #[.val (.int p0)] [(.int (32 : Int32)), (.int p0)])) _
    refine XS.icmpNo X0.here hx rfl (hb hby d1_3) rfl (feq hc3_2).1 ?_
    show Steps p.tables e below (s₁.setTop (mkF m 6 #[.val (.int p0)] [])) _
    refine XS.iloadN X0.here hx rfl (hb hby d1_6) rfl ?_
    show Steps p.tables e below (s₁.setTop (mkF m 7 #[.val (.int p0)] [(.int p0)])) _
    refine XS.bipush X0.here hx rfl (hb hby d1_7) ?_
    exact k)
  by_cases hc9_5 : p0 = (9 : Int32)
  · have pre6 : ∀ t, Steps p.tables e below (s₁.setTop (mkF m 29 #[.val (.int p0)] [(.int (1 : Int32))])) t → Steps p.tables e below (s₁.setTop (entryFrame m #[(.int p0)] 1)) t := fun t k => pre4 t (by
      show Steps p.tables e below (s₁.setTop (mkF m 9 #[.val (.int p0)] [(.int (9 : Int32)), (.int p0)])) _
      refine XS.icmpYes X0.here hx rfl (pc0 := 9) (pc' := 24) rfl (hb hby d1_9) rfl (teq hc9_5).1 (by decide) (by decide) ?_
      show Steps p.tables e below (s₁.setTop (mkF m 24 #[.val (.int p0)] [])) _
      refine XS.iconst X0.here hx rfl (hb hby d1_24) ?_
      show Steps p.tables e below (s₁.setTop (mkF m 25 #[.val (.int p0)] [(.int (1 : Int32))])) _
      refine XS.goto X0.here hx rfl (pc0 := 25) (pc' := 29) rfl (hb hby d1_25) (by decide) (by decide) ?_
      exact k)
    obtain ⟨fs, hr, hrun, hended, hW, hsame⟩ := X0.leave (v := some (.int (1 : Int32))) (fun h => by rw [Bd.returns] at h; cases h) hlk
    have hF : F1 p0 = (1 : Int32) := by unfold F1; rw [if_neg hc3_2, if_pos hc9_5]
    exact ⟨_, _, pre6 _ (retN X0 hx (t := .boolean) Bd.returns (by simp) (hb hby d1_29) hr), hrun, hended, _, _, rfl, ⟨by rw [hF], N0, e0⟩, ⟨_, rfl⟩, hW, hsame.mono (by decide) (by decide)⟩
  have pre7 : ∀ t, Steps p.tables e below (s₁.setTop (mkF m 15 #[.val (.int p0)] [(.int (13 : Int32)), (.int p0)])) t → Steps p.tables e below (s₁.setTop (entryFrame m #[(.int p0)] 1)) t := fun t k => pre4 t (by
    show Steps p.tables e below (s₁.setTop (mkF m 9 #[.val (.int p0)] [(.int (9 : Int32)), (.int p0)])) _
    refine XS.icmpNo X0.here hx rfl (hb hby d1_9) rfl (feq hc9_5).1 ?_
    show Steps p.tables e below (s₁.setTop (mkF m 12 #[.val (.int p0)] [])) _
    refine XS.iloadN X0.here hx rfl (hb hby d1_12) rfl ?_
    show Steps p.tables e below (s₁.setTop (mkF m 13 #[.val (.int p0)] [(.int p0)])) _
    refine XS.bipush X0.here hx rfl (hb hby d1_13) ?_
    exact k)
  by_cases hc15_8 : p0 = (13 : Int32)
  · have pre9 : ∀ t, Steps p.tables e below (s₁.setTop (mkF m 29 #[.val (.int p0)] [(.int (1 : Int32))])) t → Steps p.tables e below (s₁.setTop (entryFrame m #[(.int p0)] 1)) t := fun t k => pre7 t (by
      show Steps p.tables e below (s₁.setTop (mkF m 15 #[.val (.int p0)] [(.int (13 : Int32)), (.int p0)])) _
      refine XS.icmpYes X0.here hx rfl (pc0 := 15) (pc' := 24) rfl (hb hby d1_15) rfl (teq hc15_8).1 (by decide) (by decide) ?_
      show Steps p.tables e below (s₁.setTop (mkF m 24 #[.val (.int p0)] [])) _
      refine XS.iconst X0.here hx rfl (hb hby d1_24) ?_
      show Steps p.tables e below (s₁.setTop (mkF m 25 #[.val (.int p0)] [(.int (1 : Int32))])) _
      refine XS.goto X0.here hx rfl (pc0 := 25) (pc' := 29) rfl (hb hby d1_25) (by decide) (by decide) ?_
      exact k)
    obtain ⟨fs, hr, hrun, hended, hW, hsame⟩ := X0.leave (v := some (.int (1 : Int32))) (fun h => by rw [Bd.returns] at h; cases h) hlk
    have hF : F1 p0 = (1 : Int32) := by unfold F1; rw [if_neg hc3_2, if_neg hc9_5, if_pos hc15_8]
    exact ⟨_, _, pre9 _ (retN X0 hx (t := .boolean) Bd.returns (by simp) (hb hby d1_29) hr), hrun, hended, _, _, rfl, ⟨by rw [hF], N0, e0⟩, ⟨_, rfl⟩, hW, hsame.mono (by decide) (by decide)⟩
  have pre10 : ∀ t, Steps p.tables e below (s₁.setTop (mkF m 21 #[.val (.int p0)] [(.int (10 : Int32)), (.int p0)])) t → Steps p.tables e below (s₁.setTop (entryFrame m #[(.int p0)] 1)) t := fun t k => pre7 t (by
    show Steps p.tables e below (s₁.setTop (mkF m 15 #[.val (.int p0)] [(.int (13 : Int32)), (.int p0)])) _
    refine XS.icmpNo X0.here hx rfl (hb hby d1_15) rfl (feq hc15_8).1 ?_
    show Steps p.tables e below (s₁.setTop (mkF m 18 #[.val (.int p0)] [])) _
    refine XS.iloadN X0.here hx rfl (hb hby d1_18) rfl ?_
    show Steps p.tables e below (s₁.setTop (mkF m 19 #[.val (.int p0)] [(.int p0)])) _
    refine XS.bipush X0.here hx rfl (hb hby d1_19) ?_
    exact k)
  by_cases hc21_11 : p0 = (10 : Int32)
  · have pre12 : ∀ t, Steps p.tables e below (s₁.setTop (mkF m 29 #[.val (.int p0)] [(.int (1 : Int32))])) t → Steps p.tables e below (s₁.setTop (entryFrame m #[(.int p0)] 1)) t := fun t k => pre10 t (by
      show Steps p.tables e below (s₁.setTop (mkF m 21 #[.val (.int p0)] [(.int (10 : Int32)), (.int p0)])) _
      refine XS.icmpNo X0.here hx rfl (hb hby d1_21) rfl (teq hc21_11).2 ?_
      show Steps p.tables e below (s₁.setTop (mkF m 24 #[.val (.int p0)] [])) _
      refine XS.iconst X0.here hx rfl (hb hby d1_24) ?_
      show Steps p.tables e below (s₁.setTop (mkF m 25 #[.val (.int p0)] [(.int (1 : Int32))])) _
      refine XS.goto X0.here hx rfl (pc0 := 25) (pc' := 29) rfl (hb hby d1_25) (by decide) (by decide) ?_
      exact k)
    obtain ⟨fs, hr, hrun, hended, hW, hsame⟩ := X0.leave (v := some (.int (1 : Int32))) (fun h => by rw [Bd.returns] at h; cases h) hlk
    have hF : F1 p0 = (1 : Int32) := by unfold F1; rw [if_neg hc3_2, if_neg hc9_5, if_neg hc15_8, if_pos hc21_11]
    exact ⟨_, _, pre12 _ (retN X0 hx (t := .boolean) Bd.returns (by simp) (hb hby d1_29) hr), hrun, hended, _, _, rfl, ⟨by rw [hF], N0, e0⟩, ⟨_, rfl⟩, hW, hsame.mono (by decide) (by decide)⟩
  have pre13 : ∀ t, Steps p.tables e below (s₁.setTop (mkF m 29 #[.val (.int p0)] [(.int (0 : Int32))])) t → Steps p.tables e below (s₁.setTop (entryFrame m #[(.int p0)] 1)) t := fun t k => pre10 t (by
    show Steps p.tables e below (s₁.setTop (mkF m 21 #[.val (.int p0)] [(.int (10 : Int32)), (.int p0)])) _
    refine XS.icmpYes X0.here hx rfl (pc0 := 21) (pc' := 28) rfl (hb hby d1_21) rfl (feq hc21_11).2 (by decide) (by decide) ?_
    show Steps p.tables e below (s₁.setTop (mkF m 28 #[.val (.int p0)] [])) _
    refine XS.iconst X0.here hx rfl (hb hby d1_28) ?_
    exact k)
  obtain ⟨fs, hr, hrun, hended, hW, hsame⟩ := X0.leave (v := some (.int (0 : Int32))) (fun h => by rw [Bd.returns] at h; cases h) hlk
  have hF : F1 p0 = (0 : Int32) := by unfold F1; rw [if_neg hc3_2, if_neg hc9_5, if_neg hc15_8, if_neg hc21_11]
  exact ⟨_, _, pre13 _ (retN X0 hx (t := .boolean) Bd.returns (by simp) (hb hby d1_29) hr), hrun, hended, _, _, rfl, ⟨by rw [hF], N0, e0⟩, ⟨_, rfl⟩, hW, hsame.mono (by decide) (by decide)⟩
def F2 (p0 : Int32) : Int32 := (if p0 = (32 : Int32) then (1 : Int32) else (if p0 < (9 : Int32) then (0 : Int32) else (if (13 : Int32) < p0 then (0 : Int32) else (if p0 = (11 : Int32) then (0 : Int32) else (if p0 = (12 : Int32) then (0 : Int32) else (1 : Int32))))))
theorem ef2 (m : MethodId) (x0 : Int32) : entryFrame m #[(.int x0)] 1 = mkF m 0 #[.val (.int x0)] [] := by first | (simp [entryFrame, mkF, argsToLocals, Value.category]; done) | rfl
def Q2 (Z : State) (p0 : Int32) (h0 : Heap) (n0 : Nat) (v : Option Value) (h : Heap) (L : List Loc) : Prop := v = some (.int (F2 p0)) ∧ Fr n0 L ∧ h = h0
set_option maxRecDepth 65536 in
set_option maxHeartbeats 40000000 in
theorem rm2 (l : Launch) (Z : State) (a0 : Array Value) (hw : ∀ d ∈ tables_1, d.before a0 Z = true) (ws : List Jvm.Cond) (p0 : Int32) (h0 : Heap) (n0 : Nat) (Z0 : n0 ≤ h0.size) :
    MetFree l (⟨"com/example/tenon/tenon/ParserIsSpacePinLaw", "reference", "(I)Z"⟩ : MethodName) (head1 (Jvm.Cond.code (⟨"com/example/tenon/tenon/ParserIsSpacePinLaw", "reference", "(I)Z"⟩ : MethodName) method_2_code 1 (some .boolean) :: ws) ({ frames := 0, cells := 0, slots := 0, locals := 0 } : Room)) (fun a U => a = #[(.int p0)] ∧ Z.Warmed39 U.vm ∧ U.heap = h0) (fun _ _ _ _ _ => True) (fun _ U o U' => ∃ v L, o = .returned v ∧ Q2 Z p0 h0 n0 v U'.heap L ∧ FrameEnd U o U' L ({ frames := 0, cells := 0, slots := 0, locals := 0 } : Room).cells ({ frames := 0, cells := 0, slots := 0, locals := 0 } : Room).slots) := by
  refine MetFree.of_bodySF (plainFor_of_name pn1) hisR ?_
  intro p e s m args below meth c s₁ Bd hml0 hP hK
  obtain ⟨rfl, hZ, hh⟩ := hP
  have hx := Bd.exec
  have hby := Bd.bytes
  have hml : c.maxLocals = 1 := hml0
  have hown : s.vm.findClass "com/example/tenon/tenon/ParserIsSpacePinLaw" = some m.cls := findClass_of_methodNamed Bd.named
  have hnm := (name_of_methodNamed Bd.named Bd.method).1
  have X0 : Stand p l e ({ frames := 0, cells := 0, slots := 0, locals := 0 } : Room) s m #[(.int p0)] below meth c s₁ [] 0 0 := Stand.of_body Bd
  have e0 : s₁.heap = h0 := by rw [← hh, Bd.state]; rfl
  have N0 := Fr.nil n0
  have hlk : meth.locks = false := by first | exact BodyLoose.notSynchronized Bd | exact Body.notSynchronized Bd
  have pre0 : ∀ t, Steps p.tables e below (s₁.setTop (mkF m 0 #[.val (.int p0)] [])) t → Steps p.tables e below (s₁.setTop (entryFrame m #[(.int p0)] 1)) t := fun t k => castTop (ef2 m p0) k
  have pre1 : ∀ t, Steps p.tables e below (s₁.setTop (mkF m 3 #[.val (.int p0)] [(.int (32 : Int32)), (.int p0)])) t → Steps p.tables e below (s₁.setTop (entryFrame m #[(.int p0)] 1)) t := fun t k => pre0 t (by
    show Steps p.tables e below (s₁.setTop (mkF m 0 #[.val (.int p0)] [])) _
    refine XS.iloadN X0.here hx rfl (hb hby d2_0) rfl ?_
    show Steps p.tables e below (s₁.setTop (mkF m 1 #[.val (.int p0)] [(.int p0)])) _
    refine XS.bipush X0.here hx rfl (hb hby d2_1) ?_
    exact k)
  by_cases hc3_2 : p0 = (32 : Int32)
  · have pre3 : ∀ t, Steps p.tables e below (s₁.setTop (mkF m 7 #[.val (.int p0)] [(.int (1 : Int32))])) t → Steps p.tables e below (s₁.setTop (entryFrame m #[(.int p0)] 1)) t := fun t k => pre1 t (by
      show Steps p.tables e below (s₁.setTop (mkF m 3 #[.val (.int p0)] [(.int (32 : Int32)), (.int p0)])) _
      refine XS.icmpNo X0.here hx rfl (hb hby d2_3) rfl (teq hc3_2).2 ?_
      show Steps p.tables e below (s₁.setTop (mkF m 6 #[.val (.int p0)] [])) _
      refine XS.iconst X0.here hx rfl (hb hby d2_6) ?_
      exact k)
    obtain ⟨fs, hr, hrun, hended, hW, hsame⟩ := X0.leave (v := some (.int (1 : Int32))) (fun h => by rw [Bd.returns] at h; cases h) hlk
    have hF : F2 p0 = (1 : Int32) := by unfold F2; rw [if_pos hc3_2]
    exact ⟨_, _, pre3 _ (retN X0 hx (t := .boolean) Bd.returns (by simp) (hb hby d2_7) hr), hrun, hended, _, _, rfl, ⟨by rw [hF], N0, e0⟩, ⟨_, rfl⟩, hW, hsame.mono (by decide) (by decide)⟩
  have pre4 : ∀ t, Steps p.tables e below (s₁.setTop (mkF m 11 #[.val (.int p0)] [(.int (9 : Int32)), (.int p0)])) t → Steps p.tables e below (s₁.setTop (entryFrame m #[(.int p0)] 1)) t := fun t k => pre1 t (by
    show Steps p.tables e below (s₁.setTop (mkF m 3 #[.val (.int p0)] [(.int (32 : Int32)), (.int p0)])) _
    refine XS.icmpYes X0.here hx rfl (pc0 := 3) (pc' := 8) rfl (hb hby d2_3) rfl (feq hc3_2).2 (by decide) (by decide) ?_
    show Steps p.tables e below (s₁.setTop (mkF m 8 #[.val (.int p0)] [])) _
    refine XS.iloadN X0.here hx rfl (hb hby d2_8) rfl ?_
    show Steps p.tables e below (s₁.setTop (mkF m 9 #[.val (.int p0)] [(.int p0)])) _
    refine XS.bipush X0.here hx rfl (hb hby d2_9) ?_
    exact k)
  by_cases hc11_5 : p0 < (9 : Int32)
  · have pre6 : ∀ t, Steps p.tables e below (s₁.setTop (mkF m 37 #[.val (.int p0)] [(.int (0 : Int32))])) t → Steps p.tables e below (s₁.setTop (entryFrame m #[(.int p0)] 1)) t := fun t k => pre4 t (by
      show Steps p.tables e below (s₁.setTop (mkF m 11 #[.val (.int p0)] [(.int (9 : Int32)), (.int p0)])) _
      refine XS.icmpYes X0.here hx rfl (pc0 := 11) (pc' := 36) rfl (hb hby d2_11) rfl (tlt hc11_5).1 (by decide) (by decide) ?_
      show Steps p.tables e below (s₁.setTop (mkF m 36 #[.val (.int p0)] [])) _
      refine XS.iconst X0.here hx rfl (hb hby d2_36) ?_
      exact k)
    obtain ⟨fs, hr, hrun, hended, hW, hsame⟩ := X0.leave (v := some (.int (0 : Int32))) (fun h => by rw [Bd.returns] at h; cases h) hlk
    have hF : F2 p0 = (0 : Int32) := by unfold F2; rw [if_neg hc3_2, if_pos hc11_5]
    exact ⟨_, _, pre6 _ (retN X0 hx (t := .boolean) Bd.returns (by simp) (hb hby d2_37) hr), hrun, hended, _, _, rfl, ⟨by rw [hF], N0, e0⟩, ⟨_, rfl⟩, hW, hsame.mono (by decide) (by decide)⟩
  have pre7 : ∀ t, Steps p.tables e below (s₁.setTop (mkF m 17 #[.val (.int p0)] [(.int (13 : Int32)), (.int p0)])) t → Steps p.tables e below (s₁.setTop (entryFrame m #[(.int p0)] 1)) t := fun t k => pre4 t (by
    show Steps p.tables e below (s₁.setTop (mkF m 11 #[.val (.int p0)] [(.int (9 : Int32)), (.int p0)])) _
    refine XS.icmpNo X0.here hx rfl (hb hby d2_11) rfl (flt hc11_5).1 ?_
    show Steps p.tables e below (s₁.setTop (mkF m 14 #[.val (.int p0)] [])) _
    refine XS.iloadN X0.here hx rfl (hb hby d2_14) rfl ?_
    show Steps p.tables e below (s₁.setTop (mkF m 15 #[.val (.int p0)] [(.int p0)])) _
    refine XS.bipush X0.here hx rfl (hb hby d2_15) ?_
    exact k)
  by_cases hc17_8 : (13 : Int32) < p0
  · have pre9 : ∀ t, Steps p.tables e below (s₁.setTop (mkF m 37 #[.val (.int p0)] [(.int (0 : Int32))])) t → Steps p.tables e below (s₁.setTop (entryFrame m #[(.int p0)] 1)) t := fun t k => pre7 t (by
      show Steps p.tables e below (s₁.setTop (mkF m 17 #[.val (.int p0)] [(.int (13 : Int32)), (.int p0)])) _
      refine XS.icmpYes X0.here hx rfl (pc0 := 17) (pc' := 36) rfl (hb hby d2_17) rfl (tlt hc17_8).2.2.1 (by decide) (by decide) ?_
      show Steps p.tables e below (s₁.setTop (mkF m 36 #[.val (.int p0)] [])) _
      refine XS.iconst X0.here hx rfl (hb hby d2_36) ?_
      exact k)
    obtain ⟨fs, hr, hrun, hended, hW, hsame⟩ := X0.leave (v := some (.int (0 : Int32))) (fun h => by rw [Bd.returns] at h; cases h) hlk
    have hF : F2 p0 = (0 : Int32) := by unfold F2; rw [if_neg hc3_2, if_neg hc11_5, if_pos hc17_8]
    exact ⟨_, _, pre9 _ (retN X0 hx (t := .boolean) Bd.returns (by simp) (hb hby d2_37) hr), hrun, hended, _, _, rfl, ⟨by rw [hF], N0, e0⟩, ⟨_, rfl⟩, hW, hsame.mono (by decide) (by decide)⟩
  have pre10 : ∀ t, Steps p.tables e below (s₁.setTop (mkF m 23 #[.val (.int p0)] [(.int (11 : Int32)), (.int p0)])) t → Steps p.tables e below (s₁.setTop (entryFrame m #[(.int p0)] 1)) t := fun t k => pre7 t (by
    show Steps p.tables e below (s₁.setTop (mkF m 17 #[.val (.int p0)] [(.int (13 : Int32)), (.int p0)])) _
    refine XS.icmpNo X0.here hx rfl (hb hby d2_17) rfl (flt hc17_8).2.2.1 ?_
    show Steps p.tables e below (s₁.setTop (mkF m 20 #[.val (.int p0)] [])) _
    refine XS.iloadN X0.here hx rfl (hb hby d2_20) rfl ?_
    show Steps p.tables e below (s₁.setTop (mkF m 21 #[.val (.int p0)] [(.int p0)])) _
    refine XS.bipush X0.here hx rfl (hb hby d2_21) ?_
    exact k)
  by_cases hc23_11 : p0 = (11 : Int32)
  · have pre12 : ∀ t, Steps p.tables e below (s₁.setTop (mkF m 37 #[.val (.int p0)] [(.int (0 : Int32))])) t → Steps p.tables e below (s₁.setTop (entryFrame m #[(.int p0)] 1)) t := fun t k => pre10 t (by
      show Steps p.tables e below (s₁.setTop (mkF m 23 #[.val (.int p0)] [(.int (11 : Int32)), (.int p0)])) _
      refine XS.icmpYes X0.here hx rfl (pc0 := 23) (pc' := 36) rfl (hb hby d2_23) rfl (teq hc23_11).1 (by decide) (by decide) ?_
      show Steps p.tables e below (s₁.setTop (mkF m 36 #[.val (.int p0)] [])) _
      refine XS.iconst X0.here hx rfl (hb hby d2_36) ?_
      exact k)
    obtain ⟨fs, hr, hrun, hended, hW, hsame⟩ := X0.leave (v := some (.int (0 : Int32))) (fun h => by rw [Bd.returns] at h; cases h) hlk
    have hF : F2 p0 = (0 : Int32) := by unfold F2; rw [if_neg hc3_2, if_neg hc11_5, if_neg hc17_8, if_pos hc23_11]
    exact ⟨_, _, pre12 _ (retN X0 hx (t := .boolean) Bd.returns (by simp) (hb hby d2_37) hr), hrun, hended, _, _, rfl, ⟨by rw [hF], N0, e0⟩, ⟨_, rfl⟩, hW, hsame.mono (by decide) (by decide)⟩
  have pre13 : ∀ t, Steps p.tables e below (s₁.setTop (mkF m 29 #[.val (.int p0)] [(.int (12 : Int32)), (.int p0)])) t → Steps p.tables e below (s₁.setTop (entryFrame m #[(.int p0)] 1)) t := fun t k => pre10 t (by
    show Steps p.tables e below (s₁.setTop (mkF m 23 #[.val (.int p0)] [(.int (11 : Int32)), (.int p0)])) _
    refine XS.icmpNo X0.here hx rfl (hb hby d2_23) rfl (feq hc23_11).1 ?_
    show Steps p.tables e below (s₁.setTop (mkF m 26 #[.val (.int p0)] [])) _
    refine XS.iloadN X0.here hx rfl (hb hby d2_26) rfl ?_
    show Steps p.tables e below (s₁.setTop (mkF m 27 #[.val (.int p0)] [(.int p0)])) _
    refine XS.bipush X0.here hx rfl (hb hby d2_27) ?_
    exact k)
  by_cases hc29_14 : p0 = (12 : Int32)
  · have pre15 : ∀ t, Steps p.tables e below (s₁.setTop (mkF m 37 #[.val (.int p0)] [(.int (0 : Int32))])) t → Steps p.tables e below (s₁.setTop (entryFrame m #[(.int p0)] 1)) t := fun t k => pre13 t (by
      show Steps p.tables e below (s₁.setTop (mkF m 29 #[.val (.int p0)] [(.int (12 : Int32)), (.int p0)])) _
      refine XS.icmpYes X0.here hx rfl (pc0 := 29) (pc' := 36) rfl (hb hby d2_29) rfl (teq hc29_14).1 (by decide) (by decide) ?_
      show Steps p.tables e below (s₁.setTop (mkF m 36 #[.val (.int p0)] [])) _
      refine XS.iconst X0.here hx rfl (hb hby d2_36) ?_
      exact k)
    obtain ⟨fs, hr, hrun, hended, hW, hsame⟩ := X0.leave (v := some (.int (0 : Int32))) (fun h => by rw [Bd.returns] at h; cases h) hlk
    have hF : F2 p0 = (0 : Int32) := by unfold F2; rw [if_neg hc3_2, if_neg hc11_5, if_neg hc17_8, if_neg hc23_11, if_pos hc29_14]
    exact ⟨_, _, pre15 _ (retN X0 hx (t := .boolean) Bd.returns (by simp) (hb hby d2_37) hr), hrun, hended, _, _, rfl, ⟨by rw [hF], N0, e0⟩, ⟨_, rfl⟩, hW, hsame.mono (by decide) (by decide)⟩
  have pre16 : ∀ t, Steps p.tables e below (s₁.setTop (mkF m 37 #[.val (.int p0)] [(.int (1 : Int32))])) t → Steps p.tables e below (s₁.setTop (entryFrame m #[(.int p0)] 1)) t := fun t k => pre13 t (by
    show Steps p.tables e below (s₁.setTop (mkF m 29 #[.val (.int p0)] [(.int (12 : Int32)), (.int p0)])) _
    refine XS.icmpNo X0.here hx rfl (hb hby d2_29) rfl (feq hc29_14).1 ?_
    show Steps p.tables e below (s₁.setTop (mkF m 32 #[.val (.int p0)] [])) _
    refine XS.iconst X0.here hx rfl (hb hby d2_32) ?_
    show Steps p.tables e below (s₁.setTop (mkF m 33 #[.val (.int p0)] [(.int (1 : Int32))])) _
    refine XS.goto X0.here hx rfl (pc0 := 33) (pc' := 37) rfl (hb hby d2_33) (by decide) (by decide) ?_
    exact k)
  obtain ⟨fs, hr, hrun, hended, hW, hsame⟩ := X0.leave (v := some (.int (1 : Int32))) (fun h => by rw [Bd.returns] at h; cases h) hlk
  have hF : F2 p0 = (1 : Int32) := by unfold F2; rw [if_neg hc3_2, if_neg hc11_5, if_neg hc17_8, if_neg hc23_11, if_neg hc29_14]
  exact ⟨_, _, pre16 _ (retN X0 hx (t := .boolean) Bd.returns (by simp) (hb hby d2_37) hr), hrun, hended, _, _, rfl, ⟨by rw [hF], N0, e0⟩, ⟨_, rfl⟩, hW, hsame.mono (by decide) (by decide)⟩
def f0_m11 (p0 : Int32) (p1 : Int32) : Int32 := (if (p1 &&& (3 : Int32)) = (0 : Int32) then (32 : Int32) else (if (p1 &&& (3 : Int32)) = (1 : Int32) then (9 : Int32) else (if (p1 &&& (3 : Int32)) = (2 : Int32) then (13 : Int32) else (10 : Int32))))
def f0_m18 (p0 : Int32) (p1 : Int32) : Int32 := (if (F1 p0) = (F2 p0) then (1 : Int32) else (0 : Int32))
def f0_m25 (p0 : Int32) (p1 : Int32) : Int32 := (if (F1 ((f0_m11 p0 p1) + (65536 : Int32))) = (0 : Int32) then (1 : Int32) else (0 : Int32))
def f0_m32 (p0 : Int32) (p1 : Int32) : Int32 := (if (F1 ((f0_m11 p0 p1) - (1 : Int32))) = (F2 ((f0_m11 p0 p1) - (1 : Int32))) then (1 : Int32) else (0 : Int32))
def f0_m39 (p0 : Int32) (p1 : Int32) : Int32 := (if (F1 ((f0_m11 p0 p1) + (1 : Int32))) = (F2 ((f0_m11 p0 p1) + (1 : Int32))) then (1 : Int32) else (0 : Int32))
def F0 (p0 : Int32) (p1 : Int32) : Int32 := (if (f0_m18 p0 p1) = (0 : Int32) then (0 : Int32) else (if (F1 (f0_m11 p0 p1)) = (0 : Int32) then (0 : Int32) else (if (f0_m25 p0 p1) = (0 : Int32) then (0 : Int32) else (if (f0_m32 p0 p1) = (0 : Int32) then (0 : Int32) else (if (f0_m39 p0 p1) = (0 : Int32) then (0 : Int32) else (1 : Int32))))))
theorem ef0 (m : MethodId) (x0 : Int32) (x1 : Int32) : entryFrame m #[(.int x0), (.int x1)] maxLocals = mkF m 0 #[.val (.int x0), .val (.int x1), .unset, .unset, .unset, .unset, .unset, .unset, .unset] [] := by first | (simp [entryFrame, mkF, argsToLocals, Value.category, maxLocals]; done) | rfl
def Q0 (Z : State) (p0 : Int32) (p1 : Int32) (h0 : Heap) (n0 : Nat) (v : Option Value) (h : Heap) (L : List Loc) : Prop := v = some (.int (F0 p0 p1)) ∧ Fr n0 L ∧ h = h0
set_option maxRecDepth 65536 in
set_option maxHeartbeats 40000000 in
theorem rm0 (l : Launch) (Z : State) (a0 : Array Value) (hw : ∀ d ∈ tables_1, d.before a0 Z = true) (ws : List Jvm.Cond) (p0 : Int32) (p1 : Int32) (h0 : Heap) (n0 : Nat) (Z0 : n0 ≤ h0.size) :
    MetFree l x (head1 (Jvm.Cond.code x code maxLocals ret :: ws) room_1) (fun a U => a = #[(.int p0), (.int p1)] ∧ Z.Warmed39 U.vm ∧ U.heap = h0) (fun _ _ _ _ _ => True) (fun _ U o U' => ∃ v L, o = .returned v ∧ Q0 Z p0 p1 h0 n0 v U'.heap L ∧ FrameEnd U o U' L room_1.cells room_1.slots) := by
  refine MetFree.of_bodySF (plainFor_of_name pn1) hisR ?_
  intro p e s m args below meth c s₁ Bd hml0 hP hK
  obtain ⟨rfl, hZ, hh⟩ := hP
  have hx := Bd.exec
  have hby := Bd.bytes
  have hml : c.maxLocals = 9 := hml0
  have hown : s.vm.findClass "com/example/tenon/tenon/ParserIsSpacePinLaw" = some m.cls := findClass_of_methodNamed Bd.named
  have hnm := (name_of_methodNamed Bd.named Bd.method).1
  have X0 : Stand p l e room_1 s m #[(.int p0), (.int p1)] below meth c s₁ [] 0 0 := Stand.of_body Bd
  have e0 : s₁.heap = h0 := by rw [← hh, Bd.state]; rfl
  have N0 := Fr.nil n0
  have hlk : meth.locks = false := by first | exact BodyLoose.notSynchronized Bd | exact Body.notSynchronized Bd
  have pre0 : ∀ t, Steps p.tables e below (s₁.setTop (mkF m 0 #[.val (.int p0), .val (.int p1), .unset, .unset, .unset, .unset, .unset, .unset, .unset] [])) t → Steps p.tables e below (s₁.setTop (entryFrame m #[(.int p0), (.int p1)] maxLocals)) t := fun t k => castTop (ef0 m p0 p1) k
  have pre1 : ∀ t, Steps p.tables e below (s₁.setTop (mkF m 5 #[.val (.int p0), .val (.int p1), .val (.int (p1 &&& (3 : Int32))), .unset, .unset, .unset, .unset, .unset, .unset] [(.int (p1 &&& (3 : Int32)))])) t → Steps p.tables e below (s₁.setTop (entryFrame m #[(.int p0), (.int p1)] maxLocals)) t := fun t k => pre0 t (by
    show Steps p.tables e below (s₁.setTop (mkF m 0 #[.val (.int p0), .val (.int p1), .unset, .unset, .unset, .unset, .unset, .unset, .unset] [])) _
    refine XS.iloadN X0.here hx rfl (hb hby at_0) rfl ?_
    show Steps p.tables e below (s₁.setTop (mkF m 1 #[.val (.int p0), .val (.int p1), .unset, .unset, .unset, .unset, .unset, .unset, .unset] [(.int p1)])) _
    refine XS.iconst X0.here hx rfl (hb hby at_1) ?_
    show Steps p.tables e below (s₁.setTop (mkF m 2 #[.val (.int p0), .val (.int p1), .unset, .unset, .unset, .unset, .unset, .unset, .unset] [(.int (3 : Int32)), (.int p1)])) _
    refine XS.iand X0.here hx rfl (hb hby at_2) rfl ?_
    show Steps p.tables e below (s₁.setTop (mkF m 3 #[.val (.int p0), .val (.int p1), .unset, .unset, .unset, .unset, .unset, .unset, .unset] [(.int (p1 &&& (3 : Int32)))])) _
    refine XS.istoreN X0.here hx rfl (hb hby at_3) rfl (l' := #[.val (.int p0), .val (.int p1), .val (.int (p1 &&& (3 : Int32))), .unset, .unset, .unset, .unset, .unset, .unset]) rfl ?_
    show Steps p.tables e below (s₁.setTop (mkF m 4 #[.val (.int p0), .val (.int p1), .val (.int (p1 &&& (3 : Int32))), .unset, .unset, .unset, .unset, .unset, .unset] [])) _
    refine XS.iloadN X0.here hx rfl (hb hby at_4) rfl ?_
    exact k)
  obtain ⟨T2, L2, X2, e2, N2, pre2⟩ : ∃ (T' : State) (locs' : List Loc), Stand p l e room_1 s m #[(.int p0), (.int p1)] below meth c T' locs' 0 0 ∧ T'.heap = h0 ∧ Fr n0 locs' ∧ ∀ t, Steps p.tables e below (T'.setTop (mkF m 35 #[.val (.int p0), .val (.int p1), .val (.int (p1 &&& (3 : Int32))), .unset, .unset, .unset, .unset, .unset, .unset] [(.int (f0_m11 p0 p1))])) t → Steps p.tables e below (s₁.setTop (entryFrame m #[(.int p0), (.int p1)] maxLocals)) t := by
    by_cases hc5_2 : (p1 &&& (3 : Int32)) = (0 : Int32)
    · have pre3 : ∀ t, Steps p.tables e below (s₁.setTop (mkF m 35 #[.val (.int p0), .val (.int p1), .val (.int (p1 &&& (3 : Int32))), .unset, .unset, .unset, .unset, .unset, .unset] [(.int (32 : Int32))])) t → Steps p.tables e below (s₁.setTop (entryFrame m #[(.int p0), (.int p1)] maxLocals)) t := fun t k => pre1 t (by
        show Steps p.tables e below (s₁.setTop (mkF m 5 #[.val (.int p0), .val (.int p1), .val (.int (p1 &&& (3 : Int32))), .unset, .unset, .unset, .unset, .unset, .unset] [(.int (p1 &&& (3 : Int32)))])) _
        refine XS.ifNo X0.here hx rfl (hb hby at_5) rfl ((if0 _ _).trans (teq hc5_2).2) ?_
        show Steps p.tables e below (s₁.setTop (mkF m 8 #[.val (.int p0), .val (.int p1), .val (.int (p1 &&& (3 : Int32))), .unset, .unset, .unset, .unset, .unset, .unset] [])) _
        refine XS.bipush X0.here hx rfl (hb hby at_8) ?_
        show Steps p.tables e below (s₁.setTop (mkF m 10 #[.val (.int p0), .val (.int p1), .val (.int (p1 &&& (3 : Int32))), .unset, .unset, .unset, .unset, .unset, .unset] [(.int (32 : Int32))])) _
        refine XS.goto X0.here hx rfl (pc0 := 10) (pc' := 35) rfl (hb hby at_10) (by decide) (by decide) ?_
        exact k)
      have q_f0_m11 : f0_m11 p0 p1 = (32 : Int32) := by unfold f0_m11; rw [if_pos hc5_2]
      rw [q_f0_m11]
      exact ⟨s₁, _, X0, e0, N0, pre3⟩
    have pre4 : ∀ t, Steps p.tables e below (s₁.setTop (mkF m 15 #[.val (.int p0), .val (.int p1), .val (.int (p1 &&& (3 : Int32))), .unset, .unset, .unset, .unset, .unset, .unset] [(.int (1 : Int32)), (.int (p1 &&& (3 : Int32)))])) t → Steps p.tables e below (s₁.setTop (entryFrame m #[(.int p0), (.int p1)] maxLocals)) t := fun t k => pre1 t (by
      show Steps p.tables e below (s₁.setTop (mkF m 5 #[.val (.int p0), .val (.int p1), .val (.int (p1 &&& (3 : Int32))), .unset, .unset, .unset, .unset, .unset, .unset] [(.int (p1 &&& (3 : Int32)))])) _
      refine XS.ifYes X0.here hx rfl (pc0 := 5) (pc' := 13) rfl (hb hby at_5) rfl ((if0 _ _).trans (feq hc5_2).2) (by decide) (by decide) ?_
      show Steps p.tables e below (s₁.setTop (mkF m 13 #[.val (.int p0), .val (.int p1), .val (.int (p1 &&& (3 : Int32))), .unset, .unset, .unset, .unset, .unset, .unset] [])) _
      refine XS.iloadN X0.here hx rfl (hb hby at_13) rfl ?_
      show Steps p.tables e below (s₁.setTop (mkF m 14 #[.val (.int p0), .val (.int p1), .val (.int (p1 &&& (3 : Int32))), .unset, .unset, .unset, .unset, .unset, .unset] [(.int (p1 &&& (3 : Int32)))])) _
      refine XS.iconst X0.here hx rfl (hb hby at_14) ?_
      exact k)
    by_cases hc15_5 : (p1 &&& (3 : Int32)) = (1 : Int32)
    · have pre6 : ∀ t, Steps p.tables e below (s₁.setTop (mkF m 35 #[.val (.int p0), .val (.int p1), .val (.int (p1 &&& (3 : Int32))), .unset, .unset, .unset, .unset, .unset, .unset] [(.int (9 : Int32))])) t → Steps p.tables e below (s₁.setTop (entryFrame m #[(.int p0), (.int p1)] maxLocals)) t := fun t k => pre4 t (by
        show Steps p.tables e below (s₁.setTop (mkF m 15 #[.val (.int p0), .val (.int p1), .val (.int (p1 &&& (3 : Int32))), .unset, .unset, .unset, .unset, .unset, .unset] [(.int (1 : Int32)), (.int (p1 &&& (3 : Int32)))])) _
        refine XS.icmpNo X0.here hx rfl (hb hby at_15) rfl (teq hc15_5).2 ?_
        show Steps p.tables e below (s₁.setTop (mkF m 18 #[.val (.int p0), .val (.int p1), .val (.int (p1 &&& (3 : Int32))), .unset, .unset, .unset, .unset, .unset, .unset] [])) _
        refine XS.bipush X0.here hx rfl (hb hby at_18) ?_
        show Steps p.tables e below (s₁.setTop (mkF m 20 #[.val (.int p0), .val (.int p1), .val (.int (p1 &&& (3 : Int32))), .unset, .unset, .unset, .unset, .unset, .unset] [(.int (9 : Int32))])) _
        refine XS.goto X0.here hx rfl (pc0 := 20) (pc' := 35) rfl (hb hby at_20) (by decide) (by decide) ?_
        exact k)
      have q_f0_m11 : f0_m11 p0 p1 = (9 : Int32) := by unfold f0_m11; rw [if_neg hc5_2, if_pos hc15_5]
      rw [q_f0_m11]
      exact ⟨s₁, _, X0, e0, N0, pre6⟩
    have pre7 : ∀ t, Steps p.tables e below (s₁.setTop (mkF m 25 #[.val (.int p0), .val (.int p1), .val (.int (p1 &&& (3 : Int32))), .unset, .unset, .unset, .unset, .unset, .unset] [(.int (2 : Int32)), (.int (p1 &&& (3 : Int32)))])) t → Steps p.tables e below (s₁.setTop (entryFrame m #[(.int p0), (.int p1)] maxLocals)) t := fun t k => pre4 t (by
      show Steps p.tables e below (s₁.setTop (mkF m 15 #[.val (.int p0), .val (.int p1), .val (.int (p1 &&& (3 : Int32))), .unset, .unset, .unset, .unset, .unset, .unset] [(.int (1 : Int32)), (.int (p1 &&& (3 : Int32)))])) _
      refine XS.icmpYes X0.here hx rfl (pc0 := 15) (pc' := 23) rfl (hb hby at_15) rfl (feq hc15_5).2 (by decide) (by decide) ?_
      show Steps p.tables e below (s₁.setTop (mkF m 23 #[.val (.int p0), .val (.int p1), .val (.int (p1 &&& (3 : Int32))), .unset, .unset, .unset, .unset, .unset, .unset] [])) _
      refine XS.iloadN X0.here hx rfl (hb hby at_23) rfl ?_
      show Steps p.tables e below (s₁.setTop (mkF m 24 #[.val (.int p0), .val (.int p1), .val (.int (p1 &&& (3 : Int32))), .unset, .unset, .unset, .unset, .unset, .unset] [(.int (p1 &&& (3 : Int32)))])) _
      refine XS.iconst X0.here hx rfl (hb hby at_24) ?_
      exact k)
    by_cases hc25_8 : (p1 &&& (3 : Int32)) = (2 : Int32)
    · have pre9 : ∀ t, Steps p.tables e below (s₁.setTop (mkF m 35 #[.val (.int p0), .val (.int p1), .val (.int (p1 &&& (3 : Int32))), .unset, .unset, .unset, .unset, .unset, .unset] [(.int (13 : Int32))])) t → Steps p.tables e below (s₁.setTop (entryFrame m #[(.int p0), (.int p1)] maxLocals)) t := fun t k => pre7 t (by
        show Steps p.tables e below (s₁.setTop (mkF m 25 #[.val (.int p0), .val (.int p1), .val (.int (p1 &&& (3 : Int32))), .unset, .unset, .unset, .unset, .unset, .unset] [(.int (2 : Int32)), (.int (p1 &&& (3 : Int32)))])) _
        refine XS.icmpNo X0.here hx rfl (hb hby at_25) rfl (teq hc25_8).2 ?_
        show Steps p.tables e below (s₁.setTop (mkF m 28 #[.val (.int p0), .val (.int p1), .val (.int (p1 &&& (3 : Int32))), .unset, .unset, .unset, .unset, .unset, .unset] [])) _
        refine XS.bipush X0.here hx rfl (hb hby at_28) ?_
        show Steps p.tables e below (s₁.setTop (mkF m 30 #[.val (.int p0), .val (.int p1), .val (.int (p1 &&& (3 : Int32))), .unset, .unset, .unset, .unset, .unset, .unset] [(.int (13 : Int32))])) _
        refine XS.goto X0.here hx rfl (pc0 := 30) (pc' := 35) rfl (hb hby at_30) (by decide) (by decide) ?_
        exact k)
      have q_f0_m11 : f0_m11 p0 p1 = (13 : Int32) := by unfold f0_m11; rw [if_neg hc5_2, if_neg hc15_5, if_pos hc25_8]
      rw [q_f0_m11]
      exact ⟨s₁, _, X0, e0, N0, pre9⟩
    have pre10 : ∀ t, Steps p.tables e below (s₁.setTop (mkF m 35 #[.val (.int p0), .val (.int p1), .val (.int (p1 &&& (3 : Int32))), .unset, .unset, .unset, .unset, .unset, .unset] [(.int (10 : Int32))])) t → Steps p.tables e below (s₁.setTop (entryFrame m #[(.int p0), (.int p1)] maxLocals)) t := fun t k => pre7 t (by
      show Steps p.tables e below (s₁.setTop (mkF m 25 #[.val (.int p0), .val (.int p1), .val (.int (p1 &&& (3 : Int32))), .unset, .unset, .unset, .unset, .unset, .unset] [(.int (2 : Int32)), (.int (p1 &&& (3 : Int32)))])) _
      refine XS.icmpYes X0.here hx rfl (pc0 := 25) (pc' := 33) rfl (hb hby at_25) rfl (feq hc25_8).2 (by decide) (by decide) ?_
      show Steps p.tables e below (s₁.setTop (mkF m 33 #[.val (.int p0), .val (.int p1), .val (.int (p1 &&& (3 : Int32))), .unset, .unset, .unset, .unset, .unset, .unset] [])) _
      refine XS.bipush X0.here hx rfl (hb hby at_33) ?_
      exact k)
    have q_f0_m11 : f0_m11 p0 p1 = (10 : Int32) := by unfold f0_m11; rw [if_neg hc5_2, if_neg hc15_5, if_neg hc25_8]
    rw [q_f0_m11]
    exact ⟨s₁, _, X0, e0, N0, pre10⟩
  obtain ⟨_, _, ⟨T12, L12, k12, n12⟩, -, X12, ⟨Lc12, hQ12, l12, y12, z12⟩, st12⟩ := Jvm.LawKit.callS X2 hx (y := (⟨"com/example/tenon/tenon/Parser", "isSpace", "(I)Z"⟩ : MethodName)) hown (mvT hZ (hw _ (List.mem_of_getElem? (i := 0) rfl))) (mvT hZ (hw _ (List.mem_of_getElem? (i := 1) rfl))) (mvT hZ (hw _ (List.mem_of_getElem? (i := 2) rfl))) (mvT hZ (hw _ (List.mem_of_getElem? (i := 3) rfl))) (by decide) (backOf (W := 0) (rm1 l Z a0 hw [] p0 h0 n0 Z0) hZ (hw _ (List.mem_of_getElem? (i := 3) rfl)) (hw _ (List.mem_of_getElem? (i := 2) rfl)) (by decide) (by decide)) (g := (mkF m 37 #[.val (.int p0), .val (.int p1), .val (.int (p1 &&& (3 : Int32))), .val (.int (f0_m11 p0 p1)), .unset, .unset, .unset, .unset, .unset] [(.int p0)])) rfl (by rw [hml]; rfl) (argsL := [(.int p0)]) (rest := []) (lenOf pd0 rfl) rfl (by show 2 * 0 + _ ≤ _; exact Nat.le_of_eq rfl) (hb hby at_37) (fun _ _ => ⟨rfl, e2, (by decide : 0 + 0 ≤ _), (by decide : 0 + 0 ≤ _)⟩)
  dsimp only [Pt.U, Pt.locs, Pt.cells, Pt.slots] at X12 l12 y12 z12 st12 hQ12
  subst l12 y12 z12
  obtain ⟨rfl, N12q, e12⟩ := hQ12
  have N12 := Fr.app N2 N12q
  obtain ⟨_, _, ⟨T13, L13, k13, n13⟩, -, X13, ⟨Lc13, hQ13, l13, y13, z13⟩, st13⟩ := Jvm.LawKit.callS X12 hx (y := (⟨"com/example/tenon/tenon/ParserIsSpacePinLaw", "reference", "(I)Z"⟩ : MethodName)) hown (mvT hZ (hw _ (List.mem_of_getElem? (i := 4) rfl))) (mvT hZ (hw _ (List.mem_of_getElem? (i := 5) rfl))) (mvT hZ (hw _ (List.mem_of_getElem? (i := 6) rfl))) (mvT hZ (hw _ (List.mem_of_getElem? (i := 7) rfl))) (by decide) (backOf (W := 1) (rm2 l Z a0 hw [] p0 h0 n0 Z0) hZ (hw _ (List.mem_of_getElem? (i := 7) rfl)) (hw _ (List.mem_of_getElem? (i := 6) rfl)) (by decide) (by decide)) (g := (mkF m 41 #[.val (.int p0), .val (.int p1), .val (.int (p1 &&& (3 : Int32))), .val (.int (f0_m11 p0 p1)), .unset, .unset, .unset, .unset, .unset] [(.int p0), (.int (F1 p0))])) rfl (by rw [hml]; rfl) (argsL := [(.int p0)]) (rest := [(.int (F1 p0))]) (lenOf pd0 rfl) rfl (by show 2 * 0 + _ ≤ _; exact Nat.le_of_eq rfl) (hb hby at_41) (fun _ _ => ⟨rfl, e12, (by decide : 0 + 0 ≤ _), (by decide : 0 + 0 ≤ _)⟩)
  dsimp only [Pt.U, Pt.locs, Pt.cells, Pt.slots] at X13 l13 y13 z13 st13 hQ13
  subst l13 y13 z13
  obtain ⟨rfl, N13q, e13⟩ := hQ13
  have N13 := Fr.app N12 N13q
  have pre14 : ∀ t, Steps p.tables e below (T13.setTop (mkF m 44 #[.val (.int p0), .val (.int p1), .val (.int (p1 &&& (3 : Int32))), .val (.int (f0_m11 p0 p1)), .unset, .unset, .unset, .unset, .unset] [(.int (F2 p0)), (.int (F1 p0))])) t → Steps p.tables e below (s₁.setTop (entryFrame m #[(.int p0), (.int p1)] maxLocals)) t := fun t k => pre2 t (by
    show Steps p.tables e below (T2.setTop (mkF m 35 #[.val (.int p0), .val (.int p1), .val (.int (p1 &&& (3 : Int32))), .unset, .unset, .unset, .unset, .unset, .unset] [(.int (f0_m11 p0 p1))])) _
    refine XS.istoreN X2.here hx rfl (hb hby at_35) rfl (l' := #[.val (.int p0), .val (.int p1), .val (.int (p1 &&& (3 : Int32))), .val (.int (f0_m11 p0 p1)), .unset, .unset, .unset, .unset, .unset]) rfl ?_
    show Steps p.tables e below (T2.setTop (mkF m 36 #[.val (.int p0), .val (.int p1), .val (.int (p1 &&& (3 : Int32))), .val (.int (f0_m11 p0 p1)), .unset, .unset, .unset, .unset, .unset] [])) _
    refine XS.iloadN X2.here hx rfl (hb hby at_36) rfl ?_
    show Steps p.tables e below (T2.setTop (mkF m 37 #[.val (.int p0), .val (.int p1), .val (.int (p1 &&& (3 : Int32))), .val (.int (f0_m11 p0 p1)), .unset, .unset, .unset, .unset, .unset] [(.int p0)])) _
    refine st12 _ ?_
    show Steps p.tables e below (T12.setTop (mkF m 40 #[.val (.int p0), .val (.int p1), .val (.int (p1 &&& (3 : Int32))), .val (.int (f0_m11 p0 p1)), .unset, .unset, .unset, .unset, .unset] [(.int (F1 p0))])) _
    refine XS.iloadN X12.here hx rfl (hb hby at_40) rfl ?_
    show Steps p.tables e below (T12.setTop (mkF m 41 #[.val (.int p0), .val (.int p1), .val (.int (p1 &&& (3 : Int32))), .val (.int (f0_m11 p0 p1)), .unset, .unset, .unset, .unset, .unset] [(.int p0), (.int (F1 p0))])) _
    refine st13 _ ?_
    exact k)
  obtain ⟨T15, L15, X15, e15, N15, pre15⟩ : ∃ (T' : State) (locs' : List Loc), Stand p l e room_1 s m #[(.int p0), (.int p1)] below meth c T' locs' 0 0 ∧ T'.heap = h0 ∧ Fr n0 locs' ∧ ∀ t, Steps p.tables e below (T'.setTop (mkF m 52 #[.val (.int p0), .val (.int p1), .val (.int (p1 &&& (3 : Int32))), .val (.int (f0_m11 p0 p1)), .unset, .unset, .unset, .unset, .unset] [(.int (f0_m18 p0 p1))])) t → Steps p.tables e below (s₁.setTop (entryFrame m #[(.int p0), (.int p1)] maxLocals)) t := by
    by_cases hc44_15 : (F1 p0) = (F2 p0)
    · have pre16 : ∀ t, Steps p.tables e below (T13.setTop (mkF m 52 #[.val (.int p0), .val (.int p1), .val (.int (p1 &&& (3 : Int32))), .val (.int (f0_m11 p0 p1)), .unset, .unset, .unset, .unset, .unset] [(.int (1 : Int32))])) t → Steps p.tables e below (s₁.setTop (entryFrame m #[(.int p0), (.int p1)] maxLocals)) t := fun t k => pre14 t (by
        show Steps p.tables e below (T13.setTop (mkF m 44 #[.val (.int p0), .val (.int p1), .val (.int (p1 &&& (3 : Int32))), .val (.int (f0_m11 p0 p1)), .unset, .unset, .unset, .unset, .unset] [(.int (F2 p0)), (.int (F1 p0))])) _
        refine XS.icmpNo X13.here hx rfl (hb hby at_44) rfl (teq hc44_15).2 ?_
        show Steps p.tables e below (T13.setTop (mkF m 47 #[.val (.int p0), .val (.int p1), .val (.int (p1 &&& (3 : Int32))), .val (.int (f0_m11 p0 p1)), .unset, .unset, .unset, .unset, .unset] [])) _
        refine XS.iconst X13.here hx rfl (hb hby at_47) ?_
        show Steps p.tables e below (T13.setTop (mkF m 48 #[.val (.int p0), .val (.int p1), .val (.int (p1 &&& (3 : Int32))), .val (.int (f0_m11 p0 p1)), .unset, .unset, .unset, .unset, .unset] [(.int (1 : Int32))])) _
        refine XS.goto X13.here hx rfl (pc0 := 48) (pc' := 52) rfl (hb hby at_48) (by decide) (by decide) ?_
        exact k)
      have q_f0_m18 : f0_m18 p0 p1 = (1 : Int32) := by unfold f0_m18; rw [if_pos hc44_15]
      rw [q_f0_m18]
      exact ⟨T13, _, X13, e13, N13, pre16⟩
    have pre17 : ∀ t, Steps p.tables e below (T13.setTop (mkF m 52 #[.val (.int p0), .val (.int p1), .val (.int (p1 &&& (3 : Int32))), .val (.int (f0_m11 p0 p1)), .unset, .unset, .unset, .unset, .unset] [(.int (0 : Int32))])) t → Steps p.tables e below (s₁.setTop (entryFrame m #[(.int p0), (.int p1)] maxLocals)) t := fun t k => pre14 t (by
      show Steps p.tables e below (T13.setTop (mkF m 44 #[.val (.int p0), .val (.int p1), .val (.int (p1 &&& (3 : Int32))), .val (.int (f0_m11 p0 p1)), .unset, .unset, .unset, .unset, .unset] [(.int (F2 p0)), (.int (F1 p0))])) _
      refine XS.icmpYes X13.here hx rfl (pc0 := 44) (pc' := 51) rfl (hb hby at_44) rfl (feq hc44_15).2 (by decide) (by decide) ?_
      show Steps p.tables e below (T13.setTop (mkF m 51 #[.val (.int p0), .val (.int p1), .val (.int (p1 &&& (3 : Int32))), .val (.int (f0_m11 p0 p1)), .unset, .unset, .unset, .unset, .unset] [])) _
      refine XS.iconst X13.here hx rfl (hb hby at_51) ?_
      exact k)
    have q_f0_m18 : f0_m18 p0 p1 = (0 : Int32) := by unfold f0_m18; rw [if_neg hc44_15]
    rw [q_f0_m18]
    exact ⟨T13, _, X13, e13, N13, pre17⟩
  obtain ⟨_, _, ⟨T19, L19, k19, n19⟩, -, X19, ⟨Lc19, hQ19, l19, y19, z19⟩, st19⟩ := Jvm.LawKit.callS X15 hx (y := (⟨"com/example/tenon/tenon/Parser", "isSpace", "(I)Z"⟩ : MethodName)) hown (mvT hZ (hw _ (List.mem_of_getElem? (i := 0) rfl))) (mvT hZ (hw _ (List.mem_of_getElem? (i := 1) rfl))) (mvT hZ (hw _ (List.mem_of_getElem? (i := 2) rfl))) (mvT hZ (hw _ (List.mem_of_getElem? (i := 3) rfl))) (by decide) (backOf (W := 0) (rm1 l Z a0 hw [] (f0_m11 p0 p1) h0 n0 Z0) hZ (hw _ (List.mem_of_getElem? (i := 3) rfl)) (hw _ (List.mem_of_getElem? (i := 2) rfl)) (by decide) (by decide)) (g := (mkF m 55 #[.val (.int p0), .val (.int p1), .val (.int (p1 &&& (3 : Int32))), .val (.int (f0_m11 p0 p1)), .val (.int (f0_m18 p0 p1)), .unset, .unset, .unset, .unset] [(.int (f0_m11 p0 p1))])) rfl (by rw [hml]; rfl) (argsL := [(.int (f0_m11 p0 p1))]) (rest := []) (lenOf pd0 rfl) rfl (by show 2 * 0 + _ ≤ _; exact Nat.le_of_eq rfl) (hb hby at_55) (fun _ _ => ⟨rfl, e15, (by decide : 0 + 0 ≤ _), (by decide : 0 + 0 ≤ _)⟩)
  dsimp only [Pt.U, Pt.locs, Pt.cells, Pt.slots] at X19 l19 y19 z19 st19 hQ19
  subst l19 y19 z19
  obtain ⟨rfl, N19q, e19⟩ := hQ19
  have N19 := Fr.app N15 N19q
  obtain ⟨_, _, ⟨T20, L20, k20, n20⟩, -, X20, ⟨Lc20, hQ20, l20, y20, z20⟩, st20⟩ := Jvm.LawKit.callS X19 hx (y := (⟨"com/example/tenon/tenon/Parser", "isSpace", "(I)Z"⟩ : MethodName)) hown (mvT hZ (hw _ (List.mem_of_getElem? (i := 0) rfl))) (mvT hZ (hw _ (List.mem_of_getElem? (i := 1) rfl))) (mvT hZ (hw _ (List.mem_of_getElem? (i := 2) rfl))) (mvT hZ (hw _ (List.mem_of_getElem? (i := 3) rfl))) (by decide) (backOf (W := 0) (rm1 l Z a0 hw [] ((f0_m11 p0 p1) + (65536 : Int32)) h0 n0 Z0) hZ (hw _ (List.mem_of_getElem? (i := 3) rfl)) (hw _ (List.mem_of_getElem? (i := 2) rfl)) (by decide) (by decide)) (g := (mkF m 64 #[.val (.int p0), .val (.int p1), .val (.int (p1 &&& (3 : Int32))), .val (.int (f0_m11 p0 p1)), .val (.int (f0_m18 p0 p1)), .val (.int (F1 (f0_m11 p0 p1))), .unset, .unset, .unset] [(.int ((f0_m11 p0 p1) + (65536 : Int32)))])) rfl (by rw [hml]; rfl) (argsL := [(.int ((f0_m11 p0 p1) + (65536 : Int32)))]) (rest := []) (lenOf pd0 rfl) rfl (by show 2 * 0 + _ ≤ _; exact Nat.le_of_eq rfl) (hb hby at_64) (fun _ _ => ⟨rfl, e19, (by decide : 0 + 0 ≤ _), (by decide : 0 + 0 ≤ _)⟩)
  dsimp only [Pt.U, Pt.locs, Pt.cells, Pt.slots] at X20 l20 y20 z20 st20 hQ20
  subst l20 y20 z20
  obtain ⟨rfl, N20q, e20⟩ := hQ20
  have N20 := Fr.app N19 N20q
  have pre21 : ∀ t, Steps p.tables e below (T20.setTop (mkF m 67 #[.val (.int p0), .val (.int p1), .val (.int (p1 &&& (3 : Int32))), .val (.int (f0_m11 p0 p1)), .val (.int (f0_m18 p0 p1)), .val (.int (F1 (f0_m11 p0 p1))), .unset, .unset, .unset] [(.int (F1 ((f0_m11 p0 p1) + (65536 : Int32))))])) t → Steps p.tables e below (s₁.setTop (entryFrame m #[(.int p0), (.int p1)] maxLocals)) t := fun t k => pre15 t (by
    show Steps p.tables e below (T15.setTop (mkF m 52 #[.val (.int p0), .val (.int p1), .val (.int (p1 &&& (3 : Int32))), .val (.int (f0_m11 p0 p1)), .unset, .unset, .unset, .unset, .unset] [(.int (f0_m18 p0 p1))])) _
    refine XS.istore X15.here hx rfl (hb hby at_52) rfl (l' := #[.val (.int p0), .val (.int p1), .val (.int (p1 &&& (3 : Int32))), .val (.int (f0_m11 p0 p1)), .val (.int (f0_m18 p0 p1)), .unset, .unset, .unset, .unset]) rfl ?_
    show Steps p.tables e below (T15.setTop (mkF m 54 #[.val (.int p0), .val (.int p1), .val (.int (p1 &&& (3 : Int32))), .val (.int (f0_m11 p0 p1)), .val (.int (f0_m18 p0 p1)), .unset, .unset, .unset, .unset] [])) _
    refine XS.iloadN X15.here hx rfl (hb hby at_54) rfl ?_
    show Steps p.tables e below (T15.setTop (mkF m 55 #[.val (.int p0), .val (.int p1), .val (.int (p1 &&& (3 : Int32))), .val (.int (f0_m11 p0 p1)), .val (.int (f0_m18 p0 p1)), .unset, .unset, .unset, .unset] [(.int (f0_m11 p0 p1))])) _
    refine st19 _ ?_
    show Steps p.tables e below (T19.setTop (mkF m 58 #[.val (.int p0), .val (.int p1), .val (.int (p1 &&& (3 : Int32))), .val (.int (f0_m11 p0 p1)), .val (.int (f0_m18 p0 p1)), .unset, .unset, .unset, .unset] [(.int (F1 (f0_m11 p0 p1)))])) _
    refine XS.istore X19.here hx rfl (hb hby at_58) rfl (l' := #[.val (.int p0), .val (.int p1), .val (.int (p1 &&& (3 : Int32))), .val (.int (f0_m11 p0 p1)), .val (.int (f0_m18 p0 p1)), .val (.int (F1 (f0_m11 p0 p1))), .unset, .unset, .unset]) rfl ?_
    show Steps p.tables e below (T19.setTop (mkF m 60 #[.val (.int p0), .val (.int p1), .val (.int (p1 &&& (3 : Int32))), .val (.int (f0_m11 p0 p1)), .val (.int (f0_m18 p0 p1)), .val (.int (F1 (f0_m11 p0 p1))), .unset, .unset, .unset] [])) _
    refine XS.iloadN X19.here hx rfl (hb hby at_60) rfl ?_
    show Steps p.tables e below (T19.setTop (mkF m 61 #[.val (.int p0), .val (.int p1), .val (.int (p1 &&& (3 : Int32))), .val (.int (f0_m11 p0 p1)), .val (.int (f0_m18 p0 p1)), .val (.int (F1 (f0_m11 p0 p1))), .unset, .unset, .unset] [(.int (f0_m11 p0 p1))])) _
    refine X19.ldcInt hx hown (mvT hZ (hw _ (List.mem_of_getElem? (i := 8) rfl))) (g := (mkF m 61 #[.val (.int p0), .val (.int p1), .val (.int (p1 &&& (3 : Int32))), .val (.int (f0_m11 p0 p1)), .val (.int (f0_m18 p0 p1)), .val (.int (F1 (f0_m11 p0 p1))), .unset, .unset, .unset] [(.int (f0_m11 p0 p1))])) rfl (hb hby at_61) _ ?_
    show Steps p.tables e below (T19.setTop (mkF m 63 #[.val (.int p0), .val (.int p1), .val (.int (p1 &&& (3 : Int32))), .val (.int (f0_m11 p0 p1)), .val (.int (f0_m18 p0 p1)), .val (.int (F1 (f0_m11 p0 p1))), .unset, .unset, .unset] [(.int (65536 : Int32)), (.int (f0_m11 p0 p1))])) _
    refine XS.iadd X19.here hx rfl (hb hby at_63) rfl ?_
    show Steps p.tables e below (T19.setTop (mkF m 64 #[.val (.int p0), .val (.int p1), .val (.int (p1 &&& (3 : Int32))), .val (.int (f0_m11 p0 p1)), .val (.int (f0_m18 p0 p1)), .val (.int (F1 (f0_m11 p0 p1))), .unset, .unset, .unset] [(.int ((f0_m11 p0 p1) + (65536 : Int32)))])) _
    refine st20 _ ?_
    exact k)
  obtain ⟨T22, L22, X22, e22, N22, pre22⟩ : ∃ (T' : State) (locs' : List Loc), Stand p l e room_1 s m #[(.int p0), (.int p1)] below meth c T' locs' 0 0 ∧ T'.heap = h0 ∧ Fr n0 locs' ∧ ∀ t, Steps p.tables e below (T'.setTop (mkF m 75 #[.val (.int p0), .val (.int p1), .val (.int (p1 &&& (3 : Int32))), .val (.int (f0_m11 p0 p1)), .val (.int (f0_m18 p0 p1)), .val (.int (F1 (f0_m11 p0 p1))), .unset, .unset, .unset] [(.int (f0_m25 p0 p1))])) t → Steps p.tables e below (s₁.setTop (entryFrame m #[(.int p0), (.int p1)] maxLocals)) t := by
    by_cases hc67_22 : (F1 ((f0_m11 p0 p1) + (65536 : Int32))) = (0 : Int32)
    · have pre23 : ∀ t, Steps p.tables e below (T20.setTop (mkF m 75 #[.val (.int p0), .val (.int p1), .val (.int (p1 &&& (3 : Int32))), .val (.int (f0_m11 p0 p1)), .val (.int (f0_m18 p0 p1)), .val (.int (F1 (f0_m11 p0 p1))), .unset, .unset, .unset] [(.int (1 : Int32))])) t → Steps p.tables e below (s₁.setTop (entryFrame m #[(.int p0), (.int p1)] maxLocals)) t := fun t k => pre21 t (by
        show Steps p.tables e below (T20.setTop (mkF m 67 #[.val (.int p0), .val (.int p1), .val (.int (p1 &&& (3 : Int32))), .val (.int (f0_m11 p0 p1)), .val (.int (f0_m18 p0 p1)), .val (.int (F1 (f0_m11 p0 p1))), .unset, .unset, .unset] [(.int (F1 ((f0_m11 p0 p1) + (65536 : Int32))))])) _
        refine XS.ifNo X20.here hx rfl (hb hby at_67) rfl ((if0 _ _).trans (teq hc67_22).2) ?_
        show Steps p.tables e below (T20.setTop (mkF m 70 #[.val (.int p0), .val (.int p1), .val (.int (p1 &&& (3 : Int32))), .val (.int (f0_m11 p0 p1)), .val (.int (f0_m18 p0 p1)), .val (.int (F1 (f0_m11 p0 p1))), .unset, .unset, .unset] [])) _
        refine XS.iconst X20.here hx rfl (hb hby at_70) ?_
        show Steps p.tables e below (T20.setTop (mkF m 71 #[.val (.int p0), .val (.int p1), .val (.int (p1 &&& (3 : Int32))), .val (.int (f0_m11 p0 p1)), .val (.int (f0_m18 p0 p1)), .val (.int (F1 (f0_m11 p0 p1))), .unset, .unset, .unset] [(.int (1 : Int32))])) _
        refine XS.goto X20.here hx rfl (pc0 := 71) (pc' := 75) rfl (hb hby at_71) (by decide) (by decide) ?_
        exact k)
      have q_f0_m25 : f0_m25 p0 p1 = (1 : Int32) := by unfold f0_m25; rw [if_pos hc67_22]
      rw [q_f0_m25]
      exact ⟨T20, _, X20, e20, N20, pre23⟩
    have pre24 : ∀ t, Steps p.tables e below (T20.setTop (mkF m 75 #[.val (.int p0), .val (.int p1), .val (.int (p1 &&& (3 : Int32))), .val (.int (f0_m11 p0 p1)), .val (.int (f0_m18 p0 p1)), .val (.int (F1 (f0_m11 p0 p1))), .unset, .unset, .unset] [(.int (0 : Int32))])) t → Steps p.tables e below (s₁.setTop (entryFrame m #[(.int p0), (.int p1)] maxLocals)) t := fun t k => pre21 t (by
      show Steps p.tables e below (T20.setTop (mkF m 67 #[.val (.int p0), .val (.int p1), .val (.int (p1 &&& (3 : Int32))), .val (.int (f0_m11 p0 p1)), .val (.int (f0_m18 p0 p1)), .val (.int (F1 (f0_m11 p0 p1))), .unset, .unset, .unset] [(.int (F1 ((f0_m11 p0 p1) + (65536 : Int32))))])) _
      refine XS.ifYes X20.here hx rfl (pc0 := 67) (pc' := 74) rfl (hb hby at_67) rfl ((if0 _ _).trans (feq hc67_22).2) (by decide) (by decide) ?_
      show Steps p.tables e below (T20.setTop (mkF m 74 #[.val (.int p0), .val (.int p1), .val (.int (p1 &&& (3 : Int32))), .val (.int (f0_m11 p0 p1)), .val (.int (f0_m18 p0 p1)), .val (.int (F1 (f0_m11 p0 p1))), .unset, .unset, .unset] [])) _
      refine XS.iconst X20.here hx rfl (hb hby at_74) ?_
      exact k)
    have q_f0_m25 : f0_m25 p0 p1 = (0 : Int32) := by unfold f0_m25; rw [if_neg hc67_22]
    rw [q_f0_m25]
    exact ⟨T20, _, X20, e20, N20, pre24⟩
  obtain ⟨_, _, ⟨T26, L26, k26, n26⟩, -, X26, ⟨Lc26, hQ26, l26, y26, z26⟩, st26⟩ := Jvm.LawKit.callS X22 hx (y := (⟨"com/example/tenon/tenon/Parser", "isSpace", "(I)Z"⟩ : MethodName)) hown (mvT hZ (hw _ (List.mem_of_getElem? (i := 0) rfl))) (mvT hZ (hw _ (List.mem_of_getElem? (i := 1) rfl))) (mvT hZ (hw _ (List.mem_of_getElem? (i := 2) rfl))) (mvT hZ (hw _ (List.mem_of_getElem? (i := 3) rfl))) (by decide) (backOf (W := 0) (rm1 l Z a0 hw [] ((f0_m11 p0 p1) - (1 : Int32)) h0 n0 Z0) hZ (hw _ (List.mem_of_getElem? (i := 3) rfl)) (hw _ (List.mem_of_getElem? (i := 2) rfl)) (by decide) (by decide)) (g := (mkF m 80 #[.val (.int p0), .val (.int p1), .val (.int (p1 &&& (3 : Int32))), .val (.int (f0_m11 p0 p1)), .val (.int (f0_m18 p0 p1)), .val (.int (F1 (f0_m11 p0 p1))), .val (.int (f0_m25 p0 p1)), .unset, .unset] [(.int ((f0_m11 p0 p1) - (1 : Int32)))])) rfl (by rw [hml]; rfl) (argsL := [(.int ((f0_m11 p0 p1) - (1 : Int32)))]) (rest := []) (lenOf pd0 rfl) rfl (by show 2 * 0 + _ ≤ _; exact Nat.le_of_eq rfl) (hb hby at_80) (fun _ _ => ⟨rfl, e22, (by decide : 0 + 0 ≤ _), (by decide : 0 + 0 ≤ _)⟩)
  dsimp only [Pt.U, Pt.locs, Pt.cells, Pt.slots] at X26 l26 y26 z26 st26 hQ26
  subst l26 y26 z26
  obtain ⟨rfl, N26q, e26⟩ := hQ26
  have N26 := Fr.app N22 N26q
  obtain ⟨_, _, ⟨T27, L27, k27, n27⟩, -, X27, ⟨Lc27, hQ27, l27, y27, z27⟩, st27⟩ := Jvm.LawKit.callS X26 hx (y := (⟨"com/example/tenon/tenon/ParserIsSpacePinLaw", "reference", "(I)Z"⟩ : MethodName)) hown (mvT hZ (hw _ (List.mem_of_getElem? (i := 4) rfl))) (mvT hZ (hw _ (List.mem_of_getElem? (i := 5) rfl))) (mvT hZ (hw _ (List.mem_of_getElem? (i := 6) rfl))) (mvT hZ (hw _ (List.mem_of_getElem? (i := 7) rfl))) (by decide) (backOf (W := 1) (rm2 l Z a0 hw [] ((f0_m11 p0 p1) - (1 : Int32)) h0 n0 Z0) hZ (hw _ (List.mem_of_getElem? (i := 7) rfl)) (hw _ (List.mem_of_getElem? (i := 6) rfl)) (by decide) (by decide)) (g := (mkF m 86 #[.val (.int p0), .val (.int p1), .val (.int (p1 &&& (3 : Int32))), .val (.int (f0_m11 p0 p1)), .val (.int (f0_m18 p0 p1)), .val (.int (F1 (f0_m11 p0 p1))), .val (.int (f0_m25 p0 p1)), .unset, .unset] [(.int ((f0_m11 p0 p1) - (1 : Int32))), (.int (F1 ((f0_m11 p0 p1) - (1 : Int32))))])) rfl (by rw [hml]; rfl) (argsL := [(.int ((f0_m11 p0 p1) - (1 : Int32)))]) (rest := [(.int (F1 ((f0_m11 p0 p1) - (1 : Int32))))]) (lenOf pd0 rfl) rfl (by show 2 * 0 + _ ≤ _; exact Nat.le_of_eq rfl) (hb hby at_86) (fun _ _ => ⟨rfl, e26, (by decide : 0 + 0 ≤ _), (by decide : 0 + 0 ≤ _)⟩)
  dsimp only [Pt.U, Pt.locs, Pt.cells, Pt.slots] at X27 l27 y27 z27 st27 hQ27
  subst l27 y27 z27
  obtain ⟨rfl, N27q, e27⟩ := hQ27
  have N27 := Fr.app N26 N27q
  have pre28 : ∀ t, Steps p.tables e below (T27.setTop (mkF m 89 #[.val (.int p0), .val (.int p1), .val (.int (p1 &&& (3 : Int32))), .val (.int (f0_m11 p0 p1)), .val (.int (f0_m18 p0 p1)), .val (.int (F1 (f0_m11 p0 p1))), .val (.int (f0_m25 p0 p1)), .unset, .unset] [(.int (F2 ((f0_m11 p0 p1) - (1 : Int32)))), (.int (F1 ((f0_m11 p0 p1) - (1 : Int32))))])) t → Steps p.tables e below (s₁.setTop (entryFrame m #[(.int p0), (.int p1)] maxLocals)) t := fun t k => pre22 t (by
    show Steps p.tables e below (T22.setTop (mkF m 75 #[.val (.int p0), .val (.int p1), .val (.int (p1 &&& (3 : Int32))), .val (.int (f0_m11 p0 p1)), .val (.int (f0_m18 p0 p1)), .val (.int (F1 (f0_m11 p0 p1))), .unset, .unset, .unset] [(.int (f0_m25 p0 p1))])) _
    refine XS.istore X22.here hx rfl (hb hby at_75) rfl (l' := #[.val (.int p0), .val (.int p1), .val (.int (p1 &&& (3 : Int32))), .val (.int (f0_m11 p0 p1)), .val (.int (f0_m18 p0 p1)), .val (.int (F1 (f0_m11 p0 p1))), .val (.int (f0_m25 p0 p1)), .unset, .unset]) rfl ?_
    show Steps p.tables e below (T22.setTop (mkF m 77 #[.val (.int p0), .val (.int p1), .val (.int (p1 &&& (3 : Int32))), .val (.int (f0_m11 p0 p1)), .val (.int (f0_m18 p0 p1)), .val (.int (F1 (f0_m11 p0 p1))), .val (.int (f0_m25 p0 p1)), .unset, .unset] [])) _
    refine XS.iloadN X22.here hx rfl (hb hby at_77) rfl ?_
    show Steps p.tables e below (T22.setTop (mkF m 78 #[.val (.int p0), .val (.int p1), .val (.int (p1 &&& (3 : Int32))), .val (.int (f0_m11 p0 p1)), .val (.int (f0_m18 p0 p1)), .val (.int (F1 (f0_m11 p0 p1))), .val (.int (f0_m25 p0 p1)), .unset, .unset] [(.int (f0_m11 p0 p1))])) _
    refine XS.iconst X22.here hx rfl (hb hby at_78) ?_
    show Steps p.tables e below (T22.setTop (mkF m 79 #[.val (.int p0), .val (.int p1), .val (.int (p1 &&& (3 : Int32))), .val (.int (f0_m11 p0 p1)), .val (.int (f0_m18 p0 p1)), .val (.int (F1 (f0_m11 p0 p1))), .val (.int (f0_m25 p0 p1)), .unset, .unset] [(.int (1 : Int32)), (.int (f0_m11 p0 p1))])) _
    refine XS.isub X22.here hx rfl (hb hby at_79) rfl ?_
    show Steps p.tables e below (T22.setTop (mkF m 80 #[.val (.int p0), .val (.int p1), .val (.int (p1 &&& (3 : Int32))), .val (.int (f0_m11 p0 p1)), .val (.int (f0_m18 p0 p1)), .val (.int (F1 (f0_m11 p0 p1))), .val (.int (f0_m25 p0 p1)), .unset, .unset] [(.int ((f0_m11 p0 p1) - (1 : Int32)))])) _
    refine st26 _ ?_
    show Steps p.tables e below (T26.setTop (mkF m 83 #[.val (.int p0), .val (.int p1), .val (.int (p1 &&& (3 : Int32))), .val (.int (f0_m11 p0 p1)), .val (.int (f0_m18 p0 p1)), .val (.int (F1 (f0_m11 p0 p1))), .val (.int (f0_m25 p0 p1)), .unset, .unset] [(.int (F1 ((f0_m11 p0 p1) - (1 : Int32))))])) _
    refine XS.iloadN X26.here hx rfl (hb hby at_83) rfl ?_
    show Steps p.tables e below (T26.setTop (mkF m 84 #[.val (.int p0), .val (.int p1), .val (.int (p1 &&& (3 : Int32))), .val (.int (f0_m11 p0 p1)), .val (.int (f0_m18 p0 p1)), .val (.int (F1 (f0_m11 p0 p1))), .val (.int (f0_m25 p0 p1)), .unset, .unset] [(.int (f0_m11 p0 p1)), (.int (F1 ((f0_m11 p0 p1) - (1 : Int32))))])) _
    refine XS.iconst X26.here hx rfl (hb hby at_84) ?_
    show Steps p.tables e below (T26.setTop (mkF m 85 #[.val (.int p0), .val (.int p1), .val (.int (p1 &&& (3 : Int32))), .val (.int (f0_m11 p0 p1)), .val (.int (f0_m18 p0 p1)), .val (.int (F1 (f0_m11 p0 p1))), .val (.int (f0_m25 p0 p1)), .unset, .unset] [(.int (1 : Int32)), (.int (f0_m11 p0 p1)), (.int (F1 ((f0_m11 p0 p1) - (1 : Int32))))])) _
    refine XS.isub X26.here hx rfl (hb hby at_85) rfl ?_
    show Steps p.tables e below (T26.setTop (mkF m 86 #[.val (.int p0), .val (.int p1), .val (.int (p1 &&& (3 : Int32))), .val (.int (f0_m11 p0 p1)), .val (.int (f0_m18 p0 p1)), .val (.int (F1 (f0_m11 p0 p1))), .val (.int (f0_m25 p0 p1)), .unset, .unset] [(.int ((f0_m11 p0 p1) - (1 : Int32))), (.int (F1 ((f0_m11 p0 p1) - (1 : Int32))))])) _
    refine st27 _ ?_
    exact k)
  obtain ⟨T29, L29, X29, e29, N29, pre29⟩ : ∃ (T' : State) (locs' : List Loc), Stand p l e room_1 s m #[(.int p0), (.int p1)] below meth c T' locs' 0 0 ∧ T'.heap = h0 ∧ Fr n0 locs' ∧ ∀ t, Steps p.tables e below (T'.setTop (mkF m 97 #[.val (.int p0), .val (.int p1), .val (.int (p1 &&& (3 : Int32))), .val (.int (f0_m11 p0 p1)), .val (.int (f0_m18 p0 p1)), .val (.int (F1 (f0_m11 p0 p1))), .val (.int (f0_m25 p0 p1)), .unset, .unset] [(.int (f0_m32 p0 p1))])) t → Steps p.tables e below (s₁.setTop (entryFrame m #[(.int p0), (.int p1)] maxLocals)) t := by
    by_cases hc89_29 : (F1 ((f0_m11 p0 p1) - (1 : Int32))) = (F2 ((f0_m11 p0 p1) - (1 : Int32)))
    · have pre30 : ∀ t, Steps p.tables e below (T27.setTop (mkF m 97 #[.val (.int p0), .val (.int p1), .val (.int (p1 &&& (3 : Int32))), .val (.int (f0_m11 p0 p1)), .val (.int (f0_m18 p0 p1)), .val (.int (F1 (f0_m11 p0 p1))), .val (.int (f0_m25 p0 p1)), .unset, .unset] [(.int (1 : Int32))])) t → Steps p.tables e below (s₁.setTop (entryFrame m #[(.int p0), (.int p1)] maxLocals)) t := fun t k => pre28 t (by
        show Steps p.tables e below (T27.setTop (mkF m 89 #[.val (.int p0), .val (.int p1), .val (.int (p1 &&& (3 : Int32))), .val (.int (f0_m11 p0 p1)), .val (.int (f0_m18 p0 p1)), .val (.int (F1 (f0_m11 p0 p1))), .val (.int (f0_m25 p0 p1)), .unset, .unset] [(.int (F2 ((f0_m11 p0 p1) - (1 : Int32)))), (.int (F1 ((f0_m11 p0 p1) - (1 : Int32))))])) _
        refine XS.icmpNo X27.here hx rfl (hb hby at_89) rfl (teq hc89_29).2 ?_
        show Steps p.tables e below (T27.setTop (mkF m 92 #[.val (.int p0), .val (.int p1), .val (.int (p1 &&& (3 : Int32))), .val (.int (f0_m11 p0 p1)), .val (.int (f0_m18 p0 p1)), .val (.int (F1 (f0_m11 p0 p1))), .val (.int (f0_m25 p0 p1)), .unset, .unset] [])) _
        refine XS.iconst X27.here hx rfl (hb hby at_92) ?_
        show Steps p.tables e below (T27.setTop (mkF m 93 #[.val (.int p0), .val (.int p1), .val (.int (p1 &&& (3 : Int32))), .val (.int (f0_m11 p0 p1)), .val (.int (f0_m18 p0 p1)), .val (.int (F1 (f0_m11 p0 p1))), .val (.int (f0_m25 p0 p1)), .unset, .unset] [(.int (1 : Int32))])) _
        refine XS.goto X27.here hx rfl (pc0 := 93) (pc' := 97) rfl (hb hby at_93) (by decide) (by decide) ?_
        exact k)
      have q_f0_m32 : f0_m32 p0 p1 = (1 : Int32) := by unfold f0_m32; rw [if_pos hc89_29]
      rw [q_f0_m32]
      exact ⟨T27, _, X27, e27, N27, pre30⟩
    have pre31 : ∀ t, Steps p.tables e below (T27.setTop (mkF m 97 #[.val (.int p0), .val (.int p1), .val (.int (p1 &&& (3 : Int32))), .val (.int (f0_m11 p0 p1)), .val (.int (f0_m18 p0 p1)), .val (.int (F1 (f0_m11 p0 p1))), .val (.int (f0_m25 p0 p1)), .unset, .unset] [(.int (0 : Int32))])) t → Steps p.tables e below (s₁.setTop (entryFrame m #[(.int p0), (.int p1)] maxLocals)) t := fun t k => pre28 t (by
      show Steps p.tables e below (T27.setTop (mkF m 89 #[.val (.int p0), .val (.int p1), .val (.int (p1 &&& (3 : Int32))), .val (.int (f0_m11 p0 p1)), .val (.int (f0_m18 p0 p1)), .val (.int (F1 (f0_m11 p0 p1))), .val (.int (f0_m25 p0 p1)), .unset, .unset] [(.int (F2 ((f0_m11 p0 p1) - (1 : Int32)))), (.int (F1 ((f0_m11 p0 p1) - (1 : Int32))))])) _
      refine XS.icmpYes X27.here hx rfl (pc0 := 89) (pc' := 96) rfl (hb hby at_89) rfl (feq hc89_29).2 (by decide) (by decide) ?_
      show Steps p.tables e below (T27.setTop (mkF m 96 #[.val (.int p0), .val (.int p1), .val (.int (p1 &&& (3 : Int32))), .val (.int (f0_m11 p0 p1)), .val (.int (f0_m18 p0 p1)), .val (.int (F1 (f0_m11 p0 p1))), .val (.int (f0_m25 p0 p1)), .unset, .unset] [])) _
      refine XS.iconst X27.here hx rfl (hb hby at_96) ?_
      exact k)
    have q_f0_m32 : f0_m32 p0 p1 = (0 : Int32) := by unfold f0_m32; rw [if_neg hc89_29]
    rw [q_f0_m32]
    exact ⟨T27, _, X27, e27, N27, pre31⟩
  obtain ⟨_, _, ⟨T33, L33, k33, n33⟩, -, X33, ⟨Lc33, hQ33, l33, y33, z33⟩, st33⟩ := Jvm.LawKit.callS X29 hx (y := (⟨"com/example/tenon/tenon/Parser", "isSpace", "(I)Z"⟩ : MethodName)) hown (mvT hZ (hw _ (List.mem_of_getElem? (i := 0) rfl))) (mvT hZ (hw _ (List.mem_of_getElem? (i := 1) rfl))) (mvT hZ (hw _ (List.mem_of_getElem? (i := 2) rfl))) (mvT hZ (hw _ (List.mem_of_getElem? (i := 3) rfl))) (by decide) (backOf (W := 0) (rm1 l Z a0 hw [] ((f0_m11 p0 p1) + (1 : Int32)) h0 n0 Z0) hZ (hw _ (List.mem_of_getElem? (i := 3) rfl)) (hw _ (List.mem_of_getElem? (i := 2) rfl)) (by decide) (by decide)) (g := (mkF m 102 #[.val (.int p0), .val (.int p1), .val (.int (p1 &&& (3 : Int32))), .val (.int (f0_m11 p0 p1)), .val (.int (f0_m18 p0 p1)), .val (.int (F1 (f0_m11 p0 p1))), .val (.int (f0_m25 p0 p1)), .val (.int (f0_m32 p0 p1)), .unset] [(.int ((f0_m11 p0 p1) + (1 : Int32)))])) rfl (by rw [hml]; rfl) (argsL := [(.int ((f0_m11 p0 p1) + (1 : Int32)))]) (rest := []) (lenOf pd0 rfl) rfl (by show 2 * 0 + _ ≤ _; exact Nat.le_of_eq rfl) (hb hby at_102) (fun _ _ => ⟨rfl, e29, (by decide : 0 + 0 ≤ _), (by decide : 0 + 0 ≤ _)⟩)
  dsimp only [Pt.U, Pt.locs, Pt.cells, Pt.slots] at X33 l33 y33 z33 st33 hQ33
  subst l33 y33 z33
  obtain ⟨rfl, N33q, e33⟩ := hQ33
  have N33 := Fr.app N29 N33q
  obtain ⟨_, _, ⟨T34, L34, k34, n34⟩, -, X34, ⟨Lc34, hQ34, l34, y34, z34⟩, st34⟩ := Jvm.LawKit.callS X33 hx (y := (⟨"com/example/tenon/tenon/ParserIsSpacePinLaw", "reference", "(I)Z"⟩ : MethodName)) hown (mvT hZ (hw _ (List.mem_of_getElem? (i := 4) rfl))) (mvT hZ (hw _ (List.mem_of_getElem? (i := 5) rfl))) (mvT hZ (hw _ (List.mem_of_getElem? (i := 6) rfl))) (mvT hZ (hw _ (List.mem_of_getElem? (i := 7) rfl))) (by decide) (backOf (W := 1) (rm2 l Z a0 hw [] ((f0_m11 p0 p1) + (1 : Int32)) h0 n0 Z0) hZ (hw _ (List.mem_of_getElem? (i := 7) rfl)) (hw _ (List.mem_of_getElem? (i := 6) rfl)) (by decide) (by decide)) (g := (mkF m 108 #[.val (.int p0), .val (.int p1), .val (.int (p1 &&& (3 : Int32))), .val (.int (f0_m11 p0 p1)), .val (.int (f0_m18 p0 p1)), .val (.int (F1 (f0_m11 p0 p1))), .val (.int (f0_m25 p0 p1)), .val (.int (f0_m32 p0 p1)), .unset] [(.int ((f0_m11 p0 p1) + (1 : Int32))), (.int (F1 ((f0_m11 p0 p1) + (1 : Int32))))])) rfl (by rw [hml]; rfl) (argsL := [(.int ((f0_m11 p0 p1) + (1 : Int32)))]) (rest := [(.int (F1 ((f0_m11 p0 p1) + (1 : Int32))))]) (lenOf pd0 rfl) rfl (by show 2 * 0 + _ ≤ _; exact Nat.le_of_eq rfl) (hb hby at_108) (fun _ _ => ⟨rfl, e33, (by decide : 0 + 0 ≤ _), (by decide : 0 + 0 ≤ _)⟩)
  dsimp only [Pt.U, Pt.locs, Pt.cells, Pt.slots] at X34 l34 y34 z34 st34 hQ34
  subst l34 y34 z34
  obtain ⟨rfl, N34q, e34⟩ := hQ34
  have N34 := Fr.app N33 N34q
  have pre35 : ∀ t, Steps p.tables e below (T34.setTop (mkF m 111 #[.val (.int p0), .val (.int p1), .val (.int (p1 &&& (3 : Int32))), .val (.int (f0_m11 p0 p1)), .val (.int (f0_m18 p0 p1)), .val (.int (F1 (f0_m11 p0 p1))), .val (.int (f0_m25 p0 p1)), .val (.int (f0_m32 p0 p1)), .unset] [(.int (F2 ((f0_m11 p0 p1) + (1 : Int32)))), (.int (F1 ((f0_m11 p0 p1) + (1 : Int32))))])) t → Steps p.tables e below (s₁.setTop (entryFrame m #[(.int p0), (.int p1)] maxLocals)) t := fun t k => pre29 t (by
    show Steps p.tables e below (T29.setTop (mkF m 97 #[.val (.int p0), .val (.int p1), .val (.int (p1 &&& (3 : Int32))), .val (.int (f0_m11 p0 p1)), .val (.int (f0_m18 p0 p1)), .val (.int (F1 (f0_m11 p0 p1))), .val (.int (f0_m25 p0 p1)), .unset, .unset] [(.int (f0_m32 p0 p1))])) _
    refine XS.istore X29.here hx rfl (hb hby at_97) rfl (l' := #[.val (.int p0), .val (.int p1), .val (.int (p1 &&& (3 : Int32))), .val (.int (f0_m11 p0 p1)), .val (.int (f0_m18 p0 p1)), .val (.int (F1 (f0_m11 p0 p1))), .val (.int (f0_m25 p0 p1)), .val (.int (f0_m32 p0 p1)), .unset]) rfl ?_
    show Steps p.tables e below (T29.setTop (mkF m 99 #[.val (.int p0), .val (.int p1), .val (.int (p1 &&& (3 : Int32))), .val (.int (f0_m11 p0 p1)), .val (.int (f0_m18 p0 p1)), .val (.int (F1 (f0_m11 p0 p1))), .val (.int (f0_m25 p0 p1)), .val (.int (f0_m32 p0 p1)), .unset] [])) _
    refine XS.iloadN X29.here hx rfl (hb hby at_99) rfl ?_
    show Steps p.tables e below (T29.setTop (mkF m 100 #[.val (.int p0), .val (.int p1), .val (.int (p1 &&& (3 : Int32))), .val (.int (f0_m11 p0 p1)), .val (.int (f0_m18 p0 p1)), .val (.int (F1 (f0_m11 p0 p1))), .val (.int (f0_m25 p0 p1)), .val (.int (f0_m32 p0 p1)), .unset] [(.int (f0_m11 p0 p1))])) _
    refine XS.iconst X29.here hx rfl (hb hby at_100) ?_
    show Steps p.tables e below (T29.setTop (mkF m 101 #[.val (.int p0), .val (.int p1), .val (.int (p1 &&& (3 : Int32))), .val (.int (f0_m11 p0 p1)), .val (.int (f0_m18 p0 p1)), .val (.int (F1 (f0_m11 p0 p1))), .val (.int (f0_m25 p0 p1)), .val (.int (f0_m32 p0 p1)), .unset] [(.int (1 : Int32)), (.int (f0_m11 p0 p1))])) _
    refine XS.iadd X29.here hx rfl (hb hby at_101) rfl ?_
    show Steps p.tables e below (T29.setTop (mkF m 102 #[.val (.int p0), .val (.int p1), .val (.int (p1 &&& (3 : Int32))), .val (.int (f0_m11 p0 p1)), .val (.int (f0_m18 p0 p1)), .val (.int (F1 (f0_m11 p0 p1))), .val (.int (f0_m25 p0 p1)), .val (.int (f0_m32 p0 p1)), .unset] [(.int ((f0_m11 p0 p1) + (1 : Int32)))])) _
    refine st33 _ ?_
    show Steps p.tables e below (T33.setTop (mkF m 105 #[.val (.int p0), .val (.int p1), .val (.int (p1 &&& (3 : Int32))), .val (.int (f0_m11 p0 p1)), .val (.int (f0_m18 p0 p1)), .val (.int (F1 (f0_m11 p0 p1))), .val (.int (f0_m25 p0 p1)), .val (.int (f0_m32 p0 p1)), .unset] [(.int (F1 ((f0_m11 p0 p1) + (1 : Int32))))])) _
    refine XS.iloadN X33.here hx rfl (hb hby at_105) rfl ?_
    show Steps p.tables e below (T33.setTop (mkF m 106 #[.val (.int p0), .val (.int p1), .val (.int (p1 &&& (3 : Int32))), .val (.int (f0_m11 p0 p1)), .val (.int (f0_m18 p0 p1)), .val (.int (F1 (f0_m11 p0 p1))), .val (.int (f0_m25 p0 p1)), .val (.int (f0_m32 p0 p1)), .unset] [(.int (f0_m11 p0 p1)), (.int (F1 ((f0_m11 p0 p1) + (1 : Int32))))])) _
    refine XS.iconst X33.here hx rfl (hb hby at_106) ?_
    show Steps p.tables e below (T33.setTop (mkF m 107 #[.val (.int p0), .val (.int p1), .val (.int (p1 &&& (3 : Int32))), .val (.int (f0_m11 p0 p1)), .val (.int (f0_m18 p0 p1)), .val (.int (F1 (f0_m11 p0 p1))), .val (.int (f0_m25 p0 p1)), .val (.int (f0_m32 p0 p1)), .unset] [(.int (1 : Int32)), (.int (f0_m11 p0 p1)), (.int (F1 ((f0_m11 p0 p1) + (1 : Int32))))])) _
    refine XS.iadd X33.here hx rfl (hb hby at_107) rfl ?_
    show Steps p.tables e below (T33.setTop (mkF m 108 #[.val (.int p0), .val (.int p1), .val (.int (p1 &&& (3 : Int32))), .val (.int (f0_m11 p0 p1)), .val (.int (f0_m18 p0 p1)), .val (.int (F1 (f0_m11 p0 p1))), .val (.int (f0_m25 p0 p1)), .val (.int (f0_m32 p0 p1)), .unset] [(.int ((f0_m11 p0 p1) + (1 : Int32))), (.int (F1 ((f0_m11 p0 p1) + (1 : Int32))))])) _
    refine st34 _ ?_
    exact k)
  obtain ⟨T36, L36, X36, e36, N36, pre36⟩ : ∃ (T' : State) (locs' : List Loc), Stand p l e room_1 s m #[(.int p0), (.int p1)] below meth c T' locs' 0 0 ∧ T'.heap = h0 ∧ Fr n0 locs' ∧ ∀ t, Steps p.tables e below (T'.setTop (mkF m 119 #[.val (.int p0), .val (.int p1), .val (.int (p1 &&& (3 : Int32))), .val (.int (f0_m11 p0 p1)), .val (.int (f0_m18 p0 p1)), .val (.int (F1 (f0_m11 p0 p1))), .val (.int (f0_m25 p0 p1)), .val (.int (f0_m32 p0 p1)), .unset] [(.int (f0_m39 p0 p1))])) t → Steps p.tables e below (s₁.setTop (entryFrame m #[(.int p0), (.int p1)] maxLocals)) t := by
    by_cases hc111_36 : (F1 ((f0_m11 p0 p1) + (1 : Int32))) = (F2 ((f0_m11 p0 p1) + (1 : Int32)))
    · have pre37 : ∀ t, Steps p.tables e below (T34.setTop (mkF m 119 #[.val (.int p0), .val (.int p1), .val (.int (p1 &&& (3 : Int32))), .val (.int (f0_m11 p0 p1)), .val (.int (f0_m18 p0 p1)), .val (.int (F1 (f0_m11 p0 p1))), .val (.int (f0_m25 p0 p1)), .val (.int (f0_m32 p0 p1)), .unset] [(.int (1 : Int32))])) t → Steps p.tables e below (s₁.setTop (entryFrame m #[(.int p0), (.int p1)] maxLocals)) t := fun t k => pre35 t (by
        show Steps p.tables e below (T34.setTop (mkF m 111 #[.val (.int p0), .val (.int p1), .val (.int (p1 &&& (3 : Int32))), .val (.int (f0_m11 p0 p1)), .val (.int (f0_m18 p0 p1)), .val (.int (F1 (f0_m11 p0 p1))), .val (.int (f0_m25 p0 p1)), .val (.int (f0_m32 p0 p1)), .unset] [(.int (F2 ((f0_m11 p0 p1) + (1 : Int32)))), (.int (F1 ((f0_m11 p0 p1) + (1 : Int32))))])) _
        refine XS.icmpNo X34.here hx rfl (hb hby at_111) rfl (teq hc111_36).2 ?_
        show Steps p.tables e below (T34.setTop (mkF m 114 #[.val (.int p0), .val (.int p1), .val (.int (p1 &&& (3 : Int32))), .val (.int (f0_m11 p0 p1)), .val (.int (f0_m18 p0 p1)), .val (.int (F1 (f0_m11 p0 p1))), .val (.int (f0_m25 p0 p1)), .val (.int (f0_m32 p0 p1)), .unset] [])) _
        refine XS.iconst X34.here hx rfl (hb hby at_114) ?_
        show Steps p.tables e below (T34.setTop (mkF m 115 #[.val (.int p0), .val (.int p1), .val (.int (p1 &&& (3 : Int32))), .val (.int (f0_m11 p0 p1)), .val (.int (f0_m18 p0 p1)), .val (.int (F1 (f0_m11 p0 p1))), .val (.int (f0_m25 p0 p1)), .val (.int (f0_m32 p0 p1)), .unset] [(.int (1 : Int32))])) _
        refine XS.goto X34.here hx rfl (pc0 := 115) (pc' := 119) rfl (hb hby at_115) (by decide) (by decide) ?_
        exact k)
      have q_f0_m39 : f0_m39 p0 p1 = (1 : Int32) := by unfold f0_m39; rw [if_pos hc111_36]
      rw [q_f0_m39]
      exact ⟨T34, _, X34, e34, N34, pre37⟩
    have pre38 : ∀ t, Steps p.tables e below (T34.setTop (mkF m 119 #[.val (.int p0), .val (.int p1), .val (.int (p1 &&& (3 : Int32))), .val (.int (f0_m11 p0 p1)), .val (.int (f0_m18 p0 p1)), .val (.int (F1 (f0_m11 p0 p1))), .val (.int (f0_m25 p0 p1)), .val (.int (f0_m32 p0 p1)), .unset] [(.int (0 : Int32))])) t → Steps p.tables e below (s₁.setTop (entryFrame m #[(.int p0), (.int p1)] maxLocals)) t := fun t k => pre35 t (by
      show Steps p.tables e below (T34.setTop (mkF m 111 #[.val (.int p0), .val (.int p1), .val (.int (p1 &&& (3 : Int32))), .val (.int (f0_m11 p0 p1)), .val (.int (f0_m18 p0 p1)), .val (.int (F1 (f0_m11 p0 p1))), .val (.int (f0_m25 p0 p1)), .val (.int (f0_m32 p0 p1)), .unset] [(.int (F2 ((f0_m11 p0 p1) + (1 : Int32)))), (.int (F1 ((f0_m11 p0 p1) + (1 : Int32))))])) _
      refine XS.icmpYes X34.here hx rfl (pc0 := 111) (pc' := 118) rfl (hb hby at_111) rfl (feq hc111_36).2 (by decide) (by decide) ?_
      show Steps p.tables e below (T34.setTop (mkF m 118 #[.val (.int p0), .val (.int p1), .val (.int (p1 &&& (3 : Int32))), .val (.int (f0_m11 p0 p1)), .val (.int (f0_m18 p0 p1)), .val (.int (F1 (f0_m11 p0 p1))), .val (.int (f0_m25 p0 p1)), .val (.int (f0_m32 p0 p1)), .unset] [])) _
      refine XS.iconst X34.here hx rfl (hb hby at_118) ?_
      exact k)
    have q_f0_m39 : f0_m39 p0 p1 = (0 : Int32) := by unfold f0_m39; rw [if_neg hc111_36]
    rw [q_f0_m39]
    exact ⟨T34, _, X34, e34, N34, pre38⟩
  have pre40 : ∀ t, Steps p.tables e below (T36.setTop (mkF m 123 #[.val (.int p0), .val (.int p1), .val (.int (p1 &&& (3 : Int32))), .val (.int (f0_m11 p0 p1)), .val (.int (f0_m18 p0 p1)), .val (.int (F1 (f0_m11 p0 p1))), .val (.int (f0_m25 p0 p1)), .val (.int (f0_m32 p0 p1)), .val (.int (f0_m39 p0 p1))] [(.int (f0_m18 p0 p1))])) t → Steps p.tables e below (s₁.setTop (entryFrame m #[(.int p0), (.int p1)] maxLocals)) t := fun t k => pre36 t (by
    show Steps p.tables e below (T36.setTop (mkF m 119 #[.val (.int p0), .val (.int p1), .val (.int (p1 &&& (3 : Int32))), .val (.int (f0_m11 p0 p1)), .val (.int (f0_m18 p0 p1)), .val (.int (F1 (f0_m11 p0 p1))), .val (.int (f0_m25 p0 p1)), .val (.int (f0_m32 p0 p1)), .unset] [(.int (f0_m39 p0 p1))])) _
    refine XS.istore X36.here hx rfl (hb hby at_119) rfl (l' := #[.val (.int p0), .val (.int p1), .val (.int (p1 &&& (3 : Int32))), .val (.int (f0_m11 p0 p1)), .val (.int (f0_m18 p0 p1)), .val (.int (F1 (f0_m11 p0 p1))), .val (.int (f0_m25 p0 p1)), .val (.int (f0_m32 p0 p1)), .val (.int (f0_m39 p0 p1))]) rfl ?_
    show Steps p.tables e below (T36.setTop (mkF m 121 #[.val (.int p0), .val (.int p1), .val (.int (p1 &&& (3 : Int32))), .val (.int (f0_m11 p0 p1)), .val (.int (f0_m18 p0 p1)), .val (.int (F1 (f0_m11 p0 p1))), .val (.int (f0_m25 p0 p1)), .val (.int (f0_m32 p0 p1)), .val (.int (f0_m39 p0 p1))] [])) _
    refine XS.iload X36.here hx rfl (hb hby at_121) rfl ?_
    exact k)
  by_cases hc123_41 : (f0_m18 p0 p1) = (0 : Int32)
  · have pre42 : ∀ t, Steps p.tables e below (T36.setTop (mkF m 151 #[.val (.int p0), .val (.int p1), .val (.int (p1 &&& (3 : Int32))), .val (.int (f0_m11 p0 p1)), .val (.int (f0_m18 p0 p1)), .val (.int (F1 (f0_m11 p0 p1))), .val (.int (f0_m25 p0 p1)), .val (.int (f0_m32 p0 p1)), .val (.int (f0_m39 p0 p1))] [(.int (0 : Int32))])) t → Steps p.tables e below (s₁.setTop (entryFrame m #[(.int p0), (.int p1)] maxLocals)) t := fun t k => pre40 t (by
      show Steps p.tables e below (T36.setTop (mkF m 123 #[.val (.int p0), .val (.int p1), .val (.int (p1 &&& (3 : Int32))), .val (.int (f0_m11 p0 p1)), .val (.int (f0_m18 p0 p1)), .val (.int (F1 (f0_m11 p0 p1))), .val (.int (f0_m25 p0 p1)), .val (.int (f0_m32 p0 p1)), .val (.int (f0_m39 p0 p1))] [(.int (f0_m18 p0 p1))])) _
      refine XS.ifYes X36.here hx rfl (pc0 := 123) (pc' := 150) rfl (hb hby at_123) rfl ((if0 _ _).trans (teq hc123_41).1) (by decide) (by decide) ?_
      show Steps p.tables e below (T36.setTop (mkF m 150 #[.val (.int p0), .val (.int p1), .val (.int (p1 &&& (3 : Int32))), .val (.int (f0_m11 p0 p1)), .val (.int (f0_m18 p0 p1)), .val (.int (F1 (f0_m11 p0 p1))), .val (.int (f0_m25 p0 p1)), .val (.int (f0_m32 p0 p1)), .val (.int (f0_m39 p0 p1))] [])) _
      refine XS.iconst X36.here hx rfl (hb hby at_150) ?_
      exact k)
    obtain ⟨fs, hr, hrun, hended, hW, hsame⟩ := X36.leave (v := some (.int (0 : Int32))) (fun h => by rw [Bd.returns] at h; cases h) hlk
    have hF : F0 p0 p1 = (0 : Int32) := by unfold F0; rw [if_pos hc123_41]
    exact ⟨_, _, pre42 _ (retN X36 hx (t := .boolean) Bd.returns (by simp) (hb hby at_151) hr), hrun, hended, _, _, rfl, ⟨by rw [hF], N36, e36⟩, ⟨_, rfl⟩, hW, hsame.mono (by decide) (by decide)⟩
  have pre43 : ∀ t, Steps p.tables e below (T36.setTop (mkF m 128 #[.val (.int p0), .val (.int p1), .val (.int (p1 &&& (3 : Int32))), .val (.int (f0_m11 p0 p1)), .val (.int (f0_m18 p0 p1)), .val (.int (F1 (f0_m11 p0 p1))), .val (.int (f0_m25 p0 p1)), .val (.int (f0_m32 p0 p1)), .val (.int (f0_m39 p0 p1))] [(.int (F1 (f0_m11 p0 p1)))])) t → Steps p.tables e below (s₁.setTop (entryFrame m #[(.int p0), (.int p1)] maxLocals)) t := fun t k => pre40 t (by
    show Steps p.tables e below (T36.setTop (mkF m 123 #[.val (.int p0), .val (.int p1), .val (.int (p1 &&& (3 : Int32))), .val (.int (f0_m11 p0 p1)), .val (.int (f0_m18 p0 p1)), .val (.int (F1 (f0_m11 p0 p1))), .val (.int (f0_m25 p0 p1)), .val (.int (f0_m32 p0 p1)), .val (.int (f0_m39 p0 p1))] [(.int (f0_m18 p0 p1))])) _
    refine XS.ifNo X36.here hx rfl (hb hby at_123) rfl ((if0 _ _).trans (feq hc123_41).1) ?_
    show Steps p.tables e below (T36.setTop (mkF m 126 #[.val (.int p0), .val (.int p1), .val (.int (p1 &&& (3 : Int32))), .val (.int (f0_m11 p0 p1)), .val (.int (f0_m18 p0 p1)), .val (.int (F1 (f0_m11 p0 p1))), .val (.int (f0_m25 p0 p1)), .val (.int (f0_m32 p0 p1)), .val (.int (f0_m39 p0 p1))] [])) _
    refine XS.iload X36.here hx rfl (hb hby at_126) rfl ?_
    exact k)
  by_cases hc128_44 : (F1 (f0_m11 p0 p1)) = (0 : Int32)
  · have pre45 : ∀ t, Steps p.tables e below (T36.setTop (mkF m 151 #[.val (.int p0), .val (.int p1), .val (.int (p1 &&& (3 : Int32))), .val (.int (f0_m11 p0 p1)), .val (.int (f0_m18 p0 p1)), .val (.int (F1 (f0_m11 p0 p1))), .val (.int (f0_m25 p0 p1)), .val (.int (f0_m32 p0 p1)), .val (.int (f0_m39 p0 p1))] [(.int (0 : Int32))])) t → Steps p.tables e below (s₁.setTop (entryFrame m #[(.int p0), (.int p1)] maxLocals)) t := fun t k => pre43 t (by
      show Steps p.tables e below (T36.setTop (mkF m 128 #[.val (.int p0), .val (.int p1), .val (.int (p1 &&& (3 : Int32))), .val (.int (f0_m11 p0 p1)), .val (.int (f0_m18 p0 p1)), .val (.int (F1 (f0_m11 p0 p1))), .val (.int (f0_m25 p0 p1)), .val (.int (f0_m32 p0 p1)), .val (.int (f0_m39 p0 p1))] [(.int (F1 (f0_m11 p0 p1)))])) _
      refine XS.ifYes X36.here hx rfl (pc0 := 128) (pc' := 150) rfl (hb hby at_128) rfl ((if0 _ _).trans (teq hc128_44).1) (by decide) (by decide) ?_
      show Steps p.tables e below (T36.setTop (mkF m 150 #[.val (.int p0), .val (.int p1), .val (.int (p1 &&& (3 : Int32))), .val (.int (f0_m11 p0 p1)), .val (.int (f0_m18 p0 p1)), .val (.int (F1 (f0_m11 p0 p1))), .val (.int (f0_m25 p0 p1)), .val (.int (f0_m32 p0 p1)), .val (.int (f0_m39 p0 p1))] [])) _
      refine XS.iconst X36.here hx rfl (hb hby at_150) ?_
      exact k)
    obtain ⟨fs, hr, hrun, hended, hW, hsame⟩ := X36.leave (v := some (.int (0 : Int32))) (fun h => by rw [Bd.returns] at h; cases h) hlk
    have hF : F0 p0 p1 = (0 : Int32) := by unfold F0; rw [if_neg hc123_41, if_pos hc128_44]
    exact ⟨_, _, pre45 _ (retN X36 hx (t := .boolean) Bd.returns (by simp) (hb hby at_151) hr), hrun, hended, _, _, rfl, ⟨by rw [hF], N36, e36⟩, ⟨_, rfl⟩, hW, hsame.mono (by decide) (by decide)⟩
  have pre46 : ∀ t, Steps p.tables e below (T36.setTop (mkF m 133 #[.val (.int p0), .val (.int p1), .val (.int (p1 &&& (3 : Int32))), .val (.int (f0_m11 p0 p1)), .val (.int (f0_m18 p0 p1)), .val (.int (F1 (f0_m11 p0 p1))), .val (.int (f0_m25 p0 p1)), .val (.int (f0_m32 p0 p1)), .val (.int (f0_m39 p0 p1))] [(.int (f0_m25 p0 p1))])) t → Steps p.tables e below (s₁.setTop (entryFrame m #[(.int p0), (.int p1)] maxLocals)) t := fun t k => pre43 t (by
    show Steps p.tables e below (T36.setTop (mkF m 128 #[.val (.int p0), .val (.int p1), .val (.int (p1 &&& (3 : Int32))), .val (.int (f0_m11 p0 p1)), .val (.int (f0_m18 p0 p1)), .val (.int (F1 (f0_m11 p0 p1))), .val (.int (f0_m25 p0 p1)), .val (.int (f0_m32 p0 p1)), .val (.int (f0_m39 p0 p1))] [(.int (F1 (f0_m11 p0 p1)))])) _
    refine XS.ifNo X36.here hx rfl (hb hby at_128) rfl ((if0 _ _).trans (feq hc128_44).1) ?_
    show Steps p.tables e below (T36.setTop (mkF m 131 #[.val (.int p0), .val (.int p1), .val (.int (p1 &&& (3 : Int32))), .val (.int (f0_m11 p0 p1)), .val (.int (f0_m18 p0 p1)), .val (.int (F1 (f0_m11 p0 p1))), .val (.int (f0_m25 p0 p1)), .val (.int (f0_m32 p0 p1)), .val (.int (f0_m39 p0 p1))] [])) _
    refine XS.iload X36.here hx rfl (hb hby at_131) rfl ?_
    exact k)
  by_cases hc133_47 : (f0_m25 p0 p1) = (0 : Int32)
  · have pre48 : ∀ t, Steps p.tables e below (T36.setTop (mkF m 151 #[.val (.int p0), .val (.int p1), .val (.int (p1 &&& (3 : Int32))), .val (.int (f0_m11 p0 p1)), .val (.int (f0_m18 p0 p1)), .val (.int (F1 (f0_m11 p0 p1))), .val (.int (f0_m25 p0 p1)), .val (.int (f0_m32 p0 p1)), .val (.int (f0_m39 p0 p1))] [(.int (0 : Int32))])) t → Steps p.tables e below (s₁.setTop (entryFrame m #[(.int p0), (.int p1)] maxLocals)) t := fun t k => pre46 t (by
      show Steps p.tables e below (T36.setTop (mkF m 133 #[.val (.int p0), .val (.int p1), .val (.int (p1 &&& (3 : Int32))), .val (.int (f0_m11 p0 p1)), .val (.int (f0_m18 p0 p1)), .val (.int (F1 (f0_m11 p0 p1))), .val (.int (f0_m25 p0 p1)), .val (.int (f0_m32 p0 p1)), .val (.int (f0_m39 p0 p1))] [(.int (f0_m25 p0 p1))])) _
      refine XS.ifYes X36.here hx rfl (pc0 := 133) (pc' := 150) rfl (hb hby at_133) rfl ((if0 _ _).trans (teq hc133_47).1) (by decide) (by decide) ?_
      show Steps p.tables e below (T36.setTop (mkF m 150 #[.val (.int p0), .val (.int p1), .val (.int (p1 &&& (3 : Int32))), .val (.int (f0_m11 p0 p1)), .val (.int (f0_m18 p0 p1)), .val (.int (F1 (f0_m11 p0 p1))), .val (.int (f0_m25 p0 p1)), .val (.int (f0_m32 p0 p1)), .val (.int (f0_m39 p0 p1))] [])) _
      refine XS.iconst X36.here hx rfl (hb hby at_150) ?_
      exact k)
    obtain ⟨fs, hr, hrun, hended, hW, hsame⟩ := X36.leave (v := some (.int (0 : Int32))) (fun h => by rw [Bd.returns] at h; cases h) hlk
    have hF : F0 p0 p1 = (0 : Int32) := by unfold F0; rw [if_neg hc123_41, if_neg hc128_44, if_pos hc133_47]
    exact ⟨_, _, pre48 _ (retN X36 hx (t := .boolean) Bd.returns (by simp) (hb hby at_151) hr), hrun, hended, _, _, rfl, ⟨by rw [hF], N36, e36⟩, ⟨_, rfl⟩, hW, hsame.mono (by decide) (by decide)⟩
  have pre49 : ∀ t, Steps p.tables e below (T36.setTop (mkF m 138 #[.val (.int p0), .val (.int p1), .val (.int (p1 &&& (3 : Int32))), .val (.int (f0_m11 p0 p1)), .val (.int (f0_m18 p0 p1)), .val (.int (F1 (f0_m11 p0 p1))), .val (.int (f0_m25 p0 p1)), .val (.int (f0_m32 p0 p1)), .val (.int (f0_m39 p0 p1))] [(.int (f0_m32 p0 p1))])) t → Steps p.tables e below (s₁.setTop (entryFrame m #[(.int p0), (.int p1)] maxLocals)) t := fun t k => pre46 t (by
    show Steps p.tables e below (T36.setTop (mkF m 133 #[.val (.int p0), .val (.int p1), .val (.int (p1 &&& (3 : Int32))), .val (.int (f0_m11 p0 p1)), .val (.int (f0_m18 p0 p1)), .val (.int (F1 (f0_m11 p0 p1))), .val (.int (f0_m25 p0 p1)), .val (.int (f0_m32 p0 p1)), .val (.int (f0_m39 p0 p1))] [(.int (f0_m25 p0 p1))])) _
    refine XS.ifNo X36.here hx rfl (hb hby at_133) rfl ((if0 _ _).trans (feq hc133_47).1) ?_
    show Steps p.tables e below (T36.setTop (mkF m 136 #[.val (.int p0), .val (.int p1), .val (.int (p1 &&& (3 : Int32))), .val (.int (f0_m11 p0 p1)), .val (.int (f0_m18 p0 p1)), .val (.int (F1 (f0_m11 p0 p1))), .val (.int (f0_m25 p0 p1)), .val (.int (f0_m32 p0 p1)), .val (.int (f0_m39 p0 p1))] [])) _
    refine XS.iload X36.here hx rfl (hb hby at_136) rfl ?_
    exact k)
  by_cases hc138_50 : (f0_m32 p0 p1) = (0 : Int32)
  · have pre51 : ∀ t, Steps p.tables e below (T36.setTop (mkF m 151 #[.val (.int p0), .val (.int p1), .val (.int (p1 &&& (3 : Int32))), .val (.int (f0_m11 p0 p1)), .val (.int (f0_m18 p0 p1)), .val (.int (F1 (f0_m11 p0 p1))), .val (.int (f0_m25 p0 p1)), .val (.int (f0_m32 p0 p1)), .val (.int (f0_m39 p0 p1))] [(.int (0 : Int32))])) t → Steps p.tables e below (s₁.setTop (entryFrame m #[(.int p0), (.int p1)] maxLocals)) t := fun t k => pre49 t (by
      show Steps p.tables e below (T36.setTop (mkF m 138 #[.val (.int p0), .val (.int p1), .val (.int (p1 &&& (3 : Int32))), .val (.int (f0_m11 p0 p1)), .val (.int (f0_m18 p0 p1)), .val (.int (F1 (f0_m11 p0 p1))), .val (.int (f0_m25 p0 p1)), .val (.int (f0_m32 p0 p1)), .val (.int (f0_m39 p0 p1))] [(.int (f0_m32 p0 p1))])) _
      refine XS.ifYes X36.here hx rfl (pc0 := 138) (pc' := 150) rfl (hb hby at_138) rfl ((if0 _ _).trans (teq hc138_50).1) (by decide) (by decide) ?_
      show Steps p.tables e below (T36.setTop (mkF m 150 #[.val (.int p0), .val (.int p1), .val (.int (p1 &&& (3 : Int32))), .val (.int (f0_m11 p0 p1)), .val (.int (f0_m18 p0 p1)), .val (.int (F1 (f0_m11 p0 p1))), .val (.int (f0_m25 p0 p1)), .val (.int (f0_m32 p0 p1)), .val (.int (f0_m39 p0 p1))] [])) _
      refine XS.iconst X36.here hx rfl (hb hby at_150) ?_
      exact k)
    obtain ⟨fs, hr, hrun, hended, hW, hsame⟩ := X36.leave (v := some (.int (0 : Int32))) (fun h => by rw [Bd.returns] at h; cases h) hlk
    have hF : F0 p0 p1 = (0 : Int32) := by unfold F0; rw [if_neg hc123_41, if_neg hc128_44, if_neg hc133_47, if_pos hc138_50]
    exact ⟨_, _, pre51 _ (retN X36 hx (t := .boolean) Bd.returns (by simp) (hb hby at_151) hr), hrun, hended, _, _, rfl, ⟨by rw [hF], N36, e36⟩, ⟨_, rfl⟩, hW, hsame.mono (by decide) (by decide)⟩
  have pre52 : ∀ t, Steps p.tables e below (T36.setTop (mkF m 143 #[.val (.int p0), .val (.int p1), .val (.int (p1 &&& (3 : Int32))), .val (.int (f0_m11 p0 p1)), .val (.int (f0_m18 p0 p1)), .val (.int (F1 (f0_m11 p0 p1))), .val (.int (f0_m25 p0 p1)), .val (.int (f0_m32 p0 p1)), .val (.int (f0_m39 p0 p1))] [(.int (f0_m39 p0 p1))])) t → Steps p.tables e below (s₁.setTop (entryFrame m #[(.int p0), (.int p1)] maxLocals)) t := fun t k => pre49 t (by
    show Steps p.tables e below (T36.setTop (mkF m 138 #[.val (.int p0), .val (.int p1), .val (.int (p1 &&& (3 : Int32))), .val (.int (f0_m11 p0 p1)), .val (.int (f0_m18 p0 p1)), .val (.int (F1 (f0_m11 p0 p1))), .val (.int (f0_m25 p0 p1)), .val (.int (f0_m32 p0 p1)), .val (.int (f0_m39 p0 p1))] [(.int (f0_m32 p0 p1))])) _
    refine XS.ifNo X36.here hx rfl (hb hby at_138) rfl ((if0 _ _).trans (feq hc138_50).1) ?_
    show Steps p.tables e below (T36.setTop (mkF m 141 #[.val (.int p0), .val (.int p1), .val (.int (p1 &&& (3 : Int32))), .val (.int (f0_m11 p0 p1)), .val (.int (f0_m18 p0 p1)), .val (.int (F1 (f0_m11 p0 p1))), .val (.int (f0_m25 p0 p1)), .val (.int (f0_m32 p0 p1)), .val (.int (f0_m39 p0 p1))] [])) _
    refine XS.iload X36.here hx rfl (hb hby at_141) rfl ?_
    exact k)
  by_cases hc143_53 : (f0_m39 p0 p1) = (0 : Int32)
  · have pre54 : ∀ t, Steps p.tables e below (T36.setTop (mkF m 151 #[.val (.int p0), .val (.int p1), .val (.int (p1 &&& (3 : Int32))), .val (.int (f0_m11 p0 p1)), .val (.int (f0_m18 p0 p1)), .val (.int (F1 (f0_m11 p0 p1))), .val (.int (f0_m25 p0 p1)), .val (.int (f0_m32 p0 p1)), .val (.int (f0_m39 p0 p1))] [(.int (0 : Int32))])) t → Steps p.tables e below (s₁.setTop (entryFrame m #[(.int p0), (.int p1)] maxLocals)) t := fun t k => pre52 t (by
      show Steps p.tables e below (T36.setTop (mkF m 143 #[.val (.int p0), .val (.int p1), .val (.int (p1 &&& (3 : Int32))), .val (.int (f0_m11 p0 p1)), .val (.int (f0_m18 p0 p1)), .val (.int (F1 (f0_m11 p0 p1))), .val (.int (f0_m25 p0 p1)), .val (.int (f0_m32 p0 p1)), .val (.int (f0_m39 p0 p1))] [(.int (f0_m39 p0 p1))])) _
      refine XS.ifYes X36.here hx rfl (pc0 := 143) (pc' := 150) rfl (hb hby at_143) rfl ((if0 _ _).trans (teq hc143_53).1) (by decide) (by decide) ?_
      show Steps p.tables e below (T36.setTop (mkF m 150 #[.val (.int p0), .val (.int p1), .val (.int (p1 &&& (3 : Int32))), .val (.int (f0_m11 p0 p1)), .val (.int (f0_m18 p0 p1)), .val (.int (F1 (f0_m11 p0 p1))), .val (.int (f0_m25 p0 p1)), .val (.int (f0_m32 p0 p1)), .val (.int (f0_m39 p0 p1))] [])) _
      refine XS.iconst X36.here hx rfl (hb hby at_150) ?_
      exact k)
    obtain ⟨fs, hr, hrun, hended, hW, hsame⟩ := X36.leave (v := some (.int (0 : Int32))) (fun h => by rw [Bd.returns] at h; cases h) hlk
    have hF : F0 p0 p1 = (0 : Int32) := by unfold F0; rw [if_neg hc123_41, if_neg hc128_44, if_neg hc133_47, if_neg hc138_50, if_pos hc143_53]
    exact ⟨_, _, pre54 _ (retN X36 hx (t := .boolean) Bd.returns (by simp) (hb hby at_151) hr), hrun, hended, _, _, rfl, ⟨by rw [hF], N36, e36⟩, ⟨_, rfl⟩, hW, hsame.mono (by decide) (by decide)⟩
  have pre55 : ∀ t, Steps p.tables e below (T36.setTop (mkF m 151 #[.val (.int p0), .val (.int p1), .val (.int (p1 &&& (3 : Int32))), .val (.int (f0_m11 p0 p1)), .val (.int (f0_m18 p0 p1)), .val (.int (F1 (f0_m11 p0 p1))), .val (.int (f0_m25 p0 p1)), .val (.int (f0_m32 p0 p1)), .val (.int (f0_m39 p0 p1))] [(.int (1 : Int32))])) t → Steps p.tables e below (s₁.setTop (entryFrame m #[(.int p0), (.int p1)] maxLocals)) t := fun t k => pre52 t (by
    show Steps p.tables e below (T36.setTop (mkF m 143 #[.val (.int p0), .val (.int p1), .val (.int (p1 &&& (3 : Int32))), .val (.int (f0_m11 p0 p1)), .val (.int (f0_m18 p0 p1)), .val (.int (F1 (f0_m11 p0 p1))), .val (.int (f0_m25 p0 p1)), .val (.int (f0_m32 p0 p1)), .val (.int (f0_m39 p0 p1))] [(.int (f0_m39 p0 p1))])) _
    refine XS.ifNo X36.here hx rfl (hb hby at_143) rfl ((if0 _ _).trans (feq hc143_53).1) ?_
    show Steps p.tables e below (T36.setTop (mkF m 146 #[.val (.int p0), .val (.int p1), .val (.int (p1 &&& (3 : Int32))), .val (.int (f0_m11 p0 p1)), .val (.int (f0_m18 p0 p1)), .val (.int (F1 (f0_m11 p0 p1))), .val (.int (f0_m25 p0 p1)), .val (.int (f0_m32 p0 p1)), .val (.int (f0_m39 p0 p1))] [])) _
    refine XS.iconst X36.here hx rfl (hb hby at_146) ?_
    show Steps p.tables e below (T36.setTop (mkF m 147 #[.val (.int p0), .val (.int p1), .val (.int (p1 &&& (3 : Int32))), .val (.int (f0_m11 p0 p1)), .val (.int (f0_m18 p0 p1)), .val (.int (F1 (f0_m11 p0 p1))), .val (.int (f0_m25 p0 p1)), .val (.int (f0_m32 p0 p1)), .val (.int (f0_m39 p0 p1))] [(.int (1 : Int32))])) _
    refine XS.goto X36.here hx rfl (pc0 := 147) (pc' := 151) rfl (hb hby at_147) (by decide) (by decide) ?_
    exact k)
  obtain ⟨fs, hr, hrun, hended, hW, hsame⟩ := X36.leave (v := some (.int (1 : Int32))) (fun h => by rw [Bd.returns] at h; cases h) hlk
  have hF : F0 p0 p1 = (1 : Int32) := by unfold F0; rw [if_neg hc123_41, if_neg hc128_44, if_neg hc133_47, if_neg hc138_50, if_neg hc143_53]
  exact ⟨_, _, pre55 _ (retN X36 hx (t := .boolean) Bd.returns (by simp) (hb hby at_151) hr), hrun, hended, _, _, rfl, ⟨by rw [hF], N36, e36⟩, ⟨_, rfl⟩, hW, hsame.mono (by decide) (by decide)⟩
theorem own_lit (x : Int32) (n : Nat) (h0 : 0 ≤ x.toInt) (h : x.toInt < n) (hn : n ≤ 2147483647) : ∃ k : Fin n, x = Int32.ofNat k.1 := by
  obtain ⟨k, hk⟩ : ∃ k : Nat, x.toInt = k := ⟨x.toInt.toNat, by omega⟩
  refine ⟨⟨k, by omega⟩, ?_⟩
  apply Int32.toInt_inj.mp
  rw [Int32.toInt_ofNat_of_lt (show k < 2 ^ 31 by omega), hk]
theorem own_fin : ∀ k : Fin 33, F1 (Int32.ofNat k.1) = F2 (Int32.ofNat k.1) := by decide
theorem own_eq (x : Int32) : F1 x = F2 x := by
  by_cases h0 : x.toInt < 0
  · have q : ∀ y : Int32, 0 ≤ y.toInt → ¬ x = y := fun y hy e => by rw [e] at h0; omega
    have q1 : x < 9 := by rw [Int32.lt_iff_toInt_lt]; exact Int.lt_trans h0 (by decide)
    unfold F1 F2
    rw [if_neg (q 32 (by decide)), if_neg (q 9 (by decide)), if_neg (q 13 (by decide)), if_neg (q 10 (by decide)), if_neg (q 32 (by decide)), if_pos q1]
  · by_cases h1 : x.toInt < 33
    · obtain ⟨k, rfl⟩ := own_lit x 33 (by omega) h1 (by omega)
      exact own_fin k
    · have q : ∀ y : Int32, y.toInt < 33 → ¬ x = y := fun y hy e => by rw [e] at h1; omega
      have g : ∀ y : Int32, y.toInt < 33 → y < x := fun y hy => by rw [Int32.lt_iff_toInt_lt]; omega
      have g' : ∀ y : Int32, y.toInt < 33 → ¬ x < y := fun y hy => by rw [Int32.lt_iff_toInt_lt]; omega
      unfold F1 F2
      rw [if_neg (q 32 (by decide)), if_neg (q 9 (by decide)), if_neg (q 13 (by decide)), if_neg (q 10 (by decide)), if_neg (q 32 (by decide)), if_neg (g' 9 (by decide)), if_pos (g 13 (by decide))]
theorem own_sel (p0 p1 : Int32) : f0_m11 p0 p1 = 32 ∨ f0_m11 p0 p1 = 9 ∨ f0_m11 p0 p1 = 13 ∨ f0_m11 p0 p1 = 10 := by
  unfold f0_m11
  by_cases h1 : (p1 &&& (3 : Int32)) = 0
  · rw [if_pos h1]; simp
  by_cases h2 : (p1 &&& (3 : Int32)) = 1
  · rw [if_neg h1, if_pos h2]; simp
  by_cases h3 : (p1 &&& (3 : Int32)) = 2
  · rw [if_neg h1, if_neg h2, if_pos h3]; simp
  · rw [if_neg h1, if_neg h2, if_neg h3]; simp
theorem own_law (p0 p1 : Int32) : F0 p0 p1 = 1 := by
  unfold F0 f0_m18 f0_m25 f0_m32 f0_m39
  rw [if_pos (own_eq _), if_pos (own_eq _), if_pos (own_eq _)]
  rcases own_sel p0 p1 with h | h | h | h <;> rw [h] <;> decide
set_option maxRecDepth 65536 in
set_option maxHeartbeats 40000000 in
theorem comes_1 {Post : Tables → Env → Array Value → State → Outcome → State → Prop} (hpost : ∀ tb e args s v u, (limb_1_1.after args s (.returned v) u = true ∧ limb_1_2.after args s (.returned v) u = true ∧ True) → FrameEnd s (.returned v) u (Jvm.fieldLocs frame_1_writes args s ++ Jvm.arrayLocs frame_1_arrays args s ++ Jvm.staticLocs frame_1_statics s) 0 0 → Post tb e args s (.returned v) u) :
    ArmFor flags0 classFile x code maxLocals ret World_1 tables_1 room_1 Calls_1 rest_1 Pre_1 Post := by
  intro l hfl _ _ p e ha hc hk s m args below hf hA hF happ hP
  obtain ⟨hcalls, hrest, hpre⟩ := hP
  obtain ⟨-, -, -, hnamed, -, -, -, hat⟩ := (Spec.applies_iff hf).mp happ
  obtain ⟨hg, hn⟩ := and_e (Cond.before_iff.mp (show (Jvm.Cond.and given_1 narrow_1).before args s = true from hpre))
  obtain ⟨hcount, g0⟩ := and_e hg
  obtain ⟨ga0, g1⟩ := and_e g0
  obtain ⟨w0, w1, rfl⟩ : ∃ w0 w1 : Value, args = #[w0, w1] := by
    have hs : args.size = 2 := by simpa [Cond.value, given_1] using hcount
    obtain ⟨L⟩ := args
    match L, hs with
    | [w0, w1], _ => exact ⟨w0, w1, rfl⟩
  have hw := fun d (hd : d ∈ tables_1) => atoms_spec (ws := Jvm.Cond.code x code maxLocals ret :: tables_1) hat d (List.mem_cons_of_mem _ hd)
  obtain ⟨i0, ei0⟩ := is_v ga0
  obtain rfl : w0 = (.int i0) := Option.some.inj ei0
  obtain ⟨i1, ei1⟩ := is_v g1
  obtain rfl : w1 = (.int i1) := Option.some.inj ei1
  obtain ⟨n, o, h1, h2, h3, _, L, rfl, ⟨rfl, N, -⟩, hq⟩ := rm0 l s _ hw tables_1 i0 i1 s.heap s.heap.size (Nat.le_refl _) p e ha hc hk s m _ below hf ((Spec.applies_iff_loose hf).mp happ).1 ⟨rfl, State.Warmed39.refl s, rfl⟩ trivial
  have hlaw := own_law i0 i1
  refine ⟨n, _, h1, h2, h3, hpost _ _ _ _ _ _ ⟨Cond.after_iff.mpr rfl, Cond.after_iff.mpr (eq_i res_at (Term.int_eval (1)) (congrArg Value.int hlaw)), trivial⟩ ⟨hq.1, hq.2.1, (hq.2.2.sift fun y hy => Or.inr (N y hy)).mono (by decide) (by decide)⟩⟩
theorem main_1_1 : Claimed_1_1 := comes_1 fun _ _ _ _ _ _ h hF => ⟨h.1, hF⟩
theorem main_1_2 : Claimed_1_2 := comes_1 fun _ _ _ _ _ _ h hF => ⟨h.2.1, hF⟩
end Jvm.Pilot.@@N@@
namespace Jvm.Pilot.@@N@@
open Jvm Jvm.ClassFile Sem Op Lib Jvm.Free Jvm.Stand Jvm.Pilot.@@N@@.Jvm.D
/-! MADE BY PROGRAM (witnessworld.py) out of the Statement's table words and the real class files: 9 classes; the members and pool entries that the words name. The judged class is class 1, her method 2. -/
namespace start1
open Jvm.ClassFile
def u (s : String) : CpInfo := .utf8 (stringToUtf16 s)
/-- a pool by its gaps: so many unusable entries, then the entry; so many at the end -/
def gap : Nat → List CpInfo → List CpInfo
  | 0, r => r
  | n + 1, r => .unusable :: gap n r
def poolList (es : List (Nat × CpInfo)) (last : Nat) : List CpInfo := es.foldr (fun e r => gap e.1 (e.2 :: r)) (gap last [])
def pool (es : List (Nat × CpInfo)) (last : Nat) : Array CpInfo := ⟨poolList es last⟩
def fileOf (pool : Array CpInfo) (this : Nat) (attrs : Array Attribute := #[]) (ms : Array MethodInfo := #[]) (fl : Nat := 33) (sup : Nat := 0) (ifs : Array Nat := #[]) (fds : Array FieldInfo := #[]) : ClassFile where
  minorVersion := 0
  majorVersion := 65
  constantPool := pool
  accessFlags := fl
  thisClass := this
  superClass := sup
  interfaces := ifs
  fields := fds
  methods := ms
  attributes := attrs
def plain (name : String) (sup : Option ClassId) : Class where
  name := name
  kind := .ordinary
  loader := none
  accessFlags := 33
  super := sup
  interfaces := #[]
  cf := none
  fields := #[]
  methods := #[]
  instanceTypes := #[]
  staticTypes := #[]
  resolved := #[]
  callSites := []
  init := .initialized
  statics := none
  mirror := none

def pool0 : Array CpInfo := pool [(5, u "<init>"), (0, u "()V"), (1, .class_ 10), (1, u "java/lang/Object")] 113

def k0m0 : Method := { name := "<init>", desc := "()V", sig := { parameters := [], returnType := none }, accessFlags := 1, code := none }
/-- java/lang/Object -/
def k0 : Class := { plain "java/lang/Object" none with
  accessFlags := 33
  interfaces := #[]
  cf := some (fileOf pool0 8 #[] #[{ accessFlags := 1, nameIndex := 5, descriptorIndex := 6, attributes := #[] }] 33 0 #[] #[])
  fields := #[]
  methods := #[k0m0]
  instanceTypes := #[]
  staticTypes := #[]
  resolved := Array.replicate 124 none
  statics := none }

def pool1 : Array CpInfo := pool [(2, .class_ 4), (1, u "java/lang/Object"), (0, u "<init>"), (0, u "()V"), (0, .methodref 8 9), (0, .class_ 10), (0, .nameAndType 11 12), (0, u "com/example/tenon/tenon/Parser"), (0, u "isSpace"), (0, u "(I)Z"), (0, .methodref 14 15), (0, .class_ 16), (0, .nameAndType 17 12), (0, u "com/example/tenon/tenon/ParserIsSpacePinLaw"), (0, u "reference"), (0, .integer 65536), (3, u "law"), (0, u "(II)Z")] 2

def k1m0 : Method := { name := "<init>", desc := "()V", sig := { parameters := [], returnType := none }, accessFlags := 2, code := none }
def k1c1 : Code := { maxStack := 2, maxLocals := 1, code := method_2_code, exceptionTable := #[], attributes := #[] }
def k1m1 : Method := { name := "reference", desc := "(I)Z", sig := { parameters := [.int], returnType := some .boolean }, accessFlags := 10, code := some k1c1 }
def k1c2 : Code := { maxStack := 3, maxLocals := 9, code := code, exceptionTable := #[], attributes := #[] }
def k1m2 : Method := { name := "law", desc := "(II)Z", sig := { parameters := [.int, .int], returnType := some .boolean }, accessFlags := 9, code := some k1c2 }
/-- com/example/tenon/tenon/ParserIsSpacePinLaw -/
def k1 : Class := { plain "com/example/tenon/tenon/ParserIsSpacePinLaw" (some 0) with
  accessFlags := 49
  interfaces := #[]
  cf := some (fileOf pool1 14 #[] #[{ accessFlags := 2, nameIndex := 5, descriptorIndex := 6, attributes := #[] }, { accessFlags := 10, nameIndex := 17, descriptorIndex := 12, attributes := #[] }, { accessFlags := 9, nameIndex := 22, descriptorIndex := 23, attributes := #[] }] 49 2 #[] #[])
  fields := #[]
  methods := #[k1m0, k1m1, k1m2]
  instanceTypes := #[]
  staticTypes := #[]
  resolved := Array.replicate 26 none
  statics := none }

def pool2 : Array CpInfo := pool [(2, .class_ 4), (1, u "java/lang/Object"), (3, .class_ 10), (1, u "com/example/tenon/tenon/Parser"), (0, u "source"), (0, u "Ljava/lang/String;"), (2, u "budget"), (0, u "Lcom/example/tenon/tenon/Budget;"), (2, u "quiet"), (0, u "Z"), (39, u "token"), (0, u "Lcom/example/tenon/tenon/Parser$Token;"), (1, .class_ 65), (1, u "com/example/tenon/tenon/Parser$Token"), (6, u "literal"), (0, u "Lcom/example/tenon/tenon/Value;"), (9, u "name"), (37, .class_ 122), (0, u "com/example/tenon/tenon/Parser$OpenCall"), (32, u "tokenStart"), (0, u "I"), (126, u "position"), (9, u "isSpace"), (0, u "(I)Z"), (183, u "CALL"), (0, u "J"), (3, u "LIST"), (2, u "LITERAL"), (0, u "LONGEST_NAME"), (1, u "EXACT_DIGITS"), (1, u "END_OF_PROGRAM")] 64

def k2c0 : Code := { maxStack := 2, maxLocals := 1, code := prog_75_method_17_code, exceptionTable := #[], attributes := #[] }
def k2m0 : Method := { name := "isSpace", desc := "(I)Z", sig := { parameters := [.int], returnType := some .boolean }, accessFlags := 8, code := some k2c0 }
/-- com/example/tenon/tenon/Parser -/
def k2 : Class := { plain "com/example/tenon/tenon/Parser" (some 0) with
  accessFlags := 48
  interfaces := #[]
  cf := some (fileOf pool2 8 #[.nestMembers #[121, 63]] #[{ accessFlags := 8, nameIndex := 293, descriptorIndex := 294, attributes := #[] }] 48 2 #[] #[{ accessFlags := 26, nameIndex := 478, descriptorIndex := 479, attributes := #[] }, { accessFlags := 26, nameIndex := 483, descriptorIndex := 479, attributes := #[] }, { accessFlags := 26, nameIndex := 486, descriptorIndex := 479, attributes := #[] }, { accessFlags := 26, nameIndex := 487, descriptorIndex := 156, attributes := #[] }, { accessFlags := 26, nameIndex := 489, descriptorIndex := 156, attributes := #[] }, { accessFlags := 26, nameIndex := 491, descriptorIndex := 12, attributes := #[] }, { accessFlags := 18, nameIndex := 11, descriptorIndex := 12, attributes := #[] }, { accessFlags := 18, nameIndex := 15, descriptorIndex := 16, attributes := #[] }, { accessFlags := 18, nameIndex := 19, descriptorIndex := 20, attributes := #[] }, { accessFlags := 2, nameIndex := 283, descriptorIndex := 156, attributes := #[] }, { accessFlags := 2, nameIndex := 60, descriptorIndex := 61, attributes := #[] }, { accessFlags := 2, nameIndex := 155, descriptorIndex := 156, attributes := #[] }, { accessFlags := 2, nameIndex := 83, descriptorIndex := 12, attributes := #[] }, { accessFlags := 2, nameIndex := 72, descriptorIndex := 73, attributes := #[] }])
  fields := #[{ name := "CALL", type := .long, accessFlags := 26, slot := 0, constantValue := 0 }, { name := "LIST", type := .long, accessFlags := 26, slot := 1, constantValue := 0 }, { name := "LITERAL", type := .long, accessFlags := 26, slot := 2, constantValue := 0 }, { name := "LONGEST_NAME", type := .int, accessFlags := 26, slot := 3, constantValue := 0 }, { name := "EXACT_DIGITS", type := .int, accessFlags := 26, slot := 4, constantValue := 0 }, { name := "END_OF_PROGRAM", type := (.object "java/lang/String"), accessFlags := 26, slot := 5, constantValue := 0 }, { name := "source", type := (.object "java/lang/String"), accessFlags := 18, slot := 0, constantValue := 0 }, { name := "budget", type := (.object "com/example/tenon/tenon/Budget"), accessFlags := 18, slot := 1, constantValue := 0 }, { name := "quiet", type := .boolean, accessFlags := 18, slot := 2, constantValue := 0 }, { name := "position", type := .int, accessFlags := 2, slot := 3, constantValue := 0 }, { name := "token", type := (.object "com/example/tenon/tenon/Parser$Token"), accessFlags := 2, slot := 4, constantValue := 0 }, { name := "tokenStart", type := .int, accessFlags := 2, slot := 5, constantValue := 0 }, { name := "name", type := (.object "java/lang/String"), accessFlags := 2, slot := 6, constantValue := 0 }, { name := "literal", type := (.object "com/example/tenon/tenon/Value"), accessFlags := 2, slot := 7, constantValue := 0 }]
  methods := #[k2m0]
  instanceTypes := #[(.object "java/lang/String"), (.object "com/example/tenon/tenon/Budget"), .boolean, .int, (.object "com/example/tenon/tenon/Parser$Token"), .int, (.object "java/lang/String"), (.object "com/example/tenon/tenon/Value")]
  staticTypes := #[.long, .long, .long, .int, .int, (.object "java/lang/String")]
  resolved := Array.replicate 556 none
  statics := none }

def pool3 : Array CpInfo := pool [(1, u "java/lang/Cloneable"), (0, .class_ 1), (0, u "java/lang/Object"), (0, .class_ 3)] 3

/-- java/lang/Cloneable -/
def k3 : Class := { plain "java/lang/Cloneable" (some 0) with
  accessFlags := 1537
  interfaces := #[]
  cf := some (fileOf pool3 2 #[] #[] 1537 4 #[] #[])
  fields := #[]
  methods := #[]
  instanceTypes := #[]
  staticTypes := #[]
  resolved := Array.replicate 8 none
  statics := none }

def pool4 : Array CpInfo := pool [(1, u "java/io/Serializable"), (0, .class_ 1), (0, u "java/lang/Object"), (0, .class_ 3)] 3

/-- java/io/Serializable -/
def k4 : Class := { plain "java/io/Serializable" (some 0) with
  accessFlags := 1537
  interfaces := #[]
  cf := some (fileOf pool4 2 #[] #[] 1537 4 #[] #[])
  fields := #[]
  methods := #[]
  instanceTypes := #[]
  staticTypes := #[]
  resolved := Array.replicate 8 none
  statics := none }

/-- the primitive byte -/
def k5 : Class := { plain "byte" none with kind := .primitive 'B', accessFlags := 0x411 }
/-- [B -/
def k6 : Class := { plain "[B" (some 0) with kind := .array 5 .byte, interfaces := #[3, 4], accessFlags := 1041 }

/-- the primitive int -/
def k7 : Class := { plain "int" none with kind := .primitive 'I', accessFlags := 0x411 }
/-- [I -/
def k8 : Class := { plain "[I" (some 0) with kind := .array 7 .int, interfaces := #[3, 4], accessFlags := 1041 }

def heap : Heap := #[]
def classes : Array Class := #[k0, k1, k2, k3, k4, k5, k6, k7, k8]
def interned : List (Array UInt16 × Addr) := []
def slotsUsed : Nat := 0
def theMethod : MethodId := ⟨1, 2⟩
def args0 : Array Value := #[.int 7, .int 7]
def aboutOver (below : List Frame) : State where
  vm := { classes := classes, interned := interned.toArray }
  heap := heap
  slotsUsed := slotsUsed
  threads := #[{ frames := .invoking theMethod args0 :: below }]
def below0 : List Frame := [.native { method := ⟨0, 0⟩, args := #[] }]
def about1 : State := aboutOver below0
def p0 : Program := .bare "" "" ""
def e0 : Env := launch0.env 0 0 0
theorem w_frames : about1.frames = Frame.invoking theMethod args0 :: below0 := rfl
set_option maxRecDepth 65536 in
theorem w_args : argsFit about1.vm theMethod args0 = true := by decide +kernel
set_option maxRecDepth 65536 in
theorem w_heap : heapFits about1 = true := by decide +kernel
set_option maxRecDepth 65536 in
theorem w_runnable : about1.curStatus? = some .runnable := by decide +kernel
set_option maxRecDepth 65536 in
theorem w_alone : about1.alone = true := by decide +kernel
set_option maxRecDepth 65536 in
theorem w_named : about1.methodNamed? x = some theMethod := by decide +kernel
set_option maxRecDepth 65536 in
theorem w_hears : about1.hears theMethod below0 = true := by decide +kernel
set_option maxRecDepth 65536 in
theorem w_ripe : about1.ripe theMethod args0 below0 = true := by decide +kernel
theorem w_running : about1.status = .running := rfl
set_option maxRecDepth 65536 in
theorem w_room : about1.hasRoom e0.platform room_1 = true :=
  launch0.hasRoom_least _ room_1 (by decide +kernel) (by decide +kernel) (by decide +kernel) (by decide +kernel) (by decide +kernel) (by decide +kernel)
theorem allAtoms_all (ts : List Jvm.Cond) (a : Array Jvm.Value) (st : Jvm.State) : (allAtoms ts).before a st = ts.all (fun c => c.before a st) := by
  induction ts with
  | nil => rfl
  | cons c t ih =>
    show (Jvm.Cond.and c (allAtoms t)).before a st = _
    rw [Jvm.Cond.before_and, ih, List.all_cons]
def words1 : List Jvm.Cond := Jvm.Cond.code x code maxLocals ret :: tables_1
/-- a 'code' word, met by the world's own term for the bytes: nothing is compared byte by byte -/
theorem code_word {y : MethodName} {bytes : ByteArray} {mx : Nat} {rt : Option FieldType} {a : Array Value} {s : State} {m : MethodId} {meth : Method} {c : Code} (h1 : s.methodNamed? y = some m) (h2 : s.vm.method? m = some meth) (h3 : meth.code = some c) (h4 : c.code = bytes)
    (h5 : (c.maxLocals == mx && c.exceptionTable.isEmpty && decide (c.maxStack ≤ mostOperands) && decide (meth.sig.returnType = rt) && !meth.locks && decide (parseMethodDescriptor y.desc = some meth.sig)) = true) : (Jvm.Cond.code y bytes mx rt).before a s = true := by
  simp only [Bool.and_eq_true, beq_iff_eq, Bool.not_eq_true', decide_eq_true_eq] at h5
  obtain ⟨⟨⟨⟨⟨g1, g2⟩, g3⟩, g4⟩, g5⟩, g6⟩ := h5
  simp [Cond.before, Cond.holds, Cond.value, h1, h2, h3, h4, g1, g2, g3, g4, g5, g6]
def isCode : Jvm.Cond → Bool
  | .code _ _ _ _ => true
  | _ => false
theorem all_split {L : List Jvm.Cond} {P : Jvm.Cond → Bool} (h1 : L.all (fun c => isCode c || P c) = true) (h2 : ∀ c ∈ L.filter isCode, P c = true) : L.all P = true := by
  refine List.all_eq_true.mpr fun c hc => ?_
  have h := List.all_eq_true.mp h1 c hc
  rcases Bool.eq_false_or_eq_true (isCode c) with hi | hi
  · exact h2 c (List.mem_filter.mpr ⟨hc, hi⟩)
  · simpa [hi] using h
set_option maxRecDepth 65536 in
theorem w_c0 : (Jvm.Cond.code x code maxLocals ret).before args0 about1 = true := code_word (m := ⟨1, 2⟩) (meth := k1m2) (c := k1c2) (by decide +kernel) rfl rfl rfl (by decide +kernel)
set_option maxRecDepth 65536 in
theorem w_c1 : (Jvm.Cond.code ({ cls := "com/example/tenon/tenon/Parser", name := "isSpace", desc := "(I)Z" } : Jvm.MethodName) prog_75_method_17_code (1 : Nat) (Option.some Jvm.ClassFile.FieldType.boolean)).before args0 about1 = true := code_word (m := ⟨2, 0⟩) (meth := k2m0) (c := k2c0) (by decide +kernel) rfl rfl rfl (by decide +kernel)
set_option maxRecDepth 65536 in
theorem w_c2 : (Jvm.Cond.code ({ cls := "com/example/tenon/tenon/ParserIsSpacePinLaw", name := "reference", desc := "(I)Z" } : Jvm.MethodName) method_2_code (1 : Nat) (Option.some Jvm.ClassFile.FieldType.boolean)).before args0 about1 = true := code_word (m := ⟨1, 1⟩) (meth := k1m1) (c := k1c1) (by decide +kernel) rfl rfl rfl (by decide +kernel)
def codes1 : List Jvm.Cond := [Jvm.Cond.code x code maxLocals ret, Jvm.Cond.code ({ cls := "com/example/tenon/tenon/Parser", name := "isSpace", desc := "(I)Z" } : Jvm.MethodName) prog_75_method_17_code (1 : Nat) (Option.some Jvm.ClassFile.FieldType.boolean), Jvm.Cond.code ({ cls := "com/example/tenon/tenon/ParserIsSpacePinLaw", name := "reference", desc := "(I)Z" } : Jvm.MethodName) method_2_code (1 : Nat) (Option.some Jvm.ClassFile.FieldType.boolean)]
set_option maxRecDepth 65536 in
theorem codes_eq : words1.filter isCode = codes1 := rfl
theorem w_codes : ∀ c ∈ words1.filter isCode, c.before args0 about1 = true := by
  rw [codes_eq]
  intro c hc
  simp only [codes1, List.mem_cons, List.not_mem_nil, or_false] at hc
  rcases hc with rfl | rfl | rfl
  · exact w_c0
  · exact w_c1
  · exact w_c2
set_option maxRecDepth 65536 in
theorem w_t1 : words1.all (fun c => isCode c || c.before args0 about1) = true := by decide +kernel
theorem w_tables : (allAtoms (Jvm.Cond.code x code maxLocals ret :: tables_1)).before args0 about1 = true := by
  rw [allAtoms_all]
  show words1.all (fun c => c.before args0 about1) = true
  refine all_split ?_ w_codes
  rw [w_t1]
set_option maxRecDepth 65536 in
theorem w_case : (Jvm.Cond.and given_1 narrow_1).before args0 about1 = true := by decide +kernel
theorem w_applies : (headSpec (Jvm.Cond.code x code maxLocals ret :: tables_1) room_1).applies x e0.platform about1 = true :=
  (Spec.applies_iff w_frames).mpr ⟨w_running, w_runnable, w_alone, w_named, w_hears, w_ripe, w_room, w_tables⟩
theorem atStart : AtStart classFile x code maxLocals ret World_1 tables_1 room_1 Calls_1 rest_1 Pre_1 launch0 p0 e0 about1 theMethod args0 below0 :=
  ⟨lists_1, trivial, launch0.admits_env _ _ _, launch0.least_env, fairChoices_fair.cas, fairChoices_fair.clock, w_frames, w_args, w_heap, w_applies, trivial, trivial, w_case⟩
end start1
theorem witness_1 : WitnessClaimed_1 := ⟨start1.p0, start1.e0, start1.about1, start1.theMethod, start1.args0, start1.below0, start1.atStart⟩
end Jvm.Pilot.@@N@@
