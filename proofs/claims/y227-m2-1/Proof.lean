import JvmDerived
import JvmDerived.Pilot.@@N@@Statement
import JvmDerived.Pilot.@@N@@Code
set_option linter.unusedVariables false
set_option linter.unusedSimpArgs false
namespace Jvm.RoadKit
open Sem ClassFile Op Lib Jvm.Stand Jvm.Free Jvm.LawKit
section New
variable {p : Program} {l : Launch} {e : Env} {R : Room} {s : State} {m : MethodId} {args : Array Value} {below : List Frame} {meth : Method} {c : Code} {T : State} {locs : List Loc} {cells slots : Nat}
theorem retI (X : Stand p l e R s m args below meth c T locs cells slots) (hx : p.tables.exec = Jvm.exec) {pc : Nat} {Ls : Array Slot} {z : Int32} {rest : List Value} (hret : meth.sig.returnType = some .int) (hd : decode c.code pc = .ok (.ireturn, 1)) {fs : List Frame}
    (hl : ∀ (f : JFrame) (acts : List Action), f.method = m → f.locked = none → f.entered = [] → (doReturn e (T.setTop f) acts (some (.int z))).1 = T.setFrames fs) : Steps p.tables e below (T.setTop (mkF m pc Ls (.int z :: rest))) (T.setFrames fs) := by
  have hm' : T.vm.method? m = some meth := X.method'
  have hn : narrow .int (.int z) = .int z := rfl
  show Steps p.tables e below (T.setTop { method := m, pc := pc, locals := Ls, stack := _ :: rest, locked := none }) _
  jvm_step X.here [X.here.top, hx, hd, hm', hret, hn]
  first | (intro acts; rw [hl _ acts rfl rfl rfl]) | rw [hl _ _ rfl rfl rfl]
  exact Steps.refl _
end New
end Jvm.RoadKit
namespace Jvm.Pilot.@@N@@
open Jvm Jvm.ClassFile Sem Op Lib Jvm.Free Jvm.Stand Jvm.LawKit Jvm.RoadKit Bundle Jvm.Pilot.@@N@@.Jvm.D
theorem d1_0 : decode prog_20_method_4_code 0 = .ok (.iload_n 0, 1) := by decide +kernel
theorem d1_1 : decode prog_20_method_4_code 1 = .ok (.sipush 4096, 3) := by decide +kernel
theorem d1_4 : decode prog_20_method_4_code 4 = .ok (.if_icmp .ge 15, 3) := by decide +kernel
theorem d1_7 : decode prog_20_method_4_code 7 = .ok (.iload_n 1, 1) := by decide +kernel
theorem d1_8 : decode prog_20_method_4_code 8 = .ok (.ifCond .eq 11, 3) := by decide +kernel
theorem d1_19 : decode prog_20_method_4_code 19 = .ok (.iconst 0, 1) := by decide +kernel
theorem d1_20 : decode prog_20_method_4_code 20 = .ok (.ireturn, 1) := by decide +kernel
theorem d1_11 : decode prog_20_method_4_code 11 = .ok (.iload_n 2, 1) := by decide +kernel
theorem d1_12 : decode prog_20_method_4_code 12 = .ok (.ifCond .eq 7, 3) := by decide +kernel
theorem d1_15 : decode prog_20_method_4_code 15 = .ok (.iconst 1, 1) := by decide +kernel
theorem d1_16 : decode prog_20_method_4_code 16 = .ok (.goto 4, 3) := by decide +kernel
theorem pd0 : parseMethodDescriptor "(IZZ)Z" = some ⟨[.int, .boolean, .boolean], some .boolean⟩ := by decide +kernel
theorem pn0 : plainName "com/example/infold/infold/format/Format" = true := by first | (simp [plainName, overriddenIn]; done) | decide +kernel
theorem pn1 : plainName "com/example/infold/infold/format/FormatKeepsNamePinLaw" = true := by first | (simp [plainName, overriddenIn]; done) | decide +kernel
def F1 (p0 : Int32) (p1 : Int32) (p2 : Int32) : Int32 := (if p0 < (4096 : Int32) then (if p1 = (0 : Int32) then (0 : Int32) else (if p2 = (0 : Int32) then (0 : Int32) else (1 : Int32))) else (0 : Int32))
theorem ef1 (m : MethodId) (x0 : Int32) (x1 : Int32) (x2 : Int32) : entryFrame m #[(.int x0), (.int x1), (.int x2)] 3 = mkF m 0 #[.val (.int x0), .val (.int x1), .val (.int x2)] [] := by first | (simp [entryFrame, mkF, argsToLocals, Value.category]; done) | rfl
def Q1 (Z : State) (p0 : Int32) (p1 : Int32) (p2 : Int32) (h0 : Heap) (n0 : Nat) (v : Option Value) (h : Heap) (L : List Loc) : Prop := v = some (.int (F1 p0 p1 p2)) ∧ Fr n0 L ∧ h = h0
set_option maxRecDepth 65536 in
set_option maxHeartbeats 40000000 in
theorem rm1 (l : Launch) (Z : State) (a0 : Array Value) (hw : ∀ d ∈ tables_1, d.before a0 Z = true) (ws : List Jvm.Cond) (p0 : Int32) (p1 : Int32) (p2 : Int32) (h0 : Heap) (n0 : Nat) (Z0 : n0 ≤ h0.size) :
    MetFree l (⟨"com/example/infold/infold/format/Format", "keepsName", "(IZZ)Z"⟩ : MethodName) (head1 (Jvm.Cond.code (⟨"com/example/infold/infold/format/Format", "keepsName", "(IZZ)Z"⟩ : MethodName) prog_20_method_4_code 3 (some .boolean) :: ws) ({ frames := 0, cells := 0, slots := 0, locals := 0 } : Room)) (fun a U => a = #[(.int p0), (.int p1), (.int p2)] ∧ Z.Warmed39 U.vm ∧ U.heap = h0) (fun _ _ _ _ _ => True) (fun _ U o U' => ∃ v L, o = .returned v ∧ Q1 Z p0 p1 p2 h0 n0 v U'.heap L ∧ FrameEnd U o U' L ({ frames := 0, cells := 0, slots := 0, locals := 0 } : Room).cells ({ frames := 0, cells := 0, slots := 0, locals := 0 } : Room).slots) := by
  refine MetFree.of_bodySF (plainFor_of_name pn0) hisR ?_
  intro p e s m args below meth c s₁ Bd hml0 hP hK
  obtain ⟨rfl, hZ, hh⟩ := hP
  have hx := Bd.exec
  have hby := Bd.bytes
  have hml : c.maxLocals = 3 := hml0
  have hown : s.vm.findClass "com/example/infold/infold/format/Format" = some m.cls := findClass_of_methodNamed Bd.named
  have hnm := (name_of_methodNamed Bd.named Bd.method).1
  have X0 : Stand p l e ({ frames := 0, cells := 0, slots := 0, locals := 0 } : Room) s m #[(.int p0), (.int p1), (.int p2)] below meth c s₁ [] 0 0 := Stand.of_body Bd
  have e0 : s₁.heap = h0 := by rw [← hh, Bd.state]; rfl
  have N0 := Fr.nil n0
  have pre0 : ∀ t, Steps p.tables e below (s₁.setTop (mkF m 0 #[.val (.int p0), .val (.int p1), .val (.int p2)] [])) t → Steps p.tables e below (s₁.setTop (entryFrame m #[(.int p0), (.int p1), (.int p2)] 3)) t := fun t k => castTop (ef1 m p0 p1 p2) k
  have pre1 : ∀ t, Steps p.tables e below (s₁.setTop (mkF m 4 #[.val (.int p0), .val (.int p1), .val (.int p2)] [(.int (4096 : Int32)), (.int p0)])) t → Steps p.tables e below (s₁.setTop (entryFrame m #[(.int p0), (.int p1), (.int p2)] 3)) t := fun t k => pre0 t (by
    show Steps p.tables e below (s₁.setTop (mkF m 0 #[.val (.int p0), .val (.int p1), .val (.int p2)] [])) _
    refine XS.iloadN X0.here hx rfl (hb hby d1_0) rfl ?_
    show Steps p.tables e below (s₁.setTop (mkF m 1 #[.val (.int p0), .val (.int p1), .val (.int p2)] [(.int p0)])) _
    refine XS.sipush X0.here hx rfl (hb hby d1_1) ?_
    exact k)
  by_cases hc4_2 : p0 < (4096 : Int32)
  · have pre3 : ∀ t, Steps p.tables e below (s₁.setTop (mkF m 8 #[.val (.int p0), .val (.int p1), .val (.int p2)] [(.int p1)])) t → Steps p.tables e below (s₁.setTop (entryFrame m #[(.int p0), (.int p1), (.int p2)] 3)) t := fun t k => pre1 t (by
      show Steps p.tables e below (s₁.setTop (mkF m 4 #[.val (.int p0), .val (.int p1), .val (.int p2)] [(.int (4096 : Int32)), (.int p0)])) _
      refine XS.icmpNo X0.here hx rfl (hb hby d1_4) rfl (tlt hc4_2).2.1 ?_
      show Steps p.tables e below (s₁.setTop (mkF m 7 #[.val (.int p0), .val (.int p1), .val (.int p2)] [])) _
      refine XS.iloadN X0.here hx rfl (hb hby d1_7) rfl ?_
      exact k)
    by_cases hc8_4 : p1 = (0 : Int32)
    · have pre5 : ∀ t, Steps p.tables e below (s₁.setTop (mkF m 20 #[.val (.int p0), .val (.int p1), .val (.int p2)] [(.int (0 : Int32))])) t → Steps p.tables e below (s₁.setTop (entryFrame m #[(.int p0), (.int p1), (.int p2)] 3)) t := fun t k => pre3 t (by
        show Steps p.tables e below (s₁.setTop (mkF m 8 #[.val (.int p0), .val (.int p1), .val (.int p2)] [(.int p1)])) _
        refine XS.ifYes X0.here hx rfl (pc0 := 8) (pc' := 19) rfl (hb hby d1_8) rfl ((if0 _ _).trans (teq hc8_4).1) (by decide) (by decide) ?_
        show Steps p.tables e below (s₁.setTop (mkF m 19 #[.val (.int p0), .val (.int p1), .val (.int p2)] [])) _
        refine XS.iconst X0.here hx rfl (hb hby d1_19) ?_
        exact k)
      obtain ⟨fs, hr, hrun, hended, hW, hsame⟩ := X0.leave (v := some (.int (0 : Int32))) (fun h => by rw [Bd.returns] at h; cases h)
      have hF : F1 p0 p1 p2 = (0 : Int32) := by unfold F1; rw [if_pos hc4_2, if_pos hc8_4]
      exact ⟨_, _, pre5 _ (retN X0 hx (t := .boolean) Bd.returns (by simp) (hb hby d1_20) hr), hrun, hended, _, _, rfl, ⟨by rw [hF], N0, e0⟩, ⟨_, rfl⟩, hW, hsame.mono (by decide) (by decide)⟩
    have pre6 : ∀ t, Steps p.tables e below (s₁.setTop (mkF m 12 #[.val (.int p0), .val (.int p1), .val (.int p2)] [(.int p2)])) t → Steps p.tables e below (s₁.setTop (entryFrame m #[(.int p0), (.int p1), (.int p2)] 3)) t := fun t k => pre3 t (by
      show Steps p.tables e below (s₁.setTop (mkF m 8 #[.val (.int p0), .val (.int p1), .val (.int p2)] [(.int p1)])) _
      refine XS.ifNo X0.here hx rfl (hb hby d1_8) rfl ((if0 _ _).trans (feq hc8_4).1) ?_
      show Steps p.tables e below (s₁.setTop (mkF m 11 #[.val (.int p0), .val (.int p1), .val (.int p2)] [])) _
      refine XS.iloadN X0.here hx rfl (hb hby d1_11) rfl ?_
      exact k)
    by_cases hc12_7 : p2 = (0 : Int32)
    · have pre8 : ∀ t, Steps p.tables e below (s₁.setTop (mkF m 20 #[.val (.int p0), .val (.int p1), .val (.int p2)] [(.int (0 : Int32))])) t → Steps p.tables e below (s₁.setTop (entryFrame m #[(.int p0), (.int p1), (.int p2)] 3)) t := fun t k => pre6 t (by
        show Steps p.tables e below (s₁.setTop (mkF m 12 #[.val (.int p0), .val (.int p1), .val (.int p2)] [(.int p2)])) _
        refine XS.ifYes X0.here hx rfl (pc0 := 12) (pc' := 19) rfl (hb hby d1_12) rfl ((if0 _ _).trans (teq hc12_7).1) (by decide) (by decide) ?_
        show Steps p.tables e below (s₁.setTop (mkF m 19 #[.val (.int p0), .val (.int p1), .val (.int p2)] [])) _
        refine XS.iconst X0.here hx rfl (hb hby d1_19) ?_
        exact k)
      obtain ⟨fs, hr, hrun, hended, hW, hsame⟩ := X0.leave (v := some (.int (0 : Int32))) (fun h => by rw [Bd.returns] at h; cases h)
      have hF : F1 p0 p1 p2 = (0 : Int32) := by unfold F1; rw [if_pos hc4_2, if_neg hc8_4, if_pos hc12_7]
      exact ⟨_, _, pre8 _ (retN X0 hx (t := .boolean) Bd.returns (by simp) (hb hby d1_20) hr), hrun, hended, _, _, rfl, ⟨by rw [hF], N0, e0⟩, ⟨_, rfl⟩, hW, hsame.mono (by decide) (by decide)⟩
    have pre9 : ∀ t, Steps p.tables e below (s₁.setTop (mkF m 20 #[.val (.int p0), .val (.int p1), .val (.int p2)] [(.int (1 : Int32))])) t → Steps p.tables e below (s₁.setTop (entryFrame m #[(.int p0), (.int p1), (.int p2)] 3)) t := fun t k => pre6 t (by
      show Steps p.tables e below (s₁.setTop (mkF m 12 #[.val (.int p0), .val (.int p1), .val (.int p2)] [(.int p2)])) _
      refine XS.ifNo X0.here hx rfl (hb hby d1_12) rfl ((if0 _ _).trans (feq hc12_7).1) ?_
      show Steps p.tables e below (s₁.setTop (mkF m 15 #[.val (.int p0), .val (.int p1), .val (.int p2)] [])) _
      refine XS.iconst X0.here hx rfl (hb hby d1_15) ?_
      show Steps p.tables e below (s₁.setTop (mkF m 16 #[.val (.int p0), .val (.int p1), .val (.int p2)] [(.int (1 : Int32))])) _
      refine XS.goto X0.here hx rfl (pc0 := 16) (pc' := 20) rfl (hb hby d1_16) (by decide) (by decide) ?_
      exact k)
    obtain ⟨fs, hr, hrun, hended, hW, hsame⟩ := X0.leave (v := some (.int (1 : Int32))) (fun h => by rw [Bd.returns] at h; cases h)
    have hF : F1 p0 p1 p2 = (1 : Int32) := by unfold F1; rw [if_pos hc4_2, if_neg hc8_4, if_neg hc12_7]
    exact ⟨_, _, pre9 _ (retN X0 hx (t := .boolean) Bd.returns (by simp) (hb hby d1_20) hr), hrun, hended, _, _, rfl, ⟨by rw [hF], N0, e0⟩, ⟨_, rfl⟩, hW, hsame.mono (by decide) (by decide)⟩
  have pre10 : ∀ t, Steps p.tables e below (s₁.setTop (mkF m 20 #[.val (.int p0), .val (.int p1), .val (.int p2)] [(.int (0 : Int32))])) t → Steps p.tables e below (s₁.setTop (entryFrame m #[(.int p0), (.int p1), (.int p2)] 3)) t := fun t k => pre1 t (by
    show Steps p.tables e below (s₁.setTop (mkF m 4 #[.val (.int p0), .val (.int p1), .val (.int p2)] [(.int (4096 : Int32)), (.int p0)])) _
    refine XS.icmpYes X0.here hx rfl (pc0 := 4) (pc' := 19) rfl (hb hby d1_4) rfl (flt hc4_2).2.1 (by decide) (by decide) ?_
    show Steps p.tables e below (s₁.setTop (mkF m 19 #[.val (.int p0), .val (.int p1), .val (.int p2)] [])) _
    refine XS.iconst X0.here hx rfl (hb hby d1_19) ?_
    exact k)
  obtain ⟨fs, hr, hrun, hended, hW, hsame⟩ := X0.leave (v := some (.int (0 : Int32))) (fun h => by rw [Bd.returns] at h; cases h)
  have hF : F1 p0 p1 p2 = (0 : Int32) := by unfold F1; rw [if_neg hc4_2]
  exact ⟨_, _, pre10 _ (retN X0 hx (t := .boolean) Bd.returns (by simp) (hb hby d1_20) hr), hrun, hended, _, _, rfl, ⟨by rw [hF], N0, e0⟩, ⟨_, rfl⟩, hW, hsame.mono (by decide) (by decide)⟩
def f0_m5 (p0 : Int32) (p1 : Int32) : Int32 := (if (p1 &&& (1 : Int32)) = (0 : Int32) then (0 : Int32) else (1 : Int32))
def f0_m10 (p0 : Int32) (p1 : Int32) : Int32 := (if (p1 &&& (2 : Int32)) = (0 : Int32) then (0 : Int32) else (1 : Int32))
def f0_m22 (p0 : Int32) (p1 : Int32) : Int32 := (if (f0_m5 p0 p1) = (0 : Int32) then (0 : Int32) else (if (f0_m10 p0 p1) = (0 : Int32) then (0 : Int32) else (if p0 < (4096 : Int32) then (1 : Int32) else (0 : Int32))))
def F0 (p0 : Int32) (p1 : Int32) : Int32 := (if (F1 p0 (f0_m5 p0 p1) (f0_m10 p0 p1)) = (f0_m22 p0 p1) then (1 : Int32) else (0 : Int32))
theorem ef0 (m : MethodId) (x0 : Int32) (x1 : Int32) : entryFrame m #[(.int x0), (.int x1)] maxLocals = mkF m 0 #[.val (.int x0), .val (.int x1), .unset, .unset, .unset, .unset] [] := by first | (simp [entryFrame, mkF, argsToLocals, Value.category, maxLocals]; done) | rfl
def Q0 (Z : State) (p0 : Int32) (p1 : Int32) (h0 : Heap) (n0 : Nat) (v : Option Value) (h : Heap) (L : List Loc) : Prop := v = some (.int (F0 p0 p1)) ∧ Fr n0 L ∧ h = h0
set_option maxRecDepth 65536 in
set_option maxHeartbeats 40000000 in
theorem rm0 (l : Launch) (Z : State) (a0 : Array Value) (hw : ∀ d ∈ tables_1, d.before a0 Z = true) (ws : List Jvm.Cond) (p0 : Int32) (p1 : Int32) (h0 : Heap) (n0 : Nat) (Z0 : n0 ≤ h0.size) :
    MetFree l x (head1 (Jvm.Cond.code x code maxLocals ret :: ws) room_1) (fun a U => a = #[(.int p0), (.int p1)] ∧ Z.Warmed39 U.vm ∧ U.heap = h0) (fun _ _ _ _ _ => True) (fun _ U o U' => ∃ v L, o = .returned v ∧ Q0 Z p0 p1 h0 n0 v U'.heap L ∧ FrameEnd U o U' L room_1.cells room_1.slots) := by
  refine MetFree.of_bodySF (plainFor_of_name pn1) hisR ?_
  intro p e s m args below meth c s₁ Bd hml0 hP hK
  obtain ⟨rfl, hZ, hh⟩ := hP
  have hx := Bd.exec
  have hby := Bd.bytes
  have hml : c.maxLocals = 6 := hml0
  have hown : s.vm.findClass "com/example/infold/infold/format/FormatKeepsNamePinLaw" = some m.cls := findClass_of_methodNamed Bd.named
  have hnm := (name_of_methodNamed Bd.named Bd.method).1
  have X0 : Stand p l e room_1 s m #[(.int p0), (.int p1)] below meth c s₁ [] 0 0 := Stand.of_body Bd
  have e0 : s₁.heap = h0 := by rw [← hh, Bd.state]; rfl
  have N0 := Fr.nil n0
  have pre0 : ∀ t, Steps p.tables e below (s₁.setTop (mkF m 0 #[.val (.int p0), .val (.int p1), .unset, .unset, .unset, .unset] [])) t → Steps p.tables e below (s₁.setTop (entryFrame m #[(.int p0), (.int p1)] maxLocals)) t := fun t k => castTop (ef0 m p0 p1) k
  have pre1 : ∀ t, Steps p.tables e below (s₁.setTop (mkF m 3 #[.val (.int p0), .val (.int p1), .unset, .unset, .unset, .unset] [(.int (p1 &&& (1 : Int32)))])) t → Steps p.tables e below (s₁.setTop (entryFrame m #[(.int p0), (.int p1)] maxLocals)) t := fun t k => pre0 t (by
    show Steps p.tables e below (s₁.setTop (mkF m 0 #[.val (.int p0), .val (.int p1), .unset, .unset, .unset, .unset] [])) _
    refine XS.iloadN X0.here hx rfl (hb hby at_0) rfl ?_
    show Steps p.tables e below (s₁.setTop (mkF m 1 #[.val (.int p0), .val (.int p1), .unset, .unset, .unset, .unset] [(.int p1)])) _
    refine XS.iconst X0.here hx rfl (hb hby at_1) ?_
    show Steps p.tables e below (s₁.setTop (mkF m 2 #[.val (.int p0), .val (.int p1), .unset, .unset, .unset, .unset] [(.int (1 : Int32)), (.int p1)])) _
    refine XS.iand X0.here hx rfl (hb hby at_2) rfl ?_
    exact k)
  obtain ⟨T2, L2, X2, e2, N2, pre2⟩ : ∃ (T' : State) (locs' : List Loc), Stand p l e room_1 s m #[(.int p0), (.int p1)] below meth c T' locs' 0 0 ∧ T'.heap = h0 ∧ Fr n0 locs' ∧ ∀ t, Steps p.tables e below (T'.setTop (mkF m 11 #[.val (.int p0), .val (.int p1), .unset, .unset, .unset, .unset] [(.int (f0_m5 p0 p1))])) t → Steps p.tables e below (s₁.setTop (entryFrame m #[(.int p0), (.int p1)] maxLocals)) t := by
    by_cases hc3_2 : (p1 &&& (1 : Int32)) = (0 : Int32)
    · have pre3 : ∀ t, Steps p.tables e below (s₁.setTop (mkF m 11 #[.val (.int p0), .val (.int p1), .unset, .unset, .unset, .unset] [(.int (0 : Int32))])) t → Steps p.tables e below (s₁.setTop (entryFrame m #[(.int p0), (.int p1)] maxLocals)) t := fun t k => pre1 t (by
        show Steps p.tables e below (s₁.setTop (mkF m 3 #[.val (.int p0), .val (.int p1), .unset, .unset, .unset, .unset] [(.int (p1 &&& (1 : Int32)))])) _
        refine XS.ifYes X0.here hx rfl (pc0 := 3) (pc' := 10) rfl (hb hby at_3) rfl ((if0 _ _).trans (teq hc3_2).1) (by decide) (by decide) ?_
        show Steps p.tables e below (s₁.setTop (mkF m 10 #[.val (.int p0), .val (.int p1), .unset, .unset, .unset, .unset] [])) _
        refine XS.iconst X0.here hx rfl (hb hby at_10) ?_
        exact k)
      have q_f0_m5 : f0_m5 p0 p1 = (0 : Int32) := by unfold f0_m5; rw [if_pos hc3_2]
      rw [q_f0_m5]
      exact ⟨s₁, _, X0, e0, N0, pre3⟩
    have pre4 : ∀ t, Steps p.tables e below (s₁.setTop (mkF m 11 #[.val (.int p0), .val (.int p1), .unset, .unset, .unset, .unset] [(.int (1 : Int32))])) t → Steps p.tables e below (s₁.setTop (entryFrame m #[(.int p0), (.int p1)] maxLocals)) t := fun t k => pre1 t (by
      show Steps p.tables e below (s₁.setTop (mkF m 3 #[.val (.int p0), .val (.int p1), .unset, .unset, .unset, .unset] [(.int (p1 &&& (1 : Int32)))])) _
      refine XS.ifNo X0.here hx rfl (hb hby at_3) rfl ((if0 _ _).trans (feq hc3_2).1) ?_
      show Steps p.tables e below (s₁.setTop (mkF m 6 #[.val (.int p0), .val (.int p1), .unset, .unset, .unset, .unset] [])) _
      refine XS.iconst X0.here hx rfl (hb hby at_6) ?_
      show Steps p.tables e below (s₁.setTop (mkF m 7 #[.val (.int p0), .val (.int p1), .unset, .unset, .unset, .unset] [(.int (1 : Int32))])) _
      refine XS.goto X0.here hx rfl (pc0 := 7) (pc' := 11) rfl (hb hby at_7) (by decide) (by decide) ?_
      exact k)
    have q_f0_m5 : f0_m5 p0 p1 = (1 : Int32) := by unfold f0_m5; rw [if_neg hc3_2]
    rw [q_f0_m5]
    exact ⟨s₁, _, X0, e0, N0, pre4⟩
  have pre6 : ∀ t, Steps p.tables e below (T2.setTop (mkF m 15 #[.val (.int p0), .val (.int p1), .val (.int (f0_m5 p0 p1)), .unset, .unset, .unset] [(.int (p1 &&& (2 : Int32)))])) t → Steps p.tables e below (s₁.setTop (entryFrame m #[(.int p0), (.int p1)] maxLocals)) t := fun t k => pre2 t (by
    show Steps p.tables e below (T2.setTop (mkF m 11 #[.val (.int p0), .val (.int p1), .unset, .unset, .unset, .unset] [(.int (f0_m5 p0 p1))])) _
    refine XS.istoreN X2.here hx rfl (hb hby at_11) rfl (l' := #[.val (.int p0), .val (.int p1), .val (.int (f0_m5 p0 p1)), .unset, .unset, .unset]) rfl ?_
    show Steps p.tables e below (T2.setTop (mkF m 12 #[.val (.int p0), .val (.int p1), .val (.int (f0_m5 p0 p1)), .unset, .unset, .unset] [])) _
    refine XS.iloadN X2.here hx rfl (hb hby at_12) rfl ?_
    show Steps p.tables e below (T2.setTop (mkF m 13 #[.val (.int p0), .val (.int p1), .val (.int (f0_m5 p0 p1)), .unset, .unset, .unset] [(.int p1)])) _
    refine XS.iconst X2.here hx rfl (hb hby at_13) ?_
    show Steps p.tables e below (T2.setTop (mkF m 14 #[.val (.int p0), .val (.int p1), .val (.int (f0_m5 p0 p1)), .unset, .unset, .unset] [(.int (2 : Int32)), (.int p1)])) _
    refine XS.iand X2.here hx rfl (hb hby at_14) rfl ?_
    exact k)
  obtain ⟨T7, L7, X7, e7, N7, pre7⟩ : ∃ (T' : State) (locs' : List Loc), Stand p l e room_1 s m #[(.int p0), (.int p1)] below meth c T' locs' 0 0 ∧ T'.heap = h0 ∧ Fr n0 locs' ∧ ∀ t, Steps p.tables e below (T'.setTop (mkF m 23 #[.val (.int p0), .val (.int p1), .val (.int (f0_m5 p0 p1)), .unset, .unset, .unset] [(.int (f0_m10 p0 p1))])) t → Steps p.tables e below (s₁.setTop (entryFrame m #[(.int p0), (.int p1)] maxLocals)) t := by
    by_cases hc15_7 : (p1 &&& (2 : Int32)) = (0 : Int32)
    · have pre8 : ∀ t, Steps p.tables e below (T2.setTop (mkF m 23 #[.val (.int p0), .val (.int p1), .val (.int (f0_m5 p0 p1)), .unset, .unset, .unset] [(.int (0 : Int32))])) t → Steps p.tables e below (s₁.setTop (entryFrame m #[(.int p0), (.int p1)] maxLocals)) t := fun t k => pre6 t (by
        show Steps p.tables e below (T2.setTop (mkF m 15 #[.val (.int p0), .val (.int p1), .val (.int (f0_m5 p0 p1)), .unset, .unset, .unset] [(.int (p1 &&& (2 : Int32)))])) _
        refine XS.ifYes X2.here hx rfl (pc0 := 15) (pc' := 22) rfl (hb hby at_15) rfl ((if0 _ _).trans (teq hc15_7).1) (by decide) (by decide) ?_
        show Steps p.tables e below (T2.setTop (mkF m 22 #[.val (.int p0), .val (.int p1), .val (.int (f0_m5 p0 p1)), .unset, .unset, .unset] [])) _
        refine XS.iconst X2.here hx rfl (hb hby at_22) ?_
        exact k)
      have q_f0_m10 : f0_m10 p0 p1 = (0 : Int32) := by unfold f0_m10; rw [if_pos hc15_7]
      rw [q_f0_m10]
      exact ⟨T2, _, X2, e2, N2, pre8⟩
    have pre9 : ∀ t, Steps p.tables e below (T2.setTop (mkF m 23 #[.val (.int p0), .val (.int p1), .val (.int (f0_m5 p0 p1)), .unset, .unset, .unset] [(.int (1 : Int32))])) t → Steps p.tables e below (s₁.setTop (entryFrame m #[(.int p0), (.int p1)] maxLocals)) t := fun t k => pre6 t (by
      show Steps p.tables e below (T2.setTop (mkF m 15 #[.val (.int p0), .val (.int p1), .val (.int (f0_m5 p0 p1)), .unset, .unset, .unset] [(.int (p1 &&& (2 : Int32)))])) _
      refine XS.ifNo X2.here hx rfl (hb hby at_15) rfl ((if0 _ _).trans (feq hc15_7).1) ?_
      show Steps p.tables e below (T2.setTop (mkF m 18 #[.val (.int p0), .val (.int p1), .val (.int (f0_m5 p0 p1)), .unset, .unset, .unset] [])) _
      refine XS.iconst X2.here hx rfl (hb hby at_18) ?_
      show Steps p.tables e below (T2.setTop (mkF m 19 #[.val (.int p0), .val (.int p1), .val (.int (f0_m5 p0 p1)), .unset, .unset, .unset] [(.int (1 : Int32))])) _
      refine XS.goto X2.here hx rfl (pc0 := 19) (pc' := 23) rfl (hb hby at_19) (by decide) (by decide) ?_
      exact k)
    have q_f0_m10 : f0_m10 p0 p1 = (1 : Int32) := by unfold f0_m10; rw [if_neg hc15_7]
    rw [q_f0_m10]
    exact ⟨T2, _, X2, e2, N2, pre9⟩
  obtain ⟨_, _, ⟨T11, L11, k11, n11⟩, -, X11, ⟨Lc11, hQ11, l11, y11, z11⟩, st11⟩ := Jvm.LawKit.callS X7 hx (y := (⟨"com/example/infold/infold/format/Format", "keepsName", "(IZZ)Z"⟩ : MethodName)) hown (mvT hZ (hw _ (List.mem_of_getElem? (i := 0) rfl))) (mvT hZ (hw _ (List.mem_of_getElem? (i := 1) rfl))) (mvT hZ (hw _ (List.mem_of_getElem? (i := 2) rfl))) (mvT hZ (hw _ (List.mem_of_getElem? (i := 3) rfl))) (by decide) (backOf (W := 0) (rm1 l Z a0 hw [] p0 (f0_m5 p0 p1) (f0_m10 p0 p1) h0 n0 Z0) hZ (hw _ (List.mem_of_getElem? (i := 3) rfl)) (hw _ (List.mem_of_getElem? (i := 2) rfl)) (by decide) (by decide)) (g := (mkF m 27 #[.val (.int p0), .val (.int p1), .val (.int (f0_m5 p0 p1)), .val (.int (f0_m10 p0 p1)), .unset, .unset] [(.int (f0_m10 p0 p1)), (.int (f0_m5 p0 p1)), (.int p0)])) rfl (by rw [hml]; rfl) (argsL := [(.int p0), (.int (f0_m5 p0 p1)), (.int (f0_m10 p0 p1))]) (rest := []) (lenOf pd0 rfl) rfl (by show 2 * 0 + _ ≤ _; exact Nat.le_of_eq rfl) (hb hby at_27) (fun _ _ => ⟨rfl, e7, (by decide : 0 + 0 ≤ _), (by decide : 0 + 0 ≤ _)⟩)
  dsimp only [Pt.U, Pt.locs, Pt.cells, Pt.slots] at X11 l11 y11 z11 st11 hQ11
  subst l11 y11 z11
  obtain ⟨rfl, N11q, e11⟩ := hQ11
  have N11 := Fr.app N7 N11q
  have pre12 : ∀ t, Steps p.tables e below (T11.setTop (mkF m 33 #[.val (.int p0), .val (.int p1), .val (.int (f0_m5 p0 p1)), .val (.int (f0_m10 p0 p1)), .val (.int (F1 p0 (f0_m5 p0 p1) (f0_m10 p0 p1))), .unset] [(.int (f0_m5 p0 p1))])) t → Steps p.tables e below (s₁.setTop (entryFrame m #[(.int p0), (.int p1)] maxLocals)) t := fun t k => pre7 t (by
    show Steps p.tables e below (T7.setTop (mkF m 23 #[.val (.int p0), .val (.int p1), .val (.int (f0_m5 p0 p1)), .unset, .unset, .unset] [(.int (f0_m10 p0 p1))])) _
    refine XS.istoreN X7.here hx rfl (hb hby at_23) rfl (l' := #[.val (.int p0), .val (.int p1), .val (.int (f0_m5 p0 p1)), .val (.int (f0_m10 p0 p1)), .unset, .unset]) rfl ?_
    show Steps p.tables e below (T7.setTop (mkF m 24 #[.val (.int p0), .val (.int p1), .val (.int (f0_m5 p0 p1)), .val (.int (f0_m10 p0 p1)), .unset, .unset] [])) _
    refine XS.iloadN X7.here hx rfl (hb hby at_24) rfl ?_
    show Steps p.tables e below (T7.setTop (mkF m 25 #[.val (.int p0), .val (.int p1), .val (.int (f0_m5 p0 p1)), .val (.int (f0_m10 p0 p1)), .unset, .unset] [(.int p0)])) _
    refine XS.iloadN X7.here hx rfl (hb hby at_25) rfl ?_
    show Steps p.tables e below (T7.setTop (mkF m 26 #[.val (.int p0), .val (.int p1), .val (.int (f0_m5 p0 p1)), .val (.int (f0_m10 p0 p1)), .unset, .unset] [(.int (f0_m5 p0 p1)), (.int p0)])) _
    refine XS.iloadN X7.here hx rfl (hb hby at_26) rfl ?_
    show Steps p.tables e below (T7.setTop (mkF m 27 #[.val (.int p0), .val (.int p1), .val (.int (f0_m5 p0 p1)), .val (.int (f0_m10 p0 p1)), .unset, .unset] [(.int (f0_m10 p0 p1)), (.int (f0_m5 p0 p1)), (.int p0)])) _
    refine st11 _ ?_
    show Steps p.tables e below (T11.setTop (mkF m 30 #[.val (.int p0), .val (.int p1), .val (.int (f0_m5 p0 p1)), .val (.int (f0_m10 p0 p1)), .unset, .unset] [(.int (F1 p0 (f0_m5 p0 p1) (f0_m10 p0 p1)))])) _
    refine XS.istore X11.here hx rfl (hb hby at_30) rfl (l' := #[.val (.int p0), .val (.int p1), .val (.int (f0_m5 p0 p1)), .val (.int (f0_m10 p0 p1)), .val (.int (F1 p0 (f0_m5 p0 p1) (f0_m10 p0 p1))), .unset]) rfl ?_
    show Steps p.tables e below (T11.setTop (mkF m 32 #[.val (.int p0), .val (.int p1), .val (.int (f0_m5 p0 p1)), .val (.int (f0_m10 p0 p1)), .val (.int (F1 p0 (f0_m5 p0 p1) (f0_m10 p0 p1))), .unset] [])) _
    refine XS.iloadN X11.here hx rfl (hb hby at_32) rfl ?_
    exact k)
  obtain ⟨T13, L13, X13, e13, N13, pre13⟩ : ∃ (T' : State) (locs' : List Loc), Stand p l e room_1 s m #[(.int p0), (.int p1)] below meth c T' locs' 0 0 ∧ T'.heap = h0 ∧ Fr n0 locs' ∧ ∀ t, Steps p.tables e below (T'.setTop (mkF m 68 #[.val (.int p0), .val (.int p1), .val (.int (f0_m5 p0 p1)), .val (.int (f0_m10 p0 p1)), .val (.int (F1 p0 (f0_m5 p0 p1) (f0_m10 p0 p1))), .val (.int (f0_m22 p0 p1))] [])) t → Steps p.tables e below (s₁.setTop (entryFrame m #[(.int p0), (.int p1)] maxLocals)) t := by
    by_cases hc33_13 : (f0_m5 p0 p1) = (0 : Int32)
    · have pre14 : ∀ t, Steps p.tables e below (T11.setTop (mkF m 68 #[.val (.int p0), .val (.int p1), .val (.int (f0_m5 p0 p1)), .val (.int (f0_m10 p0 p1)), .val (.int (F1 p0 (f0_m5 p0 p1) (f0_m10 p0 p1))), .val (.int (0 : Int32))] [])) t → Steps p.tables e below (s₁.setTop (entryFrame m #[(.int p0), (.int p1)] maxLocals)) t := fun t k => pre12 t (by
        show Steps p.tables e below (T11.setTop (mkF m 33 #[.val (.int p0), .val (.int p1), .val (.int (f0_m5 p0 p1)), .val (.int (f0_m10 p0 p1)), .val (.int (F1 p0 (f0_m5 p0 p1) (f0_m10 p0 p1))), .unset] [(.int (f0_m5 p0 p1))])) _
        refine XS.ifNo X11.here hx rfl (hb hby at_33) rfl ((if0 _ _).trans (teq hc33_13).2) ?_
        show Steps p.tables e below (T11.setTop (mkF m 36 #[.val (.int p0), .val (.int p1), .val (.int (f0_m5 p0 p1)), .val (.int (f0_m10 p0 p1)), .val (.int (F1 p0 (f0_m5 p0 p1) (f0_m10 p0 p1))), .unset] [])) _
        refine XS.iconst X11.here hx rfl (hb hby at_36) ?_
        show Steps p.tables e below (T11.setTop (mkF m 37 #[.val (.int p0), .val (.int p1), .val (.int (f0_m5 p0 p1)), .val (.int (f0_m10 p0 p1)), .val (.int (F1 p0 (f0_m5 p0 p1) (f0_m10 p0 p1))), .unset] [(.int (0 : Int32))])) _
        refine XS.istore X11.here hx rfl (hb hby at_37) rfl (l' := #[.val (.int p0), .val (.int p1), .val (.int (f0_m5 p0 p1)), .val (.int (f0_m10 p0 p1)), .val (.int (F1 p0 (f0_m5 p0 p1) (f0_m10 p0 p1))), .val (.int (0 : Int32))]) rfl ?_
        show Steps p.tables e below (T11.setTop (mkF m 39 #[.val (.int p0), .val (.int p1), .val (.int (f0_m5 p0 p1)), .val (.int (f0_m10 p0 p1)), .val (.int (F1 p0 (f0_m5 p0 p1) (f0_m10 p0 p1))), .val (.int (0 : Int32))] [])) _
        refine XS.goto X11.here hx rfl (pc0 := 39) (pc' := 68) rfl (hb hby at_39) (by decide) (by decide) ?_
        exact k)
      have q_f0_m22 : f0_m22 p0 p1 = (0 : Int32) := by unfold f0_m22; rw [if_pos hc33_13]
      rw [q_f0_m22]
      exact ⟨T11, _, X11, e11, N11, pre14⟩
    have pre15 : ∀ t, Steps p.tables e below (T11.setTop (mkF m 43 #[.val (.int p0), .val (.int p1), .val (.int (f0_m5 p0 p1)), .val (.int (f0_m10 p0 p1)), .val (.int (F1 p0 (f0_m5 p0 p1) (f0_m10 p0 p1))), .unset] [(.int (f0_m10 p0 p1))])) t → Steps p.tables e below (s₁.setTop (entryFrame m #[(.int p0), (.int p1)] maxLocals)) t := fun t k => pre12 t (by
      show Steps p.tables e below (T11.setTop (mkF m 33 #[.val (.int p0), .val (.int p1), .val (.int (f0_m5 p0 p1)), .val (.int (f0_m10 p0 p1)), .val (.int (F1 p0 (f0_m5 p0 p1) (f0_m10 p0 p1))), .unset] [(.int (f0_m5 p0 p1))])) _
      refine XS.ifYes X11.here hx rfl (pc0 := 33) (pc' := 42) rfl (hb hby at_33) rfl ((if0 _ _).trans (feq hc33_13).2) (by decide) (by decide) ?_
      show Steps p.tables e below (T11.setTop (mkF m 42 #[.val (.int p0), .val (.int p1), .val (.int (f0_m5 p0 p1)), .val (.int (f0_m10 p0 p1)), .val (.int (F1 p0 (f0_m5 p0 p1) (f0_m10 p0 p1))), .unset] [])) _
      refine XS.iloadN X11.here hx rfl (hb hby at_42) rfl ?_
      exact k)
    by_cases hc43_16 : (f0_m10 p0 p1) = (0 : Int32)
    · have pre17 : ∀ t, Steps p.tables e below (T11.setTop (mkF m 68 #[.val (.int p0), .val (.int p1), .val (.int (f0_m5 p0 p1)), .val (.int (f0_m10 p0 p1)), .val (.int (F1 p0 (f0_m5 p0 p1) (f0_m10 p0 p1))), .val (.int (0 : Int32))] [])) t → Steps p.tables e below (s₁.setTop (entryFrame m #[(.int p0), (.int p1)] maxLocals)) t := fun t k => pre15 t (by
        show Steps p.tables e below (T11.setTop (mkF m 43 #[.val (.int p0), .val (.int p1), .val (.int (f0_m5 p0 p1)), .val (.int (f0_m10 p0 p1)), .val (.int (F1 p0 (f0_m5 p0 p1) (f0_m10 p0 p1))), .unset] [(.int (f0_m10 p0 p1))])) _
        refine XS.ifNo X11.here hx rfl (hb hby at_43) rfl ((if0 _ _).trans (teq hc43_16).2) ?_
        show Steps p.tables e below (T11.setTop (mkF m 46 #[.val (.int p0), .val (.int p1), .val (.int (f0_m5 p0 p1)), .val (.int (f0_m10 p0 p1)), .val (.int (F1 p0 (f0_m5 p0 p1) (f0_m10 p0 p1))), .unset] [])) _
        refine XS.iconst X11.here hx rfl (hb hby at_46) ?_
        show Steps p.tables e below (T11.setTop (mkF m 47 #[.val (.int p0), .val (.int p1), .val (.int (f0_m5 p0 p1)), .val (.int (f0_m10 p0 p1)), .val (.int (F1 p0 (f0_m5 p0 p1) (f0_m10 p0 p1))), .unset] [(.int (0 : Int32))])) _
        refine XS.istore X11.here hx rfl (hb hby at_47) rfl (l' := #[.val (.int p0), .val (.int p1), .val (.int (f0_m5 p0 p1)), .val (.int (f0_m10 p0 p1)), .val (.int (F1 p0 (f0_m5 p0 p1) (f0_m10 p0 p1))), .val (.int (0 : Int32))]) rfl ?_
        show Steps p.tables e below (T11.setTop (mkF m 49 #[.val (.int p0), .val (.int p1), .val (.int (f0_m5 p0 p1)), .val (.int (f0_m10 p0 p1)), .val (.int (F1 p0 (f0_m5 p0 p1) (f0_m10 p0 p1))), .val (.int (0 : Int32))] [])) _
        refine XS.goto X11.here hx rfl (pc0 := 49) (pc' := 68) rfl (hb hby at_49) (by decide) (by decide) ?_
        exact k)
      have q_f0_m22 : f0_m22 p0 p1 = (0 : Int32) := by unfold f0_m22; rw [if_neg hc33_13, if_pos hc43_16]
      rw [q_f0_m22]
      exact ⟨T11, _, X11, e11, N11, pre17⟩
    have pre18 : ∀ t, Steps p.tables e below (T11.setTop (mkF m 56 #[.val (.int p0), .val (.int p1), .val (.int (f0_m5 p0 p1)), .val (.int (f0_m10 p0 p1)), .val (.int (F1 p0 (f0_m5 p0 p1) (f0_m10 p0 p1))), .unset] [(.int (4096 : Int32)), (.int p0)])) t → Steps p.tables e below (s₁.setTop (entryFrame m #[(.int p0), (.int p1)] maxLocals)) t := fun t k => pre15 t (by
      show Steps p.tables e below (T11.setTop (mkF m 43 #[.val (.int p0), .val (.int p1), .val (.int (f0_m5 p0 p1)), .val (.int (f0_m10 p0 p1)), .val (.int (F1 p0 (f0_m5 p0 p1) (f0_m10 p0 p1))), .unset] [(.int (f0_m10 p0 p1))])) _
      refine XS.ifYes X11.here hx rfl (pc0 := 43) (pc' := 52) rfl (hb hby at_43) rfl ((if0 _ _).trans (feq hc43_16).2) (by decide) (by decide) ?_
      show Steps p.tables e below (T11.setTop (mkF m 52 #[.val (.int p0), .val (.int p1), .val (.int (f0_m5 p0 p1)), .val (.int (f0_m10 p0 p1)), .val (.int (F1 p0 (f0_m5 p0 p1) (f0_m10 p0 p1))), .unset] [])) _
      refine XS.iloadN X11.here hx rfl (hb hby at_52) rfl ?_
      show Steps p.tables e below (T11.setTop (mkF m 53 #[.val (.int p0), .val (.int p1), .val (.int (f0_m5 p0 p1)), .val (.int (f0_m10 p0 p1)), .val (.int (F1 p0 (f0_m5 p0 p1) (f0_m10 p0 p1))), .unset] [(.int p0)])) _
      refine XS.sipush X11.here hx rfl (hb hby at_53) ?_
      exact k)
    by_cases hc56_19 : p0 < (4096 : Int32)
    · have pre20 : ∀ t, Steps p.tables e below (T11.setTop (mkF m 68 #[.val (.int p0), .val (.int p1), .val (.int (f0_m5 p0 p1)), .val (.int (f0_m10 p0 p1)), .val (.int (F1 p0 (f0_m5 p0 p1) (f0_m10 p0 p1))), .val (.int (1 : Int32))] [])) t → Steps p.tables e below (s₁.setTop (entryFrame m #[(.int p0), (.int p1)] maxLocals)) t := fun t k => pre18 t (by
        show Steps p.tables e below (T11.setTop (mkF m 56 #[.val (.int p0), .val (.int p1), .val (.int (f0_m5 p0 p1)), .val (.int (f0_m10 p0 p1)), .val (.int (F1 p0 (f0_m5 p0 p1) (f0_m10 p0 p1))), .unset] [(.int (4096 : Int32)), (.int p0)])) _
        refine XS.icmpYes X11.here hx rfl (pc0 := 56) (pc' := 65) rfl (hb hby at_56) rfl (tlt hc56_19).1 (by decide) (by decide) ?_
        show Steps p.tables e below (T11.setTop (mkF m 65 #[.val (.int p0), .val (.int p1), .val (.int (f0_m5 p0 p1)), .val (.int (f0_m10 p0 p1)), .val (.int (F1 p0 (f0_m5 p0 p1) (f0_m10 p0 p1))), .unset] [])) _
        refine XS.iconst X11.here hx rfl (hb hby at_65) ?_
        show Steps p.tables e below (T11.setTop (mkF m 66 #[.val (.int p0), .val (.int p1), .val (.int (f0_m5 p0 p1)), .val (.int (f0_m10 p0 p1)), .val (.int (F1 p0 (f0_m5 p0 p1) (f0_m10 p0 p1))), .unset] [(.int (1 : Int32))])) _
        refine XS.istore X11.here hx rfl (hb hby at_66) rfl (l' := #[.val (.int p0), .val (.int p1), .val (.int (f0_m5 p0 p1)), .val (.int (f0_m10 p0 p1)), .val (.int (F1 p0 (f0_m5 p0 p1) (f0_m10 p0 p1))), .val (.int (1 : Int32))]) rfl ?_
        exact k)
      have q_f0_m22 : f0_m22 p0 p1 = (1 : Int32) := by unfold f0_m22; rw [if_neg hc33_13, if_neg hc43_16, if_pos hc56_19]
      rw [q_f0_m22]
      exact ⟨T11, _, X11, e11, N11, pre20⟩
    have pre21 : ∀ t, Steps p.tables e below (T11.setTop (mkF m 68 #[.val (.int p0), .val (.int p1), .val (.int (f0_m5 p0 p1)), .val (.int (f0_m10 p0 p1)), .val (.int (F1 p0 (f0_m5 p0 p1) (f0_m10 p0 p1))), .val (.int (0 : Int32))] [])) t → Steps p.tables e below (s₁.setTop (entryFrame m #[(.int p0), (.int p1)] maxLocals)) t := fun t k => pre18 t (by
      show Steps p.tables e below (T11.setTop (mkF m 56 #[.val (.int p0), .val (.int p1), .val (.int (f0_m5 p0 p1)), .val (.int (f0_m10 p0 p1)), .val (.int (F1 p0 (f0_m5 p0 p1) (f0_m10 p0 p1))), .unset] [(.int (4096 : Int32)), (.int p0)])) _
      refine XS.icmpNo X11.here hx rfl (hb hby at_56) rfl (flt hc56_19).1 ?_
      show Steps p.tables e below (T11.setTop (mkF m 59 #[.val (.int p0), .val (.int p1), .val (.int (f0_m5 p0 p1)), .val (.int (f0_m10 p0 p1)), .val (.int (F1 p0 (f0_m5 p0 p1) (f0_m10 p0 p1))), .unset] [])) _
      refine XS.iconst X11.here hx rfl (hb hby at_59) ?_
      show Steps p.tables e below (T11.setTop (mkF m 60 #[.val (.int p0), .val (.int p1), .val (.int (f0_m5 p0 p1)), .val (.int (f0_m10 p0 p1)), .val (.int (F1 p0 (f0_m5 p0 p1) (f0_m10 p0 p1))), .unset] [(.int (0 : Int32))])) _
      refine XS.istore X11.here hx rfl (hb hby at_60) rfl (l' := #[.val (.int p0), .val (.int p1), .val (.int (f0_m5 p0 p1)), .val (.int (f0_m10 p0 p1)), .val (.int (F1 p0 (f0_m5 p0 p1) (f0_m10 p0 p1))), .val (.int (0 : Int32))]) rfl ?_
      show Steps p.tables e below (T11.setTop (mkF m 62 #[.val (.int p0), .val (.int p1), .val (.int (f0_m5 p0 p1)), .val (.int (f0_m10 p0 p1)), .val (.int (F1 p0 (f0_m5 p0 p1) (f0_m10 p0 p1))), .val (.int (0 : Int32))] [])) _
      refine XS.goto X11.here hx rfl (pc0 := 62) (pc' := 68) rfl (hb hby at_62) (by decide) (by decide) ?_
      exact k)
    have q_f0_m22 : f0_m22 p0 p1 = (0 : Int32) := by unfold f0_m22; rw [if_neg hc33_13, if_neg hc43_16, if_neg hc56_19]
    rw [q_f0_m22]
    exact ⟨T11, _, X11, e11, N11, pre21⟩
  have pre23 : ∀ t, Steps p.tables e below (T13.setTop (mkF m 72 #[.val (.int p0), .val (.int p1), .val (.int (f0_m5 p0 p1)), .val (.int (f0_m10 p0 p1)), .val (.int (F1 p0 (f0_m5 p0 p1) (f0_m10 p0 p1))), .val (.int (f0_m22 p0 p1))] [(.int (f0_m22 p0 p1)), (.int (F1 p0 (f0_m5 p0 p1) (f0_m10 p0 p1)))])) t → Steps p.tables e below (s₁.setTop (entryFrame m #[(.int p0), (.int p1)] maxLocals)) t := fun t k => pre13 t (by
    show Steps p.tables e below (T13.setTop (mkF m 68 #[.val (.int p0), .val (.int p1), .val (.int (f0_m5 p0 p1)), .val (.int (f0_m10 p0 p1)), .val (.int (F1 p0 (f0_m5 p0 p1) (f0_m10 p0 p1))), .val (.int (f0_m22 p0 p1))] [])) _
    refine XS.iload X13.here hx rfl (hb hby at_68) rfl ?_
    show Steps p.tables e below (T13.setTop (mkF m 70 #[.val (.int p0), .val (.int p1), .val (.int (f0_m5 p0 p1)), .val (.int (f0_m10 p0 p1)), .val (.int (F1 p0 (f0_m5 p0 p1) (f0_m10 p0 p1))), .val (.int (f0_m22 p0 p1))] [(.int (F1 p0 (f0_m5 p0 p1) (f0_m10 p0 p1)))])) _
    refine XS.iload X13.here hx rfl (hb hby at_70) rfl ?_
    exact k)
  by_cases hc72_24 : (F1 p0 (f0_m5 p0 p1) (f0_m10 p0 p1)) = (f0_m22 p0 p1)
  · have pre25 : ∀ t, Steps p.tables e below (T13.setTop (mkF m 80 #[.val (.int p0), .val (.int p1), .val (.int (f0_m5 p0 p1)), .val (.int (f0_m10 p0 p1)), .val (.int (F1 p0 (f0_m5 p0 p1) (f0_m10 p0 p1))), .val (.int (f0_m22 p0 p1))] [(.int (1 : Int32))])) t → Steps p.tables e below (s₁.setTop (entryFrame m #[(.int p0), (.int p1)] maxLocals)) t := fun t k => pre23 t (by
      show Steps p.tables e below (T13.setTop (mkF m 72 #[.val (.int p0), .val (.int p1), .val (.int (f0_m5 p0 p1)), .val (.int (f0_m10 p0 p1)), .val (.int (F1 p0 (f0_m5 p0 p1) (f0_m10 p0 p1))), .val (.int (f0_m22 p0 p1))] [(.int (f0_m22 p0 p1)), (.int (F1 p0 (f0_m5 p0 p1) (f0_m10 p0 p1)))])) _
      refine XS.icmpNo X13.here hx rfl (hb hby at_72) rfl (teq hc72_24).2 ?_
      show Steps p.tables e below (T13.setTop (mkF m 75 #[.val (.int p0), .val (.int p1), .val (.int (f0_m5 p0 p1)), .val (.int (f0_m10 p0 p1)), .val (.int (F1 p0 (f0_m5 p0 p1) (f0_m10 p0 p1))), .val (.int (f0_m22 p0 p1))] [])) _
      refine XS.iconst X13.here hx rfl (hb hby at_75) ?_
      show Steps p.tables e below (T13.setTop (mkF m 76 #[.val (.int p0), .val (.int p1), .val (.int (f0_m5 p0 p1)), .val (.int (f0_m10 p0 p1)), .val (.int (F1 p0 (f0_m5 p0 p1) (f0_m10 p0 p1))), .val (.int (f0_m22 p0 p1))] [(.int (1 : Int32))])) _
      refine XS.goto X13.here hx rfl (pc0 := 76) (pc' := 80) rfl (hb hby at_76) (by decide) (by decide) ?_
      exact k)
    obtain ⟨fs, hr, hrun, hended, hW, hsame⟩ := X13.leave (v := some (.int (1 : Int32))) (fun h => by rw [Bd.returns] at h; cases h)
    have hF : F0 p0 p1 = (1 : Int32) := by unfold F0; rw [if_pos hc72_24]
    exact ⟨_, _, pre25 _ (retN X13 hx (t := .boolean) Bd.returns (by simp) (hb hby at_80) hr), hrun, hended, _, _, rfl, ⟨by rw [hF], N13, e13⟩, ⟨_, rfl⟩, hW, hsame.mono (by decide) (by decide)⟩
  have pre26 : ∀ t, Steps p.tables e below (T13.setTop (mkF m 80 #[.val (.int p0), .val (.int p1), .val (.int (f0_m5 p0 p1)), .val (.int (f0_m10 p0 p1)), .val (.int (F1 p0 (f0_m5 p0 p1) (f0_m10 p0 p1))), .val (.int (f0_m22 p0 p1))] [(.int (0 : Int32))])) t → Steps p.tables e below (s₁.setTop (entryFrame m #[(.int p0), (.int p1)] maxLocals)) t := fun t k => pre23 t (by
    show Steps p.tables e below (T13.setTop (mkF m 72 #[.val (.int p0), .val (.int p1), .val (.int (f0_m5 p0 p1)), .val (.int (f0_m10 p0 p1)), .val (.int (F1 p0 (f0_m5 p0 p1) (f0_m10 p0 p1))), .val (.int (f0_m22 p0 p1))] [(.int (f0_m22 p0 p1)), (.int (F1 p0 (f0_m5 p0 p1) (f0_m10 p0 p1)))])) _
    refine XS.icmpYes X13.here hx rfl (pc0 := 72) (pc' := 79) rfl (hb hby at_72) rfl (feq hc72_24).2 (by decide) (by decide) ?_
    show Steps p.tables e below (T13.setTop (mkF m 79 #[.val (.int p0), .val (.int p1), .val (.int (f0_m5 p0 p1)), .val (.int (f0_m10 p0 p1)), .val (.int (F1 p0 (f0_m5 p0 p1) (f0_m10 p0 p1))), .val (.int (f0_m22 p0 p1))] [])) _
    refine XS.iconst X13.here hx rfl (hb hby at_79) ?_
    exact k)
  obtain ⟨fs, hr, hrun, hended, hW, hsame⟩ := X13.leave (v := some (.int (0 : Int32))) (fun h => by rw [Bd.returns] at h; cases h)
  have hF : F0 p0 p1 = (0 : Int32) := by unfold F0; rw [if_neg hc72_24]
  exact ⟨_, _, pre26 _ (retN X13 hx (t := .boolean) Bd.returns (by simp) (hb hby at_80) hr), hrun, hended, _, _, rfl, ⟨by rw [hF], N13, e13⟩, ⟨_, rfl⟩, hW, hsame.mono (by decide) (by decide)⟩
theorem own_law (p0 p1 : Int32) : F0 p0 p1 = 1 := by
  unfold F0 F1 f0_m22 f0_m5 f0_m10
  by_cases h1 : (p1 &&& (1 : Int32)) = 0 <;> by_cases h2 : (p1 &&& (2 : Int32)) = 0 <;> by_cases h3 : p0 < (4096 : Int32) <;> simp [h1, h2, h3]
set_option maxRecDepth 65536 in
set_option maxHeartbeats 40000000 in
theorem comes_1 {Post : Tables → Env → Array Value → State → Outcome → State → Prop} (hpost : ∀ tb e args s v u, (limb_1_1.after args s (.returned v) u = true ∧ limb_1_2.after args s (.returned v) u = true ∧ True) → FrameEnd s (.returned v) u (Jvm.fieldLocs frame_1_writes args s ++ Jvm.arrayLocs frame_1_arrays args s ++ Jvm.staticLocs frame_1_statics s) 0 0 → Post tb e args s (.returned v) u) :
    ArmFor flags0 classFile x code maxLocals ret World_1 tables_1 room_1 Calls_1 rest_1 Pre_1 Post := by
  intro l hfl _ _ p e ha hc hk s m args below hf hA hF happ hP
  obtain ⟨hcalls, hrest, hpre⟩ := hP
  obtain ⟨-, -, -, hnamed, -, -, -, hat⟩ := (Spec.applies_iff hf).mp happ
  obtain ⟨hg, hn⟩ := and_e (Cond.before_iff.mp (show (Jvm.Cond.and given_1 narrow_1).before args s = true from hpre))
  obtain ⟨hcount, g0⟩ := and_e hg
  obtain ⟨ga0, g1⟩ := and_e g0
  obtain ⟨w0, w1, rfl⟩ : ∃ w0 w1 : Value, args = #[w0, w1] := by
    have hs : args.size = 2 := by simpa [Cond.value, given_1] using hcount
    obtain ⟨L⟩ := args
    match L, hs with
    | [w0, w1], _ => exact ⟨w0, w1, rfl⟩
  have hw := fun d (hd : d ∈ tables_1) => atoms_spec (ws := Jvm.Cond.code x code maxLocals ret :: tables_1) hat d (List.mem_cons_of_mem _ hd)
  obtain ⟨i0, ei0⟩ := is_v ga0
  obtain rfl : w0 = (.int i0) := Option.some.inj ei0
  obtain ⟨i1, ei1⟩ := is_v g1
  obtain rfl : w1 = (.int i1) := Option.some.inj ei1
  obtain ⟨n, o, h1, h2, h3, _, L, rfl, ⟨rfl, N, -⟩, hq⟩ := rm0 l s _ hw tables_1 i0 i1 s.heap s.heap.size (Nat.le_refl _) p e ha hc hk s m _ below hf ((Spec.applies_iff_loose hf).mp happ).1 ⟨rfl, State.Warmed39.refl s, rfl⟩ trivial
  have hlaw := own_law i0 i1
  refine ⟨n, _, h1, h2, h3, hpost _ _ _ _ _ _ ⟨Cond.after_iff.mpr rfl, Cond.after_iff.mpr (eq_i res_at (Term.int_eval (1)) (congrArg Value.int hlaw)), trivial⟩ ⟨hq.1, hq.2.1, (hq.2.2.sift fun y hy => Or.inr (N y hy)).mono (by decide) (by decide)⟩⟩
theorem main_1_1 : Claimed_1_1 := comes_1 fun _ _ _ _ _ _ h hF => ⟨h.1, hF⟩
theorem main_1_2 : Claimed_1_2 := comes_1 fun _ _ _ _ _ _ h hF => ⟨h.2.1, hF⟩
end Jvm.Pilot.@@N@@
namespace Jvm.Pilot.@@N@@
open Jvm Jvm.ClassFile Sem Op Lib Jvm.Free Jvm.Stand Jvm.Pilot.@@N@@.Jvm.D
/-! MADE BY PROGRAM (witnessworld.py) out of the Statement's table words and the real class files: 9 classes; the members and pool entries that the words name. The judged class is class 1, her method 1. -/
namespace start1
open Jvm.ClassFile
def u (s : String) : CpInfo := .utf8 (stringToUtf16 s)
/-- a pool by its gaps: so many unusable entries, then the entry; so many at the end -/
def gap : Nat → List CpInfo → List CpInfo
  | 0, r => r
  | n + 1, r => .unusable :: gap n r
def poolList (es : List (Nat × CpInfo)) (last : Nat) : List CpInfo := es.foldr (fun e r => gap e.1 (e.2 :: r)) (gap last [])
def pool (es : List (Nat × CpInfo)) (last : Nat) : Array CpInfo := ⟨poolList es last⟩
def fileOf (pool : Array CpInfo) (this : Nat) (attrs : Array Attribute := #[]) (ms : Array MethodInfo := #[]) (fl : Nat := 33) (sup : Nat := 0) (ifs : Array Nat := #[]) (fds : Array FieldInfo := #[]) : ClassFile where
  minorVersion := 0
  majorVersion := 65
  constantPool := pool
  accessFlags := fl
  thisClass := this
  superClass := sup
  interfaces := ifs
  fields := fds
  methods := ms
  attributes := attrs
def plain (name : String) (sup : Option ClassId) : Class where
  name := name
  kind := .ordinary
  loader := none
  accessFlags := 33
  super := sup
  interfaces := #[]
  cf := none
  fields := #[]
  methods := #[]
  instanceTypes := #[]
  staticTypes := #[]
  resolved := #[]
  callSites := []
  init := .initialized
  statics := none
  mirror := none

def pool0 : Array CpInfo := pool [(5, u "<init>"), (0, u "()V"), (1, .class_ 10), (1, u "java/lang/Object")] 113

def k0m0 : Method := { name := "<init>", desc := "()V", sig := { parameters := [], returnType := none }, accessFlags := 1, code := none }
/-- java/lang/Object -/
def k0 : Class := { plain "java/lang/Object" none with
  accessFlags := 33
  interfaces := #[]
  cf := some (fileOf pool0 8 #[] #[{ accessFlags := 1, nameIndex := 5, descriptorIndex := 6, attributes := #[] }] 33 0 #[] #[])
  fields := #[]
  methods := #[k0m0]
  instanceTypes := #[]
  staticTypes := #[]
  resolved := Array.replicate 124 none
  statics := none }

def pool1 : Array CpInfo := pool [(2, .class_ 4), (1, u "java/lang/Object"), (0, u "<init>"), (0, u "()V"), (0, .methodref 8 9), (0, .class_ 10), (0, .nameAndType 11 12), (0, u "com/example/infold/infold/format/Format"), (0, u "keepsName"), (0, u "(IZZ)Z"), (0, .class_ 14), (0, u "com/example/infold/infold/format/FormatKeepsNamePinLaw"), (2, u "law"), (0, u "(II)Z")] 3

def k1m0 : Method := { name := "<init>", desc := "()V", sig := { parameters := [], returnType := none }, accessFlags := 2, code := none }
def k1c1 : Code := { maxStack := 3, maxLocals := 6, code := code, exceptionTable := #[], attributes := #[] }
def k1m1 : Method := { name := "law", desc := "(II)Z", sig := { parameters := [.int, .int], returnType := some .boolean }, accessFlags := 9, code := some k1c1 }
/-- com/example/infold/infold/format/FormatKeepsNamePinLaw -/
def k1 : Class := { plain "com/example/infold/infold/format/FormatKeepsNamePinLaw" (some 0) with
  accessFlags := 49
  interfaces := #[]
  cf := some (fileOf pool1 13 #[] #[{ accessFlags := 2, nameIndex := 5, descriptorIndex := 6, attributes := #[] }, { accessFlags := 9, nameIndex := 17, descriptorIndex := 18, attributes := #[] }] 49 2 #[] #[])
  fields := #[]
  methods := #[k1m0, k1m1]
  instanceTypes := #[]
  staticTypes := #[]
  resolved := Array.replicate 22 none
  statics := none }

def pool2 : Array CpInfo := pool [(2, .class_ 4), (1, u "java/lang/Object"), (0, u "<init>"), (0, u "()V"), (0, .class_ 8), (0, u "com/example/infold/infold/format/Format"), (4, u "HEADER"), (0, u "[B"), (8, u "INITIAL_PREFIXES"), (0, u "[Ljava/lang/String;"), (4, u "INITIAL_NAMESPACES"), (0, u "VERSION"), (0, u "I"), (2, u "START_ELEMENT"), (1, u "ATTRIBUTE"), (1, u "CHARACTERS"), (1, u "ENDS_ELEMENT"), (1, u "FROM_TABLE"), (1, u "END_ELEMENT"), (1, u "END_DOCUMENT"), (1, u "NAMESPACE"), (1, u "COMMENT"), (1, u "PROCESSING_INSTRUCTION"), (1, u "DOCUMENT_TYPE"), (1, u "NOTATION"), (1, u "DOCUMENT_TYPE_COMMENT"), (1, u "START_STREAM"), (1, u "END_STREAM"), (1, u "ELEMENT_NAMED_DOCUMENT_TYPE"), (1, u "HAS_SYSTEM_ID"), (0, u "HAS_PUBLIC_ID"), (1, u "NEW_NAME"), (0, u "NEW_PREFIXED_NAME"), (0, u "FIRST_NAME_ENTRY"), (0, u "KIND_MASK"), (0, u "XML_PREFIX"), (0, u "Ljava/lang/String;"), (0, u "XML_NAMESPACE"), (0, u "XMLNS_NAMESPACE"), (2, u "NAME_TABLE_CAPACITY"), (1, u "VALUE_TABLE_CAPACITY"), (1, u "TABLE_BUDGET"), (0, u "J"), (0, u "LONGEST_KEPT_STRING"), (1, u "LONGEST_KEPT_TEXT"), (0, u "MAX_DEPTH"), (1, u "MAX_ATTRIBUTES"), (8, u "keepsName"), (0, u "(IZZ)Z")] 3

def k2m0 : Method := { name := "<init>", desc := "()V", sig := { parameters := [], returnType := none }, accessFlags := 2, code := none }
def k2c1 : Code := { maxStack := 2, maxLocals := 3, code := prog_20_method_4_code, exceptionTable := #[], attributes := #[] }
def k2m1 : Method := { name := "keepsName", desc := "(IZZ)Z", sig := { parameters := [.int, .boolean, .boolean], returnType := some .boolean }, accessFlags := 8, code := some k2c1 }
/-- com/example/infold/infold/format/Format -/
def k2 : Class := { plain "com/example/infold/infold/format/Format" (some 0) with
  accessFlags := 48
  interfaces := #[]
  cf := some (fileOf pool2 7 #[] #[{ accessFlags := 2, nameIndex := 5, descriptorIndex := 6, attributes := #[] }, { accessFlags := 8, nameIndex := 99, descriptorIndex := 100, attributes := #[] }] 48 2 #[] #[{ accessFlags := 24, nameIndex := 13, descriptorIndex := 14, attributes := #[] }, { accessFlags := 24, nameIndex := 30, descriptorIndex := 31, attributes := #[] }, { accessFlags := 24, nameIndex := 34, descriptorIndex := 31, attributes := #[] }, { accessFlags := 24, nameIndex := 36, descriptorIndex := 31, attributes := #[] }, { accessFlags := 24, nameIndex := 38, descriptorIndex := 31, attributes := #[] }, { accessFlags := 24, nameIndex := 40, descriptorIndex := 31, attributes := #[] }, { accessFlags := 24, nameIndex := 42, descriptorIndex := 31, attributes := #[] }, { accessFlags := 24, nameIndex := 44, descriptorIndex := 31, attributes := #[] }, { accessFlags := 24, nameIndex := 46, descriptorIndex := 31, attributes := #[] }, { accessFlags := 24, nameIndex := 48, descriptorIndex := 31, attributes := #[] }, { accessFlags := 24, nameIndex := 50, descriptorIndex := 31, attributes := #[] }, { accessFlags := 24, nameIndex := 52, descriptorIndex := 31, attributes := #[] }, { accessFlags := 24, nameIndex := 54, descriptorIndex := 31, attributes := #[] }, { accessFlags := 24, nameIndex := 56, descriptorIndex := 31, attributes := #[] }, { accessFlags := 24, nameIndex := 58, descriptorIndex := 31, attributes := #[] }, { accessFlags := 24, nameIndex := 60, descriptorIndex := 31, attributes := #[] }, { accessFlags := 24, nameIndex := 62, descriptorIndex := 31, attributes := #[] }, { accessFlags := 24, nameIndex := 64, descriptorIndex := 31, attributes := #[] }, { accessFlags := 24, nameIndex := 66, descriptorIndex := 31, attributes := #[] }, { accessFlags := 24, nameIndex := 67, descriptorIndex := 31, attributes := #[] }, { accessFlags := 24, nameIndex := 69, descriptorIndex := 31, attributes := #[] }, { accessFlags := 24, nameIndex := 70, descriptorIndex := 31, attributes := #[] }, { accessFlags := 24, nameIndex := 71, descriptorIndex := 31, attributes := #[] }, { accessFlags := 24, nameIndex := 72, descriptorIndex := 31, attributes := #[] }, { accessFlags := 24, nameIndex := 73, descriptorIndex := 74, attributes := #[] }, { accessFlags := 24, nameIndex := 75, descriptorIndex := 74, attributes := #[] }, { accessFlags := 24, nameIndex := 76, descriptorIndex := 74, attributes := #[] }, { accessFlags := 24, nameIndex := 23, descriptorIndex := 24, attributes := #[] }, { accessFlags := 24, nameIndex := 29, descriptorIndex := 24, attributes := #[] }, { accessFlags := 24, nameIndex := 79, descriptorIndex := 31, attributes := #[] }, { accessFlags := 24, nameIndex := 81, descriptorIndex := 31, attributes := #[] }, { accessFlags := 24, nameIndex := 83, descriptorIndex := 84, attributes := #[] }, { accessFlags := 24, nameIndex := 85, descriptorIndex := 31, attributes := #[] }, { accessFlags := 24, nameIndex := 87, descriptorIndex := 31, attributes := #[] }, { accessFlags := 24, nameIndex := 88, descriptorIndex := 31, attributes := #[] }, { accessFlags := 24, nameIndex := 90, descriptorIndex := 31, attributes := #[] }])
  fields := #[{ name := "HEADER", type := (.array .byte), accessFlags := 24, slot := 0, constantValue := 0 }, { name := "VERSION", type := .int, accessFlags := 24, slot := 1, constantValue := 0 }, { name := "START_ELEMENT", type := .int, accessFlags := 24, slot := 2, constantValue := 0 }, { name := "ATTRIBUTE", type := .int, accessFlags := 24, slot := 3, constantValue := 0 }, { name := "CHARACTERS", type := .int, accessFlags := 24, slot := 4, constantValue := 0 }, { name := "ENDS_ELEMENT", type := .int, accessFlags := 24, slot := 5, constantValue := 0 }, { name := "FROM_TABLE", type := .int, accessFlags := 24, slot := 6, constantValue := 0 }, { name := "END_ELEMENT", type := .int, accessFlags := 24, slot := 7, constantValue := 0 }, { name := "END_DOCUMENT", type := .int, accessFlags := 24, slot := 8, constantValue := 0 }, { name := "NAMESPACE", type := .int, accessFlags := 24, slot := 9, constantValue := 0 }, { name := "COMMENT", type := .int, accessFlags := 24, slot := 10, constantValue := 0 }, { name := "PROCESSING_INSTRUCTION", type := .int, accessFlags := 24, slot := 11, constantValue := 0 }, { name := "DOCUMENT_TYPE", type := .int, accessFlags := 24, slot := 12, constantValue := 0 }, { name := "NOTATION", type := .int, accessFlags := 24, slot := 13, constantValue := 0 }, { name := "DOCUMENT_TYPE_COMMENT", type := .int, accessFlags := 24, slot := 14, constantValue := 0 }, { name := "START_STREAM", type := .int, accessFlags := 24, slot := 15, constantValue := 0 }, { name := "END_STREAM", type := .int, accessFlags := 24, slot := 16, constantValue := 0 }, { name := "ELEMENT_NAMED_DOCUMENT_TYPE", type := .int, accessFlags := 24, slot := 17, constantValue := 0 }, { name := "HAS_SYSTEM_ID", type := .int, accessFlags := 24, slot := 18, constantValue := 0 }, { name := "HAS_PUBLIC_ID", type := .int, accessFlags := 24, slot := 19, constantValue := 0 }, { name := "NEW_NAME", type := .int, accessFlags := 24, slot := 20, constantValue := 0 }, { name := "NEW_PREFIXED_NAME", type := .int, accessFlags := 24, slot := 21, constantValue := 0 }, { name := "FIRST_NAME_ENTRY", type := .int, accessFlags := 24, slot := 22, constantValue := 0 }, { name := "KIND_MASK", type := .int, accessFlags := 24, slot := 23, constantValue := 0 }, { name := "XML_PREFIX", type := (.object "java/lang/String"), accessFlags := 24, slot := 24, constantValue := 0 }, { name := "XML_NAMESPACE", type := (.object "java/lang/String"), accessFlags := 24, slot := 25, constantValue := 0 }, { name := "XMLNS_NAMESPACE", type := (.object "java/lang/String"), accessFlags := 24, slot := 26, constantValue := 0 }, { name := "INITIAL_PREFIXES", type := (.array (.object "java/lang/String")), accessFlags := 24, slot := 27, constantValue := 0 }, { name := "INITIAL_NAMESPACES", type := (.array (.object "java/lang/String")), accessFlags := 24, slot := 28, constantValue := 0 }, { name := "NAME_TABLE_CAPACITY", type := .int, accessFlags := 24, slot := 29, constantValue := 0 }, { name := "VALUE_TABLE_CAPACITY", type := .int, accessFlags := 24, slot := 30, constantValue := 0 }, { name := "TABLE_BUDGET", type := .long, accessFlags := 24, slot := 31, constantValue := 0 }, { name := "LONGEST_KEPT_STRING", type := .int, accessFlags := 24, slot := 32, constantValue := 0 }, { name := "LONGEST_KEPT_TEXT", type := .int, accessFlags := 24, slot := 33, constantValue := 0 }, { name := "MAX_DEPTH", type := .int, accessFlags := 24, slot := 34, constantValue := 0 }, { name := "MAX_ATTRIBUTES", type := .int, accessFlags := 24, slot := 35, constantValue := 0 }]
  methods := #[k2m0, k2m1]
  instanceTypes := #[]
  staticTypes := #[(.array .byte), .int, .int, .int, .int, .int, .int, .int, .int, .int, .int, .int, .int, .int, .int, .int, .int, .int, .int, .int, .int, .int, .int, .int, (.object "java/lang/String"), (.object "java/lang/String"), (.object "java/lang/String"), (.array (.object "java/lang/String")), (.array (.object "java/lang/String")), .int, .int, .long, .int, .int, .int, .int]
  resolved := Array.replicate 104 none
  statics := none }

def pool3 : Array CpInfo := pool [(1, u "java/lang/Cloneable"), (0, .class_ 1), (0, u "java/lang/Object"), (0, .class_ 3)] 3

/-- java/lang/Cloneable -/
def k3 : Class := { plain "java/lang/Cloneable" (some 0) with
  accessFlags := 1537
  interfaces := #[]
  cf := some (fileOf pool3 2 #[] #[] 1537 4 #[] #[])
  fields := #[]
  methods := #[]
  instanceTypes := #[]
  staticTypes := #[]
  resolved := Array.replicate 8 none
  statics := none }

def pool4 : Array CpInfo := pool [(1, u "java/io/Serializable"), (0, .class_ 1), (0, u "java/lang/Object"), (0, .class_ 3)] 3

/-- java/io/Serializable -/
def k4 : Class := { plain "java/io/Serializable" (some 0) with
  accessFlags := 1537
  interfaces := #[]
  cf := some (fileOf pool4 2 #[] #[] 1537 4 #[] #[])
  fields := #[]
  methods := #[]
  instanceTypes := #[]
  staticTypes := #[]
  resolved := Array.replicate 8 none
  statics := none }

/-- the primitive byte -/
def k5 : Class := { plain "byte" none with kind := .primitive 'B', accessFlags := 0x411 }
/-- [B -/
def k6 : Class := { plain "[B" (some 0) with kind := .array 5 .byte, interfaces := #[3, 4], accessFlags := 1041 }

/-- the primitive int -/
def k7 : Class := { plain "int" none with kind := .primitive 'I', accessFlags := 0x411 }
/-- [I -/
def k8 : Class := { plain "[I" (some 0) with kind := .array 7 .int, interfaces := #[3, 4], accessFlags := 1041 }

def heap : Heap := #[]
def classes : Array Class := #[k0, k1, k2, k3, k4, k5, k6, k7, k8]
def interned : List (Array UInt16 × Addr) := []
def slotsUsed : Nat := 0
def theMethod : MethodId := ⟨1, 1⟩
def args0 : Array Value := #[.int 5, .int 3]
def aboutOver (below : List Frame) : State where
  vm := { classes := classes, interned := interned.toArray }
  heap := heap
  slotsUsed := slotsUsed
  threads := #[{ frames := .invoking theMethod args0 :: below }]
def below0 : List Frame := [.native { method := ⟨0, 0⟩, args := #[] }]
def about1 : State := aboutOver below0
def p0 : Program := .bare "" "" ""
def e0 : Env := launch0.env 0 0 0
theorem w_frames : about1.frames = Frame.invoking theMethod args0 :: below0 := rfl
set_option maxRecDepth 65536 in
theorem w_args : argsFit about1.vm theMethod args0 = true := by decide +kernel
set_option maxRecDepth 65536 in
theorem w_heap : heapFits about1 = true := by decide +kernel
set_option maxRecDepth 65536 in
theorem w_runnable : about1.curStatus? = some .runnable := by decide +kernel
set_option maxRecDepth 65536 in
theorem w_alone : about1.alone = true := by decide +kernel
set_option maxRecDepth 65536 in
theorem w_named : about1.methodNamed? x = some theMethod := by decide +kernel
set_option maxRecDepth 65536 in
theorem w_hears : about1.hears theMethod below0 = true := by decide +kernel
set_option maxRecDepth 65536 in
theorem w_ripe : about1.ripe theMethod args0 below0 = true := by decide +kernel
theorem w_running : about1.status = .running := rfl
set_option maxRecDepth 65536 in
theorem w_room : about1.hasRoom e0.platform room_1 = true :=
  launch0.hasRoom_least _ room_1 (by decide +kernel) (by decide +kernel) (by decide +kernel) (by decide +kernel) (by decide +kernel) (by decide +kernel)
theorem allAtoms_all (ts : List Jvm.Cond) (a : Array Jvm.Value) (st : Jvm.State) : (allAtoms ts).before a st = ts.all (fun c => c.before a st) := by
  induction ts with
  | nil => rfl
  | cons c t ih =>
    show (Jvm.Cond.and c (allAtoms t)).before a st = _
    rw [Jvm.Cond.before_and, ih, List.all_cons]
def words1 : List Jvm.Cond := Jvm.Cond.code x code maxLocals ret :: tables_1
/-- a 'code' word, met by the world's own term for the bytes: nothing is compared byte by byte -/
theorem code_word {y : MethodName} {bytes : ByteArray} {mx : Nat} {rt : Option FieldType} {a : Array Value} {s : State} {m : MethodId} {meth : Method} {c : Code} (h1 : s.methodNamed? y = some m) (h2 : s.vm.method? m = some meth) (h3 : meth.code = some c) (h4 : c.code = bytes)
    (h5 : (c.maxLocals == mx && c.exceptionTable.isEmpty && decide (c.maxStack ≤ mostOperands) && decide (meth.sig.returnType = rt) && !meth.locks && decide (parseMethodDescriptor y.desc = some meth.sig)) = true) : (Jvm.Cond.code y bytes mx rt).before a s = true := by
  simp only [Bool.and_eq_true, beq_iff_eq, Bool.not_eq_true', decide_eq_true_eq] at h5
  obtain ⟨⟨⟨⟨⟨g1, g2⟩, g3⟩, g4⟩, g5⟩, g6⟩ := h5
  simp [Cond.before, Cond.holds, Cond.value, h1, h2, h3, h4, g1, g2, g3, g4, g5, g6]
def isCode : Jvm.Cond → Bool
  | .code _ _ _ _ => true
  | _ => false
theorem all_split {L : List Jvm.Cond} {P : Jvm.Cond → Bool} (h1 : L.all (fun c => isCode c || P c) = true) (h2 : ∀ c ∈ L.filter isCode, P c = true) : L.all P = true := by
  refine List.all_eq_true.mpr fun c hc => ?_
  have h := List.all_eq_true.mp h1 c hc
  rcases Bool.eq_false_or_eq_true (isCode c) with hi | hi
  · exact h2 c (List.mem_filter.mpr ⟨hc, hi⟩)
  · simpa [hi] using h
set_option maxRecDepth 65536 in
theorem w_c0 : (Jvm.Cond.code x code maxLocals ret).before args0 about1 = true := code_word (m := ⟨1, 1⟩) (meth := k1m1) (c := k1c1) (by decide +kernel) rfl rfl rfl (by decide +kernel)
set_option maxRecDepth 65536 in
theorem w_c1 : (Jvm.Cond.code ({ cls := "com/example/infold/infold/format/Format", name := "keepsName", desc := "(IZZ)Z" } : Jvm.MethodName) prog_20_method_4_code (3 : Nat) (Option.some Jvm.ClassFile.FieldType.boolean)).before args0 about1 = true := code_word (m := ⟨2, 1⟩) (meth := k2m1) (c := k2c1) (by decide +kernel) rfl rfl rfl (by decide +kernel)
def codes1 : List Jvm.Cond := [Jvm.Cond.code x code maxLocals ret, Jvm.Cond.code ({ cls := "com/example/infold/infold/format/Format", name := "keepsName", desc := "(IZZ)Z" } : Jvm.MethodName) prog_20_method_4_code (3 : Nat) (Option.some Jvm.ClassFile.FieldType.boolean)]
set_option maxRecDepth 65536 in
theorem codes_eq : words1.filter isCode = codes1 := rfl
theorem w_codes : ∀ c ∈ words1.filter isCode, c.before args0 about1 = true := by
  rw [codes_eq]
  intro c hc
  simp only [codes1, List.mem_cons, List.not_mem_nil, or_false] at hc
  rcases hc with rfl | rfl
  · exact w_c0
  · exact w_c1
set_option maxRecDepth 65536 in
theorem w_t1 : words1.all (fun c => isCode c || c.before args0 about1) = true := by decide +kernel
theorem w_tables : (allAtoms (Jvm.Cond.code x code maxLocals ret :: tables_1)).before args0 about1 = true := by
  rw [allAtoms_all]
  show words1.all (fun c => c.before args0 about1) = true
  refine all_split ?_ w_codes
  rw [w_t1]
set_option maxRecDepth 65536 in
theorem w_case : (Jvm.Cond.and given_1 narrow_1).before args0 about1 = true := by decide +kernel
theorem w_applies : (headSpec (Jvm.Cond.code x code maxLocals ret :: tables_1) room_1).applies x e0.platform about1 = true :=
  (Spec.applies_iff w_frames).mpr ⟨w_running, w_runnable, w_alone, w_named, w_hears, w_ripe, w_room, w_tables⟩
theorem atStart : AtStart classFile x code maxLocals ret World_1 tables_1 room_1 Calls_1 rest_1 Pre_1 launch0 p0 e0 about1 theMethod args0 below0 :=
  ⟨lists_1, trivial, launch0.admits_env _ _ _, launch0.least_env, fairChoices_fair.cas, fairChoices_fair.clock, w_frames, w_args, w_heap, w_applies, trivial, trivial, w_case⟩
end start1
theorem witness_1 : WitnessClaimed_1 := ⟨start1.p0, start1.e0, start1.about1, start1.theMethod, start1.args0, start1.below0, start1.atStart⟩
end Jvm.Pilot.@@N@@
