import JvmDerived
import JvmDerived.Pilot.@@N@@Statement
import JvmDerived.Pilot.@@N@@Code
set_option linter.unusedVariables false
set_option linter.unusedSimpArgs false
namespace Jvm.RoadKit
open Sem ClassFile Op Lib Jvm.Stand Jvm.Free Jvm.LawKit
section New
variable {p : Program} {l : Launch} {e : Env} {R : Room} {s : State} {m : MethodId} {args : Array Value} {below : List Frame} {meth : Method} {c : Code} {T : State} {locs : List Loc} {cells slots : Nat}
theorem retI (X : Stand p l e R s m args below meth c T locs cells slots) (hx : p.tables.exec = Jvm.exec) {pc : Nat} {Ls : Array Slot} {z : Int32} {rest : List Value} (hret : meth.sig.returnType = some .int) (hd : decode c.code pc = .ok (.ireturn, 1)) {fs : List Frame}
    (hl : ∀ (f : JFrame) (acts : List Action), f.method = m → f.locked = none → f.entered = [] → (doReturn e (T.setTop f) acts (some (.int z))).1 = T.setFrames fs) : Steps p.tables e below (T.setTop (mkF m pc Ls (.int z :: rest))) (T.setFrames fs) := by
  have hm' : T.vm.method? m = some meth := X.method'
  have hn : narrow .int (.int z) = .int z := rfl
  show Steps p.tables e below (T.setTop { method := m, pc := pc, locals := Ls, stack := _ :: rest, locked := none }) _
  jvm_step X.here [X.here.top, hx, hd, hm', hret, hn]
  first | (intro acts; rw [hl _ acts rfl rfl rfl]) | rw [hl _ _ rfl rfl rfl]
  exact Steps.refl _
end New
end Jvm.RoadKit
namespace Jvm.Pilot.@@N@@
open Jvm Jvm.ClassFile Sem Op Lib Jvm.Free Jvm.Stand Jvm.LawKit Jvm.RoadKit Bundle Jvm.Pilot.@@N@@.Jvm.D
theorem d1_0 : decode prog_27_method_4_code 0 = .ok (.iload_n 0, 1) := by decide +kernel
theorem d1_1 : decode prog_27_method_4_code 1 = .ok (.ifCond .le 13, 3) := by decide +kernel
theorem d1_4 : decode prog_27_method_4_code 4 = .ok (.iload_n 0, 1) := by decide +kernel
theorem d1_5 : decode prog_27_method_4_code 5 = .ok (.iconst 2, 1) := by decide +kernel
theorem d1_6 : decode prog_27_method_4_code 6 = .ok (.irem, 1) := by decide +kernel
theorem d1_7 : decode prog_27_method_4_code 7 = .ok (.ifCond .ne 7, 3) := by decide +kernel
theorem d1_10 : decode prog_27_method_4_code 10 = .ok (.iconst 1, 1) := by decide +kernel
theorem d1_11 : decode prog_27_method_4_code 11 = .ok (.goto 4, 3) := by decide +kernel
theorem d1_15 : decode prog_27_method_4_code 15 = .ok (.ireturn, 1) := by decide +kernel
theorem d1_14 : decode prog_27_method_4_code 14 = .ok (.iconst 0, 1) := by decide +kernel
theorem pd0 : parseMethodDescriptor "(I)Z" = some ⟨[.int], some .boolean⟩ := by decide +kernel
theorem pn0 : plainName "com/example/cardwarden/cardwarden/core/fs/FilePath" = true := by first | (simp [plainName, overriddenIn]; done) | decide +kernel
theorem pn1 : plainName "com/example/cardwarden/cardwarden/core/fs/FilePathIsPathLengthPinLaw" = true := by first | (simp [plainName, overriddenIn]; done) | decide +kernel
def F1 (p0 : Int32) : Int32 := (if (0 : Int32) < p0 then (if (p0 % (2 : Int32)) = (0 : Int32) then (1 : Int32) else (0 : Int32)) else (0 : Int32))
theorem ef1 (m : MethodId) (x0 : Int32) : entryFrame m #[(.int x0)] 1 = mkF m 0 #[.val (.int x0)] [] := by first | (simp [entryFrame, mkF, argsToLocals, Value.category]; done) | rfl
def Q1 (Z : State) (p0 : Int32) (h0 : Heap) (n0 : Nat) (v : Option Value) (h : Heap) (L : List Loc) : Prop := v = some (.int (F1 p0)) ∧ Fr n0 L ∧ h = h0
set_option maxRecDepth 65536 in
set_option maxHeartbeats 40000000 in
theorem rm1 (l : Launch) (Z : State) (a0 : Array Value) (hw : ∀ d ∈ tables_1, d.before a0 Z = true) (ws : List Jvm.Cond) (p0 : Int32) (h0 : Heap) (n0 : Nat) (Z0 : n0 ≤ h0.size) :
    MetFree l (⟨"com/example/cardwarden/cardwarden/core/fs/FilePath", "isPathLength", "(I)Z"⟩ : MethodName) (head1 (Jvm.Cond.code (⟨"com/example/cardwarden/cardwarden/core/fs/FilePath", "isPathLength", "(I)Z"⟩ : MethodName) prog_27_method_4_code 1 (some .boolean) :: ws) ({ frames := 0, cells := 0, slots := 0, locals := 0 } : Room)) (fun a U => a = #[(.int p0)] ∧ Z.Warmed39 U.vm ∧ U.heap = h0) (fun _ _ _ _ _ => True) (fun _ U o U' => ∃ v L, o = .returned v ∧ Q1 Z p0 h0 n0 v U'.heap L ∧ FrameEnd U o U' L ({ frames := 0, cells := 0, slots := 0, locals := 0 } : Room).cells ({ frames := 0, cells := 0, slots := 0, locals := 0 } : Room).slots) := by
  refine MetFree.of_bodySF (plainFor_of_name pn0) hisR ?_
  intro p e s m args below meth c s₁ Bd hml0 hP hK
  obtain ⟨rfl, hZ, hh⟩ := hP
  have hx := Bd.exec
  have hby := Bd.bytes
  have hml : c.maxLocals = 1 := hml0
  have hown : s.vm.findClass "com/example/cardwarden/cardwarden/core/fs/FilePath" = some m.cls := findClass_of_methodNamed Bd.named
  have hnm := (name_of_methodNamed Bd.named Bd.method).1
  have X0 : Stand p l e ({ frames := 0, cells := 0, slots := 0, locals := 0 } : Room) s m #[(.int p0)] below meth c s₁ [] 0 0 := Stand.of_body Bd
  have e0 : s₁.heap = h0 := by rw [← hh, Bd.state]; rfl
  have N0 := Fr.nil n0
  have pre0 : ∀ t, Steps p.tables e below (s₁.setTop (mkF m 0 #[.val (.int p0)] [])) t → Steps p.tables e below (s₁.setTop (entryFrame m #[(.int p0)] 1)) t := fun t k => castTop (ef1 m p0) k
  have pre1 : ∀ t, Steps p.tables e below (s₁.setTop (mkF m 1 #[.val (.int p0)] [(.int p0)])) t → Steps p.tables e below (s₁.setTop (entryFrame m #[(.int p0)] 1)) t := fun t k => pre0 t (by
    show Steps p.tables e below (s₁.setTop (mkF m 0 #[.val (.int p0)] [])) _
    refine XS.iloadN X0.here hx rfl (hb hby d1_0) rfl ?_
    exact k)
  by_cases hc1_2 : (0 : Int32) < p0
  · have pre3 : ∀ t, Steps p.tables e below (s₁.setTop (mkF m 7 #[.val (.int p0)] [(.int (p0 % (2 : Int32)))])) t → Steps p.tables e below (s₁.setTop (entryFrame m #[(.int p0)] 1)) t := fun t k => pre1 t (by
      show Steps p.tables e below (s₁.setTop (mkF m 1 #[.val (.int p0)] [(.int p0)])) _
      refine XS.ifNo X0.here hx rfl (hb hby d1_1) rfl ((if0 _ _).trans (tlt hc1_2).2.2.2) ?_
      show Steps p.tables e below (s₁.setTop (mkF m 4 #[.val (.int p0)] [])) _
      refine XS.iloadN X0.here hx rfl (hb hby d1_4) rfl ?_
      show Steps p.tables e below (s₁.setTop (mkF m 5 #[.val (.int p0)] [(.int p0)])) _
      refine XS.iconst X0.here hx rfl (hb hby d1_5) ?_
      show Steps p.tables e below (s₁.setTop (mkF m 6 #[.val (.int p0)] [(.int (2 : Int32)), (.int p0)])) _
      refine Jvm.RoadKit.iremM X0 hx rfl (hb hby d1_6) rfl (by decide) ?_
      exact k)
    by_cases hc7_4 : (p0 % (2 : Int32)) = (0 : Int32)
    · have pre5 : ∀ t, Steps p.tables e below (s₁.setTop (mkF m 15 #[.val (.int p0)] [(.int (1 : Int32))])) t → Steps p.tables e below (s₁.setTop (entryFrame m #[(.int p0)] 1)) t := fun t k => pre3 t (by
        show Steps p.tables e below (s₁.setTop (mkF m 7 #[.val (.int p0)] [(.int (p0 % (2 : Int32)))])) _
        refine XS.ifNo X0.here hx rfl (hb hby d1_7) rfl ((if0 _ _).trans (teq hc7_4).2) ?_
        show Steps p.tables e below (s₁.setTop (mkF m 10 #[.val (.int p0)] [])) _
        refine XS.iconst X0.here hx rfl (hb hby d1_10) ?_
        show Steps p.tables e below (s₁.setTop (mkF m 11 #[.val (.int p0)] [(.int (1 : Int32))])) _
        refine XS.goto X0.here hx rfl (pc0 := 11) (pc' := 15) rfl (hb hby d1_11) (by decide) (by decide) ?_
        exact k)
      obtain ⟨fs, hr, hrun, hended, hW, hsame⟩ := X0.leave (v := some (.int (1 : Int32))) (fun h => by rw [Bd.returns] at h; cases h)
      have hF : F1 p0 = (1 : Int32) := by unfold F1; rw [if_pos hc1_2, if_pos hc7_4]
      exact ⟨_, _, pre5 _ (retN X0 hx (t := .boolean) Bd.returns (by simp) (hb hby d1_15) hr), hrun, hended, _, _, rfl, ⟨by rw [hF], N0, e0⟩, ⟨_, rfl⟩, hW, hsame.mono (by decide) (by decide)⟩
    have pre6 : ∀ t, Steps p.tables e below (s₁.setTop (mkF m 15 #[.val (.int p0)] [(.int (0 : Int32))])) t → Steps p.tables e below (s₁.setTop (entryFrame m #[(.int p0)] 1)) t := fun t k => pre3 t (by
      show Steps p.tables e below (s₁.setTop (mkF m 7 #[.val (.int p0)] [(.int (p0 % (2 : Int32)))])) _
      refine XS.ifYes X0.here hx rfl (pc0 := 7) (pc' := 14) rfl (hb hby d1_7) rfl ((if0 _ _).trans (feq hc7_4).2) (by decide) (by decide) ?_
      show Steps p.tables e below (s₁.setTop (mkF m 14 #[.val (.int p0)] [])) _
      refine XS.iconst X0.here hx rfl (hb hby d1_14) ?_
      exact k)
    obtain ⟨fs, hr, hrun, hended, hW, hsame⟩ := X0.leave (v := some (.int (0 : Int32))) (fun h => by rw [Bd.returns] at h; cases h)
    have hF : F1 p0 = (0 : Int32) := by unfold F1; rw [if_pos hc1_2, if_neg hc7_4]
    exact ⟨_, _, pre6 _ (retN X0 hx (t := .boolean) Bd.returns (by simp) (hb hby d1_15) hr), hrun, hended, _, _, rfl, ⟨by rw [hF], N0, e0⟩, ⟨_, rfl⟩, hW, hsame.mono (by decide) (by decide)⟩
  have pre7 : ∀ t, Steps p.tables e below (s₁.setTop (mkF m 15 #[.val (.int p0)] [(.int (0 : Int32))])) t → Steps p.tables e below (s₁.setTop (entryFrame m #[(.int p0)] 1)) t := fun t k => pre1 t (by
    show Steps p.tables e below (s₁.setTop (mkF m 1 #[.val (.int p0)] [(.int p0)])) _
    refine XS.ifYes X0.here hx rfl (pc0 := 1) (pc' := 14) rfl (hb hby d1_1) rfl ((if0 _ _).trans (flt hc1_2).2.2.2) (by decide) (by decide) ?_
    show Steps p.tables e below (s₁.setTop (mkF m 14 #[.val (.int p0)] [])) _
    refine XS.iconst X0.here hx rfl (hb hby d1_14) ?_
    exact k)
  obtain ⟨fs, hr, hrun, hended, hW, hsame⟩ := X0.leave (v := some (.int (0 : Int32))) (fun h => by rw [Bd.returns] at h; cases h)
  have hF : F1 p0 = (0 : Int32) := by unfold F1; rw [if_neg hc1_2]
  exact ⟨_, _, pre7 _ (retN X0 hx (t := .boolean) Bd.returns (by simp) (hb hby d1_15) hr), hrun, hended, _, _, rfl, ⟨by rw [hF], N0, e0⟩, ⟨_, rfl⟩, hW, hsame.mono (by decide) (by decide)⟩
def f0_m8 (p0 : Int32) (p1 : Int32) : Int32 := (if (0 : Int32) < p0 then (if (p0 &&& (1 : Int32)) = (0 : Int32) then (1 : Int32) else (0 : Int32)) else (0 : Int32))
def F0 (p0 : Int32) (p1 : Int32) : Int32 := (if (F1 p0) = (f0_m8 p0 p1) then (if (p1 &&& (1073741823 : Int32)) = (0 : Int32) then (if (F1 (0 : Int32)) = (0 : Int32) then (1 : Int32) else (0 : Int32)) else (if (F1 ((2 : Int32) * (p1 &&& (1073741823 : Int32)))) = (0 : Int32) then (0 : Int32) else (if (F1 (((2 : Int32) * (p1 &&& (1073741823 : Int32))) - (1 : Int32))) = (0 : Int32) then (if (F1 (-((2 : Int32) * (p1 &&& (1073741823 : Int32))))) = (0 : Int32) then (1 : Int32) else (0 : Int32)) else (0 : Int32)))) else (0 : Int32))
theorem ef0 (m : MethodId) (x0 : Int32) (x1 : Int32) : entryFrame m #[(.int x0), (.int x1)] maxLocals = mkF m 0 #[.val (.int x0), .val (.int x1), .unset, .unset, .unset] [] := by first | (simp [entryFrame, mkF, argsToLocals, Value.category, maxLocals]; done) | rfl
def Q0 (Z : State) (p0 : Int32) (p1 : Int32) (h0 : Heap) (n0 : Nat) (v : Option Value) (h : Heap) (L : List Loc) : Prop := v = some (.int (F0 p0 p1)) ∧ Fr n0 L ∧ h = h0
set_option maxRecDepth 65536 in
set_option maxHeartbeats 40000000 in
theorem rm0 (l : Launch) (Z : State) (a0 : Array Value) (hw : ∀ d ∈ tables_1, d.before a0 Z = true) (ws : List Jvm.Cond) (p0 : Int32) (p1 : Int32) (h0 : Heap) (n0 : Nat) (Z0 : n0 ≤ h0.size) :
    MetFree l x (head1 (Jvm.Cond.code x code maxLocals ret :: ws) room_1) (fun a U => a = #[(.int p0), (.int p1)] ∧ Z.Warmed39 U.vm ∧ U.heap = h0) (fun _ _ _ _ _ => True) (fun _ U o U' => ∃ v L, o = .returned v ∧ Q0 Z p0 p1 h0 n0 v U'.heap L ∧ FrameEnd U o U' L room_1.cells room_1.slots) := by
  refine MetFree.of_bodySF (plainFor_of_name pn1) hisR ?_
  intro p e s m args below meth c s₁ Bd hml0 hP hK
  obtain ⟨rfl, hZ, hh⟩ := hP
  have hx := Bd.exec
  have hby := Bd.bytes
  have hml : c.maxLocals = 5 := hml0
  have hown : s.vm.findClass "com/example/cardwarden/cardwarden/core/fs/FilePathIsPathLengthPinLaw" = some m.cls := findClass_of_methodNamed Bd.named
  have hnm := (name_of_methodNamed Bd.named Bd.method).1
  have X0 : Stand p l e room_1 s m #[(.int p0), (.int p1)] below meth c s₁ [] 0 0 := Stand.of_body Bd
  have e0 : s₁.heap = h0 := by rw [← hh, Bd.state]; rfl
  have N0 := Fr.nil n0
  have pre0 : ∀ t, Steps p.tables e below (s₁.setTop (mkF m 0 #[.val (.int p0), .val (.int p1), .unset, .unset, .unset] [])) t → Steps p.tables e below (s₁.setTop (entryFrame m #[(.int p0), (.int p1)] maxLocals)) t := fun t k => castTop (ef0 m p0 p1) k
  have pre1 : ∀ t, Steps p.tables e below (s₁.setTop (mkF m 1 #[.val (.int p0), .val (.int p1), .unset, .unset, .unset] [(.int p0)])) t → Steps p.tables e below (s₁.setTop (entryFrame m #[(.int p0), (.int p1)] maxLocals)) t := fun t k => pre0 t (by
    show Steps p.tables e below (s₁.setTop (mkF m 0 #[.val (.int p0), .val (.int p1), .unset, .unset, .unset] [])) _
    refine XS.iloadN X0.here hx rfl (hb hby at_0) rfl ?_
    exact k)
  obtain ⟨T2, L2, X2, e2, N2, pre2⟩ : ∃ (T' : State) (locs' : List Loc), Stand p l e room_1 s m #[(.int p0), (.int p1)] below meth c T' locs' 0 0 ∧ T'.heap = h0 ∧ Fr n0 locs' ∧ ∀ t, Steps p.tables e below (T'.setTop (mkF m 15 #[.val (.int p0), .val (.int p1), .unset, .unset, .unset] [(.int (f0_m8 p0 p1))])) t → Steps p.tables e below (s₁.setTop (entryFrame m #[(.int p0), (.int p1)] maxLocals)) t := by
    by_cases hc1_2 : (0 : Int32) < p0
    · have pre3 : ∀ t, Steps p.tables e below (s₁.setTop (mkF m 7 #[.val (.int p0), .val (.int p1), .unset, .unset, .unset] [(.int (p0 &&& (1 : Int32)))])) t → Steps p.tables e below (s₁.setTop (entryFrame m #[(.int p0), (.int p1)] maxLocals)) t := fun t k => pre1 t (by
        show Steps p.tables e below (s₁.setTop (mkF m 1 #[.val (.int p0), .val (.int p1), .unset, .unset, .unset] [(.int p0)])) _
        refine XS.ifNo X0.here hx rfl (hb hby at_1) rfl ((if0 _ _).trans (tlt hc1_2).2.2.2) ?_
        show Steps p.tables e below (s₁.setTop (mkF m 4 #[.val (.int p0), .val (.int p1), .unset, .unset, .unset] [])) _
        refine XS.iloadN X0.here hx rfl (hb hby at_4) rfl ?_
        show Steps p.tables e below (s₁.setTop (mkF m 5 #[.val (.int p0), .val (.int p1), .unset, .unset, .unset] [(.int p0)])) _
        refine XS.iconst X0.here hx rfl (hb hby at_5) ?_
        show Steps p.tables e below (s₁.setTop (mkF m 6 #[.val (.int p0), .val (.int p1), .unset, .unset, .unset] [(.int (1 : Int32)), (.int p0)])) _
        refine XS.iand X0.here hx rfl (hb hby at_6) rfl ?_
        exact k)
      by_cases hc7_4 : (p0 &&& (1 : Int32)) = (0 : Int32)
      · have pre5 : ∀ t, Steps p.tables e below (s₁.setTop (mkF m 15 #[.val (.int p0), .val (.int p1), .unset, .unset, .unset] [(.int (1 : Int32))])) t → Steps p.tables e below (s₁.setTop (entryFrame m #[(.int p0), (.int p1)] maxLocals)) t := fun t k => pre3 t (by
          show Steps p.tables e below (s₁.setTop (mkF m 7 #[.val (.int p0), .val (.int p1), .unset, .unset, .unset] [(.int (p0 &&& (1 : Int32)))])) _
          refine XS.ifNo X0.here hx rfl (hb hby at_7) rfl ((if0 _ _).trans (teq hc7_4).2) ?_
          show Steps p.tables e below (s₁.setTop (mkF m 10 #[.val (.int p0), .val (.int p1), .unset, .unset, .unset] [])) _
          refine XS.iconst X0.here hx rfl (hb hby at_10) ?_
          show Steps p.tables e below (s₁.setTop (mkF m 11 #[.val (.int p0), .val (.int p1), .unset, .unset, .unset] [(.int (1 : Int32))])) _
          refine XS.goto X0.here hx rfl (pc0 := 11) (pc' := 15) rfl (hb hby at_11) (by decide) (by decide) ?_
          exact k)
        have q_f0_m8 : f0_m8 p0 p1 = (1 : Int32) := by unfold f0_m8; rw [if_pos hc1_2, if_pos hc7_4]
        rw [q_f0_m8]
        exact ⟨s₁, _, X0, e0, N0, pre5⟩
      have pre6 : ∀ t, Steps p.tables e below (s₁.setTop (mkF m 15 #[.val (.int p0), .val (.int p1), .unset, .unset, .unset] [(.int (0 : Int32))])) t → Steps p.tables e below (s₁.setTop (entryFrame m #[(.int p0), (.int p1)] maxLocals)) t := fun t k => pre3 t (by
        show Steps p.tables e below (s₁.setTop (mkF m 7 #[.val (.int p0), .val (.int p1), .unset, .unset, .unset] [(.int (p0 &&& (1 : Int32)))])) _
        refine XS.ifYes X0.here hx rfl (pc0 := 7) (pc' := 14) rfl (hb hby at_7) rfl ((if0 _ _).trans (feq hc7_4).2) (by decide) (by decide) ?_
        show Steps p.tables e below (s₁.setTop (mkF m 14 #[.val (.int p0), .val (.int p1), .unset, .unset, .unset] [])) _
        refine XS.iconst X0.here hx rfl (hb hby at_14) ?_
        exact k)
      have q_f0_m8 : f0_m8 p0 p1 = (0 : Int32) := by unfold f0_m8; rw [if_pos hc1_2, if_neg hc7_4]
      rw [q_f0_m8]
      exact ⟨s₁, _, X0, e0, N0, pre6⟩
    have pre7 : ∀ t, Steps p.tables e below (s₁.setTop (mkF m 15 #[.val (.int p0), .val (.int p1), .unset, .unset, .unset] [(.int (0 : Int32))])) t → Steps p.tables e below (s₁.setTop (entryFrame m #[(.int p0), (.int p1)] maxLocals)) t := fun t k => pre1 t (by
      show Steps p.tables e below (s₁.setTop (mkF m 1 #[.val (.int p0), .val (.int p1), .unset, .unset, .unset] [(.int p0)])) _
      refine XS.ifYes X0.here hx rfl (pc0 := 1) (pc' := 14) rfl (hb hby at_1) rfl ((if0 _ _).trans (flt hc1_2).2.2.2) (by decide) (by decide) ?_
      show Steps p.tables e below (s₁.setTop (mkF m 14 #[.val (.int p0), .val (.int p1), .unset, .unset, .unset] [])) _
      refine XS.iconst X0.here hx rfl (hb hby at_14) ?_
      exact k)
    have q_f0_m8 : f0_m8 p0 p1 = (0 : Int32) := by unfold f0_m8; rw [if_neg hc1_2]
    rw [q_f0_m8]
    exact ⟨s₁, _, X0, e0, N0, pre7⟩
  obtain ⟨_, _, ⟨T9, L9, k9, n9⟩, -, X9, ⟨Lc9, hQ9, l9, y9, z9⟩, st9⟩ := Jvm.LawKit.callS X2 hx (y := (⟨"com/example/cardwarden/cardwarden/core/fs/FilePath", "isPathLength", "(I)Z"⟩ : MethodName)) hown (mvT hZ (hw _ (List.mem_of_getElem? (i := 0) rfl))) (mvT hZ (hw _ (List.mem_of_getElem? (i := 1) rfl))) (mvT hZ (hw _ (List.mem_of_getElem? (i := 2) rfl))) (mvT hZ (hw _ (List.mem_of_getElem? (i := 3) rfl))) (by decide) (backOf (W := 0) (rm1 l Z a0 hw [] p0 h0 n0 Z0) hZ (hw _ (List.mem_of_getElem? (i := 3) rfl)) (hw _ (List.mem_of_getElem? (i := 2) rfl)) (by decide) (by decide)) (g := (mkF m 17 #[.val (.int p0), .val (.int p1), .val (.int (f0_m8 p0 p1)), .unset, .unset] [(.int p0)])) rfl (by rw [hml]; rfl) (argsL := [(.int p0)]) (rest := []) (lenOf pd0 rfl) rfl (by show 2 * 0 + _ ≤ _; exact Nat.le_of_eq rfl) (hb hby at_17) (fun _ _ => ⟨rfl, e2, (by decide : 0 + 0 ≤ _), (by decide : 0 + 0 ≤ _)⟩)
  dsimp only [Pt.U, Pt.locs, Pt.cells, Pt.slots] at X9 l9 y9 z9 st9 hQ9
  subst l9 y9 z9
  obtain ⟨rfl, N9q, e9⟩ := hQ9
  have N9 := Fr.app N2 N9q
  have pre10 : ∀ t, Steps p.tables e below (T9.setTop (mkF m 21 #[.val (.int p0), .val (.int p1), .val (.int (f0_m8 p0 p1)), .unset, .unset] [(.int (f0_m8 p0 p1)), (.int (F1 p0))])) t → Steps p.tables e below (s₁.setTop (entryFrame m #[(.int p0), (.int p1)] maxLocals)) t := fun t k => pre2 t (by
    show Steps p.tables e below (T2.setTop (mkF m 15 #[.val (.int p0), .val (.int p1), .unset, .unset, .unset] [(.int (f0_m8 p0 p1))])) _
    refine XS.istoreN X2.here hx rfl (hb hby at_15) rfl (l' := #[.val (.int p0), .val (.int p1), .val (.int (f0_m8 p0 p1)), .unset, .unset]) rfl ?_
    show Steps p.tables e below (T2.setTop (mkF m 16 #[.val (.int p0), .val (.int p1), .val (.int (f0_m8 p0 p1)), .unset, .unset] [])) _
    refine XS.iloadN X2.here hx rfl (hb hby at_16) rfl ?_
    show Steps p.tables e below (T2.setTop (mkF m 17 #[.val (.int p0), .val (.int p1), .val (.int (f0_m8 p0 p1)), .unset, .unset] [(.int p0)])) _
    refine st9 _ ?_
    show Steps p.tables e below (T9.setTop (mkF m 20 #[.val (.int p0), .val (.int p1), .val (.int (f0_m8 p0 p1)), .unset, .unset] [(.int (F1 p0))])) _
    refine XS.iloadN X9.here hx rfl (hb hby at_20) rfl ?_
    exact k)
  by_cases hc21_11 : (F1 p0) = (f0_m8 p0 p1)
  · have pre12 : ∀ t, Steps p.tables e below (T9.setTop (mkF m 32 #[.val (.int p0), .val (.int p1), .val (.int (f0_m8 p0 p1)), .val (.int (p1 &&& (1073741823 : Int32))), .unset] [(.int (p1 &&& (1073741823 : Int32)))])) t → Steps p.tables e below (s₁.setTop (entryFrame m #[(.int p0), (.int p1)] maxLocals)) t := fun t k => pre10 t (by
      show Steps p.tables e below (T9.setTop (mkF m 21 #[.val (.int p0), .val (.int p1), .val (.int (f0_m8 p0 p1)), .unset, .unset] [(.int (f0_m8 p0 p1)), (.int (F1 p0))])) _
      refine XS.icmpYes X9.here hx rfl (pc0 := 21) (pc' := 26) rfl (hb hby at_21) rfl (teq hc21_11).1 (by decide) (by decide) ?_
      show Steps p.tables e below (T9.setTop (mkF m 26 #[.val (.int p0), .val (.int p1), .val (.int (f0_m8 p0 p1)), .unset, .unset] [])) _
      refine XS.iloadN X9.here hx rfl (hb hby at_26) rfl ?_
      show Steps p.tables e below (T9.setTop (mkF m 27 #[.val (.int p0), .val (.int p1), .val (.int (f0_m8 p0 p1)), .unset, .unset] [(.int p1)])) _
      refine X9.ldcInt hx hown (mvT hZ (hw _ (List.mem_of_getElem? (i := 4) rfl))) (g := (mkF m 27 #[.val (.int p0), .val (.int p1), .val (.int (f0_m8 p0 p1)), .unset, .unset] [(.int p1)])) rfl (hb hby at_27) _ ?_
      show Steps p.tables e below (T9.setTop (mkF m 29 #[.val (.int p0), .val (.int p1), .val (.int (f0_m8 p0 p1)), .unset, .unset] [(.int (1073741823 : Int32)), (.int p1)])) _
      refine XS.iand X9.here hx rfl (hb hby at_29) rfl ?_
      show Steps p.tables e below (T9.setTop (mkF m 30 #[.val (.int p0), .val (.int p1), .val (.int (f0_m8 p0 p1)), .unset, .unset] [(.int (p1 &&& (1073741823 : Int32)))])) _
      refine XS.istoreN X9.here hx rfl (hb hby at_30) rfl (l' := #[.val (.int p0), .val (.int p1), .val (.int (f0_m8 p0 p1)), .val (.int (p1 &&& (1073741823 : Int32))), .unset]) rfl ?_
      show Steps p.tables e below (T9.setTop (mkF m 31 #[.val (.int p0), .val (.int p1), .val (.int (f0_m8 p0 p1)), .val (.int (p1 &&& (1073741823 : Int32))), .unset] [])) _
      refine XS.iloadN X9.here hx rfl (hb hby at_31) rfl ?_
      exact k)
    by_cases hc32_13 : (p1 &&& (1073741823 : Int32)) = (0 : Int32)
    · obtain ⟨_, _, ⟨T14, L14, k14, n14⟩, -, X14, ⟨Lc14, hQ14, l14, y14, z14⟩, st14⟩ := Jvm.LawKit.callS X9 hx (y := (⟨"com/example/cardwarden/cardwarden/core/fs/FilePath", "isPathLength", "(I)Z"⟩ : MethodName)) hown (mvT hZ (hw _ (List.mem_of_getElem? (i := 0) rfl))) (mvT hZ (hw _ (List.mem_of_getElem? (i := 1) rfl))) (mvT hZ (hw _ (List.mem_of_getElem? (i := 2) rfl))) (mvT hZ (hw _ (List.mem_of_getElem? (i := 3) rfl))) (by decide) (backOf (W := 0) (rm1 l Z a0 hw [] (0 : Int32) h0 n0 Z0) hZ (hw _ (List.mem_of_getElem? (i := 3) rfl)) (hw _ (List.mem_of_getElem? (i := 2) rfl)) (by decide) (by decide)) (g := (mkF m 36 #[.val (.int p0), .val (.int p1), .val (.int (f0_m8 p0 p1)), .val (.int (p1 &&& (1073741823 : Int32))), .unset] [(.int (0 : Int32))])) rfl (by rw [hml]; rfl) (argsL := [(.int (0 : Int32))]) (rest := []) (lenOf pd0 rfl) rfl (by show 2 * 0 + _ ≤ _; exact Nat.le_of_eq rfl) (hb hby at_36) (fun _ _ => ⟨rfl, e9, (by decide : 0 + 0 ≤ _), (by decide : 0 + 0 ≤ _)⟩)
      dsimp only [Pt.U, Pt.locs, Pt.cells, Pt.slots] at X14 l14 y14 z14 st14 hQ14
      subst l14 y14 z14
      obtain ⟨rfl, N14q, e14⟩ := hQ14
      have N14 := Fr.app N9 N14q
      have pre15 : ∀ t, Steps p.tables e below (T14.setTop (mkF m 39 #[.val (.int p0), .val (.int p1), .val (.int (f0_m8 p0 p1)), .val (.int (p1 &&& (1073741823 : Int32))), .unset] [(.int (F1 (0 : Int32)))])) t → Steps p.tables e below (s₁.setTop (entryFrame m #[(.int p0), (.int p1)] maxLocals)) t := fun t k => pre12 t (by
        show Steps p.tables e below (T9.setTop (mkF m 32 #[.val (.int p0), .val (.int p1), .val (.int (f0_m8 p0 p1)), .val (.int (p1 &&& (1073741823 : Int32))), .unset] [(.int (p1 &&& (1073741823 : Int32)))])) _
        refine XS.ifNo X9.here hx rfl (hb hby at_32) rfl ((if0 _ _).trans (teq hc32_13).2) ?_
        show Steps p.tables e below (T9.setTop (mkF m 35 #[.val (.int p0), .val (.int p1), .val (.int (f0_m8 p0 p1)), .val (.int (p1 &&& (1073741823 : Int32))), .unset] [])) _
        refine XS.iconst X9.here hx rfl (hb hby at_35) ?_
        show Steps p.tables e below (T9.setTop (mkF m 36 #[.val (.int p0), .val (.int p1), .val (.int (f0_m8 p0 p1)), .val (.int (p1 &&& (1073741823 : Int32))), .unset] [(.int (0 : Int32))])) _
        refine st14 _ ?_
        exact k)
      by_cases hc39_16 : (F1 (0 : Int32)) = (0 : Int32)
      · have pre17 : ∀ t, Steps p.tables e below (T14.setTop (mkF m 47 #[.val (.int p0), .val (.int p1), .val (.int (f0_m8 p0 p1)), .val (.int (p1 &&& (1073741823 : Int32))), .unset] [(.int (1 : Int32))])) t → Steps p.tables e below (s₁.setTop (entryFrame m #[(.int p0), (.int p1)] maxLocals)) t := fun t k => pre15 t (by
          show Steps p.tables e below (T14.setTop (mkF m 39 #[.val (.int p0), .val (.int p1), .val (.int (f0_m8 p0 p1)), .val (.int (p1 &&& (1073741823 : Int32))), .unset] [(.int (F1 (0 : Int32)))])) _
          refine XS.ifNo X14.here hx rfl (hb hby at_39) rfl ((if0 _ _).trans (teq hc39_16).2) ?_
          show Steps p.tables e below (T14.setTop (mkF m 42 #[.val (.int p0), .val (.int p1), .val (.int (f0_m8 p0 p1)), .val (.int (p1 &&& (1073741823 : Int32))), .unset] [])) _
          refine XS.iconst X14.here hx rfl (hb hby at_42) ?_
          show Steps p.tables e below (T14.setTop (mkF m 43 #[.val (.int p0), .val (.int p1), .val (.int (f0_m8 p0 p1)), .val (.int (p1 &&& (1073741823 : Int32))), .unset] [(.int (1 : Int32))])) _
          refine XS.goto X14.here hx rfl (pc0 := 43) (pc' := 47) rfl (hb hby at_43) (by decide) (by decide) ?_
          exact k)
        obtain ⟨fs, hr, hrun, hended, hW, hsame⟩ := X14.leave (v := some (.int (1 : Int32))) (fun h => by rw [Bd.returns] at h; cases h)
        have hF : F0 p0 p1 = (1 : Int32) := by unfold F0; rw [if_pos hc21_11, if_pos hc32_13, if_pos hc39_16]
        exact ⟨_, _, pre17 _ (retN X14 hx (t := .boolean) Bd.returns (by simp) (hb hby at_47) hr), hrun, hended, _, _, rfl, ⟨by rw [hF], N14, e14⟩, ⟨_, rfl⟩, hW, hsame.mono (by decide) (by decide)⟩
      have pre18 : ∀ t, Steps p.tables e below (T14.setTop (mkF m 47 #[.val (.int p0), .val (.int p1), .val (.int (f0_m8 p0 p1)), .val (.int (p1 &&& (1073741823 : Int32))), .unset] [(.int (0 : Int32))])) t → Steps p.tables e below (s₁.setTop (entryFrame m #[(.int p0), (.int p1)] maxLocals)) t := fun t k => pre15 t (by
        show Steps p.tables e below (T14.setTop (mkF m 39 #[.val (.int p0), .val (.int p1), .val (.int (f0_m8 p0 p1)), .val (.int (p1 &&& (1073741823 : Int32))), .unset] [(.int (F1 (0 : Int32)))])) _
        refine XS.ifYes X14.here hx rfl (pc0 := 39) (pc' := 46) rfl (hb hby at_39) rfl ((if0 _ _).trans (feq hc39_16).2) (by decide) (by decide) ?_
        show Steps p.tables e below (T14.setTop (mkF m 46 #[.val (.int p0), .val (.int p1), .val (.int (f0_m8 p0 p1)), .val (.int (p1 &&& (1073741823 : Int32))), .unset] [])) _
        refine XS.iconst X14.here hx rfl (hb hby at_46) ?_
        exact k)
      obtain ⟨fs, hr, hrun, hended, hW, hsame⟩ := X14.leave (v := some (.int (0 : Int32))) (fun h => by rw [Bd.returns] at h; cases h)
      have hF : F0 p0 p1 = (0 : Int32) := by unfold F0; rw [if_pos hc21_11, if_pos hc32_13, if_neg hc39_16]
      exact ⟨_, _, pre18 _ (retN X14 hx (t := .boolean) Bd.returns (by simp) (hb hby at_47) hr), hrun, hended, _, _, rfl, ⟨by rw [hF], N14, e14⟩, ⟨_, rfl⟩, hW, hsame.mono (by decide) (by decide)⟩
    obtain ⟨_, _, ⟨T19, L19, k19, n19⟩, -, X19, ⟨Lc19, hQ19, l19, y19, z19⟩, st19⟩ := Jvm.LawKit.callS X9 hx (y := (⟨"com/example/cardwarden/cardwarden/core/fs/FilePath", "isPathLength", "(I)Z"⟩ : MethodName)) hown (mvT hZ (hw _ (List.mem_of_getElem? (i := 0) rfl))) (mvT hZ (hw _ (List.mem_of_getElem? (i := 1) rfl))) (mvT hZ (hw _ (List.mem_of_getElem? (i := 2) rfl))) (mvT hZ (hw _ (List.mem_of_getElem? (i := 3) rfl))) (by decide) (backOf (W := 0) (rm1 l Z a0 hw [] ((2 : Int32) * (p1 &&& (1073741823 : Int32))) h0 n0 Z0) hZ (hw _ (List.mem_of_getElem? (i := 3) rfl)) (hw _ (List.mem_of_getElem? (i := 2) rfl)) (by decide) (by decide)) (g := (mkF m 55 #[.val (.int p0), .val (.int p1), .val (.int (f0_m8 p0 p1)), .val (.int (p1 &&& (1073741823 : Int32))), .val (.int ((2 : Int32) * (p1 &&& (1073741823 : Int32))))] [(.int ((2 : Int32) * (p1 &&& (1073741823 : Int32))))])) rfl (by rw [hml]; rfl) (argsL := [(.int ((2 : Int32) * (p1 &&& (1073741823 : Int32))))]) (rest := []) (lenOf pd0 rfl) rfl (by show 2 * 0 + _ ≤ _; exact Nat.le_of_eq rfl) (hb hby at_55) (fun _ _ => ⟨rfl, e9, (by decide : 0 + 0 ≤ _), (by decide : 0 + 0 ≤ _)⟩)
    dsimp only [Pt.U, Pt.locs, Pt.cells, Pt.slots] at X19 l19 y19 z19 st19 hQ19
    subst l19 y19 z19
    obtain ⟨rfl, N19q, e19⟩ := hQ19
    have N19 := Fr.app N9 N19q
    have pre20 : ∀ t, Steps p.tables e below (T19.setTop (mkF m 58 #[.val (.int p0), .val (.int p1), .val (.int (f0_m8 p0 p1)), .val (.int (p1 &&& (1073741823 : Int32))), .val (.int ((2 : Int32) * (p1 &&& (1073741823 : Int32))))] [(.int (F1 ((2 : Int32) * (p1 &&& (1073741823 : Int32)))))])) t → Steps p.tables e below (s₁.setTop (entryFrame m #[(.int p0), (.int p1)] maxLocals)) t := fun t k => pre12 t (by
      show Steps p.tables e below (T9.setTop (mkF m 32 #[.val (.int p0), .val (.int p1), .val (.int (f0_m8 p0 p1)), .val (.int (p1 &&& (1073741823 : Int32))), .unset] [(.int (p1 &&& (1073741823 : Int32)))])) _
      refine XS.ifYes X9.here hx rfl (pc0 := 32) (pc' := 48) rfl (hb hby at_32) rfl ((if0 _ _).trans (feq hc32_13).2) (by decide) (by decide) ?_
      show Steps p.tables e below (T9.setTop (mkF m 48 #[.val (.int p0), .val (.int p1), .val (.int (f0_m8 p0 p1)), .val (.int (p1 &&& (1073741823 : Int32))), .unset] [])) _
      refine XS.iconst X9.here hx rfl (hb hby at_48) ?_
      show Steps p.tables e below (T9.setTop (mkF m 49 #[.val (.int p0), .val (.int p1), .val (.int (f0_m8 p0 p1)), .val (.int (p1 &&& (1073741823 : Int32))), .unset] [(.int (2 : Int32))])) _
      refine XS.iloadN X9.here hx rfl (hb hby at_49) rfl ?_
      show Steps p.tables e below (T9.setTop (mkF m 50 #[.val (.int p0), .val (.int p1), .val (.int (f0_m8 p0 p1)), .val (.int (p1 &&& (1073741823 : Int32))), .unset] [(.int (p1 &&& (1073741823 : Int32))), (.int (2 : Int32))])) _
      refine XS.imul X9.here hx rfl (hb hby at_50) rfl ?_
      show Steps p.tables e below (T9.setTop (mkF m 51 #[.val (.int p0), .val (.int p1), .val (.int (f0_m8 p0 p1)), .val (.int (p1 &&& (1073741823 : Int32))), .unset] [(.int ((2 : Int32) * (p1 &&& (1073741823 : Int32))))])) _
      refine XS.istore X9.here hx rfl (hb hby at_51) rfl (l' := #[.val (.int p0), .val (.int p1), .val (.int (f0_m8 p0 p1)), .val (.int (p1 &&& (1073741823 : Int32))), .val (.int ((2 : Int32) * (p1 &&& (1073741823 : Int32))))]) rfl ?_
      show Steps p.tables e below (T9.setTop (mkF m 53 #[.val (.int p0), .val (.int p1), .val (.int (f0_m8 p0 p1)), .val (.int (p1 &&& (1073741823 : Int32))), .val (.int ((2 : Int32) * (p1 &&& (1073741823 : Int32))))] [])) _
      refine XS.iload X9.here hx rfl (hb hby at_53) rfl ?_
      show Steps p.tables e below (T9.setTop (mkF m 55 #[.val (.int p0), .val (.int p1), .val (.int (f0_m8 p0 p1)), .val (.int (p1 &&& (1073741823 : Int32))), .val (.int ((2 : Int32) * (p1 &&& (1073741823 : Int32))))] [(.int ((2 : Int32) * (p1 &&& (1073741823 : Int32))))])) _
      refine st19 _ ?_
      exact k)
    by_cases hc58_21 : (F1 ((2 : Int32) * (p1 &&& (1073741823 : Int32)))) = (0 : Int32)
    · have pre22 : ∀ t, Steps p.tables e below (T19.setTop (mkF m 85 #[.val (.int p0), .val (.int p1), .val (.int (f0_m8 p0 p1)), .val (.int (p1 &&& (1073741823 : Int32))), .val (.int ((2 : Int32) * (p1 &&& (1073741823 : Int32))))] [(.int (0 : Int32))])) t → Steps p.tables e below (s₁.setTop (entryFrame m #[(.int p0), (.int p1)] maxLocals)) t := fun t k => pre20 t (by
        show Steps p.tables e below (T19.setTop (mkF m 58 #[.val (.int p0), .val (.int p1), .val (.int (f0_m8 p0 p1)), .val (.int (p1 &&& (1073741823 : Int32))), .val (.int ((2 : Int32) * (p1 &&& (1073741823 : Int32))))] [(.int (F1 ((2 : Int32) * (p1 &&& (1073741823 : Int32)))))])) _
        refine XS.ifYes X19.here hx rfl (pc0 := 58) (pc' := 84) rfl (hb hby at_58) rfl ((if0 _ _).trans (teq hc58_21).1) (by decide) (by decide) ?_
        show Steps p.tables e below (T19.setTop (mkF m 84 #[.val (.int p0), .val (.int p1), .val (.int (f0_m8 p0 p1)), .val (.int (p1 &&& (1073741823 : Int32))), .val (.int ((2 : Int32) * (p1 &&& (1073741823 : Int32))))] [])) _
        refine XS.iconst X19.here hx rfl (hb hby at_84) ?_
        exact k)
      obtain ⟨fs, hr, hrun, hended, hW, hsame⟩ := X19.leave (v := some (.int (0 : Int32))) (fun h => by rw [Bd.returns] at h; cases h)
      have hF : F0 p0 p1 = (0 : Int32) := by unfold F0; rw [if_pos hc21_11, if_neg hc32_13, if_pos hc58_21]
      exact ⟨_, _, pre22 _ (retN X19 hx (t := .boolean) Bd.returns (by simp) (hb hby at_85) hr), hrun, hended, _, _, rfl, ⟨by rw [hF], N19, e19⟩, ⟨_, rfl⟩, hW, hsame.mono (by decide) (by decide)⟩
    obtain ⟨_, _, ⟨T23, L23, k23, n23⟩, -, X23, ⟨Lc23, hQ23, l23, y23, z23⟩, st23⟩ := Jvm.LawKit.callS X19 hx (y := (⟨"com/example/cardwarden/cardwarden/core/fs/FilePath", "isPathLength", "(I)Z"⟩ : MethodName)) hown (mvT hZ (hw _ (List.mem_of_getElem? (i := 0) rfl))) (mvT hZ (hw _ (List.mem_of_getElem? (i := 1) rfl))) (mvT hZ (hw _ (List.mem_of_getElem? (i := 2) rfl))) (mvT hZ (hw _ (List.mem_of_getElem? (i := 3) rfl))) (by decide) (backOf (W := 0) (rm1 l Z a0 hw [] (((2 : Int32) * (p1 &&& (1073741823 : Int32))) - (1 : Int32)) h0 n0 Z0) hZ (hw _ (List.mem_of_getElem? (i := 3) rfl)) (hw _ (List.mem_of_getElem? (i := 2) rfl)) (by decide) (by decide)) (g := (mkF m 65 #[.val (.int p0), .val (.int p1), .val (.int (f0_m8 p0 p1)), .val (.int (p1 &&& (1073741823 : Int32))), .val (.int ((2 : Int32) * (p1 &&& (1073741823 : Int32))))] [(.int (((2 : Int32) * (p1 &&& (1073741823 : Int32))) - (1 : Int32)))])) rfl (by rw [hml]; rfl) (argsL := [(.int (((2 : Int32) * (p1 &&& (1073741823 : Int32))) - (1 : Int32)))]) (rest := []) (lenOf pd0 rfl) rfl (by show 2 * 0 + _ ≤ _; exact Nat.le_of_eq rfl) (hb hby at_65) (fun _ _ => ⟨rfl, e19, (by decide : 0 + 0 ≤ _), (by decide : 0 + 0 ≤ _)⟩)
    dsimp only [Pt.U, Pt.locs, Pt.cells, Pt.slots] at X23 l23 y23 z23 st23 hQ23
    subst l23 y23 z23
    obtain ⟨rfl, N23q, e23⟩ := hQ23
    have N23 := Fr.app N19 N23q
    have pre24 : ∀ t, Steps p.tables e below (T23.setTop (mkF m 68 #[.val (.int p0), .val (.int p1), .val (.int (f0_m8 p0 p1)), .val (.int (p1 &&& (1073741823 : Int32))), .val (.int ((2 : Int32) * (p1 &&& (1073741823 : Int32))))] [(.int (F1 (((2 : Int32) * (p1 &&& (1073741823 : Int32))) - (1 : Int32))))])) t → Steps p.tables e below (s₁.setTop (entryFrame m #[(.int p0), (.int p1)] maxLocals)) t := fun t k => pre20 t (by
      show Steps p.tables e below (T19.setTop (mkF m 58 #[.val (.int p0), .val (.int p1), .val (.int (f0_m8 p0 p1)), .val (.int (p1 &&& (1073741823 : Int32))), .val (.int ((2 : Int32) * (p1 &&& (1073741823 : Int32))))] [(.int (F1 ((2 : Int32) * (p1 &&& (1073741823 : Int32)))))])) _
      refine XS.ifNo X19.here hx rfl (hb hby at_58) rfl ((if0 _ _).trans (feq hc58_21).1) ?_
      show Steps p.tables e below (T19.setTop (mkF m 61 #[.val (.int p0), .val (.int p1), .val (.int (f0_m8 p0 p1)), .val (.int (p1 &&& (1073741823 : Int32))), .val (.int ((2 : Int32) * (p1 &&& (1073741823 : Int32))))] [])) _
      refine XS.iload X19.here hx rfl (hb hby at_61) rfl ?_
      show Steps p.tables e below (T19.setTop (mkF m 63 #[.val (.int p0), .val (.int p1), .val (.int (f0_m8 p0 p1)), .val (.int (p1 &&& (1073741823 : Int32))), .val (.int ((2 : Int32) * (p1 &&& (1073741823 : Int32))))] [(.int ((2 : Int32) * (p1 &&& (1073741823 : Int32))))])) _
      refine XS.iconst X19.here hx rfl (hb hby at_63) ?_
      show Steps p.tables e below (T19.setTop (mkF m 64 #[.val (.int p0), .val (.int p1), .val (.int (f0_m8 p0 p1)), .val (.int (p1 &&& (1073741823 : Int32))), .val (.int ((2 : Int32) * (p1 &&& (1073741823 : Int32))))] [(.int (1 : Int32)), (.int ((2 : Int32) * (p1 &&& (1073741823 : Int32))))])) _
      refine XS.isub X19.here hx rfl (hb hby at_64) rfl ?_
      show Steps p.tables e below (T19.setTop (mkF m 65 #[.val (.int p0), .val (.int p1), .val (.int (f0_m8 p0 p1)), .val (.int (p1 &&& (1073741823 : Int32))), .val (.int ((2 : Int32) * (p1 &&& (1073741823 : Int32))))] [(.int (((2 : Int32) * (p1 &&& (1073741823 : Int32))) - (1 : Int32)))])) _
      refine st23 _ ?_
      exact k)
    by_cases hc68_25 : (F1 (((2 : Int32) * (p1 &&& (1073741823 : Int32))) - (1 : Int32))) = (0 : Int32)
    · obtain ⟨_, _, ⟨T26, L26, k26, n26⟩, -, X26, ⟨Lc26, hQ26, l26, y26, z26⟩, st26⟩ := Jvm.LawKit.callS X23 hx (y := (⟨"com/example/cardwarden/cardwarden/core/fs/FilePath", "isPathLength", "(I)Z"⟩ : MethodName)) hown (mvT hZ (hw _ (List.mem_of_getElem? (i := 0) rfl))) (mvT hZ (hw _ (List.mem_of_getElem? (i := 1) rfl))) (mvT hZ (hw _ (List.mem_of_getElem? (i := 2) rfl))) (mvT hZ (hw _ (List.mem_of_getElem? (i := 3) rfl))) (by decide) (backOf (W := 0) (rm1 l Z a0 hw [] (-((2 : Int32) * (p1 &&& (1073741823 : Int32)))) h0 n0 Z0) hZ (hw _ (List.mem_of_getElem? (i := 3) rfl)) (hw _ (List.mem_of_getElem? (i := 2) rfl)) (by decide) (by decide)) (g := (mkF m 74 #[.val (.int p0), .val (.int p1), .val (.int (f0_m8 p0 p1)), .val (.int (p1 &&& (1073741823 : Int32))), .val (.int ((2 : Int32) * (p1 &&& (1073741823 : Int32))))] [(.int (-((2 : Int32) * (p1 &&& (1073741823 : Int32)))))])) rfl (by rw [hml]; rfl) (argsL := [(.int (-((2 : Int32) * (p1 &&& (1073741823 : Int32)))))]) (rest := []) (lenOf pd0 rfl) rfl (by show 2 * 0 + _ ≤ _; exact Nat.le_of_eq rfl) (hb hby at_74) (fun _ _ => ⟨rfl, e23, (by decide : 0 + 0 ≤ _), (by decide : 0 + 0 ≤ _)⟩)
      dsimp only [Pt.U, Pt.locs, Pt.cells, Pt.slots] at X26 l26 y26 z26 st26 hQ26
      subst l26 y26 z26
      obtain ⟨rfl, N26q, e26⟩ := hQ26
      have N26 := Fr.app N23 N26q
      have pre27 : ∀ t, Steps p.tables e below (T26.setTop (mkF m 77 #[.val (.int p0), .val (.int p1), .val (.int (f0_m8 p0 p1)), .val (.int (p1 &&& (1073741823 : Int32))), .val (.int ((2 : Int32) * (p1 &&& (1073741823 : Int32))))] [(.int (F1 (-((2 : Int32) * (p1 &&& (1073741823 : Int32))))))])) t → Steps p.tables e below (s₁.setTop (entryFrame m #[(.int p0), (.int p1)] maxLocals)) t := fun t k => pre24 t (by
        show Steps p.tables e below (T23.setTop (mkF m 68 #[.val (.int p0), .val (.int p1), .val (.int (f0_m8 p0 p1)), .val (.int (p1 &&& (1073741823 : Int32))), .val (.int ((2 : Int32) * (p1 &&& (1073741823 : Int32))))] [(.int (F1 (((2 : Int32) * (p1 &&& (1073741823 : Int32))) - (1 : Int32))))])) _
        refine XS.ifNo X23.here hx rfl (hb hby at_68) rfl ((if0 _ _).trans (teq hc68_25).2) ?_
        show Steps p.tables e below (T23.setTop (mkF m 71 #[.val (.int p0), .val (.int p1), .val (.int (f0_m8 p0 p1)), .val (.int (p1 &&& (1073741823 : Int32))), .val (.int ((2 : Int32) * (p1 &&& (1073741823 : Int32))))] [])) _
        refine XS.iload X23.here hx rfl (hb hby at_71) rfl ?_
        show Steps p.tables e below (T23.setTop (mkF m 73 #[.val (.int p0), .val (.int p1), .val (.int (f0_m8 p0 p1)), .val (.int (p1 &&& (1073741823 : Int32))), .val (.int ((2 : Int32) * (p1 &&& (1073741823 : Int32))))] [(.int ((2 : Int32) * (p1 &&& (1073741823 : Int32))))])) _
        refine XS.ineg X23.here hx rfl (hb hby at_73) rfl ?_
        show Steps p.tables e below (T23.setTop (mkF m 74 #[.val (.int p0), .val (.int p1), .val (.int (f0_m8 p0 p1)), .val (.int (p1 &&& (1073741823 : Int32))), .val (.int ((2 : Int32) * (p1 &&& (1073741823 : Int32))))] [(.int (-((2 : Int32) * (p1 &&& (1073741823 : Int32)))))])) _
        refine st26 _ ?_
        exact k)
      by_cases hc77_28 : (F1 (-((2 : Int32) * (p1 &&& (1073741823 : Int32))))) = (0 : Int32)
      · have pre29 : ∀ t, Steps p.tables e below (T26.setTop (mkF m 85 #[.val (.int p0), .val (.int p1), .val (.int (f0_m8 p0 p1)), .val (.int (p1 &&& (1073741823 : Int32))), .val (.int ((2 : Int32) * (p1 &&& (1073741823 : Int32))))] [(.int (1 : Int32))])) t → Steps p.tables e below (s₁.setTop (entryFrame m #[(.int p0), (.int p1)] maxLocals)) t := fun t k => pre27 t (by
          show Steps p.tables e below (T26.setTop (mkF m 77 #[.val (.int p0), .val (.int p1), .val (.int (f0_m8 p0 p1)), .val (.int (p1 &&& (1073741823 : Int32))), .val (.int ((2 : Int32) * (p1 &&& (1073741823 : Int32))))] [(.int (F1 (-((2 : Int32) * (p1 &&& (1073741823 : Int32))))))])) _
          refine XS.ifNo X26.here hx rfl (hb hby at_77) rfl ((if0 _ _).trans (teq hc77_28).2) ?_
          show Steps p.tables e below (T26.setTop (mkF m 80 #[.val (.int p0), .val (.int p1), .val (.int (f0_m8 p0 p1)), .val (.int (p1 &&& (1073741823 : Int32))), .val (.int ((2 : Int32) * (p1 &&& (1073741823 : Int32))))] [])) _
          refine XS.iconst X26.here hx rfl (hb hby at_80) ?_
          show Steps p.tables e below (T26.setTop (mkF m 81 #[.val (.int p0), .val (.int p1), .val (.int (f0_m8 p0 p1)), .val (.int (p1 &&& (1073741823 : Int32))), .val (.int ((2 : Int32) * (p1 &&& (1073741823 : Int32))))] [(.int (1 : Int32))])) _
          refine XS.goto X26.here hx rfl (pc0 := 81) (pc' := 85) rfl (hb hby at_81) (by decide) (by decide) ?_
          exact k)
        obtain ⟨fs, hr, hrun, hended, hW, hsame⟩ := X26.leave (v := some (.int (1 : Int32))) (fun h => by rw [Bd.returns] at h; cases h)
        have hF : F0 p0 p1 = (1 : Int32) := by unfold F0; rw [if_pos hc21_11, if_neg hc32_13, if_neg hc58_21, if_pos hc68_25, if_pos hc77_28]
        exact ⟨_, _, pre29 _ (retN X26 hx (t := .boolean) Bd.returns (by simp) (hb hby at_85) hr), hrun, hended, _, _, rfl, ⟨by rw [hF], N26, e26⟩, ⟨_, rfl⟩, hW, hsame.mono (by decide) (by decide)⟩
      have pre30 : ∀ t, Steps p.tables e below (T26.setTop (mkF m 85 #[.val (.int p0), .val (.int p1), .val (.int (f0_m8 p0 p1)), .val (.int (p1 &&& (1073741823 : Int32))), .val (.int ((2 : Int32) * (p1 &&& (1073741823 : Int32))))] [(.int (0 : Int32))])) t → Steps p.tables e below (s₁.setTop (entryFrame m #[(.int p0), (.int p1)] maxLocals)) t := fun t k => pre27 t (by
        show Steps p.tables e below (T26.setTop (mkF m 77 #[.val (.int p0), .val (.int p1), .val (.int (f0_m8 p0 p1)), .val (.int (p1 &&& (1073741823 : Int32))), .val (.int ((2 : Int32) * (p1 &&& (1073741823 : Int32))))] [(.int (F1 (-((2 : Int32) * (p1 &&& (1073741823 : Int32))))))])) _
        refine XS.ifYes X26.here hx rfl (pc0 := 77) (pc' := 84) rfl (hb hby at_77) rfl ((if0 _ _).trans (feq hc77_28).2) (by decide) (by decide) ?_
        show Steps p.tables e below (T26.setTop (mkF m 84 #[.val (.int p0), .val (.int p1), .val (.int (f0_m8 p0 p1)), .val (.int (p1 &&& (1073741823 : Int32))), .val (.int ((2 : Int32) * (p1 &&& (1073741823 : Int32))))] [])) _
        refine XS.iconst X26.here hx rfl (hb hby at_84) ?_
        exact k)
      obtain ⟨fs, hr, hrun, hended, hW, hsame⟩ := X26.leave (v := some (.int (0 : Int32))) (fun h => by rw [Bd.returns] at h; cases h)
      have hF : F0 p0 p1 = (0 : Int32) := by unfold F0; rw [if_pos hc21_11, if_neg hc32_13, if_neg hc58_21, if_pos hc68_25, if_neg hc77_28]
      exact ⟨_, _, pre30 _ (retN X26 hx (t := .boolean) Bd.returns (by simp) (hb hby at_85) hr), hrun, hended, _, _, rfl, ⟨by rw [hF], N26, e26⟩, ⟨_, rfl⟩, hW, hsame.mono (by decide) (by decide)⟩
    have pre31 : ∀ t, Steps p.tables e below (T23.setTop (mkF m 85 #[.val (.int p0), .val (.int p1), .val (.int (f0_m8 p0 p1)), .val (.int (p1 &&& (1073741823 : Int32))), .val (.int ((2 : Int32) * (p1 &&& (1073741823 : Int32))))] [(.int (0 : Int32))])) t → Steps p.tables e below (s₁.setTop (entryFrame m #[(.int p0), (.int p1)] maxLocals)) t := fun t k => pre24 t (by
      show Steps p.tables e below (T23.setTop (mkF m 68 #[.val (.int p0), .val (.int p1), .val (.int (f0_m8 p0 p1)), .val (.int (p1 &&& (1073741823 : Int32))), .val (.int ((2 : Int32) * (p1 &&& (1073741823 : Int32))))] [(.int (F1 (((2 : Int32) * (p1 &&& (1073741823 : Int32))) - (1 : Int32))))])) _
      refine XS.ifYes X23.here hx rfl (pc0 := 68) (pc' := 84) rfl (hb hby at_68) rfl ((if0 _ _).trans (feq hc68_25).2) (by decide) (by decide) ?_
      show Steps p.tables e below (T23.setTop (mkF m 84 #[.val (.int p0), .val (.int p1), .val (.int (f0_m8 p0 p1)), .val (.int (p1 &&& (1073741823 : Int32))), .val (.int ((2 : Int32) * (p1 &&& (1073741823 : Int32))))] [])) _
      refine XS.iconst X23.here hx rfl (hb hby at_84) ?_
      exact k)
    obtain ⟨fs, hr, hrun, hended, hW, hsame⟩ := X23.leave (v := some (.int (0 : Int32))) (fun h => by rw [Bd.returns] at h; cases h)
    have hF : F0 p0 p1 = (0 : Int32) := by unfold F0; rw [if_pos hc21_11, if_neg hc32_13, if_neg hc58_21, if_neg hc68_25]
    exact ⟨_, _, pre31 _ (retN X23 hx (t := .boolean) Bd.returns (by simp) (hb hby at_85) hr), hrun, hended, _, _, rfl, ⟨by rw [hF], N23, e23⟩, ⟨_, rfl⟩, hW, hsame.mono (by decide) (by decide)⟩
  have pre32 : ∀ t, Steps p.tables e below (T9.setTop (mkF m 25 #[.val (.int p0), .val (.int p1), .val (.int (f0_m8 p0 p1)), .unset, .unset] [(.int (0 : Int32))])) t → Steps p.tables e below (s₁.setTop (entryFrame m #[(.int p0), (.int p1)] maxLocals)) t := fun t k => pre10 t (by
    show Steps p.tables e below (T9.setTop (mkF m 21 #[.val (.int p0), .val (.int p1), .val (.int (f0_m8 p0 p1)), .unset, .unset] [(.int (f0_m8 p0 p1)), (.int (F1 p0))])) _
    refine XS.icmpNo X9.here hx rfl (hb hby at_21) rfl (feq hc21_11).1 ?_
    show Steps p.tables e below (T9.setTop (mkF m 24 #[.val (.int p0), .val (.int p1), .val (.int (f0_m8 p0 p1)), .unset, .unset] [])) _
    refine XS.iconst X9.here hx rfl (hb hby at_24) ?_
    exact k)
  obtain ⟨fs, hr, hrun, hended, hW, hsame⟩ := X9.leave (v := some (.int (0 : Int32))) (fun h => by rw [Bd.returns] at h; cases h)
  have hF : F0 p0 p1 = (0 : Int32) := by unfold F0; rw [if_neg hc21_11]
  exact ⟨_, _, pre32 _ (retN X9 hx (t := .boolean) Bd.returns (by simp) (hb hby at_25) hr), hrun, hended, _, _, rfl, ⟨by rw [hF], N9, e9⟩, ⟨_, rfl⟩, hW, hsame.mono (by decide) (by decide)⟩
theorem own_lt0 (x : Int32) : (0 : Int32) < x ↔ 0 < x.toInt := by rw [Int32.lt_iff_toInt_lt]; exact Iff.rfl
theorem own_eq0 (x : Int32) : x = (0 : Int32) ↔ x.toInt = 0 := by rw [← Int32.toInt_inj]; exact Iff.rfl
theorem own_F1 (x : Int32) : F1 x = if 0 < x.toInt ∧ x.toInt % 2 = 0 then 1 else 0 := by
  unfold F1
  by_cases h : 0 < x.toInt
  · have r := (c_irem x 2 2 (by decide)).1 (by omega)
    rw [if_pos ((own_lt0 x).mpr h)]
    by_cases q : x.toInt % 2 = 0
    · rw [if_pos ((own_eq0 _).mpr (by omega)), if_pos ⟨h, q⟩]
    · rw [if_neg (mt (own_eq0 _).mp (by omega)), if_neg (fun z => q z.2)]
  · rw [if_neg (mt (own_lt0 x).mp h), if_neg (fun z => h z.1)]
theorem own_m8 (x y : Int32) : f0_m8 x y = if 0 < x.toInt ∧ x.toInt % 2 = 0 then 1 else 0 := by
  unfold f0_m8
  have r : (x &&& (1 : Int32)).toInt = x.toInt % (2 ^ 1 : Nat) := c_mask x 1 1 (by decide) (by decide)
  by_cases h : 0 < x.toInt
  · rw [if_pos ((own_lt0 x).mpr h)]
    by_cases q : x.toInt % 2 = 0
    · rw [if_pos ((own_eq0 _).mpr (by omega)), if_pos ⟨h, q⟩]
    · rw [if_neg (mt (own_eq0 _).mp (by omega)), if_neg (fun z => q z.2)]
  · rw [if_neg (mt (own_lt0 x).mp h), if_neg (fun z => h z.1)]
theorem own_law (p0 p1 : Int32) : F0 p0 p1 = 1 := by
  unfold F0
  rw [if_pos (by rw [own_F1, own_m8])]
  by_cases h : (p1 &&& (1073741823 : Int32)) = 0
  · rw [if_pos h]; decide
  · rw [if_neg h]
    have r : (p1 &&& (1073741823 : Int32)).toInt = p1.toInt % (2 ^ 30 : Nat) := c_mask p1 1073741823 30 (by decide) (by decide)
    have h' := mt (own_eq0 _).mpr h
    generalize (p1 &&& (1073741823 : Int32)) = n at *
    have e2 : ((2 : Int32) * n).toInt = 2 * n.toInt := by
      have q := c_imul 2 n; have := rng32 ((2 : Int32) * n)
      rw [show (2 : Int32).toInt = 2 from rfl] at q
      omega
    generalize (2 : Int32) * n = d at *
    have e1 : (d - (1 : Int32)).toInt = d.toInt - 1 := by
      have := c_isub d 1; have := rng32 (d - (1 : Int32)); have : (1 : Int32).toInt = 1 := rfl
      omega
    have en : (-d).toInt = -d.toInt := by
      have := c_ineg d; have := rng32 (-d)
      omega
    have a1 : F1 d = 1 := by rw [own_F1, if_pos (by omega)]
    have a2 : F1 (d - (1 : Int32)) = 0 := by rw [own_F1, if_neg (by omega)]
    have a3 : F1 (-d) = 0 := by rw [own_F1, if_neg (by omega)]
    rw [a1, a2, a3]; decide
set_option maxRecDepth 65536 in
set_option maxHeartbeats 40000000 in
theorem comes_1 {Post : Tables → Env → Array Value → State → Outcome → State → Prop} (hpost : ∀ tb e args s v u, (limb_1_1.after args s (.returned v) u = true ∧ limb_1_2.after args s (.returned v) u = true ∧ True) → FrameEnd s (.returned v) u (Jvm.fieldLocs frame_1_writes args s ++ Jvm.arrayLocs frame_1_arrays args s ++ Jvm.staticLocs frame_1_statics s) 0 0 → Post tb e args s (.returned v) u) :
    ArmFor flags0 classFile x code maxLocals ret World_1 tables_1 room_1 Calls_1 rest_1 Pre_1 Post := by
  intro l hfl _ _ p e ha hc hk s m args below hf hA hF happ hP
  obtain ⟨hcalls, hrest, hpre⟩ := hP
  obtain ⟨-, -, -, hnamed, -, -, -, hat⟩ := (Spec.applies_iff hf).mp happ
  obtain ⟨hg, hn⟩ := and_e (Cond.before_iff.mp (show (Jvm.Cond.and given_1 narrow_1).before args s = true from hpre))
  obtain ⟨hcount, g0⟩ := and_e hg
  obtain ⟨ga0, g1⟩ := and_e g0
  obtain ⟨w0, w1, rfl⟩ : ∃ w0 w1 : Value, args = #[w0, w1] := by
    have hs : args.size = 2 := by simpa [Cond.value, given_1] using hcount
    obtain ⟨L⟩ := args
    match L, hs with
    | [w0, w1], _ => exact ⟨w0, w1, rfl⟩
  have hw := fun d (hd : d ∈ tables_1) => atoms_spec (ws := Jvm.Cond.code x code maxLocals ret :: tables_1) hat d (List.mem_cons_of_mem _ hd)
  obtain ⟨i0, ei0⟩ := is_v ga0
  obtain rfl : w0 = (.int i0) := Option.some.inj ei0
  obtain ⟨i1, ei1⟩ := is_v g1
  obtain rfl : w1 = (.int i1) := Option.some.inj ei1
  obtain ⟨n, o, h1, h2, h3, _, L, rfl, ⟨rfl, N, -⟩, hq⟩ := rm0 l s _ hw tables_1 i0 i1 s.heap s.heap.size (Nat.le_refl _) p e ha hc hk s m _ below hf ((Spec.applies_iff_loose hf).mp happ).1 ⟨rfl, State.Warmed39.refl s, rfl⟩ trivial
  have hlaw := own_law i0 i1
  refine ⟨n, _, h1, h2, h3, hpost _ _ _ _ _ _ ⟨Cond.after_iff.mpr rfl, Cond.after_iff.mpr (eq_i res_at (Term.int_eval (1)) (congrArg Value.int hlaw)), trivial⟩ ⟨hq.1, hq.2.1, (hq.2.2.sift fun y hy => Or.inr (N y hy)).mono (by decide) (by decide)⟩⟩
theorem main_1_1 : Claimed_1_1 := comes_1 fun _ _ _ _ _ _ h hF => ⟨h.1, hF⟩
theorem main_1_2 : Claimed_1_2 := comes_1 fun _ _ _ _ _ _ h hF => ⟨h.2.1, hF⟩
end Jvm.Pilot.@@N@@
namespace Jvm.Pilot.@@N@@
open Jvm Jvm.ClassFile Sem Op Lib Jvm.Free Jvm.Stand Jvm.Pilot.@@N@@.Jvm.D
/-! MADE BY PROGRAM (witnessworld.py) out of the Statement's table words and the real class files: 9 classes; the members and pool entries that the words name. The judged class is class 1, her method 1. -/
namespace start1
open Jvm.ClassFile
def u (s : String) : CpInfo := .utf8 (stringToUtf16 s)
/-- a pool by its gaps: so many unusable entries, then the entry; so many at the end -/
def gap : Nat → List CpInfo → List CpInfo
  | 0, r => r
  | n + 1, r => .unusable :: gap n r
def poolList (es : List (Nat × CpInfo)) (last : Nat) : List CpInfo := es.foldr (fun e r => gap e.1 (e.2 :: r)) (gap last [])
def pool (es : List (Nat × CpInfo)) (last : Nat) : Array CpInfo := ⟨poolList es last⟩
def fileOf (pool : Array CpInfo) (this : Nat) (attrs : Array Attribute := #[]) (ms : Array MethodInfo := #[]) (fl : Nat := 33) (sup : Nat := 0) (ifs : Array Nat := #[]) (fds : Array FieldInfo := #[]) : ClassFile where
  minorVersion := 0
  majorVersion := 65
  constantPool := pool
  accessFlags := fl
  thisClass := this
  superClass := sup
  interfaces := ifs
  fields := fds
  methods := ms
  attributes := attrs
def plain (name : String) (sup : Option ClassId) : Class where
  name := name
  kind := .ordinary
  loader := none
  accessFlags := 33
  super := sup
  interfaces := #[]
  cf := none
  fields := #[]
  methods := #[]
  instanceTypes := #[]
  staticTypes := #[]
  resolved := #[]
  callSites := []
  init := .initialized
  statics := none
  mirror := none

def pool0 : Array CpInfo := pool [(5, u "<init>"), (0, u "()V"), (1, .class_ 10), (1, u "java/lang/Object")] 113

def k0m0 : Method := { name := "<init>", desc := "()V", sig := { parameters := [], returnType := none }, accessFlags := 1, code := none }
/-- java/lang/Object -/
def k0 : Class := { plain "java/lang/Object" none with
  accessFlags := 33
  interfaces := #[]
  cf := some (fileOf pool0 8 #[] #[{ accessFlags := 1, nameIndex := 5, descriptorIndex := 6, attributes := #[] }] 33 0 #[] #[])
  fields := #[]
  methods := #[k0m0]
  instanceTypes := #[]
  staticTypes := #[]
  resolved := Array.replicate 124 none
  statics := none }

def pool1 : Array CpInfo := pool [(2, .class_ 4), (1, u "java/lang/Object"), (0, u "<init>"), (0, u "()V"), (0, .methodref 8 9), (0, .class_ 10), (0, .nameAndType 11 12), (0, u "com/example/cardwarden/cardwarden/core/fs/FilePath"), (0, u "isPathLength"), (0, u "(I)Z"), (0, .integer 1073741823), (0, .class_ 15), (0, u "com/example/cardwarden/cardwarden/core/fs/FilePathIsPathLengthPinLaw"), (2, u "law"), (0, u "(II)Z")] 3

def k1m0 : Method := { name := "<init>", desc := "()V", sig := { parameters := [], returnType := none }, accessFlags := 1, code := none }
def k1c1 : Code := { maxStack := 2, maxLocals := 5, code := code, exceptionTable := #[], attributes := #[] }
def k1m1 : Method := { name := "law", desc := "(II)Z", sig := { parameters := [.int, .int], returnType := some .boolean }, accessFlags := 9, code := some k1c1 }
/-- com/example/cardwarden/cardwarden/core/fs/FilePathIsPathLengthPinLaw -/
def k1 : Class := { plain "com/example/cardwarden/cardwarden/core/fs/FilePathIsPathLengthPinLaw" (some 0) with
  accessFlags := 49
  interfaces := #[]
  cf := some (fileOf pool1 14 #[] #[{ accessFlags := 1, nameIndex := 5, descriptorIndex := 6, attributes := #[] }, { accessFlags := 9, nameIndex := 18, descriptorIndex := 19, attributes := #[] }] 49 2 #[] #[])
  fields := #[]
  methods := #[k1m0, k1m1]
  instanceTypes := #[]
  staticTypes := #[]
  resolved := Array.replicate 23 none
  statics := none }

def pool2 : Array CpInfo := pool [(2, .class_ 4), (1, u "java/lang/Object"), (3, .class_ 10), (1, u "com/example/cardwarden/cardwarden/core/fs/FilePath"), (0, u "ids"), (0, u "Ljava/util/List;"), (21, u "MF"), (0, u "Lcom/example/cardwarden/cardwarden/core/fs/FilePath;"), (38, u "RESERVED_IDS"), (0, u "Ljava/util/Set;"), (104, u "MF_ID"), (0, u "I"), (4, u "ID_DIGITS"), (1, u "ID_BYTES"), (10, u "isPathLength"), (0, u "(I)Z")] 34

def k2c0 : Code := { maxStack := 2, maxLocals := 1, code := prog_27_method_4_code, exceptionTable := #[], attributes := #[] }
def k2m0 : Method := { name := "isPathLength", desc := "(I)Z", sig := { parameters := [.int], returnType := some .boolean }, accessFlags := 9, code := some k2c0 }
/-- com/example/cardwarden/cardwarden/core/fs/FilePath -/
def k2 : Class := { plain "com/example/cardwarden/cardwarden/core/fs/FilePath" (some 0) with
  accessFlags := 49
  interfaces := #[]
  cf := some (fileOf pool2 8 #[] #[{ accessFlags := 9, nameIndex := 199, descriptorIndex := 200, attributes := #[] }] 49 2 #[] #[{ accessFlags := 26, nameIndex := 180, descriptorIndex := 181, attributes := #[] }, { accessFlags := 25, nameIndex := 34, descriptorIndex := 35, attributes := #[] }, { accessFlags := 26, nameIndex := 74, descriptorIndex := 75, attributes := #[] }, { accessFlags := 26, nameIndex := 186, descriptorIndex := 181, attributes := #[] }, { accessFlags := 26, nameIndex := 188, descriptorIndex := 181, attributes := #[] }, { accessFlags := 18, nameIndex := 11, descriptorIndex := 12, attributes := #[] }])
  fields := #[{ name := "MF_ID", type := .int, accessFlags := 26, slot := 0, constantValue := 0 }, { name := "MF", type := (.object "com/example/cardwarden/cardwarden/core/fs/FilePath"), accessFlags := 25, slot := 1, constantValue := 0 }, { name := "RESERVED_IDS", type := (.object "java/util/Set"), accessFlags := 26, slot := 2, constantValue := 0 }, { name := "ID_DIGITS", type := .int, accessFlags := 26, slot := 3, constantValue := 0 }, { name := "ID_BYTES", type := .int, accessFlags := 26, slot := 4, constantValue := 0 }, { name := "ids", type := (.object "java/util/List"), accessFlags := 18, slot := 0, constantValue := 0 }]
  methods := #[k2m0]
  instanceTypes := #[(.object "java/util/List")]
  staticTypes := #[.int, (.object "com/example/cardwarden/cardwarden/core/fs/FilePath"), (.object "java/util/Set"), .int, .int]
  resolved := Array.replicate 235 none
  statics := none }

def pool3 : Array CpInfo := pool [(1, u "java/lang/Cloneable"), (0, .class_ 1), (0, u "java/lang/Object"), (0, .class_ 3)] 3

/-- java/lang/Cloneable -/
def k3 : Class := { plain "java/lang/Cloneable" (some 0) with
  accessFlags := 1537
  interfaces := #[]
  cf := some (fileOf pool3 2 #[] #[] 1537 4 #[] #[])
  fields := #[]
  methods := #[]
  instanceTypes := #[]
  staticTypes := #[]
  resolved := Array.replicate 8 none
  statics := none }

def pool4 : Array CpInfo := pool [(1, u "java/io/Serializable"), (0, .class_ 1), (0, u "java/lang/Object"), (0, .class_ 3)] 3

/-- java/io/Serializable -/
def k4 : Class := { plain "java/io/Serializable" (some 0) with
  accessFlags := 1537
  interfaces := #[]
  cf := some (fileOf pool4 2 #[] #[] 1537 4 #[] #[])
  fields := #[]
  methods := #[]
  instanceTypes := #[]
  staticTypes := #[]
  resolved := Array.replicate 8 none
  statics := none }

/-- the primitive byte -/
def k5 : Class := { plain "byte" none with kind := .primitive 'B', accessFlags := 0x411 }
/-- [B -/
def k6 : Class := { plain "[B" (some 0) with kind := .array 5 .byte, interfaces := #[3, 4], accessFlags := 1041 }

/-- the primitive int -/
def k7 : Class := { plain "int" none with kind := .primitive 'I', accessFlags := 0x411 }
/-- [I -/
def k8 : Class := { plain "[I" (some 0) with kind := .array 7 .int, interfaces := #[3, 4], accessFlags := 1041 }

def heap : Heap := #[]
def classes : Array Class := #[k0, k1, k2, k3, k4, k5, k6, k7, k8]
def interned : List (Array UInt16 × Addr) := []
def slotsUsed : Nat := 0
def theMethod : MethodId := ⟨1, 1⟩
def args0 : Array Value := #[.int 7, .int 7]
def aboutOver (below : List Frame) : State where
  vm := { classes := classes, interned := interned.toArray }
  heap := heap
  slotsUsed := slotsUsed
  threads := #[{ frames := .invoking theMethod args0 :: below }]
def below0 : List Frame := [.native { method := ⟨0, 0⟩, args := #[] }]
def about1 : State := aboutOver below0
def p0 : Program := .bare "" "" ""
def e0 : Env := launch0.env 0 0 0
theorem w_frames : about1.frames = Frame.invoking theMethod args0 :: below0 := rfl
set_option maxRecDepth 65536 in
theorem w_args : argsFit about1.vm theMethod args0 = true := by decide +kernel
set_option maxRecDepth 65536 in
theorem w_heap : heapFits about1 = true := by decide +kernel
set_option maxRecDepth 65536 in
theorem w_runnable : about1.curStatus? = some .runnable := by decide +kernel
set_option maxRecDepth 65536 in
theorem w_alone : about1.alone = true := by decide +kernel
set_option maxRecDepth 65536 in
theorem w_named : about1.methodNamed? x = some theMethod := by decide +kernel
set_option maxRecDepth 65536 in
theorem w_hears : about1.hears theMethod below0 = true := by decide +kernel
set_option maxRecDepth 65536 in
theorem w_ripe : about1.ripe theMethod args0 below0 = true := by decide +kernel
theorem w_running : about1.status = .running := rfl
set_option maxRecDepth 65536 in
theorem w_room : about1.hasRoom e0.platform room_1 = true :=
  launch0.hasRoom_least _ room_1 (by decide +kernel) (by decide +kernel) (by decide +kernel) (by decide +kernel) (by decide +kernel) (by decide +kernel)
theorem allAtoms_all (ts : List Jvm.Cond) (a : Array Jvm.Value) (st : Jvm.State) : (allAtoms ts).before a st = ts.all (fun c => c.before a st) := by
  induction ts with
  | nil => rfl
  | cons c t ih =>
    show (Jvm.Cond.and c (allAtoms t)).before a st = _
    rw [Jvm.Cond.before_and, ih, List.all_cons]
def words1 : List Jvm.Cond := Jvm.Cond.code x code maxLocals ret :: tables_1
/-- a 'code' word, met by the world's own term for the bytes: nothing is compared byte by byte -/
theorem code_word {y : MethodName} {bytes : ByteArray} {mx : Nat} {rt : Option FieldType} {a : Array Value} {s : State} {m : MethodId} {meth : Method} {c : Code} (h1 : s.methodNamed? y = some m) (h2 : s.vm.method? m = some meth) (h3 : meth.code = some c) (h4 : c.code = bytes)
    (h5 : (c.maxLocals == mx && c.exceptionTable.isEmpty && decide (c.maxStack ≤ mostOperands) && decide (meth.sig.returnType = rt) && !meth.locks && decide (parseMethodDescriptor y.desc = some meth.sig)) = true) : (Jvm.Cond.code y bytes mx rt).before a s = true := by
  simp only [Bool.and_eq_true, beq_iff_eq, Bool.not_eq_true', decide_eq_true_eq] at h5
  obtain ⟨⟨⟨⟨⟨g1, g2⟩, g3⟩, g4⟩, g5⟩, g6⟩ := h5
  simp [Cond.before, Cond.holds, Cond.value, h1, h2, h3, h4, g1, g2, g3, g4, g5, g6]
def isCode : Jvm.Cond → Bool
  | .code _ _ _ _ => true
  | _ => false
theorem all_split {L : List Jvm.Cond} {P : Jvm.Cond → Bool} (h1 : L.all (fun c => isCode c || P c) = true) (h2 : ∀ c ∈ L.filter isCode, P c = true) : L.all P = true := by
  refine List.all_eq_true.mpr fun c hc => ?_
  have h := List.all_eq_true.mp h1 c hc
  rcases Bool.eq_false_or_eq_true (isCode c) with hi | hi
  · exact h2 c (List.mem_filter.mpr ⟨hc, hi⟩)
  · simpa [hi] using h
set_option maxRecDepth 65536 in
theorem w_c0 : (Jvm.Cond.code x code maxLocals ret).before args0 about1 = true := code_word (m := ⟨1, 1⟩) (meth := k1m1) (c := k1c1) (by decide +kernel) rfl rfl rfl (by decide +kernel)
set_option maxRecDepth 65536 in
theorem w_c1 : (Jvm.Cond.code ({ cls := "com/example/cardwarden/cardwarden/core/fs/FilePath", name := "isPathLength", desc := "(I)Z" } : Jvm.MethodName) prog_27_method_4_code (1 : Nat) (Option.some Jvm.ClassFile.FieldType.boolean)).before args0 about1 = true := code_word (m := ⟨2, 0⟩) (meth := k2m0) (c := k2c0) (by decide +kernel) rfl rfl rfl (by decide +kernel)
def codes1 : List Jvm.Cond := [Jvm.Cond.code x code maxLocals ret, Jvm.Cond.code ({ cls := "com/example/cardwarden/cardwarden/core/fs/FilePath", name := "isPathLength", desc := "(I)Z" } : Jvm.MethodName) prog_27_method_4_code (1 : Nat) (Option.some Jvm.ClassFile.FieldType.boolean)]
set_option maxRecDepth 65536 in
theorem codes_eq : words1.filter isCode = codes1 := rfl
theorem w_codes : ∀ c ∈ words1.filter isCode, c.before args0 about1 = true := by
  rw [codes_eq]
  intro c hc
  simp only [codes1, List.mem_cons, List.not_mem_nil, or_false] at hc
  rcases hc with rfl | rfl
  · exact w_c0
  · exact w_c1
set_option maxRecDepth 65536 in
theorem w_t1 : words1.all (fun c => isCode c || c.before args0 about1) = true := by decide +kernel
theorem w_tables : (allAtoms (Jvm.Cond.code x code maxLocals ret :: tables_1)).before args0 about1 = true := by
  rw [allAtoms_all]
  show words1.all (fun c => c.before args0 about1) = true
  refine all_split ?_ w_codes
  rw [w_t1]
set_option maxRecDepth 65536 in
theorem w_case : (Jvm.Cond.and given_1 narrow_1).before args0 about1 = true := by decide +kernel
theorem w_applies : (headSpec (Jvm.Cond.code x code maxLocals ret :: tables_1) room_1).applies x e0.platform about1 = true :=
  (Spec.applies_iff w_frames).mpr ⟨w_running, w_runnable, w_alone, w_named, w_hears, w_ripe, w_room, w_tables⟩
theorem atStart : AtStart classFile x code maxLocals ret World_1 tables_1 room_1 Calls_1 rest_1 Pre_1 launch0 p0 e0 about1 theMethod args0 below0 :=
  ⟨lists_1, trivial, launch0.admits_env _ _ _, launch0.least_env, fairChoices_fair.cas, fairChoices_fair.clock, w_frames, w_args, w_heap, w_applies, trivial, trivial, w_case⟩
end start1
theorem witness_1 : WitnessClaimed_1 := ⟨start1.p0, start1.e0, start1.about1, start1.theMethod, start1.args0, start1.below0, start1.atStart⟩
end Jvm.Pilot.@@N@@
