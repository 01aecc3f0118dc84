import JvmDerived
import JvmDerived.Pilot.@@N@@Statement
import JvmDerived.Pilot.@@N@@Code
set_option linter.unusedVariables false
set_option linter.unusedSimpArgs false
namespace Jvm.RoadKit
open Sem ClassFile Op Lib Jvm.Stand Jvm.Free Jvm.LawKit
section New
variable {p : Program} {l : Launch} {e : Env} {R : Room} {s : State} {m : MethodId} {args : Array Value} {below : List Frame} {meth : Method} {c : Code} {T : State} {locs : List Loc} {cells slots : Nat}
theorem retI (X : Stand p l e R s m args below meth c T locs cells slots) (hx : p.tables.exec = Jvm.exec) {pc : Nat} {Ls : Array Slot} {z : Int32} {rest : List Value} (hret : meth.sig.returnType = some .int) (hd : decode c.code pc = .ok (.ireturn, 1)) {fs : List Frame}
    (hl : ∀ (f : JFrame) (acts : List Action), f.method = m → f.locked = none → f.entered = [] → (doReturn e (T.setTop f) acts (some (.int z))).1 = T.setFrames fs) : Steps p.tables e below (T.setTop (mkF m pc Ls (.int z :: rest))) (T.setFrames fs) := by
  have hm' : T.vm.method? m = some meth := X.method'
  have hn : narrow .int (.int z) = .int z := rfl
  show Steps p.tables e below (T.setTop { method := m, pc := pc, locals := Ls, stack := _ :: rest, locked := none }) _
  jvm_step X.here [X.here.top, hx, hd, hm', hret, hn]
  first | (intro acts; rw [hl _ acts rfl rfl rfl]) | rw [hl _ _ rfl rfl rfl]
  exact Steps.refl _
end New
end Jvm.RoadKit
namespace Jvm.Pilot.@@N@@
open Jvm Jvm.ClassFile Sem Op Lib Jvm.Free Jvm.Stand Jvm.LawKit Jvm.RoadKit Bundle Jvm.Pilot.@@N@@.Jvm.D
theorem d1_0 : decode jdk_29_method_70_code 0 = .ok (.lload_n 0, 1) := by decide +kernel
theorem d1_1 : decode jdk_29_method_70_code 1 = .ok (.lload_n 2, 1) := by decide +kernel
theorem d1_2 : decode jdk_29_method_70_code 2 = .ok (.lcmp, 1) := by decide +kernel
theorem d1_3 : decode jdk_29_method_70_code 3 = .ok (.ifCond .gt 7, 3) := by decide +kernel
theorem d1_10 : decode jdk_29_method_70_code 10 = .ok (.lload_n 2, 1) := by decide +kernel
theorem d1_6 : decode jdk_29_method_70_code 6 = .ok (.lload_n 0, 1) := by decide +kernel
theorem d1_7 : decode jdk_29_method_70_code 7 = .ok (.goto 4, 3) := by decide +kernel
theorem d1_11 : decode jdk_29_method_70_code 11 = .ok (.lreturn, 1) := by decide +kernel
theorem d2_0 : decode jdk_29_method_66_code 0 = .ok (.lload_n 0, 1) := by decide +kernel
theorem d2_1 : decode jdk_29_method_66_code 1 = .ok (.lload_n 2, 1) := by decide +kernel
theorem d2_2 : decode jdk_29_method_66_code 2 = .ok (.lcmp, 1) := by decide +kernel
theorem d2_3 : decode jdk_29_method_66_code 3 = .ok (.ifCond .lt 7, 3) := by decide +kernel
theorem d2_10 : decode jdk_29_method_66_code 10 = .ok (.lload_n 2, 1) := by decide +kernel
theorem d2_6 : decode jdk_29_method_66_code 6 = .ok (.lload_n 0, 1) := by decide +kernel
theorem d2_7 : decode jdk_29_method_66_code 7 = .ok (.goto 4, 3) := by decide +kernel
theorem d2_11 : decode jdk_29_method_66_code 11 = .ok (.lreturn, 1) := by decide +kernel
theorem d4_0 : decode jdk_30_method_1_code 0 = .ok (.aload_n 0, 1) := by decide +kernel
theorem d4_1 : decode jdk_30_method_1_code 1 = .ok (.invokespecial 1, 3) := by decide +kernel
theorem d4_4 : decode jdk_30_method_1_code 4 = .ok (.return_, 1) := by decide +kernel
theorem d3_0 : decode prog_15_method_1_code 0 = .ok (.aload_n 0, 1) := by decide +kernel
theorem d3_1 : decode prog_15_method_1_code 1 = .ok (.invokespecial 1, 3) := by decide +kernel
theorem pd0 : parseMethodDescriptor "()V" = some ⟨[], none⟩ := by decide +kernel
theorem d3_4 : decode prog_15_method_1_code 4 = .ok (.lload_n 1, 1) := by decide +kernel
theorem d3_5 : decode prog_15_method_1_code 5 = .ok (.lconst 0, 1) := by decide +kernel
theorem d3_6 : decode prog_15_method_1_code 6 = .ok (.lcmp, 1) := by decide +kernel
theorem d3_7 : decode prog_15_method_1_code 7 = .ok (.ifCond .ge 18, 3) := by decide +kernel
theorem d3_25 : decode prog_15_method_1_code 25 = .ok (.lload_n 1, 1) := by decide +kernel
theorem d3_26 : decode prog_15_method_1_code 26 = .ok (.lload_n 3, 1) := by decide +kernel
theorem d3_27 : decode prog_15_method_1_code 27 = .ok (.lcmp, 1) := by decide +kernel
theorem d3_28 : decode prog_15_method_1_code 28 = .ok (.ifCond .le 18, 3) := by decide +kernel
theorem d3_46 : decode prog_15_method_1_code 46 = .ok (.aload_n 0, 1) := by decide +kernel
theorem d3_47 : decode prog_15_method_1_code 47 = .ok (.lload_n 1, 1) := by decide +kernel
theorem d3_48 : decode prog_15_method_1_code 48 = .ok (.putfield 17, 3) := by decide +kernel
theorem d3_51 : decode prog_15_method_1_code 51 = .ok (.aload_n 0, 1) := by decide +kernel
theorem d3_52 : decode prog_15_method_1_code 52 = .ok (.lload_n 3, 1) := by decide +kernel
theorem d3_53 : decode prog_15_method_1_code 53 = .ok (.putfield 23, 3) := by decide +kernel
theorem d3_56 : decode prog_15_method_1_code 56 = .ok (.return_, 1) := by decide +kernel
theorem d6_0 : decode prog_15_method_4_code 0 = .ok (.aload_n 0, 1) := by decide +kernel
theorem d6_1 : decode prog_15_method_4_code 1 = .ok (.getfield 23, 3) := by decide +kernel
theorem d6_4 : decode prog_15_method_4_code 4 = .ok (.ldc2_w 28, 3) := by decide +kernel
theorem d6_7 : decode prog_15_method_4_code 7 = .ok (.lcmp, 1) := by decide +kernel
theorem d6_8 : decode prog_15_method_4_code 8 = .ok (.ifCond .ne 7, 3) := by decide +kernel
theorem d6_11 : decode prog_15_method_4_code 11 = .ok (.iconst 1, 1) := by decide +kernel
theorem d6_12 : decode prog_15_method_4_code 12 = .ok (.goto 4, 3) := by decide +kernel
theorem d6_16 : decode prog_15_method_4_code 16 = .ok (.ireturn, 1) := by decide +kernel
theorem d6_15 : decode prog_15_method_4_code 15 = .ok (.iconst 0, 1) := by decide +kernel
theorem d7_0 : decode prog_15_method_2_code 0 = .ok (.new 18, 3) := by decide +kernel
theorem d7_3 : decode prog_15_method_2_code 3 = .ok (.dup, 1) := by decide +kernel
theorem d7_4 : decode prog_15_method_2_code 4 = .ok (.lload_n 0, 1) := by decide +kernel
theorem d7_5 : decode prog_15_method_2_code 5 = .ok (.ldc2_w 28, 3) := by decide +kernel
theorem d7_8 : decode prog_15_method_2_code 8 = .ok (.invokespecial 30, 3) := by decide +kernel
theorem pd1 : parseMethodDescriptor "(JJ)V" = some ⟨[.long, .long], none⟩ := by decide +kernel
theorem d7_11 : decode prog_15_method_2_code 11 = .ok (.areturn, 1) := by decide +kernel
theorem pd2 : parseMethodDescriptor "(JJ)J" = some ⟨[.long, .long], some .long⟩ := by decide +kernel
theorem pd3 : parseMethodDescriptor "()Z" = some ⟨[], some .boolean⟩ := by decide +kernel
theorem pd4 : parseMethodDescriptor "(J)Lcom/example/rangekeeper/rangekeeper/core/Range;" = some ⟨[.long], some (.object "com/example/rangekeeper/rangekeeper/core/Range")⟩ := by decide +kernel
theorem pn0 : plainName "java/lang/Record" = true := by first | (simp [plainName, overriddenIn]; done) | decide +kernel
theorem pn1 : plainName "com/example/rangekeeper/rangekeeper/core/Range" = true := by first | (simp [plainName, overriddenIn]; done) | decide +kernel
theorem pn2 : plainName "com/example/rangekeeper/rangekeeper/core/RangeIsUnboundedPinLaw" = true := by first | (simp [plainName, overriddenIn]; done) | decide +kernel
def f1_m5 (q0 : Int64) (q1 : Int64) : Int64 := (if q1 < q0 then q1 else q0)
def F1 (q0 : Int64) (q1 : Int64) : Int64 := (f1_m5 q0 q1)
theorem ef1 (m : MethodId) (x0 : Int64) (x1 : Int64) : entryFrame m #[(.long x0), (.long x1)] 4 = mkF m 0 #[.val (.long x0), .second, .val (.long x1), .second] [] := by first | (simp [entryFrame, mkF, argsToLocals, Value.category]; done) | rfl
def Q1 (Z : State) (q0 : Int64) (q1 : Int64) (h0 : Heap) (n0 : Nat) (v : Option Value) (h : Heap) (L : List Loc) : Prop := v = some (.long (F1 q0 q1)) ∧ Fr n0 L ∧ h = h0
set_option maxRecDepth 65536 in
set_option maxHeartbeats 40000000 in
theorem rm1 (l : Launch) (Z : State) (a0' : Array Value) (hw : ∀ d ∈ tables_1, d.before a0' Z = true) (ws : List Jvm.Cond) (q0 : Int64) (q1 : Int64) (h0 : Heap) (n0 : Nat) (Z0 : n0 ≤ h0.size) :
    MetFree l (⟨"java/lang/Math", "min", "(JJ)J"⟩ : MethodName) (head1 (Jvm.Cond.code (⟨"java/lang/Math", "min", "(JJ)J"⟩ : MethodName) jdk_29_method_70_code 4 (some .long) :: ws) ({ frames := 0, cells := 0, slots := 0, locals := 0 } : Room)) (fun a U => a = #[(.long q0), (.long q1)] ∧ Z.Warmed39 U.vm ∧ U.heap = h0) (fun _ _ _ _ _ => True) (fun _ U o U' => ∃ v L, o = .returned v ∧ Q1 Z q0 q1 h0 n0 v U'.heap L ∧ FrameEnd U o U' L ({ frames := 0, cells := 0, slots := 0, locals := 0 } : Room).cells ({ frames := 0, cells := 0, slots := 0, locals := 0 } : Room).slots) := by
  refine MetFree.of_bodySF (Jvm.Free.JP.mathPlain rfl (by decide +kernel)) hisR ?_
  intro p e s m args below meth c s₁ Bd hml0 hP hK
  obtain ⟨rfl, hZ, hh⟩ := hP
  have hx := Bd.exec
  have hby := Bd.bytes
  have hml : c.maxLocals = 4 := hml0
  have hown : s.vm.findClass "java/lang/Math" = some m.cls := findClass_of_methodNamed Bd.named
  have hnm := (name_of_methodNamed Bd.named Bd.method).1
  have X0 : Stand p l e ({ frames := 0, cells := 0, slots := 0, locals := 0 } : Room) s m #[(.long q0), (.long q1)] below meth c s₁ [] 0 0 := Stand.of_body Bd
  have e0 : s₁.heap = h0 := by rw [← hh, Bd.state]; rfl
  have N0 := Fr.nil n0
  have hlk : meth.locks = false := by first | exact BodyLoose.notSynchronized Bd | exact Body.notSynchronized Bd
  have pre0 : ∀ t, Steps p.tables e below (s₁.setTop (mkF m 0 #[.val (.long q0), .second, .val (.long q1), .second] [])) t → Steps p.tables e below (s₁.setTop (entryFrame m #[(.long q0), (.long q1)] 4)) t := fun t k => castTop (ef1 m q0 q1) k
  have pre1 : ∀ t, Steps p.tables e below (s₁.setTop (mkF m 3 #[.val (.long q0), .second, .val (.long q1), .second] [(.int (lcmpW q0 q1))])) t → Steps p.tables e below (s₁.setTop (entryFrame m #[(.long q0), (.long q1)] 4)) t := fun t k => pre0 t (by
    show Steps p.tables e below (s₁.setTop (mkF m 0 #[.val (.long q0), .second, .val (.long q1), .second] [])) _
    refine XS.lloadN X0.here hx rfl (hb hby d1_0) rfl ?_
    show Steps p.tables e below (s₁.setTop (mkF m 1 #[.val (.long q0), .second, .val (.long q1), .second] [(.long q0)])) _
    refine XS.lloadN X0.here hx rfl (hb hby d1_1) rfl ?_
    show Steps p.tables e below (s₁.setTop (mkF m 2 #[.val (.long q0), .second, .val (.long q1), .second] [(.long q1), (.long q0)])) _
    refine XS.lcmp X0.here hx rfl (hb hby d1_2) rfl ?_
    exact k)
  obtain ⟨T2, L2, X2, e2, N2, pre2⟩ : ∃ (T' : State) (locs' : List Loc), Stand p l e ({ frames := 0, cells := 0, slots := 0, locals := 0 } : Room) s m #[(.long q0), (.long q1)] below meth c T' locs' 0 0 ∧ T'.heap = h0 ∧ Fr n0 locs' ∧ ∀ t, Steps p.tables e below (T'.setTop (mkF m 11 #[.val (.long q0), .second, .val (.long q1), .second] [(.long (f1_m5 q0 q1))])) t → Steps p.tables e below (s₁.setTop (entryFrame m #[(.long q0), (.long q1)] 4)) t := by
    by_cases hc3_2 : q1 < q0
    · have pre3 : ∀ t, Steps p.tables e below (s₁.setTop (mkF m 11 #[.val (.long q0), .second, .val (.long q1), .second] [(.long q1)])) t → Steps p.tables e below (s₁.setTop (entryFrame m #[(.long q0), (.long q1)] 4)) t := fun t k => pre1 t (by
        show Steps p.tables e below (s₁.setTop (mkF m 3 #[.val (.long q0), .second, .val (.long q1), .second] [(.int (lcmpW q0 q1))])) _
        refine XS.ifYes X0.here hx rfl (pc0 := 3) (pc' := 10) rfl (hb hby d1_3) rfl ((if0 _ _).trans (tlt ((lw_gt q0 q1).mpr hc3_2)).2.2.1) (by decide) (by decide) ?_
        show Steps p.tables e below (s₁.setTop (mkF m 10 #[.val (.long q0), .second, .val (.long q1), .second] [])) _
        refine XS.lloadN X0.here hx rfl (hb hby d1_10) rfl ?_
        exact k)
      have q_f1_m5 : f1_m5 q0 q1 = q1 := by unfold f1_m5; rw [if_pos hc3_2]
      rw [q_f1_m5]
      exact ⟨s₁, _, X0, e0, N0, pre3⟩
    have pre4 : ∀ t, Steps p.tables e below (s₁.setTop (mkF m 11 #[.val (.long q0), .second, .val (.long q1), .second] [(.long q0)])) t → Steps p.tables e below (s₁.setTop (entryFrame m #[(.long q0), (.long q1)] 4)) t := fun t k => pre1 t (by
      show Steps p.tables e below (s₁.setTop (mkF m 3 #[.val (.long q0), .second, .val (.long q1), .second] [(.int (lcmpW q0 q1))])) _
      refine XS.ifNo X0.here hx rfl (hb hby d1_3) rfl ((if0 _ _).trans (flt (mt (lw_gt q0 q1).mp hc3_2)).2.2.1) ?_
      show Steps p.tables e below (s₁.setTop (mkF m 6 #[.val (.long q0), .second, .val (.long q1), .second] [])) _
      refine XS.lloadN X0.here hx rfl (hb hby d1_6) rfl ?_
      show Steps p.tables e below (s₁.setTop (mkF m 7 #[.val (.long q0), .second, .val (.long q1), .second] [(.long q0)])) _
      refine XS.goto X0.here hx rfl (pc0 := 7) (pc' := 11) rfl (hb hby d1_7) (by decide) (by decide) ?_
      exact k)
    have q_f1_m5 : f1_m5 q0 q1 = q0 := by unfold f1_m5; rw [if_neg hc3_2]
    rw [q_f1_m5]
    exact ⟨s₁, _, X0, e0, N0, pre4⟩
  obtain ⟨fs, hr, hrun, hended, hW, hsame⟩ := X2.leave (v := some (.long (f1_m5 q0 q1))) (fun h => by rw [Bd.returns] at h; cases h) hlk
  have hF : (F1 q0 q1) = (f1_m5 q0 q1) := by rfl
  exact ⟨_, _, pre2 _ (X2.lreturnOut hx Bd.returns (hb hby d1_11) hr), hrun, hended, _, _, rfl, ⟨by rw [hF], N2, e2⟩, ⟨_, rfl⟩, hW, hsame.mono (by decide) (by decide)⟩
def f2_m5 (q0 : Int64) (q1 : Int64) : Int64 := (if q0 < q1 then q1 else q0)
def F2 (q0 : Int64) (q1 : Int64) : Int64 := (f2_m5 q0 q1)
theorem ef2 (m : MethodId) (x0 : Int64) (x1 : Int64) : entryFrame m #[(.long x0), (.long x1)] 4 = mkF m 0 #[.val (.long x0), .second, .val (.long x1), .second] [] := by first | (simp [entryFrame, mkF, argsToLocals, Value.category]; done) | rfl
def Q2 (Z : State) (q0 : Int64) (q1 : Int64) (h0 : Heap) (n0 : Nat) (v : Option Value) (h : Heap) (L : List Loc) : Prop := v = some (.long (F2 q0 q1)) ∧ Fr n0 L ∧ h = h0
set_option maxRecDepth 65536 in
set_option maxHeartbeats 40000000 in
theorem rm2 (l : Launch) (Z : State) (a0' : Array Value) (hw : ∀ d ∈ tables_1, d.before a0' Z = true) (ws : List Jvm.Cond) (q0 : Int64) (q1 : Int64) (h0 : Heap) (n0 : Nat) (Z0 : n0 ≤ h0.size) :
    MetFree l (⟨"java/lang/Math", "max", "(JJ)J"⟩ : MethodName) (head1 (Jvm.Cond.code (⟨"java/lang/Math", "max", "(JJ)J"⟩ : MethodName) jdk_29_method_66_code 4 (some .long) :: ws) ({ frames := 0, cells := 0, slots := 0, locals := 0 } : Room)) (fun a U => a = #[(.long q0), (.long q1)] ∧ Z.Warmed39 U.vm ∧ U.heap = h0) (fun _ _ _ _ _ => True) (fun _ U o U' => ∃ v L, o = .returned v ∧ Q2 Z q0 q1 h0 n0 v U'.heap L ∧ FrameEnd U o U' L ({ frames := 0, cells := 0, slots := 0, locals := 0 } : Room).cells ({ frames := 0, cells := 0, slots := 0, locals := 0 } : Room).slots) := by
  refine MetFree.of_bodySF (Jvm.Free.JP.mathPlain rfl (by decide +kernel)) hisR ?_
  intro p e s m args below meth c s₁ Bd hml0 hP hK
  obtain ⟨rfl, hZ, hh⟩ := hP
  have hx := Bd.exec
  have hby := Bd.bytes
  have hml : c.maxLocals = 4 := hml0
  have hown : s.vm.findClass "java/lang/Math" = some m.cls := findClass_of_methodNamed Bd.named
  have hnm := (name_of_methodNamed Bd.named Bd.method).1
  have X0 : Stand p l e ({ frames := 0, cells := 0, slots := 0, locals := 0 } : Room) s m #[(.long q0), (.long q1)] below meth c s₁ [] 0 0 := Stand.of_body Bd
  have e0 : s₁.heap = h0 := by rw [← hh, Bd.state]; rfl
  have N0 := Fr.nil n0
  have hlk : meth.locks = false := by first | exact BodyLoose.notSynchronized Bd | exact Body.notSynchronized Bd
  have pre0 : ∀ t, Steps p.tables e below (s₁.setTop (mkF m 0 #[.val (.long q0), .second, .val (.long q1), .second] [])) t → Steps p.tables e below (s₁.setTop (entryFrame m #[(.long q0), (.long q1)] 4)) t := fun t k => castTop (ef2 m q0 q1) k
  have pre1 : ∀ t, Steps p.tables e below (s₁.setTop (mkF m 3 #[.val (.long q0), .second, .val (.long q1), .second] [(.int (lcmpW q0 q1))])) t → Steps p.tables e below (s₁.setTop (entryFrame m #[(.long q0), (.long q1)] 4)) t := fun t k => pre0 t (by
    show Steps p.tables e below (s₁.setTop (mkF m 0 #[.val (.long q0), .second, .val (.long q1), .second] [])) _
    refine XS.lloadN X0.here hx rfl (hb hby d2_0) rfl ?_
    show Steps p.tables e below (s₁.setTop (mkF m 1 #[.val (.long q0), .second, .val (.long q1), .second] [(.long q0)])) _
    refine XS.lloadN X0.here hx rfl (hb hby d2_1) rfl ?_
    show Steps p.tables e below (s₁.setTop (mkF m 2 #[.val (.long q0), .second, .val (.long q1), .second] [(.long q1), (.long q0)])) _
    refine XS.lcmp X0.here hx rfl (hb hby d2_2) rfl ?_
    exact k)
  obtain ⟨T2, L2, X2, e2, N2, pre2⟩ : ∃ (T' : State) (locs' : List Loc), Stand p l e ({ frames := 0, cells := 0, slots := 0, locals := 0 } : Room) s m #[(.long q0), (.long q1)] below meth c T' locs' 0 0 ∧ T'.heap = h0 ∧ Fr n0 locs' ∧ ∀ t, Steps p.tables e below (T'.setTop (mkF m 11 #[.val (.long q0), .second, .val (.long q1), .second] [(.long (f2_m5 q0 q1))])) t → Steps p.tables e below (s₁.setTop (entryFrame m #[(.long q0), (.long q1)] 4)) t := by
    by_cases hc3_2 : q0 < q1
    · have pre3 : ∀ t, Steps p.tables e below (s₁.setTop (mkF m 11 #[.val (.long q0), .second, .val (.long q1), .second] [(.long q1)])) t → Steps p.tables e below (s₁.setTop (entryFrame m #[(.long q0), (.long q1)] 4)) t := fun t k => pre1 t (by
        show Steps p.tables e below (s₁.setTop (mkF m 3 #[.val (.long q0), .second, .val (.long q1), .second] [(.int (lcmpW q0 q1))])) _
        refine XS.ifYes X0.here hx rfl (pc0 := 3) (pc' := 10) rfl (hb hby d2_3) rfl ((if0 _ _).trans (tlt ((lw_lt q0 q1).mpr hc3_2)).1) (by decide) (by decide) ?_
        show Steps p.tables e below (s₁.setTop (mkF m 10 #[.val (.long q0), .second, .val (.long q1), .second] [])) _
        refine XS.lloadN X0.here hx rfl (hb hby d2_10) rfl ?_
        exact k)
      have q_f2_m5 : f2_m5 q0 q1 = q1 := by unfold f2_m5; rw [if_pos hc3_2]
      rw [q_f2_m5]
      exact ⟨s₁, _, X0, e0, N0, pre3⟩
    have pre4 : ∀ t, Steps p.tables e below (s₁.setTop (mkF m 11 #[.val (.long q0), .second, .val (.long q1), .second] [(.long q0)])) t → Steps p.tables e below (s₁.setTop (entryFrame m #[(.long q0), (.long q1)] 4)) t := fun t k => pre1 t (by
      show Steps p.tables e below (s₁.setTop (mkF m 3 #[.val (.long q0), .second, .val (.long q1), .second] [(.int (lcmpW q0 q1))])) _
      refine XS.ifNo X0.here hx rfl (hb hby d2_3) rfl ((if0 _ _).trans (flt (mt (lw_lt q0 q1).mp hc3_2)).1) ?_
      show Steps p.tables e below (s₁.setTop (mkF m 6 #[.val (.long q0), .second, .val (.long q1), .second] [])) _
      refine XS.lloadN X0.here hx rfl (hb hby d2_6) rfl ?_
      show Steps p.tables e below (s₁.setTop (mkF m 7 #[.val (.long q0), .second, .val (.long q1), .second] [(.long q0)])) _
      refine XS.goto X0.here hx rfl (pc0 := 7) (pc' := 11) rfl (hb hby d2_7) (by decide) (by decide) ?_
      exact k)
    have q_f2_m5 : f2_m5 q0 q1 = q0 := by unfold f2_m5; rw [if_neg hc3_2]
    rw [q_f2_m5]
    exact ⟨s₁, _, X0, e0, N0, pre4⟩
  obtain ⟨fs, hr, hrun, hended, hW, hsame⟩ := X2.leave (v := some (.long (f2_m5 q0 q1))) (fun h => by rw [Bd.returns] at h; cases h) hlk
  have hF : (F2 q0 q1) = (f2_m5 q0 q1) := by rfl
  exact ⟨_, _, pre2 _ (X2.lreturnOut hx Bd.returns (hb hby d2_11) hr), hrun, hended, _, _, rfl, ⟨by rw [hF], N2, e2⟩, ⟨_, rfl⟩, hW, hsame.mono (by decide) (by decide)⟩
theorem ef4 (m : MethodId) (x0 : Addr) : entryFrame m #[(.ref x0)] 1 = mkF m 0 #[.val (.ref x0)] [] := by first | (simp [entryFrame, mkF, argsToLocals, Value.category]; done) | rfl
def Q4 (Z : State) (a0 : Addr) (h0 : Heap) (n0 : Nat) (v : Option Value) (h : Heap) (L : List Loc) : Prop := v = none ∧ Fr n0 L ∧ h = h0
set_option maxRecDepth 65536 in
set_option maxHeartbeats 40000000 in
theorem rm4 (l : Launch) (Z : State) (a0' : Array Value) (hw : ∀ d ∈ tables_1, d.before a0' Z = true) (ws : List Jvm.Cond) (a0 : Addr) (h0 : Heap) (n0 : Nat) (Z0 : n0 ≤ h0.size) :
    MetFree l (⟨"java/lang/Record", "<init>", "()V"⟩ : MethodName) (head1 (Jvm.Cond.code (⟨"java/lang/Record", "<init>", "()V"⟩ : MethodName) jdk_30_method_1_code 1 none :: ws) ({ frames := 1, cells := 0, slots := 0, locals := 12 } : Room)) (fun a U => a = #[(.ref a0)] ∧ Z.Warmed39 U.vm ∧ U.heap = h0) (fun _ _ _ _ _ => True) (fun _ U o U' => ∃ v L, o = .returned v ∧ Q4 Z a0 h0 n0 v U'.heap L ∧ FrameEnd U o U' L ({ frames := 1, cells := 0, slots := 0, locals := 12 } : Room).cells ({ frames := 1, cells := 0, slots := 0, locals := 12 } : Room).slots) := by
  refine MetFree.of_bodySF (plainFor_of_name pn0) hisR ?_
  intro p e s m args below meth c s₁ Bd hml0 hP hK
  obtain ⟨rfl, hZ, hh⟩ := hP
  have hx := Bd.exec
  have hby := Bd.bytes
  have hml : c.maxLocals = 1 := hml0
  have hown : s.vm.findClass "java/lang/Record" = some m.cls := findClass_of_methodNamed Bd.named
  have hnm := (name_of_methodNamed Bd.named Bd.method).1
  have X0 : Stand p l e ({ frames := 1, cells := 0, slots := 0, locals := 12 } : Room) s m #[(.ref a0)] below meth c s₁ [] 0 0 := Stand.of_body Bd
  have e0 : s₁.heap = h0 := by rw [← hh, Bd.state]; rfl
  have N0 := Fr.nil n0
  have hlk : meth.locks = false := by first | exact BodyLoose.notSynchronized Bd | exact Body.notSynchronized Bd
  have pre0 : ∀ t, Steps p.tables e below (s₁.setTop (mkF m 0 #[.val (.ref a0)] [])) t → Steps p.tables e below (s₁.setTop (entryFrame m #[(.ref a0)] 1)) t := fun t k => castTop (ef4 m a0) k
  obtain ⟨T1, X1, e1, st1⟩ := initO X0 hx hZ hown (hw _ (List.mem_of_getElem? (i := 19) rfl)) (hw _ (List.mem_of_getElem? (i := 20) rfl)) (hw _ (List.mem_of_getElem? (i := 21) rfl)) e0 (g := (mkF m 1 #[.val (.ref a0)] [(.ref a0)])) rfl (by rw [hml]; rfl) rfl (hb hby d4_1) (by decide) (W := 0) (by show 2 * 0 + _ ≤ _; exact Nat.le_of_eq rfl) (by decide)
  have pre2 : ∀ t, Steps p.tables e below (T1.setTop (mkF m 4 #[.val (.ref a0)] [])) t → Steps p.tables e below (s₁.setTop (entryFrame m #[(.ref a0)] 1)) t := fun t k => pre0 t (by
    show Steps p.tables e below (s₁.setTop (mkF m 0 #[.val (.ref a0)] [])) _
    refine XS.aloadN X0.here hx rfl (hb hby d4_0) rfl rfl ?_
    show Steps p.tables e below (s₁.setTop (mkF m 1 #[.val (.ref a0)] [(.ref a0)])) _
    refine st1 _ ?_
    exact k)
  obtain ⟨fs, hr, hrun, hended, hW, hsame⟩ := X1.leave (v := none) (fun _ => rfl) hlk
  exact ⟨_, _, pre2 _ (X1.returnOut hx Bd.returns (hb hby d4_4) hr), hrun, hended, _, _, rfl, ⟨rfl, N0, e1⟩, ⟨_, rfl⟩, hW, hsame.mono (by decide) (by decide)⟩
theorem ef3 (m : MethodId) (x0 : Addr) (x1 : Int64) (x2 : Int64) : entryFrame m #[(.ref x0), (.long x1), (.long x2)] 5 = mkF m 0 #[.val (.ref x0), .val (.long x1), .second, .val (.long x2), .second] [] := by first | (simp [entryFrame, mkF, argsToLocals, Value.category]; done) | rfl
def Q3 (Z : State) (a0 : Addr) (q1 : Int64) (q2 : Int64) (wa0_start : Int64) (wa0_stop : Int64) (h0 : Heap) (n0 : Nat) (v : Option Value) (h : Heap) (L : List Loc) : Prop := v = none ∧ Fr n0 L ∧ Keep h0 h [a0] ∧ Exa Z h a0 "com/example/rangekeeper/rangekeeper/core/Range" ∧ Fld Z h a0 "com/example/rangekeeper/rangekeeper/core/Range" "start" "J" (.long q1) ∧ Fld Z h a0 "com/example/rangekeeper/rangekeeper/core/Range" "stop" "J" (.long q2)
set_option maxRecDepth 65536 in
set_option maxHeartbeats 40000000 in
theorem rm3 (l : Launch) (Z : State) (a0' : Array Value) (hw : ∀ d ∈ tables_1, d.before a0' Z = true) (ws : List Jvm.Cond) (a0 : Addr) (q1 : Int64) (q2 : Int64) (wa0_start : Int64) (wa0_stop : Int64) (h0 : Heap) (n0 : Nat) (Z0 : n0 ≤ h0.size) (E_a0 : Exa Z h0 a0 "com/example/rangekeeper/rangekeeper/core/Range") (F_wa0_start : Fld Z h0 a0 "com/example/rangekeeper/rangekeeper/core/Range" "start" "J" (.long wa0_start)) (F_wa0_stop : Fld Z h0 a0 "com/example/rangekeeper/rangekeeper/core/Range" "stop" "J" (.long wa0_stop)) (g_a0 : n0 ≤ a0) (hc7 : ¬ (q1 < (0 : Int64))) (hc28 : ¬ (q2 < q1)) :
    MetFree l (⟨"com/example/rangekeeper/rangekeeper/core/Range", "<init>", "(JJ)V"⟩ : MethodName) (head1 (Jvm.Cond.code (⟨"com/example/rangekeeper/rangekeeper/core/Range", "<init>", "(JJ)V"⟩ : MethodName) prog_15_method_1_code 5 none :: ws) ({ frames := 2, cells := 0, slots := 0, locals := 24 } : Room)) (fun a U => a = #[(.ref a0), (.long q1), (.long q2)] ∧ Z.Warmed39 U.vm ∧ U.heap = h0) (fun _ _ _ _ _ => True) (fun _ U o U' => ∃ v L, o = .returned v ∧ Q3 Z a0 q1 q2 wa0_start wa0_stop h0 n0 v U'.heap L ∧ FrameEnd U o U' L ({ frames := 2, cells := 0, slots := 0, locals := 24 } : Room).cells ({ frames := 2, cells := 0, slots := 0, locals := 24 } : Room).slots) := by
  refine MetFree.of_bodySF (plainFor_of_name pn1) hisR ?_
  intro p e s m args below meth c s₁ Bd hml0 hP hK
  obtain ⟨rfl, hZ, hh⟩ := hP
  have hx := Bd.exec
  have hby := Bd.bytes
  have hml : c.maxLocals = 5 := hml0
  have hown : s.vm.findClass "com/example/rangekeeper/rangekeeper/core/Range" = some m.cls := findClass_of_methodNamed Bd.named
  have hnm := (name_of_methodNamed Bd.named Bd.method).1
  have X0 : Stand p l e ({ frames := 2, cells := 0, slots := 0, locals := 24 } : Room) s m #[(.ref a0), (.long q1), (.long q2)] below meth c s₁ [] 0 0 := Stand.of_body Bd
  have e0 : s₁.heap = h0 := by rw [← hh, Bd.state]; rfl
  have N0 := Fr.nil n0
  have hlk : meth.locks = false := by first | exact BodyLoose.notSynchronized Bd | exact Body.notSynchronized Bd
  have pre0 : ∀ t, Steps p.tables e below (s₁.setTop (mkF m 0 #[.val (.ref a0), .val (.long q1), .second, .val (.long q2), .second] [])) t → Steps p.tables e below (s₁.setTop (entryFrame m #[(.ref a0), (.long q1), (.long q2)] 5)) t := fun t k => castTop (ef3 m a0 q1 q2) k
  obtain ⟨_, _, ⟨T1, L1, k1, n1⟩, -, X1, ⟨Lc1, hQ1, l1, y1, z1⟩, st1⟩ := X0.specialBack hx (y := (⟨"java/lang/Record", "<init>", "()V"⟩ : MethodName)) rfl hown (mvT hZ (hw _ (List.mem_of_getElem? (i := 14) rfl))) (mvT hZ (hw _ (List.mem_of_getElem? (i := 15) rfl))) (mvT hZ (hw _ (List.mem_of_getElem? (i := 18) rfl))) (by decide) (backOf (W := 0) (rm4 l Z a0' hw [] a0 h0 n0 Z0) hZ (hw _ (List.mem_of_getElem? (i := 18) rfl)) (hw _ (List.mem_of_getElem? (i := 17) rfl)) (by decide) (by decide)) (g := (mkF m 1 #[.val (.ref a0), .val (.long q1), .second, .val (.long q2), .second] [(.ref a0)])) rfl (by rw [hml]; rfl) (Steps.refl _) (a := a0) (argsL := []) (rest := []) (lenOf pd0 rfl) rfl (by show 2 * 0 + _ ≤ _; exact Nat.le_of_eq rfl) (hb hby d3_1) (fun _ _ => ⟨rfl, e0, (by decide : 0 + 0 ≤ _), (by decide : 0 + 0 ≤ _)⟩)
  dsimp only [Pt.U, Pt.locs, Pt.cells, Pt.slots] at X1 l1 y1 z1 st1 hQ1
  subst l1 y1 z1
  obtain ⟨rfl, N1q, e1⟩ := hQ1
  have N1 := Fr.app N0 N1q
  obtain ⟨T2, h2, X2, e2, W2, st2⟩ := putF X1 hx hZ hown (host := "") (Or.inl (hw _ (List.mem_of_getElem? (i := 22) rfl))) Via.refl e1 F_wa0_start E_a0 (Or.inr ⟨(hw _ (List.mem_of_getElem? (i := 23) rfl)), rfl, hnm⟩) (hw _ (List.mem_of_getElem? (i := 9) rfl)) (ty := .long) (by decide) rfl rfl (g := (mkF m 48 #[.val (.ref a0), .val (.long q1), .second, .val (.long q2), .second] [(.long q1), (.ref a0)])) rfl rfl (hb hby d3_48)
  have Z2 : n0 ≤ h2.size := Nat.le_trans Z0 (Keep.of_wr W2).1
  have N2 := Fr.snoc X2 N1 g_a0
  have KC2 : Keep h0 h2 [a0] := (Keep.refl h0 [a0]).wr W2 (Or.inl (List.mem_of_getElem? (i := 0) rfl))
  have Fw2 := F_wa0_start.same W2
  have y3 := (E_a0.wr W2)
  have y4 := (F_wa0_stop.other W2 (Or.inr (slot_ne (Or.inr (hw _ (List.mem_of_getElem? (i := 25) rfl))) (Or.inr (hw _ (List.mem_of_getElem? (i := 23) rfl))) (by decide) (t := .long) (t' := .long) (by decide) (by decide))))
  obtain ⟨T5, h5, X5, e5, W5, st5⟩ := putF X2 hx hZ hown (host := "") (Or.inl (hw _ (List.mem_of_getElem? (i := 24) rfl))) Via.refl e2 y4 y3 (Or.inr ⟨(hw _ (List.mem_of_getElem? (i := 25) rfl)), rfl, hnm⟩) (hw _ (List.mem_of_getElem? (i := 9) rfl)) (ty := .long) (by decide) rfl rfl (g := (mkF m 53 #[.val (.ref a0), .val (.long q1), .second, .val (.long q2), .second] [(.long q2), (.ref a0)])) rfl rfl (hb hby d3_53)
  have Z5 : n0 ≤ h5.size := Nat.le_trans Z2 (Keep.of_wr W5).1
  have N5 := Fr.snoc X5 N2 g_a0
  have KC5 : Keep h0 h5 [a0] := KC2.wr W5 (Or.inl (List.mem_of_getElem? (i := 0) rfl))
  have Fw5 := y4.same W5
  have pre6 : ∀ t, Steps p.tables e below (T5.setTop (mkF m 56 #[.val (.ref a0), .val (.long q1), .second, .val (.long q2), .second] [])) t → Steps p.tables e below (s₁.setTop (entryFrame m #[(.ref a0), (.long q1), (.long q2)] 5)) t := fun t k => pre0 t (by
    show Steps p.tables e below (s₁.setTop (mkF m 0 #[.val (.ref a0), .val (.long q1), .second, .val (.long q2), .second] [])) _
    refine XS.aloadN X0.here hx rfl (hb hby d3_0) rfl rfl ?_
    show Steps p.tables e below (s₁.setTop (mkF m 1 #[.val (.ref a0), .val (.long q1), .second, .val (.long q2), .second] [(.ref a0)])) _
    refine st1.trans ?_
    show Steps p.tables e below (T1.setTop (mkF m 4 #[.val (.ref a0), .val (.long q1), .second, .val (.long q2), .second] [])) _
    refine XS.lloadN X1.here hx rfl (hb hby d3_4) rfl ?_
    show Steps p.tables e below (T1.setTop (mkF m 5 #[.val (.ref a0), .val (.long q1), .second, .val (.long q2), .second] [(.long q1)])) _
    refine XS.lconst X1.here hx rfl (hb hby d3_5) ?_
    show Steps p.tables e below (T1.setTop (mkF m 6 #[.val (.ref a0), .val (.long q1), .second, .val (.long q2), .second] [(.long (0 : Int64)), (.long q1)])) _
    refine XS.lcmp X1.here hx rfl (hb hby d3_6) rfl ?_
    show Steps p.tables e below (T1.setTop (mkF m 7 #[.val (.ref a0), .val (.long q1), .second, .val (.long q2), .second] [(.int (lcmpW q1 (0 : Int64)))])) _
    refine XS.ifYes X1.here hx rfl (pc0 := 7) (pc' := 25) rfl (hb hby d3_7) rfl ((if0 _ _).trans (flt (mt (lw_lt q1 (0 : Int64)).mp hc7)).2.1) (by decide) (by decide) ?_
    show Steps p.tables e below (T1.setTop (mkF m 25 #[.val (.ref a0), .val (.long q1), .second, .val (.long q2), .second] [])) _
    refine XS.lloadN X1.here hx rfl (hb hby d3_25) rfl ?_
    show Steps p.tables e below (T1.setTop (mkF m 26 #[.val (.ref a0), .val (.long q1), .second, .val (.long q2), .second] [(.long q1)])) _
    refine XS.lloadN X1.here hx rfl (hb hby d3_26) rfl ?_
    show Steps p.tables e below (T1.setTop (mkF m 27 #[.val (.ref a0), .val (.long q1), .second, .val (.long q2), .second] [(.long q2), (.long q1)])) _
    refine XS.lcmp X1.here hx rfl (hb hby d3_27) rfl ?_
    show Steps p.tables e below (T1.setTop (mkF m 28 #[.val (.ref a0), .val (.long q1), .second, .val (.long q2), .second] [(.int (lcmpW q1 q2))])) _
    refine XS.ifYes X1.here hx rfl (pc0 := 28) (pc' := 46) rfl (hb hby d3_28) rfl ((if0 _ _).trans (flt (mt (lw_gt q1 q2).mp hc28)).2.2.2) (by decide) (by decide) ?_
    show Steps p.tables e below (T1.setTop (mkF m 46 #[.val (.ref a0), .val (.long q1), .second, .val (.long q2), .second] [])) _
    refine XS.aloadN X1.here hx rfl (hb hby d3_46) rfl rfl ?_
    show Steps p.tables e below (T1.setTop (mkF m 47 #[.val (.ref a0), .val (.long q1), .second, .val (.long q2), .second] [(.ref a0)])) _
    refine XS.lloadN X1.here hx rfl (hb hby d3_47) rfl ?_
    show Steps p.tables e below (T1.setTop (mkF m 48 #[.val (.ref a0), .val (.long q1), .second, .val (.long q2), .second] [(.long q1), (.ref a0)])) _
    refine st2 _ ?_
    show Steps p.tables e below (T2.setTop (mkF m 51 #[.val (.ref a0), .val (.long q1), .second, .val (.long q2), .second] [])) _
    refine XS.aloadN X2.here hx rfl (hb hby d3_51) rfl rfl ?_
    show Steps p.tables e below (T2.setTop (mkF m 52 #[.val (.ref a0), .val (.long q1), .second, .val (.long q2), .second] [(.ref a0)])) _
    refine XS.lloadN X2.here hx rfl (hb hby d3_52) rfl ?_
    show Steps p.tables e below (T2.setTop (mkF m 53 #[.val (.ref a0), .val (.long q1), .second, .val (.long q2), .second] [(.long q2), (.ref a0)])) _
    refine st5 _ ?_
    exact k)
  obtain ⟨fs, hr, hrun, hended, hW, hsame⟩ := X5.leave (v := none) (fun _ => rfl) hlk
  have y7 := (y3.wr W5)
  have y8 := (Fw2.other W5 (Or.inr (slot_ne (Or.inr (hw _ (List.mem_of_getElem? (i := 23) rfl))) (Or.inr (hw _ (List.mem_of_getElem? (i := 25) rfl))) (by decide) (t := .long) (t' := .long) (by decide) (by decide))))
  exact ⟨_, _, pre6 _ (X5.returnOut hx Bd.returns (hb hby d3_56) hr), hrun, hended, _, _, rfl, (by show Q3 Z a0 q1 q2 wa0_start wa0_stop h0 n0 _ T5.heap _; rw [e5]; exact ⟨rfl, N5, KC5, y7, y8, Fw5⟩), ⟨_, rfl⟩, hW, hsame.mono (by decide) (by decide)⟩
def F6 (wa0_stop : Int64) : Int32 := (if wa0_stop = (9223372036854775807 : Int64) then (1 : Int32) else (0 : Int32))
theorem ef6 (m : MethodId) (x0 : Addr) : entryFrame m #[(.ref x0)] 1 = mkF m 0 #[.val (.ref x0)] [] := by first | (simp [entryFrame, mkF, argsToLocals, Value.category]; done) | rfl
def Q6 (Z : State) (a0 : Addr) (wa0_stop : Int64) (h0 : Heap) (n0 : Nat) (v : Option Value) (h : Heap) (L : List Loc) : Prop := v = some (.int (F6 wa0_stop)) ∧ Fr n0 L ∧ h = h0
set_option maxRecDepth 65536 in
set_option maxHeartbeats 40000000 in
theorem rm6 (l : Launch) (Z : State) (a0' : Array Value) (hw : ∀ d ∈ tables_1, d.before a0' Z = true) (ws : List Jvm.Cond) (a0 : Addr) (wa0_stop : Int64) (h0 : Heap) (n0 : Nat) (Z0 : n0 ≤ h0.size) (F_wa0_stop : Fld Z h0 a0 "com/example/rangekeeper/rangekeeper/core/Range" "stop" "J" (.long wa0_stop)) :
    MetFree l (⟨"com/example/rangekeeper/rangekeeper/core/Range", "isUnbounded", "()Z"⟩ : MethodName) (head1 (Jvm.Cond.code (⟨"com/example/rangekeeper/rangekeeper/core/Range", "isUnbounded", "()Z"⟩ : MethodName) prog_15_method_4_code 1 (some .boolean) :: ws) ({ frames := 0, cells := 0, slots := 0, locals := 0 } : Room)) (fun a U => a = #[(.ref a0)] ∧ Z.Warmed39 U.vm ∧ U.heap = h0) (fun _ _ _ _ _ => True) (fun _ U o U' => ∃ v L, o = .returned v ∧ Q6 Z a0 wa0_stop h0 n0 v U'.heap L ∧ FrameEnd U o U' L ({ frames := 0, cells := 0, slots := 0, locals := 0 } : Room).cells ({ frames := 0, cells := 0, slots := 0, locals := 0 } : Room).slots) := by
  refine MetFree.of_bodySF (plainFor_of_name pn1) hisR ?_
  intro p e s m args below meth c s₁ Bd hml0 hP hK
  obtain ⟨rfl, hZ, hh⟩ := hP
  have hx := Bd.exec
  have hby := Bd.bytes
  have hml : c.maxLocals = 1 := hml0
  have hown : s.vm.findClass "com/example/rangekeeper/rangekeeper/core/Range" = some m.cls := findClass_of_methodNamed Bd.named
  have hnm := (name_of_methodNamed Bd.named Bd.method).1
  have X0 : Stand p l e ({ frames := 0, cells := 0, slots := 0, locals := 0 } : Room) s m #[(.ref a0)] below meth c s₁ [] 0 0 := Stand.of_body Bd
  have e0 : s₁.heap = h0 := by rw [← hh, Bd.state]; rfl
  have N0 := Fr.nil n0
  have hlk : meth.locks = false := by first | exact BodyLoose.notSynchronized Bd | exact Body.notSynchronized Bd
  have pre0 : ∀ t, Steps p.tables e below (s₁.setTop (mkF m 0 #[.val (.ref a0)] [])) t → Steps p.tables e below (s₁.setTop (entryFrame m #[(.ref a0)] 1)) t := fun t k => castTop (ef6 m a0) k
  obtain ⟨T1, X1, e1, st1⟩ := getF X0 hx hZ hown (host := "") (Or.inl (hw _ (List.mem_of_getElem? (i := 24) rfl))) Via.refl e0 F_wa0_stop (g := (mkF m 1 #[.val (.ref a0)] [(.ref a0)])) rfl rfl (hb hby d6_1)
  have pre2 : ∀ t, Steps p.tables e below (T1.setTop (mkF m 8 #[.val (.ref a0)] [(.int (lcmpW wa0_stop (9223372036854775807 : Int64)))])) t → Steps p.tables e below (s₁.setTop (entryFrame m #[(.ref a0)] 1)) t := fun t k => pre0 t (by
    show Steps p.tables e below (s₁.setTop (mkF m 0 #[.val (.ref a0)] [])) _
    refine XS.aloadN X0.here hx rfl (hb hby d6_0) rfl rfl ?_
    show Steps p.tables e below (s₁.setTop (mkF m 1 #[.val (.ref a0)] [(.ref a0)])) _
    refine st1 _ ?_
    show Steps p.tables e below (T1.setTop (mkF m 4 #[.val (.ref a0)] [(.long wa0_stop)])) _
    refine X1.ldc2Long hx hown (mvT hZ (hw _ (List.mem_of_getElem? (i := 31) rfl))) (g := (mkF m 4 #[.val (.ref a0)] [(.long wa0_stop)])) rfl (hb hby d6_4) _ ?_
    show Steps p.tables e below (T1.setTop (mkF m 7 #[.val (.ref a0)] [(.long (9223372036854775807 : Int64)), (.long wa0_stop)])) _
    refine XS.lcmp X1.here hx rfl (hb hby d6_7) rfl ?_
    exact k)
  by_cases hc8_3 : wa0_stop = (9223372036854775807 : Int64)
  · have pre4 : ∀ t, Steps p.tables e below (T1.setTop (mkF m 16 #[.val (.ref a0)] [(.int (1 : Int32))])) t → Steps p.tables e below (s₁.setTop (entryFrame m #[(.ref a0)] 1)) t := fun t k => pre2 t (by
      show Steps p.tables e below (T1.setTop (mkF m 8 #[.val (.ref a0)] [(.int (lcmpW wa0_stop (9223372036854775807 : Int64)))])) _
      refine XS.ifNo X1.here hx rfl (hb hby d6_8) rfl ((if0 _ _).trans (teq ((lw_eq wa0_stop (9223372036854775807 : Int64)).mpr hc8_3)).2) ?_
      show Steps p.tables e below (T1.setTop (mkF m 11 #[.val (.ref a0)] [])) _
      refine XS.iconst X1.here hx rfl (hb hby d6_11) ?_
      show Steps p.tables e below (T1.setTop (mkF m 12 #[.val (.ref a0)] [(.int (1 : Int32))])) _
      refine XS.goto X1.here hx rfl (pc0 := 12) (pc' := 16) rfl (hb hby d6_12) (by decide) (by decide) ?_
      exact k)
    obtain ⟨fs, hr, hrun, hended, hW, hsame⟩ := X1.leave (v := some (.int (1 : Int32))) (fun h => by rw [Bd.returns] at h; cases h) hlk
    have hF : (F6 wa0_stop) = (1 : Int32) := by unfold F6; rw [if_pos hc8_3]
    exact ⟨_, _, pre4 _ (retN X1 hx (t := .boolean) Bd.returns (by simp) (hb hby d6_16) hr), hrun, hended, _, _, rfl, ⟨by rw [hF], N0, e1⟩, ⟨_, rfl⟩, hW, hsame.mono (by decide) (by decide)⟩
  have pre5 : ∀ t, Steps p.tables e below (T1.setTop (mkF m 16 #[.val (.ref a0)] [(.int (0 : Int32))])) t → Steps p.tables e below (s₁.setTop (entryFrame m #[(.ref a0)] 1)) t := fun t k => pre2 t (by
    show Steps p.tables e below (T1.setTop (mkF m 8 #[.val (.ref a0)] [(.int (lcmpW wa0_stop (9223372036854775807 : Int64)))])) _
    refine XS.ifYes X1.here hx rfl (pc0 := 8) (pc' := 15) rfl (hb hby d6_8) rfl ((if0 _ _).trans (feq (mt (lw_eq wa0_stop (9223372036854775807 : Int64)).mp hc8_3)).2) (by decide) (by decide) ?_
    show Steps p.tables e below (T1.setTop (mkF m 15 #[.val (.ref a0)] [])) _
    refine XS.iconst X1.here hx rfl (hb hby d6_15) ?_
    exact k)
  obtain ⟨fs, hr, hrun, hended, hW, hsame⟩ := X1.leave (v := some (.int (0 : Int32))) (fun h => by rw [Bd.returns] at h; cases h) hlk
  have hF : (F6 wa0_stop) = (0 : Int32) := by unfold F6; rw [if_neg hc8_3]
  exact ⟨_, _, pre5 _ (retN X1 hx (t := .boolean) Bd.returns (by simp) (hb hby d6_16) hr), hrun, hended, _, _, rfl, ⟨by rw [hF], N0, e1⟩, ⟨_, rfl⟩, hW, hsame.mono (by decide) (by decide)⟩
theorem ef7 (m : MethodId) (x0 : Int64) : entryFrame m #[(.long x0)] 2 = mkF m 0 #[.val (.long x0), .second] [] := by first | (simp [entryFrame, mkF, argsToLocals, Value.category]; done) | rfl
def Q7 (Z : State) (q0 : Int64) (h0 : Heap) (n0 : Nat) (v : Option Value) (h : Heap) (L : List Loc) : Prop := ∃ b : Addr, v = some (.ref b) ∧ Fr n0 L ∧ h0.size ≤ b ∧ n0 ≤ b ∧ Keep h0 h [] ∧ Exa Z h b "com/example/rangekeeper/rangekeeper/core/Range" ∧ Fld Z h b "com/example/rangekeeper/rangekeeper/core/Range" "start" "J" (.long q0) ∧ Fld Z h b "com/example/rangekeeper/rangekeeper/core/Range" "stop" "J" (.long (9223372036854775807 : Int64))
set_option maxRecDepth 65536 in
set_option maxHeartbeats 40000000 in
theorem rm7 (l : Launch) (Z : State) (a0' : Array Value) (hw : ∀ d ∈ tables_1, d.before a0' Z = true) (ws : List Jvm.Cond) (q0 : Int64) (h0 : Heap) (n0 : Nat) (Z0 : n0 ≤ h0.size) (hp8_0 : ¬ (q0 < (0 : Int64))) (hp8_1 : ¬ ((9223372036854775807 : Int64) < q0)) :
    MetFree l (⟨"com/example/rangekeeper/rangekeeper/core/Range", "unbounded", "(J)Lcom/example/rangekeeper/rangekeeper/core/Range;"⟩ : MethodName) (head1 (Jvm.Cond.code (⟨"com/example/rangekeeper/rangekeeper/core/Range", "unbounded", "(J)Lcom/example/rangekeeper/rangekeeper/core/Range;"⟩ : MethodName) prog_15_method_2_code 2 (some (.object "com/example/rangekeeper/rangekeeper/core/Range")) :: ws) ({ frames := 3, cells := 1, slots := 2, locals := 41 } : Room)) (fun a U => a = #[(.long q0)] ∧ Z.Warmed39 U.vm ∧ U.heap = h0) (fun _ _ _ _ _ => True) (fun _ U o U' => ∃ v L, o = .returned v ∧ Q7 Z q0 h0 n0 v U'.heap L ∧ FrameEnd U o U' L ({ frames := 3, cells := 1, slots := 2, locals := 41 } : Room).cells ({ frames := 3, cells := 1, slots := 2, locals := 41 } : Room).slots) := by
  refine MetFree.of_bodySF (plainFor_of_name pn1) hisR ?_
  intro p e s m args below meth c s₁ Bd hml0 hP hK
  obtain ⟨rfl, hZ, hh⟩ := hP
  have hx := Bd.exec
  have hby := Bd.bytes
  have hml : c.maxLocals = 2 := hml0
  have hown : s.vm.findClass "com/example/rangekeeper/rangekeeper/core/Range" = some m.cls := findClass_of_methodNamed Bd.named
  have hnm := (name_of_methodNamed Bd.named Bd.method).1
  have X0 : Stand p l e ({ frames := 3, cells := 1, slots := 2, locals := 41 } : Room) s m #[(.long q0)] below meth c s₁ [] 0 0 := Stand.of_body Bd
  have e0 : s₁.heap = h0 := by rw [← hh, Bd.state]; rfl
  have N0 := Fr.nil n0
  have hlk : meth.locks = false := by first | exact BodyLoose.notSynchronized Bd | exact Body.notSynchronized Bd
  have pre0 : ∀ t, Steps p.tables e below (s₁.setTop (mkF m 0 #[.val (.long q0), .second] [])) t → Steps p.tables e below (s₁.setTop (entryFrame m #[(.long q0)] 2)) t := fun t k => castTop (ef7 m q0) k
  obtain ⟨T1, h1, X1, e1, E1, A1, D1, -, st1⟩ := newO X0 hx hZ hown (hw _ (List.mem_of_getElem? (i := 35) rfl)) (hw _ (List.mem_of_getElem? (i := 9) rfl)) (hw _ (List.mem_of_getElem? (i := 10) rfl)) e0 (g := (mkF m 0 #[.val (.long q0), .second] [])) rfl (hb hby d7_0) (by decide) (by decide)
  obtain ⟨b1, g1⟩ : ∃ z, z = h0.size := ⟨_, rfl⟩
  rw [← g1] at A1 D1 st1
  have g_b1 : n0 ≤ b1 := Nat.le_trans Z0 (Nat.le_of_eq g1.symm)
  have sz_b1 : h0.size ≤ b1 := Nat.le_trans (Keep.refl h0 []).1 (Nat.le_of_eq g1.symm)
  have Z1 : n0 ≤ h1.size := Nat.le_trans Z0 E1.1
  have KC1 : Keep h0 h1 [] := (Keep.refl h0 []).ext E1
  have F1_start : Fld Z h1 b1 "com/example/rangekeeper/rangekeeper/core/Range" "start" "J" (.long (0 : Int64)) := D1 (Or.inr (hw _ (List.mem_of_getElem? (i := 23) rfl))) (ty := .long) (by decide)
  have F1_stop : Fld Z h1 b1 "com/example/rangekeeper/rangekeeper/core/Range" "stop" "J" (.long (0 : Int64)) := D1 (Or.inr (hw _ (List.mem_of_getElem? (i := 25) rfl))) (ty := .long) (by decide)
  obtain ⟨_, _, ⟨T2, L2, k2, n2⟩, -, X2, ⟨Lc2, hQ2, l2, y2, z2⟩, st2⟩ := X1.specialBack hx (y := (⟨"com/example/rangekeeper/rangekeeper/core/Range", "<init>", "(JJ)V"⟩ : MethodName)) rfl hown (mvT hZ (hw _ (List.mem_of_getElem? (i := 36) rfl))) (mvT hZ (hw _ (List.mem_of_getElem? (i := 12) rfl))) (mvT hZ (hw _ (List.mem_of_getElem? (i := 13) rfl))) (by decide) (backOf (W := 1) (rm3 l Z a0' hw [] b1 q0 (9223372036854775807 : Int64) (0 : Int64) (0 : Int64) h1 n0 Z1 A1 F1_start F1_stop g_b1 hp8_0 hp8_1) hZ (hw _ (List.mem_of_getElem? (i := 13) rfl)) (hw _ (List.mem_of_getElem? (i := 10) rfl)) (by decide) (by decide)) (g := (mkF m 8 #[.val (.long q0), .second] [(.long (9223372036854775807 : Int64)), (.long q0), (.ref b1), (.ref b1)])) rfl (by rw [hml]; rfl) (Steps.refl _) (a := b1) (argsL := [(.long q0), (.long (9223372036854775807 : Int64))]) (rest := [(.ref b1)]) (lenOf pd1 rfl) rfl (by show 2 * 0 + _ ≤ _; exact Nat.le_of_eq rfl) (hb hby d7_8) (fun _ _ => ⟨rfl, e1, (by decide : 1 + 0 ≤ _), (by decide : 2 + 0 ≤ _)⟩)
  dsimp only [Pt.U, Pt.locs, Pt.cells, Pt.slots] at X2 l2 y2 z2 st2 hQ2
  subst l2 y2 z2
  obtain ⟨rfl, N2q, K2, u2_0, u2_1, u2_2⟩ := hQ2
  have N2 := Fr.app N0 N2q
  have Z2 : n0 ≤ T2.heap.size := Nat.le_trans Z1 K2.1
  have KC2 : Keep h0 T2.heap [] := KC1.trans K2 (allS (Or.inr sz_b1) all0)
  have pre3 : ∀ t, Steps p.tables e below (T2.setTop (mkF m 11 #[.val (.long q0), .second] [(.ref b1)])) t → Steps p.tables e below (s₁.setTop (entryFrame m #[(.long q0)] 2)) t := fun t k => pre0 t (by
    show Steps p.tables e below (s₁.setTop (mkF m 0 #[.val (.long q0), .second] [])) _
    refine st1 _ ?_
    show Steps p.tables e below (T1.setTop (mkF m 3 #[.val (.long q0), .second] [(.ref b1)])) _
    refine XS.dup X1.here hx rfl (hb hby d7_3) rfl rfl ?_
    show Steps p.tables e below (T1.setTop (mkF m 4 #[.val (.long q0), .second] [(.ref b1), (.ref b1)])) _
    refine XS.lloadN X1.here hx rfl (hb hby d7_4) rfl ?_
    show Steps p.tables e below (T1.setTop (mkF m 5 #[.val (.long q0), .second] [(.long q0), (.ref b1), (.ref b1)])) _
    refine X1.ldc2Long hx hown (mvT hZ (hw _ (List.mem_of_getElem? (i := 31) rfl))) (g := (mkF m 5 #[.val (.long q0), .second] [(.long q0), (.ref b1), (.ref b1)])) rfl (hb hby d7_5) _ ?_
    show Steps p.tables e below (T1.setTop (mkF m 8 #[.val (.long q0), .second] [(.long (9223372036854775807 : Int64)), (.long q0), (.ref b1), (.ref b1)])) _
    refine st2.trans ?_
    exact k)
  obtain ⟨fs, hr, hrun, hended, hW, hsame⟩ := X2.leave (v := some (.ref b1)) (fun h => by rw [Bd.returns] at h; cases h) hlk
  exact ⟨_, _, pre3 _ (by jvm_step X2.here [X2.here.top, hx, (hb hby d7_11), X2.method', Bd.returns, Value.isRef, FieldType.isReference]; (first | (intro acts; rw [hr _ acts rfl rfl rfl]) | rw [hr _ _ rfl rfl rfl]); exact Steps.refl _), hrun, hended, _, _, rfl, ⟨b1, rfl, N2, sz_b1, g_b1, KC2, u2_0, u2_1, u2_2⟩, ⟨_, rfl⟩, hW, hsame.mono (by decide) (by decide)⟩
def f0_m11 (q0 : Int64) (q1 : Int64) (p2 : Int32) : Int64 := (if (p2 &&& (3 : Int32)) = (1 : Int32) then (F1 (q0 &&& (9223372036854775807 : Int64)) (q1 &&& (9223372036854775807 : Int64))) else (if (p2 &&& (3 : Int32)) = (2 : Int32) then (F1 (F1 (q0 &&& (9223372036854775807 : Int64)) (q1 &&& (9223372036854775807 : Int64))) (9223372036854775806 : Int64)) else (F1 (q0 &&& (9223372036854775807 : Int64)) (q1 &&& (9223372036854775807 : Int64)))))
def f0_m12 (q0 : Int64) (q1 : Int64) (p2 : Int32) : Int64 := (if (p2 &&& (3 : Int32)) = (1 : Int32) then (9223372036854775807 : Int64) else (if (p2 &&& (3 : Int32)) = (2 : Int32) then (9223372036854775806 : Int64) else (F2 (q0 &&& (9223372036854775807 : Int64)) (q1 &&& (9223372036854775807 : Int64)))))
def f0_m19 (q0 : Int64) (q1 : Int64) (p2 : Int32) : Int32 := (if (f0_m12 q0 q1 p2) = (9223372036854775807 : Int64) then (1 : Int32) else (0 : Int32))
def F0 (q0 : Int64) (q1 : Int64) (p2 : Int32) : Int32 := (if (F6 (f0_m12 q0 q1 p2)) = (f0_m19 q0 q1 p2) then ((F6 (9223372036854775807 : Int64)) &&& 1) else (0 : Int32))
theorem own_nn (x : Int64) : 0 ≤ (x &&& (9223372036854775807 : Int64)).toInt := by
  rw [c_maskL x 9223372036854775807 63 (by decide) (by decide)]; omega
theorem own_ns (x : Int64) : ¬ (x &&& (9223372036854775807 : Int64)) < 0 := by
  rw [Int64.lt_iff_toInt_lt]; have := own_nn x; have : (0 : Int64).toInt = 0 := rfl; omega
theorem own_min (x y : Int64) : (F1 x y).toInt = if y.toInt < x.toInt then y.toInt else x.toInt := by
  unfold F1 f1_m5; simp only [Int64.lt_iff_toInt_lt]; split <;> rfl
theorem own_max (x y : Int64) : (F2 x y).toInt = if x.toInt < y.toInt then y.toInt else x.toInt := by
  unfold F2 f2_m5; simp only [Int64.lt_iff_toInt_lt]; split <;> rfl
theorem own_s (q0 q1 : Int64) (p2 : Int32) : 0 ≤ (f0_m11 q0 q1 p2).toInt ∧ (f0_m11 q0 q1 p2).toInt ≤ (f0_m12 q0 q1 p2).toInt := by
  have h0 := own_nn q0; have h1 := own_nn q1
  have m1 := own_min (q0 &&& (9223372036854775807 : Int64)) (q1 &&& (9223372036854775807 : Int64))
  have m2 := own_max (q0 &&& (9223372036854775807 : Int64)) (q1 &&& (9223372036854775807 : Int64))
  have m3 := own_min (F1 (q0 &&& (9223372036854775807 : Int64)) (q1 &&& (9223372036854775807 : Int64))) (9223372036854775806 : Int64)
  have c1 : (9223372036854775807 : Int64).toInt = 9223372036854775807 := rfl
  have c2 : (9223372036854775806 : Int64).toInt = 9223372036854775806 := rfl
  have r := rng64 (F1 (q0 &&& (9223372036854775807 : Int64)) (q1 &&& (9223372036854775807 : Int64)))
  unfold f0_m11 f0_m12
  split
  · rw [c1]; split at m1 <;> omega
  · split
    · rw [c2]; split at m1 <;> split at m3 <;> omega
    · split at m1 <;> split at m2 <;> omega
theorem own_p1 (q0 q1 : Int64) (p2 : Int32) : ¬ (f0_m11 q0 q1 p2) < (0 : Int64) := by
  rw [Int64.lt_iff_toInt_lt]; have := own_s q0 q1 p2; have : (0 : Int64).toInt = 0 := rfl; omega
theorem own_p2 (q0 q1 : Int64) (p2 : Int32) : ¬ (f0_m12 q0 q1 p2) < (f0_m11 q0 q1 p2) := by
  rw [Int64.lt_iff_toInt_lt]; have := own_s q0 q1 p2; omega
theorem own_p3 (q0 q1 : Int64) (p2 : Int32) : ¬ (9223372036854775807 : Int64) < (f0_m11 q0 q1 p2) := by
  rw [Int64.lt_iff_toInt_lt]; have := rng64 (f0_m11 q0 q1 p2); have c1 : (9223372036854775807 : Int64).toInt = 9223372036854775807 := rfl; omega
theorem ef0 (m : MethodId) (x0 : Int64) (x1 : Int64) (x2 : Int32) : entryFrame m #[(.long x0), (.long x1), (.int x2)] maxLocals = mkF m 0 #[.val (.long x0), .second, .val (.long x1), .second, .val (.int x2), .unset, .unset, .unset, .unset, .unset, .unset, .unset, .unset, .unset, .unset, .unset, .unset] [] := by first | (simp [entryFrame, mkF, argsToLocals, Value.category, maxLocals]; done) | rfl
def Q0 (Z : State) (q0 : Int64) (q1 : Int64) (p2 : Int32) (h0 : Heap) (n0 : Nat) (v : Option Value) (h : Heap) (L : List Loc) : Prop := v = some (.int (F0 q0 q1 p2)) ∧ Fr n0 L
set_option maxRecDepth 65536 in
set_option maxHeartbeats 40000000 in
theorem rm0 (l : Launch) (Z : State) (a0' : Array Value) (hw : ∀ d ∈ tables_1, d.before a0' Z = true) (ws : List Jvm.Cond) (q0 : Int64) (q1 : Int64) (p2 : Int32) (h0 : Heap) (n0 : Nat) (Z0 : n0 ≤ h0.size) :
    MetFree l x (head1 (Jvm.Cond.code x code maxLocals ret :: ws) room_1) (fun a U => a = #[(.long q0), (.long q1), (.int p2)] ∧ Z.Warmed39 U.vm ∧ U.heap = h0) (fun _ _ _ _ _ => True) (fun _ U o U' => ∃ v L, o = .returned v ∧ Q0 Z q0 q1 p2 h0 n0 v U'.heap L ∧ FrameEnd U o U' L 2 4) := by
  refine MetFree.of_bodySF (plainFor_of_name pn2) hisR ?_
  intro p e s m args below meth c s₁ Bd hml0 hP hK
  obtain ⟨rfl, hZ, hh⟩ := hP
  have hx := Bd.exec
  have hby := Bd.bytes
  have hml : c.maxLocals = 17 := hml0
  have hown : s.vm.findClass "com/example/rangekeeper/rangekeeper/core/RangeIsUnboundedPinLaw" = some m.cls := findClass_of_methodNamed Bd.named
  have hnm := (name_of_methodNamed Bd.named Bd.method).1
  have X0 : Stand p l e room_1 s m #[(.long q0), (.long q1), (.int p2)] below meth c s₁ [] 0 0 := Stand.of_body Bd
  have e0 : s₁.heap = h0 := by rw [← hh, Bd.state]; rfl
  have N0 := Fr.nil n0
  have hlk : meth.locks = false := by first | exact BodyLoose.notSynchronized Bd | exact Body.notSynchronized Bd
  have pre0 : ∀ t, Steps p.tables e below (s₁.setTop (mkF m 0 #[.val (.long q0), .second, .val (.long q1), .second, .val (.int p2), .unset, .unset, .unset, .unset, .unset, .unset, .unset, .unset, .unset, .unset, .unset, .unset] [])) t → Steps p.tables e below (s₁.setTop (entryFrame m #[(.long q0), (.long q1), (.int p2)] maxLocals)) t := fun t k => castTop (ef0 m q0 q1 p2) k
  obtain ⟨_, _, ⟨T1, L1, k1, n1⟩, -, X1, ⟨Lc1, hQ1, l1, y1, z1⟩, st1⟩ := Jvm.LawKit.callS X0 hx (y := (⟨"java/lang/Math", "min", "(JJ)J"⟩ : MethodName)) hown (mvT hZ (hw _ (List.mem_of_getElem? (i := 1) rfl))) (mvT hZ (hw _ (List.mem_of_getElem? (i := 2) rfl))) (mvT hZ (hw _ (List.mem_of_getElem? (i := 3) rfl))) (mvT hZ (hw _ (List.mem_of_getElem? (i := 4) rfl))) (by decide) (backOf (W := 0) (rm1 l Z a0' hw [] (q0 &&& (9223372036854775807 : Int64)) (q1 &&& (9223372036854775807 : Int64)) h0 n0 Z0) hZ (hw _ (List.mem_of_getElem? (i := 4) rfl)) (hw _ (List.mem_of_getElem? (i := 3) rfl)) (by decide) (by decide)) (g := (mkF m 24 #[.val (.long q0), .second, .val (.long q1), .second, .val (.int p2), .val (.long (q0 &&& (9223372036854775807 : Int64))), .second, .val (.long (q1 &&& (9223372036854775807 : Int64))), .second, .val (.int (p2 &&& (3 : Int32))), .unset, .unset, .unset, .unset, .unset, .unset, .unset] [(.long (q1 &&& (9223372036854775807 : Int64))), (.long (q0 &&& (9223372036854775807 : Int64)))])) rfl (by rw [hml]; rfl) (argsL := [(.long (q0 &&& (9223372036854775807 : Int64))), (.long (q1 &&& (9223372036854775807 : Int64)))]) (rest := []) (lenOf pd2 rfl) rfl (by show 2 * 0 + _ ≤ _; exact Nat.le_of_eq rfl) (hb hby at_24) (fun _ _ => ⟨rfl, e0, (by decide : 0 + 0 ≤ _), (by decide : 0 + 0 ≤ _)⟩)
  dsimp only [Pt.U, Pt.locs, Pt.cells, Pt.slots] at X1 l1 y1 z1 st1 hQ1
  subst l1 y1 z1
  obtain ⟨rfl, N1q, e1⟩ := hQ1
  have N1 := Fr.app N0 N1q
  obtain ⟨_, _, ⟨T2, L2, k2, n2⟩, -, X2, ⟨Lc2, hQ2, l2, y2, z2⟩, st2⟩ := Jvm.LawKit.callS X1 hx (y := (⟨"java/lang/Math", "max", "(JJ)J"⟩ : MethodName)) hown (mvT hZ (hw _ (List.mem_of_getElem? (i := 5) rfl))) (mvT hZ (hw _ (List.mem_of_getElem? (i := 6) rfl))) (mvT hZ (hw _ (List.mem_of_getElem? (i := 3) rfl))) (mvT hZ (hw _ (List.mem_of_getElem? (i := 7) rfl))) (by decide) (backOf (W := 0) (rm2 l Z a0' hw [] (q0 &&& (9223372036854775807 : Int64)) (q1 &&& (9223372036854775807 : Int64)) h0 n0 Z0) hZ (hw _ (List.mem_of_getElem? (i := 7) rfl)) (hw _ (List.mem_of_getElem? (i := 3) rfl)) (by decide) (by decide)) (g := (mkF m 33 #[.val (.long q0), .second, .val (.long q1), .second, .val (.int p2), .val (.long (q0 &&& (9223372036854775807 : Int64))), .second, .val (.long (q1 &&& (9223372036854775807 : Int64))), .second, .val (.int (p2 &&& (3 : Int32))), .val (.long (F1 (q0 &&& (9223372036854775807 : Int64)) (q1 &&& (9223372036854775807 : Int64)))), .second, .unset, .unset, .unset, .unset, .unset] [(.long (q1 &&& (9223372036854775807 : Int64))), (.long (q0 &&& (9223372036854775807 : Int64)))])) rfl (by rw [hml]; rfl) (argsL := [(.long (q0 &&& (9223372036854775807 : Int64))), (.long (q1 &&& (9223372036854775807 : Int64)))]) (rest := []) (lenOf pd2 rfl) rfl (by show 2 * 0 + _ ≤ _; exact Nat.le_of_eq rfl) (hb hby at_33) (fun _ _ => ⟨rfl, e1, (by decide : 0 + 0 ≤ _), (by decide : 0 + 0 ≤ _)⟩)
  dsimp only [Pt.U, Pt.locs, Pt.cells, Pt.slots] at X2 l2 y2 z2 st2 hQ2
  subst l2 y2 z2
  obtain ⟨rfl, N2q, e2⟩ := hQ2
  have N2 := Fr.app N1 N2q
  have pre3 : ∀ t, Steps p.tables e below (T2.setTop (mkF m 41 #[.val (.long q0), .second, .val (.long q1), .second, .val (.int p2), .val (.long (q0 &&& (9223372036854775807 : Int64))), .second, .val (.long (q1 &&& (9223372036854775807 : Int64))), .second, .val (.int (p2 &&& (3 : Int32))), .val (.long (F1 (q0 &&& (9223372036854775807 : Int64)) (q1 &&& (9223372036854775807 : Int64)))), .second, .val (.long (F2 (q0 &&& (9223372036854775807 : Int64)) (q1 &&& (9223372036854775807 : Int64)))), .second, .unset, .unset, .unset] [(.int (1 : Int32)), (.int (p2 &&& (3 : Int32)))])) t → Steps p.tables e below (s₁.setTop (entryFrame m #[(.long q0), (.long q1), (.int p2)] maxLocals)) t := fun t k => pre0 t (by
    show Steps p.tables e below (s₁.setTop (mkF m 0 #[.val (.long q0), .second, .val (.long q1), .second, .val (.int p2), .unset, .unset, .unset, .unset, .unset, .unset, .unset, .unset, .unset, .unset, .unset, .unset] [])) _
    refine XS.lloadN X0.here hx rfl (hb hby at_0) rfl ?_
    show Steps p.tables e below (s₁.setTop (mkF m 1 #[.val (.long q0), .second, .val (.long q1), .second, .val (.int p2), .unset, .unset, .unset, .unset, .unset, .unset, .unset, .unset, .unset, .unset, .unset, .unset] [(.long q0)])) _
    refine X0.ldc2Long hx hown (mvT hZ (hw _ (List.mem_of_getElem? (i := 0) rfl))) (g := (mkF m 1 #[.val (.long q0), .second, .val (.long q1), .second, .val (.int p2), .unset, .unset, .unset, .unset, .unset, .unset, .unset, .unset, .unset, .unset, .unset, .unset] [(.long q0)])) rfl (hb hby at_1) _ ?_
    show Steps p.tables e below (s₁.setTop (mkF m 4 #[.val (.long q0), .second, .val (.long q1), .second, .val (.int p2), .unset, .unset, .unset, .unset, .unset, .unset, .unset, .unset, .unset, .unset, .unset, .unset] [(.long (9223372036854775807 : Int64)), (.long q0)])) _
    refine XS.land X0.here hx rfl (hb hby at_4) rfl ?_
    show Steps p.tables e below (s₁.setTop (mkF m 5 #[.val (.long q0), .second, .val (.long q1), .second, .val (.int p2), .unset, .unset, .unset, .unset, .unset, .unset, .unset, .unset, .unset, .unset, .unset, .unset] [(.long (q0 &&& (9223372036854775807 : Int64)))])) _
    refine XS.lstore X0.here hx rfl (hb hby at_5) rfl (l' := #[.val (.long q0), .second, .val (.long q1), .second, .val (.int p2), .val (.long (q0 &&& (9223372036854775807 : Int64))), .second, .unset, .unset, .unset, .unset, .unset, .unset, .unset, .unset, .unset, .unset]) rfl ?_
    show Steps p.tables e below (s₁.setTop (mkF m 7 #[.val (.long q0), .second, .val (.long q1), .second, .val (.int p2), .val (.long (q0 &&& (9223372036854775807 : Int64))), .second, .unset, .unset, .unset, .unset, .unset, .unset, .unset, .unset, .unset, .unset] [])) _
    refine XS.lloadN X0.here hx rfl (hb hby at_7) rfl ?_
    show Steps p.tables e below (s₁.setTop (mkF m 8 #[.val (.long q0), .second, .val (.long q1), .second, .val (.int p2), .val (.long (q0 &&& (9223372036854775807 : Int64))), .second, .unset, .unset, .unset, .unset, .unset, .unset, .unset, .unset, .unset, .unset] [(.long q1)])) _
    refine X0.ldc2Long hx hown (mvT hZ (hw _ (List.mem_of_getElem? (i := 0) rfl))) (g := (mkF m 8 #[.val (.long q0), .second, .val (.long q1), .second, .val (.int p2), .val (.long (q0 &&& (9223372036854775807 : Int64))), .second, .unset, .unset, .unset, .unset, .unset, .unset, .unset, .unset, .unset, .unset] [(.long q1)])) rfl (hb hby at_8) _ ?_
    show Steps p.tables e below (s₁.setTop (mkF m 11 #[.val (.long q0), .second, .val (.long q1), .second, .val (.int p2), .val (.long (q0 &&& (9223372036854775807 : Int64))), .second, .unset, .unset, .unset, .unset, .unset, .unset, .unset, .unset, .unset, .unset] [(.long (9223372036854775807 : Int64)), (.long q1)])) _
    refine XS.land X0.here hx rfl (hb hby at_11) rfl ?_
    show Steps p.tables e below (s₁.setTop (mkF m 12 #[.val (.long q0), .second, .val (.long q1), .second, .val (.int p2), .val (.long (q0 &&& (9223372036854775807 : Int64))), .second, .unset, .unset, .unset, .unset, .unset, .unset, .unset, .unset, .unset, .unset] [(.long (q1 &&& (9223372036854775807 : Int64)))])) _
    refine XS.lstore X0.here hx rfl (hb hby at_12) rfl (l' := #[.val (.long q0), .second, .val (.long q1), .second, .val (.int p2), .val (.long (q0 &&& (9223372036854775807 : Int64))), .second, .val (.long (q1 &&& (9223372036854775807 : Int64))), .second, .unset, .unset, .unset, .unset, .unset, .unset, .unset, .unset]) rfl ?_
    show Steps p.tables e below (s₁.setTop (mkF m 14 #[.val (.long q0), .second, .val (.long q1), .second, .val (.int p2), .val (.long (q0 &&& (9223372036854775807 : Int64))), .second, .val (.long (q1 &&& (9223372036854775807 : Int64))), .second, .unset, .unset, .unset, .unset, .unset, .unset, .unset, .unset] [])) _
    refine XS.iload X0.here hx rfl (hb hby at_14) rfl ?_
    show Steps p.tables e below (s₁.setTop (mkF m 16 #[.val (.long q0), .second, .val (.long q1), .second, .val (.int p2), .val (.long (q0 &&& (9223372036854775807 : Int64))), .second, .val (.long (q1 &&& (9223372036854775807 : Int64))), .second, .unset, .unset, .unset, .unset, .unset, .unset, .unset, .unset] [(.int p2)])) _
    refine XS.iconst X0.here hx rfl (hb hby at_16) ?_
    show Steps p.tables e below (s₁.setTop (mkF m 17 #[.val (.long q0), .second, .val (.long q1), .second, .val (.int p2), .val (.long (q0 &&& (9223372036854775807 : Int64))), .second, .val (.long (q1 &&& (9223372036854775807 : Int64))), .second, .unset, .unset, .unset, .unset, .unset, .unset, .unset, .unset] [(.int (3 : Int32)), (.int p2)])) _
    refine XS.iand X0.here hx rfl (hb hby at_17) rfl ?_
    show Steps p.tables e below (s₁.setTop (mkF m 18 #[.val (.long q0), .second, .val (.long q1), .second, .val (.int p2), .val (.long (q0 &&& (9223372036854775807 : Int64))), .second, .val (.long (q1 &&& (9223372036854775807 : Int64))), .second, .unset, .unset, .unset, .unset, .unset, .unset, .unset, .unset] [(.int (p2 &&& (3 : Int32)))])) _
    refine XS.istore X0.here hx rfl (hb hby at_18) rfl (l' := #[.val (.long q0), .second, .val (.long q1), .second, .val (.int p2), .val (.long (q0 &&& (9223372036854775807 : Int64))), .second, .val (.long (q1 &&& (9223372036854775807 : Int64))), .second, .val (.int (p2 &&& (3 : Int32))), .unset, .unset, .unset, .unset, .unset, .unset, .unset]) rfl ?_
    show Steps p.tables e below (s₁.setTop (mkF m 20 #[.val (.long q0), .second, .val (.long q1), .second, .val (.int p2), .val (.long (q0 &&& (9223372036854775807 : Int64))), .second, .val (.long (q1 &&& (9223372036854775807 : Int64))), .second, .val (.int (p2 &&& (3 : Int32))), .unset, .unset, .unset, .unset, .unset, .unset, .unset] [])) _
    refine XS.lload X0.here hx rfl (hb hby at_20) rfl ?_
    show Steps p.tables e below (s₁.setTop (mkF m 22 #[.val (.long q0), .second, .val (.long q1), .second, .val (.int p2), .val (.long (q0 &&& (9223372036854775807 : Int64))), .second, .val (.long (q1 &&& (9223372036854775807 : Int64))), .second, .val (.int (p2 &&& (3 : Int32))), .unset, .unset, .unset, .unset, .unset, .unset, .unset] [(.long (q0 &&& (9223372036854775807 : Int64)))])) _
    refine XS.lload X0.here hx rfl (hb hby at_22) rfl ?_
    show Steps p.tables e below (s₁.setTop (mkF m 24 #[.val (.long q0), .second, .val (.long q1), .second, .val (.int p2), .val (.long (q0 &&& (9223372036854775807 : Int64))), .second, .val (.long (q1 &&& (9223372036854775807 : Int64))), .second, .val (.int (p2 &&& (3 : Int32))), .unset, .unset, .unset, .unset, .unset, .unset, .unset] [(.long (q1 &&& (9223372036854775807 : Int64))), (.long (q0 &&& (9223372036854775807 : Int64)))])) _
    refine st1 _ ?_
    show Steps p.tables e below (T1.setTop (mkF m 27 #[.val (.long q0), .second, .val (.long q1), .second, .val (.int p2), .val (.long (q0 &&& (9223372036854775807 : Int64))), .second, .val (.long (q1 &&& (9223372036854775807 : Int64))), .second, .val (.int (p2 &&& (3 : Int32))), .unset, .unset, .unset, .unset, .unset, .unset, .unset] [(.long (F1 (q0 &&& (9223372036854775807 : Int64)) (q1 &&& (9223372036854775807 : Int64))))])) _
    refine XS.lstore X1.here hx rfl (hb hby at_27) rfl (l' := #[.val (.long q0), .second, .val (.long q1), .second, .val (.int p2), .val (.long (q0 &&& (9223372036854775807 : Int64))), .second, .val (.long (q1 &&& (9223372036854775807 : Int64))), .second, .val (.int (p2 &&& (3 : Int32))), .val (.long (F1 (q0 &&& (9223372036854775807 : Int64)) (q1 &&& (9223372036854775807 : Int64)))), .second, .unset, .unset, .unset, .unset, .unset]) rfl ?_
    show Steps p.tables e below (T1.setTop (mkF m 29 #[.val (.long q0), .second, .val (.long q1), .second, .val (.int p2), .val (.long (q0 &&& (9223372036854775807 : Int64))), .second, .val (.long (q1 &&& (9223372036854775807 : Int64))), .second, .val (.int (p2 &&& (3 : Int32))), .val (.long (F1 (q0 &&& (9223372036854775807 : Int64)) (q1 &&& (9223372036854775807 : Int64)))), .second, .unset, .unset, .unset, .unset, .unset] [])) _
    refine XS.lload X1.here hx rfl (hb hby at_29) rfl ?_
    show Steps p.tables e below (T1.setTop (mkF m 31 #[.val (.long q0), .second, .val (.long q1), .second, .val (.int p2), .val (.long (q0 &&& (9223372036854775807 : Int64))), .second, .val (.long (q1 &&& (9223372036854775807 : Int64))), .second, .val (.int (p2 &&& (3 : Int32))), .val (.long (F1 (q0 &&& (9223372036854775807 : Int64)) (q1 &&& (9223372036854775807 : Int64)))), .second, .unset, .unset, .unset, .unset, .unset] [(.long (q0 &&& (9223372036854775807 : Int64)))])) _
    refine XS.lload X1.here hx rfl (hb hby at_31) rfl ?_
    show Steps p.tables e below (T1.setTop (mkF m 33 #[.val (.long q0), .second, .val (.long q1), .second, .val (.int p2), .val (.long (q0 &&& (9223372036854775807 : Int64))), .second, .val (.long (q1 &&& (9223372036854775807 : Int64))), .second, .val (.int (p2 &&& (3 : Int32))), .val (.long (F1 (q0 &&& (9223372036854775807 : Int64)) (q1 &&& (9223372036854775807 : Int64)))), .second, .unset, .unset, .unset, .unset, .unset] [(.long (q1 &&& (9223372036854775807 : Int64))), (.long (q0 &&& (9223372036854775807 : Int64)))])) _
    refine st2 _ ?_
    show Steps p.tables e below (T2.setTop (mkF m 36 #[.val (.long q0), .second, .val (.long q1), .second, .val (.int p2), .val (.long (q0 &&& (9223372036854775807 : Int64))), .second, .val (.long (q1 &&& (9223372036854775807 : Int64))), .second, .val (.int (p2 &&& (3 : Int32))), .val (.long (F1 (q0 &&& (9223372036854775807 : Int64)) (q1 &&& (9223372036854775807 : Int64)))), .second, .unset, .unset, .unset, .unset, .unset] [(.long (F2 (q0 &&& (9223372036854775807 : Int64)) (q1 &&& (9223372036854775807 : Int64))))])) _
    refine XS.lstore X2.here hx rfl (hb hby at_36) rfl (l' := #[.val (.long q0), .second, .val (.long q1), .second, .val (.int p2), .val (.long (q0 &&& (9223372036854775807 : Int64))), .second, .val (.long (q1 &&& (9223372036854775807 : Int64))), .second, .val (.int (p2 &&& (3 : Int32))), .val (.long (F1 (q0 &&& (9223372036854775807 : Int64)) (q1 &&& (9223372036854775807 : Int64)))), .second, .val (.long (F2 (q0 &&& (9223372036854775807 : Int64)) (q1 &&& (9223372036854775807 : Int64)))), .second, .unset, .unset, .unset]) rfl ?_
    show Steps p.tables e below (T2.setTop (mkF m 38 #[.val (.long q0), .second, .val (.long q1), .second, .val (.int p2), .val (.long (q0 &&& (9223372036854775807 : Int64))), .second, .val (.long (q1 &&& (9223372036854775807 : Int64))), .second, .val (.int (p2 &&& (3 : Int32))), .val (.long (F1 (q0 &&& (9223372036854775807 : Int64)) (q1 &&& (9223372036854775807 : Int64)))), .second, .val (.long (F2 (q0 &&& (9223372036854775807 : Int64)) (q1 &&& (9223372036854775807 : Int64)))), .second, .unset, .unset, .unset] [])) _
    refine XS.iload X2.here hx rfl (hb hby at_38) rfl ?_
    show Steps p.tables e below (T2.setTop (mkF m 40 #[.val (.long q0), .second, .val (.long q1), .second, .val (.int p2), .val (.long (q0 &&& (9223372036854775807 : Int64))), .second, .val (.long (q1 &&& (9223372036854775807 : Int64))), .second, .val (.int (p2 &&& (3 : Int32))), .val (.long (F1 (q0 &&& (9223372036854775807 : Int64)) (q1 &&& (9223372036854775807 : Int64)))), .second, .val (.long (F2 (q0 &&& (9223372036854775807 : Int64)) (q1 &&& (9223372036854775807 : Int64)))), .second, .unset, .unset, .unset] [(.int (p2 &&& (3 : Int32)))])) _
    refine XS.iconst X2.here hx rfl (hb hby at_40) ?_
    exact k)
  obtain ⟨T4, L4, X4, e4, N4, pre4⟩ : ∃ (T' : State) (locs' : List Loc), Stand p l e room_1 s m #[(.long q0), (.long q1), (.int p2)] below meth c T' locs' 0 0 ∧ T'.heap = h0 ∧ Fr n0 locs' ∧ ∀ t, Steps p.tables e below (T'.setTop (mkF m 73 #[.val (.long q0), .second, .val (.long q1), .second, .val (.int p2), .val (.long (q0 &&& (9223372036854775807 : Int64))), .second, .val (.long (q1 &&& (9223372036854775807 : Int64))), .second, .val (.int (p2 &&& (3 : Int32))), .val (.long (f0_m11 q0 q1 p2)), .second, .val (.long (f0_m12 q0 q1 p2)), .second, .unset, .unset, .unset] [])) t → Steps p.tables e below (s₁.setTop (entryFrame m #[(.long q0), (.long q1), (.int p2)] maxLocals)) t := by
    by_cases hc41_4 : (p2 &&& (3 : Int32)) = (1 : Int32)
    · have pre5 : ∀ t, Steps p.tables e below (T2.setTop (mkF m 73 #[.val (.long q0), .second, .val (.long q1), .second, .val (.int p2), .val (.long (q0 &&& (9223372036854775807 : Int64))), .second, .val (.long (q1 &&& (9223372036854775807 : Int64))), .second, .val (.int (p2 &&& (3 : Int32))), .val (.long (F1 (q0 &&& (9223372036854775807 : Int64)) (q1 &&& (9223372036854775807 : Int64)))), .second, .val (.long (9223372036854775807 : Int64)), .second, .unset, .unset, .unset] [])) t → Steps p.tables e below (s₁.setTop (entryFrame m #[(.long q0), (.long q1), (.int p2)] maxLocals)) t := fun t k => pre3 t (by
        show Steps p.tables e below (T2.setTop (mkF m 41 #[.val (.long q0), .second, .val (.long q1), .second, .val (.int p2), .val (.long (q0 &&& (9223372036854775807 : Int64))), .second, .val (.long (q1 &&& (9223372036854775807 : Int64))), .second, .val (.int (p2 &&& (3 : Int32))), .val (.long (F1 (q0 &&& (9223372036854775807 : Int64)) (q1 &&& (9223372036854775807 : Int64)))), .second, .val (.long (F2 (q0 &&& (9223372036854775807 : Int64)) (q1 &&& (9223372036854775807 : Int64)))), .second, .unset, .unset, .unset] [(.int (1 : Int32)), (.int (p2 &&& (3 : Int32)))])) _
        refine XS.icmpNo X2.here hx rfl (hb hby at_41) rfl (teq hc41_4).2 ?_
        show Steps p.tables e below (T2.setTop (mkF m 44 #[.val (.long q0), .second, .val (.long q1), .second, .val (.int p2), .val (.long (q0 &&& (9223372036854775807 : Int64))), .second, .val (.long (q1 &&& (9223372036854775807 : Int64))), .second, .val (.int (p2 &&& (3 : Int32))), .val (.long (F1 (q0 &&& (9223372036854775807 : Int64)) (q1 &&& (9223372036854775807 : Int64)))), .second, .val (.long (F2 (q0 &&& (9223372036854775807 : Int64)) (q1 &&& (9223372036854775807 : Int64)))), .second, .unset, .unset, .unset] [])) _
        refine X2.ldc2Long hx hown (mvT hZ (hw _ (List.mem_of_getElem? (i := 0) rfl))) (g := (mkF m 44 #[.val (.long q0), .second, .val (.long q1), .second, .val (.int p2), .val (.long (q0 &&& (9223372036854775807 : Int64))), .second, .val (.long (q1 &&& (9223372036854775807 : Int64))), .second, .val (.int (p2 &&& (3 : Int32))), .val (.long (F1 (q0 &&& (9223372036854775807 : Int64)) (q1 &&& (9223372036854775807 : Int64)))), .second, .val (.long (F2 (q0 &&& (9223372036854775807 : Int64)) (q1 &&& (9223372036854775807 : Int64)))), .second, .unset, .unset, .unset] [])) rfl (hb hby at_44) _ ?_
        show Steps p.tables e below (T2.setTop (mkF m 47 #[.val (.long q0), .second, .val (.long q1), .second, .val (.int p2), .val (.long (q0 &&& (9223372036854775807 : Int64))), .second, .val (.long (q1 &&& (9223372036854775807 : Int64))), .second, .val (.int (p2 &&& (3 : Int32))), .val (.long (F1 (q0 &&& (9223372036854775807 : Int64)) (q1 &&& (9223372036854775807 : Int64)))), .second, .val (.long (F2 (q0 &&& (9223372036854775807 : Int64)) (q1 &&& (9223372036854775807 : Int64)))), .second, .unset, .unset, .unset] [(.long (9223372036854775807 : Int64))])) _
        refine XS.lstore X2.here hx rfl (hb hby at_47) rfl (l' := #[.val (.long q0), .second, .val (.long q1), .second, .val (.int p2), .val (.long (q0 &&& (9223372036854775807 : Int64))), .second, .val (.long (q1 &&& (9223372036854775807 : Int64))), .second, .val (.int (p2 &&& (3 : Int32))), .val (.long (F1 (q0 &&& (9223372036854775807 : Int64)) (q1 &&& (9223372036854775807 : Int64)))), .second, .val (.long (9223372036854775807 : Int64)), .second, .unset, .unset, .unset]) rfl ?_
        show Steps p.tables e below (T2.setTop (mkF m 49 #[.val (.long q0), .second, .val (.long q1), .second, .val (.int p2), .val (.long (q0 &&& (9223372036854775807 : Int64))), .second, .val (.long (q1 &&& (9223372036854775807 : Int64))), .second, .val (.int (p2 &&& (3 : Int32))), .val (.long (F1 (q0 &&& (9223372036854775807 : Int64)) (q1 &&& (9223372036854775807 : Int64)))), .second, .val (.long (9223372036854775807 : Int64)), .second, .unset, .unset, .unset] [])) _
        refine XS.goto X2.here hx rfl (pc0 := 49) (pc' := 73) rfl (hb hby at_49) (by decide) (by decide) ?_
        exact k)
      have q_f0_m11 : f0_m11 q0 q1 p2 = (F1 (q0 &&& (9223372036854775807 : Int64)) (q1 &&& (9223372036854775807 : Int64))) := by unfold f0_m11; rw [if_pos hc41_4]
      rw [q_f0_m11]
      have q_f0_m12 : f0_m12 q0 q1 p2 = (9223372036854775807 : Int64) := by unfold f0_m12; rw [if_pos hc41_4]
      rw [q_f0_m12]
      exact ⟨T2, _, X2, e2, N2, pre5⟩
    have pre6 : ∀ t, Steps p.tables e below (T2.setTop (mkF m 55 #[.val (.long q0), .second, .val (.long q1), .second, .val (.int p2), .val (.long (q0 &&& (9223372036854775807 : Int64))), .second, .val (.long (q1 &&& (9223372036854775807 : Int64))), .second, .val (.int (p2 &&& (3 : Int32))), .val (.long (F1 (q0 &&& (9223372036854775807 : Int64)) (q1 &&& (9223372036854775807 : Int64)))), .second, .val (.long (F2 (q0 &&& (9223372036854775807 : Int64)) (q1 &&& (9223372036854775807 : Int64)))), .second, .unset, .unset, .unset] [(.int (2 : Int32)), (.int (p2 &&& (3 : Int32)))])) t → Steps p.tables e below (s₁.setTop (entryFrame m #[(.long q0), (.long q1), (.int p2)] maxLocals)) t := fun t k => pre3 t (by
      show Steps p.tables e below (T2.setTop (mkF m 41 #[.val (.long q0), .second, .val (.long q1), .second, .val (.int p2), .val (.long (q0 &&& (9223372036854775807 : Int64))), .second, .val (.long (q1 &&& (9223372036854775807 : Int64))), .second, .val (.int (p2 &&& (3 : Int32))), .val (.long (F1 (q0 &&& (9223372036854775807 : Int64)) (q1 &&& (9223372036854775807 : Int64)))), .second, .val (.long (F2 (q0 &&& (9223372036854775807 : Int64)) (q1 &&& (9223372036854775807 : Int64)))), .second, .unset, .unset, .unset] [(.int (1 : Int32)), (.int (p2 &&& (3 : Int32)))])) _
      refine XS.icmpYes X2.here hx rfl (pc0 := 41) (pc' := 52) rfl (hb hby at_41) rfl (feq hc41_4).2 (by decide) (by decide) ?_
      show Steps p.tables e below (T2.setTop (mkF m 52 #[.val (.long q0), .second, .val (.long q1), .second, .val (.int p2), .val (.long (q0 &&& (9223372036854775807 : Int64))), .second, .val (.long (q1 &&& (9223372036854775807 : Int64))), .second, .val (.int (p2 &&& (3 : Int32))), .val (.long (F1 (q0 &&& (9223372036854775807 : Int64)) (q1 &&& (9223372036854775807 : Int64)))), .second, .val (.long (F2 (q0 &&& (9223372036854775807 : Int64)) (q1 &&& (9223372036854775807 : Int64)))), .second, .unset, .unset, .unset] [])) _
      refine XS.iload X2.here hx rfl (hb hby at_52) rfl ?_
      show Steps p.tables e below (T2.setTop (mkF m 54 #[.val (.long q0), .second, .val (.long q1), .second, .val (.int p2), .val (.long (q0 &&& (9223372036854775807 : Int64))), .second, .val (.long (q1 &&& (9223372036854775807 : Int64))), .second, .val (.int (p2 &&& (3 : Int32))), .val (.long (F1 (q0 &&& (9223372036854775807 : Int64)) (q1 &&& (9223372036854775807 : Int64)))), .second, .val (.long (F2 (q0 &&& (9223372036854775807 : Int64)) (q1 &&& (9223372036854775807 : Int64)))), .second, .unset, .unset, .unset] [(.int (p2 &&& (3 : Int32)))])) _
      refine XS.iconst X2.here hx rfl (hb hby at_54) ?_
      exact k)
    by_cases hc55_7 : (p2 &&& (3 : Int32)) = (2 : Int32)
    · obtain ⟨_, _, ⟨T8, L8, k8, n8⟩, -, X8, ⟨Lc8, hQ8, l8, y8, z8⟩, st8⟩ := Jvm.LawKit.callS X2 hx (y := (⟨"java/lang/Math", "min", "(JJ)J"⟩ : MethodName)) hown (mvT hZ (hw _ (List.mem_of_getElem? (i := 1) rfl))) (mvT hZ (hw _ (List.mem_of_getElem? (i := 2) rfl))) (mvT hZ (hw _ (List.mem_of_getElem? (i := 3) rfl))) (mvT hZ (hw _ (List.mem_of_getElem? (i := 4) rfl))) (by decide) (backOf (W := 0) (rm1 l Z a0' hw [] (F1 (q0 &&& (9223372036854775807 : Int64)) (q1 &&& (9223372036854775807 : Int64))) (9223372036854775806 : Int64) h0 n0 Z0) hZ (hw _ (List.mem_of_getElem? (i := 4) rfl)) (hw _ (List.mem_of_getElem? (i := 3) rfl)) (by decide) (by decide)) (g := (mkF m 63 #[.val (.long q0), .second, .val (.long q1), .second, .val (.int p2), .val (.long (q0 &&& (9223372036854775807 : Int64))), .second, .val (.long (q1 &&& (9223372036854775807 : Int64))), .second, .val (.int (p2 &&& (3 : Int32))), .val (.long (F1 (q0 &&& (9223372036854775807 : Int64)) (q1 &&& (9223372036854775807 : Int64)))), .second, .val (.long (F2 (q0 &&& (9223372036854775807 : Int64)) (q1 &&& (9223372036854775807 : Int64)))), .second, .unset, .unset, .unset] [(.long (9223372036854775806 : Int64)), (.long (F1 (q0 &&& (9223372036854775807 : Int64)) (q1 &&& (9223372036854775807 : Int64))))])) rfl (by rw [hml]; rfl) (argsL := [(.long (F1 (q0 &&& (9223372036854775807 : Int64)) (q1 &&& (9223372036854775807 : Int64)))), (.long (9223372036854775806 : Int64))]) (rest := []) (lenOf pd2 rfl) rfl (by show 2 * 0 + _ ≤ _; exact Nat.le_of_eq rfl) (hb hby at_63) (fun _ _ => ⟨rfl, e2, (by decide : 0 + 0 ≤ _), (by decide : 0 + 0 ≤ _)⟩)
      dsimp only [Pt.U, Pt.locs, Pt.cells, Pt.slots] at X8 l8 y8 z8 st8 hQ8
      subst l8 y8 z8
      obtain ⟨rfl, N8q, e8⟩ := hQ8
      have N8 := Fr.app N2 N8q
      have pre9 : ∀ t, Steps p.tables e below (T8.setTop (mkF m 73 #[.val (.long q0), .second, .val (.long q1), .second, .val (.int p2), .val (.long (q0 &&& (9223372036854775807 : Int64))), .second, .val (.long (q1 &&& (9223372036854775807 : Int64))), .second, .val (.int (p2 &&& (3 : Int32))), .val (.long (F1 (F1 (q0 &&& (9223372036854775807 : Int64)) (q1 &&& (9223372036854775807 : Int64))) (9223372036854775806 : Int64))), .second, .val (.long (9223372036854775806 : Int64)), .second, .unset, .unset, .unset] [])) t → Steps p.tables e below (s₁.setTop (entryFrame m #[(.long q0), (.long q1), (.int p2)] maxLocals)) t := fun t k => pre6 t (by
        show Steps p.tables e below (T2.setTop (mkF m 55 #[.val (.long q0), .second, .val (.long q1), .second, .val (.int p2), .val (.long (q0 &&& (9223372036854775807 : Int64))), .second, .val (.long (q1 &&& (9223372036854775807 : Int64))), .second, .val (.int (p2 &&& (3 : Int32))), .val (.long (F1 (q0 &&& (9223372036854775807 : Int64)) (q1 &&& (9223372036854775807 : Int64)))), .second, .val (.long (F2 (q0 &&& (9223372036854775807 : Int64)) (q1 &&& (9223372036854775807 : Int64)))), .second, .unset, .unset, .unset] [(.int (2 : Int32)), (.int (p2 &&& (3 : Int32)))])) _
        refine XS.icmpNo X2.here hx rfl (hb hby at_55) rfl (teq hc55_7).2 ?_
        show Steps p.tables e below (T2.setTop (mkF m 58 #[.val (.long q0), .second, .val (.long q1), .second, .val (.int p2), .val (.long (q0 &&& (9223372036854775807 : Int64))), .second, .val (.long (q1 &&& (9223372036854775807 : Int64))), .second, .val (.int (p2 &&& (3 : Int32))), .val (.long (F1 (q0 &&& (9223372036854775807 : Int64)) (q1 &&& (9223372036854775807 : Int64)))), .second, .val (.long (F2 (q0 &&& (9223372036854775807 : Int64)) (q1 &&& (9223372036854775807 : Int64)))), .second, .unset, .unset, .unset] [])) _
        refine XS.lload X2.here hx rfl (hb hby at_58) rfl ?_
        show Steps p.tables e below (T2.setTop (mkF m 60 #[.val (.long q0), .second, .val (.long q1), .second, .val (.int p2), .val (.long (q0 &&& (9223372036854775807 : Int64))), .second, .val (.long (q1 &&& (9223372036854775807 : Int64))), .second, .val (.int (p2 &&& (3 : Int32))), .val (.long (F1 (q0 &&& (9223372036854775807 : Int64)) (q1 &&& (9223372036854775807 : Int64)))), .second, .val (.long (F2 (q0 &&& (9223372036854775807 : Int64)) (q1 &&& (9223372036854775807 : Int64)))), .second, .unset, .unset, .unset] [(.long (F1 (q0 &&& (9223372036854775807 : Int64)) (q1 &&& (9223372036854775807 : Int64))))])) _
        refine X2.ldc2Long hx hown (mvT hZ (hw _ (List.mem_of_getElem? (i := 37) rfl))) (g := (mkF m 60 #[.val (.long q0), .second, .val (.long q1), .second, .val (.int p2), .val (.long (q0 &&& (9223372036854775807 : Int64))), .second, .val (.long (q1 &&& (9223372036854775807 : Int64))), .second, .val (.int (p2 &&& (3 : Int32))), .val (.long (F1 (q0 &&& (9223372036854775807 : Int64)) (q1 &&& (9223372036854775807 : Int64)))), .second, .val (.long (F2 (q0 &&& (9223372036854775807 : Int64)) (q1 &&& (9223372036854775807 : Int64)))), .second, .unset, .unset, .unset] [(.long (F1 (q0 &&& (9223372036854775807 : Int64)) (q1 &&& (9223372036854775807 : Int64))))])) rfl (hb hby at_60) _ ?_
        show Steps p.tables e below (T2.setTop (mkF m 63 #[.val (.long q0), .second, .val (.long q1), .second, .val (.int p2), .val (.long (q0 &&& (9223372036854775807 : Int64))), .second, .val (.long (q1 &&& (9223372036854775807 : Int64))), .second, .val (.int (p2 &&& (3 : Int32))), .val (.long (F1 (q0 &&& (9223372036854775807 : Int64)) (q1 &&& (9223372036854775807 : Int64)))), .second, .val (.long (F2 (q0 &&& (9223372036854775807 : Int64)) (q1 &&& (9223372036854775807 : Int64)))), .second, .unset, .unset, .unset] [(.long (9223372036854775806 : Int64)), (.long (F1 (q0 &&& (9223372036854775807 : Int64)) (q1 &&& (9223372036854775807 : Int64))))])) _
        refine st8 _ ?_
        show Steps p.tables e below (T8.setTop (mkF m 66 #[.val (.long q0), .second, .val (.long q1), .second, .val (.int p2), .val (.long (q0 &&& (9223372036854775807 : Int64))), .second, .val (.long (q1 &&& (9223372036854775807 : Int64))), .second, .val (.int (p2 &&& (3 : Int32))), .val (.long (F1 (q0 &&& (9223372036854775807 : Int64)) (q1 &&& (9223372036854775807 : Int64)))), .second, .val (.long (F2 (q0 &&& (9223372036854775807 : Int64)) (q1 &&& (9223372036854775807 : Int64)))), .second, .unset, .unset, .unset] [(.long (F1 (F1 (q0 &&& (9223372036854775807 : Int64)) (q1 &&& (9223372036854775807 : Int64))) (9223372036854775806 : Int64)))])) _
        refine XS.lstore X8.here hx rfl (hb hby at_66) rfl (l' := #[.val (.long q0), .second, .val (.long q1), .second, .val (.int p2), .val (.long (q0 &&& (9223372036854775807 : Int64))), .second, .val (.long (q1 &&& (9223372036854775807 : Int64))), .second, .val (.int (p2 &&& (3 : Int32))), .val (.long (F1 (F1 (q0 &&& (9223372036854775807 : Int64)) (q1 &&& (9223372036854775807 : Int64))) (9223372036854775806 : Int64))), .second, .val (.long (F2 (q0 &&& (9223372036854775807 : Int64)) (q1 &&& (9223372036854775807 : Int64)))), .second, .unset, .unset, .unset]) rfl ?_
        show Steps p.tables e below (T8.setTop (mkF m 68 #[.val (.long q0), .second, .val (.long q1), .second, .val (.int p2), .val (.long (q0 &&& (9223372036854775807 : Int64))), .second, .val (.long (q1 &&& (9223372036854775807 : Int64))), .second, .val (.int (p2 &&& (3 : Int32))), .val (.long (F1 (F1 (q0 &&& (9223372036854775807 : Int64)) (q1 &&& (9223372036854775807 : Int64))) (9223372036854775806 : Int64))), .second, .val (.long (F2 (q0 &&& (9223372036854775807 : Int64)) (q1 &&& (9223372036854775807 : Int64)))), .second, .unset, .unset, .unset] [])) _
        refine X8.ldc2Long hx hown (mvT hZ (hw _ (List.mem_of_getElem? (i := 37) rfl))) (g := (mkF m 68 #[.val (.long q0), .second, .val (.long q1), .second, .val (.int p2), .val (.long (q0 &&& (9223372036854775807 : Int64))), .second, .val (.long (q1 &&& (9223372036854775807 : Int64))), .second, .val (.int (p2 &&& (3 : Int32))), .val (.long (F1 (F1 (q0 &&& (9223372036854775807 : Int64)) (q1 &&& (9223372036854775807 : Int64))) (9223372036854775806 : Int64))), .second, .val (.long (F2 (q0 &&& (9223372036854775807 : Int64)) (q1 &&& (9223372036854775807 : Int64)))), .second, .unset, .unset, .unset] [])) rfl (hb hby at_68) _ ?_
        show Steps p.tables e below (T8.setTop (mkF m 71 #[.val (.long q0), .second, .val (.long q1), .second, .val (.int p2), .val (.long (q0 &&& (9223372036854775807 : Int64))), .second, .val (.long (q1 &&& (9223372036854775807 : Int64))), .second, .val (.int (p2 &&& (3 : Int32))), .val (.long (F1 (F1 (q0 &&& (9223372036854775807 : Int64)) (q1 &&& (9223372036854775807 : Int64))) (9223372036854775806 : Int64))), .second, .val (.long (F2 (q0 &&& (9223372036854775807 : Int64)) (q1 &&& (9223372036854775807 : Int64)))), .second, .unset, .unset, .unset] [(.long (9223372036854775806 : Int64))])) _
        refine XS.lstore X8.here hx rfl (hb hby at_71) rfl (l' := #[.val (.long q0), .second, .val (.long q1), .second, .val (.int p2), .val (.long (q0 &&& (9223372036854775807 : Int64))), .second, .val (.long (q1 &&& (9223372036854775807 : Int64))), .second, .val (.int (p2 &&& (3 : Int32))), .val (.long (F1 (F1 (q0 &&& (9223372036854775807 : Int64)) (q1 &&& (9223372036854775807 : Int64))) (9223372036854775806 : Int64))), .second, .val (.long (9223372036854775806 : Int64)), .second, .unset, .unset, .unset]) rfl ?_
        exact k)
      have q_f0_m11 : f0_m11 q0 q1 p2 = (F1 (F1 (q0 &&& (9223372036854775807 : Int64)) (q1 &&& (9223372036854775807 : Int64))) (9223372036854775806 : Int64)) := by unfold f0_m11; rw [if_neg hc41_4, if_pos hc55_7]
      rw [q_f0_m11]
      have q_f0_m12 : f0_m12 q0 q1 p2 = (9223372036854775806 : Int64) := by unfold f0_m12; rw [if_neg hc41_4, if_pos hc55_7]
      rw [q_f0_m12]
      exact ⟨T8, _, X8, e8, N8, pre9⟩
    have pre10 : ∀ t, Steps p.tables e below (T2.setTop (mkF m 73 #[.val (.long q0), .second, .val (.long q1), .second, .val (.int p2), .val (.long (q0 &&& (9223372036854775807 : Int64))), .second, .val (.long (q1 &&& (9223372036854775807 : Int64))), .second, .val (.int (p2 &&& (3 : Int32))), .val (.long (F1 (q0 &&& (9223372036854775807 : Int64)) (q1 &&& (9223372036854775807 : Int64)))), .second, .val (.long (F2 (q0 &&& (9223372036854775807 : Int64)) (q1 &&& (9223372036854775807 : Int64)))), .second, .unset, .unset, .unset] [])) t → Steps p.tables e below (s₁.setTop (entryFrame m #[(.long q0), (.long q1), (.int p2)] maxLocals)) t := fun t k => pre6 t (by
      show Steps p.tables e below (T2.setTop (mkF m 55 #[.val (.long q0), .second, .val (.long q1), .second, .val (.int p2), .val (.long (q0 &&& (9223372036854775807 : Int64))), .second, .val (.long (q1 &&& (9223372036854775807 : Int64))), .second, .val (.int (p2 &&& (3 : Int32))), .val (.long (F1 (q0 &&& (9223372036854775807 : Int64)) (q1 &&& (9223372036854775807 : Int64)))), .second, .val (.long (F2 (q0 &&& (9223372036854775807 : Int64)) (q1 &&& (9223372036854775807 : Int64)))), .second, .unset, .unset, .unset] [(.int (2 : Int32)), (.int (p2 &&& (3 : Int32)))])) _
      refine XS.icmpYes X2.here hx rfl (pc0 := 55) (pc' := 73) rfl (hb hby at_55) rfl (feq hc55_7).2 (by decide) (by decide) ?_
      exact k)
    have q_f0_m11 : f0_m11 q0 q1 p2 = (F1 (q0 &&& (9223372036854775807 : Int64)) (q1 &&& (9223372036854775807 : Int64))) := by unfold f0_m11; rw [if_neg hc41_4, if_neg hc55_7]
    rw [q_f0_m11]
    have q_f0_m12 : f0_m12 q0 q1 p2 = (F2 (q0 &&& (9223372036854775807 : Int64)) (q1 &&& (9223372036854775807 : Int64))) := by unfold f0_m12; rw [if_neg hc41_4, if_neg hc55_7]
    rw [q_f0_m12]
    exact ⟨T2, _, X2, e2, N2, pre10⟩
  obtain ⟨T13, h13, X13, e13, E13, A13, D13, -, st13⟩ := newO X4 hx hZ hown (hw _ (List.mem_of_getElem? (i := 8) rfl)) (hw _ (List.mem_of_getElem? (i := 9) rfl)) (hw _ (List.mem_of_getElem? (i := 10) rfl)) e4 (g := (mkF m 73 #[.val (.long q0), .second, .val (.long q1), .second, .val (.int p2), .val (.long (q0 &&& (9223372036854775807 : Int64))), .second, .val (.long (q1 &&& (9223372036854775807 : Int64))), .second, .val (.int (p2 &&& (3 : Int32))), .val (.long (f0_m11 q0 q1 p2)), .second, .val (.long (f0_m12 q0 q1 p2)), .second, .unset, .unset, .unset] [])) rfl (hb hby at_73) (by decide) (by decide)
  obtain ⟨b13, g13⟩ : ∃ z, z = h0.size := ⟨_, rfl⟩
  rw [← g13] at A13 D13 st13
  have g_b13 : n0 ≤ b13 := Nat.le_trans Z0 (Nat.le_of_eq g13.symm)
  have Z13 : n0 ≤ h13.size := Nat.le_trans Z0 E13.1
  have F13_start : Fld Z h13 b13 "com/example/rangekeeper/rangekeeper/core/Range" "start" "J" (.long (0 : Int64)) := D13 (Or.inr (hw _ (List.mem_of_getElem? (i := 23) rfl))) (ty := .long) (by decide)
  have F13_stop : Fld Z h13 b13 "com/example/rangekeeper/rangekeeper/core/Range" "stop" "J" (.long (0 : Int64)) := D13 (Or.inr (hw _ (List.mem_of_getElem? (i := 25) rfl))) (ty := .long) (by decide)
  obtain ⟨_, _, ⟨T14, L14, k14, n14⟩, -, X14, ⟨Lc14, hQ14, l14, y14, z14⟩, st14⟩ := X13.specialBack hx (y := (⟨"com/example/rangekeeper/rangekeeper/core/Range", "<init>", "(JJ)V"⟩ : MethodName)) rfl hown (mvT hZ (hw _ (List.mem_of_getElem? (i := 11) rfl))) (mvT hZ (hw _ (List.mem_of_getElem? (i := 12) rfl))) (mvT hZ (hw _ (List.mem_of_getElem? (i := 13) rfl))) (by decide) (backOf (W := 1) (rm3 l Z a0' hw [] b13 (f0_m11 q0 q1 p2) (f0_m12 q0 q1 p2) (0 : Int64) (0 : Int64) h13 n0 Z13 A13 F13_start F13_stop g_b13 (own_p1 q0 q1 p2) (own_p2 q0 q1 p2)) hZ (hw _ (List.mem_of_getElem? (i := 13) rfl)) (hw _ (List.mem_of_getElem? (i := 10) rfl)) (by decide) (by decide)) (g := (mkF m 81 #[.val (.long q0), .second, .val (.long q1), .second, .val (.int p2), .val (.long (q0 &&& (9223372036854775807 : Int64))), .second, .val (.long (q1 &&& (9223372036854775807 : Int64))), .second, .val (.int (p2 &&& (3 : Int32))), .val (.long (f0_m11 q0 q1 p2)), .second, .val (.long (f0_m12 q0 q1 p2)), .second, .unset, .unset, .unset] [(.long (f0_m12 q0 q1 p2)), (.long (f0_m11 q0 q1 p2)), (.ref b13), (.ref b13)])) rfl (by rw [hml]; rfl) (Steps.refl _) (a := b13) (argsL := [(.long (f0_m11 q0 q1 p2)), (.long (f0_m12 q0 q1 p2))]) (rest := [(.ref b13)]) (lenOf pd1 rfl) rfl (by show 2 * 0 + _ ≤ _; exact Nat.le_of_eq rfl) (hb hby at_81) (fun _ _ => ⟨rfl, e13, (by decide : 1 + 0 ≤ _), (by decide : 2 + 0 ≤ _)⟩)
  dsimp only [Pt.U, Pt.locs, Pt.cells, Pt.slots] at X14 l14 y14 z14 st14 hQ14
  subst l14 y14 z14
  obtain ⟨rfl, N14q, K14, u14_0, u14_1, u14_2⟩ := hQ14
  have N14 := Fr.app N4 N14q
  have Z14 : n0 ≤ T14.heap.size := Nat.le_trans Z13 K14.1
  have pre15 : ∀ t, Steps p.tables e below (T14.setTop (mkF m 92 #[.val (.long q0), .second, .val (.long q1), .second, .val (.int p2), .val (.long (q0 &&& (9223372036854775807 : Int64))), .second, .val (.long (q1 &&& (9223372036854775807 : Int64))), .second, .val (.int (p2 &&& (3 : Int32))), .val (.long (f0_m11 q0 q1 p2)), .second, .val (.long (f0_m12 q0 q1 p2)), .second, .val (.ref b13), .unset, .unset] [(.int (lcmpW (f0_m12 q0 q1 p2) (9223372036854775807 : Int64)))])) t → Steps p.tables e below (s₁.setTop (entryFrame m #[(.long q0), (.long q1), (.int p2)] maxLocals)) t := fun t k => pre4 t (by
    show Steps p.tables e below (T4.setTop (mkF m 73 #[.val (.long q0), .second, .val (.long q1), .second, .val (.int p2), .val (.long (q0 &&& (9223372036854775807 : Int64))), .second, .val (.long (q1 &&& (9223372036854775807 : Int64))), .second, .val (.int (p2 &&& (3 : Int32))), .val (.long (f0_m11 q0 q1 p2)), .second, .val (.long (f0_m12 q0 q1 p2)), .second, .unset, .unset, .unset] [])) _
    refine st13 _ ?_
    show Steps p.tables e below (T13.setTop (mkF m 76 #[.val (.long q0), .second, .val (.long q1), .second, .val (.int p2), .val (.long (q0 &&& (9223372036854775807 : Int64))), .second, .val (.long (q1 &&& (9223372036854775807 : Int64))), .second, .val (.int (p2 &&& (3 : Int32))), .val (.long (f0_m11 q0 q1 p2)), .second, .val (.long (f0_m12 q0 q1 p2)), .second, .unset, .unset, .unset] [(.ref b13)])) _
    refine XS.dup X13.here hx rfl (hb hby at_76) rfl rfl ?_
    show Steps p.tables e below (T13.setTop (mkF m 77 #[.val (.long q0), .second, .val (.long q1), .second, .val (.int p2), .val (.long (q0 &&& (9223372036854775807 : Int64))), .second, .val (.long (q1 &&& (9223372036854775807 : Int64))), .second, .val (.int (p2 &&& (3 : Int32))), .val (.long (f0_m11 q0 q1 p2)), .second, .val (.long (f0_m12 q0 q1 p2)), .second, .unset, .unset, .unset] [(.ref b13), (.ref b13)])) _
    refine XS.lload X13.here hx rfl (hb hby at_77) rfl ?_
    show Steps p.tables e below (T13.setTop (mkF m 79 #[.val (.long q0), .second, .val (.long q1), .second, .val (.int p2), .val (.long (q0 &&& (9223372036854775807 : Int64))), .second, .val (.long (q1 &&& (9223372036854775807 : Int64))), .second, .val (.int (p2 &&& (3 : Int32))), .val (.long (f0_m11 q0 q1 p2)), .second, .val (.long (f0_m12 q0 q1 p2)), .second, .unset, .unset, .unset] [(.long (f0_m11 q0 q1 p2)), (.ref b13), (.ref b13)])) _
    refine XS.lload X13.here hx rfl (hb hby at_79) rfl ?_
    show Steps p.tables e below (T13.setTop (mkF m 81 #[.val (.long q0), .second, .val (.long q1), .second, .val (.int p2), .val (.long (q0 &&& (9223372036854775807 : Int64))), .second, .val (.long (q1 &&& (9223372036854775807 : Int64))), .second, .val (.int (p2 &&& (3 : Int32))), .val (.long (f0_m11 q0 q1 p2)), .second, .val (.long (f0_m12 q0 q1 p2)), .second, .unset, .unset, .unset] [(.long (f0_m12 q0 q1 p2)), (.long (f0_m11 q0 q1 p2)), (.ref b13), (.ref b13)])) _
    refine st14.trans ?_
    show Steps p.tables e below (T14.setTop (mkF m 84 #[.val (.long q0), .second, .val (.long q1), .second, .val (.int p2), .val (.long (q0 &&& (9223372036854775807 : Int64))), .second, .val (.long (q1 &&& (9223372036854775807 : Int64))), .second, .val (.int (p2 &&& (3 : Int32))), .val (.long (f0_m11 q0 q1 p2)), .second, .val (.long (f0_m12 q0 q1 p2)), .second, .unset, .unset, .unset] [(.ref b13)])) _
    refine XS.astore X14.here hx rfl (hb hby at_84) rfl rfl (l' := #[.val (.long q0), .second, .val (.long q1), .second, .val (.int p2), .val (.long (q0 &&& (9223372036854775807 : Int64))), .second, .val (.long (q1 &&& (9223372036854775807 : Int64))), .second, .val (.int (p2 &&& (3 : Int32))), .val (.long (f0_m11 q0 q1 p2)), .second, .val (.long (f0_m12 q0 q1 p2)), .second, .val (.ref b13), .unset, .unset]) rfl ?_
    show Steps p.tables e below (T14.setTop (mkF m 86 #[.val (.long q0), .second, .val (.long q1), .second, .val (.int p2), .val (.long (q0 &&& (9223372036854775807 : Int64))), .second, .val (.long (q1 &&& (9223372036854775807 : Int64))), .second, .val (.int (p2 &&& (3 : Int32))), .val (.long (f0_m11 q0 q1 p2)), .second, .val (.long (f0_m12 q0 q1 p2)), .second, .val (.ref b13), .unset, .unset] [])) _
    refine XS.lload X14.here hx rfl (hb hby at_86) rfl ?_
    show Steps p.tables e below (T14.setTop (mkF m 88 #[.val (.long q0), .second, .val (.long q1), .second, .val (.int p2), .val (.long (q0 &&& (9223372036854775807 : Int64))), .second, .val (.long (q1 &&& (9223372036854775807 : Int64))), .second, .val (.int (p2 &&& (3 : Int32))), .val (.long (f0_m11 q0 q1 p2)), .second, .val (.long (f0_m12 q0 q1 p2)), .second, .val (.ref b13), .unset, .unset] [(.long (f0_m12 q0 q1 p2))])) _
    refine X14.ldc2Long hx hown (mvT hZ (hw _ (List.mem_of_getElem? (i := 0) rfl))) (g := (mkF m 88 #[.val (.long q0), .second, .val (.long q1), .second, .val (.int p2), .val (.long (q0 &&& (9223372036854775807 : Int64))), .second, .val (.long (q1 &&& (9223372036854775807 : Int64))), .second, .val (.int (p2 &&& (3 : Int32))), .val (.long (f0_m11 q0 q1 p2)), .second, .val (.long (f0_m12 q0 q1 p2)), .second, .val (.ref b13), .unset, .unset] [(.long (f0_m12 q0 q1 p2))])) rfl (hb hby at_88) _ ?_
    show Steps p.tables e below (T14.setTop (mkF m 91 #[.val (.long q0), .second, .val (.long q1), .second, .val (.int p2), .val (.long (q0 &&& (9223372036854775807 : Int64))), .second, .val (.long (q1 &&& (9223372036854775807 : Int64))), .second, .val (.int (p2 &&& (3 : Int32))), .val (.long (f0_m11 q0 q1 p2)), .second, .val (.long (f0_m12 q0 q1 p2)), .second, .val (.ref b13), .unset, .unset] [(.long (9223372036854775807 : Int64)), (.long (f0_m12 q0 q1 p2))])) _
    refine XS.lcmp X14.here hx rfl (hb hby at_91) rfl ?_
    exact k)
  obtain ⟨T16, L16, X16, e16, N16, pre16⟩ : ∃ (T' : State) (locs' : List Loc), Stand p l e room_1 s m #[(.long q0), (.long q1), (.int p2)] below meth c T' locs' 1 2 ∧ T'.heap = T14.heap ∧ Fr n0 locs' ∧ ∀ t, Steps p.tables e below (T'.setTop (mkF m 100 #[.val (.long q0), .second, .val (.long q1), .second, .val (.int p2), .val (.long (q0 &&& (9223372036854775807 : Int64))), .second, .val (.long (q1 &&& (9223372036854775807 : Int64))), .second, .val (.int (p2 &&& (3 : Int32))), .val (.long (f0_m11 q0 q1 p2)), .second, .val (.long (f0_m12 q0 q1 p2)), .second, .val (.ref b13), .unset, .unset] [(.int (f0_m19 q0 q1 p2))])) t → Steps p.tables e below (s₁.setTop (entryFrame m #[(.long q0), (.long q1), (.int p2)] maxLocals)) t := by
    by_cases hc92_16 : (f0_m12 q0 q1 p2) = (9223372036854775807 : Int64)
    · have pre17 : ∀ t, Steps p.tables e below (T14.setTop (mkF m 100 #[.val (.long q0), .second, .val (.long q1), .second, .val (.int p2), .val (.long (q0 &&& (9223372036854775807 : Int64))), .second, .val (.long (q1 &&& (9223372036854775807 : Int64))), .second, .val (.int (p2 &&& (3 : Int32))), .val (.long (f0_m11 q0 q1 p2)), .second, .val (.long (f0_m12 q0 q1 p2)), .second, .val (.ref b13), .unset, .unset] [(.int (1 : Int32))])) t → Steps p.tables e below (s₁.setTop (entryFrame m #[(.long q0), (.long q1), (.int p2)] maxLocals)) t := fun t k => pre15 t (by
        show Steps p.tables e below (T14.setTop (mkF m 92 #[.val (.long q0), .second, .val (.long q1), .second, .val (.int p2), .val (.long (q0 &&& (9223372036854775807 : Int64))), .second, .val (.long (q1 &&& (9223372036854775807 : Int64))), .second, .val (.int (p2 &&& (3 : Int32))), .val (.long (f0_m11 q0 q1 p2)), .second, .val (.long (f0_m12 q0 q1 p2)), .second, .val (.ref b13), .unset, .unset] [(.int (lcmpW (f0_m12 q0 q1 p2) (9223372036854775807 : Int64)))])) _
        refine XS.ifNo X14.here hx rfl (hb hby at_92) rfl ((if0 _ _).trans (teq ((lw_eq (f0_m12 q0 q1 p2) (9223372036854775807 : Int64)).mpr hc92_16)).2) ?_
        show Steps p.tables e below (T14.setTop (mkF m 95 #[.val (.long q0), .second, .val (.long q1), .second, .val (.int p2), .val (.long (q0 &&& (9223372036854775807 : Int64))), .second, .val (.long (q1 &&& (9223372036854775807 : Int64))), .second, .val (.int (p2 &&& (3 : Int32))), .val (.long (f0_m11 q0 q1 p2)), .second, .val (.long (f0_m12 q0 q1 p2)), .second, .val (.ref b13), .unset, .unset] [])) _
        refine XS.iconst X14.here hx rfl (hb hby at_95) ?_
        show Steps p.tables e below (T14.setTop (mkF m 96 #[.val (.long q0), .second, .val (.long q1), .second, .val (.int p2), .val (.long (q0 &&& (9223372036854775807 : Int64))), .second, .val (.long (q1 &&& (9223372036854775807 : Int64))), .second, .val (.int (p2 &&& (3 : Int32))), .val (.long (f0_m11 q0 q1 p2)), .second, .val (.long (f0_m12 q0 q1 p2)), .second, .val (.ref b13), .unset, .unset] [(.int (1 : Int32))])) _
        refine XS.goto X14.here hx rfl (pc0 := 96) (pc' := 100) rfl (hb hby at_96) (by decide) (by decide) ?_
        exact k)
      have q_f0_m19 : f0_m19 q0 q1 p2 = (1 : Int32) := by unfold f0_m19; rw [if_pos hc92_16]
      rw [q_f0_m19]
      exact ⟨T14, _, X14, rfl, N14, pre17⟩
    have pre18 : ∀ t, Steps p.tables e below (T14.setTop (mkF m 100 #[.val (.long q0), .second, .val (.long q1), .second, .val (.int p2), .val (.long (q0 &&& (9223372036854775807 : Int64))), .second, .val (.long (q1 &&& (9223372036854775807 : Int64))), .second, .val (.int (p2 &&& (3 : Int32))), .val (.long (f0_m11 q0 q1 p2)), .second, .val (.long (f0_m12 q0 q1 p2)), .second, .val (.ref b13), .unset, .unset] [(.int (0 : Int32))])) t → Steps p.tables e below (s₁.setTop (entryFrame m #[(.long q0), (.long q1), (.int p2)] maxLocals)) t := fun t k => pre15 t (by
      show Steps p.tables e below (T14.setTop (mkF m 92 #[.val (.long q0), .second, .val (.long q1), .second, .val (.int p2), .val (.long (q0 &&& (9223372036854775807 : Int64))), .second, .val (.long (q1 &&& (9223372036854775807 : Int64))), .second, .val (.int (p2 &&& (3 : Int32))), .val (.long (f0_m11 q0 q1 p2)), .second, .val (.long (f0_m12 q0 q1 p2)), .second, .val (.ref b13), .unset, .unset] [(.int (lcmpW (f0_m12 q0 q1 p2) (9223372036854775807 : Int64)))])) _
      refine XS.ifYes X14.here hx rfl (pc0 := 92) (pc' := 99) rfl (hb hby at_92) rfl ((if0 _ _).trans (feq (mt (lw_eq (f0_m12 q0 q1 p2) (9223372036854775807 : Int64)).mp hc92_16)).2) (by decide) (by decide) ?_
      show Steps p.tables e below (T14.setTop (mkF m 99 #[.val (.long q0), .second, .val (.long q1), .second, .val (.int p2), .val (.long (q0 &&& (9223372036854775807 : Int64))), .second, .val (.long (q1 &&& (9223372036854775807 : Int64))), .second, .val (.int (p2 &&& (3 : Int32))), .val (.long (f0_m11 q0 q1 p2)), .second, .val (.long (f0_m12 q0 q1 p2)), .second, .val (.ref b13), .unset, .unset] [])) _
      refine XS.iconst X14.here hx rfl (hb hby at_99) ?_
      exact k)
    have q_f0_m19 : f0_m19 q0 q1 p2 = (0 : Int32) := by unfold f0_m19; rw [if_neg hc92_16]
    rw [q_f0_m19]
    exact ⟨T14, _, X14, rfl, N14, pre18⟩
  obtain ⟨cq20, kq20, q20a, q20b, q20c⟩ := isOf hZ e16 u14_0
  obtain ⟨_, _, ⟨T20, L20, k20, n20⟩, -, X20, ⟨Lc20, hQ20, l20, y20, z20⟩, st20⟩ := X16.virtualBack hx (y := (⟨"com/example/rangekeeper/rangekeeper/core/Range", "isUnbounded", "()Z"⟩ : MethodName)) (z := (⟨"com/example/rangekeeper/rangekeeper/core/Range", "isUnbounded", "()Z"⟩ : MethodName)) hown (mvT hZ (hw _ (List.mem_of_getElem? (i := 26) rfl))) (mvT hZ (hw _ (List.mem_of_getElem? (i := 27) rfl))) (notFace_of_selects (args := #[]) (mvT hZ (hw _ (List.mem_of_getElem? (i := 29) rfl)))) (mvT hZ (hw _ (List.mem_of_getElem? (i := 29) rfl))) (mvT hZ (hw _ (List.mem_of_getElem? (i := 28) rfl))) (by decide) (backOf (W := 0) (rm6 l Z a0' hw [] b13 (f0_m12 q0 q1 p2) T14.heap n0 Z14 u14_2) hZ (hw _ (List.mem_of_getElem? (i := 30) rfl)) (hw _ (List.mem_of_getElem? (i := 10) rfl)) (by decide) (by decide)) q20a q20c (g := (mkF m 104 #[.val (.long q0), .second, .val (.long q1), .second, .val (.int p2), .val (.long (q0 &&& (9223372036854775807 : Int64))), .second, .val (.long (q1 &&& (9223372036854775807 : Int64))), .second, .val (.int (p2 &&& (3 : Int32))), .val (.long (f0_m11 q0 q1 p2)), .second, .val (.long (f0_m12 q0 q1 p2)), .second, .val (.ref b13), .val (.int (f0_m19 q0 q1 p2)), .unset] [(.ref b13)])) rfl (by rw [hml]; rfl) (Steps.refl _) (argsL := []) (rest := []) (lenOf pd3 rfl) rfl (by show 2 * 0 + _ ≤ _; exact Nat.le_of_eq rfl) (hb hby at_104) (fun _ _ => ⟨rfl, e16, (by decide : 1 + 0 ≤ _), (by decide : 2 + 0 ≤ _)⟩)
  dsimp only [Pt.U, Pt.locs, Pt.cells, Pt.slots] at X20 l20 y20 z20 st20 hQ20
  subst l20 y20 z20
  obtain ⟨rfl, N20q, e20⟩ := hQ20
  have N20 := Fr.app N16 N20q
  have pre21 : ∀ t, Steps p.tables e below (T20.setTop (mkF m 109 #[.val (.long q0), .second, .val (.long q1), .second, .val (.int p2), .val (.long (q0 &&& (9223372036854775807 : Int64))), .second, .val (.long (q1 &&& (9223372036854775807 : Int64))), .second, .val (.int (p2 &&& (3 : Int32))), .val (.long (f0_m11 q0 q1 p2)), .second, .val (.long (f0_m12 q0 q1 p2)), .second, .val (.ref b13), .val (.int (f0_m19 q0 q1 p2)), .unset] [(.int (f0_m19 q0 q1 p2)), (.int (F6 (f0_m12 q0 q1 p2)))])) t → Steps p.tables e below (s₁.setTop (entryFrame m #[(.long q0), (.long q1), (.int p2)] maxLocals)) t := fun t k => pre16 t (by
    show Steps p.tables e below (T16.setTop (mkF m 100 #[.val (.long q0), .second, .val (.long q1), .second, .val (.int p2), .val (.long (q0 &&& (9223372036854775807 : Int64))), .second, .val (.long (q1 &&& (9223372036854775807 : Int64))), .second, .val (.int (p2 &&& (3 : Int32))), .val (.long (f0_m11 q0 q1 p2)), .second, .val (.long (f0_m12 q0 q1 p2)), .second, .val (.ref b13), .unset, .unset] [(.int (f0_m19 q0 q1 p2))])) _
    refine XS.istore X16.here hx rfl (hb hby at_100) rfl (l' := #[.val (.long q0), .second, .val (.long q1), .second, .val (.int p2), .val (.long (q0 &&& (9223372036854775807 : Int64))), .second, .val (.long (q1 &&& (9223372036854775807 : Int64))), .second, .val (.int (p2 &&& (3 : Int32))), .val (.long (f0_m11 q0 q1 p2)), .second, .val (.long (f0_m12 q0 q1 p2)), .second, .val (.ref b13), .val (.int (f0_m19 q0 q1 p2)), .unset]) rfl ?_
    show Steps p.tables e below (T16.setTop (mkF m 102 #[.val (.long q0), .second, .val (.long q1), .second, .val (.int p2), .val (.long (q0 &&& (9223372036854775807 : Int64))), .second, .val (.long (q1 &&& (9223372036854775807 : Int64))), .second, .val (.int (p2 &&& (3 : Int32))), .val (.long (f0_m11 q0 q1 p2)), .second, .val (.long (f0_m12 q0 q1 p2)), .second, .val (.ref b13), .val (.int (f0_m19 q0 q1 p2)), .unset] [])) _
    refine XS.aload X16.here hx rfl (hb hby at_102) rfl rfl ?_
    show Steps p.tables e below (T16.setTop (mkF m 104 #[.val (.long q0), .second, .val (.long q1), .second, .val (.int p2), .val (.long (q0 &&& (9223372036854775807 : Int64))), .second, .val (.long (q1 &&& (9223372036854775807 : Int64))), .second, .val (.int (p2 &&& (3 : Int32))), .val (.long (f0_m11 q0 q1 p2)), .second, .val (.long (f0_m12 q0 q1 p2)), .second, .val (.ref b13), .val (.int (f0_m19 q0 q1 p2)), .unset] [(.ref b13)])) _
    refine st20.trans ?_
    show Steps p.tables e below (T20.setTop (mkF m 107 #[.val (.long q0), .second, .val (.long q1), .second, .val (.int p2), .val (.long (q0 &&& (9223372036854775807 : Int64))), .second, .val (.long (q1 &&& (9223372036854775807 : Int64))), .second, .val (.int (p2 &&& (3 : Int32))), .val (.long (f0_m11 q0 q1 p2)), .second, .val (.long (f0_m12 q0 q1 p2)), .second, .val (.ref b13), .val (.int (f0_m19 q0 q1 p2)), .unset] [(.int (F6 (f0_m12 q0 q1 p2)))])) _
    refine XS.iload X20.here hx rfl (hb hby at_107) rfl ?_
    exact k)
  by_cases hc109_22 : (F6 (f0_m12 q0 q1 p2)) = (f0_m19 q0 q1 p2)
  · obtain ⟨_, _, ⟨T23, L23, k23, n23⟩, -, X23, ⟨Lc23, hQ23, l23, y23, z23⟩, st23⟩ := Jvm.LawKit.callS X20 hx (y := (⟨"com/example/rangekeeper/rangekeeper/core/Range", "unbounded", "(J)Lcom/example/rangekeeper/rangekeeper/core/Range;"⟩ : MethodName)) hown (mvT hZ (hw _ (List.mem_of_getElem? (i := 32) rfl))) (mvT hZ (hw _ (List.mem_of_getElem? (i := 33) rfl))) (mvT hZ (hw _ (List.mem_of_getElem? (i := 10) rfl))) (mvT hZ (hw _ (List.mem_of_getElem? (i := 34) rfl))) (by decide) (backOf (W := 0) (rm7 l Z a0' hw [] (f0_m11 q0 q1 p2) T14.heap n0 Z14 (own_p1 q0 q1 p2) (own_p3 q0 q1 p2)) hZ (hw _ (List.mem_of_getElem? (i := 34) rfl)) (hw _ (List.mem_of_getElem? (i := 10) rfl)) (by decide) (by decide)) (g := (mkF m 116 #[.val (.long q0), .second, .val (.long q1), .second, .val (.int p2), .val (.long (q0 &&& (9223372036854775807 : Int64))), .second, .val (.long (q1 &&& (9223372036854775807 : Int64))), .second, .val (.int (p2 &&& (3 : Int32))), .val (.long (f0_m11 q0 q1 p2)), .second, .val (.long (f0_m12 q0 q1 p2)), .second, .val (.ref b13), .val (.int (f0_m19 q0 q1 p2)), .unset] [(.long (f0_m11 q0 q1 p2))])) rfl (by rw [hml]; rfl) (argsL := [(.long (f0_m11 q0 q1 p2))]) (rest := []) (lenOf pd4 rfl) rfl (by show 2 * 0 + _ ≤ _; exact Nat.le_of_eq rfl) (hb hby at_116) (fun _ _ => ⟨rfl, e20, (by decide : 1 + 1 ≤ _), (by decide : 2 + 2 ≤ _)⟩)
    dsimp only [Pt.U, Pt.locs, Pt.cells, Pt.slots] at X23 l23 y23 z23 st23 hQ23
    subst l23 y23 z23
    obtain ⟨b23, rfl, N23q, gs23, g_b23, K23, u23_0, u23_1, u23_2⟩ := hQ23
    have N23 := Fr.app N20 N23q
    have ne_b13_b23 : b13 ≠ b23 := Nat.ne_of_lt (Nat.lt_of_lt_of_le u14_0.lt gs23)
    have Z23 : n0 ≤ T23.heap.size := Nat.le_trans Z14 K23.1
    obtain ⟨cq24, kq24, q24a, q24b, q24c⟩ := isOf hZ rfl u23_0
    obtain ⟨_, _, ⟨T24, L24, k24, n24⟩, -, X24, ⟨Lc24, hQ24, l24, y24, z24⟩, st24⟩ := X23.virtualBack hx (y := (⟨"com/example/rangekeeper/rangekeeper/core/Range", "isUnbounded", "()Z"⟩ : MethodName)) (z := (⟨"com/example/rangekeeper/rangekeeper/core/Range", "isUnbounded", "()Z"⟩ : MethodName)) hown (mvT hZ (hw _ (List.mem_of_getElem? (i := 26) rfl))) (mvT hZ (hw _ (List.mem_of_getElem? (i := 27) rfl))) (notFace_of_selects (args := #[]) (mvT hZ (hw _ (List.mem_of_getElem? (i := 29) rfl)))) (mvT hZ (hw _ (List.mem_of_getElem? (i := 29) rfl))) (mvT hZ (hw _ (List.mem_of_getElem? (i := 28) rfl))) (by decide) (backOf (W := 0) (rm6 l Z a0' hw [] b23 (9223372036854775807 : Int64) T23.heap n0 Z23 u23_2) hZ (hw _ (List.mem_of_getElem? (i := 30) rfl)) (hw _ (List.mem_of_getElem? (i := 10) rfl)) (by decide) (by decide)) q24a q24c (g := (mkF m 123 #[.val (.long q0), .second, .val (.long q1), .second, .val (.int p2), .val (.long (q0 &&& (9223372036854775807 : Int64))), .second, .val (.long (q1 &&& (9223372036854775807 : Int64))), .second, .val (.int (p2 &&& (3 : Int32))), .val (.long (f0_m11 q0 q1 p2)), .second, .val (.long (f0_m12 q0 q1 p2)), .second, .val (.ref b13), .val (.int (f0_m19 q0 q1 p2)), .val (.ref b23)] [(.ref b23)])) rfl (by rw [hml]; rfl) (Steps.refl _) (argsL := []) (rest := []) (lenOf pd3 rfl) rfl (by show 2 * 0 + _ ≤ _; exact Nat.le_of_eq rfl) (hb hby at_123) (fun _ _ => ⟨rfl, rfl, (by decide : 2 + 0 ≤ _), (by decide : 4 + 0 ≤ _)⟩)
    dsimp only [Pt.U, Pt.locs, Pt.cells, Pt.slots] at X24 l24 y24 z24 st24 hQ24
    subst l24 y24 z24
    obtain ⟨rfl, N24q, e24⟩ := hQ24
    have N24 := Fr.app N23 N24q
    have pre25 : ∀ t, Steps p.tables e below (T24.setTop (mkF m 126 #[.val (.long q0), .second, .val (.long q1), .second, .val (.int p2), .val (.long (q0 &&& (9223372036854775807 : Int64))), .second, .val (.long (q1 &&& (9223372036854775807 : Int64))), .second, .val (.int (p2 &&& (3 : Int32))), .val (.long (f0_m11 q0 q1 p2)), .second, .val (.long (f0_m12 q0 q1 p2)), .second, .val (.ref b13), .val (.int (f0_m19 q0 q1 p2)), .val (.ref b23)] [(.int (F6 (9223372036854775807 : Int64)))])) t → Steps p.tables e below (s₁.setTop (entryFrame m #[(.long q0), (.long q1), (.int p2)] maxLocals)) t := fun t k => pre21 t (by
      show Steps p.tables e below (T20.setTop (mkF m 109 #[.val (.long q0), .second, .val (.long q1), .second, .val (.int p2), .val (.long (q0 &&& (9223372036854775807 : Int64))), .second, .val (.long (q1 &&& (9223372036854775807 : Int64))), .second, .val (.int (p2 &&& (3 : Int32))), .val (.long (f0_m11 q0 q1 p2)), .second, .val (.long (f0_m12 q0 q1 p2)), .second, .val (.ref b13), .val (.int (f0_m19 q0 q1 p2)), .unset] [(.int (f0_m19 q0 q1 p2)), (.int (F6 (f0_m12 q0 q1 p2)))])) _
      refine XS.icmpYes X20.here hx rfl (pc0 := 109) (pc' := 114) rfl (hb hby at_109) rfl (teq hc109_22).1 (by decide) (by decide) ?_
      show Steps p.tables e below (T20.setTop (mkF m 114 #[.val (.long q0), .second, .val (.long q1), .second, .val (.int p2), .val (.long (q0 &&& (9223372036854775807 : Int64))), .second, .val (.long (q1 &&& (9223372036854775807 : Int64))), .second, .val (.int (p2 &&& (3 : Int32))), .val (.long (f0_m11 q0 q1 p2)), .second, .val (.long (f0_m12 q0 q1 p2)), .second, .val (.ref b13), .val (.int (f0_m19 q0 q1 p2)), .unset] [])) _
      refine XS.lload X20.here hx rfl (hb hby at_114) rfl ?_
      show Steps p.tables e below (T20.setTop (mkF m 116 #[.val (.long q0), .second, .val (.long q1), .second, .val (.int p2), .val (.long (q0 &&& (9223372036854775807 : Int64))), .second, .val (.long (q1 &&& (9223372036854775807 : Int64))), .second, .val (.int (p2 &&& (3 : Int32))), .val (.long (f0_m11 q0 q1 p2)), .second, .val (.long (f0_m12 q0 q1 p2)), .second, .val (.ref b13), .val (.int (f0_m19 q0 q1 p2)), .unset] [(.long (f0_m11 q0 q1 p2))])) _
      refine st23 _ ?_
      show Steps p.tables e below (T23.setTop (mkF m 119 #[.val (.long q0), .second, .val (.long q1), .second, .val (.int p2), .val (.long (q0 &&& (9223372036854775807 : Int64))), .second, .val (.long (q1 &&& (9223372036854775807 : Int64))), .second, .val (.int (p2 &&& (3 : Int32))), .val (.long (f0_m11 q0 q1 p2)), .second, .val (.long (f0_m12 q0 q1 p2)), .second, .val (.ref b13), .val (.int (f0_m19 q0 q1 p2)), .unset] [(.ref b23)])) _
      refine XS.astore X23.here hx rfl (hb hby at_119) rfl rfl (l' := #[.val (.long q0), .second, .val (.long q1), .second, .val (.int p2), .val (.long (q0 &&& (9223372036854775807 : Int64))), .second, .val (.long (q1 &&& (9223372036854775807 : Int64))), .second, .val (.int (p2 &&& (3 : Int32))), .val (.long (f0_m11 q0 q1 p2)), .second, .val (.long (f0_m12 q0 q1 p2)), .second, .val (.ref b13), .val (.int (f0_m19 q0 q1 p2)), .val (.ref b23)]) rfl ?_
      show Steps p.tables e below (T23.setTop (mkF m 121 #[.val (.long q0), .second, .val (.long q1), .second, .val (.int p2), .val (.long (q0 &&& (9223372036854775807 : Int64))), .second, .val (.long (q1 &&& (9223372036854775807 : Int64))), .second, .val (.int (p2 &&& (3 : Int32))), .val (.long (f0_m11 q0 q1 p2)), .second, .val (.long (f0_m12 q0 q1 p2)), .second, .val (.ref b13), .val (.int (f0_m19 q0 q1 p2)), .val (.ref b23)] [])) _
      refine XS.aload X23.here hx rfl (hb hby at_121) rfl rfl ?_
      show Steps p.tables e below (T23.setTop (mkF m 123 #[.val (.long q0), .second, .val (.long q1), .second, .val (.int p2), .val (.long (q0 &&& (9223372036854775807 : Int64))), .second, .val (.long (q1 &&& (9223372036854775807 : Int64))), .second, .val (.int (p2 &&& (3 : Int32))), .val (.long (f0_m11 q0 q1 p2)), .second, .val (.long (f0_m12 q0 q1 p2)), .second, .val (.ref b13), .val (.int (f0_m19 q0 q1 p2)), .val (.ref b23)] [(.ref b23)])) _
      refine st24.trans ?_
      exact k)
    obtain ⟨fs, hr, hrun, hended, hW, hsame⟩ := X24.leave (v := some (.int ((F6 (9223372036854775807 : Int64)) &&& 1))) (fun h => by rw [Bd.returns] at h; cases h) hlk
    have hF : (F0 q0 q1 p2) = ((F6 (9223372036854775807 : Int64)) &&& 1) := by unfold F0; rw [if_pos hc109_22]
    exact ⟨_, _, pre25 _ (retN X24 hx (t := .boolean) Bd.returns (by simp) (hb hby at_126) hr), hrun, hended, _, _, rfl, ⟨by rw [hF], N24⟩, ⟨_, rfl⟩, hW, hsame.mono (by decide) (by decide)⟩
  have pre26 : ∀ t, Steps p.tables e below (T20.setTop (mkF m 113 #[.val (.long q0), .second, .val (.long q1), .second, .val (.int p2), .val (.long (q0 &&& (9223372036854775807 : Int64))), .second, .val (.long (q1 &&& (9223372036854775807 : Int64))), .second, .val (.int (p2 &&& (3 : Int32))), .val (.long (f0_m11 q0 q1 p2)), .second, .val (.long (f0_m12 q0 q1 p2)), .second, .val (.ref b13), .val (.int (f0_m19 q0 q1 p2)), .unset] [(.int (0 : Int32))])) t → Steps p.tables e below (s₁.setTop (entryFrame m #[(.long q0), (.long q1), (.int p2)] maxLocals)) t := fun t k => pre21 t (by
    show Steps p.tables e below (T20.setTop (mkF m 109 #[.val (.long q0), .second, .val (.long q1), .second, .val (.int p2), .val (.long (q0 &&& (9223372036854775807 : Int64))), .second, .val (.long (q1 &&& (9223372036854775807 : Int64))), .second, .val (.int (p2 &&& (3 : Int32))), .val (.long (f0_m11 q0 q1 p2)), .second, .val (.long (f0_m12 q0 q1 p2)), .second, .val (.ref b13), .val (.int (f0_m19 q0 q1 p2)), .unset] [(.int (f0_m19 q0 q1 p2)), (.int (F6 (f0_m12 q0 q1 p2)))])) _
    refine XS.icmpNo X20.here hx rfl (hb hby at_109) rfl (feq hc109_22).1 ?_
    show Steps p.tables e below (T20.setTop (mkF m 112 #[.val (.long q0), .second, .val (.long q1), .second, .val (.int p2), .val (.long (q0 &&& (9223372036854775807 : Int64))), .second, .val (.long (q1 &&& (9223372036854775807 : Int64))), .second, .val (.int (p2 &&& (3 : Int32))), .val (.long (f0_m11 q0 q1 p2)), .second, .val (.long (f0_m12 q0 q1 p2)), .second, .val (.ref b13), .val (.int (f0_m19 q0 q1 p2)), .unset] [])) _
    refine XS.iconst X20.here hx rfl (hb hby at_112) ?_
    exact k)
  obtain ⟨fs, hr, hrun, hended, hW, hsame⟩ := X20.leave (v := some (.int (0 : Int32))) (fun h => by rw [Bd.returns] at h; cases h) hlk
  have hF : (F0 q0 q1 p2) = (0 : Int32) := by unfold F0; rw [if_neg hc109_22]
  exact ⟨_, _, pre26 _ (retN X20 hx (t := .boolean) Bd.returns (by simp) (hb hby at_113) hr), hrun, hended, _, _, rfl, ⟨by rw [hF], N20⟩, ⟨_, rfl⟩, hW, hsame.mono (by decide) (by decide)⟩
theorem own_law (q0 q1 : Int64) (p2 : Int32) : F0 q0 q1 p2 = 1 := by
  unfold F0 f0_m19 F6
  rw [if_pos rfl]; decide
set_option maxRecDepth 65536 in
set_option maxHeartbeats 40000000 in
theorem comes_1 {Post : Tables → Env → Array Value → State → Outcome → State → Prop} (hpost : ∀ tb e args s v u, (limb_1_1.after args s (.returned v) u = true ∧ limb_1_2.after args s (.returned v) u = true ∧ True) → FrameEnd s (.returned v) u (Jvm.fieldLocs frame_1_writes args s ++ Jvm.arrayLocs frame_1_arrays args s ++ Jvm.staticLocs frame_1_statics s) 16 128 → Post tb e args s (.returned v) u) :
    ArmFor flags0 classFile x code maxLocals ret World_1 tables_1 room_1 Calls_1 rest_1 Pre_1 Post := by
  intro l hfl _ _ p e ha hc hk s m args below hf hA hF happ hP
  obtain ⟨hcalls, hrest, hpre⟩ := hP
  obtain ⟨-, -, -, hnamed, -, -, -, hat⟩ := (Spec.applies_iff hf).mp happ
  obtain ⟨hg, hn⟩ := and_e (Cond.before_iff.mp (show (Jvm.Cond.and given_1 narrow_1).before args s = true from hpre))
  obtain ⟨hcount, g0⟩ := and_e hg
  obtain ⟨ga0, g1⟩ := and_e g0
  obtain ⟨ga1, g2⟩ := and_e g1
  obtain ⟨w0, w1, w2, rfl⟩ : ∃ w0 w1 w2 : Value, args = #[w0, w1, w2] := by
    have hs : args.size = 3 := by simpa [Cond.value, given_1] using hcount
    obtain ⟨L⟩ := args
    match L, hs with
    | [w0, w1, w2], _ => exact ⟨w0, w1, w2, rfl⟩
  have hw := fun d (hd : d ∈ tables_1) => atoms_spec (ws := Jvm.Cond.code x code maxLocals ret :: tables_1) hat d (List.mem_cons_of_mem _ hd)
  obtain ⟨i0, ei0⟩ := isL_v ga0
  obtain rfl : w0 = (.long i0) := Option.some.inj ei0
  obtain ⟨i1, ei1⟩ := isL_v ga1
  obtain rfl : w1 = (.long i1) := Option.some.inj ei1
  obtain ⟨i2, ei2⟩ := is_v g2
  obtain rfl : w2 = (.int i2) := Option.some.inj ei2
  obtain ⟨n, o, h1, h2, h3, _, L, rfl, ⟨rfl, N⟩, hq⟩ := rm0 l s _ hw tables_1 i0 i1 i2 s.heap s.heap.size (Nat.le_refl _) p e ha hc hk s m _ below hf ((Spec.applies_iff_loose hf).mp happ).1 ⟨rfl, State.Warmed39.refl s, rfl⟩ trivial
  have hlaw := own_law i0 i1 i2
  refine ⟨n, _, h1, h2, h3, hpost _ _ _ _ _ _ ⟨Cond.after_iff.mpr rfl, Cond.after_iff.mpr (eq_i res_at (Term.int_eval (1)) (congrArg Value.int hlaw)), trivial⟩ ⟨hq.1, hq.2.1, (hq.2.2.sift fun y hy => Or.inr (N y hy)).mono (by decide) (by decide)⟩⟩
theorem main_1_1 : Claimed_1_1 := comes_1 fun _ _ _ _ _ _ h hF => ⟨h.1, hF⟩
theorem main_1_2 : Claimed_1_2 := comes_1 fun _ _ _ _ _ _ h hF => ⟨h.2.1, hF⟩
end Jvm.Pilot.@@N@@
namespace Jvm.Pilot.@@N@@
open Jvm Jvm.ClassFile Sem Op Lib Jvm.Free Jvm.Stand Jvm.Pilot.@@N@@.Jvm.D
/-! MADE BY PROGRAM (witnessworld.py) out of the Statement's table words and the real class files: 11 classes; the members and pool entries that the words name. The judged class is class 1, her method 1. -/
namespace start1
open Jvm.ClassFile
def u (s : String) : CpInfo := .utf8 (stringToUtf16 s)
/-- a pool by its gaps: so many unusable entries, then the entry; so many at the end -/
def gap : Nat → List CpInfo → List CpInfo
  | 0, r => r
  | n + 1, r => .unusable :: gap n r
def poolList (es : List (Nat × CpInfo)) (last : Nat) : List CpInfo := es.foldr (fun e r => gap e.1 (e.2 :: r)) (gap last [])
def pool (es : List (Nat × CpInfo)) (last : Nat) : Array CpInfo := ⟨poolList es last⟩
def fileOf (pool : Array CpInfo) (this : Nat) (attrs : Array Attribute := #[]) (ms : Array MethodInfo := #[]) (fl : Nat := 33) (sup : Nat := 0) (ifs : Array Nat := #[]) (fds : Array FieldInfo := #[]) : ClassFile where
  minorVersion := 0
  majorVersion := 65
  constantPool := pool
  accessFlags := fl
  thisClass := this
  superClass := sup
  interfaces := ifs
  fields := fds
  methods := ms
  attributes := attrs
def plain (name : String) (sup : Option ClassId) : Class where
  name := name
  kind := .ordinary
  loader := none
  accessFlags := 33
  super := sup
  interfaces := #[]
  cf := none
  fields := #[]
  methods := #[]
  instanceTypes := #[]
  staticTypes := #[]
  resolved := #[]
  callSites := []
  init := .initialized
  statics := none
  mirror := none

def pool0 : Array CpInfo := pool [(5, u "<init>"), (0, u "()V"), (1, .class_ 10), (1, u "java/lang/Object")] 113

def k0c0 : Code := { maxStack := 0, maxLocals := 1, code := object_method_1_code, exceptionTable := #[], attributes := #[] }
def k0m0 : Method := { name := "<init>", desc := "()V", sig := { parameters := [], returnType := none }, accessFlags := 1, code := some k0c0 }
/-- java/lang/Object -/
def k0 : Class := { plain "java/lang/Object" none with
  accessFlags := 33
  interfaces := #[]
  cf := some (fileOf pool0 8 #[] #[{ accessFlags := 1, nameIndex := 5, descriptorIndex := 6, attributes := #[] }] 33 0 #[] #[])
  fields := #[]
  methods := #[k0m0]
  instanceTypes := #[]
  staticTypes := #[]
  resolved := Array.replicate 124 none
  statics := none }

def pool1 : Array CpInfo := pool [(2, .class_ 4), (1, u "java/lang/Object"), (0, u "<init>"), (0, u "()V"), (2, .long 9223372036854775807), (1, .methodref 12 13), (0, .class_ 14), (0, .nameAndType 15 16), (0, u "java/lang/Math"), (0, u "min"), (0, u "(JJ)J"), (0, .methodref 12 18), (0, .nameAndType 19 16), (0, u "max"), (0, .long 9223372036854775806), (1, .class_ 23), (0, u "com/example/rangekeeper/rangekeeper/core/Range"), (0, .methodref 22 25), (0, .nameAndType 5 26), (0, u "(JJ)V"), (0, .methodref 22 28), (0, .nameAndType 29 30), (0, u "isUnbounded"), (0, u "()Z"), (0, .methodref 22 32), (0, .nameAndType 33 34), (0, u "unbounded"), (0, u "(J)Lcom/example/rangekeeper/rangekeeper/core/Range;"), (0, .class_ 36), (0, u "com/example/rangekeeper/rangekeeper/core/RangeIsUnboundedPinLaw"), (2, u "law"), (0, u "(JJI)Z")] 3

def k1m0 : Method := { name := "<init>", desc := "()V", sig := { parameters := [], returnType := none }, accessFlags := 1, code := none }
def k1c1 : Code := { maxStack := 6, maxLocals := 17, code := code, exceptionTable := #[], attributes := #[] }
def k1m1 : Method := { name := "law", desc := "(JJI)Z", sig := { parameters := [.long, .long, .int], returnType := some .boolean }, accessFlags := 9, code := some k1c1 }
/-- com/example/rangekeeper/rangekeeper/core/RangeIsUnboundedPinLaw -/
def k1 : Class := { plain "com/example/rangekeeper/rangekeeper/core/RangeIsUnboundedPinLaw" (some 0) with
  accessFlags := 49
  interfaces := #[]
  cf := some (fileOf pool1 35 #[] #[{ accessFlags := 1, nameIndex := 5, descriptorIndex := 6, attributes := #[] }, { accessFlags := 9, nameIndex := 39, descriptorIndex := 40, attributes := #[] }] 49 2 #[] #[])
  fields := #[]
  methods := #[k1m0, k1m1]
  instanceTypes := #[]
  staticTypes := #[]
  resolved := Array.replicate 44 none
  statics := none }

def pool2 : Array CpInfo := pool [(1, .class_ 2), (0, u "java/lang/Math"), (1, .class_ 6), (1, u "java/lang/Object"), (0, u "<init>"), (0, u "()V"), (89, .class_ 100), (1, u "java/lang/Math$RandomNumberGeneratorHolder"), (20, u "(JJ)J"), (50, u "negativeZeroFloatBits"), (0, u "J"), (2, u "negativeZeroDoubleBits"), (21, u "max"), (2, u "min"), (43, u "$assertionsDisabled"), (0, u "Z"), (91, u "twoToTheDoubleScaleDown"), (0, u "D"), (4, u "twoToTheDoubleScaleUp"), (9, u "E"), (3, u "PI"), (2, u "TAU"), (2, u "DEGREES_TO_RADIANS"), (0, u "RADIANS_TO_DEGREES")] 94

def k2m0 : Method := { name := "<init>", desc := "()V", sig := { parameters := [], returnType := none }, accessFlags := 2, code := none }
def k2c1 : Code := { maxStack := 4, maxLocals := 4, code := jdk_29_method_66_code, exceptionTable := #[], attributes := #[] }
def k2m1 : Method := { name := "max", desc := "(JJ)J", sig := { parameters := [.long, .long], returnType := some .long }, accessFlags := 9, code := some k2c1 }
def k2c2 : Code := { maxStack := 4, maxLocals := 4, code := jdk_29_method_70_code, exceptionTable := #[], attributes := #[] }
def k2m2 : Method := { name := "min", desc := "(JJ)J", sig := { parameters := [.long, .long], returnType := some .long }, accessFlags := 9, code := some k2c2 }
/-- java/lang/Math -/
def k2 : Class := { plain "java/lang/Math" (some 0) with
  accessFlags := 49
  interfaces := #[]
  cf := some (fileOf pool2 1 #[.nestMembers #[98]] #[{ accessFlags := 2, nameIndex := 7, descriptorIndex := 8, attributes := #[] }, { accessFlags := 9, nameIndex := 198, descriptorIndex := 121, attributes := #[] }, { accessFlags := 9, nameIndex := 201, descriptorIndex := 121, attributes := #[] }] 49 4 #[] #[{ accessFlags := 25, nameIndex := 354, descriptorIndex := 339, attributes := #[] }, { accessFlags := 25, nameIndex := 358, descriptorIndex := 339, attributes := #[] }, { accessFlags := 25, nameIndex := 361, descriptorIndex := 339, attributes := #[] }, { accessFlags := 26, nameIndex := 364, descriptorIndex := 339, attributes := #[] }, { accessFlags := 26, nameIndex := 365, descriptorIndex := 339, attributes := #[] }, { accessFlags := 26, nameIndex := 172, descriptorIndex := 173, attributes := #[] }, { accessFlags := 26, nameIndex := 176, descriptorIndex := 173, attributes := #[] }, { accessFlags := 8, nameIndex := 344, descriptorIndex := 339, attributes := #[] }, { accessFlags := 8, nameIndex := 338, descriptorIndex := 339, attributes := #[] }, { accessFlags := 4120, nameIndex := 245, descriptorIndex := 246, attributes := #[] }])
  fields := #[{ name := "E", type := .double, accessFlags := 25, slot := 0, constantValue := 0 }, { name := "PI", type := .double, accessFlags := 25, slot := 1, constantValue := 0 }, { name := "TAU", type := .double, accessFlags := 25, slot := 2, constantValue := 0 }, { name := "DEGREES_TO_RADIANS", type := .double, accessFlags := 26, slot := 3, constantValue := 0 }, { name := "RADIANS_TO_DEGREES", type := .double, accessFlags := 26, slot := 4, constantValue := 0 }, { name := "negativeZeroFloatBits", type := .long, accessFlags := 26, slot := 5, constantValue := 0 }, { name := "negativeZeroDoubleBits", type := .long, accessFlags := 26, slot := 6, constantValue := 0 }, { name := "twoToTheDoubleScaleUp", type := .double, accessFlags := 8, slot := 7, constantValue := 0 }, { name := "twoToTheDoubleScaleDown", type := .double, accessFlags := 8, slot := 8, constantValue := 0 }, { name := "$assertionsDisabled", type := .boolean, accessFlags := 4120, slot := 9, constantValue := 0 }]
  methods := #[k2m0, k2m1, k2m2]
  instanceTypes := #[]
  staticTypes := #[.double, .double, .double, .double, .double, .long, .long, .double, .double, .boolean]
  resolved := Array.replicate 460 none
  statics := none }

def pool3 : Array CpInfo := pool [(1, .methodref 2 3), (0, .class_ 4), (0, .nameAndType 5 6), (0, u "java/lang/Object"), (0, u "<init>"), (0, u "()V"), (0, .class_ 8), (0, u "java/lang/Record")] 13

def k3c0 : Code := { maxStack := 1, maxLocals := 1, code := jdk_30_method_1_code, exceptionTable := #[], attributes := #[] }
def k3m0 : Method := { name := "<init>", desc := "()V", sig := { parameters := [], returnType := none }, accessFlags := 4, code := some k3c0 }
/-- java/lang/Record -/
def k3 : Class := { plain "java/lang/Record" (some 0) with
  accessFlags := 1057
  interfaces := #[]
  cf := some (fileOf pool3 7 #[] #[{ accessFlags := 4, nameIndex := 5, descriptorIndex := 6, attributes := #[] }] 1057 2 #[] #[])
  fields := #[]
  methods := #[k3m0]
  instanceTypes := #[]
  staticTypes := #[]
  resolved := Array.replicate 22 none
  statics := none }

def pool4 : Array CpInfo := pool [(1, .methodref 2 3), (0, .class_ 4), (0, .nameAndType 5 6), (0, u "java/lang/Record"), (0, u "<init>"), (0, u "()V"), (10, .fieldref 18 19), (0, .class_ 20), (0, .nameAndType 21 22), (0, u "com/example/rangekeeper/rangekeeper/core/Range"), (0, u "start"), (0, u "J"), (0, .fieldref 18 24), (0, .nameAndType 25 22), (0, u "stop"), (2, .long 9223372036854775807), (1, .methodref 18 31), (0, .nameAndType 5 32), (0, u "(JJ)V"), (23, u "unbounded"), (0, u "(J)Lcom/example/rangekeeper/rangekeeper/core/Range;"), (8, u "isUnbounded"), (0, u "()Z")] 84

def k4c0 : Code := { maxStack := 6, maxLocals := 5, code := prog_15_method_1_code, exceptionTable := #[], attributes := #[] }
def k4m0 : Method := { name := "<init>", desc := "(JJ)V", sig := { parameters := [.long, .long], returnType := none }, accessFlags := 1, code := some k4c0 }
def k4c1 : Code := { maxStack := 6, maxLocals := 2, code := prog_15_method_2_code, exceptionTable := #[], attributes := #[] }
def k4m1 : Method := { name := "unbounded", desc := "(J)Lcom/example/rangekeeper/rangekeeper/core/Range;", sig := { parameters := [.long], returnType := some (.object "com/example/rangekeeper/rangekeeper/core/Range") }, accessFlags := 9, code := some k4c1 }
def k4c2 : Code := { maxStack := 4, maxLocals := 1, code := prog_15_method_4_code, exceptionTable := #[], attributes := #[] }
def k4m2 : Method := { name := "isUnbounded", desc := "()Z", sig := { parameters := [], returnType := some .boolean }, accessFlags := 1, code := some k4c2 }
/-- com/example/rangekeeper/rangekeeper/core/Range -/
def k4 : Class := { plain "com/example/rangekeeper/rangekeeper/core/Range" (some 3) with
  accessFlags := 49
  interfaces := #[]
  cf := some (fileOf pool4 18 #[] #[{ accessFlags := 1, nameIndex := 5, descriptorIndex := 32, attributes := #[] }, { accessFlags := 9, nameIndex := 56, descriptorIndex := 57, attributes := #[] }, { accessFlags := 1, nameIndex := 66, descriptorIndex := 67, attributes := #[] }] 49 2 #[] #[{ accessFlags := 18, nameIndex := 21, descriptorIndex := 22, attributes := #[] }, { accessFlags := 18, nameIndex := 25, descriptorIndex := 22, attributes := #[] }])
  fields := #[{ name := "start", type := .long, accessFlags := 18, slot := 0, constantValue := 0 }, { name := "stop", type := .long, accessFlags := 18, slot := 1, constantValue := 0 }]
  methods := #[k4m0, k4m1, k4m2]
  instanceTypes := #[.long, .long]
  staticTypes := #[]
  resolved := Array.replicate 152 none
  statics := none }

def pool5 : Array CpInfo := pool [(1, u "java/lang/Cloneable"), (0, .class_ 1), (0, u "java/lang/Object"), (0, .class_ 3)] 3

/-- java/lang/Cloneable -/
def k5 : Class := { plain "java/lang/Cloneable" (some 0) with
  accessFlags := 1537
  interfaces := #[]
  cf := some (fileOf pool5 2 #[] #[] 1537 4 #[] #[])
  fields := #[]
  methods := #[]
  instanceTypes := #[]
  staticTypes := #[]
  resolved := Array.replicate 8 none
  statics := none }

def pool6 : Array CpInfo := pool [(1, u "java/io/Serializable"), (0, .class_ 1), (0, u "java/lang/Object"), (0, .class_ 3)] 3

/-- java/io/Serializable -/
def k6 : Class := { plain "java/io/Serializable" (some 0) with
  accessFlags := 1537
  interfaces := #[]
  cf := some (fileOf pool6 2 #[] #[] 1537 4 #[] #[])
  fields := #[]
  methods := #[]
  instanceTypes := #[]
  staticTypes := #[]
  resolved := Array.replicate 8 none
  statics := none }

/-- the primitive byte -/
def k7 : Class := { plain "byte" none with kind := .primitive 'B', accessFlags := 0x411 }
/-- [B -/
def k8 : Class := { plain "[B" (some 0) with kind := .array 7 .byte, interfaces := #[5, 6], accessFlags := 1041 }

/-- the primitive int -/
def k9 : Class := { plain "int" none with kind := .primitive 'I', accessFlags := 0x411 }
/-- [I -/
def k10 : Class := { plain "[I" (some 0) with kind := .array 9 .int, interfaces := #[5, 6], accessFlags := 1041 }

def heap : Heap := #[]
def classes : Array Class := #[k0, k1, k2, k3, k4, k5, k6, k7, k8, k9, k10]
def interned : List (Array UInt16 × Addr) := []
def slotsUsed : Nat := 0
def theMethod : MethodId := ⟨1, 1⟩
def args0 : Array Value := #[.long 9, .long 9, .int 7]
def aboutOver (below : List Frame) : State where
  vm := { classes := classes, interned := interned.toArray }
  heap := heap
  slotsUsed := slotsUsed
  threads := #[{ frames := .invoking theMethod args0 :: below }]
def below0 : List Frame := [.native { method := ⟨0, 0⟩, args := #[] }]
def about1 : State := aboutOver below0
def p0 : Program := .bare "" "" ""
def e0 : Env := launch0.env 0 0 0
theorem w_frames : about1.frames = Frame.invoking theMethod args0 :: below0 := rfl
set_option maxRecDepth 65536 in
theorem w_args : argsFit about1.vm theMethod args0 = true := by decide +kernel
set_option maxRecDepth 65536 in
theorem w_heap : heapFits about1 = true := by decide +kernel
set_option maxRecDepth 65536 in
theorem w_runnable : about1.curStatus? = some .runnable := by decide +kernel
set_option maxRecDepth 65536 in
theorem w_alone : about1.alone = true := by decide +kernel
set_option maxRecDepth 65536 in
theorem w_named : about1.methodNamed? x = some theMethod := by decide +kernel
set_option maxRecDepth 65536 in
theorem w_hears : about1.hears theMethod below0 = true := by decide +kernel
set_option maxRecDepth 65536 in
theorem w_ripe : about1.ripe theMethod args0 below0 = true := by decide +kernel
theorem w_running : about1.status = .running := rfl
set_option maxRecDepth 65536 in
theorem w_room : about1.hasRoom e0.platform room_1 = true :=
  launch0.hasRoom_least _ room_1 (by decide +kernel) (by decide +kernel) (by decide +kernel) (by decide +kernel) (by decide +kernel) (by decide +kernel)
theorem allAtoms_all (ts : List Jvm.Cond) (a : Array Jvm.Value) (st : Jvm.State) : (allAtoms ts).before a st = ts.all (fun c => c.before a st) := by
  induction ts with
  | nil => rfl
  | cons c t ih =>
    show (Jvm.Cond.and c (allAtoms t)).before a st = _
    rw [Jvm.Cond.before_and, ih, List.all_cons]
def words1 : List Jvm.Cond := Jvm.Cond.code x code maxLocals ret :: tables_1
/-- a 'code' word, met by the world's own term for the bytes: nothing is compared byte by byte -/
theorem code_word {y : MethodName} {bytes : ByteArray} {mx : Nat} {rt : Option FieldType} {a : Array Value} {s : State} {m : MethodId} {meth : Method} {c : Code} (h1 : s.methodNamed? y = some m) (h2 : s.vm.method? m = some meth) (h3 : meth.code = some c) (h4 : c.code = bytes)
    (h5 : (c.maxLocals == mx && c.exceptionTable.isEmpty && decide (c.maxStack ≤ mostOperands) && decide (meth.sig.returnType = rt) && !meth.locks && decide (parseMethodDescriptor y.desc = some meth.sig)) = true) : (Jvm.Cond.code y bytes mx rt).before a s = true := by
  simp only [Bool.and_eq_true, beq_iff_eq, Bool.not_eq_true', decide_eq_true_eq] at h5
  obtain ⟨⟨⟨⟨⟨g1, g2⟩, g3⟩, g4⟩, g5⟩, g6⟩ := h5
  simp [Cond.before, Cond.holds, Cond.value, h1, h2, h3, h4, g1, g2, g3, g4, g5, g6]
def isCode : Jvm.Cond → Bool
  | .code _ _ _ _ => true
  | _ => false
theorem all_split {L : List Jvm.Cond} {P : Jvm.Cond → Bool} (h1 : L.all (fun c => isCode c || P c) = true) (h2 : ∀ c ∈ L.filter isCode, P c = true) : L.all P = true := by
  refine List.all_eq_true.mpr fun c hc => ?_
  have h := List.all_eq_true.mp h1 c hc
  rcases Bool.eq_false_or_eq_true (isCode c) with hi | hi
  · exact h2 c (List.mem_filter.mpr ⟨hc, hi⟩)
  · simpa [hi] using h
set_option maxRecDepth 65536 in
theorem w_c0 : (Jvm.Cond.code x code maxLocals ret).before args0 about1 = true := code_word (m := ⟨1, 1⟩) (meth := k1m1) (c := k1c1) (by decide +kernel) rfl rfl rfl (by decide +kernel)
set_option maxRecDepth 65536 in
theorem w_c1 : (Jvm.Cond.code ({ cls := "java/lang/Math", name := "min", desc := "(JJ)J" } : Jvm.MethodName) jdk_29_method_70_code (4 : Nat) (Option.some Jvm.ClassFile.FieldType.long)).before args0 about1 = true := code_word (m := ⟨2, 2⟩) (meth := k2m2) (c := k2c2) (by decide +kernel) rfl rfl rfl (by decide +kernel)
set_option maxRecDepth 65536 in
theorem w_c2 : (Jvm.Cond.code ({ cls := "java/lang/Math", name := "max", desc := "(JJ)J" } : Jvm.MethodName) jdk_29_method_66_code (4 : Nat) (Option.some Jvm.ClassFile.FieldType.long)).before args0 about1 = true := code_word (m := ⟨2, 1⟩) (meth := k2m1) (c := k2c1) (by decide +kernel) rfl rfl rfl (by decide +kernel)
set_option maxRecDepth 65536 in
theorem w_c3 : (Jvm.Cond.code ({ cls := "com/example/rangekeeper/rangekeeper/core/Range", name := "<init>", desc := "(JJ)V" } : Jvm.MethodName) prog_15_method_1_code (5 : Nat) (Option.none : Option Jvm.ClassFile.FieldType)).before args0 about1 = true := code_word (m := ⟨4, 0⟩) (meth := k4m0) (c := k4c0) (by decide +kernel) rfl rfl rfl (by decide +kernel)
set_option maxRecDepth 65536 in
theorem w_c4 : (Jvm.Cond.code ({ cls := "java/lang/Record", name := "<init>", desc := "()V" } : Jvm.MethodName) jdk_30_method_1_code (1 : Nat) (Option.none : Option Jvm.ClassFile.FieldType)).before args0 about1 = true := code_word (m := ⟨3, 0⟩) (meth := k3m0) (c := k3c0) (by decide +kernel) rfl rfl rfl (by decide +kernel)
set_option maxRecDepth 65536 in
theorem w_c5 : (Jvm.Cond.code ({ cls := "java/lang/Object", name := "<init>", desc := "()V" } : Jvm.MethodName) object_method_1_code (1 : Nat) (Option.none : Option Jvm.ClassFile.FieldType)).before args0 about1 = true := code_word (m := ⟨0, 0⟩) (meth := k0m0) (c := k0c0) (by decide +kernel) rfl rfl rfl (by decide +kernel)
set_option maxRecDepth 65536 in
theorem w_c6 : (Jvm.Cond.code ({ cls := "com/example/rangekeeper/rangekeeper/core/Range", name := "isUnbounded", desc := "()Z" } : Jvm.MethodName) prog_15_method_4_code (1 : Nat) (Option.some Jvm.ClassFile.FieldType.boolean)).before args0 about1 = true := code_word (m := ⟨4, 2⟩) (meth := k4m2) (c := k4c2) (by decide +kernel) rfl rfl rfl (by decide +kernel)
set_option maxRecDepth 65536 in
theorem w_c7 : (Jvm.Cond.code ({ cls := "com/example/rangekeeper/rangekeeper/core/Range", name := "unbounded", desc := "(J)Lcom/example/rangekeeper/rangekeeper/core/Range;" } : Jvm.MethodName) prog_15_method_2_code (2 : Nat) (Option.some (Jvm.ClassFile.FieldType.object "com/example/rangekeeper/rangekeeper/core/Range"))).before args0 about1 = true := code_word (m := ⟨4, 1⟩) (meth := k4m1) (c := k4c1) (by decide +kernel) rfl rfl rfl (by decide +kernel)
def codes1 : List Jvm.Cond := [Jvm.Cond.code x code maxLocals ret, Jvm.Cond.code ({ cls := "java/lang/Math", name := "min", desc := "(JJ)J" } : Jvm.MethodName) jdk_29_method_70_code (4 : Nat) (Option.some Jvm.ClassFile.FieldType.long), Jvm.Cond.code ({ cls := "java/lang/Math", name := "max", desc := "(JJ)J" } : Jvm.MethodName) jdk_29_method_66_code (4 : Nat) (Option.some Jvm.ClassFile.FieldType.long), Jvm.Cond.code ({ cls := "com/example/rangekeeper/rangekeeper/core/Range", name := "<init>", desc := "(JJ)V" } : Jvm.MethodName) prog_15_method_1_code (5 : Nat) (Option.none : Option Jvm.ClassFile.FieldType), Jvm.Cond.code ({ cls := "java/lang/Record", name := "<init>", desc := "()V" } : Jvm.MethodName) jdk_30_method_1_code (1 : Nat) (Option.none : Option Jvm.ClassFile.FieldType), Jvm.Cond.code ({ cls := "java/lang/Object", name := "<init>", desc := "()V" } : Jvm.MethodName) object_method_1_code (1 : Nat) (Option.none : Option Jvm.ClassFile.FieldType), Jvm.Cond.code ({ cls := "com/example/rangekeeper/rangekeeper/core/Range", name := "isUnbounded", desc := "()Z" } : Jvm.MethodName) prog_15_method_4_code (1 : Nat) (Option.some Jvm.ClassFile.FieldType.boolean), Jvm.Cond.code ({ cls := "com/example/rangekeeper/rangekeeper/core/Range", name := "unbounded", desc := "(J)Lcom/example/rangekeeper/rangekeeper/core/Range;" } : Jvm.MethodName) prog_15_method_2_code (2 : Nat) (Option.some (Jvm.ClassFile.FieldType.object "com/example/rangekeeper/rangekeeper/core/Range"))]
set_option maxRecDepth 65536 in
theorem codes_eq : words1.filter isCode = codes1 := rfl
theorem w_codes : ∀ c ∈ words1.filter isCode, c.before args0 about1 = true := by
  rw [codes_eq]
  intro c hc
  simp only [codes1, List.mem_cons, List.not_mem_nil, or_false] at hc
  rcases hc with rfl | rfl | rfl | rfl | rfl | rfl | rfl | rfl
  · exact w_c0
  · exact w_c1
  · exact w_c2
  · exact w_c3
  · exact w_c4
  · exact w_c5
  · exact w_c6
  · exact w_c7
set_option maxRecDepth 65536 in
theorem w_t1 : (words1.take 24).all (fun c => isCode c || c.before args0 about1) = true := by decide +kernel
set_option maxRecDepth 65536 in
theorem w_t2 : (words1.drop 24).all (fun c => isCode c || c.before args0 about1) = true := by decide +kernel
theorem w_tables : (allAtoms (Jvm.Cond.code x code maxLocals ret :: tables_1)).before args0 about1 = true := by
  rw [allAtoms_all]
  show words1.all (fun c => c.before args0 about1) = true
  refine all_split ?_ w_codes
  rw [← List.take_append_drop 24 words1, List.all_append, w_t1, w_t2]
  rfl
set_option maxRecDepth 65536 in
theorem w_case : (Jvm.Cond.and given_1 narrow_1).before args0 about1 = true := by decide +kernel
theorem w_applies : (headSpec (Jvm.Cond.code x code maxLocals ret :: tables_1) room_1).applies x e0.platform about1 = true :=
  (Spec.applies_iff w_frames).mpr ⟨w_running, w_runnable, w_alone, w_named, w_hears, w_ripe, w_room, w_tables⟩
theorem atStart : AtStart classFile x code maxLocals ret World_1 tables_1 room_1 Calls_1 rest_1 Pre_1 launch0 p0 e0 about1 theMethod args0 below0 :=
  ⟨lists_1, trivial, launch0.admits_env _ _ _, launch0.least_env, fairChoices_fair.cas, fairChoices_fair.clock, w_frames, w_args, w_heap, w_applies, trivial, trivial, w_case⟩
end start1
theorem witness_1 : WitnessClaimed_1 := ⟨start1.p0, start1.e0, start1.about1, start1.theMethod, start1.args0, start1.below0, start1.atStart⟩
end Jvm.Pilot.@@N@@
