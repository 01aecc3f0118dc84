import JvmDerived
import JvmDerived.Pilot.@@N@@Statement
import JvmDerived.Pilot.@@N@@Code
set_option linter.unusedVariables false
set_option linter.unusedSimpArgs false
namespace Jvm.RoadKit
open Sem ClassFile Op Lib Jvm.Stand Jvm.Free Jvm.LawKit
section New
variable {p : Program} {l : Launch} {e : Env} {R : Room} {s : State} {m : MethodId} {args : Array Value} {below : List Frame} {meth : Method} {c : Code} {T : State} {locs : List Loc} {cells slots : Nat}
theorem retI (X : Stand p l e R s m args below meth c T locs cells slots) (hx : p.tables.exec = Jvm.exec) {pc : Nat} {Ls : Array Slot} {z : Int32} {rest : List Value} (hret : meth.sig.returnType = some .int) (hd : decode c.code pc = .ok (.ireturn, 1)) {fs : List Frame}
    (hl : ∀ (f : JFrame) (acts : List Action), f.method = m → f.locked = none → f.entered = [] → (doReturn e (T.setTop f) acts (some (.int z))).1 = T.setFrames fs) : Steps p.tables e below (T.setTop (mkF m pc Ls (.int z :: rest))) (T.setFrames fs) := by
  have hm' : T.vm.method? m = some meth := X.method'
  have hn : narrow .int (.int z) = .int z := rfl
  show Steps p.tables e below (T.setTop { method := m, pc := pc, locals := Ls, stack := _ :: rest, locked := none }) _
  jvm_step X.here [X.here.top, hx, hd, hm', hret, hn]
  first | (intro acts; rw [hl _ acts rfl rfl rfl]) | rw [hl _ _ rfl rfl rfl]
  exact Steps.refl _
end New
end Jvm.RoadKit
namespace Jvm.Pilot.@@N@@
open Jvm Jvm.ClassFile Sem Op Lib Jvm.Free Jvm.Stand Jvm.LawKit Jvm.RoadKit Bundle Jvm.Pilot.@@N@@.Jvm.D
theorem d4_0 : decode jdk_29_method_70_code 0 = .ok (.lload_n 0, 1) := by decide +kernel
theorem d4_1 : decode jdk_29_method_70_code 1 = .ok (.lload_n 2, 1) := by decide +kernel
theorem d4_2 : decode jdk_29_method_70_code 2 = .ok (.lcmp, 1) := by decide +kernel
theorem d4_3 : decode jdk_29_method_70_code 3 = .ok (.ifCond .gt 7, 3) := by decide +kernel
theorem d4_10 : decode jdk_29_method_70_code 10 = .ok (.lload_n 2, 1) := by decide +kernel
theorem d4_6 : decode jdk_29_method_70_code 6 = .ok (.lload_n 0, 1) := by decide +kernel
theorem d4_7 : decode jdk_29_method_70_code 7 = .ok (.goto 4, 3) := by decide +kernel
theorem d4_11 : decode jdk_29_method_70_code 11 = .ok (.lreturn, 1) := by decide +kernel
theorem d5_0 : decode jdk_29_method_66_code 0 = .ok (.lload_n 0, 1) := by decide +kernel
theorem d5_1 : decode jdk_29_method_66_code 1 = .ok (.lload_n 2, 1) := by decide +kernel
theorem d5_2 : decode jdk_29_method_66_code 2 = .ok (.lcmp, 1) := by decide +kernel
theorem d5_3 : decode jdk_29_method_66_code 3 = .ok (.ifCond .lt 7, 3) := by decide +kernel
theorem d5_10 : decode jdk_29_method_66_code 10 = .ok (.lload_n 2, 1) := by decide +kernel
theorem d5_6 : decode jdk_29_method_66_code 6 = .ok (.lload_n 0, 1) := by decide +kernel
theorem d5_7 : decode jdk_29_method_66_code 7 = .ok (.goto 4, 3) := by decide +kernel
theorem d5_11 : decode jdk_29_method_66_code 11 = .ok (.lreturn, 1) := by decide +kernel
theorem d2_0 : decode jdk_30_method_1_code 0 = .ok (.aload_n 0, 1) := by decide +kernel
theorem d2_1 : decode jdk_30_method_1_code 1 = .ok (.invokespecial 1, 3) := by decide +kernel
theorem d2_4 : decode jdk_30_method_1_code 4 = .ok (.return_, 1) := by decide +kernel
theorem d1_0 : decode prog_15_method_1_code 0 = .ok (.aload_n 0, 1) := by decide +kernel
theorem d1_1 : decode prog_15_method_1_code 1 = .ok (.invokespecial 1, 3) := by decide +kernel
theorem pd0 : parseMethodDescriptor "()V" = some ⟨[], none⟩ := by decide +kernel
theorem d1_4 : decode prog_15_method_1_code 4 = .ok (.lload_n 1, 1) := by decide +kernel
theorem d1_5 : decode prog_15_method_1_code 5 = .ok (.lconst 0, 1) := by decide +kernel
theorem d1_6 : decode prog_15_method_1_code 6 = .ok (.lcmp, 1) := by decide +kernel
theorem d1_7 : decode prog_15_method_1_code 7 = .ok (.ifCond .ge 18, 3) := by decide +kernel
theorem d1_25 : decode prog_15_method_1_code 25 = .ok (.lload_n 1, 1) := by decide +kernel
theorem d1_26 : decode prog_15_method_1_code 26 = .ok (.lload_n 3, 1) := by decide +kernel
theorem d1_27 : decode prog_15_method_1_code 27 = .ok (.lcmp, 1) := by decide +kernel
theorem d1_28 : decode prog_15_method_1_code 28 = .ok (.ifCond .le 18, 3) := by decide +kernel
theorem d1_46 : decode prog_15_method_1_code 46 = .ok (.aload_n 0, 1) := by decide +kernel
theorem d1_47 : decode prog_15_method_1_code 47 = .ok (.lload_n 1, 1) := by decide +kernel
theorem d1_48 : decode prog_15_method_1_code 48 = .ok (.putfield 17, 3) := by decide +kernel
theorem d1_51 : decode prog_15_method_1_code 51 = .ok (.aload_n 0, 1) := by decide +kernel
theorem d1_52 : decode prog_15_method_1_code 52 = .ok (.lload_n 3, 1) := by decide +kernel
theorem d1_53 : decode prog_15_method_1_code 53 = .ok (.putfield 23, 3) := by decide +kernel
theorem d1_56 : decode prog_15_method_1_code 56 = .ok (.return_, 1) := by decide +kernel
theorem d6_0 : decode prog_15_method_6_code 0 = .ok (.aload_n 0, 1) := by decide +kernel
theorem d6_1 : decode prog_15_method_6_code 1 = .ok (.getfield 17, 3) := by decide +kernel
theorem d6_4 : decode prog_15_method_6_code 4 = .ok (.lload_n 1, 1) := by decide +kernel
theorem d6_5 : decode prog_15_method_6_code 5 = .ok (.lcmp, 1) := by decide +kernel
theorem d6_6 : decode prog_15_method_6_code 6 = .ok (.ifCond .gt 16, 3) := by decide +kernel
theorem d6_22 : decode prog_15_method_6_code 22 = .ok (.iconst 0, 1) := by decide +kernel
theorem d6_23 : decode prog_15_method_6_code 23 = .ok (.ireturn, 1) := by decide +kernel
theorem d6_9 : decode prog_15_method_6_code 9 = .ok (.lload_n 1, 1) := by decide +kernel
theorem d6_10 : decode prog_15_method_6_code 10 = .ok (.aload_n 0, 1) := by decide +kernel
theorem d6_11 : decode prog_15_method_6_code 11 = .ok (.getfield 23, 3) := by decide +kernel
theorem d6_14 : decode prog_15_method_6_code 14 = .ok (.lcmp, 1) := by decide +kernel
theorem d6_15 : decode prog_15_method_6_code 15 = .ok (.ifCond .ge 7, 3) := by decide +kernel
theorem d6_18 : decode prog_15_method_6_code 18 = .ok (.iconst 1, 1) := by decide +kernel
theorem d6_19 : decode prog_15_method_6_code 19 = .ok (.goto 4, 3) := by decide +kernel
theorem pd1 : parseMethodDescriptor "(JJ)J" = some ⟨[.long, .long], some .long⟩ := by decide +kernel
theorem pd2 : parseMethodDescriptor "(JJ)V" = some ⟨[.long, .long], none⟩ := by decide +kernel
theorem pd3 : parseMethodDescriptor "(J)Z" = some ⟨[.long], some .boolean⟩ := by decide +kernel
theorem pn0 : plainName "java/lang/Record" = true := by first | (simp [plainName, overriddenIn]; done) | decide +kernel
theorem pn1 : plainName "com/example/rangekeeper/rangekeeper/core/Range" = true := by first | (simp [plainName, overriddenIn]; done) | decide +kernel
theorem pn2 : plainName "com/example/rangekeeper/rangekeeper/core/RangeContainsPinLaw" = true := by first | (simp [plainName, overriddenIn]; done) | decide +kernel
def f4_m5 (q0 : Int64) (q1 : Int64) : Int64 := (if q1 < q0 then q1 else q0)
def F4 (q0 : Int64) (q1 : Int64) : Int64 := (f4_m5 q0 q1)
theorem ef4 (m : MethodId) (x0 : Int64) (x1 : Int64) : entryFrame m #[(.long x0), (.long x1)] 4 = mkF m 0 #[.val (.long x0), .second, .val (.long x1), .second] [] := by first | (simp [entryFrame, mkF, argsToLocals, Value.category]; done) | rfl
def Q4 (Z : State) (q0 : Int64) (q1 : Int64) (h0 : Heap) (n0 : Nat) (v : Option Value) (h : Heap) (L : List Loc) : Prop := v = some (.long (F4 q0 q1)) ∧ Fr n0 L ∧ h = h0
set_option maxRecDepth 65536 in
set_option maxHeartbeats 40000000 in
theorem rm4 (l : Launch) (Z : State) (a0' : Array Value) (hw : ∀ d ∈ tables_1, d.before a0' Z = true) (ws : List Jvm.Cond) (q0 : Int64) (q1 : Int64) (h0 : Heap) (n0 : Nat) (Z0 : n0 ≤ h0.size) :
    MetFree l (⟨"java/lang/Math", "min", "(JJ)J"⟩ : MethodName) (head1 (Jvm.Cond.code (⟨"java/lang/Math", "min", "(JJ)J"⟩ : MethodName) jdk_29_method_70_code 4 (some .long) :: ws) ({ frames := 0, cells := 0, slots := 0, locals := 0 } : Room)) (fun a U => a = #[(.long q0), (.long q1)] ∧ Z.Warmed39 U.vm ∧ U.heap = h0) (fun _ _ _ _ _ => True) (fun _ U o U' => ∃ v L, o = .returned v ∧ Q4 Z q0 q1 h0 n0 v U'.heap L ∧ FrameEnd U o U' L ({ frames := 0, cells := 0, slots := 0, locals := 0 } : Room).cells ({ frames := 0, cells := 0, slots := 0, locals := 0 } : Room).slots) := by
  refine MetFree.of_bodySF (Jvm.Free.JP.mathPlain rfl (by decide +kernel)) hisR ?_
  intro p e s m args below meth c s₁ Bd hml0 hP hK
  obtain ⟨rfl, hZ, hh⟩ := hP
  have hx := Bd.exec
  have hby := Bd.bytes
  have hml : c.maxLocals = 4 := hml0
  have hown : s.vm.findClass "java/lang/Math" = some m.cls := findClass_of_methodNamed Bd.named
  have hnm := (name_of_methodNamed Bd.named Bd.method).1
  have X0 : Stand p l e ({ frames := 0, cells := 0, slots := 0, locals := 0 } : Room) s m #[(.long q0), (.long q1)] below meth c s₁ [] 0 0 := Stand.of_body Bd
  have e0 : s₁.heap = h0 := by rw [← hh, Bd.state]; rfl
  have N0 := Fr.nil n0
  have hlk : meth.locks = false := by first | exact BodyLoose.notSynchronized Bd | exact Body.notSynchronized Bd
  have pre0 : ∀ t, Steps p.tables e below (s₁.setTop (mkF m 0 #[.val (.long q0), .second, .val (.long q1), .second] [])) t → Steps p.tables e below (s₁.setTop (entryFrame m #[(.long q0), (.long q1)] 4)) t := fun t k => castTop (ef4 m q0 q1) k
  have pre1 : ∀ t, Steps p.tables e below (s₁.setTop (mkF m 3 #[.val (.long q0), .second, .val (.long q1), .second] [(.int (lcmpW q0 q1))])) t → Steps p.tables e below (s₁.setTop (entryFrame m #[(.long q0), (.long q1)] 4)) t := fun t k => pre0 t (by
    show Steps p.tables e below (s₁.setTop (mkF m 0 #[.val (.long q0), .second, .val (.long q1), .second] [])) _
    refine XS.lloadN X0.here hx rfl (hb hby d4_0) rfl ?_
    show Steps p.tables e below (s₁.setTop (mkF m 1 #[.val (.long q0), .second, .val (.long q1), .second] [(.long q0)])) _
    refine XS.lloadN X0.here hx rfl (hb hby d4_1) rfl ?_
    show Steps p.tables e below (s₁.setTop (mkF m 2 #[.val (.long q0), .second, .val (.long q1), .second] [(.long q1), (.long q0)])) _
    refine XS.lcmp X0.here hx rfl (hb hby d4_2) rfl ?_
    exact k)
  obtain ⟨T2, L2, X2, e2, N2, pre2⟩ : ∃ (T' : State) (locs' : List Loc), Stand p l e ({ frames := 0, cells := 0, slots := 0, locals := 0 } : Room) s m #[(.long q0), (.long q1)] below meth c T' locs' 0 0 ∧ T'.heap = h0 ∧ Fr n0 locs' ∧ ∀ t, Steps p.tables e below (T'.setTop (mkF m 11 #[.val (.long q0), .second, .val (.long q1), .second] [(.long (f4_m5 q0 q1))])) t → Steps p.tables e below (s₁.setTop (entryFrame m #[(.long q0), (.long q1)] 4)) t := by
    by_cases hc3_2 : q1 < q0
    · have pre3 : ∀ t, Steps p.tables e below (s₁.setTop (mkF m 11 #[.val (.long q0), .second, .val (.long q1), .second] [(.long q1)])) t → Steps p.tables e below (s₁.setTop (entryFrame m #[(.long q0), (.long q1)] 4)) t := fun t k => pre1 t (by
        show Steps p.tables e below (s₁.setTop (mkF m 3 #[.val (.long q0), .second, .val (.long q1), .second] [(.int (lcmpW q0 q1))])) _
        refine XS.ifYes X0.here hx rfl (pc0 := 3) (pc' := 10) rfl (hb hby d4_3) rfl ((if0 _ _).trans (tlt ((lw_gt q0 q1).mpr hc3_2)).2.2.1) (by decide) (by decide) ?_
        show Steps p.tables e below (s₁.setTop (mkF m 10 #[.val (.long q0), .second, .val (.long q1), .second] [])) _
        refine XS.lloadN X0.here hx rfl (hb hby d4_10) rfl ?_
        exact k)
      have q_f4_m5 : f4_m5 q0 q1 = q1 := by unfold f4_m5; rw [if_pos hc3_2]
      rw [q_f4_m5]
      exact ⟨s₁, _, X0, e0, N0, pre3⟩
    have pre4 : ∀ t, Steps p.tables e below (s₁.setTop (mkF m 11 #[.val (.long q0), .second, .val (.long q1), .second] [(.long q0)])) t → Steps p.tables e below (s₁.setTop (entryFrame m #[(.long q0), (.long q1)] 4)) t := fun t k => pre1 t (by
      show Steps p.tables e below (s₁.setTop (mkF m 3 #[.val (.long q0), .second, .val (.long q1), .second] [(.int (lcmpW q0 q1))])) _
      refine XS.ifNo X0.here hx rfl (hb hby d4_3) rfl ((if0 _ _).trans (flt (mt (lw_gt q0 q1).mp hc3_2)).2.2.1) ?_
      show Steps p.tables e below (s₁.setTop (mkF m 6 #[.val (.long q0), .second, .val (.long q1), .second] [])) _
      refine XS.lloadN X0.here hx rfl (hb hby d4_6) rfl ?_
      show Steps p.tables e below (s₁.setTop (mkF m 7 #[.val (.long q0), .second, .val (.long q1), .second] [(.long q0)])) _
      refine XS.goto X0.here hx rfl (pc0 := 7) (pc' := 11) rfl (hb hby d4_7) (by decide) (by decide) ?_
      exact k)
    have q_f4_m5 : f4_m5 q0 q1 = q0 := by unfold f4_m5; rw [if_neg hc3_2]
    rw [q_f4_m5]
    exact ⟨s₁, _, X0, e0, N0, pre4⟩
  obtain ⟨fs, hr, hrun, hended, hW, hsame⟩ := X2.leave (v := some (.long (f4_m5 q0 q1))) (fun h => by rw [Bd.returns] at h; cases h) hlk
  have hF : (F4 q0 q1) = (f4_m5 q0 q1) := by rfl
  exact ⟨_, _, pre2 _ (X2.lreturnOut hx Bd.returns (hb hby d4_11) hr), hrun, hended, _, _, rfl, ⟨by rw [hF], N2, e2⟩, ⟨_, rfl⟩, hW, hsame.mono (by decide) (by decide)⟩
def f5_m5 (q0 : Int64) (q1 : Int64) : Int64 := (if q0 < q1 then q1 else q0)
def F5 (q0 : Int64) (q1 : Int64) : Int64 := (f5_m5 q0 q1)
theorem ef5 (m : MethodId) (x0 : Int64) (x1 : Int64) : entryFrame m #[(.long x0), (.long x1)] 4 = mkF m 0 #[.val (.long x0), .second, .val (.long x1), .second] [] := by first | (simp [entryFrame, mkF, argsToLocals, Value.category]; done) | rfl
def Q5 (Z : State) (q0 : Int64) (q1 : Int64) (h0 : Heap) (n0 : Nat) (v : Option Value) (h : Heap) (L : List Loc) : Prop := v = some (.long (F5 q0 q1)) ∧ Fr n0 L ∧ h = h0
set_option maxRecDepth 65536 in
set_option maxHeartbeats 40000000 in
theorem rm5 (l : Launch) (Z : State) (a0' : Array Value) (hw : ∀ d ∈ tables_1, d.before a0' Z = true) (ws : List Jvm.Cond) (q0 : Int64) (q1 : Int64) (h0 : Heap) (n0 : Nat) (Z0 : n0 ≤ h0.size) :
    MetFree l (⟨"java/lang/Math", "max", "(JJ)J"⟩ : MethodName) (head1 (Jvm.Cond.code (⟨"java/lang/Math", "max", "(JJ)J"⟩ : MethodName) jdk_29_method_66_code 4 (some .long) :: ws) ({ frames := 0, cells := 0, slots := 0, locals := 0 } : Room)) (fun a U => a = #[(.long q0), (.long q1)] ∧ Z.Warmed39 U.vm ∧ U.heap = h0) (fun _ _ _ _ _ => True) (fun _ U o U' => ∃ v L, o = .returned v ∧ Q5 Z q0 q1 h0 n0 v U'.heap L ∧ FrameEnd U o U' L ({ frames := 0, cells := 0, slots := 0, locals := 0 } : Room).cells ({ frames := 0, cells := 0, slots := 0, locals := 0 } : Room).slots) := by
  refine MetFree.of_bodySF (Jvm.Free.JP.mathPlain rfl (by decide +kernel)) hisR ?_
  intro p e s m args below meth c s₁ Bd hml0 hP hK
  obtain ⟨rfl, hZ, hh⟩ := hP
  have hx := Bd.exec
  have hby := Bd.bytes
  have hml : c.maxLocals = 4 := hml0
  have hown : s.vm.findClass "java/lang/Math" = some m.cls := findClass_of_methodNamed Bd.named
  have hnm := (name_of_methodNamed Bd.named Bd.method).1
  have X0 : Stand p l e ({ frames := 0, cells := 0, slots := 0, locals := 0 } : Room) s m #[(.long q0), (.long q1)] below meth c s₁ [] 0 0 := Stand.of_body Bd
  have e0 : s₁.heap = h0 := by rw [← hh, Bd.state]; rfl
  have N0 := Fr.nil n0
  have hlk : meth.locks = false := by first | exact BodyLoose.notSynchronized Bd | exact Body.notSynchronized Bd
  have pre0 : ∀ t, Steps p.tables e below (s₁.setTop (mkF m 0 #[.val (.long q0), .second, .val (.long q1), .second] [])) t → Steps p.tables e below (s₁.setTop (entryFrame m #[(.long q0), (.long q1)] 4)) t := fun t k => castTop (ef5 m q0 q1) k
  have pre1 : ∀ t, Steps p.tables e below (s₁.setTop (mkF m 3 #[.val (.long q0), .second, .val (.long q1), .second] [(.int (lcmpW q0 q1))])) t → Steps p.tables e below (s₁.setTop (entryFrame m #[(.long q0), (.long q1)] 4)) t := fun t k => pre0 t (by
    show Steps p.tables e below (s₁.setTop (mkF m 0 #[.val (.long q0), .second, .val (.long q1), .second] [])) _
    refine XS.lloadN X0.here hx rfl (hb hby d5_0) rfl ?_
    show Steps p.tables e below (s₁.setTop (mkF m 1 #[.val (.long q0), .second, .val (.long q1), .second] [(.long q0)])) _
    refine XS.lloadN X0.here hx rfl (hb hby d5_1) rfl ?_
    show Steps p.tables e below (s₁.setTop (mkF m 2 #[.val (.long q0), .second, .val (.long q1), .second] [(.long q1), (.long q0)])) _
    refine XS.lcmp X0.here hx rfl (hb hby d5_2) rfl ?_
    exact k)
  obtain ⟨T2, L2, X2, e2, N2, pre2⟩ : ∃ (T' : State) (locs' : List Loc), Stand p l e ({ frames := 0, cells := 0, slots := 0, locals := 0 } : Room) s m #[(.long q0), (.long q1)] below meth c T' locs' 0 0 ∧ T'.heap = h0 ∧ Fr n0 locs' ∧ ∀ t, Steps p.tables e below (T'.setTop (mkF m 11 #[.val (.long q0), .second, .val (.long q1), .second] [(.long (f5_m5 q0 q1))])) t → Steps p.tables e below (s₁.setTop (entryFrame m #[(.long q0), (.long q1)] 4)) t := by
    by_cases hc3_2 : q0 < q1
    · have pre3 : ∀ t, Steps p.tables e below (s₁.setTop (mkF m 11 #[.val (.long q0), .second, .val (.long q1), .second] [(.long q1)])) t → Steps p.tables e below (s₁.setTop (entryFrame m #[(.long q0), (.long q1)] 4)) t := fun t k => pre1 t (by
        show Steps p.tables e below (s₁.setTop (mkF m 3 #[.val (.long q0), .second, .val (.long q1), .second] [(.int (lcmpW q0 q1))])) _
        refine XS.ifYes X0.here hx rfl (pc0 := 3) (pc' := 10) rfl (hb hby d5_3) rfl ((if0 _ _).trans (tlt ((lw_lt q0 q1).mpr hc3_2)).1) (by decide) (by decide) ?_
        show Steps p.tables e below (s₁.setTop (mkF m 10 #[.val (.long q0), .second, .val (.long q1), .second] [])) _
        refine XS.lloadN X0.here hx rfl (hb hby d5_10) rfl ?_
        exact k)
      have q_f5_m5 : f5_m5 q0 q1 = q1 := by unfold f5_m5; rw [if_pos hc3_2]
      rw [q_f5_m5]
      exact ⟨s₁, _, X0, e0, N0, pre3⟩
    have pre4 : ∀ t, Steps p.tables e below (s₁.setTop (mkF m 11 #[.val (.long q0), .second, .val (.long q1), .second] [(.long q0)])) t → Steps p.tables e below (s₁.setTop (entryFrame m #[(.long q0), (.long q1)] 4)) t := fun t k => pre1 t (by
      show Steps p.tables e below (s₁.setTop (mkF m 3 #[.val (.long q0), .second, .val (.long q1), .second] [(.int (lcmpW q0 q1))])) _
      refine XS.ifNo X0.here hx rfl (hb hby d5_3) rfl ((if0 _ _).trans (flt (mt (lw_lt q0 q1).mp hc3_2)).1) ?_
      show Steps p.tables e below (s₁.setTop (mkF m 6 #[.val (.long q0), .second, .val (.long q1), .second] [])) _
      refine XS.lloadN X0.here hx rfl (hb hby d5_6) rfl ?_
      show Steps p.tables e below (s₁.setTop (mkF m 7 #[.val (.long q0), .second, .val (.long q1), .second] [(.long q0)])) _
      refine XS.goto X0.here hx rfl (pc0 := 7) (pc' := 11) rfl (hb hby d5_7) (by decide) (by decide) ?_
      exact k)
    have q_f5_m5 : f5_m5 q0 q1 = q0 := by unfold f5_m5; rw [if_neg hc3_2]
    rw [q_f5_m5]
    exact ⟨s₁, _, X0, e0, N0, pre4⟩
  obtain ⟨fs, hr, hrun, hended, hW, hsame⟩ := X2.leave (v := some (.long (f5_m5 q0 q1))) (fun h => by rw [Bd.returns] at h; cases h) hlk
  have hF : (F5 q0 q1) = (f5_m5 q0 q1) := by rfl
  exact ⟨_, _, pre2 _ (X2.lreturnOut hx Bd.returns (hb hby d5_11) hr), hrun, hended, _, _, rfl, ⟨by rw [hF], N2, e2⟩, ⟨_, rfl⟩, hW, hsame.mono (by decide) (by decide)⟩
theorem ef2 (m : MethodId) (x0 : Addr) : entryFrame m #[(.ref x0)] 1 = mkF m 0 #[.val (.ref x0)] [] := by first | (simp [entryFrame, mkF, argsToLocals, Value.category]; done) | rfl
def Q2 (Z : State) (a0 : Addr) (h0 : Heap) (n0 : Nat) (v : Option Value) (h : Heap) (L : List Loc) : Prop := v = none ∧ Fr n0 L ∧ h = h0
set_option maxRecDepth 65536 in
set_option maxHeartbeats 40000000 in
theorem rm2 (l : Launch) (Z : State) (a0' : Array Value) (hw : ∀ d ∈ tables_1, d.before a0' Z = true) (ws : List Jvm.Cond) (a0 : Addr) (h0 : Heap) (n0 : Nat) (Z0 : n0 ≤ h0.size) :
    MetFree l (⟨"java/lang/Record", "<init>", "()V"⟩ : MethodName) (head1 (Jvm.Cond.code (⟨"java/lang/Record", "<init>", "()V"⟩ : MethodName) jdk_30_method_1_code 1 none :: ws) ({ frames := 1, cells := 0, slots := 0, locals := 12 } : Room)) (fun a U => a = #[(.ref a0)] ∧ Z.Warmed39 U.vm ∧ U.heap = h0) (fun _ _ _ _ _ => True) (fun _ U o U' => ∃ v L, o = .returned v ∧ Q2 Z a0 h0 n0 v U'.heap L ∧ FrameEnd U o U' L ({ frames := 1, cells := 0, slots := 0, locals := 12 } : Room).cells ({ frames := 1, cells := 0, slots := 0, locals := 12 } : Room).slots) := by
  refine MetFree.of_bodySF (plainFor_of_name pn0) hisR ?_
  intro p e s m args below meth c s₁ Bd hml0 hP hK
  obtain ⟨rfl, hZ, hh⟩ := hP
  have hx := Bd.exec
  have hby := Bd.bytes
  have hml : c.maxLocals = 1 := hml0
  have hown : s.vm.findClass "java/lang/Record" = some m.cls := findClass_of_methodNamed Bd.named
  have hnm := (name_of_methodNamed Bd.named Bd.method).1
  have X0 : Stand p l e ({ frames := 1, cells := 0, slots := 0, locals := 12 } : Room) s m #[(.ref a0)] below meth c s₁ [] 0 0 := Stand.of_body Bd
  have e0 : s₁.heap = h0 := by rw [← hh, Bd.state]; rfl
  have N0 := Fr.nil n0
  have hlk : meth.locks = false := by first | exact BodyLoose.notSynchronized Bd | exact Body.notSynchronized Bd
  have pre0 : ∀ t, Steps p.tables e below (s₁.setTop (mkF m 0 #[.val (.ref a0)] [])) t → Steps p.tables e below (s₁.setTop (entryFrame m #[(.ref a0)] 1)) t := fun t k => castTop (ef2 m a0) k
  obtain ⟨T1, X1, e1, st1⟩ := initO X0 hx hZ hown (hw _ (List.mem_of_getElem? (i := 12) rfl)) (hw _ (List.mem_of_getElem? (i := 13) rfl)) (hw _ (List.mem_of_getElem? (i := 14) rfl)) e0 (g := (mkF m 1 #[.val (.ref a0)] [(.ref a0)])) rfl (by rw [hml]; rfl) rfl (hb hby d2_1) (by decide) (W := 0) (by show 2 * 0 + _ ≤ _; exact Nat.le_of_eq rfl) (by decide)
  have pre2 : ∀ t, Steps p.tables e below (T1.setTop (mkF m 4 #[.val (.ref a0)] [])) t → Steps p.tables e below (s₁.setTop (entryFrame m #[(.ref a0)] 1)) t := fun t k => pre0 t (by
    show Steps p.tables e below (s₁.setTop (mkF m 0 #[.val (.ref a0)] [])) _
    refine XS.aloadN X0.here hx rfl (hb hby d2_0) rfl rfl ?_
    show Steps p.tables e below (s₁.setTop (mkF m 1 #[.val (.ref a0)] [(.ref a0)])) _
    refine st1 _ ?_
    exact k)
  obtain ⟨fs, hr, hrun, hended, hW, hsame⟩ := X1.leave (v := none) (fun _ => rfl) hlk
  exact ⟨_, _, pre2 _ (X1.returnOut hx Bd.returns (hb hby d2_4) hr), hrun, hended, _, _, rfl, ⟨rfl, N0, e1⟩, ⟨_, rfl⟩, hW, hsame.mono (by decide) (by decide)⟩
theorem ef1 (m : MethodId) (x0 : Addr) (x1 : Int64) (x2 : Int64) : entryFrame m #[(.ref x0), (.long x1), (.long x2)] 5 = mkF m 0 #[.val (.ref x0), .val (.long x1), .second, .val (.long x2), .second] [] := by first | (simp [entryFrame, mkF, argsToLocals, Value.category]; done) | rfl
def Q1 (Z : State) (a0 : Addr) (q1 : Int64) (q2 : Int64) (wa0_start : Int64) (wa0_stop : Int64) (h0 : Heap) (n0 : Nat) (v : Option Value) (h : Heap) (L : List Loc) : Prop := v = none ∧ Fr n0 L ∧ Keep h0 h [a0] ∧ Exa Z h a0 "com/example/rangekeeper/rangekeeper/core/Range" ∧ Fld Z h a0 "com/example/rangekeeper/rangekeeper/core/Range" "start" "J" (.long q1) ∧ Fld Z h a0 "com/example/rangekeeper/rangekeeper/core/Range" "stop" "J" (.long q2)
set_option maxRecDepth 65536 in
set_option maxHeartbeats 40000000 in
theorem rm1 (l : Launch) (Z : State) (a0' : Array Value) (hw : ∀ d ∈ tables_1, d.before a0' Z = true) (ws : List Jvm.Cond) (a0 : Addr) (q1 : Int64) (q2 : Int64) (wa0_start : Int64) (wa0_stop : Int64) (h0 : Heap) (n0 : Nat) (Z0 : n0 ≤ h0.size) (E_a0 : Exa Z h0 a0 "com/example/rangekeeper/rangekeeper/core/Range") (F_wa0_start : Fld Z h0 a0 "com/example/rangekeeper/rangekeeper/core/Range" "start" "J" (.long wa0_start)) (F_wa0_stop : Fld Z h0 a0 "com/example/rangekeeper/rangekeeper/core/Range" "stop" "J" (.long wa0_stop)) (g_a0 : n0 ≤ a0) (hc7 : ¬ (q1 < (0 : Int64))) (hc28 : ¬ (q2 < q1)) :
    MetFree l (⟨"com/example/rangekeeper/rangekeeper/core/Range", "<init>", "(JJ)V"⟩ : MethodName) (head1 (Jvm.Cond.code (⟨"com/example/rangekeeper/rangekeeper/core/Range", "<init>", "(JJ)V"⟩ : MethodName) prog_15_method_1_code 5 none :: ws) ({ frames := 2, cells := 0, slots := 0, locals := 24 } : Room)) (fun a U => a = #[(.ref a0), (.long q1), (.long q2)] ∧ Z.Warmed39 U.vm ∧ U.heap = h0) (fun _ _ _ _ _ => True) (fun _ U o U' => ∃ v L, o = .returned v ∧ Q1 Z a0 q1 q2 wa0_start wa0_stop h0 n0 v U'.heap L ∧ FrameEnd U o U' L ({ frames := 2, cells := 0, slots := 0, locals := 24 } : Room).cells ({ frames := 2, cells := 0, slots := 0, locals := 24 } : Room).slots) := by
  refine MetFree.of_bodySF (plainFor_of_name pn1) hisR ?_
  intro p e s m args below meth c s₁ Bd hml0 hP hK
  obtain ⟨rfl, hZ, hh⟩ := hP
  have hx := Bd.exec
  have hby := Bd.bytes
  have hml : c.maxLocals = 5 := hml0
  have hown : s.vm.findClass "com/example/rangekeeper/rangekeeper/core/Range" = some m.cls := findClass_of_methodNamed Bd.named
  have hnm := (name_of_methodNamed Bd.named Bd.method).1
  have X0 : Stand p l e ({ frames := 2, cells := 0, slots := 0, locals := 24 } : Room) s m #[(.ref a0), (.long q1), (.long q2)] below meth c s₁ [] 0 0 := Stand.of_body Bd
  have e0 : s₁.heap = h0 := by rw [← hh, Bd.state]; rfl
  have N0 := Fr.nil n0
  have hlk : meth.locks = false := by first | exact BodyLoose.notSynchronized Bd | exact Body.notSynchronized Bd
  have pre0 : ∀ t, Steps p.tables e below (s₁.setTop (mkF m 0 #[.val (.ref a0), .val (.long q1), .second, .val (.long q2), .second] [])) t → Steps p.tables e below (s₁.setTop (entryFrame m #[(.ref a0), (.long q1), (.long q2)] 5)) t := fun t k => castTop (ef1 m a0 q1 q2) k
  obtain ⟨_, _, ⟨T1, L1, k1, n1⟩, -, X1, ⟨Lc1, hQ1, l1, y1, z1⟩, st1⟩ := X0.specialBack hx (y := (⟨"java/lang/Record", "<init>", "()V"⟩ : MethodName)) rfl hown (mvT hZ (hw _ (List.mem_of_getElem? (i := 7) rfl))) (mvT hZ (hw _ (List.mem_of_getElem? (i := 8) rfl))) (mvT hZ (hw _ (List.mem_of_getElem? (i := 11) rfl))) (by decide) (backOf (W := 0) (rm2 l Z a0' hw [] a0 h0 n0 Z0) hZ (hw _ (List.mem_of_getElem? (i := 11) rfl)) (hw _ (List.mem_of_getElem? (i := 10) rfl)) (by decide) (by decide)) (g := (mkF m 1 #[.val (.ref a0), .val (.long q1), .second, .val (.long q2), .second] [(.ref a0)])) rfl (by rw [hml]; rfl) (Steps.refl _) (a := a0) (argsL := []) (rest := []) (lenOf pd0 rfl) rfl (by show 2 * 0 + _ ≤ _; exact Nat.le_of_eq rfl) (hb hby d1_1) (fun _ _ => ⟨rfl, e0, (by decide : 0 + 0 ≤ _), (by decide : 0 + 0 ≤ _)⟩)
  dsimp only [Pt.U, Pt.locs, Pt.cells, Pt.slots] at X1 l1 y1 z1 st1 hQ1
  subst l1 y1 z1
  obtain ⟨rfl, N1q, e1⟩ := hQ1
  have N1 := Fr.app N0 N1q
  obtain ⟨T2, h2, X2, e2, W2, st2⟩ := putF X1 hx hZ hown (host := "") (Or.inl (hw _ (List.mem_of_getElem? (i := 15) rfl))) Via.refl e1 F_wa0_start E_a0 (Or.inr ⟨(hw _ (List.mem_of_getElem? (i := 16) rfl)), rfl, hnm⟩) (hw _ (List.mem_of_getElem? (i := 2) rfl)) (ty := .long) (by decide) rfl rfl (g := (mkF m 48 #[.val (.ref a0), .val (.long q1), .second, .val (.long q2), .second] [(.long q1), (.ref a0)])) rfl rfl (hb hby d1_48)
  have Z2 : n0 ≤ h2.size := Nat.le_trans Z0 (Keep.of_wr W2).1
  have N2 := Fr.snoc X2 N1 g_a0
  have KC2 : Keep h0 h2 [a0] := (Keep.refl h0 [a0]).wr W2 (Or.inl (List.mem_of_getElem? (i := 0) rfl))
  have Fw2 := F_wa0_start.same W2
  have y3 := (E_a0.wr W2)
  have y4 := (F_wa0_stop.other W2 (Or.inr (slot_ne (Or.inr (hw _ (List.mem_of_getElem? (i := 18) rfl))) (Or.inr (hw _ (List.mem_of_getElem? (i := 16) rfl))) (by decide) (t := .long) (t' := .long) (by decide) (by decide))))
  obtain ⟨T5, h5, X5, e5, W5, st5⟩ := putF X2 hx hZ hown (host := "") (Or.inl (hw _ (List.mem_of_getElem? (i := 17) rfl))) Via.refl e2 y4 y3 (Or.inr ⟨(hw _ (List.mem_of_getElem? (i := 18) rfl)), rfl, hnm⟩) (hw _ (List.mem_of_getElem? (i := 2) rfl)) (ty := .long) (by decide) rfl rfl (g := (mkF m 53 #[.val (.ref a0), .val (.long q1), .second, .val (.long q2), .second] [(.long q2), (.ref a0)])) rfl rfl (hb hby d1_53)
  have Z5 : n0 ≤ h5.size := Nat.le_trans Z2 (Keep.of_wr W5).1
  have N5 := Fr.snoc X5 N2 g_a0
  have KC5 : Keep h0 h5 [a0] := KC2.wr W5 (Or.inl (List.mem_of_getElem? (i := 0) rfl))
  have Fw5 := y4.same W5
  have pre6 : ∀ t, Steps p.tables e below (T5.setTop (mkF m 56 #[.val (.ref a0), .val (.long q1), .second, .val (.long q2), .second] [])) t → Steps p.tables e below (s₁.setTop (entryFrame m #[(.ref a0), (.long q1), (.long q2)] 5)) t := fun t k => pre0 t (by
    show Steps p.tables e below (s₁.setTop (mkF m 0 #[.val (.ref a0), .val (.long q1), .second, .val (.long q2), .second] [])) _
    refine XS.aloadN X0.here hx rfl (hb hby d1_0) rfl rfl ?_
    show Steps p.tables e below (s₁.setTop (mkF m 1 #[.val (.ref a0), .val (.long q1), .second, .val (.long q2), .second] [(.ref a0)])) _
    refine st1.trans ?_
    show Steps p.tables e below (T1.setTop (mkF m 4 #[.val (.ref a0), .val (.long q1), .second, .val (.long q2), .second] [])) _
    refine XS.lloadN X1.here hx rfl (hb hby d1_4) rfl ?_
    show Steps p.tables e below (T1.setTop (mkF m 5 #[.val (.ref a0), .val (.long q1), .second, .val (.long q2), .second] [(.long q1)])) _
    refine XS.lconst X1.here hx rfl (hb hby d1_5) ?_
    show Steps p.tables e below (T1.setTop (mkF m 6 #[.val (.ref a0), .val (.long q1), .second, .val (.long q2), .second] [(.long (0 : Int64)), (.long q1)])) _
    refine XS.lcmp X1.here hx rfl (hb hby d1_6) rfl ?_
    show Steps p.tables e below (T1.setTop (mkF m 7 #[.val (.ref a0), .val (.long q1), .second, .val (.long q2), .second] [(.int (lcmpW q1 (0 : Int64)))])) _
    refine XS.ifYes X1.here hx rfl (pc0 := 7) (pc' := 25) rfl (hb hby d1_7) rfl ((if0 _ _).trans (flt (mt (lw_lt q1 (0 : Int64)).mp hc7)).2.1) (by decide) (by decide) ?_
    show Steps p.tables e below (T1.setTop (mkF m 25 #[.val (.ref a0), .val (.long q1), .second, .val (.long q2), .second] [])) _
    refine XS.lloadN X1.here hx rfl (hb hby d1_25) rfl ?_
    show Steps p.tables e below (T1.setTop (mkF m 26 #[.val (.ref a0), .val (.long q1), .second, .val (.long q2), .second] [(.long q1)])) _
    refine XS.lloadN X1.here hx rfl (hb hby d1_26) rfl ?_
    show Steps p.tables e below (T1.setTop (mkF m 27 #[.val (.ref a0), .val (.long q1), .second, .val (.long q2), .second] [(.long q2), (.long q1)])) _
    refine XS.lcmp X1.here hx rfl (hb hby d1_27) rfl ?_
    show Steps p.tables e below (T1.setTop (mkF m 28 #[.val (.ref a0), .val (.long q1), .second, .val (.long q2), .second] [(.int (lcmpW q1 q2))])) _
    refine XS.ifYes X1.here hx rfl (pc0 := 28) (pc' := 46) rfl (hb hby d1_28) rfl ((if0 _ _).trans (flt (mt (lw_gt q1 q2).mp hc28)).2.2.2) (by decide) (by decide) ?_
    show Steps p.tables e below (T1.setTop (mkF m 46 #[.val (.ref a0), .val (.long q1), .second, .val (.long q2), .second] [])) _
    refine XS.aloadN X1.here hx rfl (hb hby d1_46) rfl rfl ?_
    show Steps p.tables e below (T1.setTop (mkF m 47 #[.val (.ref a0), .val (.long q1), .second, .val (.long q2), .second] [(.ref a0)])) _
    refine XS.lloadN X1.here hx rfl (hb hby d1_47) rfl ?_
    show Steps p.tables e below (T1.setTop (mkF m 48 #[.val (.ref a0), .val (.long q1), .second, .val (.long q2), .second] [(.long q1), (.ref a0)])) _
    refine st2 _ ?_
    show Steps p.tables e below (T2.setTop (mkF m 51 #[.val (.ref a0), .val (.long q1), .second, .val (.long q2), .second] [])) _
    refine XS.aloadN X2.here hx rfl (hb hby d1_51) rfl rfl ?_
    show Steps p.tables e below (T2.setTop (mkF m 52 #[.val (.ref a0), .val (.long q1), .second, .val (.long q2), .second] [(.ref a0)])) _
    refine XS.lloadN X2.here hx rfl (hb hby d1_52) rfl ?_
    show Steps p.tables e below (T2.setTop (mkF m 53 #[.val (.ref a0), .val (.long q1), .second, .val (.long q2), .second] [(.long q2), (.ref a0)])) _
    refine st5 _ ?_
    exact k)
  obtain ⟨fs, hr, hrun, hended, hW, hsame⟩ := X5.leave (v := none) (fun _ => rfl) hlk
  have y7 := (y3.wr W5)
  have y8 := (Fw2.other W5 (Or.inr (slot_ne (Or.inr (hw _ (List.mem_of_getElem? (i := 16) rfl))) (Or.inr (hw _ (List.mem_of_getElem? (i := 18) rfl))) (by decide) (t := .long) (t' := .long) (by decide) (by decide))))
  exact ⟨_, _, pre6 _ (X5.returnOut hx Bd.returns (hb hby d1_56) hr), hrun, hended, _, _, rfl, (by show Q1 Z a0 q1 q2 wa0_start wa0_stop h0 n0 _ T5.heap _; rw [e5]; exact ⟨rfl, N5, KC5, y7, y8, Fw5⟩), ⟨_, rfl⟩, hW, hsame.mono (by decide) (by decide)⟩
def F6 (q1 : Int64) (wa0_start : Int64) (wa0_stop : Int64) : Int32 := (if q1 < wa0_start then (0 : Int32) else (if q1 < wa0_stop then (1 : Int32) else (0 : Int32)))
theorem ef6 (m : MethodId) (x0 : Addr) (x1 : Int64) : entryFrame m #[(.ref x0), (.long x1)] 3 = mkF m 0 #[.val (.ref x0), .val (.long x1), .second] [] := by first | (simp [entryFrame, mkF, argsToLocals, Value.category]; done) | rfl
def Q6 (Z : State) (a0 : Addr) (q1 : Int64) (wa0_start : Int64) (wa0_stop : Int64) (h0 : Heap) (n0 : Nat) (v : Option Value) (h : Heap) (L : List Loc) : Prop := v = some (.int (F6 q1 wa0_start wa0_stop)) ∧ Fr n0 L ∧ h = h0
set_option maxRecDepth 65536 in
set_option maxHeartbeats 40000000 in
theorem rm6 (l : Launch) (Z : State) (a0' : Array Value) (hw : ∀ d ∈ tables_1, d.before a0' Z = true) (ws : List Jvm.Cond) (a0 : Addr) (q1 : Int64) (wa0_start : Int64) (wa0_stop : Int64) (h0 : Heap) (n0 : Nat) (Z0 : n0 ≤ h0.size) (F_wa0_start : Fld Z h0 a0 "com/example/rangekeeper/rangekeeper/core/Range" "start" "J" (.long wa0_start)) (F_wa0_stop : Fld Z h0 a0 "com/example/rangekeeper/rangekeeper/core/Range" "stop" "J" (.long wa0_stop)) :
    MetFree l (⟨"com/example/rangekeeper/rangekeeper/core/Range", "contains", "(J)Z"⟩ : MethodName) (head1 (Jvm.Cond.code (⟨"com/example/rangekeeper/rangekeeper/core/Range", "contains", "(J)Z"⟩ : MethodName) prog_15_method_6_code 3 (some .boolean) :: ws) ({ frames := 0, cells := 0, slots := 0, locals := 0 } : Room)) (fun a U => a = #[(.ref a0), (.long q1)] ∧ Z.Warmed39 U.vm ∧ U.heap = h0) (fun _ _ _ _ _ => True) (fun _ U o U' => ∃ v L, o = .returned v ∧ Q6 Z a0 q1 wa0_start wa0_stop h0 n0 v U'.heap L ∧ FrameEnd U o U' L ({ frames := 0, cells := 0, slots := 0, locals := 0 } : Room).cells ({ frames := 0, cells := 0, slots := 0, locals := 0 } : Room).slots) := by
  refine MetFree.of_bodySF (plainFor_of_name pn1) hisR ?_
  intro p e s m args below meth c s₁ Bd hml0 hP hK
  obtain ⟨rfl, hZ, hh⟩ := hP
  have hx := Bd.exec
  have hby := Bd.bytes
  have hml : c.maxLocals = 3 := hml0
  have hown : s.vm.findClass "com/example/rangekeeper/rangekeeper/core/Range" = some m.cls := findClass_of_methodNamed Bd.named
  have hnm := (name_of_methodNamed Bd.named Bd.method).1
  have X0 : Stand p l e ({ frames := 0, cells := 0, slots := 0, locals := 0 } : Room) s m #[(.ref a0), (.long q1)] below meth c s₁ [] 0 0 := Stand.of_body Bd
  have e0 : s₁.heap = h0 := by rw [← hh, Bd.state]; rfl
  have N0 := Fr.nil n0
  have hlk : meth.locks = false := by first | exact BodyLoose.notSynchronized Bd | exact Body.notSynchronized Bd
  have pre0 : ∀ t, Steps p.tables e below (s₁.setTop (mkF m 0 #[.val (.ref a0), .val (.long q1), .second] [])) t → Steps p.tables e below (s₁.setTop (entryFrame m #[(.ref a0), (.long q1)] 3)) t := fun t k => castTop (ef6 m a0 q1) k
  obtain ⟨T1, X1, e1, st1⟩ := getF X0 hx hZ hown (host := "") (Or.inl (hw _ (List.mem_of_getElem? (i := 15) rfl))) Via.refl e0 F_wa0_start (g := (mkF m 1 #[.val (.ref a0), .val (.long q1), .second] [(.ref a0)])) rfl rfl (hb hby d6_1)
  have pre2 : ∀ t, Steps p.tables e below (T1.setTop (mkF m 6 #[.val (.ref a0), .val (.long q1), .second] [(.int (lcmpW wa0_start q1))])) t → Steps p.tables e below (s₁.setTop (entryFrame m #[(.ref a0), (.long q1)] 3)) t := fun t k => pre0 t (by
    show Steps p.tables e below (s₁.setTop (mkF m 0 #[.val (.ref a0), .val (.long q1), .second] [])) _
    refine XS.aloadN X0.here hx rfl (hb hby d6_0) rfl rfl ?_
    show Steps p.tables e below (s₁.setTop (mkF m 1 #[.val (.ref a0), .val (.long q1), .second] [(.ref a0)])) _
    refine st1 _ ?_
    show Steps p.tables e below (T1.setTop (mkF m 4 #[.val (.ref a0), .val (.long q1), .second] [(.long wa0_start)])) _
    refine XS.lloadN X1.here hx rfl (hb hby d6_4) rfl ?_
    show Steps p.tables e below (T1.setTop (mkF m 5 #[.val (.ref a0), .val (.long q1), .second] [(.long q1), (.long wa0_start)])) _
    refine XS.lcmp X1.here hx rfl (hb hby d6_5) rfl ?_
    exact k)
  by_cases hc6_3 : q1 < wa0_start
  · have pre4 : ∀ t, Steps p.tables e below (T1.setTop (mkF m 23 #[.val (.ref a0), .val (.long q1), .second] [(.int (0 : Int32))])) t → Steps p.tables e below (s₁.setTop (entryFrame m #[(.ref a0), (.long q1)] 3)) t := fun t k => pre2 t (by
      show Steps p.tables e below (T1.setTop (mkF m 6 #[.val (.ref a0), .val (.long q1), .second] [(.int (lcmpW wa0_start q1))])) _
      refine XS.ifYes X1.here hx rfl (pc0 := 6) (pc' := 22) rfl (hb hby d6_6) rfl ((if0 _ _).trans (tlt ((lw_gt wa0_start q1).mpr hc6_3)).2.2.1) (by decide) (by decide) ?_
      show Steps p.tables e below (T1.setTop (mkF m 22 #[.val (.ref a0), .val (.long q1), .second] [])) _
      refine XS.iconst X1.here hx rfl (hb hby d6_22) ?_
      exact k)
    obtain ⟨fs, hr, hrun, hended, hW, hsame⟩ := X1.leave (v := some (.int (0 : Int32))) (fun h => by rw [Bd.returns] at h; cases h) hlk
    have hF : (F6 q1 wa0_start wa0_stop) = (0 : Int32) := by unfold F6; rw [if_pos hc6_3]
    exact ⟨_, _, pre4 _ (retN X1 hx (t := .boolean) Bd.returns (by simp) (hb hby d6_23) hr), hrun, hended, _, _, rfl, ⟨by rw [hF], N0, e1⟩, ⟨_, rfl⟩, hW, hsame.mono (by decide) (by decide)⟩
  obtain ⟨T5, X5, e5, st5⟩ := getF X1 hx hZ hown (host := "") (Or.inl (hw _ (List.mem_of_getElem? (i := 17) rfl))) Via.refl e1 F_wa0_stop (g := (mkF m 11 #[.val (.ref a0), .val (.long q1), .second] [(.ref a0), (.long q1)])) rfl rfl (hb hby d6_11)
  have pre6 : ∀ t, Steps p.tables e below (T5.setTop (mkF m 15 #[.val (.ref a0), .val (.long q1), .second] [(.int (lcmpW q1 wa0_stop))])) t → Steps p.tables e below (s₁.setTop (entryFrame m #[(.ref a0), (.long q1)] 3)) t := fun t k => pre2 t (by
    show Steps p.tables e below (T1.setTop (mkF m 6 #[.val (.ref a0), .val (.long q1), .second] [(.int (lcmpW wa0_start q1))])) _
    refine XS.ifNo X1.here hx rfl (hb hby d6_6) rfl ((if0 _ _).trans (flt (mt (lw_gt wa0_start q1).mp hc6_3)).2.2.1) ?_
    show Steps p.tables e below (T1.setTop (mkF m 9 #[.val (.ref a0), .val (.long q1), .second] [])) _
    refine XS.lloadN X1.here hx rfl (hb hby d6_9) rfl ?_
    show Steps p.tables e below (T1.setTop (mkF m 10 #[.val (.ref a0), .val (.long q1), .second] [(.long q1)])) _
    refine XS.aloadN X1.here hx rfl (hb hby d6_10) rfl rfl ?_
    show Steps p.tables e below (T1.setTop (mkF m 11 #[.val (.ref a0), .val (.long q1), .second] [(.ref a0), (.long q1)])) _
    refine st5 _ ?_
    show Steps p.tables e below (T5.setTop (mkF m 14 #[.val (.ref a0), .val (.long q1), .second] [(.long wa0_stop), (.long q1)])) _
    refine XS.lcmp X5.here hx rfl (hb hby d6_14) rfl ?_
    exact k)
  by_cases hc15_7 : q1 < wa0_stop
  · have pre8 : ∀ t, Steps p.tables e below (T5.setTop (mkF m 23 #[.val (.ref a0), .val (.long q1), .second] [(.int (1 : Int32))])) t → Steps p.tables e below (s₁.setTop (entryFrame m #[(.ref a0), (.long q1)] 3)) t := fun t k => pre6 t (by
      show Steps p.tables e below (T5.setTop (mkF m 15 #[.val (.ref a0), .val (.long q1), .second] [(.int (lcmpW q1 wa0_stop))])) _
      refine XS.ifNo X5.here hx rfl (hb hby d6_15) rfl ((if0 _ _).trans (tlt ((lw_lt q1 wa0_stop).mpr hc15_7)).2.1) ?_
      show Steps p.tables e below (T5.setTop (mkF m 18 #[.val (.ref a0), .val (.long q1), .second] [])) _
      refine XS.iconst X5.here hx rfl (hb hby d6_18) ?_
      show Steps p.tables e below (T5.setTop (mkF m 19 #[.val (.ref a0), .val (.long q1), .second] [(.int (1 : Int32))])) _
      refine XS.goto X5.here hx rfl (pc0 := 19) (pc' := 23) rfl (hb hby d6_19) (by decide) (by decide) ?_
      exact k)
    obtain ⟨fs, hr, hrun, hended, hW, hsame⟩ := X5.leave (v := some (.int (1 : Int32))) (fun h => by rw [Bd.returns] at h; cases h) hlk
    have hF : (F6 q1 wa0_start wa0_stop) = (1 : Int32) := by unfold F6; rw [if_neg hc6_3, if_pos hc15_7]
    exact ⟨_, _, pre8 _ (retN X5 hx (t := .boolean) Bd.returns (by simp) (hb hby d6_23) hr), hrun, hended, _, _, rfl, ⟨by rw [hF], N0, e5⟩, ⟨_, rfl⟩, hW, hsame.mono (by decide) (by decide)⟩
  have pre9 : ∀ t, Steps p.tables e below (T5.setTop (mkF m 23 #[.val (.ref a0), .val (.long q1), .second] [(.int (0 : Int32))])) t → Steps p.tables e below (s₁.setTop (entryFrame m #[(.ref a0), (.long q1)] 3)) t := fun t k => pre6 t (by
    show Steps p.tables e below (T5.setTop (mkF m 15 #[.val (.ref a0), .val (.long q1), .second] [(.int (lcmpW q1 wa0_stop))])) _
    refine XS.ifYes X5.here hx rfl (pc0 := 15) (pc' := 22) rfl (hb hby d6_15) rfl ((if0 _ _).trans (flt (mt (lw_lt q1 wa0_stop).mp hc15_7)).2.1) (by decide) (by decide) ?_
    show Steps p.tables e below (T5.setTop (mkF m 22 #[.val (.ref a0), .val (.long q1), .second] [])) _
    refine XS.iconst X5.here hx rfl (hb hby d6_22) ?_
    exact k)
  obtain ⟨fs, hr, hrun, hended, hW, hsame⟩ := X5.leave (v := some (.int (0 : Int32))) (fun h => by rw [Bd.returns] at h; cases h) hlk
  have hF : (F6 q1 wa0_start wa0_stop) = (0 : Int32) := by unfold F6; rw [if_neg hc6_3, if_neg hc15_7]
  exact ⟨_, _, pre9 _ (retN X5 hx (t := .boolean) Bd.returns (by simp) (hb hby d6_23) hr), hrun, hended, _, _, rfl, ⟨by rw [hF], N0, e5⟩, ⟨_, rfl⟩, hW, hsame.mono (by decide) (by decide)⟩
def f0_m15 (q0 : Int64) (q1 : Int64) (q2 : Int64) (p3 : Int32) : Int64 := (if ((9223372036854775807 : Int64) - (q1 &&& (7 : Int64))) < (q0 &&& (9223372036854775807 : Int64)) then (9223372036854775807 : Int64) else ((q0 &&& (9223372036854775807 : Int64)) + (q1 &&& (7 : Int64))))
def f0_m17 (q0 : Int64) (q1 : Int64) (q2 : Int64) (p3 : Int32) : Int64 := (if (p3 &&& (3 : Int32)) = (0 : Int32) then (F5 (q0 &&& (9223372036854775807 : Int64)) (q1 &&& (9223372036854775807 : Int64))) else (if (p3 &&& (3 : Int32)) = (1 : Int32) then (q0 &&& (9223372036854775807 : Int64)) else (if (p3 &&& (3 : Int32)) = (2 : Int32) then (9223372036854775807 : Int64) else (f0_m15 q0 q1 q2 p3))))
def f0_m34 (q0 : Int64) (q1 : Int64) (q2 : Int64) (p3 : Int32) : Int64 := (if (q2 &&& (1 : Int64)) = (0 : Int64) then (-9223372036854775808 : Int64) else (9223372036854775807 : Int64))
def f0_m36 (q0 : Int64) (q1 : Int64) (q2 : Int64) (p3 : Int32) : Int64 := (if (((p3.toUInt32 >>> ((2 : Int32) &&& 31).toUInt32).toInt32) &&& (3 : Int32)) = (0 : Int32) then q2 else (if (((p3.toUInt32 >>> ((2 : Int32) &&& 31).toUInt32).toInt32) &&& (3 : Int32)) = (1 : Int32) then ((q0 &&& (9223372036854775807 : Int64)) + ((q2 &&& (3 : Int64)) - (2 : Int64))) else (if (((p3.toUInt32 >>> ((2 : Int32) &&& 31).toUInt32).toInt32) &&& (3 : Int32)) = (2 : Int32) then ((f0_m17 q0 q1 q2 p3) + ((q2 &&& (3 : Int64)) - (2 : Int64))) else (f0_m34 q0 q1 q2 p3))))
def f0_m46 (q0 : Int64) (q1 : Int64) (q2 : Int64) (p3 : Int32) : Int32 := (if (q0 &&& (9223372036854775807 : Int64)) < (f0_m17 q0 q1 q2 p3) then (if (F5 (q0 &&& (9223372036854775807 : Int64)) (F4 (f0_m36 q0 q1 q2 p3) ((f0_m17 q0 q1 q2 p3) - (1 : Int64)))) = (f0_m36 q0 q1 q2 p3) then (1 : Int32) else (0 : Int32)) else (0 : Int32))
def f0_m55 (q0 : Int64) (q1 : Int64) (q2 : Int64) (p3 : Int32) : Int32 := (if (q0 &&& (9223372036854775807 : Int64)) < (f0_m17 q0 q1 q2 p3) then (1 : Int32) else (0 : Int32))
def F0 (q0 : Int64) (q1 : Int64) (q2 : Int64) (p3 : Int32) : Int32 := (if (F6 (f0_m36 q0 q1 q2 p3) (q0 &&& (9223372036854775807 : Int64)) (f0_m17 q0 q1 q2 p3)) = (f0_m46 q0 q1 q2 p3) then (if (F6 (q0 &&& (9223372036854775807 : Int64)) (q0 &&& (9223372036854775807 : Int64)) (f0_m17 q0 q1 q2 p3)) = (f0_m55 q0 q1 q2 p3) then (if (F6 (f0_m17 q0 q1 q2 p3) (q0 &&& (9223372036854775807 : Int64)) (f0_m17 q0 q1 q2 p3)) = (0 : Int32) then (if (F6 ((q0 &&& (9223372036854775807 : Int64)) - (1 : Int64)) (q0 &&& (9223372036854775807 : Int64)) (f0_m17 q0 q1 q2 p3)) = (0 : Int32) then (1 : Int32) else (0 : Int32)) else (0 : Int32)) else (0 : Int32)) else (0 : Int32))
theorem own_nn (x : Int64) : 0 ≤ (x &&& (9223372036854775807 : Int64)).toInt := by
  rw [c_maskL x 9223372036854775807 63 (by decide) (by decide)]; omega
theorem own_ns (x : Int64) : ¬ (x &&& (9223372036854775807 : Int64)) < 0 := by
  rw [Int64.lt_iff_toInt_lt]; have := own_nn x; have : (0 : Int64).toInt = 0 := rfl; omega
theorem own_max (x y : Int64) : (F5 x y).toInt = if x.toInt < y.toInt then y.toInt else x.toInt := by
  unfold F5 f5_m5; simp only [Int64.lt_iff_toInt_lt]; split <;> rfl
theorem own_add (s L M : Int64) (hM : M.toInt = 9223372036854775807) (hs : 0 ≤ s.toInt) (hL : 0 ≤ L.toInt ∧ L.toInt ≤ 7) : s.toInt ≤ (if (M - L) < s then M else (s + L)).toInt := by
  by_cases g : (M - L) < s
  · rw [if_pos g, hM]; have := rng64 s; omega
  · rw [if_neg g]
    rw [Int64.lt_iff_toInt_lt] at g
    have a := c_ladd s L; have ra := rng64 (s + L); have b := c_lsub M L; have rb := rng64 (M - L); have r := rng64 s
    omega
theorem own_st (q0 q1 q2 : Int64) (p3 : Int32) : (q0 &&& (9223372036854775807 : Int64)).toInt ≤ (f0_m17 q0 q1 q2 p3).toInt := by
  have h0 := own_nn q0
  have m2 := own_max (q0 &&& (9223372036854775807 : Int64)) (q1 &&& (9223372036854775807 : Int64))
  have e7 : (q1 &&& (7 : Int64)).toInt = q1.toInt % (2 ^ 3 : Nat) := c_maskL q1 7 3 (by decide) (by decide)
  have r := rng64 (q0 &&& (9223372036854775807 : Int64))
  unfold f0_m17 f0_m15
  have hM : (9223372036854775807 : Int64).toInt = 9223372036854775807 := rfl
  generalize (9223372036854775807 : Int64) = M at *
  generalize (q0 &&& M) = s at *
  generalize (q1 &&& (7 : Int64)) = L at *
  generalize (q1 &&& M) = u at *
  by_cases c0 : (p3 &&& (3 : Int32)) = 0
  · rw [if_pos c0]; split at m2 <;> omega
  rw [if_neg c0]
  by_cases c1 : (p3 &&& (3 : Int32)) = 1
  · rw [if_pos c1]; exact Int.le_refl _
  rw [if_neg c1]
  by_cases c2 : (p3 &&& (3 : Int32)) = 2
  · rw [if_pos c2, hM]; omega
  rw [if_neg c2]
  exact own_add s L M hM h0 (by omega)
theorem own_p1 (q0 : Int64) : ¬ (q0 &&& (9223372036854775807 : Int64)) < (0 : Int64) := own_ns q0
theorem own_p2 (q0 q1 q2 : Int64) (p3 : Int32) : ¬ (f0_m17 q0 q1 q2 p3) < (q0 &&& (9223372036854775807 : Int64)) := by
  rw [Int64.lt_iff_toInt_lt]; have := own_st q0 q1 q2 p3; omega
theorem ef0 (m : MethodId) (x0 : Int64) (x1 : Int64) (x2 : Int64) (x3 : Int32) : entryFrame m #[(.long x0), (.long x1), (.long x2), (.int x3)] maxLocals = mkF m 0 #[.val (.long x0), .second, .val (.long x1), .second, .val (.long x2), .second, .val (.int x3), .unset, .unset, .unset, .unset, .unset, .unset, .unset, .unset, .unset, .unset] [] := by first | (simp [entryFrame, mkF, argsToLocals, Value.category, maxLocals]; done) | rfl
def Q0 (Z : State) (q0 : Int64) (q1 : Int64) (q2 : Int64) (p3 : Int32) (h0 : Heap) (n0 : Nat) (v : Option Value) (h : Heap) (L : List Loc) : Prop := v = some (.int (F0 q0 q1 q2 p3)) ∧ Fr n0 L
set_option maxRecDepth 65536 in
set_option maxHeartbeats 40000000 in
theorem rm0 (l : Launch) (Z : State) (a0' : Array Value) (hw : ∀ d ∈ tables_1, d.before a0' Z = true) (ws : List Jvm.Cond) (q0 : Int64) (q1 : Int64) (q2 : Int64) (p3 : Int32) (h0 : Heap) (n0 : Nat) (Z0 : n0 ≤ h0.size) :
    MetFree l x (head1 (Jvm.Cond.code x code maxLocals ret :: ws) room_1) (fun a U => a = #[(.long q0), (.long q1), (.long q2), (.int p3)] ∧ Z.Warmed39 U.vm ∧ U.heap = h0) (fun _ _ _ _ _ => True) (fun _ U o U' => ∃ v L, o = .returned v ∧ Q0 Z q0 q1 q2 p3 h0 n0 v U'.heap L ∧ FrameEnd U o U' L 1 2) := by
  refine MetFree.of_bodySF (plainFor_of_name pn2) hisR ?_
  intro p e s m args below meth c s₁ Bd hml0 hP hK
  obtain ⟨rfl, hZ, hh⟩ := hP
  have hx := Bd.exec
  have hby := Bd.bytes
  have hml : c.maxLocals = 17 := hml0
  have hown : s.vm.findClass "com/example/rangekeeper/rangekeeper/core/RangeContainsPinLaw" = some m.cls := findClass_of_methodNamed Bd.named
  have hnm := (name_of_methodNamed Bd.named Bd.method).1
  have X0 : Stand p l e room_1 s m #[(.long q0), (.long q1), (.long q2), (.int p3)] below meth c s₁ [] 0 0 := Stand.of_body Bd
  have e0 : s₁.heap = h0 := by rw [← hh, Bd.state]; rfl
  have N0 := Fr.nil n0
  have hlk : meth.locks = false := by first | exact BodyLoose.notSynchronized Bd | exact Body.notSynchronized Bd
  have pre0 : ∀ t, Steps p.tables e below (s₁.setTop (mkF m 0 #[.val (.long q0), .second, .val (.long q1), .second, .val (.long q2), .second, .val (.int p3), .unset, .unset, .unset, .unset, .unset, .unset, .unset, .unset, .unset, .unset] [])) t → Steps p.tables e below (s₁.setTop (entryFrame m #[(.long q0), (.long q1), (.long q2), (.int p3)] maxLocals)) t := fun t k => castTop (ef0 m q0 q1 q2 p3) k
  have pre1 : ∀ t, Steps p.tables e below (s₁.setTop (mkF m 15 #[.val (.long q0), .second, .val (.long q1), .second, .val (.long q2), .second, .val (.int p3), .val (.long (q0 &&& (9223372036854775807 : Int64))), .second, .unset, .unset, .val (.int (p3 &&& (3 : Int32))), .unset, .unset, .unset, .unset, .unset] [(.int (p3 &&& (3 : Int32)))])) t → Steps p.tables e below (s₁.setTop (entryFrame m #[(.long q0), (.long q1), (.long q2), (.int p3)] maxLocals)) t := fun t k => pre0 t (by
    show Steps p.tables e below (s₁.setTop (mkF m 0 #[.val (.long q0), .second, .val (.long q1), .second, .val (.long q2), .second, .val (.int p3), .unset, .unset, .unset, .unset, .unset, .unset, .unset, .unset, .unset, .unset] [])) _
    refine XS.lloadN X0.here hx rfl (hb hby at_0) rfl ?_
    show Steps p.tables e below (s₁.setTop (mkF m 1 #[.val (.long q0), .second, .val (.long q1), .second, .val (.long q2), .second, .val (.int p3), .unset, .unset, .unset, .unset, .unset, .unset, .unset, .unset, .unset, .unset] [(.long q0)])) _
    refine X0.ldc2Long hx hown (mvT hZ (hw _ (List.mem_of_getElem? (i := 0) rfl))) (g := (mkF m 1 #[.val (.long q0), .second, .val (.long q1), .second, .val (.long q2), .second, .val (.int p3), .unset, .unset, .unset, .unset, .unset, .unset, .unset, .unset, .unset, .unset] [(.long q0)])) rfl (hb hby at_1) _ ?_
    show Steps p.tables e below (s₁.setTop (mkF m 4 #[.val (.long q0), .second, .val (.long q1), .second, .val (.long q2), .second, .val (.int p3), .unset, .unset, .unset, .unset, .unset, .unset, .unset, .unset, .unset, .unset] [(.long (9223372036854775807 : Int64)), (.long q0)])) _
    refine XS.land X0.here hx rfl (hb hby at_4) rfl ?_
    show Steps p.tables e below (s₁.setTop (mkF m 5 #[.val (.long q0), .second, .val (.long q1), .second, .val (.long q2), .second, .val (.int p3), .unset, .unset, .unset, .unset, .unset, .unset, .unset, .unset, .unset, .unset] [(.long (q0 &&& (9223372036854775807 : Int64)))])) _
    refine XS.lstore X0.here hx rfl (hb hby at_5) rfl (l' := #[.val (.long q0), .second, .val (.long q1), .second, .val (.long q2), .second, .val (.int p3), .val (.long (q0 &&& (9223372036854775807 : Int64))), .second, .unset, .unset, .unset, .unset, .unset, .unset, .unset, .unset]) rfl ?_
    show Steps p.tables e below (s₁.setTop (mkF m 7 #[.val (.long q0), .second, .val (.long q1), .second, .val (.long q2), .second, .val (.int p3), .val (.long (q0 &&& (9223372036854775807 : Int64))), .second, .unset, .unset, .unset, .unset, .unset, .unset, .unset, .unset] [])) _
    refine XS.iload X0.here hx rfl (hb hby at_7) rfl ?_
    show Steps p.tables e below (s₁.setTop (mkF m 9 #[.val (.long q0), .second, .val (.long q1), .second, .val (.long q2), .second, .val (.int p3), .val (.long (q0 &&& (9223372036854775807 : Int64))), .second, .unset, .unset, .unset, .unset, .unset, .unset, .unset, .unset] [(.int p3)])) _
    refine XS.iconst X0.here hx rfl (hb hby at_9) ?_
    show Steps p.tables e below (s₁.setTop (mkF m 10 #[.val (.long q0), .second, .val (.long q1), .second, .val (.long q2), .second, .val (.int p3), .val (.long (q0 &&& (9223372036854775807 : Int64))), .second, .unset, .unset, .unset, .unset, .unset, .unset, .unset, .unset] [(.int (3 : Int32)), (.int p3)])) _
    refine XS.iand X0.here hx rfl (hb hby at_10) rfl ?_
    show Steps p.tables e below (s₁.setTop (mkF m 11 #[.val (.long q0), .second, .val (.long q1), .second, .val (.long q2), .second, .val (.int p3), .val (.long (q0 &&& (9223372036854775807 : Int64))), .second, .unset, .unset, .unset, .unset, .unset, .unset, .unset, .unset] [(.int (p3 &&& (3 : Int32)))])) _
    refine XS.istore X0.here hx rfl (hb hby at_11) rfl (l' := #[.val (.long q0), .second, .val (.long q1), .second, .val (.long q2), .second, .val (.int p3), .val (.long (q0 &&& (9223372036854775807 : Int64))), .second, .unset, .unset, .val (.int (p3 &&& (3 : Int32))), .unset, .unset, .unset, .unset, .unset]) rfl ?_
    show Steps p.tables e below (s₁.setTop (mkF m 13 #[.val (.long q0), .second, .val (.long q1), .second, .val (.long q2), .second, .val (.int p3), .val (.long (q0 &&& (9223372036854775807 : Int64))), .second, .unset, .unset, .val (.int (p3 &&& (3 : Int32))), .unset, .unset, .unset, .unset, .unset] [])) _
    refine XS.iload X0.here hx rfl (hb hby at_13) rfl ?_
    exact k)
  obtain ⟨T2, L2, s2_12, s2_13, X2, e2, N2, hs2_12, pre2⟩ : ∃ (T' : State) (locs' : List Loc) (s2_12 s2_13 : Slot), Stand p l e room_1 s m #[(.long q0), (.long q1), (.long q2), (.int p3)] below meth c T' locs' 0 0 ∧ T'.heap = h0 ∧ Fr n0 locs' ∧ ((s2_12 = .unset ∧ s2_13 = .unset) ∨ ∃ w, s2_12 = .val (.long w) ∧ s2_13 = .second) ∧ ∀ t, Steps p.tables e below (T'.setTop (mkF m 92 #[.val (.long q0), .second, .val (.long q1), .second, .val (.long q2), .second, .val (.int p3), .val (.long (q0 &&& (9223372036854775807 : Int64))), .second, .val (.long (f0_m17 q0 q1 q2 p3)), .second, .val (.int (p3 &&& (3 : Int32))), s2_12, s2_13, .unset, .unset, .unset] [])) t → Steps p.tables e below (s₁.setTop (entryFrame m #[(.long q0), (.long q1), (.long q2), (.int p3)] maxLocals)) t := by
    by_cases hc15_2 : (p3 &&& (3 : Int32)) = (0 : Int32)
    · obtain ⟨_, _, ⟨T3, L3, k3, n3⟩, -, X3, ⟨Lc3, hQ3, l3, y3, z3⟩, st3⟩ := Jvm.LawKit.callS X0 hx (y := (⟨"java/lang/Math", "max", "(JJ)J"⟩ : MethodName)) hown (mvT hZ (hw _ (List.mem_of_getElem? (i := 23) rfl))) (mvT hZ (hw _ (List.mem_of_getElem? (i := 24) rfl))) (mvT hZ (hw _ (List.mem_of_getElem? (i := 21) rfl))) (mvT hZ (hw _ (List.mem_of_getElem? (i := 25) rfl))) (by decide) (backOf (W := 0) (rm5 l Z a0' hw [] (q0 &&& (9223372036854775807 : Int64)) (q1 &&& (9223372036854775807 : Int64)) h0 n0 Z0) hZ (hw _ (List.mem_of_getElem? (i := 25) rfl)) (hw _ (List.mem_of_getElem? (i := 21) rfl)) (by decide) (by decide)) (g := (mkF m 25 #[.val (.long q0), .second, .val (.long q1), .second, .val (.long q2), .second, .val (.int p3), .val (.long (q0 &&& (9223372036854775807 : Int64))), .second, .unset, .unset, .val (.int (p3 &&& (3 : Int32))), .unset, .unset, .unset, .unset, .unset] [(.long (q1 &&& (9223372036854775807 : Int64))), (.long (q0 &&& (9223372036854775807 : Int64)))])) rfl (by rw [hml]; rfl) (argsL := [(.long (q0 &&& (9223372036854775807 : Int64))), (.long (q1 &&& (9223372036854775807 : Int64)))]) (rest := []) (lenOf pd1 rfl) rfl (by show 2 * 0 + _ ≤ _; exact Nat.le_of_eq rfl) (hb hby at_25) (fun _ _ => ⟨rfl, e0, (by decide : 0 + 0 ≤ _), (by decide : 0 + 0 ≤ _)⟩)
      dsimp only [Pt.U, Pt.locs, Pt.cells, Pt.slots] at X3 l3 y3 z3 st3 hQ3
      subst l3 y3 z3
      obtain ⟨rfl, N3q, e3⟩ := hQ3
      have N3 := Fr.app N0 N3q
      have pre4 : ∀ t, Steps p.tables e below (T3.setTop (mkF m 92 #[.val (.long q0), .second, .val (.long q1), .second, .val (.long q2), .second, .val (.int p3), .val (.long (q0 &&& (9223372036854775807 : Int64))), .second, .val (.long (F5 (q0 &&& (9223372036854775807 : Int64)) (q1 &&& (9223372036854775807 : Int64)))), .second, .val (.int (p3 &&& (3 : Int32))), .unset, .unset, .unset, .unset, .unset] [])) t → Steps p.tables e below (s₁.setTop (entryFrame m #[(.long q0), (.long q1), (.long q2), (.int p3)] maxLocals)) t := fun t k => pre1 t (by
        show Steps p.tables e below (s₁.setTop (mkF m 15 #[.val (.long q0), .second, .val (.long q1), .second, .val (.long q2), .second, .val (.int p3), .val (.long (q0 &&& (9223372036854775807 : Int64))), .second, .unset, .unset, .val (.int (p3 &&& (3 : Int32))), .unset, .unset, .unset, .unset, .unset] [(.int (p3 &&& (3 : Int32)))])) _
        refine XS.ifNo X0.here hx rfl (hb hby at_15) rfl ((if0 _ _).trans (teq hc15_2).2) ?_
        show Steps p.tables e below (s₁.setTop (mkF m 18 #[.val (.long q0), .second, .val (.long q1), .second, .val (.long q2), .second, .val (.int p3), .val (.long (q0 &&& (9223372036854775807 : Int64))), .second, .unset, .unset, .val (.int (p3 &&& (3 : Int32))), .unset, .unset, .unset, .unset, .unset] [])) _
        refine XS.lload X0.here hx rfl (hb hby at_18) rfl ?_
        show Steps p.tables e below (s₁.setTop (mkF m 20 #[.val (.long q0), .second, .val (.long q1), .second, .val (.long q2), .second, .val (.int p3), .val (.long (q0 &&& (9223372036854775807 : Int64))), .second, .unset, .unset, .val (.int (p3 &&& (3 : Int32))), .unset, .unset, .unset, .unset, .unset] [(.long (q0 &&& (9223372036854775807 : Int64)))])) _
        refine XS.lloadN X0.here hx rfl (hb hby at_20) rfl ?_
        show Steps p.tables e below (s₁.setTop (mkF m 21 #[.val (.long q0), .second, .val (.long q1), .second, .val (.long q2), .second, .val (.int p3), .val (.long (q0 &&& (9223372036854775807 : Int64))), .second, .unset, .unset, .val (.int (p3 &&& (3 : Int32))), .unset, .unset, .unset, .unset, .unset] [(.long q1), (.long (q0 &&& (9223372036854775807 : Int64)))])) _
        refine X0.ldc2Long hx hown (mvT hZ (hw _ (List.mem_of_getElem? (i := 0) rfl))) (g := (mkF m 21 #[.val (.long q0), .second, .val (.long q1), .second, .val (.long q2), .second, .val (.int p3), .val (.long (q0 &&& (9223372036854775807 : Int64))), .second, .unset, .unset, .val (.int (p3 &&& (3 : Int32))), .unset, .unset, .unset, .unset, .unset] [(.long q1), (.long (q0 &&& (9223372036854775807 : Int64)))])) rfl (hb hby at_21) _ ?_
        show Steps p.tables e below (s₁.setTop (mkF m 24 #[.val (.long q0), .second, .val (.long q1), .second, .val (.long q2), .second, .val (.int p3), .val (.long (q0 &&& (9223372036854775807 : Int64))), .second, .unset, .unset, .val (.int (p3 &&& (3 : Int32))), .unset, .unset, .unset, .unset, .unset] [(.long (9223372036854775807 : Int64)), (.long q1), (.long (q0 &&& (9223372036854775807 : Int64)))])) _
        refine XS.land X0.here hx rfl (hb hby at_24) rfl ?_
        show Steps p.tables e below (s₁.setTop (mkF m 25 #[.val (.long q0), .second, .val (.long q1), .second, .val (.long q2), .second, .val (.int p3), .val (.long (q0 &&& (9223372036854775807 : Int64))), .second, .unset, .unset, .val (.int (p3 &&& (3 : Int32))), .unset, .unset, .unset, .unset, .unset] [(.long (q1 &&& (9223372036854775807 : Int64))), (.long (q0 &&& (9223372036854775807 : Int64)))])) _
        refine st3 _ ?_
        show Steps p.tables e below (T3.setTop (mkF m 28 #[.val (.long q0), .second, .val (.long q1), .second, .val (.long q2), .second, .val (.int p3), .val (.long (q0 &&& (9223372036854775807 : Int64))), .second, .unset, .unset, .val (.int (p3 &&& (3 : Int32))), .unset, .unset, .unset, .unset, .unset] [(.long (F5 (q0 &&& (9223372036854775807 : Int64)) (q1 &&& (9223372036854775807 : Int64))))])) _
        refine XS.lstore X3.here hx rfl (hb hby at_28) rfl (l' := #[.val (.long q0), .second, .val (.long q1), .second, .val (.long q2), .second, .val (.int p3), .val (.long (q0 &&& (9223372036854775807 : Int64))), .second, .val (.long (F5 (q0 &&& (9223372036854775807 : Int64)) (q1 &&& (9223372036854775807 : Int64)))), .second, .val (.int (p3 &&& (3 : Int32))), .unset, .unset, .unset, .unset, .unset]) rfl ?_
        show Steps p.tables e below (T3.setTop (mkF m 30 #[.val (.long q0), .second, .val (.long q1), .second, .val (.long q2), .second, .val (.int p3), .val (.long (q0 &&& (9223372036854775807 : Int64))), .second, .val (.long (F5 (q0 &&& (9223372036854775807 : Int64)) (q1 &&& (9223372036854775807 : Int64)))), .second, .val (.int (p3 &&& (3 : Int32))), .unset, .unset, .unset, .unset, .unset] [])) _
        refine XS.goto X3.here hx rfl (pc0 := 30) (pc' := 92) rfl (hb hby at_30) (by decide) (by decide) ?_
        exact k)
      have q_f0_m17 : f0_m17 q0 q1 q2 p3 = (F5 (q0 &&& (9223372036854775807 : Int64)) (q1 &&& (9223372036854775807 : Int64))) := by unfold f0_m17; rw [if_pos hc15_2]
      rw [q_f0_m17]
      exact ⟨T3, _, .unset, .unset, X3, e3, N3, Or.inl ⟨rfl, rfl⟩, pre4⟩
    have pre5 : ∀ t, Steps p.tables e below (s₁.setTop (mkF m 36 #[.val (.long q0), .second, .val (.long q1), .second, .val (.long q2), .second, .val (.int p3), .val (.long (q0 &&& (9223372036854775807 : Int64))), .second, .unset, .unset, .val (.int (p3 &&& (3 : Int32))), .unset, .unset, .unset, .unset, .unset] [(.int (1 : Int32)), (.int (p3 &&& (3 : Int32)))])) t → Steps p.tables e below (s₁.setTop (entryFrame m #[(.long q0), (.long q1), (.long q2), (.int p3)] maxLocals)) t := fun t k => pre1 t (by
      show Steps p.tables e below (s₁.setTop (mkF m 15 #[.val (.long q0), .second, .val (.long q1), .second, .val (.long q2), .second, .val (.int p3), .val (.long (q0 &&& (9223372036854775807 : Int64))), .second, .unset, .unset, .val (.int (p3 &&& (3 : Int32))), .unset, .unset, .unset, .unset, .unset] [(.int (p3 &&& (3 : Int32)))])) _
      refine XS.ifYes X0.here hx rfl (pc0 := 15) (pc' := 33) rfl (hb hby at_15) rfl ((if0 _ _).trans (feq hc15_2).2) (by decide) (by decide) ?_
      show Steps p.tables e below (s₁.setTop (mkF m 33 #[.val (.long q0), .second, .val (.long q1), .second, .val (.long q2), .second, .val (.int p3), .val (.long (q0 &&& (9223372036854775807 : Int64))), .second, .unset, .unset, .val (.int (p3 &&& (3 : Int32))), .unset, .unset, .unset, .unset, .unset] [])) _
      refine XS.iload X0.here hx rfl (hb hby at_33) rfl ?_
      show Steps p.tables e below (s₁.setTop (mkF m 35 #[.val (.long q0), .second, .val (.long q1), .second, .val (.long q2), .second, .val (.int p3), .val (.long (q0 &&& (9223372036854775807 : Int64))), .second, .unset, .unset, .val (.int (p3 &&& (3 : Int32))), .unset, .unset, .unset, .unset, .unset] [(.int (p3 &&& (3 : Int32)))])) _
      refine XS.iconst X0.here hx rfl (hb hby at_35) ?_
      exact k)
    by_cases hc36_6 : (p3 &&& (3 : Int32)) = (1 : Int32)
    · have pre7 : ∀ t, Steps p.tables e below (s₁.setTop (mkF m 92 #[.val (.long q0), .second, .val (.long q1), .second, .val (.long q2), .second, .val (.int p3), .val (.long (q0 &&& (9223372036854775807 : Int64))), .second, .val (.long (q0 &&& (9223372036854775807 : Int64))), .second, .val (.int (p3 &&& (3 : Int32))), .unset, .unset, .unset, .unset, .unset] [])) t → Steps p.tables e below (s₁.setTop (entryFrame m #[(.long q0), (.long q1), (.long q2), (.int p3)] maxLocals)) t := fun t k => pre5 t (by
        show Steps p.tables e below (s₁.setTop (mkF m 36 #[.val (.long q0), .second, .val (.long q1), .second, .val (.long q2), .second, .val (.int p3), .val (.long (q0 &&& (9223372036854775807 : Int64))), .second, .unset, .unset, .val (.int (p3 &&& (3 : Int32))), .unset, .unset, .unset, .unset, .unset] [(.int (1 : Int32)), (.int (p3 &&& (3 : Int32)))])) _
        refine XS.icmpNo X0.here hx rfl (hb hby at_36) rfl (teq hc36_6).2 ?_
        show Steps p.tables e below (s₁.setTop (mkF m 39 #[.val (.long q0), .second, .val (.long q1), .second, .val (.long q2), .second, .val (.int p3), .val (.long (q0 &&& (9223372036854775807 : Int64))), .second, .unset, .unset, .val (.int (p3 &&& (3 : Int32))), .unset, .unset, .unset, .unset, .unset] [])) _
        refine XS.lload X0.here hx rfl (hb hby at_39) rfl ?_
        show Steps p.tables e below (s₁.setTop (mkF m 41 #[.val (.long q0), .second, .val (.long q1), .second, .val (.long q2), .second, .val (.int p3), .val (.long (q0 &&& (9223372036854775807 : Int64))), .second, .unset, .unset, .val (.int (p3 &&& (3 : Int32))), .unset, .unset, .unset, .unset, .unset] [(.long (q0 &&& (9223372036854775807 : Int64)))])) _
        refine XS.lstore X0.here hx rfl (hb hby at_41) rfl (l' := #[.val (.long q0), .second, .val (.long q1), .second, .val (.long q2), .second, .val (.int p3), .val (.long (q0 &&& (9223372036854775807 : Int64))), .second, .val (.long (q0 &&& (9223372036854775807 : Int64))), .second, .val (.int (p3 &&& (3 : Int32))), .unset, .unset, .unset, .unset, .unset]) rfl ?_
        show Steps p.tables e below (s₁.setTop (mkF m 43 #[.val (.long q0), .second, .val (.long q1), .second, .val (.long q2), .second, .val (.int p3), .val (.long (q0 &&& (9223372036854775807 : Int64))), .second, .val (.long (q0 &&& (9223372036854775807 : Int64))), .second, .val (.int (p3 &&& (3 : Int32))), .unset, .unset, .unset, .unset, .unset] [])) _
        refine XS.goto X0.here hx rfl (pc0 := 43) (pc' := 92) rfl (hb hby at_43) (by decide) (by decide) ?_
        exact k)
      have q_f0_m17 : f0_m17 q0 q1 q2 p3 = (q0 &&& (9223372036854775807 : Int64)) := by unfold f0_m17; rw [if_neg hc15_2, if_pos hc36_6]
      rw [q_f0_m17]
      exact ⟨s₁, _, .unset, .unset, X0, e0, N0, Or.inl ⟨rfl, rfl⟩, pre7⟩
    have pre8 : ∀ t, Steps p.tables e below (s₁.setTop (mkF m 49 #[.val (.long q0), .second, .val (.long q1), .second, .val (.long q2), .second, .val (.int p3), .val (.long (q0 &&& (9223372036854775807 : Int64))), .second, .unset, .unset, .val (.int (p3 &&& (3 : Int32))), .unset, .unset, .unset, .unset, .unset] [(.int (2 : Int32)), (.int (p3 &&& (3 : Int32)))])) t → Steps p.tables e below (s₁.setTop (entryFrame m #[(.long q0), (.long q1), (.long q2), (.int p3)] maxLocals)) t := fun t k => pre5 t (by
      show Steps p.tables e below (s₁.setTop (mkF m 36 #[.val (.long q0), .second, .val (.long q1), .second, .val (.long q2), .second, .val (.int p3), .val (.long (q0 &&& (9223372036854775807 : Int64))), .second, .unset, .unset, .val (.int (p3 &&& (3 : Int32))), .unset, .unset, .unset, .unset, .unset] [(.int (1 : Int32)), (.int (p3 &&& (3 : Int32)))])) _
      refine XS.icmpYes X0.here hx rfl (pc0 := 36) (pc' := 46) rfl (hb hby at_36) rfl (feq hc36_6).2 (by decide) (by decide) ?_
      show Steps p.tables e below (s₁.setTop (mkF m 46 #[.val (.long q0), .second, .val (.long q1), .second, .val (.long q2), .second, .val (.int p3), .val (.long (q0 &&& (9223372036854775807 : Int64))), .second, .unset, .unset, .val (.int (p3 &&& (3 : Int32))), .unset, .unset, .unset, .unset, .unset] [])) _
      refine XS.iload X0.here hx rfl (hb hby at_46) rfl ?_
      show Steps p.tables e below (s₁.setTop (mkF m 48 #[.val (.long q0), .second, .val (.long q1), .second, .val (.long q2), .second, .val (.int p3), .val (.long (q0 &&& (9223372036854775807 : Int64))), .second, .unset, .unset, .val (.int (p3 &&& (3 : Int32))), .unset, .unset, .unset, .unset, .unset] [(.int (p3 &&& (3 : Int32)))])) _
      refine XS.iconst X0.here hx rfl (hb hby at_48) ?_
      exact k)
    by_cases hc49_9 : (p3 &&& (3 : Int32)) = (2 : Int32)
    · have pre10 : ∀ t, Steps p.tables e below (s₁.setTop (mkF m 92 #[.val (.long q0), .second, .val (.long q1), .second, .val (.long q2), .second, .val (.int p3), .val (.long (q0 &&& (9223372036854775807 : Int64))), .second, .val (.long (9223372036854775807 : Int64)), .second, .val (.int (p3 &&& (3 : Int32))), .unset, .unset, .unset, .unset, .unset] [])) t → Steps p.tables e below (s₁.setTop (entryFrame m #[(.long q0), (.long q1), (.long q2), (.int p3)] maxLocals)) t := fun t k => pre8 t (by
        show Steps p.tables e below (s₁.setTop (mkF m 49 #[.val (.long q0), .second, .val (.long q1), .second, .val (.long q2), .second, .val (.int p3), .val (.long (q0 &&& (9223372036854775807 : Int64))), .second, .unset, .unset, .val (.int (p3 &&& (3 : Int32))), .unset, .unset, .unset, .unset, .unset] [(.int (2 : Int32)), (.int (p3 &&& (3 : Int32)))])) _
        refine XS.icmpNo X0.here hx rfl (hb hby at_49) rfl (teq hc49_9).2 ?_
        show Steps p.tables e below (s₁.setTop (mkF m 52 #[.val (.long q0), .second, .val (.long q1), .second, .val (.long q2), .second, .val (.int p3), .val (.long (q0 &&& (9223372036854775807 : Int64))), .second, .unset, .unset, .val (.int (p3 &&& (3 : Int32))), .unset, .unset, .unset, .unset, .unset] [])) _
        refine X0.ldc2Long hx hown (mvT hZ (hw _ (List.mem_of_getElem? (i := 0) rfl))) (g := (mkF m 52 #[.val (.long q0), .second, .val (.long q1), .second, .val (.long q2), .second, .val (.int p3), .val (.long (q0 &&& (9223372036854775807 : Int64))), .second, .unset, .unset, .val (.int (p3 &&& (3 : Int32))), .unset, .unset, .unset, .unset, .unset] [])) rfl (hb hby at_52) _ ?_
        show Steps p.tables e below (s₁.setTop (mkF m 55 #[.val (.long q0), .second, .val (.long q1), .second, .val (.long q2), .second, .val (.int p3), .val (.long (q0 &&& (9223372036854775807 : Int64))), .second, .unset, .unset, .val (.int (p3 &&& (3 : Int32))), .unset, .unset, .unset, .unset, .unset] [(.long (9223372036854775807 : Int64))])) _
        refine XS.lstore X0.here hx rfl (hb hby at_55) rfl (l' := #[.val (.long q0), .second, .val (.long q1), .second, .val (.long q2), .second, .val (.int p3), .val (.long (q0 &&& (9223372036854775807 : Int64))), .second, .val (.long (9223372036854775807 : Int64)), .second, .val (.int (p3 &&& (3 : Int32))), .unset, .unset, .unset, .unset, .unset]) rfl ?_
        show Steps p.tables e below (s₁.setTop (mkF m 57 #[.val (.long q0), .second, .val (.long q1), .second, .val (.long q2), .second, .val (.int p3), .val (.long (q0 &&& (9223372036854775807 : Int64))), .second, .val (.long (9223372036854775807 : Int64)), .second, .val (.int (p3 &&& (3 : Int32))), .unset, .unset, .unset, .unset, .unset] [])) _
        refine XS.goto X0.here hx rfl (pc0 := 57) (pc' := 92) rfl (hb hby at_57) (by decide) (by decide) ?_
        exact k)
      have q_f0_m17 : f0_m17 q0 q1 q2 p3 = (9223372036854775807 : Int64) := by unfold f0_m17; rw [if_neg hc15_2, if_neg hc36_6, if_pos hc49_9]
      rw [q_f0_m17]
      exact ⟨s₁, _, .unset, .unset, X0, e0, N0, Or.inl ⟨rfl, rfl⟩, pre10⟩
    have pre11 : ∀ t, Steps p.tables e below (s₁.setTop (mkF m 76 #[.val (.long q0), .second, .val (.long q1), .second, .val (.long q2), .second, .val (.int p3), .val (.long (q0 &&& (9223372036854775807 : Int64))), .second, .unset, .unset, .val (.int (p3 &&& (3 : Int32))), .val (.long (q1 &&& (7 : Int64))), .second, .unset, .unset, .unset] [(.int (lcmpW (q0 &&& (9223372036854775807 : Int64)) ((9223372036854775807 : Int64) - (q1 &&& (7 : Int64)))))])) t → Steps p.tables e below (s₁.setTop (entryFrame m #[(.long q0), (.long q1), (.long q2), (.int p3)] maxLocals)) t := fun t k => pre8 t (by
      show Steps p.tables e below (s₁.setTop (mkF m 49 #[.val (.long q0), .second, .val (.long q1), .second, .val (.long q2), .second, .val (.int p3), .val (.long (q0 &&& (9223372036854775807 : Int64))), .second, .unset, .unset, .val (.int (p3 &&& (3 : Int32))), .unset, .unset, .unset, .unset, .unset] [(.int (2 : Int32)), (.int (p3 &&& (3 : Int32)))])) _
      refine XS.icmpYes X0.here hx rfl (pc0 := 49) (pc' := 60) rfl (hb hby at_49) rfl (feq hc49_9).2 (by decide) (by decide) ?_
      show Steps p.tables e below (s₁.setTop (mkF m 60 #[.val (.long q0), .second, .val (.long q1), .second, .val (.long q2), .second, .val (.int p3), .val (.long (q0 &&& (9223372036854775807 : Int64))), .second, .unset, .unset, .val (.int (p3 &&& (3 : Int32))), .unset, .unset, .unset, .unset, .unset] [])) _
      refine XS.lloadN X0.here hx rfl (hb hby at_60) rfl ?_
      show Steps p.tables e below (s₁.setTop (mkF m 61 #[.val (.long q0), .second, .val (.long q1), .second, .val (.long q2), .second, .val (.int p3), .val (.long (q0 &&& (9223372036854775807 : Int64))), .second, .unset, .unset, .val (.int (p3 &&& (3 : Int32))), .unset, .unset, .unset, .unset, .unset] [(.long q1)])) _
      refine X0.ldc2Long hx hown (mvT hZ (hw _ (List.mem_of_getElem? (i := 31) rfl))) (g := (mkF m 61 #[.val (.long q0), .second, .val (.long q1), .second, .val (.long q2), .second, .val (.int p3), .val (.long (q0 &&& (9223372036854775807 : Int64))), .second, .unset, .unset, .val (.int (p3 &&& (3 : Int32))), .unset, .unset, .unset, .unset, .unset] [(.long q1)])) rfl (hb hby at_61) _ ?_
      show Steps p.tables e below (s₁.setTop (mkF m 64 #[.val (.long q0), .second, .val (.long q1), .second, .val (.long q2), .second, .val (.int p3), .val (.long (q0 &&& (9223372036854775807 : Int64))), .second, .unset, .unset, .val (.int (p3 &&& (3 : Int32))), .unset, .unset, .unset, .unset, .unset] [(.long (7 : Int64)), (.long q1)])) _
      refine XS.land X0.here hx rfl (hb hby at_64) rfl ?_
      show Steps p.tables e below (s₁.setTop (mkF m 65 #[.val (.long q0), .second, .val (.long q1), .second, .val (.long q2), .second, .val (.int p3), .val (.long (q0 &&& (9223372036854775807 : Int64))), .second, .unset, .unset, .val (.int (p3 &&& (3 : Int32))), .unset, .unset, .unset, .unset, .unset] [(.long (q1 &&& (7 : Int64)))])) _
      refine XS.lstore X0.here hx rfl (hb hby at_65) rfl (l' := #[.val (.long q0), .second, .val (.long q1), .second, .val (.long q2), .second, .val (.int p3), .val (.long (q0 &&& (9223372036854775807 : Int64))), .second, .unset, .unset, .val (.int (p3 &&& (3 : Int32))), .val (.long (q1 &&& (7 : Int64))), .second, .unset, .unset, .unset]) rfl ?_
      show Steps p.tables e below (s₁.setTop (mkF m 67 #[.val (.long q0), .second, .val (.long q1), .second, .val (.long q2), .second, .val (.int p3), .val (.long (q0 &&& (9223372036854775807 : Int64))), .second, .unset, .unset, .val (.int (p3 &&& (3 : Int32))), .val (.long (q1 &&& (7 : Int64))), .second, .unset, .unset, .unset] [])) _
      refine XS.lload X0.here hx rfl (hb hby at_67) rfl ?_
      show Steps p.tables e below (s₁.setTop (mkF m 69 #[.val (.long q0), .second, .val (.long q1), .second, .val (.long q2), .second, .val (.int p3), .val (.long (q0 &&& (9223372036854775807 : Int64))), .second, .unset, .unset, .val (.int (p3 &&& (3 : Int32))), .val (.long (q1 &&& (7 : Int64))), .second, .unset, .unset, .unset] [(.long (q0 &&& (9223372036854775807 : Int64)))])) _
      refine X0.ldc2Long hx hown (mvT hZ (hw _ (List.mem_of_getElem? (i := 0) rfl))) (g := (mkF m 69 #[.val (.long q0), .second, .val (.long q1), .second, .val (.long q2), .second, .val (.int p3), .val (.long (q0 &&& (9223372036854775807 : Int64))), .second, .unset, .unset, .val (.int (p3 &&& (3 : Int32))), .val (.long (q1 &&& (7 : Int64))), .second, .unset, .unset, .unset] [(.long (q0 &&& (9223372036854775807 : Int64)))])) rfl (hb hby at_69) _ ?_
      show Steps p.tables e below (s₁.setTop (mkF m 72 #[.val (.long q0), .second, .val (.long q1), .second, .val (.long q2), .second, .val (.int p3), .val (.long (q0 &&& (9223372036854775807 : Int64))), .second, .unset, .unset, .val (.int (p3 &&& (3 : Int32))), .val (.long (q1 &&& (7 : Int64))), .second, .unset, .unset, .unset] [(.long (9223372036854775807 : Int64)), (.long (q0 &&& (9223372036854775807 : Int64)))])) _
      refine XS.lload X0.here hx rfl (hb hby at_72) rfl ?_
      show Steps p.tables e below (s₁.setTop (mkF m 74 #[.val (.long q0), .second, .val (.long q1), .second, .val (.long q2), .second, .val (.int p3), .val (.long (q0 &&& (9223372036854775807 : Int64))), .second, .unset, .unset, .val (.int (p3 &&& (3 : Int32))), .val (.long (q1 &&& (7 : Int64))), .second, .unset, .unset, .unset] [(.long (q1 &&& (7 : Int64))), (.long (9223372036854775807 : Int64)), (.long (q0 &&& (9223372036854775807 : Int64)))])) _
      refine XS.lsub X0.here hx rfl (hb hby at_74) rfl ?_
      show Steps p.tables e below (s₁.setTop (mkF m 75 #[.val (.long q0), .second, .val (.long q1), .second, .val (.long q2), .second, .val (.int p3), .val (.long (q0 &&& (9223372036854775807 : Int64))), .second, .unset, .unset, .val (.int (p3 &&& (3 : Int32))), .val (.long (q1 &&& (7 : Int64))), .second, .unset, .unset, .unset] [(.long ((9223372036854775807 : Int64) - (q1 &&& (7 : Int64)))), (.long (q0 &&& (9223372036854775807 : Int64)))])) _
      refine XS.lcmp X0.here hx rfl (hb hby at_75) rfl ?_
      exact k)
    obtain ⟨T12, L12, X12, e12, N12, pre12⟩ : ∃ (T' : State) (locs' : List Loc), Stand p l e room_1 s m #[(.long q0), (.long q1), (.long q2), (.int p3)] below meth c T' locs' 0 0 ∧ T'.heap = h0 ∧ Fr n0 locs' ∧ ∀ t, Steps p.tables e below (T'.setTop (mkF m 90 #[.val (.long q0), .second, .val (.long q1), .second, .val (.long q2), .second, .val (.int p3), .val (.long (q0 &&& (9223372036854775807 : Int64))), .second, .unset, .unset, .val (.int (p3 &&& (3 : Int32))), .val (.long (q1 &&& (7 : Int64))), .second, .unset, .unset, .unset] [(.long (f0_m15 q0 q1 q2 p3))])) t → Steps p.tables e below (s₁.setTop (entryFrame m #[(.long q0), (.long q1), (.long q2), (.int p3)] maxLocals)) t := by
      by_cases hc76_12 : ((9223372036854775807 : Int64) - (q1 &&& (7 : Int64))) < (q0 &&& (9223372036854775807 : Int64))
      · have pre13 : ∀ t, Steps p.tables e below (s₁.setTop (mkF m 90 #[.val (.long q0), .second, .val (.long q1), .second, .val (.long q2), .second, .val (.int p3), .val (.long (q0 &&& (9223372036854775807 : Int64))), .second, .unset, .unset, .val (.int (p3 &&& (3 : Int32))), .val (.long (q1 &&& (7 : Int64))), .second, .unset, .unset, .unset] [(.long (9223372036854775807 : Int64))])) t → Steps p.tables e below (s₁.setTop (entryFrame m #[(.long q0), (.long q1), (.long q2), (.int p3)] maxLocals)) t := fun t k => pre11 t (by
          show Steps p.tables e below (s₁.setTop (mkF m 76 #[.val (.long q0), .second, .val (.long q1), .second, .val (.long q2), .second, .val (.int p3), .val (.long (q0 &&& (9223372036854775807 : Int64))), .second, .unset, .unset, .val (.int (p3 &&& (3 : Int32))), .val (.long (q1 &&& (7 : Int64))), .second, .unset, .unset, .unset] [(.int (lcmpW (q0 &&& (9223372036854775807 : Int64)) ((9223372036854775807 : Int64) - (q1 &&& (7 : Int64)))))])) _
          refine XS.ifNo X0.here hx rfl (hb hby at_76) rfl ((if0 _ _).trans (tlt ((lw_gt (q0 &&& (9223372036854775807 : Int64)) ((9223372036854775807 : Int64) - (q1 &&& (7 : Int64)))).mpr hc76_12)).2.2.2) ?_
          show Steps p.tables e below (s₁.setTop (mkF m 79 #[.val (.long q0), .second, .val (.long q1), .second, .val (.long q2), .second, .val (.int p3), .val (.long (q0 &&& (9223372036854775807 : Int64))), .second, .unset, .unset, .val (.int (p3 &&& (3 : Int32))), .val (.long (q1 &&& (7 : Int64))), .second, .unset, .unset, .unset] [])) _
          refine X0.ldc2Long hx hown (mvT hZ (hw _ (List.mem_of_getElem? (i := 0) rfl))) (g := (mkF m 79 #[.val (.long q0), .second, .val (.long q1), .second, .val (.long q2), .second, .val (.int p3), .val (.long (q0 &&& (9223372036854775807 : Int64))), .second, .unset, .unset, .val (.int (p3 &&& (3 : Int32))), .val (.long (q1 &&& (7 : Int64))), .second, .unset, .unset, .unset] [])) rfl (hb hby at_79) _ ?_
          show Steps p.tables e below (s₁.setTop (mkF m 82 #[.val (.long q0), .second, .val (.long q1), .second, .val (.long q2), .second, .val (.int p3), .val (.long (q0 &&& (9223372036854775807 : Int64))), .second, .unset, .unset, .val (.int (p3 &&& (3 : Int32))), .val (.long (q1 &&& (7 : Int64))), .second, .unset, .unset, .unset] [(.long (9223372036854775807 : Int64))])) _
          refine XS.goto X0.here hx rfl (pc0 := 82) (pc' := 90) rfl (hb hby at_82) (by decide) (by decide) ?_
          exact k)
        have q_f0_m15 : f0_m15 q0 q1 q2 p3 = (9223372036854775807 : Int64) := by unfold f0_m15; rw [if_pos hc76_12]
        rw [q_f0_m15]
        exact ⟨s₁, _, X0, e0, N0, pre13⟩
      have pre14 : ∀ t, Steps p.tables e below (s₁.setTop (mkF m 90 #[.val (.long q0), .second, .val (.long q1), .second, .val (.long q2), .second, .val (.int p3), .val (.long (q0 &&& (9223372036854775807 : Int64))), .second, .unset, .unset, .val (.int (p3 &&& (3 : Int32))), .val (.long (q1 &&& (7 : Int64))), .second, .unset, .unset, .unset] [(.long ((q0 &&& (9223372036854775807 : Int64)) + (q1 &&& (7 : Int64))))])) t → Steps p.tables e below (s₁.setTop (entryFrame m #[(.long q0), (.long q1), (.long q2), (.int p3)] maxLocals)) t := fun t k => pre11 t (by
        show Steps p.tables e below (s₁.setTop (mkF m 76 #[.val (.long q0), .second, .val (.long q1), .second, .val (.long q2), .second, .val (.int p3), .val (.long (q0 &&& (9223372036854775807 : Int64))), .second, .unset, .unset, .val (.int (p3 &&& (3 : Int32))), .val (.long (q1 &&& (7 : Int64))), .second, .unset, .unset, .unset] [(.int (lcmpW (q0 &&& (9223372036854775807 : Int64)) ((9223372036854775807 : Int64) - (q1 &&& (7 : Int64)))))])) _
        refine XS.ifYes X0.here hx rfl (pc0 := 76) (pc' := 85) rfl (hb hby at_76) rfl ((if0 _ _).trans (flt (mt (lw_gt (q0 &&& (9223372036854775807 : Int64)) ((9223372036854775807 : Int64) - (q1 &&& (7 : Int64)))).mp hc76_12)).2.2.2) (by decide) (by decide) ?_
        show Steps p.tables e below (s₁.setTop (mkF m 85 #[.val (.long q0), .second, .val (.long q1), .second, .val (.long q2), .second, .val (.int p3), .val (.long (q0 &&& (9223372036854775807 : Int64))), .second, .unset, .unset, .val (.int (p3 &&& (3 : Int32))), .val (.long (q1 &&& (7 : Int64))), .second, .unset, .unset, .unset] [])) _
        refine XS.lload X0.here hx rfl (hb hby at_85) rfl ?_
        show Steps p.tables e below (s₁.setTop (mkF m 87 #[.val (.long q0), .second, .val (.long q1), .second, .val (.long q2), .second, .val (.int p3), .val (.long (q0 &&& (9223372036854775807 : Int64))), .second, .unset, .unset, .val (.int (p3 &&& (3 : Int32))), .val (.long (q1 &&& (7 : Int64))), .second, .unset, .unset, .unset] [(.long (q0 &&& (9223372036854775807 : Int64)))])) _
        refine XS.lload X0.here hx rfl (hb hby at_87) rfl ?_
        show Steps p.tables e below (s₁.setTop (mkF m 89 #[.val (.long q0), .second, .val (.long q1), .second, .val (.long q2), .second, .val (.int p3), .val (.long (q0 &&& (9223372036854775807 : Int64))), .second, .unset, .unset, .val (.int (p3 &&& (3 : Int32))), .val (.long (q1 &&& (7 : Int64))), .second, .unset, .unset, .unset] [(.long (q1 &&& (7 : Int64))), (.long (q0 &&& (9223372036854775807 : Int64)))])) _
        refine XS.ladd X0.here hx rfl (hb hby at_89) rfl ?_
        exact k)
      have q_f0_m15 : f0_m15 q0 q1 q2 p3 = ((q0 &&& (9223372036854775807 : Int64)) + (q1 &&& (7 : Int64))) := by unfold f0_m15; rw [if_neg hc76_12]
      rw [q_f0_m15]
      exact ⟨s₁, _, X0, e0, N0, pre14⟩
    have pre16 : ∀ t, Steps p.tables e below (T12.setTop (mkF m 92 #[.val (.long q0), .second, .val (.long q1), .second, .val (.long q2), .second, .val (.int p3), .val (.long (q0 &&& (9223372036854775807 : Int64))), .second, .val (.long (f0_m15 q0 q1 q2 p3)), .second, .val (.int (p3 &&& (3 : Int32))), .val (.long (q1 &&& (7 : Int64))), .second, .unset, .unset, .unset] [])) t → Steps p.tables e below (s₁.setTop (entryFrame m #[(.long q0), (.long q1), (.long q2), (.int p3)] maxLocals)) t := fun t k => pre12 t (by
      show Steps p.tables e below (T12.setTop (mkF m 90 #[.val (.long q0), .second, .val (.long q1), .second, .val (.long q2), .second, .val (.int p3), .val (.long (q0 &&& (9223372036854775807 : Int64))), .second, .unset, .unset, .val (.int (p3 &&& (3 : Int32))), .val (.long (q1 &&& (7 : Int64))), .second, .unset, .unset, .unset] [(.long (f0_m15 q0 q1 q2 p3))])) _
      refine XS.lstore X12.here hx rfl (hb hby at_90) rfl (l' := #[.val (.long q0), .second, .val (.long q1), .second, .val (.long q2), .second, .val (.int p3), .val (.long (q0 &&& (9223372036854775807 : Int64))), .second, .val (.long (f0_m15 q0 q1 q2 p3)), .second, .val (.int (p3 &&& (3 : Int32))), .val (.long (q1 &&& (7 : Int64))), .second, .unset, .unset, .unset]) rfl ?_
      exact k)
    have q_f0_m17 : f0_m17 q0 q1 q2 p3 = (f0_m15 q0 q1 q2 p3) := by unfold f0_m17; rw [if_neg hc15_2, if_neg hc36_6, if_neg hc49_9]
    rw [q_f0_m17]
    exact ⟨T12, _, .val (.long (q1 &&& (7 : Int64))), .second, X12, e12, N12, Or.inr ⟨_, rfl, rfl⟩, pre16⟩
  obtain ⟨T18, h18, X18, e18, E18, A18, D18, -, st18⟩ := newO X2 hx hZ hown (hw _ (List.mem_of_getElem? (i := 1) rfl)) (hw _ (List.mem_of_getElem? (i := 2) rfl)) (hw _ (List.mem_of_getElem? (i := 3) rfl)) e2 (g := (mkF m 92 #[.val (.long q0), .second, .val (.long q1), .second, .val (.long q2), .second, .val (.int p3), .val (.long (q0 &&& (9223372036854775807 : Int64))), .second, .val (.long (f0_m17 q0 q1 q2 p3)), .second, .val (.int (p3 &&& (3 : Int32))), s2_12, s2_13, .unset, .unset, .unset] [])) rfl (hb hby at_92) (by decide) (by decide)
  obtain ⟨b18, g18⟩ : ∃ z, z = h0.size := ⟨_, rfl⟩
  rw [← g18] at A18 D18 st18
  have g_b18 : n0 ≤ b18 := Nat.le_trans Z0 (Nat.le_of_eq g18.symm)
  have Z18 : n0 ≤ h18.size := Nat.le_trans Z0 E18.1
  have F18_start : Fld Z h18 b18 "com/example/rangekeeper/rangekeeper/core/Range" "start" "J" (.long (0 : Int64)) := D18 (Or.inr (hw _ (List.mem_of_getElem? (i := 16) rfl))) (ty := .long) (by decide)
  have F18_stop : Fld Z h18 b18 "com/example/rangekeeper/rangekeeper/core/Range" "stop" "J" (.long (0 : Int64)) := D18 (Or.inr (hw _ (List.mem_of_getElem? (i := 18) rfl))) (ty := .long) (by decide)
  obtain ⟨_, _, ⟨T19, L19, k19, n19⟩, -, X19, ⟨Lc19, hQ19, l19, y19, z19⟩, st19⟩ := X18.specialBack hx (y := (⟨"com/example/rangekeeper/rangekeeper/core/Range", "<init>", "(JJ)V"⟩ : MethodName)) rfl hown (mvT hZ (hw _ (List.mem_of_getElem? (i := 4) rfl))) (mvT hZ (hw _ (List.mem_of_getElem? (i := 5) rfl))) (mvT hZ (hw _ (List.mem_of_getElem? (i := 6) rfl))) (by decide) (backOf (W := 1) (rm1 l Z a0' hw [] b18 (q0 &&& (9223372036854775807 : Int64)) (f0_m17 q0 q1 q2 p3) (0 : Int64) (0 : Int64) h18 n0 Z18 A18 F18_start F18_stop g_b18 (own_p1 q0) (own_p2 q0 q1 q2 p3)) hZ (hw _ (List.mem_of_getElem? (i := 6) rfl)) (hw _ (List.mem_of_getElem? (i := 3) rfl)) (by decide) (by decide)) (g := (mkF m 100 #[.val (.long q0), .second, .val (.long q1), .second, .val (.long q2), .second, .val (.int p3), .val (.long (q0 &&& (9223372036854775807 : Int64))), .second, .val (.long (f0_m17 q0 q1 q2 p3)), .second, .val (.int (p3 &&& (3 : Int32))), s2_12, s2_13, .unset, .unset, .unset] [(.long (f0_m17 q0 q1 q2 p3)), (.long (q0 &&& (9223372036854775807 : Int64))), (.ref b18), (.ref b18)])) rfl (by rw [hml]; rfl) (Steps.refl _) (a := b18) (argsL := [(.long (q0 &&& (9223372036854775807 : Int64))), (.long (f0_m17 q0 q1 q2 p3))]) (rest := [(.ref b18)]) (lenOf pd2 rfl) rfl (by show 2 * 0 + _ ≤ _; exact Nat.le_of_eq rfl) (hb hby at_100) (fun _ _ => ⟨rfl, e18, (by decide : 1 + 0 ≤ _), (by decide : 2 + 0 ≤ _)⟩)
  dsimp only [Pt.U, Pt.locs, Pt.cells, Pt.slots] at X19 l19 y19 z19 st19 hQ19
  subst l19 y19 z19
  obtain ⟨rfl, N19q, K19, u19_0, u19_1, u19_2⟩ := hQ19
  have N19 := Fr.app N2 N19q
  have Z19 : n0 ≤ T19.heap.size := Nat.le_trans Z18 K19.1
  have os20 : storeLocals #[.val (.long q0), .second, .val (.long q1), .second, .val (.long q2), .second, .val (.int p3), .val (.long (q0 &&& (9223372036854775807 : Int64))), .second, .val (.long (f0_m17 q0 q1 q2 p3)), .second, .val (.int (p3 &&& (3 : Int32))), s2_12, s2_13, .unset, .unset, .unset] 12 (.ref b18) = some #[.val (.long q0), .second, .val (.long q1), .second, .val (.long q2), .second, .val (.int p3), .val (.long (q0 &&& (9223372036854775807 : Int64))), .second, .val (.long (f0_m17 q0 q1 q2 p3)), .second, .val (.int (p3 &&& (3 : Int32))), .val (.ref b18), .unset, .unset, .unset, .unset] := by rcases hs2_12 with ⟨q, q'⟩ | ⟨w, q, q'⟩ <;> rw [q, q'] <;> rfl
  have pre21 : ∀ t, Steps p.tables e below (T19.setTop (mkF m 115 #[.val (.long q0), .second, .val (.long q1), .second, .val (.long q2), .second, .val (.int p3), .val (.long (q0 &&& (9223372036854775807 : Int64))), .second, .val (.long (f0_m17 q0 q1 q2 p3)), .second, .val (.int (p3 &&& (3 : Int32))), .val (.ref b18), .val (.int (((p3.toUInt32 >>> ((2 : Int32) &&& 31).toUInt32).toInt32) &&& (3 : Int32))), .unset, .unset, .unset] [(.int (((p3.toUInt32 >>> ((2 : Int32) &&& 31).toUInt32).toInt32) &&& (3 : Int32)))])) t → Steps p.tables e below (s₁.setTop (entryFrame m #[(.long q0), (.long q1), (.long q2), (.int p3)] maxLocals)) t := fun t k => pre2 t (by
    show Steps p.tables e below (T2.setTop (mkF m 92 #[.val (.long q0), .second, .val (.long q1), .second, .val (.long q2), .second, .val (.int p3), .val (.long (q0 &&& (9223372036854775807 : Int64))), .second, .val (.long (f0_m17 q0 q1 q2 p3)), .second, .val (.int (p3 &&& (3 : Int32))), s2_12, s2_13, .unset, .unset, .unset] [])) _
    refine st18 _ ?_
    show Steps p.tables e below (T18.setTop (mkF m 95 #[.val (.long q0), .second, .val (.long q1), .second, .val (.long q2), .second, .val (.int p3), .val (.long (q0 &&& (9223372036854775807 : Int64))), .second, .val (.long (f0_m17 q0 q1 q2 p3)), .second, .val (.int (p3 &&& (3 : Int32))), s2_12, s2_13, .unset, .unset, .unset] [(.ref b18)])) _
    refine XS.dup X18.here hx rfl (hb hby at_95) rfl rfl ?_
    show Steps p.tables e below (T18.setTop (mkF m 96 #[.val (.long q0), .second, .val (.long q1), .second, .val (.long q2), .second, .val (.int p3), .val (.long (q0 &&& (9223372036854775807 : Int64))), .second, .val (.long (f0_m17 q0 q1 q2 p3)), .second, .val (.int (p3 &&& (3 : Int32))), s2_12, s2_13, .unset, .unset, .unset] [(.ref b18), (.ref b18)])) _
    refine XS.lload X18.here hx rfl (hb hby at_96) rfl ?_
    show Steps p.tables e below (T18.setTop (mkF m 98 #[.val (.long q0), .second, .val (.long q1), .second, .val (.long q2), .second, .val (.int p3), .val (.long (q0 &&& (9223372036854775807 : Int64))), .second, .val (.long (f0_m17 q0 q1 q2 p3)), .second, .val (.int (p3 &&& (3 : Int32))), s2_12, s2_13, .unset, .unset, .unset] [(.long (q0 &&& (9223372036854775807 : Int64))), (.ref b18), (.ref b18)])) _
    refine XS.lload X18.here hx rfl (hb hby at_98) rfl ?_
    show Steps p.tables e below (T18.setTop (mkF m 100 #[.val (.long q0), .second, .val (.long q1), .second, .val (.long q2), .second, .val (.int p3), .val (.long (q0 &&& (9223372036854775807 : Int64))), .second, .val (.long (f0_m17 q0 q1 q2 p3)), .second, .val (.int (p3 &&& (3 : Int32))), s2_12, s2_13, .unset, .unset, .unset] [(.long (f0_m17 q0 q1 q2 p3)), (.long (q0 &&& (9223372036854775807 : Int64))), (.ref b18), (.ref b18)])) _
    refine st19.trans ?_
    show Steps p.tables e below (T19.setTop (mkF m 103 #[.val (.long q0), .second, .val (.long q1), .second, .val (.long q2), .second, .val (.int p3), .val (.long (q0 &&& (9223372036854775807 : Int64))), .second, .val (.long (f0_m17 q0 q1 q2 p3)), .second, .val (.int (p3 &&& (3 : Int32))), s2_12, s2_13, .unset, .unset, .unset] [(.ref b18)])) _
    refine XS.astore X19.here hx rfl (hb hby at_103) rfl rfl (l' := #[.val (.long q0), .second, .val (.long q1), .second, .val (.long q2), .second, .val (.int p3), .val (.long (q0 &&& (9223372036854775807 : Int64))), .second, .val (.long (f0_m17 q0 q1 q2 p3)), .second, .val (.int (p3 &&& (3 : Int32))), .val (.ref b18), .unset, .unset, .unset, .unset]) os20 ?_
    show Steps p.tables e below (T19.setTop (mkF m 105 #[.val (.long q0), .second, .val (.long q1), .second, .val (.long q2), .second, .val (.int p3), .val (.long (q0 &&& (9223372036854775807 : Int64))), .second, .val (.long (f0_m17 q0 q1 q2 p3)), .second, .val (.int (p3 &&& (3 : Int32))), .val (.ref b18), .unset, .unset, .unset, .unset] [])) _
    refine XS.iload X19.here hx rfl (hb hby at_105) rfl ?_
    show Steps p.tables e below (T19.setTop (mkF m 107 #[.val (.long q0), .second, .val (.long q1), .second, .val (.long q2), .second, .val (.int p3), .val (.long (q0 &&& (9223372036854775807 : Int64))), .second, .val (.long (f0_m17 q0 q1 q2 p3)), .second, .val (.int (p3 &&& (3 : Int32))), .val (.ref b18), .unset, .unset, .unset, .unset] [(.int p3)])) _
    refine XS.iconst X19.here hx rfl (hb hby at_107) ?_
    show Steps p.tables e below (T19.setTop (mkF m 108 #[.val (.long q0), .second, .val (.long q1), .second, .val (.long q2), .second, .val (.int p3), .val (.long (q0 &&& (9223372036854775807 : Int64))), .second, .val (.long (f0_m17 q0 q1 q2 p3)), .second, .val (.int (p3 &&& (3 : Int32))), .val (.ref b18), .unset, .unset, .unset, .unset] [(.int (2 : Int32)), (.int p3)])) _
    refine XS.iushr X19.here hx rfl (hb hby at_108) rfl ?_
    show Steps p.tables e below (T19.setTop (mkF m 109 #[.val (.long q0), .second, .val (.long q1), .second, .val (.long q2), .second, .val (.int p3), .val (.long (q0 &&& (9223372036854775807 : Int64))), .second, .val (.long (f0_m17 q0 q1 q2 p3)), .second, .val (.int (p3 &&& (3 : Int32))), .val (.ref b18), .unset, .unset, .unset, .unset] [(.int ((p3.toUInt32 >>> ((2 : Int32) &&& 31).toUInt32).toInt32))])) _
    refine XS.iconst X19.here hx rfl (hb hby at_109) ?_
    show Steps p.tables e below (T19.setTop (mkF m 110 #[.val (.long q0), .second, .val (.long q1), .second, .val (.long q2), .second, .val (.int p3), .val (.long (q0 &&& (9223372036854775807 : Int64))), .second, .val (.long (f0_m17 q0 q1 q2 p3)), .second, .val (.int (p3 &&& (3 : Int32))), .val (.ref b18), .unset, .unset, .unset, .unset] [(.int (3 : Int32)), (.int ((p3.toUInt32 >>> ((2 : Int32) &&& 31).toUInt32).toInt32))])) _
    refine XS.iand X19.here hx rfl (hb hby at_110) rfl ?_
    show Steps p.tables e below (T19.setTop (mkF m 111 #[.val (.long q0), .second, .val (.long q1), .second, .val (.long q2), .second, .val (.int p3), .val (.long (q0 &&& (9223372036854775807 : Int64))), .second, .val (.long (f0_m17 q0 q1 q2 p3)), .second, .val (.int (p3 &&& (3 : Int32))), .val (.ref b18), .unset, .unset, .unset, .unset] [(.int (((p3.toUInt32 >>> ((2 : Int32) &&& 31).toUInt32).toInt32) &&& (3 : Int32)))])) _
    refine XS.istore X19.here hx rfl (hb hby at_111) rfl (l' := #[.val (.long q0), .second, .val (.long q1), .second, .val (.long q2), .second, .val (.int p3), .val (.long (q0 &&& (9223372036854775807 : Int64))), .second, .val (.long (f0_m17 q0 q1 q2 p3)), .second, .val (.int (p3 &&& (3 : Int32))), .val (.ref b18), .val (.int (((p3.toUInt32 >>> ((2 : Int32) &&& 31).toUInt32).toInt32) &&& (3 : Int32))), .unset, .unset, .unset]) rfl ?_
    show Steps p.tables e below (T19.setTop (mkF m 113 #[.val (.long q0), .second, .val (.long q1), .second, .val (.long q2), .second, .val (.int p3), .val (.long (q0 &&& (9223372036854775807 : Int64))), .second, .val (.long (f0_m17 q0 q1 q2 p3)), .second, .val (.int (p3 &&& (3 : Int32))), .val (.ref b18), .val (.int (((p3.toUInt32 >>> ((2 : Int32) &&& 31).toUInt32).toInt32) &&& (3 : Int32))), .unset, .unset, .unset] [])) _
    refine XS.iload X19.here hx rfl (hb hby at_113) rfl ?_
    exact k)
  obtain ⟨T22, L22, X22, e22, N22, pre22⟩ : ∃ (T' : State) (locs' : List Loc), Stand p l e room_1 s m #[(.long q0), (.long q1), (.long q2), (.int p3)] below meth c T' locs' 1 2 ∧ T'.heap = T19.heap ∧ Fr n0 locs' ∧ ∀ t, Steps p.tables e below (T'.setTop (mkF m 193 #[.val (.long q0), .second, .val (.long q1), .second, .val (.long q2), .second, .val (.int p3), .val (.long (q0 &&& (9223372036854775807 : Int64))), .second, .val (.long (f0_m17 q0 q1 q2 p3)), .second, .val (.int (p3 &&& (3 : Int32))), .val (.ref b18), .val (.int (((p3.toUInt32 >>> ((2 : Int32) &&& 31).toUInt32).toInt32) &&& (3 : Int32))), .val (.long (f0_m36 q0 q1 q2 p3)), .second, .unset] [])) t → Steps p.tables e below (s₁.setTop (entryFrame m #[(.long q0), (.long q1), (.long q2), (.int p3)] maxLocals)) t := by
    by_cases hc115_22 : (((p3.toUInt32 >>> ((2 : Int32) &&& 31).toUInt32).toInt32) &&& (3 : Int32)) = (0 : Int32)
    · have pre23 : ∀ t, Steps p.tables e below (T19.setTop (mkF m 193 #[.val (.long q0), .second, .val (.long q1), .second, .val (.long q2), .second, .val (.int p3), .val (.long (q0 &&& (9223372036854775807 : Int64))), .second, .val (.long (f0_m17 q0 q1 q2 p3)), .second, .val (.int (p3 &&& (3 : Int32))), .val (.ref b18), .val (.int (((p3.toUInt32 >>> ((2 : Int32) &&& 31).toUInt32).toInt32) &&& (3 : Int32))), .val (.long q2), .second, .unset] [])) t → Steps p.tables e below (s₁.setTop (entryFrame m #[(.long q0), (.long q1), (.long q2), (.int p3)] maxLocals)) t := fun t k => pre21 t (by
        show Steps p.tables e below (T19.setTop (mkF m 115 #[.val (.long q0), .second, .val (.long q1), .second, .val (.long q2), .second, .val (.int p3), .val (.long (q0 &&& (9223372036854775807 : Int64))), .second, .val (.long (f0_m17 q0 q1 q2 p3)), .second, .val (.int (p3 &&& (3 : Int32))), .val (.ref b18), .val (.int (((p3.toUInt32 >>> ((2 : Int32) &&& 31).toUInt32).toInt32) &&& (3 : Int32))), .unset, .unset, .unset] [(.int (((p3.toUInt32 >>> ((2 : Int32) &&& 31).toUInt32).toInt32) &&& (3 : Int32)))])) _
        refine XS.ifNo X19.here hx rfl (hb hby at_115) rfl ((if0 _ _).trans (teq hc115_22).2) ?_
        show Steps p.tables e below (T19.setTop (mkF m 118 #[.val (.long q0), .second, .val (.long q1), .second, .val (.long q2), .second, .val (.int p3), .val (.long (q0 &&& (9223372036854775807 : Int64))), .second, .val (.long (f0_m17 q0 q1 q2 p3)), .second, .val (.int (p3 &&& (3 : Int32))), .val (.ref b18), .val (.int (((p3.toUInt32 >>> ((2 : Int32) &&& 31).toUInt32).toInt32) &&& (3 : Int32))), .unset, .unset, .unset] [])) _
        refine XS.lload X19.here hx rfl (hb hby at_118) rfl ?_
        show Steps p.tables e below (T19.setTop (mkF m 120 #[.val (.long q0), .second, .val (.long q1), .second, .val (.long q2), .second, .val (.int p3), .val (.long (q0 &&& (9223372036854775807 : Int64))), .second, .val (.long (f0_m17 q0 q1 q2 p3)), .second, .val (.int (p3 &&& (3 : Int32))), .val (.ref b18), .val (.int (((p3.toUInt32 >>> ((2 : Int32) &&& 31).toUInt32).toInt32) &&& (3 : Int32))), .unset, .unset, .unset] [(.long q2)])) _
        refine XS.lstore X19.here hx rfl (hb hby at_120) rfl (l' := #[.val (.long q0), .second, .val (.long q1), .second, .val (.long q2), .second, .val (.int p3), .val (.long (q0 &&& (9223372036854775807 : Int64))), .second, .val (.long (f0_m17 q0 q1 q2 p3)), .second, .val (.int (p3 &&& (3 : Int32))), .val (.ref b18), .val (.int (((p3.toUInt32 >>> ((2 : Int32) &&& 31).toUInt32).toInt32) &&& (3 : Int32))), .val (.long q2), .second, .unset]) rfl ?_
        show Steps p.tables e below (T19.setTop (mkF m 122 #[.val (.long q0), .second, .val (.long q1), .second, .val (.long q2), .second, .val (.int p3), .val (.long (q0 &&& (9223372036854775807 : Int64))), .second, .val (.long (f0_m17 q0 q1 q2 p3)), .second, .val (.int (p3 &&& (3 : Int32))), .val (.ref b18), .val (.int (((p3.toUInt32 >>> ((2 : Int32) &&& 31).toUInt32).toInt32) &&& (3 : Int32))), .val (.long q2), .second, .unset] [])) _
        refine XS.goto X19.here hx rfl (pc0 := 122) (pc' := 193) rfl (hb hby at_122) (by decide) (by decide) ?_
        exact k)
      have q_f0_m36 : f0_m36 q0 q1 q2 p3 = q2 := by unfold f0_m36; rw [if_pos hc115_22]
      rw [q_f0_m36]
      exact ⟨T19, _, X19, rfl, N19, pre23⟩
    have pre24 : ∀ t, Steps p.tables e below (T19.setTop (mkF m 128 #[.val (.long q0), .second, .val (.long q1), .second, .val (.long q2), .second, .val (.int p3), .val (.long (q0 &&& (9223372036854775807 : Int64))), .second, .val (.long (f0_m17 q0 q1 q2 p3)), .second, .val (.int (p3 &&& (3 : Int32))), .val (.ref b18), .val (.int (((p3.toUInt32 >>> ((2 : Int32) &&& 31).toUInt32).toInt32) &&& (3 : Int32))), .unset, .unset, .unset] [(.int (1 : Int32)), (.int (((p3.toUInt32 >>> ((2 : Int32) &&& 31).toUInt32).toInt32) &&& (3 : Int32)))])) t → Steps p.tables e below (s₁.setTop (entryFrame m #[(.long q0), (.long q1), (.long q2), (.int p3)] maxLocals)) t := fun t k => pre21 t (by
      show Steps p.tables e below (T19.setTop (mkF m 115 #[.val (.long q0), .second, .val (.long q1), .second, .val (.long q2), .second, .val (.int p3), .val (.long (q0 &&& (9223372036854775807 : Int64))), .second, .val (.long (f0_m17 q0 q1 q2 p3)), .second, .val (.int (p3 &&& (3 : Int32))), .val (.ref b18), .val (.int (((p3.toUInt32 >>> ((2 : Int32) &&& 31).toUInt32).toInt32) &&& (3 : Int32))), .unset, .unset, .unset] [(.int (((p3.toUInt32 >>> ((2 : Int32) &&& 31).toUInt32).toInt32) &&& (3 : Int32)))])) _
      refine XS.ifYes X19.here hx rfl (pc0 := 115) (pc' := 125) rfl (hb hby at_115) rfl ((if0 _ _).trans (feq hc115_22).2) (by decide) (by decide) ?_
      show Steps p.tables e below (T19.setTop (mkF m 125 #[.val (.long q0), .second, .val (.long q1), .second, .val (.long q2), .second, .val (.int p3), .val (.long (q0 &&& (9223372036854775807 : Int64))), .second, .val (.long (f0_m17 q0 q1 q2 p3)), .second, .val (.int (p3 &&& (3 : Int32))), .val (.ref b18), .val (.int (((p3.toUInt32 >>> ((2 : Int32) &&& 31).toUInt32).toInt32) &&& (3 : Int32))), .unset, .unset, .unset] [])) _
      refine XS.iload X19.here hx rfl (hb hby at_125) rfl ?_
      show Steps p.tables e below (T19.setTop (mkF m 127 #[.val (.long q0), .second, .val (.long q1), .second, .val (.long q2), .second, .val (.int p3), .val (.long (q0 &&& (9223372036854775807 : Int64))), .second, .val (.long (f0_m17 q0 q1 q2 p3)), .second, .val (.int (p3 &&& (3 : Int32))), .val (.ref b18), .val (.int (((p3.toUInt32 >>> ((2 : Int32) &&& 31).toUInt32).toInt32) &&& (3 : Int32))), .unset, .unset, .unset] [(.int (((p3.toUInt32 >>> ((2 : Int32) &&& 31).toUInt32).toInt32) &&& (3 : Int32)))])) _
      refine XS.iconst X19.here hx rfl (hb hby at_127) ?_
      exact k)
    by_cases hc128_25 : (((p3.toUInt32 >>> ((2 : Int32) &&& 31).toUInt32).toInt32) &&& (3 : Int32)) = (1 : Int32)
    · have pre26 : ∀ t, Steps p.tables e below (T19.setTop (mkF m 193 #[.val (.long q0), .second, .val (.long q1), .second, .val (.long q2), .second, .val (.int p3), .val (.long (q0 &&& (9223372036854775807 : Int64))), .second, .val (.long (f0_m17 q0 q1 q2 p3)), .second, .val (.int (p3 &&& (3 : Int32))), .val (.ref b18), .val (.int (((p3.toUInt32 >>> ((2 : Int32) &&& 31).toUInt32).toInt32) &&& (3 : Int32))), .val (.long ((q0 &&& (9223372036854775807 : Int64)) + ((q2 &&& (3 : Int64)) - (2 : Int64)))), .second, .unset] [])) t → Steps p.tables e below (s₁.setTop (entryFrame m #[(.long q0), (.long q1), (.long q2), (.int p3)] maxLocals)) t := fun t k => pre24 t (by
        show Steps p.tables e below (T19.setTop (mkF m 128 #[.val (.long q0), .second, .val (.long q1), .second, .val (.long q2), .second, .val (.int p3), .val (.long (q0 &&& (9223372036854775807 : Int64))), .second, .val (.long (f0_m17 q0 q1 q2 p3)), .second, .val (.int (p3 &&& (3 : Int32))), .val (.ref b18), .val (.int (((p3.toUInt32 >>> ((2 : Int32) &&& 31).toUInt32).toInt32) &&& (3 : Int32))), .unset, .unset, .unset] [(.int (1 : Int32)), (.int (((p3.toUInt32 >>> ((2 : Int32) &&& 31).toUInt32).toInt32) &&& (3 : Int32)))])) _
        refine XS.icmpNo X19.here hx rfl (hb hby at_128) rfl (teq hc128_25).2 ?_
        show Steps p.tables e below (T19.setTop (mkF m 131 #[.val (.long q0), .second, .val (.long q1), .second, .val (.long q2), .second, .val (.int p3), .val (.long (q0 &&& (9223372036854775807 : Int64))), .second, .val (.long (f0_m17 q0 q1 q2 p3)), .second, .val (.int (p3 &&& (3 : Int32))), .val (.ref b18), .val (.int (((p3.toUInt32 >>> ((2 : Int32) &&& 31).toUInt32).toInt32) &&& (3 : Int32))), .unset, .unset, .unset] [])) _
        refine XS.lload X19.here hx rfl (hb hby at_131) rfl ?_
        show Steps p.tables e below (T19.setTop (mkF m 133 #[.val (.long q0), .second, .val (.long q1), .second, .val (.long q2), .second, .val (.int p3), .val (.long (q0 &&& (9223372036854775807 : Int64))), .second, .val (.long (f0_m17 q0 q1 q2 p3)), .second, .val (.int (p3 &&& (3 : Int32))), .val (.ref b18), .val (.int (((p3.toUInt32 >>> ((2 : Int32) &&& 31).toUInt32).toInt32) &&& (3 : Int32))), .unset, .unset, .unset] [(.long (q0 &&& (9223372036854775807 : Int64)))])) _
        refine XS.lload X19.here hx rfl (hb hby at_133) rfl ?_
        show Steps p.tables e below (T19.setTop (mkF m 135 #[.val (.long q0), .second, .val (.long q1), .second, .val (.long q2), .second, .val (.int p3), .val (.long (q0 &&& (9223372036854775807 : Int64))), .second, .val (.long (f0_m17 q0 q1 q2 p3)), .second, .val (.int (p3 &&& (3 : Int32))), .val (.ref b18), .val (.int (((p3.toUInt32 >>> ((2 : Int32) &&& 31).toUInt32).toInt32) &&& (3 : Int32))), .unset, .unset, .unset] [(.long q2), (.long (q0 &&& (9223372036854775807 : Int64)))])) _
        refine X19.ldc2Long hx hown (mvT hZ (hw _ (List.mem_of_getElem? (i := 32) rfl))) (g := (mkF m 135 #[.val (.long q0), .second, .val (.long q1), .second, .val (.long q2), .second, .val (.int p3), .val (.long (q0 &&& (9223372036854775807 : Int64))), .second, .val (.long (f0_m17 q0 q1 q2 p3)), .second, .val (.int (p3 &&& (3 : Int32))), .val (.ref b18), .val (.int (((p3.toUInt32 >>> ((2 : Int32) &&& 31).toUInt32).toInt32) &&& (3 : Int32))), .unset, .unset, .unset] [(.long q2), (.long (q0 &&& (9223372036854775807 : Int64)))])) rfl (hb hby at_135) _ ?_
        show Steps p.tables e below (T19.setTop (mkF m 138 #[.val (.long q0), .second, .val (.long q1), .second, .val (.long q2), .second, .val (.int p3), .val (.long (q0 &&& (9223372036854775807 : Int64))), .second, .val (.long (f0_m17 q0 q1 q2 p3)), .second, .val (.int (p3 &&& (3 : Int32))), .val (.ref b18), .val (.int (((p3.toUInt32 >>> ((2 : Int32) &&& 31).toUInt32).toInt32) &&& (3 : Int32))), .unset, .unset, .unset] [(.long (3 : Int64)), (.long q2), (.long (q0 &&& (9223372036854775807 : Int64)))])) _
        refine XS.land X19.here hx rfl (hb hby at_138) rfl ?_
        show Steps p.tables e below (T19.setTop (mkF m 139 #[.val (.long q0), .second, .val (.long q1), .second, .val (.long q2), .second, .val (.int p3), .val (.long (q0 &&& (9223372036854775807 : Int64))), .second, .val (.long (f0_m17 q0 q1 q2 p3)), .second, .val (.int (p3 &&& (3 : Int32))), .val (.ref b18), .val (.int (((p3.toUInt32 >>> ((2 : Int32) &&& 31).toUInt32).toInt32) &&& (3 : Int32))), .unset, .unset, .unset] [(.long (q2 &&& (3 : Int64))), (.long (q0 &&& (9223372036854775807 : Int64)))])) _
        refine X19.ldc2Long hx hown (mvT hZ (hw _ (List.mem_of_getElem? (i := 33) rfl))) (g := (mkF m 139 #[.val (.long q0), .second, .val (.long q1), .second, .val (.long q2), .second, .val (.int p3), .val (.long (q0 &&& (9223372036854775807 : Int64))), .second, .val (.long (f0_m17 q0 q1 q2 p3)), .second, .val (.int (p3 &&& (3 : Int32))), .val (.ref b18), .val (.int (((p3.toUInt32 >>> ((2 : Int32) &&& 31).toUInt32).toInt32) &&& (3 : Int32))), .unset, .unset, .unset] [(.long (q2 &&& (3 : Int64))), (.long (q0 &&& (9223372036854775807 : Int64)))])) rfl (hb hby at_139) _ ?_
        show Steps p.tables e below (T19.setTop (mkF m 142 #[.val (.long q0), .second, .val (.long q1), .second, .val (.long q2), .second, .val (.int p3), .val (.long (q0 &&& (9223372036854775807 : Int64))), .second, .val (.long (f0_m17 q0 q1 q2 p3)), .second, .val (.int (p3 &&& (3 : Int32))), .val (.ref b18), .val (.int (((p3.toUInt32 >>> ((2 : Int32) &&& 31).toUInt32).toInt32) &&& (3 : Int32))), .unset, .unset, .unset] [(.long (2 : Int64)), (.long (q2 &&& (3 : Int64))), (.long (q0 &&& (9223372036854775807 : Int64)))])) _
        refine XS.lsub X19.here hx rfl (hb hby at_142) rfl ?_
        show Steps p.tables e below (T19.setTop (mkF m 143 #[.val (.long q0), .second, .val (.long q1), .second, .val (.long q2), .second, .val (.int p3), .val (.long (q0 &&& (9223372036854775807 : Int64))), .second, .val (.long (f0_m17 q0 q1 q2 p3)), .second, .val (.int (p3 &&& (3 : Int32))), .val (.ref b18), .val (.int (((p3.toUInt32 >>> ((2 : Int32) &&& 31).toUInt32).toInt32) &&& (3 : Int32))), .unset, .unset, .unset] [(.long ((q2 &&& (3 : Int64)) - (2 : Int64))), (.long (q0 &&& (9223372036854775807 : Int64)))])) _
        refine XS.ladd X19.here hx rfl (hb hby at_143) rfl ?_
        show Steps p.tables e below (T19.setTop (mkF m 144 #[.val (.long q0), .second, .val (.long q1), .second, .val (.long q2), .second, .val (.int p3), .val (.long (q0 &&& (9223372036854775807 : Int64))), .second, .val (.long (f0_m17 q0 q1 q2 p3)), .second, .val (.int (p3 &&& (3 : Int32))), .val (.ref b18), .val (.int (((p3.toUInt32 >>> ((2 : Int32) &&& 31).toUInt32).toInt32) &&& (3 : Int32))), .unset, .unset, .unset] [(.long ((q0 &&& (9223372036854775807 : Int64)) + ((q2 &&& (3 : Int64)) - (2 : Int64))))])) _
        refine XS.lstore X19.here hx rfl (hb hby at_144) rfl (l' := #[.val (.long q0), .second, .val (.long q1), .second, .val (.long q2), .second, .val (.int p3), .val (.long (q0 &&& (9223372036854775807 : Int64))), .second, .val (.long (f0_m17 q0 q1 q2 p3)), .second, .val (.int (p3 &&& (3 : Int32))), .val (.ref b18), .val (.int (((p3.toUInt32 >>> ((2 : Int32) &&& 31).toUInt32).toInt32) &&& (3 : Int32))), .val (.long ((q0 &&& (9223372036854775807 : Int64)) + ((q2 &&& (3 : Int64)) - (2 : Int64)))), .second, .unset]) rfl ?_
        show Steps p.tables e below (T19.setTop (mkF m 146 #[.val (.long q0), .second, .val (.long q1), .second, .val (.long q2), .second, .val (.int p3), .val (.long (q0 &&& (9223372036854775807 : Int64))), .second, .val (.long (f0_m17 q0 q1 q2 p3)), .second, .val (.int (p3 &&& (3 : Int32))), .val (.ref b18), .val (.int (((p3.toUInt32 >>> ((2 : Int32) &&& 31).toUInt32).toInt32) &&& (3 : Int32))), .val (.long ((q0 &&& (9223372036854775807 : Int64)) + ((q2 &&& (3 : Int64)) - (2 : Int64)))), .second, .unset] [])) _
        refine XS.goto X19.here hx rfl (pc0 := 146) (pc' := 193) rfl (hb hby at_146) (by decide) (by decide) ?_
        exact k)
      have q_f0_m36 : f0_m36 q0 q1 q2 p3 = ((q0 &&& (9223372036854775807 : Int64)) + ((q2 &&& (3 : Int64)) - (2 : Int64))) := by unfold f0_m36; rw [if_neg hc115_22, if_pos hc128_25]
      rw [q_f0_m36]
      exact ⟨T19, _, X19, rfl, N19, pre26⟩
    have pre27 : ∀ t, Steps p.tables e below (T19.setTop (mkF m 152 #[.val (.long q0), .second, .val (.long q1), .second, .val (.long q2), .second, .val (.int p3), .val (.long (q0 &&& (9223372036854775807 : Int64))), .second, .val (.long (f0_m17 q0 q1 q2 p3)), .second, .val (.int (p3 &&& (3 : Int32))), .val (.ref b18), .val (.int (((p3.toUInt32 >>> ((2 : Int32) &&& 31).toUInt32).toInt32) &&& (3 : Int32))), .unset, .unset, .unset] [(.int (2 : Int32)), (.int (((p3.toUInt32 >>> ((2 : Int32) &&& 31).toUInt32).toInt32) &&& (3 : Int32)))])) t → Steps p.tables e below (s₁.setTop (entryFrame m #[(.long q0), (.long q1), (.long q2), (.int p3)] maxLocals)) t := fun t k => pre24 t (by
      show Steps p.tables e below (T19.setTop (mkF m 128 #[.val (.long q0), .second, .val (.long q1), .second, .val (.long q2), .second, .val (.int p3), .val (.long (q0 &&& (9223372036854775807 : Int64))), .second, .val (.long (f0_m17 q0 q1 q2 p3)), .second, .val (.int (p3 &&& (3 : Int32))), .val (.ref b18), .val (.int (((p3.toUInt32 >>> ((2 : Int32) &&& 31).toUInt32).toInt32) &&& (3 : Int32))), .unset, .unset, .unset] [(.int (1 : Int32)), (.int (((p3.toUInt32 >>> ((2 : Int32) &&& 31).toUInt32).toInt32) &&& (3 : Int32)))])) _
      refine XS.icmpYes X19.here hx rfl (pc0 := 128) (pc' := 149) rfl (hb hby at_128) rfl (feq hc128_25).2 (by decide) (by decide) ?_
      show Steps p.tables e below (T19.setTop (mkF m 149 #[.val (.long q0), .second, .val (.long q1), .second, .val (.long q2), .second, .val (.int p3), .val (.long (q0 &&& (9223372036854775807 : Int64))), .second, .val (.long (f0_m17 q0 q1 q2 p3)), .second, .val (.int (p3 &&& (3 : Int32))), .val (.ref b18), .val (.int (((p3.toUInt32 >>> ((2 : Int32) &&& 31).toUInt32).toInt32) &&& (3 : Int32))), .unset, .unset, .unset] [])) _
      refine XS.iload X19.here hx rfl (hb hby at_149) rfl ?_
      show Steps p.tables e below (T19.setTop (mkF m 151 #[.val (.long q0), .second, .val (.long q1), .second, .val (.long q2), .second, .val (.int p3), .val (.long (q0 &&& (9223372036854775807 : Int64))), .second, .val (.long (f0_m17 q0 q1 q2 p3)), .second, .val (.int (p3 &&& (3 : Int32))), .val (.ref b18), .val (.int (((p3.toUInt32 >>> ((2 : Int32) &&& 31).toUInt32).toInt32) &&& (3 : Int32))), .unset, .unset, .unset] [(.int (((p3.toUInt32 >>> ((2 : Int32) &&& 31).toUInt32).toInt32) &&& (3 : Int32)))])) _
      refine XS.iconst X19.here hx rfl (hb hby at_151) ?_
      exact k)
    by_cases hc152_28 : (((p3.toUInt32 >>> ((2 : Int32) &&& 31).toUInt32).toInt32) &&& (3 : Int32)) = (2 : Int32)
    · have pre29 : ∀ t, Steps p.tables e below (T19.setTop (mkF m 193 #[.val (.long q0), .second, .val (.long q1), .second, .val (.long q2), .second, .val (.int p3), .val (.long (q0 &&& (9223372036854775807 : Int64))), .second, .val (.long (f0_m17 q0 q1 q2 p3)), .second, .val (.int (p3 &&& (3 : Int32))), .val (.ref b18), .val (.int (((p3.toUInt32 >>> ((2 : Int32) &&& 31).toUInt32).toInt32) &&& (3 : Int32))), .val (.long ((f0_m17 q0 q1 q2 p3) + ((q2 &&& (3 : Int64)) - (2 : Int64)))), .second, .unset] [])) t → Steps p.tables e below (s₁.setTop (entryFrame m #[(.long q0), (.long q1), (.long q2), (.int p3)] maxLocals)) t := fun t k => pre27 t (by
        show Steps p.tables e below (T19.setTop (mkF m 152 #[.val (.long q0), .second, .val (.long q1), .second, .val (.long q2), .second, .val (.int p3), .val (.long (q0 &&& (9223372036854775807 : Int64))), .second, .val (.long (f0_m17 q0 q1 q2 p3)), .second, .val (.int (p3 &&& (3 : Int32))), .val (.ref b18), .val (.int (((p3.toUInt32 >>> ((2 : Int32) &&& 31).toUInt32).toInt32) &&& (3 : Int32))), .unset, .unset, .unset] [(.int (2 : Int32)), (.int (((p3.toUInt32 >>> ((2 : Int32) &&& 31).toUInt32).toInt32) &&& (3 : Int32)))])) _
        refine XS.icmpNo X19.here hx rfl (hb hby at_152) rfl (teq hc152_28).2 ?_
        show Steps p.tables e below (T19.setTop (mkF m 155 #[.val (.long q0), .second, .val (.long q1), .second, .val (.long q2), .second, .val (.int p3), .val (.long (q0 &&& (9223372036854775807 : Int64))), .second, .val (.long (f0_m17 q0 q1 q2 p3)), .second, .val (.int (p3 &&& (3 : Int32))), .val (.ref b18), .val (.int (((p3.toUInt32 >>> ((2 : Int32) &&& 31).toUInt32).toInt32) &&& (3 : Int32))), .unset, .unset, .unset] [])) _
        refine XS.lload X19.here hx rfl (hb hby at_155) rfl ?_
        show Steps p.tables e below (T19.setTop (mkF m 157 #[.val (.long q0), .second, .val (.long q1), .second, .val (.long q2), .second, .val (.int p3), .val (.long (q0 &&& (9223372036854775807 : Int64))), .second, .val (.long (f0_m17 q0 q1 q2 p3)), .second, .val (.int (p3 &&& (3 : Int32))), .val (.ref b18), .val (.int (((p3.toUInt32 >>> ((2 : Int32) &&& 31).toUInt32).toInt32) &&& (3 : Int32))), .unset, .unset, .unset] [(.long (f0_m17 q0 q1 q2 p3))])) _
        refine XS.lload X19.here hx rfl (hb hby at_157) rfl ?_
        show Steps p.tables e below (T19.setTop (mkF m 159 #[.val (.long q0), .second, .val (.long q1), .second, .val (.long q2), .second, .val (.int p3), .val (.long (q0 &&& (9223372036854775807 : Int64))), .second, .val (.long (f0_m17 q0 q1 q2 p3)), .second, .val (.int (p3 &&& (3 : Int32))), .val (.ref b18), .val (.int (((p3.toUInt32 >>> ((2 : Int32) &&& 31).toUInt32).toInt32) &&& (3 : Int32))), .unset, .unset, .unset] [(.long q2), (.long (f0_m17 q0 q1 q2 p3))])) _
        refine X19.ldc2Long hx hown (mvT hZ (hw _ (List.mem_of_getElem? (i := 32) rfl))) (g := (mkF m 159 #[.val (.long q0), .second, .val (.long q1), .second, .val (.long q2), .second, .val (.int p3), .val (.long (q0 &&& (9223372036854775807 : Int64))), .second, .val (.long (f0_m17 q0 q1 q2 p3)), .second, .val (.int (p3 &&& (3 : Int32))), .val (.ref b18), .val (.int (((p3.toUInt32 >>> ((2 : Int32) &&& 31).toUInt32).toInt32) &&& (3 : Int32))), .unset, .unset, .unset] [(.long q2), (.long (f0_m17 q0 q1 q2 p3))])) rfl (hb hby at_159) _ ?_
        show Steps p.tables e below (T19.setTop (mkF m 162 #[.val (.long q0), .second, .val (.long q1), .second, .val (.long q2), .second, .val (.int p3), .val (.long (q0 &&& (9223372036854775807 : Int64))), .second, .val (.long (f0_m17 q0 q1 q2 p3)), .second, .val (.int (p3 &&& (3 : Int32))), .val (.ref b18), .val (.int (((p3.toUInt32 >>> ((2 : Int32) &&& 31).toUInt32).toInt32) &&& (3 : Int32))), .unset, .unset, .unset] [(.long (3 : Int64)), (.long q2), (.long (f0_m17 q0 q1 q2 p3))])) _
        refine XS.land X19.here hx rfl (hb hby at_162) rfl ?_
        show Steps p.tables e below (T19.setTop (mkF m 163 #[.val (.long q0), .second, .val (.long q1), .second, .val (.long q2), .second, .val (.int p3), .val (.long (q0 &&& (9223372036854775807 : Int64))), .second, .val (.long (f0_m17 q0 q1 q2 p3)), .second, .val (.int (p3 &&& (3 : Int32))), .val (.ref b18), .val (.int (((p3.toUInt32 >>> ((2 : Int32) &&& 31).toUInt32).toInt32) &&& (3 : Int32))), .unset, .unset, .unset] [(.long (q2 &&& (3 : Int64))), (.long (f0_m17 q0 q1 q2 p3))])) _
        refine X19.ldc2Long hx hown (mvT hZ (hw _ (List.mem_of_getElem? (i := 33) rfl))) (g := (mkF m 163 #[.val (.long q0), .second, .val (.long q1), .second, .val (.long q2), .second, .val (.int p3), .val (.long (q0 &&& (9223372036854775807 : Int64))), .second, .val (.long (f0_m17 q0 q1 q2 p3)), .second, .val (.int (p3 &&& (3 : Int32))), .val (.ref b18), .val (.int (((p3.toUInt32 >>> ((2 : Int32) &&& 31).toUInt32).toInt32) &&& (3 : Int32))), .unset, .unset, .unset] [(.long (q2 &&& (3 : Int64))), (.long (f0_m17 q0 q1 q2 p3))])) rfl (hb hby at_163) _ ?_
        show Steps p.tables e below (T19.setTop (mkF m 166 #[.val (.long q0), .second, .val (.long q1), .second, .val (.long q2), .second, .val (.int p3), .val (.long (q0 &&& (9223372036854775807 : Int64))), .second, .val (.long (f0_m17 q0 q1 q2 p3)), .second, .val (.int (p3 &&& (3 : Int32))), .val (.ref b18), .val (.int (((p3.toUInt32 >>> ((2 : Int32) &&& 31).toUInt32).toInt32) &&& (3 : Int32))), .unset, .unset, .unset] [(.long (2 : Int64)), (.long (q2 &&& (3 : Int64))), (.long (f0_m17 q0 q1 q2 p3))])) _
        refine XS.lsub X19.here hx rfl (hb hby at_166) rfl ?_
        show Steps p.tables e below (T19.setTop (mkF m 167 #[.val (.long q0), .second, .val (.long q1), .second, .val (.long q2), .second, .val (.int p3), .val (.long (q0 &&& (9223372036854775807 : Int64))), .second, .val (.long (f0_m17 q0 q1 q2 p3)), .second, .val (.int (p3 &&& (3 : Int32))), .val (.ref b18), .val (.int (((p3.toUInt32 >>> ((2 : Int32) &&& 31).toUInt32).toInt32) &&& (3 : Int32))), .unset, .unset, .unset] [(.long ((q2 &&& (3 : Int64)) - (2 : Int64))), (.long (f0_m17 q0 q1 q2 p3))])) _
        refine XS.ladd X19.here hx rfl (hb hby at_167) rfl ?_
        show Steps p.tables e below (T19.setTop (mkF m 168 #[.val (.long q0), .second, .val (.long q1), .second, .val (.long q2), .second, .val (.int p3), .val (.long (q0 &&& (9223372036854775807 : Int64))), .second, .val (.long (f0_m17 q0 q1 q2 p3)), .second, .val (.int (p3 &&& (3 : Int32))), .val (.ref b18), .val (.int (((p3.toUInt32 >>> ((2 : Int32) &&& 31).toUInt32).toInt32) &&& (3 : Int32))), .unset, .unset, .unset] [(.long ((f0_m17 q0 q1 q2 p3) + ((q2 &&& (3 : Int64)) - (2 : Int64))))])) _
        refine XS.lstore X19.here hx rfl (hb hby at_168) rfl (l' := #[.val (.long q0), .second, .val (.long q1), .second, .val (.long q2), .second, .val (.int p3), .val (.long (q0 &&& (9223372036854775807 : Int64))), .second, .val (.long (f0_m17 q0 q1 q2 p3)), .second, .val (.int (p3 &&& (3 : Int32))), .val (.ref b18), .val (.int (((p3.toUInt32 >>> ((2 : Int32) &&& 31).toUInt32).toInt32) &&& (3 : Int32))), .val (.long ((f0_m17 q0 q1 q2 p3) + ((q2 &&& (3 : Int64)) - (2 : Int64)))), .second, .unset]) rfl ?_
        show Steps p.tables e below (T19.setTop (mkF m 170 #[.val (.long q0), .second, .val (.long q1), .second, .val (.long q2), .second, .val (.int p3), .val (.long (q0 &&& (9223372036854775807 : Int64))), .second, .val (.long (f0_m17 q0 q1 q2 p3)), .second, .val (.int (p3 &&& (3 : Int32))), .val (.ref b18), .val (.int (((p3.toUInt32 >>> ((2 : Int32) &&& 31).toUInt32).toInt32) &&& (3 : Int32))), .val (.long ((f0_m17 q0 q1 q2 p3) + ((q2 &&& (3 : Int64)) - (2 : Int64)))), .second, .unset] [])) _
        refine XS.goto X19.here hx rfl (pc0 := 170) (pc' := 193) rfl (hb hby at_170) (by decide) (by decide) ?_
        exact k)
      have q_f0_m36 : f0_m36 q0 q1 q2 p3 = ((f0_m17 q0 q1 q2 p3) + ((q2 &&& (3 : Int64)) - (2 : Int64))) := by unfold f0_m36; rw [if_neg hc115_22, if_neg hc128_25, if_pos hc152_28]
      rw [q_f0_m36]
      exact ⟨T19, _, X19, rfl, N19, pre29⟩
    have pre30 : ∀ t, Steps p.tables e below (T19.setTop (mkF m 179 #[.val (.long q0), .second, .val (.long q1), .second, .val (.long q2), .second, .val (.int p3), .val (.long (q0 &&& (9223372036854775807 : Int64))), .second, .val (.long (f0_m17 q0 q1 q2 p3)), .second, .val (.int (p3 &&& (3 : Int32))), .val (.ref b18), .val (.int (((p3.toUInt32 >>> ((2 : Int32) &&& 31).toUInt32).toInt32) &&& (3 : Int32))), .unset, .unset, .unset] [(.int (lcmpW (q2 &&& (1 : Int64)) (0 : Int64)))])) t → Steps p.tables e below (s₁.setTop (entryFrame m #[(.long q0), (.long q1), (.long q2), (.int p3)] maxLocals)) t := fun t k => pre27 t (by
      show Steps p.tables e below (T19.setTop (mkF m 152 #[.val (.long q0), .second, .val (.long q1), .second, .val (.long q2), .second, .val (.int p3), .val (.long (q0 &&& (9223372036854775807 : Int64))), .second, .val (.long (f0_m17 q0 q1 q2 p3)), .second, .val (.int (p3 &&& (3 : Int32))), .val (.ref b18), .val (.int (((p3.toUInt32 >>> ((2 : Int32) &&& 31).toUInt32).toInt32) &&& (3 : Int32))), .unset, .unset, .unset] [(.int (2 : Int32)), (.int (((p3.toUInt32 >>> ((2 : Int32) &&& 31).toUInt32).toInt32) &&& (3 : Int32)))])) _
      refine XS.icmpYes X19.here hx rfl (pc0 := 152) (pc' := 173) rfl (hb hby at_152) rfl (feq hc152_28).2 (by decide) (by decide) ?_
      show Steps p.tables e below (T19.setTop (mkF m 173 #[.val (.long q0), .second, .val (.long q1), .second, .val (.long q2), .second, .val (.int p3), .val (.long (q0 &&& (9223372036854775807 : Int64))), .second, .val (.long (f0_m17 q0 q1 q2 p3)), .second, .val (.int (p3 &&& (3 : Int32))), .val (.ref b18), .val (.int (((p3.toUInt32 >>> ((2 : Int32) &&& 31).toUInt32).toInt32) &&& (3 : Int32))), .unset, .unset, .unset] [])) _
      refine XS.lload X19.here hx rfl (hb hby at_173) rfl ?_
      show Steps p.tables e below (T19.setTop (mkF m 175 #[.val (.long q0), .second, .val (.long q1), .second, .val (.long q2), .second, .val (.int p3), .val (.long (q0 &&& (9223372036854775807 : Int64))), .second, .val (.long (f0_m17 q0 q1 q2 p3)), .second, .val (.int (p3 &&& (3 : Int32))), .val (.ref b18), .val (.int (((p3.toUInt32 >>> ((2 : Int32) &&& 31).toUInt32).toInt32) &&& (3 : Int32))), .unset, .unset, .unset] [(.long q2)])) _
      refine XS.lconst X19.here hx rfl (hb hby at_175) ?_
      show Steps p.tables e below (T19.setTop (mkF m 176 #[.val (.long q0), .second, .val (.long q1), .second, .val (.long q2), .second, .val (.int p3), .val (.long (q0 &&& (9223372036854775807 : Int64))), .second, .val (.long (f0_m17 q0 q1 q2 p3)), .second, .val (.int (p3 &&& (3 : Int32))), .val (.ref b18), .val (.int (((p3.toUInt32 >>> ((2 : Int32) &&& 31).toUInt32).toInt32) &&& (3 : Int32))), .unset, .unset, .unset] [(.long (1 : Int64)), (.long q2)])) _
      refine XS.land X19.here hx rfl (hb hby at_176) rfl ?_
      show Steps p.tables e below (T19.setTop (mkF m 177 #[.val (.long q0), .second, .val (.long q1), .second, .val (.long q2), .second, .val (.int p3), .val (.long (q0 &&& (9223372036854775807 : Int64))), .second, .val (.long (f0_m17 q0 q1 q2 p3)), .second, .val (.int (p3 &&& (3 : Int32))), .val (.ref b18), .val (.int (((p3.toUInt32 >>> ((2 : Int32) &&& 31).toUInt32).toInt32) &&& (3 : Int32))), .unset, .unset, .unset] [(.long (q2 &&& (1 : Int64)))])) _
      refine XS.lconst X19.here hx rfl (hb hby at_177) ?_
      show Steps p.tables e below (T19.setTop (mkF m 178 #[.val (.long q0), .second, .val (.long q1), .second, .val (.long q2), .second, .val (.int p3), .val (.long (q0 &&& (9223372036854775807 : Int64))), .second, .val (.long (f0_m17 q0 q1 q2 p3)), .second, .val (.int (p3 &&& (3 : Int32))), .val (.ref b18), .val (.int (((p3.toUInt32 >>> ((2 : Int32) &&& 31).toUInt32).toInt32) &&& (3 : Int32))), .unset, .unset, .unset] [(.long (0 : Int64)), (.long (q2 &&& (1 : Int64)))])) _
      refine XS.lcmp X19.here hx rfl (hb hby at_178) rfl ?_
      exact k)
    obtain ⟨T31, L31, X31, e31, N31, pre31⟩ : ∃ (T' : State) (locs' : List Loc), Stand p l e room_1 s m #[(.long q0), (.long q1), (.long q2), (.int p3)] below meth c T' locs' 1 2 ∧ T'.heap = T19.heap ∧ Fr n0 locs' ∧ ∀ t, Steps p.tables e below (T'.setTop (mkF m 191 #[.val (.long q0), .second, .val (.long q1), .second, .val (.long q2), .second, .val (.int p3), .val (.long (q0 &&& (9223372036854775807 : Int64))), .second, .val (.long (f0_m17 q0 q1 q2 p3)), .second, .val (.int (p3 &&& (3 : Int32))), .val (.ref b18), .val (.int (((p3.toUInt32 >>> ((2 : Int32) &&& 31).toUInt32).toInt32) &&& (3 : Int32))), .unset, .unset, .unset] [(.long (f0_m34 q0 q1 q2 p3))])) t → Steps p.tables e below (s₁.setTop (entryFrame m #[(.long q0), (.long q1), (.long q2), (.int p3)] maxLocals)) t := by
      by_cases hc179_31 : (q2 &&& (1 : Int64)) = (0 : Int64)
      · have pre32 : ∀ t, Steps p.tables e below (T19.setTop (mkF m 191 #[.val (.long q0), .second, .val (.long q1), .second, .val (.long q2), .second, .val (.int p3), .val (.long (q0 &&& (9223372036854775807 : Int64))), .second, .val (.long (f0_m17 q0 q1 q2 p3)), .second, .val (.int (p3 &&& (3 : Int32))), .val (.ref b18), .val (.int (((p3.toUInt32 >>> ((2 : Int32) &&& 31).toUInt32).toInt32) &&& (3 : Int32))), .unset, .unset, .unset] [(.long (-9223372036854775808 : Int64))])) t → Steps p.tables e below (s₁.setTop (entryFrame m #[(.long q0), (.long q1), (.long q2), (.int p3)] maxLocals)) t := fun t k => pre30 t (by
          show Steps p.tables e below (T19.setTop (mkF m 179 #[.val (.long q0), .second, .val (.long q1), .second, .val (.long q2), .second, .val (.int p3), .val (.long (q0 &&& (9223372036854775807 : Int64))), .second, .val (.long (f0_m17 q0 q1 q2 p3)), .second, .val (.int (p3 &&& (3 : Int32))), .val (.ref b18), .val (.int (((p3.toUInt32 >>> ((2 : Int32) &&& 31).toUInt32).toInt32) &&& (3 : Int32))), .unset, .unset, .unset] [(.int (lcmpW (q2 &&& (1 : Int64)) (0 : Int64)))])) _
          refine XS.ifNo X19.here hx rfl (hb hby at_179) rfl ((if0 _ _).trans (teq ((lw_eq (q2 &&& (1 : Int64)) (0 : Int64)).mpr hc179_31)).2) ?_
          show Steps p.tables e below (T19.setTop (mkF m 182 #[.val (.long q0), .second, .val (.long q1), .second, .val (.long q2), .second, .val (.int p3), .val (.long (q0 &&& (9223372036854775807 : Int64))), .second, .val (.long (f0_m17 q0 q1 q2 p3)), .second, .val (.int (p3 &&& (3 : Int32))), .val (.ref b18), .val (.int (((p3.toUInt32 >>> ((2 : Int32) &&& 31).toUInt32).toInt32) &&& (3 : Int32))), .unset, .unset, .unset] [])) _
          refine X19.ldc2Long hx hown (mvT hZ (hw _ (List.mem_of_getElem? (i := 34) rfl))) (g := (mkF m 182 #[.val (.long q0), .second, .val (.long q1), .second, .val (.long q2), .second, .val (.int p3), .val (.long (q0 &&& (9223372036854775807 : Int64))), .second, .val (.long (f0_m17 q0 q1 q2 p3)), .second, .val (.int (p3 &&& (3 : Int32))), .val (.ref b18), .val (.int (((p3.toUInt32 >>> ((2 : Int32) &&& 31).toUInt32).toInt32) &&& (3 : Int32))), .unset, .unset, .unset] [])) rfl (hb hby at_182) _ ?_
          show Steps p.tables e below (T19.setTop (mkF m 185 #[.val (.long q0), .second, .val (.long q1), .second, .val (.long q2), .second, .val (.int p3), .val (.long (q0 &&& (9223372036854775807 : Int64))), .second, .val (.long (f0_m17 q0 q1 q2 p3)), .second, .val (.int (p3 &&& (3 : Int32))), .val (.ref b18), .val (.int (((p3.toUInt32 >>> ((2 : Int32) &&& 31).toUInt32).toInt32) &&& (3 : Int32))), .unset, .unset, .unset] [(.long (-9223372036854775808 : Int64))])) _
          refine XS.goto X19.here hx rfl (pc0 := 185) (pc' := 191) rfl (hb hby at_185) (by decide) (by decide) ?_
          exact k)
        have q_f0_m34 : f0_m34 q0 q1 q2 p3 = (-9223372036854775808 : Int64) := by unfold f0_m34; rw [if_pos hc179_31]
        rw [q_f0_m34]
        exact ⟨T19, _, X19, rfl, N19, pre32⟩
      have pre33 : ∀ t, Steps p.tables e below (T19.setTop (mkF m 191 #[.val (.long q0), .second, .val (.long q1), .second, .val (.long q2), .second, .val (.int p3), .val (.long (q0 &&& (9223372036854775807 : Int64))), .second, .val (.long (f0_m17 q0 q1 q2 p3)), .second, .val (.int (p3 &&& (3 : Int32))), .val (.ref b18), .val (.int (((p3.toUInt32 >>> ((2 : Int32) &&& 31).toUInt32).toInt32) &&& (3 : Int32))), .unset, .unset, .unset] [(.long (9223372036854775807 : Int64))])) t → Steps p.tables e below (s₁.setTop (entryFrame m #[(.long q0), (.long q1), (.long q2), (.int p3)] maxLocals)) t := fun t k => pre30 t (by
        show Steps p.tables e below (T19.setTop (mkF m 179 #[.val (.long q0), .second, .val (.long q1), .second, .val (.long q2), .second, .val (.int p3), .val (.long (q0 &&& (9223372036854775807 : Int64))), .second, .val (.long (f0_m17 q0 q1 q2 p3)), .second, .val (.int (p3 &&& (3 : Int32))), .val (.ref b18), .val (.int (((p3.toUInt32 >>> ((2 : Int32) &&& 31).toUInt32).toInt32) &&& (3 : Int32))), .unset, .unset, .unset] [(.int (lcmpW (q2 &&& (1 : Int64)) (0 : Int64)))])) _
        refine XS.ifYes X19.here hx rfl (pc0 := 179) (pc' := 188) rfl (hb hby at_179) rfl ((if0 _ _).trans (feq (mt (lw_eq (q2 &&& (1 : Int64)) (0 : Int64)).mp hc179_31)).2) (by decide) (by decide) ?_
        show Steps p.tables e below (T19.setTop (mkF m 188 #[.val (.long q0), .second, .val (.long q1), .second, .val (.long q2), .second, .val (.int p3), .val (.long (q0 &&& (9223372036854775807 : Int64))), .second, .val (.long (f0_m17 q0 q1 q2 p3)), .second, .val (.int (p3 &&& (3 : Int32))), .val (.ref b18), .val (.int (((p3.toUInt32 >>> ((2 : Int32) &&& 31).toUInt32).toInt32) &&& (3 : Int32))), .unset, .unset, .unset] [])) _
        refine X19.ldc2Long hx hown (mvT hZ (hw _ (List.mem_of_getElem? (i := 0) rfl))) (g := (mkF m 188 #[.val (.long q0), .second, .val (.long q1), .second, .val (.long q2), .second, .val (.int p3), .val (.long (q0 &&& (9223372036854775807 : Int64))), .second, .val (.long (f0_m17 q0 q1 q2 p3)), .second, .val (.int (p3 &&& (3 : Int32))), .val (.ref b18), .val (.int (((p3.toUInt32 >>> ((2 : Int32) &&& 31).toUInt32).toInt32) &&& (3 : Int32))), .unset, .unset, .unset] [])) rfl (hb hby at_188) _ ?_
        exact k)
      have q_f0_m34 : f0_m34 q0 q1 q2 p3 = (9223372036854775807 : Int64) := by unfold f0_m34; rw [if_neg hc179_31]
      rw [q_f0_m34]
      exact ⟨T19, _, X19, rfl, N19, pre33⟩
    have pre35 : ∀ t, Steps p.tables e below (T31.setTop (mkF m 193 #[.val (.long q0), .second, .val (.long q1), .second, .val (.long q2), .second, .val (.int p3), .val (.long (q0 &&& (9223372036854775807 : Int64))), .second, .val (.long (f0_m17 q0 q1 q2 p3)), .second, .val (.int (p3 &&& (3 : Int32))), .val (.ref b18), .val (.int (((p3.toUInt32 >>> ((2 : Int32) &&& 31).toUInt32).toInt32) &&& (3 : Int32))), .val (.long (f0_m34 q0 q1 q2 p3)), .second, .unset] [])) t → Steps p.tables e below (s₁.setTop (entryFrame m #[(.long q0), (.long q1), (.long q2), (.int p3)] maxLocals)) t := fun t k => pre31 t (by
      show Steps p.tables e below (T31.setTop (mkF m 191 #[.val (.long q0), .second, .val (.long q1), .second, .val (.long q2), .second, .val (.int p3), .val (.long (q0 &&& (9223372036854775807 : Int64))), .second, .val (.long (f0_m17 q0 q1 q2 p3)), .second, .val (.int (p3 &&& (3 : Int32))), .val (.ref b18), .val (.int (((p3.toUInt32 >>> ((2 : Int32) &&& 31).toUInt32).toInt32) &&& (3 : Int32))), .unset, .unset, .unset] [(.long (f0_m34 q0 q1 q2 p3))])) _
      refine XS.lstore X31.here hx rfl (hb hby at_191) rfl (l' := #[.val (.long q0), .second, .val (.long q1), .second, .val (.long q2), .second, .val (.int p3), .val (.long (q0 &&& (9223372036854775807 : Int64))), .second, .val (.long (f0_m17 q0 q1 q2 p3)), .second, .val (.int (p3 &&& (3 : Int32))), .val (.ref b18), .val (.int (((p3.toUInt32 >>> ((2 : Int32) &&& 31).toUInt32).toInt32) &&& (3 : Int32))), .val (.long (f0_m34 q0 q1 q2 p3)), .second, .unset]) rfl ?_
      exact k)
    have q_f0_m36 : f0_m36 q0 q1 q2 p3 = (f0_m34 q0 q1 q2 p3) := by unfold f0_m36; rw [if_neg hc115_22, if_neg hc128_25, if_neg hc152_28]
    rw [q_f0_m36]
    exact ⟨T31, _, X31, e31, N31, pre35⟩
  have pre37 : ∀ t, Steps p.tables e below (T22.setTop (mkF m 198 #[.val (.long q0), .second, .val (.long q1), .second, .val (.long q2), .second, .val (.int p3), .val (.long (q0 &&& (9223372036854775807 : Int64))), .second, .val (.long (f0_m17 q0 q1 q2 p3)), .second, .val (.int (p3 &&& (3 : Int32))), .val (.ref b18), .val (.int (((p3.toUInt32 >>> ((2 : Int32) &&& 31).toUInt32).toInt32) &&& (3 : Int32))), .val (.long (f0_m36 q0 q1 q2 p3)), .second, .unset] [(.int (lcmpW (q0 &&& (9223372036854775807 : Int64)) (f0_m17 q0 q1 q2 p3)))])) t → Steps p.tables e below (s₁.setTop (entryFrame m #[(.long q0), (.long q1), (.long q2), (.int p3)] maxLocals)) t := fun t k => pre22 t (by
    show Steps p.tables e below (T22.setTop (mkF m 193 #[.val (.long q0), .second, .val (.long q1), .second, .val (.long q2), .second, .val (.int p3), .val (.long (q0 &&& (9223372036854775807 : Int64))), .second, .val (.long (f0_m17 q0 q1 q2 p3)), .second, .val (.int (p3 &&& (3 : Int32))), .val (.ref b18), .val (.int (((p3.toUInt32 >>> ((2 : Int32) &&& 31).toUInt32).toInt32) &&& (3 : Int32))), .val (.long (f0_m36 q0 q1 q2 p3)), .second, .unset] [])) _
    refine XS.lload X22.here hx rfl (hb hby at_193) rfl ?_
    show Steps p.tables e below (T22.setTop (mkF m 195 #[.val (.long q0), .second, .val (.long q1), .second, .val (.long q2), .second, .val (.int p3), .val (.long (q0 &&& (9223372036854775807 : Int64))), .second, .val (.long (f0_m17 q0 q1 q2 p3)), .second, .val (.int (p3 &&& (3 : Int32))), .val (.ref b18), .val (.int (((p3.toUInt32 >>> ((2 : Int32) &&& 31).toUInt32).toInt32) &&& (3 : Int32))), .val (.long (f0_m36 q0 q1 q2 p3)), .second, .unset] [(.long (q0 &&& (9223372036854775807 : Int64)))])) _
    refine XS.lload X22.here hx rfl (hb hby at_195) rfl ?_
    show Steps p.tables e below (T22.setTop (mkF m 197 #[.val (.long q0), .second, .val (.long q1), .second, .val (.long q2), .second, .val (.int p3), .val (.long (q0 &&& (9223372036854775807 : Int64))), .second, .val (.long (f0_m17 q0 q1 q2 p3)), .second, .val (.int (p3 &&& (3 : Int32))), .val (.ref b18), .val (.int (((p3.toUInt32 >>> ((2 : Int32) &&& 31).toUInt32).toInt32) &&& (3 : Int32))), .val (.long (f0_m36 q0 q1 q2 p3)), .second, .unset] [(.long (f0_m17 q0 q1 q2 p3)), (.long (q0 &&& (9223372036854775807 : Int64)))])) _
    refine XS.lcmp X22.here hx rfl (hb hby at_197) rfl ?_
    exact k)
  obtain ⟨T38, L38, X38, e38, N38, pre38⟩ : ∃ (T' : State) (locs' : List Loc), Stand p l e room_1 s m #[(.long q0), (.long q1), (.long q2), (.int p3)] below meth c T' locs' 1 2 ∧ T'.heap = T19.heap ∧ Fr n0 locs' ∧ ∀ t, Steps p.tables e below (T'.setTop (mkF m 226 #[.val (.long q0), .second, .val (.long q1), .second, .val (.long q2), .second, .val (.int p3), .val (.long (q0 &&& (9223372036854775807 : Int64))), .second, .val (.long (f0_m17 q0 q1 q2 p3)), .second, .val (.int (p3 &&& (3 : Int32))), .val (.ref b18), .val (.int (((p3.toUInt32 >>> ((2 : Int32) &&& 31).toUInt32).toInt32) &&& (3 : Int32))), .val (.long (f0_m36 q0 q1 q2 p3)), .second, .unset] [(.int (f0_m46 q0 q1 q2 p3))])) t → Steps p.tables e below (s₁.setTop (entryFrame m #[(.long q0), (.long q1), (.long q2), (.int p3)] maxLocals)) t := by
    by_cases hc198_38 : (q0 &&& (9223372036854775807 : Int64)) < (f0_m17 q0 q1 q2 p3)
    · obtain ⟨_, _, ⟨T39, L39, k39, n39⟩, -, X39, ⟨Lc39, hQ39, l39, y39, z39⟩, st39⟩ := Jvm.LawKit.callS X22 hx (y := (⟨"java/lang/Math", "min", "(JJ)J"⟩ : MethodName)) hown (mvT hZ (hw _ (List.mem_of_getElem? (i := 19) rfl))) (mvT hZ (hw _ (List.mem_of_getElem? (i := 20) rfl))) (mvT hZ (hw _ (List.mem_of_getElem? (i := 21) rfl))) (mvT hZ (hw _ (List.mem_of_getElem? (i := 22) rfl))) (by decide) (backOf (W := 2) (rm4 l Z a0' hw [] (f0_m36 q0 q1 q2 p3) ((f0_m17 q0 q1 q2 p3) - (1 : Int64)) T19.heap n0 Z19) hZ (hw _ (List.mem_of_getElem? (i := 22) rfl)) (hw _ (List.mem_of_getElem? (i := 21) rfl)) (by decide) (by decide)) (g := (mkF m 209 #[.val (.long q0), .second, .val (.long q1), .second, .val (.long q2), .second, .val (.int p3), .val (.long (q0 &&& (9223372036854775807 : Int64))), .second, .val (.long (f0_m17 q0 q1 q2 p3)), .second, .val (.int (p3 &&& (3 : Int32))), .val (.ref b18), .val (.int (((p3.toUInt32 >>> ((2 : Int32) &&& 31).toUInt32).toInt32) &&& (3 : Int32))), .val (.long (f0_m36 q0 q1 q2 p3)), .second, .unset] [(.long ((f0_m17 q0 q1 q2 p3) - (1 : Int64))), (.long (f0_m36 q0 q1 q2 p3)), (.long (q0 &&& (9223372036854775807 : Int64)))])) rfl (by rw [hml]; rfl) (argsL := [(.long (f0_m36 q0 q1 q2 p3)), (.long ((f0_m17 q0 q1 q2 p3) - (1 : Int64)))]) (rest := [(.long (q0 &&& (9223372036854775807 : Int64)))]) (lenOf pd1 rfl) rfl (by show 2 * 0 + _ ≤ _; exact Nat.le_of_eq rfl) (hb hby at_209) (fun _ _ => ⟨rfl, e22, (by decide : 1 + 0 ≤ _), (by decide : 2 + 0 ≤ _)⟩)
      dsimp only [Pt.U, Pt.locs, Pt.cells, Pt.slots] at X39 l39 y39 z39 st39 hQ39
      subst l39 y39 z39
      obtain ⟨rfl, N39q, e39⟩ := hQ39
      have N39 := Fr.app N22 N39q
      obtain ⟨_, _, ⟨T40, L40, k40, n40⟩, -, X40, ⟨Lc40, hQ40, l40, y40, z40⟩, st40⟩ := Jvm.LawKit.callS X39 hx (y := (⟨"java/lang/Math", "max", "(JJ)J"⟩ : MethodName)) hown (mvT hZ (hw _ (List.mem_of_getElem? (i := 23) rfl))) (mvT hZ (hw _ (List.mem_of_getElem? (i := 24) rfl))) (mvT hZ (hw _ (List.mem_of_getElem? (i := 21) rfl))) (mvT hZ (hw _ (List.mem_of_getElem? (i := 25) rfl))) (by decide) (backOf (W := 0) (rm5 l Z a0' hw [] (q0 &&& (9223372036854775807 : Int64)) (F4 (f0_m36 q0 q1 q2 p3) ((f0_m17 q0 q1 q2 p3) - (1 : Int64))) T19.heap n0 Z19) hZ (hw _ (List.mem_of_getElem? (i := 25) rfl)) (hw _ (List.mem_of_getElem? (i := 21) rfl)) (by decide) (by decide)) (g := (mkF m 212 #[.val (.long q0), .second, .val (.long q1), .second, .val (.long q2), .second, .val (.int p3), .val (.long (q0 &&& (9223372036854775807 : Int64))), .second, .val (.long (f0_m17 q0 q1 q2 p3)), .second, .val (.int (p3 &&& (3 : Int32))), .val (.ref b18), .val (.int (((p3.toUInt32 >>> ((2 : Int32) &&& 31).toUInt32).toInt32) &&& (3 : Int32))), .val (.long (f0_m36 q0 q1 q2 p3)), .second, .unset] [(.long (F4 (f0_m36 q0 q1 q2 p3) ((f0_m17 q0 q1 q2 p3) - (1 : Int64)))), (.long (q0 &&& (9223372036854775807 : Int64)))])) rfl (by rw [hml]; rfl) (argsL := [(.long (q0 &&& (9223372036854775807 : Int64))), (.long (F4 (f0_m36 q0 q1 q2 p3) ((f0_m17 q0 q1 q2 p3) - (1 : Int64))))]) (rest := []) (lenOf pd1 rfl) rfl (by show 2 * 0 + _ ≤ _; exact Nat.le_of_eq rfl) (hb hby at_212) (fun _ _ => ⟨rfl, e39, (by decide : 1 + 0 ≤ _), (by decide : 2 + 0 ≤ _)⟩)
      dsimp only [Pt.U, Pt.locs, Pt.cells, Pt.slots] at X40 l40 y40 z40 st40 hQ40
      subst l40 y40 z40
      obtain ⟨rfl, N40q, e40⟩ := hQ40
      have N40 := Fr.app N39 N40q
      have pre41 : ∀ t, Steps p.tables e below (T40.setTop (mkF m 218 #[.val (.long q0), .second, .val (.long q1), .second, .val (.long q2), .second, .val (.int p3), .val (.long (q0 &&& (9223372036854775807 : Int64))), .second, .val (.long (f0_m17 q0 q1 q2 p3)), .second, .val (.int (p3 &&& (3 : Int32))), .val (.ref b18), .val (.int (((p3.toUInt32 >>> ((2 : Int32) &&& 31).toUInt32).toInt32) &&& (3 : Int32))), .val (.long (f0_m36 q0 q1 q2 p3)), .second, .unset] [(.int (lcmpW (F5 (q0 &&& (9223372036854775807 : Int64)) (F4 (f0_m36 q0 q1 q2 p3) ((f0_m17 q0 q1 q2 p3) - (1 : Int64)))) (f0_m36 q0 q1 q2 p3)))])) t → Steps p.tables e below (s₁.setTop (entryFrame m #[(.long q0), (.long q1), (.long q2), (.int p3)] maxLocals)) t := fun t k => pre37 t (by
        show Steps p.tables e below (T22.setTop (mkF m 198 #[.val (.long q0), .second, .val (.long q1), .second, .val (.long q2), .second, .val (.int p3), .val (.long (q0 &&& (9223372036854775807 : Int64))), .second, .val (.long (f0_m17 q0 q1 q2 p3)), .second, .val (.int (p3 &&& (3 : Int32))), .val (.ref b18), .val (.int (((p3.toUInt32 >>> ((2 : Int32) &&& 31).toUInt32).toInt32) &&& (3 : Int32))), .val (.long (f0_m36 q0 q1 q2 p3)), .second, .unset] [(.int (lcmpW (q0 &&& (9223372036854775807 : Int64)) (f0_m17 q0 q1 q2 p3)))])) _
        refine XS.ifNo X22.here hx rfl (hb hby at_198) rfl ((if0 _ _).trans (tlt ((lw_lt (q0 &&& (9223372036854775807 : Int64)) (f0_m17 q0 q1 q2 p3)).mpr hc198_38)).2.1) ?_
        show Steps p.tables e below (T22.setTop (mkF m 201 #[.val (.long q0), .second, .val (.long q1), .second, .val (.long q2), .second, .val (.int p3), .val (.long (q0 &&& (9223372036854775807 : Int64))), .second, .val (.long (f0_m17 q0 q1 q2 p3)), .second, .val (.int (p3 &&& (3 : Int32))), .val (.ref b18), .val (.int (((p3.toUInt32 >>> ((2 : Int32) &&& 31).toUInt32).toInt32) &&& (3 : Int32))), .val (.long (f0_m36 q0 q1 q2 p3)), .second, .unset] [])) _
        refine XS.lload X22.here hx rfl (hb hby at_201) rfl ?_
        show Steps p.tables e below (T22.setTop (mkF m 203 #[.val (.long q0), .second, .val (.long q1), .second, .val (.long q2), .second, .val (.int p3), .val (.long (q0 &&& (9223372036854775807 : Int64))), .second, .val (.long (f0_m17 q0 q1 q2 p3)), .second, .val (.int (p3 &&& (3 : Int32))), .val (.ref b18), .val (.int (((p3.toUInt32 >>> ((2 : Int32) &&& 31).toUInt32).toInt32) &&& (3 : Int32))), .val (.long (f0_m36 q0 q1 q2 p3)), .second, .unset] [(.long (q0 &&& (9223372036854775807 : Int64)))])) _
        refine XS.lload X22.here hx rfl (hb hby at_203) rfl ?_
        show Steps p.tables e below (T22.setTop (mkF m 205 #[.val (.long q0), .second, .val (.long q1), .second, .val (.long q2), .second, .val (.int p3), .val (.long (q0 &&& (9223372036854775807 : Int64))), .second, .val (.long (f0_m17 q0 q1 q2 p3)), .second, .val (.int (p3 &&& (3 : Int32))), .val (.ref b18), .val (.int (((p3.toUInt32 >>> ((2 : Int32) &&& 31).toUInt32).toInt32) &&& (3 : Int32))), .val (.long (f0_m36 q0 q1 q2 p3)), .second, .unset] [(.long (f0_m36 q0 q1 q2 p3)), (.long (q0 &&& (9223372036854775807 : Int64)))])) _
        refine XS.lload X22.here hx rfl (hb hby at_205) rfl ?_
        show Steps p.tables e below (T22.setTop (mkF m 207 #[.val (.long q0), .second, .val (.long q1), .second, .val (.long q2), .second, .val (.int p3), .val (.long (q0 &&& (9223372036854775807 : Int64))), .second, .val (.long (f0_m17 q0 q1 q2 p3)), .second, .val (.int (p3 &&& (3 : Int32))), .val (.ref b18), .val (.int (((p3.toUInt32 >>> ((2 : Int32) &&& 31).toUInt32).toInt32) &&& (3 : Int32))), .val (.long (f0_m36 q0 q1 q2 p3)), .second, .unset] [(.long (f0_m17 q0 q1 q2 p3)), (.long (f0_m36 q0 q1 q2 p3)), (.long (q0 &&& (9223372036854775807 : Int64)))])) _
        refine XS.lconst X22.here hx rfl (hb hby at_207) ?_
        show Steps p.tables e below (T22.setTop (mkF m 208 #[.val (.long q0), .second, .val (.long q1), .second, .val (.long q2), .second, .val (.int p3), .val (.long (q0 &&& (9223372036854775807 : Int64))), .second, .val (.long (f0_m17 q0 q1 q2 p3)), .second, .val (.int (p3 &&& (3 : Int32))), .val (.ref b18), .val (.int (((p3.toUInt32 >>> ((2 : Int32) &&& 31).toUInt32).toInt32) &&& (3 : Int32))), .val (.long (f0_m36 q0 q1 q2 p3)), .second, .unset] [(.long (1 : Int64)), (.long (f0_m17 q0 q1 q2 p3)), (.long (f0_m36 q0 q1 q2 p3)), (.long (q0 &&& (9223372036854775807 : Int64)))])) _
        refine XS.lsub X22.here hx rfl (hb hby at_208) rfl ?_
        show Steps p.tables e below (T22.setTop (mkF m 209 #[.val (.long q0), .second, .val (.long q1), .second, .val (.long q2), .second, .val (.int p3), .val (.long (q0 &&& (9223372036854775807 : Int64))), .second, .val (.long (f0_m17 q0 q1 q2 p3)), .second, .val (.int (p3 &&& (3 : Int32))), .val (.ref b18), .val (.int (((p3.toUInt32 >>> ((2 : Int32) &&& 31).toUInt32).toInt32) &&& (3 : Int32))), .val (.long (f0_m36 q0 q1 q2 p3)), .second, .unset] [(.long ((f0_m17 q0 q1 q2 p3) - (1 : Int64))), (.long (f0_m36 q0 q1 q2 p3)), (.long (q0 &&& (9223372036854775807 : Int64)))])) _
        refine st39 _ ?_
        show Steps p.tables e below (T39.setTop (mkF m 212 #[.val (.long q0), .second, .val (.long q1), .second, .val (.long q2), .second, .val (.int p3), .val (.long (q0 &&& (9223372036854775807 : Int64))), .second, .val (.long (f0_m17 q0 q1 q2 p3)), .second, .val (.int (p3 &&& (3 : Int32))), .val (.ref b18), .val (.int (((p3.toUInt32 >>> ((2 : Int32) &&& 31).toUInt32).toInt32) &&& (3 : Int32))), .val (.long (f0_m36 q0 q1 q2 p3)), .second, .unset] [(.long (F4 (f0_m36 q0 q1 q2 p3) ((f0_m17 q0 q1 q2 p3) - (1 : Int64)))), (.long (q0 &&& (9223372036854775807 : Int64)))])) _
        refine st40 _ ?_
        show Steps p.tables e below (T40.setTop (mkF m 215 #[.val (.long q0), .second, .val (.long q1), .second, .val (.long q2), .second, .val (.int p3), .val (.long (q0 &&& (9223372036854775807 : Int64))), .second, .val (.long (f0_m17 q0 q1 q2 p3)), .second, .val (.int (p3 &&& (3 : Int32))), .val (.ref b18), .val (.int (((p3.toUInt32 >>> ((2 : Int32) &&& 31).toUInt32).toInt32) &&& (3 : Int32))), .val (.long (f0_m36 q0 q1 q2 p3)), .second, .unset] [(.long (F5 (q0 &&& (9223372036854775807 : Int64)) (F4 (f0_m36 q0 q1 q2 p3) ((f0_m17 q0 q1 q2 p3) - (1 : Int64)))))])) _
        refine XS.lload X40.here hx rfl (hb hby at_215) rfl ?_
        show Steps p.tables e below (T40.setTop (mkF m 217 #[.val (.long q0), .second, .val (.long q1), .second, .val (.long q2), .second, .val (.int p3), .val (.long (q0 &&& (9223372036854775807 : Int64))), .second, .val (.long (f0_m17 q0 q1 q2 p3)), .second, .val (.int (p3 &&& (3 : Int32))), .val (.ref b18), .val (.int (((p3.toUInt32 >>> ((2 : Int32) &&& 31).toUInt32).toInt32) &&& (3 : Int32))), .val (.long (f0_m36 q0 q1 q2 p3)), .second, .unset] [(.long (f0_m36 q0 q1 q2 p3)), (.long (F5 (q0 &&& (9223372036854775807 : Int64)) (F4 (f0_m36 q0 q1 q2 p3) ((f0_m17 q0 q1 q2 p3) - (1 : Int64)))))])) _
        refine XS.lcmp X40.here hx rfl (hb hby at_217) rfl ?_
        exact k)
      by_cases hc218_42 : (F5 (q0 &&& (9223372036854775807 : Int64)) (F4 (f0_m36 q0 q1 q2 p3) ((f0_m17 q0 q1 q2 p3) - (1 : Int64)))) = (f0_m36 q0 q1 q2 p3)
      · have pre43 : ∀ t, Steps p.tables e below (T40.setTop (mkF m 226 #[.val (.long q0), .second, .val (.long q1), .second, .val (.long q2), .second, .val (.int p3), .val (.long (q0 &&& (9223372036854775807 : Int64))), .second, .val (.long (f0_m17 q0 q1 q2 p3)), .second, .val (.int (p3 &&& (3 : Int32))), .val (.ref b18), .val (.int (((p3.toUInt32 >>> ((2 : Int32) &&& 31).toUInt32).toInt32) &&& (3 : Int32))), .val (.long (f0_m36 q0 q1 q2 p3)), .second, .unset] [(.int (1 : Int32))])) t → Steps p.tables e below (s₁.setTop (entryFrame m #[(.long q0), (.long q1), (.long q2), (.int p3)] maxLocals)) t := fun t k => pre41 t (by
          show Steps p.tables e below (T40.setTop (mkF m 218 #[.val (.long q0), .second, .val (.long q1), .second, .val (.long q2), .second, .val (.int p3), .val (.long (q0 &&& (9223372036854775807 : Int64))), .second, .val (.long (f0_m17 q0 q1 q2 p3)), .second, .val (.int (p3 &&& (3 : Int32))), .val (.ref b18), .val (.int (((p3.toUInt32 >>> ((2 : Int32) &&& 31).toUInt32).toInt32) &&& (3 : Int32))), .val (.long (f0_m36 q0 q1 q2 p3)), .second, .unset] [(.int (lcmpW (F5 (q0 &&& (9223372036854775807 : Int64)) (F4 (f0_m36 q0 q1 q2 p3) ((f0_m17 q0 q1 q2 p3) - (1 : Int64)))) (f0_m36 q0 q1 q2 p3)))])) _
          refine XS.ifNo X40.here hx rfl (hb hby at_218) rfl ((if0 _ _).trans (teq ((lw_eq (F5 (q0 &&& (9223372036854775807 : Int64)) (F4 (f0_m36 q0 q1 q2 p3) ((f0_m17 q0 q1 q2 p3) - (1 : Int64)))) (f0_m36 q0 q1 q2 p3)).mpr hc218_42)).2) ?_
          show Steps p.tables e below (T40.setTop (mkF m 221 #[.val (.long q0), .second, .val (.long q1), .second, .val (.long q2), .second, .val (.int p3), .val (.long (q0 &&& (9223372036854775807 : Int64))), .second, .val (.long (f0_m17 q0 q1 q2 p3)), .second, .val (.int (p3 &&& (3 : Int32))), .val (.ref b18), .val (.int (((p3.toUInt32 >>> ((2 : Int32) &&& 31).toUInt32).toInt32) &&& (3 : Int32))), .val (.long (f0_m36 q0 q1 q2 p3)), .second, .unset] [])) _
          refine XS.iconst X40.here hx rfl (hb hby at_221) ?_
          show Steps p.tables e below (T40.setTop (mkF m 222 #[.val (.long q0), .second, .val (.long q1), .second, .val (.long q2), .second, .val (.int p3), .val (.long (q0 &&& (9223372036854775807 : Int64))), .second, .val (.long (f0_m17 q0 q1 q2 p3)), .second, .val (.int (p3 &&& (3 : Int32))), .val (.ref b18), .val (.int (((p3.toUInt32 >>> ((2 : Int32) &&& 31).toUInt32).toInt32) &&& (3 : Int32))), .val (.long (f0_m36 q0 q1 q2 p3)), .second, .unset] [(.int (1 : Int32))])) _
          refine XS.goto X40.here hx rfl (pc0 := 222) (pc' := 226) rfl (hb hby at_222) (by decide) (by decide) ?_
          exact k)
        have q_f0_m46 : f0_m46 q0 q1 q2 p3 = (1 : Int32) := by unfold f0_m46; rw [if_pos hc198_38, if_pos hc218_42]
        rw [q_f0_m46]
        exact ⟨T40, _, X40, e40, N40, pre43⟩
      have pre44 : ∀ t, Steps p.tables e below (T40.setTop (mkF m 226 #[.val (.long q0), .second, .val (.long q1), .second, .val (.long q2), .second, .val (.int p3), .val (.long (q0 &&& (9223372036854775807 : Int64))), .second, .val (.long (f0_m17 q0 q1 q2 p3)), .second, .val (.int (p3 &&& (3 : Int32))), .val (.ref b18), .val (.int (((p3.toUInt32 >>> ((2 : Int32) &&& 31).toUInt32).toInt32) &&& (3 : Int32))), .val (.long (f0_m36 q0 q1 q2 p3)), .second, .unset] [(.int (0 : Int32))])) t → Steps p.tables e below (s₁.setTop (entryFrame m #[(.long q0), (.long q1), (.long q2), (.int p3)] maxLocals)) t := fun t k => pre41 t (by
        show Steps p.tables e below (T40.setTop (mkF m 218 #[.val (.long q0), .second, .val (.long q1), .second, .val (.long q2), .second, .val (.int p3), .val (.long (q0 &&& (9223372036854775807 : Int64))), .second, .val (.long (f0_m17 q0 q1 q2 p3)), .second, .val (.int (p3 &&& (3 : Int32))), .val (.ref b18), .val (.int (((p3.toUInt32 >>> ((2 : Int32) &&& 31).toUInt32).toInt32) &&& (3 : Int32))), .val (.long (f0_m36 q0 q1 q2 p3)), .second, .unset] [(.int (lcmpW (F5 (q0 &&& (9223372036854775807 : Int64)) (F4 (f0_m36 q0 q1 q2 p3) ((f0_m17 q0 q1 q2 p3) - (1 : Int64)))) (f0_m36 q0 q1 q2 p3)))])) _
        refine XS.ifYes X40.here hx rfl (pc0 := 218) (pc' := 225) rfl (hb hby at_218) rfl ((if0 _ _).trans (feq (mt (lw_eq (F5 (q0 &&& (9223372036854775807 : Int64)) (F4 (f0_m36 q0 q1 q2 p3) ((f0_m17 q0 q1 q2 p3) - (1 : Int64)))) (f0_m36 q0 q1 q2 p3)).mp hc218_42)).2) (by decide) (by decide) ?_
        show Steps p.tables e below (T40.setTop (mkF m 225 #[.val (.long q0), .second, .val (.long q1), .second, .val (.long q2), .second, .val (.int p3), .val (.long (q0 &&& (9223372036854775807 : Int64))), .second, .val (.long (f0_m17 q0 q1 q2 p3)), .second, .val (.int (p3 &&& (3 : Int32))), .val (.ref b18), .val (.int (((p3.toUInt32 >>> ((2 : Int32) &&& 31).toUInt32).toInt32) &&& (3 : Int32))), .val (.long (f0_m36 q0 q1 q2 p3)), .second, .unset] [])) _
        refine XS.iconst X40.here hx rfl (hb hby at_225) ?_
        exact k)
      have q_f0_m46 : f0_m46 q0 q1 q2 p3 = (0 : Int32) := by unfold f0_m46; rw [if_pos hc198_38, if_neg hc218_42]
      rw [q_f0_m46]
      exact ⟨T40, _, X40, e40, N40, pre44⟩
    have pre45 : ∀ t, Steps p.tables e below (T22.setTop (mkF m 226 #[.val (.long q0), .second, .val (.long q1), .second, .val (.long q2), .second, .val (.int p3), .val (.long (q0 &&& (9223372036854775807 : Int64))), .second, .val (.long (f0_m17 q0 q1 q2 p3)), .second, .val (.int (p3 &&& (3 : Int32))), .val (.ref b18), .val (.int (((p3.toUInt32 >>> ((2 : Int32) &&& 31).toUInt32).toInt32) &&& (3 : Int32))), .val (.long (f0_m36 q0 q1 q2 p3)), .second, .unset] [(.int (0 : Int32))])) t → Steps p.tables e below (s₁.setTop (entryFrame m #[(.long q0), (.long q1), (.long q2), (.int p3)] maxLocals)) t := fun t k => pre37 t (by
      show Steps p.tables e below (T22.setTop (mkF m 198 #[.val (.long q0), .second, .val (.long q1), .second, .val (.long q2), .second, .val (.int p3), .val (.long (q0 &&& (9223372036854775807 : Int64))), .second, .val (.long (f0_m17 q0 q1 q2 p3)), .second, .val (.int (p3 &&& (3 : Int32))), .val (.ref b18), .val (.int (((p3.toUInt32 >>> ((2 : Int32) &&& 31).toUInt32).toInt32) &&& (3 : Int32))), .val (.long (f0_m36 q0 q1 q2 p3)), .second, .unset] [(.int (lcmpW (q0 &&& (9223372036854775807 : Int64)) (f0_m17 q0 q1 q2 p3)))])) _
      refine XS.ifYes X22.here hx rfl (pc0 := 198) (pc' := 225) rfl (hb hby at_198) rfl ((if0 _ _).trans (flt (mt (lw_lt (q0 &&& (9223372036854775807 : Int64)) (f0_m17 q0 q1 q2 p3)).mp hc198_38)).2.1) (by decide) (by decide) ?_
      show Steps p.tables e below (T22.setTop (mkF m 225 #[.val (.long q0), .second, .val (.long q1), .second, .val (.long q2), .second, .val (.int p3), .val (.long (q0 &&& (9223372036854775807 : Int64))), .second, .val (.long (f0_m17 q0 q1 q2 p3)), .second, .val (.int (p3 &&& (3 : Int32))), .val (.ref b18), .val (.int (((p3.toUInt32 >>> ((2 : Int32) &&& 31).toUInt32).toInt32) &&& (3 : Int32))), .val (.long (f0_m36 q0 q1 q2 p3)), .second, .unset] [])) _
      refine XS.iconst X22.here hx rfl (hb hby at_225) ?_
      exact k)
    have q_f0_m46 : f0_m46 q0 q1 q2 p3 = (0 : Int32) := by unfold f0_m46; rw [if_neg hc198_38]
    rw [q_f0_m46]
    exact ⟨T22, _, X22, e22, N22, pre45⟩
  obtain ⟨cq47, kq47, q47a, q47b, q47c⟩ := isOf hZ e38 u19_0
  obtain ⟨_, _, ⟨T47, L47, k47, n47⟩, -, X47, ⟨Lc47, hQ47, l47, y47, z47⟩, st47⟩ := X38.virtualBack hx (y := (⟨"com/example/rangekeeper/rangekeeper/core/Range", "contains", "(J)Z"⟩ : MethodName)) (z := (⟨"com/example/rangekeeper/rangekeeper/core/Range", "contains", "(J)Z"⟩ : MethodName)) hown (mvT hZ (hw _ (List.mem_of_getElem? (i := 26) rfl))) (mvT hZ (hw _ (List.mem_of_getElem? (i := 27) rfl))) (notFace_of_selects (args := #[]) (mvT hZ (hw _ (List.mem_of_getElem? (i := 29) rfl)))) (mvT hZ (hw _ (List.mem_of_getElem? (i := 29) rfl))) (mvT hZ (hw _ (List.mem_of_getElem? (i := 28) rfl))) (by decide) (backOf (W := 0) (rm6 l Z a0' hw [] b18 (f0_m36 q0 q1 q2 p3) (q0 &&& (9223372036854775807 : Int64)) (f0_m17 q0 q1 q2 p3) T19.heap n0 Z19 u19_1 u19_2) hZ (hw _ (List.mem_of_getElem? (i := 30) rfl)) (hw _ (List.mem_of_getElem? (i := 3) rfl)) (by decide) (by decide)) q47a q47c (g := (mkF m 232 #[.val (.long q0), .second, .val (.long q1), .second, .val (.long q2), .second, .val (.int p3), .val (.long (q0 &&& (9223372036854775807 : Int64))), .second, .val (.long (f0_m17 q0 q1 q2 p3)), .second, .val (.int (p3 &&& (3 : Int32))), .val (.ref b18), .val (.int (((p3.toUInt32 >>> ((2 : Int32) &&& 31).toUInt32).toInt32) &&& (3 : Int32))), .val (.long (f0_m36 q0 q1 q2 p3)), .second, .val (.int (f0_m46 q0 q1 q2 p3))] [(.long (f0_m36 q0 q1 q2 p3)), (.ref b18)])) rfl (by rw [hml]; rfl) (Steps.refl _) (argsL := [(.long (f0_m36 q0 q1 q2 p3))]) (rest := []) (lenOf pd3 rfl) rfl (by show 2 * 0 + _ ≤ _; exact Nat.le_of_eq rfl) (hb hby at_232) (fun _ _ => ⟨rfl, e38, (by decide : 1 + 0 ≤ _), (by decide : 2 + 0 ≤ _)⟩)
  dsimp only [Pt.U, Pt.locs, Pt.cells, Pt.slots] at X47 l47 y47 z47 st47 hQ47
  subst l47 y47 z47
  obtain ⟨rfl, N47q, e47⟩ := hQ47
  have N47 := Fr.app N38 N47q
  have pre48 : ∀ t, Steps p.tables e below (T47.setTop (mkF m 237 #[.val (.long q0), .second, .val (.long q1), .second, .val (.long q2), .second, .val (.int p3), .val (.long (q0 &&& (9223372036854775807 : Int64))), .second, .val (.long (f0_m17 q0 q1 q2 p3)), .second, .val (.int (p3 &&& (3 : Int32))), .val (.ref b18), .val (.int (((p3.toUInt32 >>> ((2 : Int32) &&& 31).toUInt32).toInt32) &&& (3 : Int32))), .val (.long (f0_m36 q0 q1 q2 p3)), .second, .val (.int (f0_m46 q0 q1 q2 p3))] [(.int (f0_m46 q0 q1 q2 p3)), (.int (F6 (f0_m36 q0 q1 q2 p3) (q0 &&& (9223372036854775807 : Int64)) (f0_m17 q0 q1 q2 p3)))])) t → Steps p.tables e below (s₁.setTop (entryFrame m #[(.long q0), (.long q1), (.long q2), (.int p3)] maxLocals)) t := fun t k => pre38 t (by
    show Steps p.tables e below (T38.setTop (mkF m 226 #[.val (.long q0), .second, .val (.long q1), .second, .val (.long q2), .second, .val (.int p3), .val (.long (q0 &&& (9223372036854775807 : Int64))), .second, .val (.long (f0_m17 q0 q1 q2 p3)), .second, .val (.int (p3 &&& (3 : Int32))), .val (.ref b18), .val (.int (((p3.toUInt32 >>> ((2 : Int32) &&& 31).toUInt32).toInt32) &&& (3 : Int32))), .val (.long (f0_m36 q0 q1 q2 p3)), .second, .unset] [(.int (f0_m46 q0 q1 q2 p3))])) _
    refine XS.istore X38.here hx rfl (hb hby at_226) rfl (l' := #[.val (.long q0), .second, .val (.long q1), .second, .val (.long q2), .second, .val (.int p3), .val (.long (q0 &&& (9223372036854775807 : Int64))), .second, .val (.long (f0_m17 q0 q1 q2 p3)), .second, .val (.int (p3 &&& (3 : Int32))), .val (.ref b18), .val (.int (((p3.toUInt32 >>> ((2 : Int32) &&& 31).toUInt32).toInt32) &&& (3 : Int32))), .val (.long (f0_m36 q0 q1 q2 p3)), .second, .val (.int (f0_m46 q0 q1 q2 p3))]) rfl ?_
    show Steps p.tables e below (T38.setTop (mkF m 228 #[.val (.long q0), .second, .val (.long q1), .second, .val (.long q2), .second, .val (.int p3), .val (.long (q0 &&& (9223372036854775807 : Int64))), .second, .val (.long (f0_m17 q0 q1 q2 p3)), .second, .val (.int (p3 &&& (3 : Int32))), .val (.ref b18), .val (.int (((p3.toUInt32 >>> ((2 : Int32) &&& 31).toUInt32).toInt32) &&& (3 : Int32))), .val (.long (f0_m36 q0 q1 q2 p3)), .second, .val (.int (f0_m46 q0 q1 q2 p3))] [])) _
    refine XS.aload X38.here hx rfl (hb hby at_228) rfl rfl ?_
    show Steps p.tables e below (T38.setTop (mkF m 230 #[.val (.long q0), .second, .val (.long q1), .second, .val (.long q2), .second, .val (.int p3), .val (.long (q0 &&& (9223372036854775807 : Int64))), .second, .val (.long (f0_m17 q0 q1 q2 p3)), .second, .val (.int (p3 &&& (3 : Int32))), .val (.ref b18), .val (.int (((p3.toUInt32 >>> ((2 : Int32) &&& 31).toUInt32).toInt32) &&& (3 : Int32))), .val (.long (f0_m36 q0 q1 q2 p3)), .second, .val (.int (f0_m46 q0 q1 q2 p3))] [(.ref b18)])) _
    refine XS.lload X38.here hx rfl (hb hby at_230) rfl ?_
    show Steps p.tables e below (T38.setTop (mkF m 232 #[.val (.long q0), .second, .val (.long q1), .second, .val (.long q2), .second, .val (.int p3), .val (.long (q0 &&& (9223372036854775807 : Int64))), .second, .val (.long (f0_m17 q0 q1 q2 p3)), .second, .val (.int (p3 &&& (3 : Int32))), .val (.ref b18), .val (.int (((p3.toUInt32 >>> ((2 : Int32) &&& 31).toUInt32).toInt32) &&& (3 : Int32))), .val (.long (f0_m36 q0 q1 q2 p3)), .second, .val (.int (f0_m46 q0 q1 q2 p3))] [(.long (f0_m36 q0 q1 q2 p3)), (.ref b18)])) _
    refine st47.trans ?_
    show Steps p.tables e below (T47.setTop (mkF m 235 #[.val (.long q0), .second, .val (.long q1), .second, .val (.long q2), .second, .val (.int p3), .val (.long (q0 &&& (9223372036854775807 : Int64))), .second, .val (.long (f0_m17 q0 q1 q2 p3)), .second, .val (.int (p3 &&& (3 : Int32))), .val (.ref b18), .val (.int (((p3.toUInt32 >>> ((2 : Int32) &&& 31).toUInt32).toInt32) &&& (3 : Int32))), .val (.long (f0_m36 q0 q1 q2 p3)), .second, .val (.int (f0_m46 q0 q1 q2 p3))] [(.int (F6 (f0_m36 q0 q1 q2 p3) (q0 &&& (9223372036854775807 : Int64)) (f0_m17 q0 q1 q2 p3)))])) _
    refine XS.iload X47.here hx rfl (hb hby at_235) rfl ?_
    exact k)
  by_cases hc237_49 : (F6 (f0_m36 q0 q1 q2 p3) (q0 &&& (9223372036854775807 : Int64)) (f0_m17 q0 q1 q2 p3)) = (f0_m46 q0 q1 q2 p3)
  · obtain ⟨cq50, kq50, q50a, q50b, q50c⟩ := isOf hZ e47 u19_0
    obtain ⟨_, _, ⟨T50, L50, k50, n50⟩, -, X50, ⟨Lc50, hQ50, l50, y50, z50⟩, st50⟩ := X47.virtualBack hx (y := (⟨"com/example/rangekeeper/rangekeeper/core/Range", "contains", "(J)Z"⟩ : MethodName)) (z := (⟨"com/example/rangekeeper/rangekeeper/core/Range", "contains", "(J)Z"⟩ : MethodName)) hown (mvT hZ (hw _ (List.mem_of_getElem? (i := 26) rfl))) (mvT hZ (hw _ (List.mem_of_getElem? (i := 27) rfl))) (notFace_of_selects (args := #[]) (mvT hZ (hw _ (List.mem_of_getElem? (i := 29) rfl)))) (mvT hZ (hw _ (List.mem_of_getElem? (i := 29) rfl))) (mvT hZ (hw _ (List.mem_of_getElem? (i := 28) rfl))) (by decide) (backOf (W := 0) (rm6 l Z a0' hw [] b18 (q0 &&& (9223372036854775807 : Int64)) (q0 &&& (9223372036854775807 : Int64)) (f0_m17 q0 q1 q2 p3) T19.heap n0 Z19 u19_1 u19_2) hZ (hw _ (List.mem_of_getElem? (i := 30) rfl)) (hw _ (List.mem_of_getElem? (i := 3) rfl)) (by decide) (by decide)) q50a q50c (g := (mkF m 244 #[.val (.long q0), .second, .val (.long q1), .second, .val (.long q2), .second, .val (.int p3), .val (.long (q0 &&& (9223372036854775807 : Int64))), .second, .val (.long (f0_m17 q0 q1 q2 p3)), .second, .val (.int (p3 &&& (3 : Int32))), .val (.ref b18), .val (.int (((p3.toUInt32 >>> ((2 : Int32) &&& 31).toUInt32).toInt32) &&& (3 : Int32))), .val (.long (f0_m36 q0 q1 q2 p3)), .second, .val (.int (f0_m46 q0 q1 q2 p3))] [(.long (q0 &&& (9223372036854775807 : Int64))), (.ref b18)])) rfl (by rw [hml]; rfl) (Steps.refl _) (argsL := [(.long (q0 &&& (9223372036854775807 : Int64)))]) (rest := []) (lenOf pd3 rfl) rfl (by show 2 * 0 + _ ≤ _; exact Nat.le_of_eq rfl) (hb hby at_244) (fun _ _ => ⟨rfl, e47, (by decide : 1 + 0 ≤ _), (by decide : 2 + 0 ≤ _)⟩)
    dsimp only [Pt.U, Pt.locs, Pt.cells, Pt.slots] at X50 l50 y50 z50 st50 hQ50
    subst l50 y50 z50
    obtain ⟨rfl, N50q, e50⟩ := hQ50
    have N50 := Fr.app N47 N50q
    have pre51 : ∀ t, Steps p.tables e below (T50.setTop (mkF m 252 #[.val (.long q0), .second, .val (.long q1), .second, .val (.long q2), .second, .val (.int p3), .val (.long (q0 &&& (9223372036854775807 : Int64))), .second, .val (.long (f0_m17 q0 q1 q2 p3)), .second, .val (.int (p3 &&& (3 : Int32))), .val (.ref b18), .val (.int (((p3.toUInt32 >>> ((2 : Int32) &&& 31).toUInt32).toInt32) &&& (3 : Int32))), .val (.long (f0_m36 q0 q1 q2 p3)), .second, .val (.int (f0_m46 q0 q1 q2 p3))] [(.int (lcmpW (q0 &&& (9223372036854775807 : Int64)) (f0_m17 q0 q1 q2 p3))), (.int (F6 (q0 &&& (9223372036854775807 : Int64)) (q0 &&& (9223372036854775807 : Int64)) (f0_m17 q0 q1 q2 p3)))])) t → Steps p.tables e below (s₁.setTop (entryFrame m #[(.long q0), (.long q1), (.long q2), (.int p3)] maxLocals)) t := fun t k => pre48 t (by
      show Steps p.tables e below (T47.setTop (mkF m 237 #[.val (.long q0), .second, .val (.long q1), .second, .val (.long q2), .second, .val (.int p3), .val (.long (q0 &&& (9223372036854775807 : Int64))), .second, .val (.long (f0_m17 q0 q1 q2 p3)), .second, .val (.int (p3 &&& (3 : Int32))), .val (.ref b18), .val (.int (((p3.toUInt32 >>> ((2 : Int32) &&& 31).toUInt32).toInt32) &&& (3 : Int32))), .val (.long (f0_m36 q0 q1 q2 p3)), .second, .val (.int (f0_m46 q0 q1 q2 p3))] [(.int (f0_m46 q0 q1 q2 p3)), (.int (F6 (f0_m36 q0 q1 q2 p3) (q0 &&& (9223372036854775807 : Int64)) (f0_m17 q0 q1 q2 p3)))])) _
      refine XS.icmpNo X47.here hx rfl (hb hby at_237) rfl (teq hc237_49).2 ?_
      show Steps p.tables e below (T47.setTop (mkF m 240 #[.val (.long q0), .second, .val (.long q1), .second, .val (.long q2), .second, .val (.int p3), .val (.long (q0 &&& (9223372036854775807 : Int64))), .second, .val (.long (f0_m17 q0 q1 q2 p3)), .second, .val (.int (p3 &&& (3 : Int32))), .val (.ref b18), .val (.int (((p3.toUInt32 >>> ((2 : Int32) &&& 31).toUInt32).toInt32) &&& (3 : Int32))), .val (.long (f0_m36 q0 q1 q2 p3)), .second, .val (.int (f0_m46 q0 q1 q2 p3))] [])) _
      refine XS.aload X47.here hx rfl (hb hby at_240) rfl rfl ?_
      show Steps p.tables e below (T47.setTop (mkF m 242 #[.val (.long q0), .second, .val (.long q1), .second, .val (.long q2), .second, .val (.int p3), .val (.long (q0 &&& (9223372036854775807 : Int64))), .second, .val (.long (f0_m17 q0 q1 q2 p3)), .second, .val (.int (p3 &&& (3 : Int32))), .val (.ref b18), .val (.int (((p3.toUInt32 >>> ((2 : Int32) &&& 31).toUInt32).toInt32) &&& (3 : Int32))), .val (.long (f0_m36 q0 q1 q2 p3)), .second, .val (.int (f0_m46 q0 q1 q2 p3))] [(.ref b18)])) _
      refine XS.lload X47.here hx rfl (hb hby at_242) rfl ?_
      show Steps p.tables e below (T47.setTop (mkF m 244 #[.val (.long q0), .second, .val (.long q1), .second, .val (.long q2), .second, .val (.int p3), .val (.long (q0 &&& (9223372036854775807 : Int64))), .second, .val (.long (f0_m17 q0 q1 q2 p3)), .second, .val (.int (p3 &&& (3 : Int32))), .val (.ref b18), .val (.int (((p3.toUInt32 >>> ((2 : Int32) &&& 31).toUInt32).toInt32) &&& (3 : Int32))), .val (.long (f0_m36 q0 q1 q2 p3)), .second, .val (.int (f0_m46 q0 q1 q2 p3))] [(.long (q0 &&& (9223372036854775807 : Int64))), (.ref b18)])) _
      refine st50.trans ?_
      show Steps p.tables e below (T50.setTop (mkF m 247 #[.val (.long q0), .second, .val (.long q1), .second, .val (.long q2), .second, .val (.int p3), .val (.long (q0 &&& (9223372036854775807 : Int64))), .second, .val (.long (f0_m17 q0 q1 q2 p3)), .second, .val (.int (p3 &&& (3 : Int32))), .val (.ref b18), .val (.int (((p3.toUInt32 >>> ((2 : Int32) &&& 31).toUInt32).toInt32) &&& (3 : Int32))), .val (.long (f0_m36 q0 q1 q2 p3)), .second, .val (.int (f0_m46 q0 q1 q2 p3))] [(.int (F6 (q0 &&& (9223372036854775807 : Int64)) (q0 &&& (9223372036854775807 : Int64)) (f0_m17 q0 q1 q2 p3)))])) _
      refine XS.lload X50.here hx rfl (hb hby at_247) rfl ?_
      show Steps p.tables e below (T50.setTop (mkF m 249 #[.val (.long q0), .second, .val (.long q1), .second, .val (.long q2), .second, .val (.int p3), .val (.long (q0 &&& (9223372036854775807 : Int64))), .second, .val (.long (f0_m17 q0 q1 q2 p3)), .second, .val (.int (p3 &&& (3 : Int32))), .val (.ref b18), .val (.int (((p3.toUInt32 >>> ((2 : Int32) &&& 31).toUInt32).toInt32) &&& (3 : Int32))), .val (.long (f0_m36 q0 q1 q2 p3)), .second, .val (.int (f0_m46 q0 q1 q2 p3))] [(.long (q0 &&& (9223372036854775807 : Int64))), (.int (F6 (q0 &&& (9223372036854775807 : Int64)) (q0 &&& (9223372036854775807 : Int64)) (f0_m17 q0 q1 q2 p3)))])) _
      refine XS.lload X50.here hx rfl (hb hby at_249) rfl ?_
      show Steps p.tables e below (T50.setTop (mkF m 251 #[.val (.long q0), .second, .val (.long q1), .second, .val (.long q2), .second, .val (.int p3), .val (.long (q0 &&& (9223372036854775807 : Int64))), .second, .val (.long (f0_m17 q0 q1 q2 p3)), .second, .val (.int (p3 &&& (3 : Int32))), .val (.ref b18), .val (.int (((p3.toUInt32 >>> ((2 : Int32) &&& 31).toUInt32).toInt32) &&& (3 : Int32))), .val (.long (f0_m36 q0 q1 q2 p3)), .second, .val (.int (f0_m46 q0 q1 q2 p3))] [(.long (f0_m17 q0 q1 q2 p3)), (.long (q0 &&& (9223372036854775807 : Int64))), (.int (F6 (q0 &&& (9223372036854775807 : Int64)) (q0 &&& (9223372036854775807 : Int64)) (f0_m17 q0 q1 q2 p3)))])) _
      refine XS.lcmp X50.here hx rfl (hb hby at_251) rfl ?_
      exact k)
    obtain ⟨T52, L52, X52, e52, N52, pre52⟩ : ∃ (T' : State) (locs' : List Loc), Stand p l e room_1 s m #[(.long q0), (.long q1), (.long q2), (.int p3)] below meth c T' locs' 1 2 ∧ T'.heap = T19.heap ∧ Fr n0 locs' ∧ ∀ t, Steps p.tables e below (T'.setTop (mkF m 260 #[.val (.long q0), .second, .val (.long q1), .second, .val (.long q2), .second, .val (.int p3), .val (.long (q0 &&& (9223372036854775807 : Int64))), .second, .val (.long (f0_m17 q0 q1 q2 p3)), .second, .val (.int (p3 &&& (3 : Int32))), .val (.ref b18), .val (.int (((p3.toUInt32 >>> ((2 : Int32) &&& 31).toUInt32).toInt32) &&& (3 : Int32))), .val (.long (f0_m36 q0 q1 q2 p3)), .second, .val (.int (f0_m46 q0 q1 q2 p3))] [(.int (f0_m55 q0 q1 q2 p3)), (.int (F6 (q0 &&& (9223372036854775807 : Int64)) (q0 &&& (9223372036854775807 : Int64)) (f0_m17 q0 q1 q2 p3)))])) t → Steps p.tables e below (s₁.setTop (entryFrame m #[(.long q0), (.long q1), (.long q2), (.int p3)] maxLocals)) t := by
      by_cases hc252_52 : (q0 &&& (9223372036854775807 : Int64)) < (f0_m17 q0 q1 q2 p3)
      · have pre53 : ∀ t, Steps p.tables e below (T50.setTop (mkF m 260 #[.val (.long q0), .second, .val (.long q1), .second, .val (.long q2), .second, .val (.int p3), .val (.long (q0 &&& (9223372036854775807 : Int64))), .second, .val (.long (f0_m17 q0 q1 q2 p3)), .second, .val (.int (p3 &&& (3 : Int32))), .val (.ref b18), .val (.int (((p3.toUInt32 >>> ((2 : Int32) &&& 31).toUInt32).toInt32) &&& (3 : Int32))), .val (.long (f0_m36 q0 q1 q2 p3)), .second, .val (.int (f0_m46 q0 q1 q2 p3))] [(.int (1 : Int32)), (.int (F6 (q0 &&& (9223372036854775807 : Int64)) (q0 &&& (9223372036854775807 : Int64)) (f0_m17 q0 q1 q2 p3)))])) t → Steps p.tables e below (s₁.setTop (entryFrame m #[(.long q0), (.long q1), (.long q2), (.int p3)] maxLocals)) t := fun t k => pre51 t (by
          show Steps p.tables e below (T50.setTop (mkF m 252 #[.val (.long q0), .second, .val (.long q1), .second, .val (.long q2), .second, .val (.int p3), .val (.long (q0 &&& (9223372036854775807 : Int64))), .second, .val (.long (f0_m17 q0 q1 q2 p3)), .second, .val (.int (p3 &&& (3 : Int32))), .val (.ref b18), .val (.int (((p3.toUInt32 >>> ((2 : Int32) &&& 31).toUInt32).toInt32) &&& (3 : Int32))), .val (.long (f0_m36 q0 q1 q2 p3)), .second, .val (.int (f0_m46 q0 q1 q2 p3))] [(.int (lcmpW (q0 &&& (9223372036854775807 : Int64)) (f0_m17 q0 q1 q2 p3))), (.int (F6 (q0 &&& (9223372036854775807 : Int64)) (q0 &&& (9223372036854775807 : Int64)) (f0_m17 q0 q1 q2 p3)))])) _
          refine XS.ifNo X50.here hx rfl (hb hby at_252) rfl ((if0 _ _).trans (tlt ((lw_lt (q0 &&& (9223372036854775807 : Int64)) (f0_m17 q0 q1 q2 p3)).mpr hc252_52)).2.1) ?_
          show Steps p.tables e below (T50.setTop (mkF m 255 #[.val (.long q0), .second, .val (.long q1), .second, .val (.long q2), .second, .val (.int p3), .val (.long (q0 &&& (9223372036854775807 : Int64))), .second, .val (.long (f0_m17 q0 q1 q2 p3)), .second, .val (.int (p3 &&& (3 : Int32))), .val (.ref b18), .val (.int (((p3.toUInt32 >>> ((2 : Int32) &&& 31).toUInt32).toInt32) &&& (3 : Int32))), .val (.long (f0_m36 q0 q1 q2 p3)), .second, .val (.int (f0_m46 q0 q1 q2 p3))] [(.int (F6 (q0 &&& (9223372036854775807 : Int64)) (q0 &&& (9223372036854775807 : Int64)) (f0_m17 q0 q1 q2 p3)))])) _
          refine XS.iconst X50.here hx rfl (hb hby at_255) ?_
          show Steps p.tables e below (T50.setTop (mkF m 256 #[.val (.long q0), .second, .val (.long q1), .second, .val (.long q2), .second, .val (.int p3), .val (.long (q0 &&& (9223372036854775807 : Int64))), .second, .val (.long (f0_m17 q0 q1 q2 p3)), .second, .val (.int (p3 &&& (3 : Int32))), .val (.ref b18), .val (.int (((p3.toUInt32 >>> ((2 : Int32) &&& 31).toUInt32).toInt32) &&& (3 : Int32))), .val (.long (f0_m36 q0 q1 q2 p3)), .second, .val (.int (f0_m46 q0 q1 q2 p3))] [(.int (1 : Int32)), (.int (F6 (q0 &&& (9223372036854775807 : Int64)) (q0 &&& (9223372036854775807 : Int64)) (f0_m17 q0 q1 q2 p3)))])) _
          refine XS.goto X50.here hx rfl (pc0 := 256) (pc' := 260) rfl (hb hby at_256) (by decide) (by decide) ?_
          exact k)
        have q_f0_m55 : f0_m55 q0 q1 q2 p3 = (1 : Int32) := by unfold f0_m55; rw [if_pos hc252_52]
        rw [q_f0_m55]
        exact ⟨T50, _, X50, e50, N50, pre53⟩
      have pre54 : ∀ t, Steps p.tables e below (T50.setTop (mkF m 260 #[.val (.long q0), .second, .val (.long q1), .second, .val (.long q2), .second, .val (.int p3), .val (.long (q0 &&& (9223372036854775807 : Int64))), .second, .val (.long (f0_m17 q0 q1 q2 p3)), .second, .val (.int (p3 &&& (3 : Int32))), .val (.ref b18), .val (.int (((p3.toUInt32 >>> ((2 : Int32) &&& 31).toUInt32).toInt32) &&& (3 : Int32))), .val (.long (f0_m36 q0 q1 q2 p3)), .second, .val (.int (f0_m46 q0 q1 q2 p3))] [(.int (0 : Int32)), (.int (F6 (q0 &&& (9223372036854775807 : Int64)) (q0 &&& (9223372036854775807 : Int64)) (f0_m17 q0 q1 q2 p3)))])) t → Steps p.tables e below (s₁.setTop (entryFrame m #[(.long q0), (.long q1), (.long q2), (.int p3)] maxLocals)) t := fun t k => pre51 t (by
        show Steps p.tables e below (T50.setTop (mkF m 252 #[.val (.long q0), .second, .val (.long q1), .second, .val (.long q2), .second, .val (.int p3), .val (.long (q0 &&& (9223372036854775807 : Int64))), .second, .val (.long (f0_m17 q0 q1 q2 p3)), .second, .val (.int (p3 &&& (3 : Int32))), .val (.ref b18), .val (.int (((p3.toUInt32 >>> ((2 : Int32) &&& 31).toUInt32).toInt32) &&& (3 : Int32))), .val (.long (f0_m36 q0 q1 q2 p3)), .second, .val (.int (f0_m46 q0 q1 q2 p3))] [(.int (lcmpW (q0 &&& (9223372036854775807 : Int64)) (f0_m17 q0 q1 q2 p3))), (.int (F6 (q0 &&& (9223372036854775807 : Int64)) (q0 &&& (9223372036854775807 : Int64)) (f0_m17 q0 q1 q2 p3)))])) _
        refine XS.ifYes X50.here hx rfl (pc0 := 252) (pc' := 259) rfl (hb hby at_252) rfl ((if0 _ _).trans (flt (mt (lw_lt (q0 &&& (9223372036854775807 : Int64)) (f0_m17 q0 q1 q2 p3)).mp hc252_52)).2.1) (by decide) (by decide) ?_
        show Steps p.tables e below (T50.setTop (mkF m 259 #[.val (.long q0), .second, .val (.long q1), .second, .val (.long q2), .second, .val (.int p3), .val (.long (q0 &&& (9223372036854775807 : Int64))), .second, .val (.long (f0_m17 q0 q1 q2 p3)), .second, .val (.int (p3 &&& (3 : Int32))), .val (.ref b18), .val (.int (((p3.toUInt32 >>> ((2 : Int32) &&& 31).toUInt32).toInt32) &&& (3 : Int32))), .val (.long (f0_m36 q0 q1 q2 p3)), .second, .val (.int (f0_m46 q0 q1 q2 p3))] [(.int (F6 (q0 &&& (9223372036854775807 : Int64)) (q0 &&& (9223372036854775807 : Int64)) (f0_m17 q0 q1 q2 p3)))])) _
        refine XS.iconst X50.here hx rfl (hb hby at_259) ?_
        exact k)
      have q_f0_m55 : f0_m55 q0 q1 q2 p3 = (0 : Int32) := by unfold f0_m55; rw [if_neg hc252_52]
      rw [q_f0_m55]
      exact ⟨T50, _, X50, e50, N50, pre54⟩
    by_cases hc260_56 : (F6 (q0 &&& (9223372036854775807 : Int64)) (q0 &&& (9223372036854775807 : Int64)) (f0_m17 q0 q1 q2 p3)) = (f0_m55 q0 q1 q2 p3)
    · obtain ⟨cq57, kq57, q57a, q57b, q57c⟩ := isOf hZ e52 u19_0
      obtain ⟨_, _, ⟨T57, L57, k57, n57⟩, -, X57, ⟨Lc57, hQ57, l57, y57, z57⟩, st57⟩ := X52.virtualBack hx (y := (⟨"com/example/rangekeeper/rangekeeper/core/Range", "contains", "(J)Z"⟩ : MethodName)) (z := (⟨"com/example/rangekeeper/rangekeeper/core/Range", "contains", "(J)Z"⟩ : MethodName)) hown (mvT hZ (hw _ (List.mem_of_getElem? (i := 26) rfl))) (mvT hZ (hw _ (List.mem_of_getElem? (i := 27) rfl))) (notFace_of_selects (args := #[]) (mvT hZ (hw _ (List.mem_of_getElem? (i := 29) rfl)))) (mvT hZ (hw _ (List.mem_of_getElem? (i := 29) rfl))) (mvT hZ (hw _ (List.mem_of_getElem? (i := 28) rfl))) (by decide) (backOf (W := 0) (rm6 l Z a0' hw [] b18 (f0_m17 q0 q1 q2 p3) (q0 &&& (9223372036854775807 : Int64)) (f0_m17 q0 q1 q2 p3) T19.heap n0 Z19 u19_1 u19_2) hZ (hw _ (List.mem_of_getElem? (i := 30) rfl)) (hw _ (List.mem_of_getElem? (i := 3) rfl)) (by decide) (by decide)) q57a q57c (g := (mkF m 267 #[.val (.long q0), .second, .val (.long q1), .second, .val (.long q2), .second, .val (.int p3), .val (.long (q0 &&& (9223372036854775807 : Int64))), .second, .val (.long (f0_m17 q0 q1 q2 p3)), .second, .val (.int (p3 &&& (3 : Int32))), .val (.ref b18), .val (.int (((p3.toUInt32 >>> ((2 : Int32) &&& 31).toUInt32).toInt32) &&& (3 : Int32))), .val (.long (f0_m36 q0 q1 q2 p3)), .second, .val (.int (f0_m46 q0 q1 q2 p3))] [(.long (f0_m17 q0 q1 q2 p3)), (.ref b18)])) rfl (by rw [hml]; rfl) (Steps.refl _) (argsL := [(.long (f0_m17 q0 q1 q2 p3))]) (rest := []) (lenOf pd3 rfl) rfl (by show 2 * 0 + _ ≤ _; exact Nat.le_of_eq rfl) (hb hby at_267) (fun _ _ => ⟨rfl, e52, (by decide : 1 + 0 ≤ _), (by decide : 2 + 0 ≤ _)⟩)
      dsimp only [Pt.U, Pt.locs, Pt.cells, Pt.slots] at X57 l57 y57 z57 st57 hQ57
      subst l57 y57 z57
      obtain ⟨rfl, N57q, e57⟩ := hQ57
      have N57 := Fr.app N52 N57q
      have pre58 : ∀ t, Steps p.tables e below (T57.setTop (mkF m 270 #[.val (.long q0), .second, .val (.long q1), .second, .val (.long q2), .second, .val (.int p3), .val (.long (q0 &&& (9223372036854775807 : Int64))), .second, .val (.long (f0_m17 q0 q1 q2 p3)), .second, .val (.int (p3 &&& (3 : Int32))), .val (.ref b18), .val (.int (((p3.toUInt32 >>> ((2 : Int32) &&& 31).toUInt32).toInt32) &&& (3 : Int32))), .val (.long (f0_m36 q0 q1 q2 p3)), .second, .val (.int (f0_m46 q0 q1 q2 p3))] [(.int (F6 (f0_m17 q0 q1 q2 p3) (q0 &&& (9223372036854775807 : Int64)) (f0_m17 q0 q1 q2 p3)))])) t → Steps p.tables e below (s₁.setTop (entryFrame m #[(.long q0), (.long q1), (.long q2), (.int p3)] maxLocals)) t := fun t k => pre52 t (by
        show Steps p.tables e below (T52.setTop (mkF m 260 #[.val (.long q0), .second, .val (.long q1), .second, .val (.long q2), .second, .val (.int p3), .val (.long (q0 &&& (9223372036854775807 : Int64))), .second, .val (.long (f0_m17 q0 q1 q2 p3)), .second, .val (.int (p3 &&& (3 : Int32))), .val (.ref b18), .val (.int (((p3.toUInt32 >>> ((2 : Int32) &&& 31).toUInt32).toInt32) &&& (3 : Int32))), .val (.long (f0_m36 q0 q1 q2 p3)), .second, .val (.int (f0_m46 q0 q1 q2 p3))] [(.int (f0_m55 q0 q1 q2 p3)), (.int (F6 (q0 &&& (9223372036854775807 : Int64)) (q0 &&& (9223372036854775807 : Int64)) (f0_m17 q0 q1 q2 p3)))])) _
        refine XS.icmpNo X52.here hx rfl (hb hby at_260) rfl (teq hc260_56).2 ?_
        show Steps p.tables e below (T52.setTop (mkF m 263 #[.val (.long q0), .second, .val (.long q1), .second, .val (.long q2), .second, .val (.int p3), .val (.long (q0 &&& (9223372036854775807 : Int64))), .second, .val (.long (f0_m17 q0 q1 q2 p3)), .second, .val (.int (p3 &&& (3 : Int32))), .val (.ref b18), .val (.int (((p3.toUInt32 >>> ((2 : Int32) &&& 31).toUInt32).toInt32) &&& (3 : Int32))), .val (.long (f0_m36 q0 q1 q2 p3)), .second, .val (.int (f0_m46 q0 q1 q2 p3))] [])) _
        refine XS.aload X52.here hx rfl (hb hby at_263) rfl rfl ?_
        show Steps p.tables e below (T52.setTop (mkF m 265 #[.val (.long q0), .second, .val (.long q1), .second, .val (.long q2), .second, .val (.int p3), .val (.long (q0 &&& (9223372036854775807 : Int64))), .second, .val (.long (f0_m17 q0 q1 q2 p3)), .second, .val (.int (p3 &&& (3 : Int32))), .val (.ref b18), .val (.int (((p3.toUInt32 >>> ((2 : Int32) &&& 31).toUInt32).toInt32) &&& (3 : Int32))), .val (.long (f0_m36 q0 q1 q2 p3)), .second, .val (.int (f0_m46 q0 q1 q2 p3))] [(.ref b18)])) _
        refine XS.lload X52.here hx rfl (hb hby at_265) rfl ?_
        show Steps p.tables e below (T52.setTop (mkF m 267 #[.val (.long q0), .second, .val (.long q1), .second, .val (.long q2), .second, .val (.int p3), .val (.long (q0 &&& (9223372036854775807 : Int64))), .second, .val (.long (f0_m17 q0 q1 q2 p3)), .second, .val (.int (p3 &&& (3 : Int32))), .val (.ref b18), .val (.int (((p3.toUInt32 >>> ((2 : Int32) &&& 31).toUInt32).toInt32) &&& (3 : Int32))), .val (.long (f0_m36 q0 q1 q2 p3)), .second, .val (.int (f0_m46 q0 q1 q2 p3))] [(.long (f0_m17 q0 q1 q2 p3)), (.ref b18)])) _
        refine st57.trans ?_
        exact k)
      by_cases hc270_59 : (F6 (f0_m17 q0 q1 q2 p3) (q0 &&& (9223372036854775807 : Int64)) (f0_m17 q0 q1 q2 p3)) = (0 : Int32)
      · obtain ⟨cq60, kq60, q60a, q60b, q60c⟩ := isOf hZ e57 u19_0
        obtain ⟨_, _, ⟨T60, L60, k60, n60⟩, -, X60, ⟨Lc60, hQ60, l60, y60, z60⟩, st60⟩ := X57.virtualBack hx (y := (⟨"com/example/rangekeeper/rangekeeper/core/Range", "contains", "(J)Z"⟩ : MethodName)) (z := (⟨"com/example/rangekeeper/rangekeeper/core/Range", "contains", "(J)Z"⟩ : MethodName)) hown (mvT hZ (hw _ (List.mem_of_getElem? (i := 26) rfl))) (mvT hZ (hw _ (List.mem_of_getElem? (i := 27) rfl))) (notFace_of_selects (args := #[]) (mvT hZ (hw _ (List.mem_of_getElem? (i := 29) rfl)))) (mvT hZ (hw _ (List.mem_of_getElem? (i := 29) rfl))) (mvT hZ (hw _ (List.mem_of_getElem? (i := 28) rfl))) (by decide) (backOf (W := 0) (rm6 l Z a0' hw [] b18 ((q0 &&& (9223372036854775807 : Int64)) - (1 : Int64)) (q0 &&& (9223372036854775807 : Int64)) (f0_m17 q0 q1 q2 p3) T19.heap n0 Z19 u19_1 u19_2) hZ (hw _ (List.mem_of_getElem? (i := 30) rfl)) (hw _ (List.mem_of_getElem? (i := 3) rfl)) (by decide) (by decide)) q60a q60c (g := (mkF m 279 #[.val (.long q0), .second, .val (.long q1), .second, .val (.long q2), .second, .val (.int p3), .val (.long (q0 &&& (9223372036854775807 : Int64))), .second, .val (.long (f0_m17 q0 q1 q2 p3)), .second, .val (.int (p3 &&& (3 : Int32))), .val (.ref b18), .val (.int (((p3.toUInt32 >>> ((2 : Int32) &&& 31).toUInt32).toInt32) &&& (3 : Int32))), .val (.long (f0_m36 q0 q1 q2 p3)), .second, .val (.int (f0_m46 q0 q1 q2 p3))] [(.long ((q0 &&& (9223372036854775807 : Int64)) - (1 : Int64))), (.ref b18)])) rfl (by rw [hml]; rfl) (Steps.refl _) (argsL := [(.long ((q0 &&& (9223372036854775807 : Int64)) - (1 : Int64)))]) (rest := []) (lenOf pd3 rfl) rfl (by show 2 * 0 + _ ≤ _; exact Nat.le_of_eq rfl) (hb hby at_279) (fun _ _ => ⟨rfl, e57, (by decide : 1 + 0 ≤ _), (by decide : 2 + 0 ≤ _)⟩)
        dsimp only [Pt.U, Pt.locs, Pt.cells, Pt.slots] at X60 l60 y60 z60 st60 hQ60
        subst l60 y60 z60
        obtain ⟨rfl, N60q, e60⟩ := hQ60
        have N60 := Fr.app N57 N60q
        have pre61 : ∀ t, Steps p.tables e below (T60.setTop (mkF m 282 #[.val (.long q0), .second, .val (.long q1), .second, .val (.long q2), .second, .val (.int p3), .val (.long (q0 &&& (9223372036854775807 : Int64))), .second, .val (.long (f0_m17 q0 q1 q2 p3)), .second, .val (.int (p3 &&& (3 : Int32))), .val (.ref b18), .val (.int (((p3.toUInt32 >>> ((2 : Int32) &&& 31).toUInt32).toInt32) &&& (3 : Int32))), .val (.long (f0_m36 q0 q1 q2 p3)), .second, .val (.int (f0_m46 q0 q1 q2 p3))] [(.int (F6 ((q0 &&& (9223372036854775807 : Int64)) - (1 : Int64)) (q0 &&& (9223372036854775807 : Int64)) (f0_m17 q0 q1 q2 p3)))])) t → Steps p.tables e below (s₁.setTop (entryFrame m #[(.long q0), (.long q1), (.long q2), (.int p3)] maxLocals)) t := fun t k => pre58 t (by
          show Steps p.tables e below (T57.setTop (mkF m 270 #[.val (.long q0), .second, .val (.long q1), .second, .val (.long q2), .second, .val (.int p3), .val (.long (q0 &&& (9223372036854775807 : Int64))), .second, .val (.long (f0_m17 q0 q1 q2 p3)), .second, .val (.int (p3 &&& (3 : Int32))), .val (.ref b18), .val (.int (((p3.toUInt32 >>> ((2 : Int32) &&& 31).toUInt32).toInt32) &&& (3 : Int32))), .val (.long (f0_m36 q0 q1 q2 p3)), .second, .val (.int (f0_m46 q0 q1 q2 p3))] [(.int (F6 (f0_m17 q0 q1 q2 p3) (q0 &&& (9223372036854775807 : Int64)) (f0_m17 q0 q1 q2 p3)))])) _
          refine XS.ifNo X57.here hx rfl (hb hby at_270) rfl ((if0 _ _).trans (teq hc270_59).2) ?_
          show Steps p.tables e below (T57.setTop (mkF m 273 #[.val (.long q0), .second, .val (.long q1), .second, .val (.long q2), .second, .val (.int p3), .val (.long (q0 &&& (9223372036854775807 : Int64))), .second, .val (.long (f0_m17 q0 q1 q2 p3)), .second, .val (.int (p3 &&& (3 : Int32))), .val (.ref b18), .val (.int (((p3.toUInt32 >>> ((2 : Int32) &&& 31).toUInt32).toInt32) &&& (3 : Int32))), .val (.long (f0_m36 q0 q1 q2 p3)), .second, .val (.int (f0_m46 q0 q1 q2 p3))] [])) _
          refine XS.aload X57.here hx rfl (hb hby at_273) rfl rfl ?_
          show Steps p.tables e below (T57.setTop (mkF m 275 #[.val (.long q0), .second, .val (.long q1), .second, .val (.long q2), .second, .val (.int p3), .val (.long (q0 &&& (9223372036854775807 : Int64))), .second, .val (.long (f0_m17 q0 q1 q2 p3)), .second, .val (.int (p3 &&& (3 : Int32))), .val (.ref b18), .val (.int (((p3.toUInt32 >>> ((2 : Int32) &&& 31).toUInt32).toInt32) &&& (3 : Int32))), .val (.long (f0_m36 q0 q1 q2 p3)), .second, .val (.int (f0_m46 q0 q1 q2 p3))] [(.ref b18)])) _
          refine XS.lload X57.here hx rfl (hb hby at_275) rfl ?_
          show Steps p.tables e below (T57.setTop (mkF m 277 #[.val (.long q0), .second, .val (.long q1), .second, .val (.long q2), .second, .val (.int p3), .val (.long (q0 &&& (9223372036854775807 : Int64))), .second, .val (.long (f0_m17 q0 q1 q2 p3)), .second, .val (.int (p3 &&& (3 : Int32))), .val (.ref b18), .val (.int (((p3.toUInt32 >>> ((2 : Int32) &&& 31).toUInt32).toInt32) &&& (3 : Int32))), .val (.long (f0_m36 q0 q1 q2 p3)), .second, .val (.int (f0_m46 q0 q1 q2 p3))] [(.long (q0 &&& (9223372036854775807 : Int64))), (.ref b18)])) _
          refine XS.lconst X57.here hx rfl (hb hby at_277) ?_
          show Steps p.tables e below (T57.setTop (mkF m 278 #[.val (.long q0), .second, .val (.long q1), .second, .val (.long q2), .second, .val (.int p3), .val (.long (q0 &&& (9223372036854775807 : Int64))), .second, .val (.long (f0_m17 q0 q1 q2 p3)), .second, .val (.int (p3 &&& (3 : Int32))), .val (.ref b18), .val (.int (((p3.toUInt32 >>> ((2 : Int32) &&& 31).toUInt32).toInt32) &&& (3 : Int32))), .val (.long (f0_m36 q0 q1 q2 p3)), .second, .val (.int (f0_m46 q0 q1 q2 p3))] [(.long (1 : Int64)), (.long (q0 &&& (9223372036854775807 : Int64))), (.ref b18)])) _
          refine XS.lsub X57.here hx rfl (hb hby at_278) rfl ?_
          show Steps p.tables e below (T57.setTop (mkF m 279 #[.val (.long q0), .second, .val (.long q1), .second, .val (.long q2), .second, .val (.int p3), .val (.long (q0 &&& (9223372036854775807 : Int64))), .second, .val (.long (f0_m17 q0 q1 q2 p3)), .second, .val (.int (p3 &&& (3 : Int32))), .val (.ref b18), .val (.int (((p3.toUInt32 >>> ((2 : Int32) &&& 31).toUInt32).toInt32) &&& (3 : Int32))), .val (.long (f0_m36 q0 q1 q2 p3)), .second, .val (.int (f0_m46 q0 q1 q2 p3))] [(.long ((q0 &&& (9223372036854775807 : Int64)) - (1 : Int64))), (.ref b18)])) _
          refine st60.trans ?_
          exact k)
        by_cases hc282_62 : (F6 ((q0 &&& (9223372036854775807 : Int64)) - (1 : Int64)) (q0 &&& (9223372036854775807 : Int64)) (f0_m17 q0 q1 q2 p3)) = (0 : Int32)
        · have pre63 : ∀ t, Steps p.tables e below (T60.setTop (mkF m 290 #[.val (.long q0), .second, .val (.long q1), .second, .val (.long q2), .second, .val (.int p3), .val (.long (q0 &&& (9223372036854775807 : Int64))), .second, .val (.long (f0_m17 q0 q1 q2 p3)), .second, .val (.int (p3 &&& (3 : Int32))), .val (.ref b18), .val (.int (((p3.toUInt32 >>> ((2 : Int32) &&& 31).toUInt32).toInt32) &&& (3 : Int32))), .val (.long (f0_m36 q0 q1 q2 p3)), .second, .val (.int (f0_m46 q0 q1 q2 p3))] [(.int (1 : Int32))])) t → Steps p.tables e below (s₁.setTop (entryFrame m #[(.long q0), (.long q1), (.long q2), (.int p3)] maxLocals)) t := fun t k => pre61 t (by
            show Steps p.tables e below (T60.setTop (mkF m 282 #[.val (.long q0), .second, .val (.long q1), .second, .val (.long q2), .second, .val (.int p3), .val (.long (q0 &&& (9223372036854775807 : Int64))), .second, .val (.long (f0_m17 q0 q1 q2 p3)), .second, .val (.int (p3 &&& (3 : Int32))), .val (.ref b18), .val (.int (((p3.toUInt32 >>> ((2 : Int32) &&& 31).toUInt32).toInt32) &&& (3 : Int32))), .val (.long (f0_m36 q0 q1 q2 p3)), .second, .val (.int (f0_m46 q0 q1 q2 p3))] [(.int (F6 ((q0 &&& (9223372036854775807 : Int64)) - (1 : Int64)) (q0 &&& (9223372036854775807 : Int64)) (f0_m17 q0 q1 q2 p3)))])) _
            refine XS.ifNo X60.here hx rfl (hb hby at_282) rfl ((if0 _ _).trans (teq hc282_62).2) ?_
            show Steps p.tables e below (T60.setTop (mkF m 285 #[.val (.long q0), .second, .val (.long q1), .second, .val (.long q2), .second, .val (.int p3), .val (.long (q0 &&& (9223372036854775807 : Int64))), .second, .val (.long (f0_m17 q0 q1 q2 p3)), .second, .val (.int (p3 &&& (3 : Int32))), .val (.ref b18), .val (.int (((p3.toUInt32 >>> ((2 : Int32) &&& 31).toUInt32).toInt32) &&& (3 : Int32))), .val (.long (f0_m36 q0 q1 q2 p3)), .second, .val (.int (f0_m46 q0 q1 q2 p3))] [])) _
            refine XS.iconst X60.here hx rfl (hb hby at_285) ?_
            show Steps p.tables e below (T60.setTop (mkF m 286 #[.val (.long q0), .second, .val (.long q1), .second, .val (.long q2), .second, .val (.int p3), .val (.long (q0 &&& (9223372036854775807 : Int64))), .second, .val (.long (f0_m17 q0 q1 q2 p3)), .second, .val (.int (p3 &&& (3 : Int32))), .val (.ref b18), .val (.int (((p3.toUInt32 >>> ((2 : Int32) &&& 31).toUInt32).toInt32) &&& (3 : Int32))), .val (.long (f0_m36 q0 q1 q2 p3)), .second, .val (.int (f0_m46 q0 q1 q2 p3))] [(.int (1 : Int32))])) _
            refine XS.goto X60.here hx rfl (pc0 := 286) (pc' := 290) rfl (hb hby at_286) (by decide) (by decide) ?_
            exact k)
          obtain ⟨fs, hr, hrun, hended, hW, hsame⟩ := X60.leave (v := some (.int (1 : Int32))) (fun h => by rw [Bd.returns] at h; cases h) hlk
          have hF : (F0 q0 q1 q2 p3) = (1 : Int32) := by unfold F0; rw [if_pos hc237_49, if_pos hc260_56, if_pos hc270_59, if_pos hc282_62]
          exact ⟨_, _, pre63 _ (retN X60 hx (t := .boolean) Bd.returns (by simp) (hb hby at_290) hr), hrun, hended, _, _, rfl, ⟨by rw [hF], N60⟩, ⟨_, rfl⟩, hW, hsame.mono (by decide) (by decide)⟩
        have pre64 : ∀ t, Steps p.tables e below (T60.setTop (mkF m 290 #[.val (.long q0), .second, .val (.long q1), .second, .val (.long q2), .second, .val (.int p3), .val (.long (q0 &&& (9223372036854775807 : Int64))), .second, .val (.long (f0_m17 q0 q1 q2 p3)), .second, .val (.int (p3 &&& (3 : Int32))), .val (.ref b18), .val (.int (((p3.toUInt32 >>> ((2 : Int32) &&& 31).toUInt32).toInt32) &&& (3 : Int32))), .val (.long (f0_m36 q0 q1 q2 p3)), .second, .val (.int (f0_m46 q0 q1 q2 p3))] [(.int (0 : Int32))])) t → Steps p.tables e below (s₁.setTop (entryFrame m #[(.long q0), (.long q1), (.long q2), (.int p3)] maxLocals)) t := fun t k => pre61 t (by
          show Steps p.tables e below (T60.setTop (mkF m 282 #[.val (.long q0), .second, .val (.long q1), .second, .val (.long q2), .second, .val (.int p3), .val (.long (q0 &&& (9223372036854775807 : Int64))), .second, .val (.long (f0_m17 q0 q1 q2 p3)), .second, .val (.int (p3 &&& (3 : Int32))), .val (.ref b18), .val (.int (((p3.toUInt32 >>> ((2 : Int32) &&& 31).toUInt32).toInt32) &&& (3 : Int32))), .val (.long (f0_m36 q0 q1 q2 p3)), .second, .val (.int (f0_m46 q0 q1 q2 p3))] [(.int (F6 ((q0 &&& (9223372036854775807 : Int64)) - (1 : Int64)) (q0 &&& (9223372036854775807 : Int64)) (f0_m17 q0 q1 q2 p3)))])) _
          refine XS.ifYes X60.here hx rfl (pc0 := 282) (pc' := 289) rfl (hb hby at_282) rfl ((if0 _ _).trans (feq hc282_62).2) (by decide) (by decide) ?_
          show Steps p.tables e below (T60.setTop (mkF m 289 #[.val (.long q0), .second, .val (.long q1), .second, .val (.long q2), .second, .val (.int p3), .val (.long (q0 &&& (9223372036854775807 : Int64))), .second, .val (.long (f0_m17 q0 q1 q2 p3)), .second, .val (.int (p3 &&& (3 : Int32))), .val (.ref b18), .val (.int (((p3.toUInt32 >>> ((2 : Int32) &&& 31).toUInt32).toInt32) &&& (3 : Int32))), .val (.long (f0_m36 q0 q1 q2 p3)), .second, .val (.int (f0_m46 q0 q1 q2 p3))] [])) _
          refine XS.iconst X60.here hx rfl (hb hby at_289) ?_
          exact k)
        obtain ⟨fs, hr, hrun, hended, hW, hsame⟩ := X60.leave (v := some (.int (0 : Int32))) (fun h => by rw [Bd.returns] at h; cases h) hlk
        have hF : (F0 q0 q1 q2 p3) = (0 : Int32) := by unfold F0; rw [if_pos hc237_49, if_pos hc260_56, if_pos hc270_59, if_neg hc282_62]
        exact ⟨_, _, pre64 _ (retN X60 hx (t := .boolean) Bd.returns (by simp) (hb hby at_290) hr), hrun, hended, _, _, rfl, ⟨by rw [hF], N60⟩, ⟨_, rfl⟩, hW, hsame.mono (by decide) (by decide)⟩
      have pre65 : ∀ t, Steps p.tables e below (T57.setTop (mkF m 290 #[.val (.long q0), .second, .val (.long q1), .second, .val (.long q2), .second, .val (.int p3), .val (.long (q0 &&& (9223372036854775807 : Int64))), .second, .val (.long (f0_m17 q0 q1 q2 p3)), .second, .val (.int (p3 &&& (3 : Int32))), .val (.ref b18), .val (.int (((p3.toUInt32 >>> ((2 : Int32) &&& 31).toUInt32).toInt32) &&& (3 : Int32))), .val (.long (f0_m36 q0 q1 q2 p3)), .second, .val (.int (f0_m46 q0 q1 q2 p3))] [(.int (0 : Int32))])) t → Steps p.tables e below (s₁.setTop (entryFrame m #[(.long q0), (.long q1), (.long q2), (.int p3)] maxLocals)) t := fun t k => pre58 t (by
        show Steps p.tables e below (T57.setTop (mkF m 270 #[.val (.long q0), .second, .val (.long q1), .second, .val (.long q2), .second, .val (.int p3), .val (.long (q0 &&& (9223372036854775807 : Int64))), .second, .val (.long (f0_m17 q0 q1 q2 p3)), .second, .val (.int (p3 &&& (3 : Int32))), .val (.ref b18), .val (.int (((p3.toUInt32 >>> ((2 : Int32) &&& 31).toUInt32).toInt32) &&& (3 : Int32))), .val (.long (f0_m36 q0 q1 q2 p3)), .second, .val (.int (f0_m46 q0 q1 q2 p3))] [(.int (F6 (f0_m17 q0 q1 q2 p3) (q0 &&& (9223372036854775807 : Int64)) (f0_m17 q0 q1 q2 p3)))])) _
        refine XS.ifYes X57.here hx rfl (pc0 := 270) (pc' := 289) rfl (hb hby at_270) rfl ((if0 _ _).trans (feq hc270_59).2) (by decide) (by decide) ?_
        show Steps p.tables e below (T57.setTop (mkF m 289 #[.val (.long q0), .second, .val (.long q1), .second, .val (.long q2), .second, .val (.int p3), .val (.long (q0 &&& (9223372036854775807 : Int64))), .second, .val (.long (f0_m17 q0 q1 q2 p3)), .second, .val (.int (p3 &&& (3 : Int32))), .val (.ref b18), .val (.int (((p3.toUInt32 >>> ((2 : Int32) &&& 31).toUInt32).toInt32) &&& (3 : Int32))), .val (.long (f0_m36 q0 q1 q2 p3)), .second, .val (.int (f0_m46 q0 q1 q2 p3))] [])) _
        refine XS.iconst X57.here hx rfl (hb hby at_289) ?_
        exact k)
      obtain ⟨fs, hr, hrun, hended, hW, hsame⟩ := X57.leave (v := some (.int (0 : Int32))) (fun h => by rw [Bd.returns] at h; cases h) hlk
      have hF : (F0 q0 q1 q2 p3) = (0 : Int32) := by unfold F0; rw [if_pos hc237_49, if_pos hc260_56, if_neg hc270_59]
      exact ⟨_, _, pre65 _ (retN X57 hx (t := .boolean) Bd.returns (by simp) (hb hby at_290) hr), hrun, hended, _, _, rfl, ⟨by rw [hF], N57⟩, ⟨_, rfl⟩, hW, hsame.mono (by decide) (by decide)⟩
    have pre66 : ∀ t, Steps p.tables e below (T52.setTop (mkF m 290 #[.val (.long q0), .second, .val (.long q1), .second, .val (.long q2), .second, .val (.int p3), .val (.long (q0 &&& (9223372036854775807 : Int64))), .second, .val (.long (f0_m17 q0 q1 q2 p3)), .second, .val (.int (p3 &&& (3 : Int32))), .val (.ref b18), .val (.int (((p3.toUInt32 >>> ((2 : Int32) &&& 31).toUInt32).toInt32) &&& (3 : Int32))), .val (.long (f0_m36 q0 q1 q2 p3)), .second, .val (.int (f0_m46 q0 q1 q2 p3))] [(.int (0 : Int32))])) t → Steps p.tables e below (s₁.setTop (entryFrame m #[(.long q0), (.long q1), (.long q2), (.int p3)] maxLocals)) t := fun t k => pre52 t (by
      show Steps p.tables e below (T52.setTop (mkF m 260 #[.val (.long q0), .second, .val (.long q1), .second, .val (.long q2), .second, .val (.int p3), .val (.long (q0 &&& (9223372036854775807 : Int64))), .second, .val (.long (f0_m17 q0 q1 q2 p3)), .second, .val (.int (p3 &&& (3 : Int32))), .val (.ref b18), .val (.int (((p3.toUInt32 >>> ((2 : Int32) &&& 31).toUInt32).toInt32) &&& (3 : Int32))), .val (.long (f0_m36 q0 q1 q2 p3)), .second, .val (.int (f0_m46 q0 q1 q2 p3))] [(.int (f0_m55 q0 q1 q2 p3)), (.int (F6 (q0 &&& (9223372036854775807 : Int64)) (q0 &&& (9223372036854775807 : Int64)) (f0_m17 q0 q1 q2 p3)))])) _
      refine XS.icmpYes X52.here hx rfl (pc0 := 260) (pc' := 289) rfl (hb hby at_260) rfl (feq hc260_56).2 (by decide) (by decide) ?_
      show Steps p.tables e below (T52.setTop (mkF m 289 #[.val (.long q0), .second, .val (.long q1), .second, .val (.long q2), .second, .val (.int p3), .val (.long (q0 &&& (9223372036854775807 : Int64))), .second, .val (.long (f0_m17 q0 q1 q2 p3)), .second, .val (.int (p3 &&& (3 : Int32))), .val (.ref b18), .val (.int (((p3.toUInt32 >>> ((2 : Int32) &&& 31).toUInt32).toInt32) &&& (3 : Int32))), .val (.long (f0_m36 q0 q1 q2 p3)), .second, .val (.int (f0_m46 q0 q1 q2 p3))] [])) _
      refine XS.iconst X52.here hx rfl (hb hby at_289) ?_
      exact k)
    obtain ⟨fs, hr, hrun, hended, hW, hsame⟩ := X52.leave (v := some (.int (0 : Int32))) (fun h => by rw [Bd.returns] at h; cases h) hlk
    have hF : (F0 q0 q1 q2 p3) = (0 : Int32) := by unfold F0; rw [if_pos hc237_49, if_neg hc260_56]
    exact ⟨_, _, pre66 _ (retN X52 hx (t := .boolean) Bd.returns (by simp) (hb hby at_290) hr), hrun, hended, _, _, rfl, ⟨by rw [hF], N52⟩, ⟨_, rfl⟩, hW, hsame.mono (by decide) (by decide)⟩
  have pre67 : ∀ t, Steps p.tables e below (T47.setTop (mkF m 290 #[.val (.long q0), .second, .val (.long q1), .second, .val (.long q2), .second, .val (.int p3), .val (.long (q0 &&& (9223372036854775807 : Int64))), .second, .val (.long (f0_m17 q0 q1 q2 p3)), .second, .val (.int (p3 &&& (3 : Int32))), .val (.ref b18), .val (.int (((p3.toUInt32 >>> ((2 : Int32) &&& 31).toUInt32).toInt32) &&& (3 : Int32))), .val (.long (f0_m36 q0 q1 q2 p3)), .second, .val (.int (f0_m46 q0 q1 q2 p3))] [(.int (0 : Int32))])) t → Steps p.tables e below (s₁.setTop (entryFrame m #[(.long q0), (.long q1), (.long q2), (.int p3)] maxLocals)) t := fun t k => pre48 t (by
    show Steps p.tables e below (T47.setTop (mkF m 237 #[.val (.long q0), .second, .val (.long q1), .second, .val (.long q2), .second, .val (.int p3), .val (.long (q0 &&& (9223372036854775807 : Int64))), .second, .val (.long (f0_m17 q0 q1 q2 p3)), .second, .val (.int (p3 &&& (3 : Int32))), .val (.ref b18), .val (.int (((p3.toUInt32 >>> ((2 : Int32) &&& 31).toUInt32).toInt32) &&& (3 : Int32))), .val (.long (f0_m36 q0 q1 q2 p3)), .second, .val (.int (f0_m46 q0 q1 q2 p3))] [(.int (f0_m46 q0 q1 q2 p3)), (.int (F6 (f0_m36 q0 q1 q2 p3) (q0 &&& (9223372036854775807 : Int64)) (f0_m17 q0 q1 q2 p3)))])) _
    refine XS.icmpYes X47.here hx rfl (pc0 := 237) (pc' := 289) rfl (hb hby at_237) rfl (feq hc237_49).2 (by decide) (by decide) ?_
    show Steps p.tables e below (T47.setTop (mkF m 289 #[.val (.long q0), .second, .val (.long q1), .second, .val (.long q2), .second, .val (.int p3), .val (.long (q0 &&& (9223372036854775807 : Int64))), .second, .val (.long (f0_m17 q0 q1 q2 p3)), .second, .val (.int (p3 &&& (3 : Int32))), .val (.ref b18), .val (.int (((p3.toUInt32 >>> ((2 : Int32) &&& 31).toUInt32).toInt32) &&& (3 : Int32))), .val (.long (f0_m36 q0 q1 q2 p3)), .second, .val (.int (f0_m46 q0 q1 q2 p3))] [])) _
    refine XS.iconst X47.here hx rfl (hb hby at_289) ?_
    exact k)
  obtain ⟨fs, hr, hrun, hended, hW, hsame⟩ := X47.leave (v := some (.int (0 : Int32))) (fun h => by rw [Bd.returns] at h; cases h) hlk
  have hF : (F0 q0 q1 q2 p3) = (0 : Int32) := by unfold F0; rw [if_neg hc237_49]
  exact ⟨_, _, pre67 _ (retN X47 hx (t := .boolean) Bd.returns (by simp) (hb hby at_290) hr), hrun, hended, _, _, rfl, ⟨by rw [hF], N47⟩, ⟨_, rfl⟩, hW, hsame.mono (by decide) (by decide)⟩
theorem own_F4 (x y : Int64) : F4 x y = if y < x then y else x := rfl
theorem own_F5 (x y : Int64) : F5 x y = if x < y then y else x := rfl
theorem own_core (s t p : Int64) (hs : 0 ≤ s.toInt) (hst : s.toInt ≤ t.toInt) : F6 p s t = (if s < t then (if (F5 s (F4 p (t - (1 : Int64)))) = p then (1 : Int32) else 0) else 0) := by
  have d := c_lsub t 1; have rd := rng64 (t - (1 : Int64)); have rt := rng64 t
  have o : (1 : Int64).toInt = 1 := rfl
  rw [o] at d
  have d' : (t - (1 : Int64)).toInt = t.toInt - 1 := by omega
  rw [own_F5, own_F4]; unfold F6
  by_cases h1 : s < t
  · rw [if_pos h1]
    by_cases h2 : p < s
    · rw [if_pos h2]
      have n1 : ¬ (t - (1 : Int64)) < p := by rw [Int64.lt_iff_toInt_lt] at *; omega
      have n2 : ¬ s < p := by rw [Int64.lt_iff_toInt_lt] at *; omega
      have n3 : ¬ s = p := fun e => by rw [e, Int64.lt_iff_toInt_lt] at h2; omega
      rw [if_neg n1, if_neg n2, if_neg n3]
    · rw [if_neg h2]
      by_cases h3 : p < t
      · rw [if_pos h3]
        have n1 : ¬ (t - (1 : Int64)) < p := by rw [Int64.lt_iff_toInt_lt] at *; omega
        rw [if_neg n1]
        by_cases h4 : s < p
        · rw [if_pos h4, if_pos rfl]
        · rw [if_neg h4]
          have e : s = p := Int64.toInt_inj.mp (by rw [Int64.lt_iff_toInt_lt] at *; omega)
          rw [if_pos e]
      · rw [if_neg h3]
        have n1 : (t - (1 : Int64)) < p := by rw [Int64.lt_iff_toInt_lt] at *; omega
        rw [if_pos n1]
        by_cases h4 : s < t - (1 : Int64)
        · rw [if_pos h4]
          have n3 : ¬ (t - (1 : Int64)) = p := fun e => by rw [e, Int64.lt_iff_toInt_lt] at n1; omega
          rw [if_neg n3]
        · rw [if_neg h4]
          have n3 : ¬ s = p := fun e => by rw [e] at h1; exact h3 h1
          rw [if_neg n3]
  · rw [if_neg h1]
    by_cases h2 : p < s
    · rw [if_pos h2]
    · rw [if_neg h2]
      have n : ¬ p < t := by rw [Int64.lt_iff_toInt_lt] at *; omega
      rw [if_neg n]
theorem own_law (q0 q1 q2 : Int64) (p3 : Int32) : F0 q0 q1 q2 p3 = 1 := by
  have hs := own_nn q0; have hst := own_st q0 q1 q2 p3
  unfold F0 f0_m46 f0_m55
  generalize f0_m17 q0 q1 q2 p3 = t at *
  generalize f0_m36 q0 q1 q2 p3 = p at *
  generalize (q0 &&& (9223372036854775807 : Int64)) = s at *
  rw [if_pos (own_core s t p hs hst)]
  have d := c_lsub s 1; have rd := rng64 (s - (1 : Int64)); have rs := rng64 s
  have o : (1 : Int64).toInt = 1 := rfl
  rw [o] at d
  have a1 : F6 s s t = if s < t then 1 else 0 := by
    unfold F6; rw [if_neg (by rw [Int64.lt_iff_toInt_lt]; omega)]
  have a2 : F6 t s t = 0 := by
    unfold F6; rw [if_neg (by rw [Int64.lt_iff_toInt_lt]; omega), if_neg (by rw [Int64.lt_iff_toInt_lt]; omega)]
  have a3 : F6 (s - (1 : Int64)) s t = 0 := by
    unfold F6; rw [if_pos (by rw [Int64.lt_iff_toInt_lt]; omega)]
  rw [if_pos a1, if_pos a2, if_pos a3]
set_option maxRecDepth 65536 in
set_option maxHeartbeats 40000000 in
theorem comes_1 {Post : Tables → Env → Array Value → State → Outcome → State → Prop} (hpost : ∀ tb e args s v u, (limb_1_1.after args s (.returned v) u = true ∧ limb_1_2.after args s (.returned v) u = true ∧ True) → FrameEnd s (.returned v) u (Jvm.fieldLocs frame_1_writes args s ++ Jvm.arrayLocs frame_1_arrays args s ++ Jvm.staticLocs frame_1_statics s) 16 128 → Post tb e args s (.returned v) u) :
    ArmFor flags0 classFile x code maxLocals ret World_1 tables_1 room_1 Calls_1 rest_1 Pre_1 Post := by
  intro l hfl _ _ p e ha hc hk s m args below hf hA hF happ hP
  obtain ⟨hcalls, hrest, hpre⟩ := hP
  obtain ⟨-, -, -, hnamed, -, -, -, hat⟩ := (Spec.applies_iff hf).mp happ
  obtain ⟨hg, hn⟩ := and_e (Cond.before_iff.mp (show (Jvm.Cond.and given_1 narrow_1).before args s = true from hpre))
  obtain ⟨hcount, g0⟩ := and_e hg
  obtain ⟨ga0, g1⟩ := and_e g0
  obtain ⟨ga1, g2⟩ := and_e g1
  obtain ⟨ga2, g3⟩ := and_e g2
  obtain ⟨w0, w1, w2, w3, rfl⟩ : ∃ w0 w1 w2 w3 : Value, args = #[w0, w1, w2, w3] := by
    have hs : args.size = 4 := by simpa [Cond.value, given_1] using hcount
    obtain ⟨L⟩ := args
    match L, hs with
    | [w0, w1, w2, w3], _ => exact ⟨w0, w1, w2, w3, rfl⟩
  have hw := fun d (hd : d ∈ tables_1) => atoms_spec (ws := Jvm.Cond.code x code maxLocals ret :: tables_1) hat d (List.mem_cons_of_mem _ hd)
  obtain ⟨i0, ei0⟩ := isL_v ga0
  obtain rfl : w0 = (.long i0) := Option.some.inj ei0
  obtain ⟨i1, ei1⟩ := isL_v ga1
  obtain rfl : w1 = (.long i1) := Option.some.inj ei1
  obtain ⟨i2, ei2⟩ := isL_v ga2
  obtain rfl : w2 = (.long i2) := Option.some.inj ei2
  obtain ⟨i3, ei3⟩ := is_v g3
  obtain rfl : w3 = (.int i3) := Option.some.inj ei3
  obtain ⟨n, o, h1, h2, h3, _, L, rfl, ⟨rfl, N⟩, hq⟩ := rm0 l s _ hw tables_1 i0 i1 i2 i3 s.heap s.heap.size (Nat.le_refl _) p e ha hc hk s m _ below hf ((Spec.applies_iff_loose hf).mp happ).1 ⟨rfl, State.Warmed39.refl s, rfl⟩ trivial
  have hlaw := own_law i0 i1 i2 i3
  refine ⟨n, _, h1, h2, h3, hpost _ _ _ _ _ _ ⟨Cond.after_iff.mpr rfl, Cond.after_iff.mpr (eq_i res_at (Term.int_eval (1)) (congrArg Value.int hlaw)), trivial⟩ ⟨hq.1, hq.2.1, (hq.2.2.sift fun y hy => Or.inr (N y hy)).mono (by decide) (by decide)⟩⟩
theorem main_1_1 : Claimed_1_1 := comes_1 fun _ _ _ _ _ _ h hF => ⟨h.1, hF⟩
theorem main_1_2 : Claimed_1_2 := comes_1 fun _ _ _ _ _ _ h hF => ⟨h.2.1, hF⟩
end Jvm.Pilot.@@N@@
namespace Jvm.Pilot.@@N@@
open Jvm Jvm.ClassFile Sem Op Lib Jvm.Free Jvm.Stand Jvm.Pilot.@@N@@.Jvm.D
/-! MADE BY PROGRAM (witnessworld.py) out of the Statement's table words and the real class files: 11 classes; the members and pool entries that the words name. The judged class is class 1, her method 1. -/
namespace start1
open Jvm.ClassFile
def u (s : String) : CpInfo := .utf8 (stringToUtf16 s)
/-- a pool by its gaps: so many unusable entries, then the entry; so many at the end -/
def gap : Nat → List CpInfo → List CpInfo
  | 0, r => r
  | n + 1, r => .unusable :: gap n r
def poolList (es : List (Nat × CpInfo)) (last : Nat) : List CpInfo := es.foldr (fun e r => gap e.1 (e.2 :: r)) (gap last [])
def pool (es : List (Nat × CpInfo)) (last : Nat) : Array CpInfo := ⟨poolList es last⟩
def fileOf (pool : Array CpInfo) (this : Nat) (attrs : Array Attribute := #[]) (ms : Array MethodInfo := #[]) (fl : Nat := 33) (sup : Nat := 0) (ifs : Array Nat := #[]) (fds : Array FieldInfo := #[]) : ClassFile where
  minorVersion := 0
  majorVersion := 65
  constantPool := pool
  accessFlags := fl
  thisClass := this
  superClass := sup
  interfaces := ifs
  fields := fds
  methods := ms
  attributes := attrs
def plain (name : String) (sup : Option ClassId) : Class where
  name := name
  kind := .ordinary
  loader := none
  accessFlags := 33
  super := sup
  interfaces := #[]
  cf := none
  fields := #[]
  methods := #[]
  instanceTypes := #[]
  staticTypes := #[]
  resolved := #[]
  callSites := []
  init := .initialized
  statics := none
  mirror := none

def pool0 : Array CpInfo := pool [(5, u "<init>"), (0, u "()V"), (1, .class_ 10), (1, u "java/lang/Object")] 113

def k0c0 : Code := { maxStack := 0, maxLocals := 1, code := object_method_1_code, exceptionTable := #[], attributes := #[] }
def k0m0 : Method := { name := "<init>", desc := "()V", sig := { parameters := [], returnType := none }, accessFlags := 1, code := some k0c0 }
/-- java/lang/Object -/
def k0 : Class := { plain "java/lang/Object" none with
  accessFlags := 33
  interfaces := #[]
  cf := some (fileOf pool0 8 #[] #[{ accessFlags := 1, nameIndex := 5, descriptorIndex := 6, attributes := #[] }] 33 0 #[] #[])
  fields := #[]
  methods := #[k0m0]
  instanceTypes := #[]
  staticTypes := #[]
  resolved := Array.replicate 124 none
  statics := none }

def pool1 : Array CpInfo := pool [(2, .class_ 4), (1, u "java/lang/Object"), (0, u "<init>"), (0, u "()V"), (2, .long 9223372036854775807), (1, .methodref 12 13), (0, .class_ 14), (0, .nameAndType 15 16), (0, u "java/lang/Math"), (0, u "max"), (0, u "(JJ)J"), (0, .long 7), (1, .class_ 20), (0, u "com/example/rangekeeper/rangekeeper/core/Range"), (0, .methodref 19 22), (0, .nameAndType 5 23), (0, u "(JJ)V"), (0, .long 3), (1, .long 2), (1, .long 9223372036854775808), (1, .methodref 12 31), (0, .nameAndType 32 16), (0, u "min"), (0, .methodref 19 34), (0, .nameAndType 35 36), (0, u "contains"), (0, u "(J)Z"), (0, .class_ 38), (0, u "com/example/rangekeeper/rangekeeper/core/RangeContainsPinLaw"), (2, u "law"), (0, u "(JJJI)Z")] 3

def k1m0 : Method := { name := "<init>", desc := "()V", sig := { parameters := [], returnType := none }, accessFlags := 1, code := none }
def k1c1 : Code := { maxStack := 8, maxLocals := 17, code := code, exceptionTable := #[], attributes := #[] }
def k1m1 : Method := { name := "law", desc := "(JJJI)Z", sig := { parameters := [.long, .long, .long, .int], returnType := some .boolean }, accessFlags := 9, code := some k1c1 }
/-- com/example/rangekeeper/rangekeeper/core/RangeContainsPinLaw -/
def k1 : Class := { plain "com/example/rangekeeper/rangekeeper/core/RangeContainsPinLaw" (some 0) with
  accessFlags := 49
  interfaces := #[]
  cf := some (fileOf pool1 37 #[] #[{ accessFlags := 1, nameIndex := 5, descriptorIndex := 6, attributes := #[] }, { accessFlags := 9, nameIndex := 41, descriptorIndex := 42, attributes := #[] }] 49 2 #[] #[])
  fields := #[]
  methods := #[k1m0, k1m1]
  instanceTypes := #[]
  staticTypes := #[]
  resolved := Array.replicate 46 none
  statics := none }

def pool2 : Array CpInfo := pool [(1, .methodref 2 3), (0, .class_ 4), (0, .nameAndType 5 6), (0, u "java/lang/Object"), (0, u "<init>"), (0, u "()V"), (0, .class_ 8), (0, u "java/lang/Record")] 13

def k2c0 : Code := { maxStack := 1, maxLocals := 1, code := jdk_30_method_1_code, exceptionTable := #[], attributes := #[] }
def k2m0 : Method := { name := "<init>", desc := "()V", sig := { parameters := [], returnType := none }, accessFlags := 4, code := some k2c0 }
/-- java/lang/Record -/
def k2 : Class := { plain "java/lang/Record" (some 0) with
  accessFlags := 1057
  interfaces := #[]
  cf := some (fileOf pool2 7 #[] #[{ accessFlags := 4, nameIndex := 5, descriptorIndex := 6, attributes := #[] }] 1057 2 #[] #[])
  fields := #[]
  methods := #[k2m0]
  instanceTypes := #[]
  staticTypes := #[]
  resolved := Array.replicate 22 none
  statics := none }

def pool3 : Array CpInfo := pool [(1, .methodref 2 3), (0, .class_ 4), (0, .nameAndType 5 6), (0, u "java/lang/Record"), (0, u "<init>"), (0, u "()V"), (10, .fieldref 18 19), (0, .class_ 20), (0, .nameAndType 21 22), (0, u "com/example/rangekeeper/rangekeeper/core/Range"), (0, u "start"), (0, u "J"), (0, .fieldref 18 24), (0, .nameAndType 25 22), (0, u "stop"), (6, u "(JJ)V"), (72, u "contains"), (0, u "(J)Z")] 45

def k3c0 : Code := { maxStack := 6, maxLocals := 5, code := prog_15_method_1_code, exceptionTable := #[], attributes := #[] }
def k3m0 : Method := { name := "<init>", desc := "(JJ)V", sig := { parameters := [.long, .long], returnType := none }, accessFlags := 1, code := some k3c0 }
def k3c1 : Code := { maxStack := 4, maxLocals := 3, code := prog_15_method_6_code, exceptionTable := #[], attributes := #[] }
def k3m1 : Method := { name := "contains", desc := "(J)Z", sig := { parameters := [.long], returnType := some .boolean }, accessFlags := 1, code := some k3c1 }
/-- com/example/rangekeeper/rangekeeper/core/Range -/
def k3 : Class := { plain "com/example/rangekeeper/rangekeeper/core/Range" (some 2) with
  accessFlags := 49
  interfaces := #[]
  cf := some (fileOf pool3 18 #[] #[{ accessFlags := 1, nameIndex := 5, descriptorIndex := 32, attributes := #[] }, { accessFlags := 1, nameIndex := 105, descriptorIndex := 106, attributes := #[] }] 49 2 #[] #[{ accessFlags := 18, nameIndex := 21, descriptorIndex := 22, attributes := #[] }, { accessFlags := 18, nameIndex := 25, descriptorIndex := 22, attributes := #[] }])
  fields := #[{ name := "start", type := .long, accessFlags := 18, slot := 0, constantValue := 0 }, { name := "stop", type := .long, accessFlags := 18, slot := 1, constantValue := 0 }]
  methods := #[k3m0, k3m1]
  instanceTypes := #[.long, .long]
  staticTypes := #[]
  resolved := Array.replicate 152 none
  statics := none }

def pool4 : Array CpInfo := pool [(1, .class_ 2), (0, u "java/lang/Math"), (1, .class_ 6), (1, u "java/lang/Object"), (0, u "<init>"), (0, u "()V"), (89, .class_ 100), (1, u "java/lang/Math$RandomNumberGeneratorHolder"), (20, u "(JJ)J"), (50, u "negativeZeroFloatBits"), (0, u "J"), (2, u "negativeZeroDoubleBits"), (21, u "max"), (2, u "min"), (43, u "$assertionsDisabled"), (0, u "Z"), (91, u "twoToTheDoubleScaleDown"), (0, u "D"), (4, u "twoToTheDoubleScaleUp"), (9, u "E"), (3, u "PI"), (2, u "TAU"), (2, u "DEGREES_TO_RADIANS"), (0, u "RADIANS_TO_DEGREES")] 94

def k4m0 : Method := { name := "<init>", desc := "()V", sig := { parameters := [], returnType := none }, accessFlags := 2, code := none }
def k4c1 : Code := { maxStack := 4, maxLocals := 4, code := jdk_29_method_66_code, exceptionTable := #[], attributes := #[] }
def k4m1 : Method := { name := "max", desc := "(JJ)J", sig := { parameters := [.long, .long], returnType := some .long }, accessFlags := 9, code := some k4c1 }
def k4c2 : Code := { maxStack := 4, maxLocals := 4, code := jdk_29_method_70_code, exceptionTable := #[], attributes := #[] }
def k4m2 : Method := { name := "min", desc := "(JJ)J", sig := { parameters := [.long, .long], returnType := some .long }, accessFlags := 9, code := some k4c2 }
/-- java/lang/Math -/
def k4 : Class := { plain "java/lang/Math" (some 0) with
  accessFlags := 49
  interfaces := #[]
  cf := some (fileOf pool4 1 #[.nestMembers #[98]] #[{ accessFlags := 2, nameIndex := 7, descriptorIndex := 8, attributes := #[] }, { accessFlags := 9, nameIndex := 198, descriptorIndex := 121, attributes := #[] }, { accessFlags := 9, nameIndex := 201, descriptorIndex := 121, attributes := #[] }] 49 4 #[] #[{ accessFlags := 25, nameIndex := 354, descriptorIndex := 339, attributes := #[] }, { accessFlags := 25, nameIndex := 358, descriptorIndex := 339, attributes := #[] }, { accessFlags := 25, nameIndex := 361, descriptorIndex := 339, attributes := #[] }, { accessFlags := 26, nameIndex := 364, descriptorIndex := 339, attributes := #[] }, { accessFlags := 26, nameIndex := 365, descriptorIndex := 339, attributes := #[] }, { accessFlags := 26, nameIndex := 172, descriptorIndex := 173, attributes := #[] }, { accessFlags := 26, nameIndex := 176, descriptorIndex := 173, attributes := #[] }, { accessFlags := 8, nameIndex := 344, descriptorIndex := 339, attributes := #[] }, { accessFlags := 8, nameIndex := 338, descriptorIndex := 339, attributes := #[] }, { accessFlags := 4120, nameIndex := 245, descriptorIndex := 246, attributes := #[] }])
  fields := #[{ name := "E", type := .double, accessFlags := 25, slot := 0, constantValue := 0 }, { name := "PI", type := .double, accessFlags := 25, slot := 1, constantValue := 0 }, { name := "TAU", type := .double, accessFlags := 25, slot := 2, constantValue := 0 }, { name := "DEGREES_TO_RADIANS", type := .double, accessFlags := 26, slot := 3, constantValue := 0 }, { name := "RADIANS_TO_DEGREES", type := .double, accessFlags := 26, slot := 4, constantValue := 0 }, { name := "negativeZeroFloatBits", type := .long, accessFlags := 26, slot := 5, constantValue := 0 }, { name := "negativeZeroDoubleBits", type := .long, accessFlags := 26, slot := 6, constantValue := 0 }, { name := "twoToTheDoubleScaleUp", type := .double, accessFlags := 8, slot := 7, constantValue := 0 }, { name := "twoToTheDoubleScaleDown", type := .double, accessFlags := 8, slot := 8, constantValue := 0 }, { name := "$assertionsDisabled", type := .boolean, accessFlags := 4120, slot := 9, constantValue := 0 }]
  methods := #[k4m0, k4m1, k4m2]
  instanceTypes := #[]
  staticTypes := #[.double, .double, .double, .double, .double, .long, .long, .double, .double, .boolean]
  resolved := Array.replicate 460 none
  statics := none }

def pool5 : Array CpInfo := pool [(1, u "java/lang/Cloneable"), (0, .class_ 1), (0, u "java/lang/Object"), (0, .class_ 3)] 3

/-- java/lang/Cloneable -/
def k5 : Class := { plain "java/lang/Cloneable" (some 0) with
  accessFlags := 1537
  interfaces := #[]
  cf := some (fileOf pool5 2 #[] #[] 1537 4 #[] #[])
  fields := #[]
  methods := #[]
  instanceTypes := #[]
  staticTypes := #[]
  resolved := Array.replicate 8 none
  statics := none }

def pool6 : Array CpInfo := pool [(1, u "java/io/Serializable"), (0, .class_ 1), (0, u "java/lang/Object"), (0, .class_ 3)] 3

/-- java/io/Serializable -/
def k6 : Class := { plain "java/io/Serializable" (some 0) with
  accessFlags := 1537
  interfaces := #[]
  cf := some (fileOf pool6 2 #[] #[] 1537 4 #[] #[])
  fields := #[]
  methods := #[]
  instanceTypes := #[]
  staticTypes := #[]
  resolved := Array.replicate 8 none
  statics := none }

/-- the primitive byte -/
def k7 : Class := { plain "byte" none with kind := .primitive 'B', accessFlags := 0x411 }
/-- [B -/
def k8 : Class := { plain "[B" (some 0) with kind := .array 7 .byte, interfaces := #[5, 6], accessFlags := 1041 }

/-- the primitive int -/
def k9 : Class := { plain "int" none with kind := .primitive 'I', accessFlags := 0x411 }
/-- [I -/
def k10 : Class := { plain "[I" (some 0) with kind := .array 9 .int, interfaces := #[5, 6], accessFlags := 1041 }

def heap : Heap := #[]
def classes : Array Class := #[k0, k1, k2, k3, k4, k5, k6, k7, k8, k9, k10]
def interned : List (Array UInt16 × Addr) := []
def slotsUsed : Nat := 0
def theMethod : MethodId := ⟨1, 1⟩
def args0 : Array Value := #[.long 9, .long 9, .long 9, .int 7]
def aboutOver (below : List Frame) : State where
  vm := { classes := classes, interned := interned.toArray }
  heap := heap
  slotsUsed := slotsUsed
  threads := #[{ frames := .invoking theMethod args0 :: below }]
def below0 : List Frame := [.native { method := ⟨0, 0⟩, args := #[] }]
def about1 : State := aboutOver below0
def p0 : Program := .bare "" "" ""
def e0 : Env := launch0.env 0 0 0
theorem w_frames : about1.frames = Frame.invoking theMethod args0 :: below0 := rfl
set_option maxRecDepth 65536 in
theorem w_args : argsFit about1.vm theMethod args0 = true := by decide +kernel
set_option maxRecDepth 65536 in
theorem w_heap : heapFits about1 = true := by decide +kernel
set_option maxRecDepth 65536 in
theorem w_runnable : about1.curStatus? = some .runnable := by decide +kernel
set_option maxRecDepth 65536 in
theorem w_alone : about1.alone = true := by decide +kernel
set_option maxRecDepth 65536 in
theorem w_named : about1.methodNamed? x = some theMethod := by decide +kernel
set_option maxRecDepth 65536 in
theorem w_hears : about1.hears theMethod below0 = true := by decide +kernel
set_option maxRecDepth 65536 in
theorem w_ripe : about1.ripe theMethod args0 below0 = true := by decide +kernel
theorem w_running : about1.status = .running := rfl
set_option maxRecDepth 65536 in
theorem w_room : about1.hasRoom e0.platform room_1 = true :=
  launch0.hasRoom_least _ room_1 (by decide +kernel) (by decide +kernel) (by decide +kernel) (by decide +kernel) (by decide +kernel) (by decide +kernel)
theorem allAtoms_all (ts : List Jvm.Cond) (a : Array Jvm.Value) (st : Jvm.State) : (allAtoms ts).before a st = ts.all (fun c => c.before a st) := by
  induction ts with
  | nil => rfl
  | cons c t ih =>
    show (Jvm.Cond.and c (allAtoms t)).before a st = _
    rw [Jvm.Cond.before_and, ih, List.all_cons]
def words1 : List Jvm.Cond := Jvm.Cond.code x code maxLocals ret :: tables_1
/-- a 'code' word, met by the world's own term for the bytes: nothing is compared byte by byte -/
theorem code_word {y : MethodName} {bytes : ByteArray} {mx : Nat} {rt : Option FieldType} {a : Array Value} {s : State} {m : MethodId} {meth : Method} {c : Code} (h1 : s.methodNamed? y = some m) (h2 : s.vm.method? m = some meth) (h3 : meth.code = some c) (h4 : c.code = bytes)
    (h5 : (c.maxLocals == mx && c.exceptionTable.isEmpty && decide (c.maxStack ≤ mostOperands) && decide (meth.sig.returnType = rt) && !meth.locks && decide (parseMethodDescriptor y.desc = some meth.sig)) = true) : (Jvm.Cond.code y bytes mx rt).before a s = true := by
  simp only [Bool.and_eq_true, beq_iff_eq, Bool.not_eq_true', decide_eq_true_eq] at h5
  obtain ⟨⟨⟨⟨⟨g1, g2⟩, g3⟩, g4⟩, g5⟩, g6⟩ := h5
  simp [Cond.before, Cond.holds, Cond.value, h1, h2, h3, h4, g1, g2, g3, g4, g5, g6]
def isCode : Jvm.Cond → Bool
  | .code _ _ _ _ => true
  | _ => false
theorem all_split {L : List Jvm.Cond} {P : Jvm.Cond → Bool} (h1 : L.all (fun c => isCode c || P c) = true) (h2 : ∀ c ∈ L.filter isCode, P c = true) : L.all P = true := by
  refine List.all_eq_true.mpr fun c hc => ?_
  have h := List.all_eq_true.mp h1 c hc
  rcases Bool.eq_false_or_eq_true (isCode c) with hi | hi
  · exact h2 c (List.mem_filter.mpr ⟨hc, hi⟩)
  · simpa [hi] using h
set_option maxRecDepth 65536 in
theorem w_c0 : (Jvm.Cond.code x code maxLocals ret).before args0 about1 = true := code_word (m := ⟨1, 1⟩) (meth := k1m1) (c := k1c1) (by decide +kernel) rfl rfl rfl (by decide +kernel)
set_option maxRecDepth 65536 in
theorem w_c1 : (Jvm.Cond.code ({ cls := "com/example/rangekeeper/rangekeeper/core/Range", name := "<init>", desc := "(JJ)V" } : Jvm.MethodName) prog_15_method_1_code (5 : Nat) (Option.none : Option Jvm.ClassFile.FieldType)).before args0 about1 = true := code_word (m := ⟨3, 0⟩) (meth := k3m0) (c := k3c0) (by decide +kernel) rfl rfl rfl (by decide +kernel)
set_option maxRecDepth 65536 in
theorem w_c2 : (Jvm.Cond.code ({ cls := "java/lang/Record", name := "<init>", desc := "()V" } : Jvm.MethodName) jdk_30_method_1_code (1 : Nat) (Option.none : Option Jvm.ClassFile.FieldType)).before args0 about1 = true := code_word (m := ⟨2, 0⟩) (meth := k2m0) (c := k2c0) (by decide +kernel) rfl rfl rfl (by decide +kernel)
set_option maxRecDepth 65536 in
theorem w_c3 : (Jvm.Cond.code ({ cls := "java/lang/Object", name := "<init>", desc := "()V" } : Jvm.MethodName) object_method_1_code (1 : Nat) (Option.none : Option Jvm.ClassFile.FieldType)).before args0 about1 = true := code_word (m := ⟨0, 0⟩) (meth := k0m0) (c := k0c0) (by decide +kernel) rfl rfl rfl (by decide +kernel)
set_option maxRecDepth 65536 in
theorem w_c4 : (Jvm.Cond.code ({ cls := "java/lang/Math", name := "min", desc := "(JJ)J" } : Jvm.MethodName) jdk_29_method_70_code (4 : Nat) (Option.some Jvm.ClassFile.FieldType.long)).before args0 about1 = true := code_word (m := ⟨4, 2⟩) (meth := k4m2) (c := k4c2) (by decide +kernel) rfl rfl rfl (by decide +kernel)
set_option maxRecDepth 65536 in
theorem w_c5 : (Jvm.Cond.code ({ cls := "java/lang/Math", name := "max", desc := "(JJ)J" } : Jvm.MethodName) jdk_29_method_66_code (4 : Nat) (Option.some Jvm.ClassFile.FieldType.long)).before args0 about1 = true := code_word (m := ⟨4, 1⟩) (meth := k4m1) (c := k4c1) (by decide +kernel) rfl rfl rfl (by decide +kernel)
set_option maxRecDepth 65536 in
theorem w_c6 : (Jvm.Cond.code ({ cls := "com/example/rangekeeper/rangekeeper/core/Range", name := "contains", desc := "(J)Z" } : Jvm.MethodName) prog_15_method_6_code (3 : Nat) (Option.some Jvm.ClassFile.FieldType.boolean)).before args0 about1 = true := code_word (m := ⟨3, 1⟩) (meth := k3m1) (c := k3c1) (by decide +kernel) rfl rfl rfl (by decide +kernel)
def codes1 : List Jvm.Cond := [Jvm.Cond.code x code maxLocals ret, Jvm.Cond.code ({ cls := "com/example/rangekeeper/rangekeeper/core/Range", name := "<init>", desc := "(JJ)V" } : Jvm.MethodName) prog_15_method_1_code (5 : Nat) (Option.none : Option Jvm.ClassFile.FieldType), Jvm.Cond.code ({ cls := "java/lang/Record", name := "<init>", desc := "()V" } : Jvm.MethodName) jdk_30_method_1_code (1 : Nat) (Option.none : Option Jvm.ClassFile.FieldType), Jvm.Cond.code ({ cls := "java/lang/Object", name := "<init>", desc := "()V" } : Jvm.MethodName) object_method_1_code (1 : Nat) (Option.none : Option Jvm.ClassFile.FieldType), Jvm.Cond.code ({ cls := "java/lang/Math", name := "min", desc := "(JJ)J" } : Jvm.MethodName) jdk_29_method_70_code (4 : Nat) (Option.some Jvm.ClassFile.FieldType.long), Jvm.Cond.code ({ cls := "java/lang/Math", name := "max", desc := "(JJ)J" } : Jvm.MethodName) jdk_29_method_66_code (4 : Nat) (Option.some Jvm.ClassFile.FieldType.long), Jvm.Cond.code ({ cls := "com/example/rangekeeper/rangekeeper/core/Range", name := "contains", desc := "(J)Z" } : Jvm.MethodName) prog_15_method_6_code (3 : Nat) (Option.some Jvm.ClassFile.FieldType.boolean)]
set_option maxRecDepth 65536 in
theorem codes_eq : words1.filter isCode = codes1 := rfl
theorem w_codes : ∀ c ∈ words1.filter isCode, c.before args0 about1 = true := by
  rw [codes_eq]
  intro c hc
  simp only [codes1, List.mem_cons, List.not_mem_nil, or_false] at hc
  rcases hc with rfl | rfl | rfl | rfl | rfl | rfl | rfl
  · exact w_c0
  · exact w_c1
  · exact w_c2
  · exact w_c3
  · exact w_c4
  · exact w_c5
  · exact w_c6
set_option maxRecDepth 65536 in
theorem w_t1 : (words1.take 24).all (fun c => isCode c || c.before args0 about1) = true := by decide +kernel
set_option maxRecDepth 65536 in
theorem w_t2 : (words1.drop 24).all (fun c => isCode c || c.before args0 about1) = true := by decide +kernel
theorem w_tables : (allAtoms (Jvm.Cond.code x code maxLocals ret :: tables_1)).before args0 about1 = true := by
  rw [allAtoms_all]
  show words1.all (fun c => c.before args0 about1) = true
  refine all_split ?_ w_codes
  rw [← List.take_append_drop 24 words1, List.all_append, w_t1, w_t2]
  rfl
set_option maxRecDepth 65536 in
theorem w_case : (Jvm.Cond.and given_1 narrow_1).before args0 about1 = true := by decide +kernel
theorem w_applies : (headSpec (Jvm.Cond.code x code maxLocals ret :: tables_1) room_1).applies x e0.platform about1 = true :=
  (Spec.applies_iff w_frames).mpr ⟨w_running, w_runnable, w_alone, w_named, w_hears, w_ripe, w_room, w_tables⟩
theorem atStart : AtStart classFile x code maxLocals ret World_1 tables_1 room_1 Calls_1 rest_1 Pre_1 launch0 p0 e0 about1 theMethod args0 below0 :=
  ⟨lists_1, trivial, launch0.admits_env _ _ _, launch0.least_env, fairChoices_fair.cas, fairChoices_fair.clock, w_frames, w_args, w_heap, w_applies, trivial, trivial, w_case⟩
end start1
theorem witness_1 : WitnessClaimed_1 := ⟨start1.p0, start1.e0, start1.about1, start1.theMethod, start1.args0, start1.below0, start1.atStart⟩
end Jvm.Pilot.@@N@@
