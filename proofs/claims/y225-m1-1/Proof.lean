import JvmDerived
import JvmDerived.Pilot.@@N@@Statement
import JvmDerived.Pilot.@@N@@Code
set_option linter.unusedVariables false
set_option linter.unusedSimpArgs false
namespace Jvm.RoadKit
open Sem ClassFile Op Lib Jvm.Stand Jvm.Free Jvm.LawKit
section New
variable {p : Program} {l : Launch} {e : Env} {R : Room} {s : State} {m : MethodId} {args : Array Value} {below : List Frame} {meth : Method} {c : Code} {T : State} {locs : List Loc} {cells slots : Nat}
theorem retI (X : Stand p l e R s m args below meth c T locs cells slots) (hx : p.tables.exec = Jvm.exec) {pc : Nat} {Ls : Array Slot} {z : Int32} {rest : List Value} (hret : meth.sig.returnType = some .int) (hd : decode c.code pc = .ok (.ireturn, 1)) {fs : List Frame}
    (hl : ∀ (f : JFrame) (acts : List Action), f.method = m → f.locked = none → f.entered = [] → (doReturn e (T.setTop f) acts (some (.int z))).1 = T.setFrames fs) : Steps p.tables e below (T.setTop (mkF m pc Ls (.int z :: rest))) (T.setFrames fs) := by
  have hm' : T.vm.method? m = some meth := X.method'
  have hn : narrow .int (.int z) = .int z := rfl
  show Steps p.tables e below (T.setTop { method := m, pc := pc, locals := Ls, stack := _ :: rest, locked := none }) _
  jvm_step X.here [X.here.top, hx, hd, hm', hret, hn]
  first | (intro acts; rw [hl _ acts rfl rfl rfl]) | rw [hl _ _ rfl rfl rfl]
  exact Steps.refl _
end New
end Jvm.RoadKit
namespace Jvm.Pilot.@@N@@
open Jvm Jvm.ClassFile Sem Op Lib Jvm.Free Jvm.Stand Jvm.LawKit Jvm.RoadKit Bundle Jvm.Pilot.@@N@@.Jvm.D
theorem d1_0 : decode prog_16_method_3_code 0 = .ok (.iload_n 0, 1) := by decide +kernel
theorem d1_1 : decode prog_16_method_3_code 1 = .ok (.ifCond .eq 7, 3) := by decide +kernel
theorem d1_8 : decode prog_16_method_3_code 8 = .ok (.iconst 0, 1) := by decide +kernel
theorem d1_4 : decode prog_16_method_3_code 4 = .ok (.iconst 1, 1) := by decide +kernel
theorem d1_5 : decode prog_16_method_3_code 5 = .ok (.goto 4, 3) := by decide +kernel
theorem d1_9 : decode prog_16_method_3_code 9 = .ok (.iload_n 1, 1) := by decide +kernel
theorem d1_10 : decode prog_16_method_3_code 10 = .ok (.ifCond .eq 7, 3) := by decide +kernel
theorem d1_17 : decode prog_16_method_3_code 17 = .ok (.iconst 0, 1) := by decide +kernel
theorem d1_13 : decode prog_16_method_3_code 13 = .ok (.iconst 2, 1) := by decide +kernel
theorem d1_14 : decode prog_16_method_3_code 14 = .ok (.goto 4, 3) := by decide +kernel
theorem d1_18 : decode prog_16_method_3_code 18 = .ok (.ior, 1) := by decide +kernel
theorem d1_19 : decode prog_16_method_3_code 19 = .ok (.ireturn, 1) := by decide +kernel
theorem d3_0 : decode jdk_30_method_1_code 0 = .ok (.aload_n 0, 1) := by decide +kernel
theorem d3_1 : decode jdk_30_method_1_code 1 = .ok (.invokespecial 1, 3) := by decide +kernel
theorem d3_4 : decode jdk_30_method_1_code 4 = .ok (.return_, 1) := by decide +kernel
theorem d2_0 : decode prog_16_method_1_code 0 = .ok (.aload_n 0, 1) := by decide +kernel
theorem d2_1 : decode prog_16_method_1_code 1 = .ok (.invokespecial 1, 3) := by decide +kernel
theorem pd0 : parseMethodDescriptor "()V" = some ⟨[], none⟩ := by decide +kernel
theorem d2_4 : decode prog_16_method_1_code 4 = .ok (.aload_n 0, 1) := by decide +kernel
theorem d2_5 : decode prog_16_method_1_code 5 = .ok (.aload_n 1, 1) := by decide +kernel
theorem d2_6 : decode prog_16_method_1_code 6 = .ok (.putfield 7, 3) := by decide +kernel
theorem d2_9 : decode prog_16_method_1_code 9 = .ok (.aload_n 0, 1) := by decide +kernel
theorem d2_10 : decode prog_16_method_1_code 10 = .ok (.aload_n 2, 1) := by decide +kernel
theorem d2_11 : decode prog_16_method_1_code 11 = .ok (.putfield 13, 3) := by decide +kernel
theorem d2_14 : decode prog_16_method_1_code 14 = .ok (.aload_n 0, 1) := by decide +kernel
theorem d2_15 : decode prog_16_method_1_code 15 = .ok (.aload_n 3, 1) := by decide +kernel
theorem d2_16 : decode prog_16_method_1_code 16 = .ok (.putfield 17, 3) := by decide +kernel
theorem d2_19 : decode prog_16_method_1_code 19 = .ok (.aload_n 0, 1) := by decide +kernel
theorem d2_20 : decode prog_16_method_1_code 20 = .ok (.iload 4, 2) := by decide +kernel
theorem d2_22 : decode prog_16_method_1_code 22 = .ok (.putfield 21, 3) := by decide +kernel
theorem d2_25 : decode prog_16_method_1_code 25 = .ok (.return_, 1) := by decide +kernel
theorem d5_0 : decode prog_16_method_6_code 0 = .ok (.aload_n 0, 1) := by decide +kernel
theorem d5_1 : decode prog_16_method_6_code 1 = .ok (.getfield 21, 3) := by decide +kernel
theorem d5_4 : decode prog_16_method_6_code 4 = .ok (.bipush (-4), 2) := by decide +kernel
theorem d5_6 : decode prog_16_method_6_code 6 = .ok (.iand, 1) := by decide +kernel
theorem d5_7 : decode prog_16_method_6_code 7 = .ok (.ifCond .ne 7, 3) := by decide +kernel
theorem d5_10 : decode prog_16_method_6_code 10 = .ok (.iconst 1, 1) := by decide +kernel
theorem d5_11 : decode prog_16_method_6_code 11 = .ok (.goto 4, 3) := by decide +kernel
theorem d5_15 : decode prog_16_method_6_code 15 = .ok (.ireturn, 1) := by decide +kernel
theorem d5_14 : decode prog_16_method_6_code 14 = .ok (.iconst 0, 1) := by decide +kernel
theorem d6_0 : decode prog_16_method_7_code 0 = .ok (.aload_n 0, 1) := by decide +kernel
theorem d6_1 : decode prog_16_method_7_code 1 = .ok (.getfield 21, 3) := by decide +kernel
theorem d6_4 : decode prog_16_method_7_code 4 = .ok (.iconst 1, 1) := by decide +kernel
theorem d6_5 : decode prog_16_method_7_code 5 = .ok (.iand, 1) := by decide +kernel
theorem d6_6 : decode prog_16_method_7_code 6 = .ok (.ifCond .eq 7, 3) := by decide +kernel
theorem d6_13 : decode prog_16_method_7_code 13 = .ok (.iconst 0, 1) := by decide +kernel
theorem d6_14 : decode prog_16_method_7_code 14 = .ok (.ireturn, 1) := by decide +kernel
theorem d6_9 : decode prog_16_method_7_code 9 = .ok (.iconst 1, 1) := by decide +kernel
theorem d6_10 : decode prog_16_method_7_code 10 = .ok (.goto 4, 3) := by decide +kernel
theorem d7_0 : decode prog_16_method_8_code 0 = .ok (.aload_n 0, 1) := by decide +kernel
theorem d7_1 : decode prog_16_method_8_code 1 = .ok (.getfield 21, 3) := by decide +kernel
theorem d7_4 : decode prog_16_method_8_code 4 = .ok (.iconst 2, 1) := by decide +kernel
theorem d7_5 : decode prog_16_method_8_code 5 = .ok (.iand, 1) := by decide +kernel
theorem d7_6 : decode prog_16_method_8_code 6 = .ok (.ifCond .eq 7, 3) := by decide +kernel
theorem d7_13 : decode prog_16_method_8_code 13 = .ok (.iconst 0, 1) := by decide +kernel
theorem d7_14 : decode prog_16_method_8_code 14 = .ok (.ireturn, 1) := by decide +kernel
theorem d7_9 : decode prog_16_method_8_code 9 = .ok (.iconst 1, 1) := by decide +kernel
theorem d7_10 : decode prog_16_method_8_code 10 = .ok (.goto 4, 3) := by decide +kernel
theorem pd1 : parseMethodDescriptor "(ZZ)I" = some ⟨[.boolean, .boolean], some .int⟩ := by decide +kernel
theorem pd2 : parseMethodDescriptor "(Ljava/lang/String;[BLjava/util/List;I)V" = some ⟨[(.object "java/lang/String"), (.array .byte), (.object "java/util/List"), .int], none⟩ := by decide +kernel
theorem pd3 : parseMethodDescriptor "()Z" = some ⟨[], some .boolean⟩ := by decide +kernel
theorem pn0 : plainName "com/example/panchayat/panchayat/protocol/CreateRequest" = true := by first | (simp [plainName, overriddenIn]; done) | decide +kernel
theorem pn1 : plainName "java/lang/Record" = true := by first | (simp [plainName, overriddenIn]; done) | decide +kernel
theorem pn2 : plainName "com/example/panchayat/panchayat/protocol/CreateRequestModePinLaw" = true := by first | (simp [plainName, overriddenIn]; done) | decide +kernel
def f1_m5 (p0 : Int32) (p1 : Int32) : Int32 := (if p0 = (0 : Int32) then (0 : Int32) else (1 : Int32))
def f1_m10 (p0 : Int32) (p1 : Int32) : Int32 := (if p1 = (0 : Int32) then (0 : Int32) else (2 : Int32))
def F1 (p0 : Int32) (p1 : Int32) : Int32 := ((f1_m5 p0 p1) ||| (f1_m10 p0 p1))
theorem ef1 (m : MethodId) (x0 : Int32) (x1 : Int32) : entryFrame m #[(.int x0), (.int x1)] 2 = mkF m 0 #[.val (.int x0), .val (.int x1)] [] := by first | (simp [entryFrame, mkF, argsToLocals, Value.category]; done) | rfl
def Q1 (Z : State) (p0 : Int32) (p1 : Int32) (h0 : Heap) (n0 : Nat) (v : Option Value) (h : Heap) (L : List Loc) : Prop := v = some (.int (F1 p0 p1)) ∧ Fr n0 L ∧ h = h0
set_option maxRecDepth 65536 in
set_option maxHeartbeats 40000000 in
theorem rm1 (l : Launch) (Z : State) (a0' : Array Value) (hw : ∀ d ∈ tables_1, d.before a0' Z = true) (ws : List Jvm.Cond) (p0 : Int32) (p1 : Int32) (h0 : Heap) (n0 : Nat) (Z0 : n0 ≤ h0.size) :
    MetFree l (⟨"com/example/panchayat/panchayat/protocol/CreateRequest", "mode", "(ZZ)I"⟩ : MethodName) (head1 (Jvm.Cond.code (⟨"com/example/panchayat/panchayat/protocol/CreateRequest", "mode", "(ZZ)I"⟩ : MethodName) prog_16_method_3_code 2 (some .int) :: ws) ({ frames := 0, cells := 0, slots := 0, locals := 0 } : Room)) (fun a U => a = #[(.int p0), (.int p1)] ∧ Z.Warmed39 U.vm ∧ U.heap = h0) (fun _ _ _ _ _ => True) (fun _ U o U' => ∃ v L, o = .returned v ∧ Q1 Z p0 p1 h0 n0 v U'.heap L ∧ FrameEnd U o U' L ({ frames := 0, cells := 0, slots := 0, locals := 0 } : Room).cells ({ frames := 0, cells := 0, slots := 0, locals := 0 } : Room).slots) := by
  refine MetFree.of_bodySF (plainFor_of_name pn0) hisR ?_
  intro p e s m args below meth c s₁ Bd hml0 hP hK
  obtain ⟨rfl, hZ, hh⟩ := hP
  have hx := Bd.exec
  have hby := Bd.bytes
  have hml : c.maxLocals = 2 := hml0
  have hown : s.vm.findClass "com/example/panchayat/panchayat/protocol/CreateRequest" = some m.cls := findClass_of_methodNamed Bd.named
  have hnm := (name_of_methodNamed Bd.named Bd.method).1
  have X0 : Stand p l e ({ frames := 0, cells := 0, slots := 0, locals := 0 } : Room) s m #[(.int p0), (.int p1)] below meth c s₁ [] 0 0 := Stand.of_body Bd
  have e0 : s₁.heap = h0 := by rw [← hh, Bd.state]; rfl
  have N0 := Fr.nil n0
  have pre0 : ∀ t, Steps p.tables e below (s₁.setTop (mkF m 0 #[.val (.int p0), .val (.int p1)] [])) t → Steps p.tables e below (s₁.setTop (entryFrame m #[(.int p0), (.int p1)] 2)) t := fun t k => castTop (ef1 m p0 p1) k
  have pre1 : ∀ t, Steps p.tables e below (s₁.setTop (mkF m 1 #[.val (.int p0), .val (.int p1)] [(.int p0)])) t → Steps p.tables e below (s₁.setTop (entryFrame m #[(.int p0), (.int p1)] 2)) t := fun t k => pre0 t (by
    show Steps p.tables e below (s₁.setTop (mkF m 0 #[.val (.int p0), .val (.int p1)] [])) _
    refine XS.iloadN X0.here hx rfl (hb hby d1_0) rfl ?_
    exact k)
  obtain ⟨T2, L2, X2, e2, N2, pre2⟩ : ∃ (T' : State) (locs' : List Loc), Stand p l e ({ frames := 0, cells := 0, slots := 0, locals := 0 } : Room) s m #[(.int p0), (.int p1)] below meth c T' locs' 0 0 ∧ T'.heap = h0 ∧ Fr n0 locs' ∧ ∀ t, Steps p.tables e below (T'.setTop (mkF m 9 #[.val (.int p0), .val (.int p1)] [(.int (f1_m5 p0 p1))])) t → Steps p.tables e below (s₁.setTop (entryFrame m #[(.int p0), (.int p1)] 2)) t := by
    by_cases hc1_2 : p0 = (0 : Int32)
    · have pre3 : ∀ t, Steps p.tables e below (s₁.setTop (mkF m 9 #[.val (.int p0), .val (.int p1)] [(.int (0 : Int32))])) t → Steps p.tables e below (s₁.setTop (entryFrame m #[(.int p0), (.int p1)] 2)) t := fun t k => pre1 t (by
        show Steps p.tables e below (s₁.setTop (mkF m 1 #[.val (.int p0), .val (.int p1)] [(.int p0)])) _
        refine XS.ifYes X0.here hx rfl (pc0 := 1) (pc' := 8) rfl (hb hby d1_1) rfl ((if0 _ _).trans (teq hc1_2).1) (by decide) (by decide) ?_
        show Steps p.tables e below (s₁.setTop (mkF m 8 #[.val (.int p0), .val (.int p1)] [])) _
        refine XS.iconst X0.here hx rfl (hb hby d1_8) ?_
        exact k)
      have q_f1_m5 : f1_m5 p0 p1 = (0 : Int32) := by unfold f1_m5; rw [if_pos hc1_2]
      rw [q_f1_m5]
      exact ⟨s₁, _, X0, e0, N0, pre3⟩
    have pre4 : ∀ t, Steps p.tables e below (s₁.setTop (mkF m 9 #[.val (.int p0), .val (.int p1)] [(.int (1 : Int32))])) t → Steps p.tables e below (s₁.setTop (entryFrame m #[(.int p0), (.int p1)] 2)) t := fun t k => pre1 t (by
      show Steps p.tables e below (s₁.setTop (mkF m 1 #[.val (.int p0), .val (.int p1)] [(.int p0)])) _
      refine XS.ifNo X0.here hx rfl (hb hby d1_1) rfl ((if0 _ _).trans (feq hc1_2).1) ?_
      show Steps p.tables e below (s₁.setTop (mkF m 4 #[.val (.int p0), .val (.int p1)] [])) _
      refine XS.iconst X0.here hx rfl (hb hby d1_4) ?_
      show Steps p.tables e below (s₁.setTop (mkF m 5 #[.val (.int p0), .val (.int p1)] [(.int (1 : Int32))])) _
      refine XS.goto X0.here hx rfl (pc0 := 5) (pc' := 9) rfl (hb hby d1_5) (by decide) (by decide) ?_
      exact k)
    have q_f1_m5 : f1_m5 p0 p1 = (1 : Int32) := by unfold f1_m5; rw [if_neg hc1_2]
    rw [q_f1_m5]
    exact ⟨s₁, _, X0, e0, N0, pre4⟩
  have pre6 : ∀ t, Steps p.tables e below (T2.setTop (mkF m 10 #[.val (.int p0), .val (.int p1)] [(.int p1), (.int (f1_m5 p0 p1))])) t → Steps p.tables e below (s₁.setTop (entryFrame m #[(.int p0), (.int p1)] 2)) t := fun t k => pre2 t (by
    show Steps p.tables e below (T2.setTop (mkF m 9 #[.val (.int p0), .val (.int p1)] [(.int (f1_m5 p0 p1))])) _
    refine XS.iloadN X2.here hx rfl (hb hby d1_9) rfl ?_
    exact k)
  obtain ⟨T7, L7, X7, e7, N7, pre7⟩ : ∃ (T' : State) (locs' : List Loc), Stand p l e ({ frames := 0, cells := 0, slots := 0, locals := 0 } : Room) s m #[(.int p0), (.int p1)] below meth c T' locs' 0 0 ∧ T'.heap = h0 ∧ Fr n0 locs' ∧ ∀ t, Steps p.tables e below (T'.setTop (mkF m 18 #[.val (.int p0), .val (.int p1)] [(.int (f1_m10 p0 p1)), (.int (f1_m5 p0 p1))])) t → Steps p.tables e below (s₁.setTop (entryFrame m #[(.int p0), (.int p1)] 2)) t := by
    by_cases hc10_7 : p1 = (0 : Int32)
    · have pre8 : ∀ t, Steps p.tables e below (T2.setTop (mkF m 18 #[.val (.int p0), .val (.int p1)] [(.int (0 : Int32)), (.int (f1_m5 p0 p1))])) t → Steps p.tables e below (s₁.setTop (entryFrame m #[(.int p0), (.int p1)] 2)) t := fun t k => pre6 t (by
        show Steps p.tables e below (T2.setTop (mkF m 10 #[.val (.int p0), .val (.int p1)] [(.int p1), (.int (f1_m5 p0 p1))])) _
        refine XS.ifYes X2.here hx rfl (pc0 := 10) (pc' := 17) rfl (hb hby d1_10) rfl ((if0 _ _).trans (teq hc10_7).1) (by decide) (by decide) ?_
        show Steps p.tables e below (T2.setTop (mkF m 17 #[.val (.int p0), .val (.int p1)] [(.int (f1_m5 p0 p1))])) _
        refine XS.iconst X2.here hx rfl (hb hby d1_17) ?_
        exact k)
      have q_f1_m10 : f1_m10 p0 p1 = (0 : Int32) := by unfold f1_m10; rw [if_pos hc10_7]
      rw [q_f1_m10]
      exact ⟨T2, _, X2, e2, N2, pre8⟩
    have pre9 : ∀ t, Steps p.tables e below (T2.setTop (mkF m 18 #[.val (.int p0), .val (.int p1)] [(.int (2 : Int32)), (.int (f1_m5 p0 p1))])) t → Steps p.tables e below (s₁.setTop (entryFrame m #[(.int p0), (.int p1)] 2)) t := fun t k => pre6 t (by
      show Steps p.tables e below (T2.setTop (mkF m 10 #[.val (.int p0), .val (.int p1)] [(.int p1), (.int (f1_m5 p0 p1))])) _
      refine XS.ifNo X2.here hx rfl (hb hby d1_10) rfl ((if0 _ _).trans (feq hc10_7).1) ?_
      show Steps p.tables e below (T2.setTop (mkF m 13 #[.val (.int p0), .val (.int p1)] [(.int (f1_m5 p0 p1))])) _
      refine XS.iconst X2.here hx rfl (hb hby d1_13) ?_
      show Steps p.tables e below (T2.setTop (mkF m 14 #[.val (.int p0), .val (.int p1)] [(.int (2 : Int32)), (.int (f1_m5 p0 p1))])) _
      refine XS.goto X2.here hx rfl (pc0 := 14) (pc' := 18) rfl (hb hby d1_14) (by decide) (by decide) ?_
      exact k)
    have q_f1_m10 : f1_m10 p0 p1 = (2 : Int32) := by unfold f1_m10; rw [if_neg hc10_7]
    rw [q_f1_m10]
    exact ⟨T2, _, X2, e2, N2, pre9⟩
  have pre11 : ∀ t, Steps p.tables e below (T7.setTop (mkF m 19 #[.val (.int p0), .val (.int p1)] [(.int ((f1_m5 p0 p1) ||| (f1_m10 p0 p1)))])) t → Steps p.tables e below (s₁.setTop (entryFrame m #[(.int p0), (.int p1)] 2)) t := fun t k => pre7 t (by
    show Steps p.tables e below (T7.setTop (mkF m 18 #[.val (.int p0), .val (.int p1)] [(.int (f1_m10 p0 p1)), (.int (f1_m5 p0 p1))])) _
    refine XS.ior X7.here hx rfl (hb hby d1_18) rfl ?_
    exact k)
  obtain ⟨fs, hr, hrun, hended, hW, hsame⟩ := X7.leave (v := some (.int ((f1_m5 p0 p1) ||| (f1_m10 p0 p1)))) (fun h => by rw [Bd.returns] at h; cases h)
  have hF : (F1 p0 p1) = ((f1_m5 p0 p1) ||| (f1_m10 p0 p1)) := by rfl
  exact ⟨_, _, pre11 _ (retI X7 hx Bd.returns (hb hby d1_19) hr), hrun, hended, _, _, rfl, ⟨by rw [hF], N7, e7⟩, ⟨_, rfl⟩, hW, hsame.mono (by decide) (by decide)⟩
theorem ef3 (m : MethodId) (x0 : Addr) : entryFrame m #[(.ref x0)] 1 = mkF m 0 #[.val (.ref x0)] [] := by first | (simp [entryFrame, mkF, argsToLocals, Value.category]; done) | rfl
def Q3 (Z : State) (a0 : Addr) (h0 : Heap) (n0 : Nat) (v : Option Value) (h : Heap) (L : List Loc) : Prop := v = none ∧ Fr n0 L ∧ h = h0
set_option maxRecDepth 65536 in
set_option maxHeartbeats 40000000 in
theorem rm3 (l : Launch) (Z : State) (a0' : Array Value) (hw : ∀ d ∈ tables_1, d.before a0' Z = true) (ws : List Jvm.Cond) (a0 : Addr) (h0 : Heap) (n0 : Nat) (Z0 : n0 ≤ h0.size) :
    MetFree l (⟨"java/lang/Record", "<init>", "()V"⟩ : MethodName) (head1 (Jvm.Cond.code (⟨"java/lang/Record", "<init>", "()V"⟩ : MethodName) jdk_30_method_1_code 1 none :: ws) ({ frames := 1, cells := 0, slots := 0, locals := 12 } : Room)) (fun a U => a = #[(.ref a0)] ∧ Z.Warmed39 U.vm ∧ U.heap = h0) (fun _ _ _ _ _ => True) (fun _ U o U' => ∃ v L, o = .returned v ∧ Q3 Z a0 h0 n0 v U'.heap L ∧ FrameEnd U o U' L ({ frames := 1, cells := 0, slots := 0, locals := 12 } : Room).cells ({ frames := 1, cells := 0, slots := 0, locals := 12 } : Room).slots) := by
  refine MetFree.of_bodySF (plainFor_of_name pn1) hisR ?_
  intro p e s m args below meth c s₁ Bd hml0 hP hK
  obtain ⟨rfl, hZ, hh⟩ := hP
  have hx := Bd.exec
  have hby := Bd.bytes
  have hml : c.maxLocals = 1 := hml0
  have hown : s.vm.findClass "java/lang/Record" = some m.cls := findClass_of_methodNamed Bd.named
  have hnm := (name_of_methodNamed Bd.named Bd.method).1
  have X0 : Stand p l e ({ frames := 1, cells := 0, slots := 0, locals := 12 } : Room) s m #[(.ref a0)] below meth c s₁ [] 0 0 := Stand.of_body Bd
  have e0 : s₁.heap = h0 := by rw [← hh, Bd.state]; rfl
  have N0 := Fr.nil n0
  have pre0 : ∀ t, Steps p.tables e below (s₁.setTop (mkF m 0 #[.val (.ref a0)] [])) t → Steps p.tables e below (s₁.setTop (entryFrame m #[(.ref a0)] 1)) t := fun t k => castTop (ef3 m a0) k
  obtain ⟨T1, X1, e1, st1⟩ := initO X0 hx hZ hown (hw _ (List.mem_of_getElem? (i := 14) rfl)) (hw _ (List.mem_of_getElem? (i := 15) rfl)) (hw _ (List.mem_of_getElem? (i := 16) rfl)) e0 (g := (mkF m 1 #[.val (.ref a0)] [(.ref a0)])) rfl (by rw [hml]; rfl) rfl (hb hby d3_1) (by decide) (W := 0) (by show 2 * 0 + _ ≤ _; exact Nat.le_of_eq rfl) (by decide)
  have pre2 : ∀ t, Steps p.tables e below (T1.setTop (mkF m 4 #[.val (.ref a0)] [])) t → Steps p.tables e below (s₁.setTop (entryFrame m #[(.ref a0)] 1)) t := fun t k => pre0 t (by
    show Steps p.tables e below (s₁.setTop (mkF m 0 #[.val (.ref a0)] [])) _
    refine XS.aloadN X0.here hx rfl (hb hby d3_0) rfl rfl ?_
    show Steps p.tables e below (s₁.setTop (mkF m 1 #[.val (.ref a0)] [(.ref a0)])) _
    refine st1 _ ?_
    exact k)
  obtain ⟨fs, hr, hrun, hended, hW, hsame⟩ := X1.leave (v := none) (fun _ => rfl)
  exact ⟨_, _, pre2 _ (X1.returnOut hx Bd.returns (hb hby d3_4) hr), hrun, hended, _, _, rfl, ⟨rfl, N0, e1⟩, ⟨_, rfl⟩, hW, hsame.mono (by decide) (by decide)⟩
theorem ef2 (m : MethodId) (x0 : Addr) (x4 : Int32) : entryFrame m #[(.ref x0), .null, .null, .null, (.int x4)] 5 = mkF m 0 #[.val (.ref x0), .val .null, .val .null, .val .null, .val (.int x4)] [] := by first | (simp [entryFrame, mkF, argsToLocals, Value.category]; done) | rfl
def Q2 (Z : State) (a0 : Addr) (p4 : Int32) (wa0_path : Value) (wa0_data : Value) (wa0_acl : Value) (wa0_flags : Int32) (h0 : Heap) (n0 : Nat) (v : Option Value) (h : Heap) (L : List Loc) : Prop := v = none ∧ Fr n0 L ∧ Keep h0 h [a0] ∧ Exa Z h a0 "com/example/panchayat/panchayat/protocol/CreateRequest" ∧ Fld Z h a0 "com/example/panchayat/panchayat/protocol/CreateRequest" "path" "Ljava/lang/String;" .null ∧ Fld Z h a0 "com/example/panchayat/panchayat/protocol/CreateRequest" "data" "[B" .null ∧ Fld Z h a0 "com/example/panchayat/panchayat/protocol/CreateRequest" "acl" "Ljava/util/List;" .null ∧ Fld Z h a0 "com/example/panchayat/panchayat/protocol/CreateRequest" "flags" "I" (.int p4)
set_option maxRecDepth 65536 in
set_option maxHeartbeats 40000000 in
theorem rm2 (l : Launch) (Z : State) (a0' : Array Value) (hw : ∀ d ∈ tables_1, d.before a0' Z = true) (ws : List Jvm.Cond) (a0 : Addr) (p4 : Int32) (wa0_path : Value) (wa0_data : Value) (wa0_acl : Value) (wa0_flags : Int32) (h0 : Heap) (n0 : Nat) (Z0 : n0 ≤ h0.size) (E_a0 : Exa Z h0 a0 "com/example/panchayat/panchayat/protocol/CreateRequest") (F_wa0_path : Fld Z h0 a0 "com/example/panchayat/panchayat/protocol/CreateRequest" "path" "Ljava/lang/String;" wa0_path) (F_wa0_data : Fld Z h0 a0 "com/example/panchayat/panchayat/protocol/CreateRequest" "data" "[B" wa0_data) (F_wa0_acl : Fld Z h0 a0 "com/example/panchayat/panchayat/protocol/CreateRequest" "acl" "Ljava/util/List;" wa0_acl) (F_wa0_flags : Fld Z h0 a0 "com/example/panchayat/panchayat/protocol/CreateRequest" "flags" "I" (.int wa0_flags)) (g_a0 : n0 ≤ a0) :
    MetFree l (⟨"com/example/panchayat/panchayat/protocol/CreateRequest", "<init>", "(Ljava/lang/String;[BLjava/util/List;I)V"⟩ : MethodName) (head1 (Jvm.Cond.code (⟨"com/example/panchayat/panchayat/protocol/CreateRequest", "<init>", "(Ljava/lang/String;[BLjava/util/List;I)V"⟩ : MethodName) prog_16_method_1_code 5 none :: ws) ({ frames := 2, cells := 0, slots := 0, locals := 24 } : Room)) (fun a U => a = #[(.ref a0), .null, .null, .null, (.int p4)] ∧ Z.Warmed39 U.vm ∧ U.heap = h0) (fun _ _ _ _ _ => True) (fun _ U o U' => ∃ v L, o = .returned v ∧ Q2 Z a0 p4 wa0_path wa0_data wa0_acl wa0_flags h0 n0 v U'.heap L ∧ FrameEnd U o U' L ({ frames := 2, cells := 0, slots := 0, locals := 24 } : Room).cells ({ frames := 2, cells := 0, slots := 0, locals := 24 } : Room).slots) := by
  refine MetFree.of_bodySF (plainFor_of_name pn0) hisR ?_
  intro p e s m args below meth c s₁ Bd hml0 hP hK
  obtain ⟨rfl, hZ, hh⟩ := hP
  have hx := Bd.exec
  have hby := Bd.bytes
  have hml : c.maxLocals = 5 := hml0
  have hown : s.vm.findClass "com/example/panchayat/panchayat/protocol/CreateRequest" = some m.cls := findClass_of_methodNamed Bd.named
  have hnm := (name_of_methodNamed Bd.named Bd.method).1
  have X0 : Stand p l e ({ frames := 2, cells := 0, slots := 0, locals := 24 } : Room) s m #[(.ref a0), .null, .null, .null, (.int p4)] below meth c s₁ [] 0 0 := Stand.of_body Bd
  have e0 : s₁.heap = h0 := by rw [← hh, Bd.state]; rfl
  have N0 := Fr.nil n0
  have pre0 : ∀ t, Steps p.tables e below (s₁.setTop (mkF m 0 #[.val (.ref a0), .val .null, .val .null, .val .null, .val (.int p4)] [])) t → Steps p.tables e below (s₁.setTop (entryFrame m #[(.ref a0), .null, .null, .null, (.int p4)] 5)) t := fun t k => castTop (ef2 m a0 p4) k
  obtain ⟨_, _, ⟨T1, L1, k1, n1⟩, -, X1, ⟨Lc1, hQ1, l1, y1, z1⟩, st1⟩ := X0.specialBack hx (y := (⟨"java/lang/Record", "<init>", "()V"⟩ : MethodName)) rfl hown (mvT hZ (hw _ (List.mem_of_getElem? (i := 9) rfl))) (mvT hZ (hw _ (List.mem_of_getElem? (i := 10) rfl))) (mvT hZ (hw _ (List.mem_of_getElem? (i := 13) rfl))) (by decide) (backOf (W := 0) (rm3 l Z a0' hw [] a0 h0 n0 Z0) hZ (hw _ (List.mem_of_getElem? (i := 13) rfl)) (hw _ (List.mem_of_getElem? (i := 12) rfl)) (by decide) (by decide)) (g := (mkF m 1 #[.val (.ref a0), .val .null, .val .null, .val .null, .val (.int p4)] [(.ref a0)])) rfl (by rw [hml]; rfl) (Steps.refl _) (a := a0) (argsL := []) (rest := []) (lenOf pd0 rfl) rfl (by show 2 * 0 + _ ≤ _; exact Nat.le_of_eq rfl) (hb hby d2_1) (fun _ _ => ⟨rfl, e0, (by decide : 0 + 0 ≤ _), (by decide : 0 + 0 ≤ _)⟩)
  dsimp only [Pt.U, Pt.locs, Pt.cells, Pt.slots] at X1 l1 y1 z1 st1 hQ1
  subst l1 y1 z1
  obtain ⟨rfl, N1q, e1⟩ := hQ1
  have N1 := Fr.app N0 N1q
  obtain ⟨T2, h2, X2, e2, W2, st2⟩ := putF X1 hx hZ hown (host := "") (Or.inl (hw _ (List.mem_of_getElem? (i := 17) rfl))) Via.refl e1 F_wa0_path E_a0 (Or.inr ⟨(hw _ (List.mem_of_getElem? (i := 18) rfl)), rfl, hnm⟩) (hw _ (List.mem_of_getElem? (i := 5) rfl)) (ty := (.object "java/lang/String")) (by decide) rfl rfl (g := (mkF m 6 #[.val (.ref a0), .val .null, .val .null, .val .null, .val (.int p4)] [.null, (.ref a0)])) rfl rfl (hb hby d2_6)
  have Z2 : n0 ≤ h2.size := Nat.le_trans Z0 (Keep.of_wr W2).1
  have N2 := Fr.snoc X2 N1 g_a0
  have KC2 : Keep h0 h2 [a0] := (Keep.refl h0 [a0]).wr W2 (Or.inl (List.mem_of_getElem? (i := 0) rfl))
  have Fw2 := F_wa0_path.same W2
  have y3 := (E_a0.wr W2)
  have y4 := (F_wa0_data.other W2 (Or.inr (slot_ne (Or.inr (hw _ (List.mem_of_getElem? (i := 20) rfl))) (Or.inr (hw _ (List.mem_of_getElem? (i := 18) rfl))) (by decide) (t := (.array .byte)) (t' := (.object "java/lang/String")) (by decide) (by decide))))
  obtain ⟨T5, h5, X5, e5, W5, st5⟩ := putF X2 hx hZ hown (host := "") (Or.inl (hw _ (List.mem_of_getElem? (i := 19) rfl))) Via.refl e2 y4 y3 (Or.inr ⟨(hw _ (List.mem_of_getElem? (i := 20) rfl)), rfl, hnm⟩) (hw _ (List.mem_of_getElem? (i := 5) rfl)) (ty := (.array .byte)) (by decide) rfl rfl (g := (mkF m 11 #[.val (.ref a0), .val .null, .val .null, .val .null, .val (.int p4)] [.null, (.ref a0)])) rfl rfl (hb hby d2_11)
  have Z5 : n0 ≤ h5.size := Nat.le_trans Z2 (Keep.of_wr W5).1
  have N5 := Fr.snoc X5 N2 g_a0
  have KC5 : Keep h0 h5 [a0] := KC2.wr W5 (Or.inl (List.mem_of_getElem? (i := 0) rfl))
  have Fw5 := y4.same W5
  have y6 := (y3.wr W5)
  have y7 := ((F_wa0_acl.other W2 (Or.inr (slot_ne (Or.inr (hw _ (List.mem_of_getElem? (i := 22) rfl))) (Or.inr (hw _ (List.mem_of_getElem? (i := 18) rfl))) (by decide) (t := (.object "java/util/List")) (t' := (.object "java/lang/String")) (by decide) (by decide)))).other W5 (Or.inr (slot_ne (Or.inr (hw _ (List.mem_of_getElem? (i := 22) rfl))) (Or.inr (hw _ (List.mem_of_getElem? (i := 20) rfl))) (by decide) (t := (.object "java/util/List")) (t' := (.array .byte)) (by decide) (by decide))))
  obtain ⟨T8, h8, X8, e8, W8, st8⟩ := putF X5 hx hZ hown (host := "") (Or.inl (hw _ (List.mem_of_getElem? (i := 21) rfl))) Via.refl e5 y7 y6 (Or.inr ⟨(hw _ (List.mem_of_getElem? (i := 22) rfl)), rfl, hnm⟩) (hw _ (List.mem_of_getElem? (i := 5) rfl)) (ty := (.object "java/util/List")) (by decide) rfl rfl (g := (mkF m 16 #[.val (.ref a0), .val .null, .val .null, .val .null, .val (.int p4)] [.null, (.ref a0)])) rfl rfl (hb hby d2_16)
  have Z8 : n0 ≤ h8.size := Nat.le_trans Z5 (Keep.of_wr W8).1
  have N8 := Fr.snoc X8 N5 g_a0
  have KC8 : Keep h0 h8 [a0] := KC5.wr W8 (Or.inl (List.mem_of_getElem? (i := 0) rfl))
  have Fw8 := y7.same W8
  have y9 := (y6.wr W8)
  have y10 := (((F_wa0_flags.other W2 (Or.inr (slot_ne (Or.inr (hw _ (List.mem_of_getElem? (i := 24) rfl))) (Or.inr (hw _ (List.mem_of_getElem? (i := 18) rfl))) (by decide) (t := .int) (t' := (.object "java/lang/String")) (by decide) (by decide)))).other W5 (Or.inr (slot_ne (Or.inr (hw _ (List.mem_of_getElem? (i := 24) rfl))) (Or.inr (hw _ (List.mem_of_getElem? (i := 20) rfl))) (by decide) (t := .int) (t' := (.array .byte)) (by decide) (by decide)))).other W8 (Or.inr (slot_ne (Or.inr (hw _ (List.mem_of_getElem? (i := 24) rfl))) (Or.inr (hw _ (List.mem_of_getElem? (i := 22) rfl))) (by decide) (t := .int) (t' := (.object "java/util/List")) (by decide) (by decide))))
  obtain ⟨T11, h11, X11, e11, W11, st11⟩ := putF X8 hx hZ hown (host := "") (Or.inl (hw _ (List.mem_of_getElem? (i := 23) rfl))) Via.refl e8 y10 y9 (Or.inr ⟨(hw _ (List.mem_of_getElem? (i := 24) rfl)), rfl, hnm⟩) (hw _ (List.mem_of_getElem? (i := 5) rfl)) (ty := .int) (by decide) rfl rfl (g := (mkF m 22 #[.val (.ref a0), .val .null, .val .null, .val .null, .val (.int p4)] [(.int p4), (.ref a0)])) rfl rfl (hb hby d2_22)
  have Z11 : n0 ≤ h11.size := Nat.le_trans Z8 (Keep.of_wr W11).1
  have N11 := Fr.snoc X11 N8 g_a0
  have KC11 : Keep h0 h11 [a0] := KC8.wr W11 (Or.inl (List.mem_of_getElem? (i := 0) rfl))
  have Fw11 := y10.same W11
  have pre12 : ∀ t, Steps p.tables e below (T11.setTop (mkF m 25 #[.val (.ref a0), .val .null, .val .null, .val .null, .val (.int p4)] [])) t → Steps p.tables e below (s₁.setTop (entryFrame m #[(.ref a0), .null, .null, .null, (.int p4)] 5)) t := fun t k => pre0 t (by
    show Steps p.tables e below (s₁.setTop (mkF m 0 #[.val (.ref a0), .val .null, .val .null, .val .null, .val (.int p4)] [])) _
    refine XS.aloadN X0.here hx rfl (hb hby d2_0) rfl rfl ?_
    show Steps p.tables e below (s₁.setTop (mkF m 1 #[.val (.ref a0), .val .null, .val .null, .val .null, .val (.int p4)] [(.ref a0)])) _
    refine st1.trans ?_
    show Steps p.tables e below (T1.setTop (mkF m 4 #[.val (.ref a0), .val .null, .val .null, .val .null, .val (.int p4)] [])) _
    refine XS.aloadN X1.here hx rfl (hb hby d2_4) rfl rfl ?_
    show Steps p.tables e below (T1.setTop (mkF m 5 #[.val (.ref a0), .val .null, .val .null, .val .null, .val (.int p4)] [(.ref a0)])) _
    refine XS.aloadN X1.here hx rfl (hb hby d2_5) rfl rfl ?_
    show Steps p.tables e below (T1.setTop (mkF m 6 #[.val (.ref a0), .val .null, .val .null, .val .null, .val (.int p4)] [.null, (.ref a0)])) _
    refine st2 _ ?_
    show Steps p.tables e below (T2.setTop (mkF m 9 #[.val (.ref a0), .val .null, .val .null, .val .null, .val (.int p4)] [])) _
    refine XS.aloadN X2.here hx rfl (hb hby d2_9) rfl rfl ?_
    show Steps p.tables e below (T2.setTop (mkF m 10 #[.val (.ref a0), .val .null, .val .null, .val .null, .val (.int p4)] [(.ref a0)])) _
    refine XS.aloadN X2.here hx rfl (hb hby d2_10) rfl rfl ?_
    show Steps p.tables e below (T2.setTop (mkF m 11 #[.val (.ref a0), .val .null, .val .null, .val .null, .val (.int p4)] [.null, (.ref a0)])) _
    refine st5 _ ?_
    show Steps p.tables e below (T5.setTop (mkF m 14 #[.val (.ref a0), .val .null, .val .null, .val .null, .val (.int p4)] [])) _
    refine XS.aloadN X5.here hx rfl (hb hby d2_14) rfl rfl ?_
    show Steps p.tables e below (T5.setTop (mkF m 15 #[.val (.ref a0), .val .null, .val .null, .val .null, .val (.int p4)] [(.ref a0)])) _
    refine XS.aloadN X5.here hx rfl (hb hby d2_15) rfl rfl ?_
    show Steps p.tables e below (T5.setTop (mkF m 16 #[.val (.ref a0), .val .null, .val .null, .val .null, .val (.int p4)] [.null, (.ref a0)])) _
    refine st8 _ ?_
    show Steps p.tables e below (T8.setTop (mkF m 19 #[.val (.ref a0), .val .null, .val .null, .val .null, .val (.int p4)] [])) _
    refine XS.aloadN X8.here hx rfl (hb hby d2_19) rfl rfl ?_
    show Steps p.tables e below (T8.setTop (mkF m 20 #[.val (.ref a0), .val .null, .val .null, .val .null, .val (.int p4)] [(.ref a0)])) _
    refine XS.iload X8.here hx rfl (hb hby d2_20) rfl ?_
    show Steps p.tables e below (T8.setTop (mkF m 22 #[.val (.ref a0), .val .null, .val .null, .val .null, .val (.int p4)] [(.int p4), (.ref a0)])) _
    refine st11 _ ?_
    exact k)
  obtain ⟨fs, hr, hrun, hended, hW, hsame⟩ := X11.leave (v := none) (fun _ => rfl)
  have y13 := (y9.wr W11)
  have y14 := (((Fw2.other W5 (Or.inr (slot_ne (Or.inr (hw _ (List.mem_of_getElem? (i := 18) rfl))) (Or.inr (hw _ (List.mem_of_getElem? (i := 20) rfl))) (by decide) (t := (.object "java/lang/String")) (t' := (.array .byte)) (by decide) (by decide)))).other W8 (Or.inr (slot_ne (Or.inr (hw _ (List.mem_of_getElem? (i := 18) rfl))) (Or.inr (hw _ (List.mem_of_getElem? (i := 22) rfl))) (by decide) (t := (.object "java/lang/String")) (t' := (.object "java/util/List")) (by decide) (by decide)))).other W11 (Or.inr (slot_ne (Or.inr (hw _ (List.mem_of_getElem? (i := 18) rfl))) (Or.inr (hw _ (List.mem_of_getElem? (i := 24) rfl))) (by decide) (t := (.object "java/lang/String")) (t' := .int) (by decide) (by decide))))
  have y15 := ((Fw5.other W8 (Or.inr (slot_ne (Or.inr (hw _ (List.mem_of_getElem? (i := 20) rfl))) (Or.inr (hw _ (List.mem_of_getElem? (i := 22) rfl))) (by decide) (t := (.array .byte)) (t' := (.object "java/util/List")) (by decide) (by decide)))).other W11 (Or.inr (slot_ne (Or.inr (hw _ (List.mem_of_getElem? (i := 20) rfl))) (Or.inr (hw _ (List.mem_of_getElem? (i := 24) rfl))) (by decide) (t := (.array .byte)) (t' := .int) (by decide) (by decide))))
  have y16 := (Fw8.other W11 (Or.inr (slot_ne (Or.inr (hw _ (List.mem_of_getElem? (i := 22) rfl))) (Or.inr (hw _ (List.mem_of_getElem? (i := 24) rfl))) (by decide) (t := (.object "java/util/List")) (t' := .int) (by decide) (by decide))))
  exact ⟨_, _, pre12 _ (X11.returnOut hx Bd.returns (hb hby d2_25) hr), hrun, hended, _, _, rfl, (by show Q2 Z a0 p4 wa0_path wa0_data wa0_acl wa0_flags h0 n0 _ T11.heap _; rw [e11]; exact ⟨rfl, N11, KC11, y13, y14, y15, y16, Fw11⟩), ⟨_, rfl⟩, hW, hsame.mono (by decide) (by decide)⟩
def F5 (wa0_flags : Int32) : Int32 := (if (wa0_flags &&& (-4 : Int32)) = (0 : Int32) then (1 : Int32) else (0 : Int32))
theorem ef5 (m : MethodId) (x0 : Addr) : entryFrame m #[(.ref x0)] 1 = mkF m 0 #[.val (.ref x0)] [] := by first | (simp [entryFrame, mkF, argsToLocals, Value.category]; done) | rfl
def Q5 (Z : State) (a0 : Addr) (wa0_flags : Int32) (h0 : Heap) (n0 : Nat) (v : Option Value) (h : Heap) (L : List Loc) : Prop := v = some (.int (F5 wa0_flags)) ∧ Fr n0 L ∧ h = h0
set_option maxRecDepth 65536 in
set_option maxHeartbeats 40000000 in
theorem rm5 (l : Launch) (Z : State) (a0' : Array Value) (hw : ∀ d ∈ tables_1, d.before a0' Z = true) (ws : List Jvm.Cond) (a0 : Addr) (wa0_flags : Int32) (h0 : Heap) (n0 : Nat) (Z0 : n0 ≤ h0.size) (F_wa0_flags : Fld Z h0 a0 "com/example/panchayat/panchayat/protocol/CreateRequest" "flags" "I" (.int wa0_flags)) :
    MetFree l (⟨"com/example/panchayat/panchayat/protocol/CreateRequest", "hasKnownMode", "()Z"⟩ : MethodName) (head1 (Jvm.Cond.code (⟨"com/example/panchayat/panchayat/protocol/CreateRequest", "hasKnownMode", "()Z"⟩ : MethodName) prog_16_method_6_code 1 (some .boolean) :: ws) ({ frames := 0, cells := 0, slots := 0, locals := 0 } : Room)) (fun a U => a = #[(.ref a0)] ∧ Z.Warmed39 U.vm ∧ U.heap = h0) (fun _ _ _ _ _ => True) (fun _ U o U' => ∃ v L, o = .returned v ∧ Q5 Z a0 wa0_flags h0 n0 v U'.heap L ∧ FrameEnd U o U' L ({ frames := 0, cells := 0, slots := 0, locals := 0 } : Room).cells ({ frames := 0, cells := 0, slots := 0, locals := 0 } : Room).slots) := by
  refine MetFree.of_bodySF (plainFor_of_name pn0) hisR ?_
  intro p e s m args below meth c s₁ Bd hml0 hP hK
  obtain ⟨rfl, hZ, hh⟩ := hP
  have hx := Bd.exec
  have hby := Bd.bytes
  have hml : c.maxLocals = 1 := hml0
  have hown : s.vm.findClass "com/example/panchayat/panchayat/protocol/CreateRequest" = some m.cls := findClass_of_methodNamed Bd.named
  have hnm := (name_of_methodNamed Bd.named Bd.method).1
  have X0 : Stand p l e ({ frames := 0, cells := 0, slots := 0, locals := 0 } : Room) s m #[(.ref a0)] below meth c s₁ [] 0 0 := Stand.of_body Bd
  have e0 : s₁.heap = h0 := by rw [← hh, Bd.state]; rfl
  have N0 := Fr.nil n0
  have pre0 : ∀ t, Steps p.tables e below (s₁.setTop (mkF m 0 #[.val (.ref a0)] [])) t → Steps p.tables e below (s₁.setTop (entryFrame m #[(.ref a0)] 1)) t := fun t k => castTop (ef5 m a0) k
  obtain ⟨T1, X1, e1, st1⟩ := getF X0 hx hZ hown (host := "") (Or.inl (hw _ (List.mem_of_getElem? (i := 23) rfl))) Via.refl e0 F_wa0_flags (g := (mkF m 1 #[.val (.ref a0)] [(.ref a0)])) rfl rfl (hb hby d5_1)
  have pre2 : ∀ t, Steps p.tables e below (T1.setTop (mkF m 7 #[.val (.ref a0)] [(.int (wa0_flags &&& (-4 : Int32)))])) t → Steps p.tables e below (s₁.setTop (entryFrame m #[(.ref a0)] 1)) t := fun t k => pre0 t (by
    show Steps p.tables e below (s₁.setTop (mkF m 0 #[.val (.ref a0)] [])) _
    refine XS.aloadN X0.here hx rfl (hb hby d5_0) rfl rfl ?_
    show Steps p.tables e below (s₁.setTop (mkF m 1 #[.val (.ref a0)] [(.ref a0)])) _
    refine st1 _ ?_
    show Steps p.tables e below (T1.setTop (mkF m 4 #[.val (.ref a0)] [(.int wa0_flags)])) _
    refine XS.bipush X1.here hx rfl (hb hby d5_4) ?_
    show Steps p.tables e below (T1.setTop (mkF m 6 #[.val (.ref a0)] [(.int (-4 : Int32)), (.int wa0_flags)])) _
    refine XS.iand X1.here hx rfl (hb hby d5_6) rfl ?_
    exact k)
  by_cases hc7_3 : (wa0_flags &&& (-4 : Int32)) = (0 : Int32)
  · have pre4 : ∀ t, Steps p.tables e below (T1.setTop (mkF m 15 #[.val (.ref a0)] [(.int (1 : Int32))])) t → Steps p.tables e below (s₁.setTop (entryFrame m #[(.ref a0)] 1)) t := fun t k => pre2 t (by
      show Steps p.tables e below (T1.setTop (mkF m 7 #[.val (.ref a0)] [(.int (wa0_flags &&& (-4 : Int32)))])) _
      refine XS.ifNo X1.here hx rfl (hb hby d5_7) rfl ((if0 _ _).trans (teq hc7_3).2) ?_
      show Steps p.tables e below (T1.setTop (mkF m 10 #[.val (.ref a0)] [])) _
      refine XS.iconst X1.here hx rfl (hb hby d5_10) ?_
      show Steps p.tables e below (T1.setTop (mkF m 11 #[.val (.ref a0)] [(.int (1 : Int32))])) _
      refine XS.goto X1.here hx rfl (pc0 := 11) (pc' := 15) rfl (hb hby d5_11) (by decide) (by decide) ?_
      exact k)
    obtain ⟨fs, hr, hrun, hended, hW, hsame⟩ := X1.leave (v := some (.int (1 : Int32))) (fun h => by rw [Bd.returns] at h; cases h)
    have hF : (F5 wa0_flags) = (1 : Int32) := by unfold F5; rw [if_pos hc7_3]
    exact ⟨_, _, pre4 _ (retN X1 hx (t := .boolean) Bd.returns (by simp) (hb hby d5_15) hr), hrun, hended, _, _, rfl, ⟨by rw [hF], N0, e1⟩, ⟨_, rfl⟩, hW, hsame.mono (by decide) (by decide)⟩
  have pre5 : ∀ t, Steps p.tables e below (T1.setTop (mkF m 15 #[.val (.ref a0)] [(.int (0 : Int32))])) t → Steps p.tables e below (s₁.setTop (entryFrame m #[(.ref a0)] 1)) t := fun t k => pre2 t (by
    show Steps p.tables e below (T1.setTop (mkF m 7 #[.val (.ref a0)] [(.int (wa0_flags &&& (-4 : Int32)))])) _
    refine XS.ifYes X1.here hx rfl (pc0 := 7) (pc' := 14) rfl (hb hby d5_7) rfl ((if0 _ _).trans (feq hc7_3).2) (by decide) (by decide) ?_
    show Steps p.tables e below (T1.setTop (mkF m 14 #[.val (.ref a0)] [])) _
    refine XS.iconst X1.here hx rfl (hb hby d5_14) ?_
    exact k)
  obtain ⟨fs, hr, hrun, hended, hW, hsame⟩ := X1.leave (v := some (.int (0 : Int32))) (fun h => by rw [Bd.returns] at h; cases h)
  have hF : (F5 wa0_flags) = (0 : Int32) := by unfold F5; rw [if_neg hc7_3]
  exact ⟨_, _, pre5 _ (retN X1 hx (t := .boolean) Bd.returns (by simp) (hb hby d5_15) hr), hrun, hended, _, _, rfl, ⟨by rw [hF], N0, e1⟩, ⟨_, rfl⟩, hW, hsame.mono (by decide) (by decide)⟩
def F6 (wa0_flags : Int32) : Int32 := (if (wa0_flags &&& (1 : Int32)) = (0 : Int32) then (0 : Int32) else (1 : Int32))
theorem ef6 (m : MethodId) (x0 : Addr) : entryFrame m #[(.ref x0)] 1 = mkF m 0 #[.val (.ref x0)] [] := by first | (simp [entryFrame, mkF, argsToLocals, Value.category]; done) | rfl
def Q6 (Z : State) (a0 : Addr) (wa0_flags : Int32) (h0 : Heap) (n0 : Nat) (v : Option Value) (h : Heap) (L : List Loc) : Prop := v = some (.int (F6 wa0_flags)) ∧ Fr n0 L ∧ h = h0
set_option maxRecDepth 65536 in
set_option maxHeartbeats 40000000 in
theorem rm6 (l : Launch) (Z : State) (a0' : Array Value) (hw : ∀ d ∈ tables_1, d.before a0' Z = true) (ws : List Jvm.Cond) (a0 : Addr) (wa0_flags : Int32) (h0 : Heap) (n0 : Nat) (Z0 : n0 ≤ h0.size) (F_wa0_flags : Fld Z h0 a0 "com/example/panchayat/panchayat/protocol/CreateRequest" "flags" "I" (.int wa0_flags)) :
    MetFree l (⟨"com/example/panchayat/panchayat/protocol/CreateRequest", "isEphemeral", "()Z"⟩ : MethodName) (head1 (Jvm.Cond.code (⟨"com/example/panchayat/panchayat/protocol/CreateRequest", "isEphemeral", "()Z"⟩ : MethodName) prog_16_method_7_code 1 (some .boolean) :: ws) ({ frames := 0, cells := 0, slots := 0, locals := 0 } : Room)) (fun a U => a = #[(.ref a0)] ∧ Z.Warmed39 U.vm ∧ U.heap = h0) (fun _ _ _ _ _ => True) (fun _ U o U' => ∃ v L, o = .returned v ∧ Q6 Z a0 wa0_flags h0 n0 v U'.heap L ∧ FrameEnd U o U' L ({ frames := 0, cells := 0, slots := 0, locals := 0 } : Room).cells ({ frames := 0, cells := 0, slots := 0, locals := 0 } : Room).slots) := by
  refine MetFree.of_bodySF (plainFor_of_name pn0) hisR ?_
  intro p e s m args below meth c s₁ Bd hml0 hP hK
  obtain ⟨rfl, hZ, hh⟩ := hP
  have hx := Bd.exec
  have hby := Bd.bytes
  have hml : c.maxLocals = 1 := hml0
  have hown : s.vm.findClass "com/example/panchayat/panchayat/protocol/CreateRequest" = some m.cls := findClass_of_methodNamed Bd.named
  have hnm := (name_of_methodNamed Bd.named Bd.method).1
  have X0 : Stand p l e ({ frames := 0, cells := 0, slots := 0, locals := 0 } : Room) s m #[(.ref a0)] below meth c s₁ [] 0 0 := Stand.of_body Bd
  have e0 : s₁.heap = h0 := by rw [← hh, Bd.state]; rfl
  have N0 := Fr.nil n0
  have pre0 : ∀ t, Steps p.tables e below (s₁.setTop (mkF m 0 #[.val (.ref a0)] [])) t → Steps p.tables e below (s₁.setTop (entryFrame m #[(.ref a0)] 1)) t := fun t k => castTop (ef6 m a0) k
  obtain ⟨T1, X1, e1, st1⟩ := getF X0 hx hZ hown (host := "") (Or.inl (hw _ (List.mem_of_getElem? (i := 23) rfl))) Via.refl e0 F_wa0_flags (g := (mkF m 1 #[.val (.ref a0)] [(.ref a0)])) rfl rfl (hb hby d6_1)
  have pre2 : ∀ t, Steps p.tables e below (T1.setTop (mkF m 6 #[.val (.ref a0)] [(.int (wa0_flags &&& (1 : Int32)))])) t → Steps p.tables e below (s₁.setTop (entryFrame m #[(.ref a0)] 1)) t := fun t k => pre0 t (by
    show Steps p.tables e below (s₁.setTop (mkF m 0 #[.val (.ref a0)] [])) _
    refine XS.aloadN X0.here hx rfl (hb hby d6_0) rfl rfl ?_
    show Steps p.tables e below (s₁.setTop (mkF m 1 #[.val (.ref a0)] [(.ref a0)])) _
    refine st1 _ ?_
    show Steps p.tables e below (T1.setTop (mkF m 4 #[.val (.ref a0)] [(.int wa0_flags)])) _
    refine XS.iconst X1.here hx rfl (hb hby d6_4) ?_
    show Steps p.tables e below (T1.setTop (mkF m 5 #[.val (.ref a0)] [(.int (1 : Int32)), (.int wa0_flags)])) _
    refine XS.iand X1.here hx rfl (hb hby d6_5) rfl ?_
    exact k)
  by_cases hc6_3 : (wa0_flags &&& (1 : Int32)) = (0 : Int32)
  · have pre4 : ∀ t, Steps p.tables e below (T1.setTop (mkF m 14 #[.val (.ref a0)] [(.int (0 : Int32))])) t → Steps p.tables e below (s₁.setTop (entryFrame m #[(.ref a0)] 1)) t := fun t k => pre2 t (by
      show Steps p.tables e below (T1.setTop (mkF m 6 #[.val (.ref a0)] [(.int (wa0_flags &&& (1 : Int32)))])) _
      refine XS.ifYes X1.here hx rfl (pc0 := 6) (pc' := 13) rfl (hb hby d6_6) rfl ((if0 _ _).trans (teq hc6_3).1) (by decide) (by decide) ?_
      show Steps p.tables e below (T1.setTop (mkF m 13 #[.val (.ref a0)] [])) _
      refine XS.iconst X1.here hx rfl (hb hby d6_13) ?_
      exact k)
    obtain ⟨fs, hr, hrun, hended, hW, hsame⟩ := X1.leave (v := some (.int (0 : Int32))) (fun h => by rw [Bd.returns] at h; cases h)
    have hF : (F6 wa0_flags) = (0 : Int32) := by unfold F6; rw [if_pos hc6_3]
    exact ⟨_, _, pre4 _ (retN X1 hx (t := .boolean) Bd.returns (by simp) (hb hby d6_14) hr), hrun, hended, _, _, rfl, ⟨by rw [hF], N0, e1⟩, ⟨_, rfl⟩, hW, hsame.mono (by decide) (by decide)⟩
  have pre5 : ∀ t, Steps p.tables e below (T1.setTop (mkF m 14 #[.val (.ref a0)] [(.int (1 : Int32))])) t → Steps p.tables e below (s₁.setTop (entryFrame m #[(.ref a0)] 1)) t := fun t k => pre2 t (by
    show Steps p.tables e below (T1.setTop (mkF m 6 #[.val (.ref a0)] [(.int (wa0_flags &&& (1 : Int32)))])) _
    refine XS.ifNo X1.here hx rfl (hb hby d6_6) rfl ((if0 _ _).trans (feq hc6_3).1) ?_
    show Steps p.tables e below (T1.setTop (mkF m 9 #[.val (.ref a0)] [])) _
    refine XS.iconst X1.here hx rfl (hb hby d6_9) ?_
    show Steps p.tables e below (T1.setTop (mkF m 10 #[.val (.ref a0)] [(.int (1 : Int32))])) _
    refine XS.goto X1.here hx rfl (pc0 := 10) (pc' := 14) rfl (hb hby d6_10) (by decide) (by decide) ?_
    exact k)
  obtain ⟨fs, hr, hrun, hended, hW, hsame⟩ := X1.leave (v := some (.int (1 : Int32))) (fun h => by rw [Bd.returns] at h; cases h)
  have hF : (F6 wa0_flags) = (1 : Int32) := by unfold F6; rw [if_neg hc6_3]
  exact ⟨_, _, pre5 _ (retN X1 hx (t := .boolean) Bd.returns (by simp) (hb hby d6_14) hr), hrun, hended, _, _, rfl, ⟨by rw [hF], N0, e1⟩, ⟨_, rfl⟩, hW, hsame.mono (by decide) (by decide)⟩
def F7 (wa0_flags : Int32) : Int32 := (if (wa0_flags &&& (2 : Int32)) = (0 : Int32) then (0 : Int32) else (1 : Int32))
theorem ef7 (m : MethodId) (x0 : Addr) : entryFrame m #[(.ref x0)] 1 = mkF m 0 #[.val (.ref x0)] [] := by first | (simp [entryFrame, mkF, argsToLocals, Value.category]; done) | rfl
def Q7 (Z : State) (a0 : Addr) (wa0_flags : Int32) (h0 : Heap) (n0 : Nat) (v : Option Value) (h : Heap) (L : List Loc) : Prop := v = some (.int (F7 wa0_flags)) ∧ Fr n0 L ∧ h = h0
set_option maxRecDepth 65536 in
set_option maxHeartbeats 40000000 in
theorem rm7 (l : Launch) (Z : State) (a0' : Array Value) (hw : ∀ d ∈ tables_1, d.before a0' Z = true) (ws : List Jvm.Cond) (a0 : Addr) (wa0_flags : Int32) (h0 : Heap) (n0 : Nat) (Z0 : n0 ≤ h0.size) (F_wa0_flags : Fld Z h0 a0 "com/example/panchayat/panchayat/protocol/CreateRequest" "flags" "I" (.int wa0_flags)) :
    MetFree l (⟨"com/example/panchayat/panchayat/protocol/CreateRequest", "isSequential", "()Z"⟩ : MethodName) (head1 (Jvm.Cond.code (⟨"com/example/panchayat/panchayat/protocol/CreateRequest", "isSequential", "()Z"⟩ : MethodName) prog_16_method_8_code 1 (some .boolean) :: ws) ({ frames := 0, cells := 0, slots := 0, locals := 0 } : Room)) (fun a U => a = #[(.ref a0)] ∧ Z.Warmed39 U.vm ∧ U.heap = h0) (fun _ _ _ _ _ => True) (fun _ U o U' => ∃ v L, o = .returned v ∧ Q7 Z a0 wa0_flags h0 n0 v U'.heap L ∧ FrameEnd U o U' L ({ frames := 0, cells := 0, slots := 0, locals := 0 } : Room).cells ({ frames := 0, cells := 0, slots := 0, locals := 0 } : Room).slots) := by
  refine MetFree.of_bodySF (plainFor_of_name pn0) hisR ?_
  intro p e s m args below meth c s₁ Bd hml0 hP hK
  obtain ⟨rfl, hZ, hh⟩ := hP
  have hx := Bd.exec
  have hby := Bd.bytes
  have hml : c.maxLocals = 1 := hml0
  have hown : s.vm.findClass "com/example/panchayat/panchayat/protocol/CreateRequest" = some m.cls := findClass_of_methodNamed Bd.named
  have hnm := (name_of_methodNamed Bd.named Bd.method).1
  have X0 : Stand p l e ({ frames := 0, cells := 0, slots := 0, locals := 0 } : Room) s m #[(.ref a0)] below meth c s₁ [] 0 0 := Stand.of_body Bd
  have e0 : s₁.heap = h0 := by rw [← hh, Bd.state]; rfl
  have N0 := Fr.nil n0
  have pre0 : ∀ t, Steps p.tables e below (s₁.setTop (mkF m 0 #[.val (.ref a0)] [])) t → Steps p.tables e below (s₁.setTop (entryFrame m #[(.ref a0)] 1)) t := fun t k => castTop (ef7 m a0) k
  obtain ⟨T1, X1, e1, st1⟩ := getF X0 hx hZ hown (host := "") (Or.inl (hw _ (List.mem_of_getElem? (i := 23) rfl))) Via.refl e0 F_wa0_flags (g := (mkF m 1 #[.val (.ref a0)] [(.ref a0)])) rfl rfl (hb hby d7_1)
  have pre2 : ∀ t, Steps p.tables e below (T1.setTop (mkF m 6 #[.val (.ref a0)] [(.int (wa0_flags &&& (2 : Int32)))])) t → Steps p.tables e below (s₁.setTop (entryFrame m #[(.ref a0)] 1)) t := fun t k => pre0 t (by
    show Steps p.tables e below (s₁.setTop (mkF m 0 #[.val (.ref a0)] [])) _
    refine XS.aloadN X0.here hx rfl (hb hby d7_0) rfl rfl ?_
    show Steps p.tables e below (s₁.setTop (mkF m 1 #[.val (.ref a0)] [(.ref a0)])) _
    refine st1 _ ?_
    show Steps p.tables e below (T1.setTop (mkF m 4 #[.val (.ref a0)] [(.int wa0_flags)])) _
    refine XS.iconst X1.here hx rfl (hb hby d7_4) ?_
    show Steps p.tables e below (T1.setTop (mkF m 5 #[.val (.ref a0)] [(.int (2 : Int32)), (.int wa0_flags)])) _
    refine XS.iand X1.here hx rfl (hb hby d7_5) rfl ?_
    exact k)
  by_cases hc6_3 : (wa0_flags &&& (2 : Int32)) = (0 : Int32)
  · have pre4 : ∀ t, Steps p.tables e below (T1.setTop (mkF m 14 #[.val (.ref a0)] [(.int (0 : Int32))])) t → Steps p.tables e below (s₁.setTop (entryFrame m #[(.ref a0)] 1)) t := fun t k => pre2 t (by
      show Steps p.tables e below (T1.setTop (mkF m 6 #[.val (.ref a0)] [(.int (wa0_flags &&& (2 : Int32)))])) _
      refine XS.ifYes X1.here hx rfl (pc0 := 6) (pc' := 13) rfl (hb hby d7_6) rfl ((if0 _ _).trans (teq hc6_3).1) (by decide) (by decide) ?_
      show Steps p.tables e below (T1.setTop (mkF m 13 #[.val (.ref a0)] [])) _
      refine XS.iconst X1.here hx rfl (hb hby d7_13) ?_
      exact k)
    obtain ⟨fs, hr, hrun, hended, hW, hsame⟩ := X1.leave (v := some (.int (0 : Int32))) (fun h => by rw [Bd.returns] at h; cases h)
    have hF : (F7 wa0_flags) = (0 : Int32) := by unfold F7; rw [if_pos hc6_3]
    exact ⟨_, _, pre4 _ (retN X1 hx (t := .boolean) Bd.returns (by simp) (hb hby d7_14) hr), hrun, hended, _, _, rfl, ⟨by rw [hF], N0, e1⟩, ⟨_, rfl⟩, hW, hsame.mono (by decide) (by decide)⟩
  have pre5 : ∀ t, Steps p.tables e below (T1.setTop (mkF m 14 #[.val (.ref a0)] [(.int (1 : Int32))])) t → Steps p.tables e below (s₁.setTop (entryFrame m #[(.ref a0)] 1)) t := fun t k => pre2 t (by
    show Steps p.tables e below (T1.setTop (mkF m 6 #[.val (.ref a0)] [(.int (wa0_flags &&& (2 : Int32)))])) _
    refine XS.ifNo X1.here hx rfl (hb hby d7_6) rfl ((if0 _ _).trans (feq hc6_3).1) ?_
    show Steps p.tables e below (T1.setTop (mkF m 9 #[.val (.ref a0)] [])) _
    refine XS.iconst X1.here hx rfl (hb hby d7_9) ?_
    show Steps p.tables e below (T1.setTop (mkF m 10 #[.val (.ref a0)] [(.int (1 : Int32))])) _
    refine XS.goto X1.here hx rfl (pc0 := 10) (pc' := 14) rfl (hb hby d7_10) (by decide) (by decide) ?_
    exact k)
  obtain ⟨fs, hr, hrun, hended, hW, hsame⟩ := X1.leave (v := some (.int (1 : Int32))) (fun h => by rw [Bd.returns] at h; cases h)
  have hF : (F7 wa0_flags) = (1 : Int32) := by unfold F7; rw [if_neg hc6_3]
  exact ⟨_, _, pre5 _ (retN X1 hx (t := .boolean) Bd.returns (by simp) (hb hby d7_14) hr), hrun, hended, _, _, rfl, ⟨by rw [hF], N0, e1⟩, ⟨_, rfl⟩, hW, hsame.mono (by decide) (by decide)⟩
def f0_m5 (p0 : Int32) : Int32 := (if (p0 &&& (1 : Int32)) = (0 : Int32) then (0 : Int32) else (1 : Int32))
def f0_m10 (p0 : Int32) : Int32 := (if (p0 &&& (2 : Int32)) = (0 : Int32) then (0 : Int32) else (1 : Int32))
def f0_m22 (p0 : Int32) : Int32 := (if (f0_m5 p0) = (0 : Int32) then (if (f0_m10 p0) = (0 : Int32) then (0 : Int32) else (2 : Int32)) else (if (f0_m10 p0) = (0 : Int32) then (1 : Int32) else (3 : Int32)))
def F0 (p0 : Int32) : Int32 := (if (F1 (f0_m5 p0) (f0_m10 p0)) = (f0_m22 p0) then (if (F5 (F1 (f0_m5 p0) (f0_m10 p0))) = (0 : Int32) then (0 : Int32) else (if (F6 (F1 (f0_m5 p0) (f0_m10 p0))) = (f0_m5 p0) then (if (F7 (F1 (f0_m5 p0) (f0_m10 p0))) = (f0_m10 p0) then (1 : Int32) else (0 : Int32)) else (0 : Int32))) else (0 : Int32))
theorem ef0 (m : MethodId) (x0 : Int32) : entryFrame m #[(.int x0)] maxLocals = mkF m 0 #[.val (.int x0), .unset, .unset, .unset, .unset, .unset] [] := by first | (simp [entryFrame, mkF, argsToLocals, Value.category, maxLocals]; done) | rfl
def Q0 (Z : State) (p0 : Int32) (h0 : Heap) (n0 : Nat) (v : Option Value) (h : Heap) (L : List Loc) : Prop := v = some (.int (F0 p0)) ∧ Fr n0 L
set_option maxRecDepth 65536 in
set_option maxHeartbeats 40000000 in
theorem rm0 (l : Launch) (Z : State) (a0' : Array Value) (hw : ∀ d ∈ tables_1, d.before a0' Z = true) (ws : List Jvm.Cond) (p0 : Int32) (h0 : Heap) (n0 : Nat) (Z0 : n0 ≤ h0.size) :
    MetFree l x (head1 (Jvm.Cond.code x code maxLocals ret :: ws) room_1) (fun a U => a = #[(.int p0)] ∧ Z.Warmed39 U.vm ∧ U.heap = h0) (fun _ _ _ _ _ => True) (fun _ U o U' => ∃ v L, o = .returned v ∧ Q0 Z p0 h0 n0 v U'.heap L ∧ FrameEnd U o U' L 1 4) := by
  refine MetFree.of_bodySF (plainFor_of_name pn2) hisR ?_
  intro p e s m args below meth c s₁ Bd hml0 hP hK
  obtain ⟨rfl, hZ, hh⟩ := hP
  have hx := Bd.exec
  have hby := Bd.bytes
  have hml : c.maxLocals = 6 := hml0
  have hown : s.vm.findClass "com/example/panchayat/panchayat/protocol/CreateRequestModePinLaw" = some m.cls := findClass_of_methodNamed Bd.named
  have hnm := (name_of_methodNamed Bd.named Bd.method).1
  have X0 : Stand p l e room_1 s m #[(.int p0)] below meth c s₁ [] 0 0 := Stand.of_body Bd
  have e0 : s₁.heap = h0 := by rw [← hh, Bd.state]; rfl
  have N0 := Fr.nil n0
  have pre0 : ∀ t, Steps p.tables e below (s₁.setTop (mkF m 0 #[.val (.int p0), .unset, .unset, .unset, .unset, .unset] [])) t → Steps p.tables e below (s₁.setTop (entryFrame m #[(.int p0)] maxLocals)) t := fun t k => castTop (ef0 m p0) k
  have pre1 : ∀ t, Steps p.tables e below (s₁.setTop (mkF m 3 #[.val (.int p0), .unset, .unset, .unset, .unset, .unset] [(.int (p0 &&& (1 : Int32)))])) t → Steps p.tables e below (s₁.setTop (entryFrame m #[(.int p0)] maxLocals)) t := fun t k => pre0 t (by
    show Steps p.tables e below (s₁.setTop (mkF m 0 #[.val (.int p0), .unset, .unset, .unset, .unset, .unset] [])) _
    refine XS.iloadN X0.here hx rfl (hb hby at_0) rfl ?_
    show Steps p.tables e below (s₁.setTop (mkF m 1 #[.val (.int p0), .unset, .unset, .unset, .unset, .unset] [(.int p0)])) _
    refine XS.iconst X0.here hx rfl (hb hby at_1) ?_
    show Steps p.tables e below (s₁.setTop (mkF m 2 #[.val (.int p0), .unset, .unset, .unset, .unset, .unset] [(.int (1 : Int32)), (.int p0)])) _
    refine XS.iand X0.here hx rfl (hb hby at_2) rfl ?_
    exact k)
  obtain ⟨T2, L2, X2, e2, N2, pre2⟩ : ∃ (T' : State) (locs' : List Loc), Stand p l e room_1 s m #[(.int p0)] below meth c T' locs' 0 0 ∧ T'.heap = h0 ∧ Fr n0 locs' ∧ ∀ t, Steps p.tables e below (T'.setTop (mkF m 11 #[.val (.int p0), .unset, .unset, .unset, .unset, .unset] [(.int (f0_m5 p0))])) t → Steps p.tables e below (s₁.setTop (entryFrame m #[(.int p0)] maxLocals)) t := by
    by_cases hc3_2 : (p0 &&& (1 : Int32)) = (0 : Int32)
    · have pre3 : ∀ t, Steps p.tables e below (s₁.setTop (mkF m 11 #[.val (.int p0), .unset, .unset, .unset, .unset, .unset] [(.int (0 : Int32))])) t → Steps p.tables e below (s₁.setTop (entryFrame m #[(.int p0)] maxLocals)) t := fun t k => pre1 t (by
        show Steps p.tables e below (s₁.setTop (mkF m 3 #[.val (.int p0), .unset, .unset, .unset, .unset, .unset] [(.int (p0 &&& (1 : Int32)))])) _
        refine XS.ifYes X0.here hx rfl (pc0 := 3) (pc' := 10) rfl (hb hby at_3) rfl ((if0 _ _).trans (teq hc3_2).1) (by decide) (by decide) ?_
        show Steps p.tables e below (s₁.setTop (mkF m 10 #[.val (.int p0), .unset, .unset, .unset, .unset, .unset] [])) _
        refine XS.iconst X0.here hx rfl (hb hby at_10) ?_
        exact k)
      have q_f0_m5 : f0_m5 p0 = (0 : Int32) := by unfold f0_m5; rw [if_pos hc3_2]
      rw [q_f0_m5]
      exact ⟨s₁, _, X0, e0, N0, pre3⟩
    have pre4 : ∀ t, Steps p.tables e below (s₁.setTop (mkF m 11 #[.val (.int p0), .unset, .unset, .unset, .unset, .unset] [(.int (1 : Int32))])) t → Steps p.tables e below (s₁.setTop (entryFrame m #[(.int p0)] maxLocals)) t := fun t k => pre1 t (by
      show Steps p.tables e below (s₁.setTop (mkF m 3 #[.val (.int p0), .unset, .unset, .unset, .unset, .unset] [(.int (p0 &&& (1 : Int32)))])) _
      refine XS.ifNo X0.here hx rfl (hb hby at_3) rfl ((if0 _ _).trans (feq hc3_2).1) ?_
      show Steps p.tables e below (s₁.setTop (mkF m 6 #[.val (.int p0), .unset, .unset, .unset, .unset, .unset] [])) _
      refine XS.iconst X0.here hx rfl (hb hby at_6) ?_
      show Steps p.tables e below (s₁.setTop (mkF m 7 #[.val (.int p0), .unset, .unset, .unset, .unset, .unset] [(.int (1 : Int32))])) _
      refine XS.goto X0.here hx rfl (pc0 := 7) (pc' := 11) rfl (hb hby at_7) (by decide) (by decide) ?_
      exact k)
    have q_f0_m5 : f0_m5 p0 = (1 : Int32) := by unfold f0_m5; rw [if_neg hc3_2]
    rw [q_f0_m5]
    exact ⟨s₁, _, X0, e0, N0, pre4⟩
  have pre6 : ∀ t, Steps p.tables e below (T2.setTop (mkF m 15 #[.val (.int p0), .val (.int (f0_m5 p0)), .unset, .unset, .unset, .unset] [(.int (p0 &&& (2 : Int32)))])) t → Steps p.tables e below (s₁.setTop (entryFrame m #[(.int p0)] maxLocals)) t := fun t k => pre2 t (by
    show Steps p.tables e below (T2.setTop (mkF m 11 #[.val (.int p0), .unset, .unset, .unset, .unset, .unset] [(.int (f0_m5 p0))])) _
    refine XS.istoreN X2.here hx rfl (hb hby at_11) rfl (l' := #[.val (.int p0), .val (.int (f0_m5 p0)), .unset, .unset, .unset, .unset]) rfl ?_
    show Steps p.tables e below (T2.setTop (mkF m 12 #[.val (.int p0), .val (.int (f0_m5 p0)), .unset, .unset, .unset, .unset] [])) _
    refine XS.iloadN X2.here hx rfl (hb hby at_12) rfl ?_
    show Steps p.tables e below (T2.setTop (mkF m 13 #[.val (.int p0), .val (.int (f0_m5 p0)), .unset, .unset, .unset, .unset] [(.int p0)])) _
    refine XS.iconst X2.here hx rfl (hb hby at_13) ?_
    show Steps p.tables e below (T2.setTop (mkF m 14 #[.val (.int p0), .val (.int (f0_m5 p0)), .unset, .unset, .unset, .unset] [(.int (2 : Int32)), (.int p0)])) _
    refine XS.iand X2.here hx rfl (hb hby at_14) rfl ?_
    exact k)
  obtain ⟨T7, L7, X7, e7, N7, pre7⟩ : ∃ (T' : State) (locs' : List Loc), Stand p l e room_1 s m #[(.int p0)] below meth c T' locs' 0 0 ∧ T'.heap = h0 ∧ Fr n0 locs' ∧ ∀ t, Steps p.tables e below (T'.setTop (mkF m 23 #[.val (.int p0), .val (.int (f0_m5 p0)), .unset, .unset, .unset, .unset] [(.int (f0_m10 p0))])) t → Steps p.tables e below (s₁.setTop (entryFrame m #[(.int p0)] maxLocals)) t := by
    by_cases hc15_7 : (p0 &&& (2 : Int32)) = (0 : Int32)
    · have pre8 : ∀ t, Steps p.tables e below (T2.setTop (mkF m 23 #[.val (.int p0), .val (.int (f0_m5 p0)), .unset, .unset, .unset, .unset] [(.int (0 : Int32))])) t → Steps p.tables e below (s₁.setTop (entryFrame m #[(.int p0)] maxLocals)) t := fun t k => pre6 t (by
        show Steps p.tables e below (T2.setTop (mkF m 15 #[.val (.int p0), .val (.int (f0_m5 p0)), .unset, .unset, .unset, .unset] [(.int (p0 &&& (2 : Int32)))])) _
        refine XS.ifYes X2.here hx rfl (pc0 := 15) (pc' := 22) rfl (hb hby at_15) rfl ((if0 _ _).trans (teq hc15_7).1) (by decide) (by decide) ?_
        show Steps p.tables e below (T2.setTop (mkF m 22 #[.val (.int p0), .val (.int (f0_m5 p0)), .unset, .unset, .unset, .unset] [])) _
        refine XS.iconst X2.here hx rfl (hb hby at_22) ?_
        exact k)
      have q_f0_m10 : f0_m10 p0 = (0 : Int32) := by unfold f0_m10; rw [if_pos hc15_7]
      rw [q_f0_m10]
      exact ⟨T2, _, X2, e2, N2, pre8⟩
    have pre9 : ∀ t, Steps p.tables e below (T2.setTop (mkF m 23 #[.val (.int p0), .val (.int (f0_m5 p0)), .unset, .unset, .unset, .unset] [(.int (1 : Int32))])) t → Steps p.tables e below (s₁.setTop (entryFrame m #[(.int p0)] maxLocals)) t := fun t k => pre6 t (by
      show Steps p.tables e below (T2.setTop (mkF m 15 #[.val (.int p0), .val (.int (f0_m5 p0)), .unset, .unset, .unset, .unset] [(.int (p0 &&& (2 : Int32)))])) _
      refine XS.ifNo X2.here hx rfl (hb hby at_15) rfl ((if0 _ _).trans (feq hc15_7).1) ?_
      show Steps p.tables e below (T2.setTop (mkF m 18 #[.val (.int p0), .val (.int (f0_m5 p0)), .unset, .unset, .unset, .unset] [])) _
      refine XS.iconst X2.here hx rfl (hb hby at_18) ?_
      show Steps p.tables e below (T2.setTop (mkF m 19 #[.val (.int p0), .val (.int (f0_m5 p0)), .unset, .unset, .unset, .unset] [(.int (1 : Int32))])) _
      refine XS.goto X2.here hx rfl (pc0 := 19) (pc' := 23) rfl (hb hby at_19) (by decide) (by decide) ?_
      exact k)
    have q_f0_m10 : f0_m10 p0 = (1 : Int32) := by unfold f0_m10; rw [if_neg hc15_7]
    rw [q_f0_m10]
    exact ⟨T2, _, X2, e2, N2, pre9⟩
  obtain ⟨_, _, ⟨T11, L11, k11, n11⟩, -, X11, ⟨Lc11, hQ11, l11, y11, z11⟩, st11⟩ := Jvm.LawKit.callS X7 hx (y := (⟨"com/example/panchayat/panchayat/protocol/CreateRequest", "mode", "(ZZ)I"⟩ : MethodName)) hown (mvT hZ (hw _ (List.mem_of_getElem? (i := 0) rfl))) (mvT hZ (hw _ (List.mem_of_getElem? (i := 1) rfl))) (mvT hZ (hw _ (List.mem_of_getElem? (i := 2) rfl))) (mvT hZ (hw _ (List.mem_of_getElem? (i := 3) rfl))) (by decide) (backOf (W := 0) (rm1 l Z a0' hw [] (f0_m5 p0) (f0_m10 p0) h0 n0 Z0) hZ (hw _ (List.mem_of_getElem? (i := 3) rfl)) (hw _ (List.mem_of_getElem? (i := 2) rfl)) (by decide) (by decide)) (g := (mkF m 26 #[.val (.int p0), .val (.int (f0_m5 p0)), .val (.int (f0_m10 p0)), .unset, .unset, .unset] [(.int (f0_m10 p0)), (.int (f0_m5 p0))])) rfl (by rw [hml]; rfl) (argsL := [(.int (f0_m5 p0)), (.int (f0_m10 p0))]) (rest := []) (lenOf pd1 rfl) rfl (by show 2 * 0 + _ ≤ _; exact Nat.le_of_eq rfl) (hb hby at_26) (fun _ _ => ⟨rfl, e7, (by decide : 0 + 0 ≤ _), (by decide : 0 + 0 ≤ _)⟩)
  dsimp only [Pt.U, Pt.locs, Pt.cells, Pt.slots] at X11 l11 y11 z11 st11 hQ11
  subst l11 y11 z11
  obtain ⟨rfl, N11q, e11⟩ := hQ11
  have N11 := Fr.app N7 N11q
  have pre12 : ∀ t, Steps p.tables e below (T11.setTop (mkF m 31 #[.val (.int p0), .val (.int (f0_m5 p0)), .val (.int (f0_m10 p0)), .val (.int (F1 (f0_m5 p0) (f0_m10 p0))), .unset, .unset] [(.int (f0_m5 p0))])) t → Steps p.tables e below (s₁.setTop (entryFrame m #[(.int p0)] maxLocals)) t := fun t k => pre7 t (by
    show Steps p.tables e below (T7.setTop (mkF m 23 #[.val (.int p0), .val (.int (f0_m5 p0)), .unset, .unset, .unset, .unset] [(.int (f0_m10 p0))])) _
    refine XS.istoreN X7.here hx rfl (hb hby at_23) rfl (l' := #[.val (.int p0), .val (.int (f0_m5 p0)), .val (.int (f0_m10 p0)), .unset, .unset, .unset]) rfl ?_
    show Steps p.tables e below (T7.setTop (mkF m 24 #[.val (.int p0), .val (.int (f0_m5 p0)), .val (.int (f0_m10 p0)), .unset, .unset, .unset] [])) _
    refine XS.iloadN X7.here hx rfl (hb hby at_24) rfl ?_
    show Steps p.tables e below (T7.setTop (mkF m 25 #[.val (.int p0), .val (.int (f0_m5 p0)), .val (.int (f0_m10 p0)), .unset, .unset, .unset] [(.int (f0_m5 p0))])) _
    refine XS.iloadN X7.here hx rfl (hb hby at_25) rfl ?_
    show Steps p.tables e below (T7.setTop (mkF m 26 #[.val (.int p0), .val (.int (f0_m5 p0)), .val (.int (f0_m10 p0)), .unset, .unset, .unset] [(.int (f0_m10 p0)), (.int (f0_m5 p0))])) _
    refine st11 _ ?_
    show Steps p.tables e below (T11.setTop (mkF m 29 #[.val (.int p0), .val (.int (f0_m5 p0)), .val (.int (f0_m10 p0)), .unset, .unset, .unset] [(.int (F1 (f0_m5 p0) (f0_m10 p0)))])) _
    refine XS.istoreN X11.here hx rfl (hb hby at_29) rfl (l' := #[.val (.int p0), .val (.int (f0_m5 p0)), .val (.int (f0_m10 p0)), .val (.int (F1 (f0_m5 p0) (f0_m10 p0))), .unset, .unset]) rfl ?_
    show Steps p.tables e below (T11.setTop (mkF m 30 #[.val (.int p0), .val (.int (f0_m5 p0)), .val (.int (f0_m10 p0)), .val (.int (F1 (f0_m5 p0) (f0_m10 p0))), .unset, .unset] [])) _
    refine XS.iloadN X11.here hx rfl (hb hby at_30) rfl ?_
    exact k)
  obtain ⟨T13, L13, X13, e13, N13, pre13⟩ : ∃ (T' : State) (locs' : List Loc), Stand p l e room_1 s m #[(.int p0)] below meth c T' locs' 0 0 ∧ T'.heap = h0 ∧ Fr n0 locs' ∧ ∀ t, Steps p.tables e below (T'.setTop (mkF m 63 #[.val (.int p0), .val (.int (f0_m5 p0)), .val (.int (f0_m10 p0)), .val (.int (F1 (f0_m5 p0) (f0_m10 p0))), .val (.int (f0_m22 p0)), .unset] [])) t → Steps p.tables e below (s₁.setTop (entryFrame m #[(.int p0)] maxLocals)) t := by
    by_cases hc31_13 : (f0_m5 p0) = (0 : Int32)
    · have pre14 : ∀ t, Steps p.tables e below (T11.setTop (mkF m 51 #[.val (.int p0), .val (.int (f0_m5 p0)), .val (.int (f0_m10 p0)), .val (.int (F1 (f0_m5 p0) (f0_m10 p0))), .unset, .unset] [(.int (f0_m10 p0))])) t → Steps p.tables e below (s₁.setTop (entryFrame m #[(.int p0)] maxLocals)) t := fun t k => pre12 t (by
        show Steps p.tables e below (T11.setTop (mkF m 31 #[.val (.int p0), .val (.int (f0_m5 p0)), .val (.int (f0_m10 p0)), .val (.int (F1 (f0_m5 p0) (f0_m10 p0))), .unset, .unset] [(.int (f0_m5 p0))])) _
        refine XS.ifYes X11.here hx rfl (pc0 := 31) (pc' := 50) rfl (hb hby at_31) rfl ((if0 _ _).trans (teq hc31_13).1) (by decide) (by decide) ?_
        show Steps p.tables e below (T11.setTop (mkF m 50 #[.val (.int p0), .val (.int (f0_m5 p0)), .val (.int (f0_m10 p0)), .val (.int (F1 (f0_m5 p0) (f0_m10 p0))), .unset, .unset] [])) _
        refine XS.iloadN X11.here hx rfl (hb hby at_50) rfl ?_
        exact k)
      by_cases hc51_15 : (f0_m10 p0) = (0 : Int32)
      · have pre16 : ∀ t, Steps p.tables e below (T11.setTop (mkF m 63 #[.val (.int p0), .val (.int (f0_m5 p0)), .val (.int (f0_m10 p0)), .val (.int (F1 (f0_m5 p0) (f0_m10 p0))), .val (.int (0 : Int32)), .unset] [])) t → Steps p.tables e below (s₁.setTop (entryFrame m #[(.int p0)] maxLocals)) t := fun t k => pre14 t (by
          show Steps p.tables e below (T11.setTop (mkF m 51 #[.val (.int p0), .val (.int (f0_m5 p0)), .val (.int (f0_m10 p0)), .val (.int (F1 (f0_m5 p0) (f0_m10 p0))), .unset, .unset] [(.int (f0_m10 p0))])) _
          refine XS.ifYes X11.here hx rfl (pc0 := 51) (pc' := 60) rfl (hb hby at_51) rfl ((if0 _ _).trans (teq hc51_15).1) (by decide) (by decide) ?_
          show Steps p.tables e below (T11.setTop (mkF m 60 #[.val (.int p0), .val (.int (f0_m5 p0)), .val (.int (f0_m10 p0)), .val (.int (F1 (f0_m5 p0) (f0_m10 p0))), .unset, .unset] [])) _
          refine XS.iconst X11.here hx rfl (hb hby at_60) ?_
          show Steps p.tables e below (T11.setTop (mkF m 61 #[.val (.int p0), .val (.int (f0_m5 p0)), .val (.int (f0_m10 p0)), .val (.int (F1 (f0_m5 p0) (f0_m10 p0))), .unset, .unset] [(.int (0 : Int32))])) _
          refine XS.istore X11.here hx rfl (hb hby at_61) rfl (l' := #[.val (.int p0), .val (.int (f0_m5 p0)), .val (.int (f0_m10 p0)), .val (.int (F1 (f0_m5 p0) (f0_m10 p0))), .val (.int (0 : Int32)), .unset]) rfl ?_
          exact k)
        have q_f0_m22 : f0_m22 p0 = (0 : Int32) := by unfold f0_m22; rw [if_pos hc31_13, if_pos hc51_15]
        rw [q_f0_m22]
        exact ⟨T11, _, X11, e11, N11, pre16⟩
      have pre17 : ∀ t, Steps p.tables e below (T11.setTop (mkF m 63 #[.val (.int p0), .val (.int (f0_m5 p0)), .val (.int (f0_m10 p0)), .val (.int (F1 (f0_m5 p0) (f0_m10 p0))), .val (.int (2 : Int32)), .unset] [])) t → Steps p.tables e below (s₁.setTop (entryFrame m #[(.int p0)] maxLocals)) t := fun t k => pre14 t (by
        show Steps p.tables e below (T11.setTop (mkF m 51 #[.val (.int p0), .val (.int (f0_m5 p0)), .val (.int (f0_m10 p0)), .val (.int (F1 (f0_m5 p0) (f0_m10 p0))), .unset, .unset] [(.int (f0_m10 p0))])) _
        refine XS.ifNo X11.here hx rfl (hb hby at_51) rfl ((if0 _ _).trans (feq hc51_15).1) ?_
        show Steps p.tables e below (T11.setTop (mkF m 54 #[.val (.int p0), .val (.int (f0_m5 p0)), .val (.int (f0_m10 p0)), .val (.int (F1 (f0_m5 p0) (f0_m10 p0))), .unset, .unset] [])) _
        refine XS.iconst X11.here hx rfl (hb hby at_54) ?_
        show Steps p.tables e below (T11.setTop (mkF m 55 #[.val (.int p0), .val (.int (f0_m5 p0)), .val (.int (f0_m10 p0)), .val (.int (F1 (f0_m5 p0) (f0_m10 p0))), .unset, .unset] [(.int (2 : Int32))])) _
        refine XS.istore X11.here hx rfl (hb hby at_55) rfl (l' := #[.val (.int p0), .val (.int (f0_m5 p0)), .val (.int (f0_m10 p0)), .val (.int (F1 (f0_m5 p0) (f0_m10 p0))), .val (.int (2 : Int32)), .unset]) rfl ?_
        show Steps p.tables e below (T11.setTop (mkF m 57 #[.val (.int p0), .val (.int (f0_m5 p0)), .val (.int (f0_m10 p0)), .val (.int (F1 (f0_m5 p0) (f0_m10 p0))), .val (.int (2 : Int32)), .unset] [])) _
        refine XS.goto X11.here hx rfl (pc0 := 57) (pc' := 63) rfl (hb hby at_57) (by decide) (by decide) ?_
        exact k)
      have q_f0_m22 : f0_m22 p0 = (2 : Int32) := by unfold f0_m22; rw [if_pos hc31_13, if_neg hc51_15]
      rw [q_f0_m22]
      exact ⟨T11, _, X11, e11, N11, pre17⟩
    have pre18 : ∀ t, Steps p.tables e below (T11.setTop (mkF m 35 #[.val (.int p0), .val (.int (f0_m5 p0)), .val (.int (f0_m10 p0)), .val (.int (F1 (f0_m5 p0) (f0_m10 p0))), .unset, .unset] [(.int (f0_m10 p0))])) t → Steps p.tables e below (s₁.setTop (entryFrame m #[(.int p0)] maxLocals)) t := fun t k => pre12 t (by
      show Steps p.tables e below (T11.setTop (mkF m 31 #[.val (.int p0), .val (.int (f0_m5 p0)), .val (.int (f0_m10 p0)), .val (.int (F1 (f0_m5 p0) (f0_m10 p0))), .unset, .unset] [(.int (f0_m5 p0))])) _
      refine XS.ifNo X11.here hx rfl (hb hby at_31) rfl ((if0 _ _).trans (feq hc31_13).1) ?_
      show Steps p.tables e below (T11.setTop (mkF m 34 #[.val (.int p0), .val (.int (f0_m5 p0)), .val (.int (f0_m10 p0)), .val (.int (F1 (f0_m5 p0) (f0_m10 p0))), .unset, .unset] [])) _
      refine XS.iloadN X11.here hx rfl (hb hby at_34) rfl ?_
      exact k)
    by_cases hc35_19 : (f0_m10 p0) = (0 : Int32)
    · have pre20 : ∀ t, Steps p.tables e below (T11.setTop (mkF m 63 #[.val (.int p0), .val (.int (f0_m5 p0)), .val (.int (f0_m10 p0)), .val (.int (F1 (f0_m5 p0) (f0_m10 p0))), .val (.int (1 : Int32)), .unset] [])) t → Steps p.tables e below (s₁.setTop (entryFrame m #[(.int p0)] maxLocals)) t := fun t k => pre18 t (by
        show Steps p.tables e below (T11.setTop (mkF m 35 #[.val (.int p0), .val (.int (f0_m5 p0)), .val (.int (f0_m10 p0)), .val (.int (F1 (f0_m5 p0) (f0_m10 p0))), .unset, .unset] [(.int (f0_m10 p0))])) _
        refine XS.ifYes X11.here hx rfl (pc0 := 35) (pc' := 44) rfl (hb hby at_35) rfl ((if0 _ _).trans (teq hc35_19).1) (by decide) (by decide) ?_
        show Steps p.tables e below (T11.setTop (mkF m 44 #[.val (.int p0), .val (.int (f0_m5 p0)), .val (.int (f0_m10 p0)), .val (.int (F1 (f0_m5 p0) (f0_m10 p0))), .unset, .unset] [])) _
        refine XS.iconst X11.here hx rfl (hb hby at_44) ?_
        show Steps p.tables e below (T11.setTop (mkF m 45 #[.val (.int p0), .val (.int (f0_m5 p0)), .val (.int (f0_m10 p0)), .val (.int (F1 (f0_m5 p0) (f0_m10 p0))), .unset, .unset] [(.int (1 : Int32))])) _
        refine XS.istore X11.here hx rfl (hb hby at_45) rfl (l' := #[.val (.int p0), .val (.int (f0_m5 p0)), .val (.int (f0_m10 p0)), .val (.int (F1 (f0_m5 p0) (f0_m10 p0))), .val (.int (1 : Int32)), .unset]) rfl ?_
        show Steps p.tables e below (T11.setTop (mkF m 47 #[.val (.int p0), .val (.int (f0_m5 p0)), .val (.int (f0_m10 p0)), .val (.int (F1 (f0_m5 p0) (f0_m10 p0))), .val (.int (1 : Int32)), .unset] [])) _
        refine XS.goto X11.here hx rfl (pc0 := 47) (pc' := 63) rfl (hb hby at_47) (by decide) (by decide) ?_
        exact k)
      have q_f0_m22 : f0_m22 p0 = (1 : Int32) := by unfold f0_m22; rw [if_neg hc31_13, if_pos hc35_19]
      rw [q_f0_m22]
      exact ⟨T11, _, X11, e11, N11, pre20⟩
    have pre21 : ∀ t, Steps p.tables e below (T11.setTop (mkF m 63 #[.val (.int p0), .val (.int (f0_m5 p0)), .val (.int (f0_m10 p0)), .val (.int (F1 (f0_m5 p0) (f0_m10 p0))), .val (.int (3 : Int32)), .unset] [])) t → Steps p.tables e below (s₁.setTop (entryFrame m #[(.int p0)] maxLocals)) t := fun t k => pre18 t (by
      show Steps p.tables e below (T11.setTop (mkF m 35 #[.val (.int p0), .val (.int (f0_m5 p0)), .val (.int (f0_m10 p0)), .val (.int (F1 (f0_m5 p0) (f0_m10 p0))), .unset, .unset] [(.int (f0_m10 p0))])) _
      refine XS.ifNo X11.here hx rfl (hb hby at_35) rfl ((if0 _ _).trans (feq hc35_19).1) ?_
      show Steps p.tables e below (T11.setTop (mkF m 38 #[.val (.int p0), .val (.int (f0_m5 p0)), .val (.int (f0_m10 p0)), .val (.int (F1 (f0_m5 p0) (f0_m10 p0))), .unset, .unset] [])) _
      refine XS.iconst X11.here hx rfl (hb hby at_38) ?_
      show Steps p.tables e below (T11.setTop (mkF m 39 #[.val (.int p0), .val (.int (f0_m5 p0)), .val (.int (f0_m10 p0)), .val (.int (F1 (f0_m5 p0) (f0_m10 p0))), .unset, .unset] [(.int (3 : Int32))])) _
      refine XS.istore X11.here hx rfl (hb hby at_39) rfl (l' := #[.val (.int p0), .val (.int (f0_m5 p0)), .val (.int (f0_m10 p0)), .val (.int (F1 (f0_m5 p0) (f0_m10 p0))), .val (.int (3 : Int32)), .unset]) rfl ?_
      show Steps p.tables e below (T11.setTop (mkF m 41 #[.val (.int p0), .val (.int (f0_m5 p0)), .val (.int (f0_m10 p0)), .val (.int (F1 (f0_m5 p0) (f0_m10 p0))), .val (.int (3 : Int32)), .unset] [])) _
      refine XS.goto X11.here hx rfl (pc0 := 41) (pc' := 63) rfl (hb hby at_41) (by decide) (by decide) ?_
      exact k)
    have q_f0_m22 : f0_m22 p0 = (3 : Int32) := by unfold f0_m22; rw [if_neg hc31_13, if_neg hc35_19]
    rw [q_f0_m22]
    exact ⟨T11, _, X11, e11, N11, pre21⟩
  have pre23 : ∀ t, Steps p.tables e below (T13.setTop (mkF m 66 #[.val (.int p0), .val (.int (f0_m5 p0)), .val (.int (f0_m10 p0)), .val (.int (F1 (f0_m5 p0) (f0_m10 p0))), .val (.int (f0_m22 p0)), .unset] [(.int (f0_m22 p0)), (.int (F1 (f0_m5 p0) (f0_m10 p0)))])) t → Steps p.tables e below (s₁.setTop (entryFrame m #[(.int p0)] maxLocals)) t := fun t k => pre13 t (by
    show Steps p.tables e below (T13.setTop (mkF m 63 #[.val (.int p0), .val (.int (f0_m5 p0)), .val (.int (f0_m10 p0)), .val (.int (F1 (f0_m5 p0) (f0_m10 p0))), .val (.int (f0_m22 p0)), .unset] [])) _
    refine XS.iloadN X13.here hx rfl (hb hby at_63) rfl ?_
    show Steps p.tables e below (T13.setTop (mkF m 64 #[.val (.int p0), .val (.int (f0_m5 p0)), .val (.int (f0_m10 p0)), .val (.int (F1 (f0_m5 p0) (f0_m10 p0))), .val (.int (f0_m22 p0)), .unset] [(.int (F1 (f0_m5 p0) (f0_m10 p0)))])) _
    refine XS.iload X13.here hx rfl (hb hby at_64) rfl ?_
    exact k)
  by_cases hc66_24 : (F1 (f0_m5 p0) (f0_m10 p0)) = (f0_m22 p0)
  · obtain ⟨T25, h25, X25, e25, E25, A25, D25, -, st25⟩ := newO X13 hx hZ hown (hw _ (List.mem_of_getElem? (i := 4) rfl)) (hw _ (List.mem_of_getElem? (i := 5) rfl)) (hw _ (List.mem_of_getElem? (i := 2) rfl)) e13 (g := (mkF m 71 #[.val (.int p0), .val (.int (f0_m5 p0)), .val (.int (f0_m10 p0)), .val (.int (F1 (f0_m5 p0) (f0_m10 p0))), .val (.int (f0_m22 p0)), .unset] [])) rfl (hb hby at_71) (by decide) (by decide)
    obtain ⟨b25, g25⟩ : ∃ z, z = h0.size := ⟨_, rfl⟩
    rw [← g25] at A25 D25 st25
    have g_b25 : n0 ≤ b25 := Nat.le_trans Z0 (Nat.le_of_eq g25.symm)
    have Z25 : n0 ≤ h25.size := Nat.le_trans Z0 E25.1
    have F25_path : Fld Z h25 b25 "com/example/panchayat/panchayat/protocol/CreateRequest" "path" "Ljava/lang/String;" .null := D25 (Or.inr (hw _ (List.mem_of_getElem? (i := 18) rfl))) (ty := (.object "java/lang/String")) (by decide)
    have F25_data : Fld Z h25 b25 "com/example/panchayat/panchayat/protocol/CreateRequest" "data" "[B" .null := D25 (Or.inr (hw _ (List.mem_of_getElem? (i := 20) rfl))) (ty := (.array .byte)) (by decide)
    have F25_acl : Fld Z h25 b25 "com/example/panchayat/panchayat/protocol/CreateRequest" "acl" "Ljava/util/List;" .null := D25 (Or.inr (hw _ (List.mem_of_getElem? (i := 22) rfl))) (ty := (.object "java/util/List")) (by decide)
    have F25_flags : Fld Z h25 b25 "com/example/panchayat/panchayat/protocol/CreateRequest" "flags" "I" (.int (0 : Int32)) := D25 (Or.inr (hw _ (List.mem_of_getElem? (i := 24) rfl))) (ty := .int) (by decide)
    obtain ⟨_, _, ⟨T26, L26, k26, n26⟩, -, X26, ⟨Lc26, hQ26, l26, y26, z26⟩, st26⟩ := X25.specialBack hx (y := (⟨"com/example/panchayat/panchayat/protocol/CreateRequest", "<init>", "(Ljava/lang/String;[BLjava/util/List;I)V"⟩ : MethodName)) rfl hown (mvT hZ (hw _ (List.mem_of_getElem? (i := 6) rfl))) (mvT hZ (hw _ (List.mem_of_getElem? (i := 7) rfl))) (mvT hZ (hw _ (List.mem_of_getElem? (i := 8) rfl))) (by decide) (backOf (W := 1) (rm2 l Z a0' hw [] b25 (F1 (f0_m5 p0) (f0_m10 p0)) .null .null .null (0 : Int32) h25 n0 Z25 A25 F25_path F25_data F25_acl F25_flags g_b25) hZ (hw _ (List.mem_of_getElem? (i := 8) rfl)) (hw _ (List.mem_of_getElem? (i := 2) rfl)) (by decide) (by decide)) (g := (mkF m 79 #[.val (.int p0), .val (.int (f0_m5 p0)), .val (.int (f0_m10 p0)), .val (.int (F1 (f0_m5 p0) (f0_m10 p0))), .val (.int (f0_m22 p0)), .unset] [(.int (F1 (f0_m5 p0) (f0_m10 p0))), .null, .null, .null, (.ref b25), (.ref b25)])) rfl (by rw [hml]; rfl) (Steps.refl _) (a := b25) (argsL := [.null, .null, .null, (.int (F1 (f0_m5 p0) (f0_m10 p0)))]) (rest := [(.ref b25)]) (lenOf pd2 rfl) rfl (by show 2 * 0 + _ ≤ _; exact Nat.le_of_eq rfl) (hb hby at_79) (fun _ _ => ⟨rfl, e25, (by decide : 1 + 0 ≤ _), (by decide : 4 + 0 ≤ _)⟩)
    dsimp only [Pt.U, Pt.locs, Pt.cells, Pt.slots] at X26 l26 y26 z26 st26 hQ26
    subst l26 y26 z26
    obtain ⟨rfl, N26q, K26, u26_0, u26_1, u26_2, u26_3, u26_4⟩ := hQ26
    have N26 := Fr.app N13 N26q
    have Z26 : n0 ≤ T26.heap.size := Nat.le_trans Z25 K26.1
    obtain ⟨cq27, kq27, q27a, q27b, q27c⟩ := isOf hZ rfl u26_0
    obtain ⟨_, _, ⟨T27, L27, k27, n27⟩, -, X27, ⟨Lc27, hQ27, l27, y27, z27⟩, st27⟩ := X26.virtualBack hx (y := (⟨"com/example/panchayat/panchayat/protocol/CreateRequest", "hasKnownMode", "()Z"⟩ : MethodName)) (z := (⟨"com/example/panchayat/panchayat/protocol/CreateRequest", "hasKnownMode", "()Z"⟩ : MethodName)) hown (mvT hZ (hw _ (List.mem_of_getElem? (i := 25) rfl))) (mvT hZ (hw _ (List.mem_of_getElem? (i := 26) rfl))) (notFace_of_selects (args := #[]) (mvT hZ (hw _ (List.mem_of_getElem? (i := 28) rfl)))) (mvT hZ (hw _ (List.mem_of_getElem? (i := 28) rfl))) (mvT hZ (hw _ (List.mem_of_getElem? (i := 27) rfl))) (by decide) (backOf (W := 0) (rm5 l Z a0' hw [] b25 (F1 (f0_m5 p0) (f0_m10 p0)) T26.heap n0 Z26 u26_4) hZ (hw _ (List.mem_of_getElem? (i := 29) rfl)) (hw _ (List.mem_of_getElem? (i := 2) rfl)) (by decide) (by decide)) q27a q27c (g := (mkF m 86 #[.val (.int p0), .val (.int (f0_m5 p0)), .val (.int (f0_m10 p0)), .val (.int (F1 (f0_m5 p0) (f0_m10 p0))), .val (.int (f0_m22 p0)), .val (.ref b25)] [(.ref b25)])) rfl (by rw [hml]; rfl) (Steps.refl _) (argsL := []) (rest := []) (lenOf pd3 rfl) rfl (by show 2 * 0 + _ ≤ _; exact Nat.le_of_eq rfl) (hb hby at_86) (fun _ _ => ⟨rfl, rfl, (by decide : 1 + 0 ≤ _), (by decide : 4 + 0 ≤ _)⟩)
    dsimp only [Pt.U, Pt.locs, Pt.cells, Pt.slots] at X27 l27 y27 z27 st27 hQ27
    subst l27 y27 z27
    obtain ⟨rfl, N27q, e27⟩ := hQ27
    have N27 := Fr.app N26 N27q
    have pre28 : ∀ t, Steps p.tables e below (T27.setTop (mkF m 89 #[.val (.int p0), .val (.int (f0_m5 p0)), .val (.int (f0_m10 p0)), .val (.int (F1 (f0_m5 p0) (f0_m10 p0))), .val (.int (f0_m22 p0)), .val (.ref b25)] [(.int (F5 (F1 (f0_m5 p0) (f0_m10 p0))))])) t → Steps p.tables e below (s₁.setTop (entryFrame m #[(.int p0)] maxLocals)) t := fun t k => pre23 t (by
      show Steps p.tables e below (T13.setTop (mkF m 66 #[.val (.int p0), .val (.int (f0_m5 p0)), .val (.int (f0_m10 p0)), .val (.int (F1 (f0_m5 p0) (f0_m10 p0))), .val (.int (f0_m22 p0)), .unset] [(.int (f0_m22 p0)), (.int (F1 (f0_m5 p0) (f0_m10 p0)))])) _
      refine XS.icmpYes X13.here hx rfl (pc0 := 66) (pc' := 71) rfl (hb hby at_66) rfl (teq hc66_24).1 (by decide) (by decide) ?_
      show Steps p.tables e below (T13.setTop (mkF m 71 #[.val (.int p0), .val (.int (f0_m5 p0)), .val (.int (f0_m10 p0)), .val (.int (F1 (f0_m5 p0) (f0_m10 p0))), .val (.int (f0_m22 p0)), .unset] [])) _
      refine st25 _ ?_
      show Steps p.tables e below (T25.setTop (mkF m 74 #[.val (.int p0), .val (.int (f0_m5 p0)), .val (.int (f0_m10 p0)), .val (.int (F1 (f0_m5 p0) (f0_m10 p0))), .val (.int (f0_m22 p0)), .unset] [(.ref b25)])) _
      refine XS.dup X25.here hx rfl (hb hby at_74) rfl rfl ?_
      show Steps p.tables e below (T25.setTop (mkF m 75 #[.val (.int p0), .val (.int (f0_m5 p0)), .val (.int (f0_m10 p0)), .val (.int (F1 (f0_m5 p0) (f0_m10 p0))), .val (.int (f0_m22 p0)), .unset] [(.ref b25), (.ref b25)])) _
      refine XS.aconstNull X25.here hx rfl (hb hby at_75) ?_
      show Steps p.tables e below (T25.setTop (mkF m 76 #[.val (.int p0), .val (.int (f0_m5 p0)), .val (.int (f0_m10 p0)), .val (.int (F1 (f0_m5 p0) (f0_m10 p0))), .val (.int (f0_m22 p0)), .unset] [.null, (.ref b25), (.ref b25)])) _
      refine XS.aconstNull X25.here hx rfl (hb hby at_76) ?_
      show Steps p.tables e below (T25.setTop (mkF m 77 #[.val (.int p0), .val (.int (f0_m5 p0)), .val (.int (f0_m10 p0)), .val (.int (F1 (f0_m5 p0) (f0_m10 p0))), .val (.int (f0_m22 p0)), .unset] [.null, .null, (.ref b25), (.ref b25)])) _
      refine XS.aconstNull X25.here hx rfl (hb hby at_77) ?_
      show Steps p.tables e below (T25.setTop (mkF m 78 #[.val (.int p0), .val (.int (f0_m5 p0)), .val (.int (f0_m10 p0)), .val (.int (F1 (f0_m5 p0) (f0_m10 p0))), .val (.int (f0_m22 p0)), .unset] [.null, .null, .null, (.ref b25), (.ref b25)])) _
      refine XS.iloadN X25.here hx rfl (hb hby at_78) rfl ?_
      show Steps p.tables e below (T25.setTop (mkF m 79 #[.val (.int p0), .val (.int (f0_m5 p0)), .val (.int (f0_m10 p0)), .val (.int (F1 (f0_m5 p0) (f0_m10 p0))), .val (.int (f0_m22 p0)), .unset] [(.int (F1 (f0_m5 p0) (f0_m10 p0))), .null, .null, .null, (.ref b25), (.ref b25)])) _
      refine st26.trans ?_
      show Steps p.tables e below (T26.setTop (mkF m 82 #[.val (.int p0), .val (.int (f0_m5 p0)), .val (.int (f0_m10 p0)), .val (.int (F1 (f0_m5 p0) (f0_m10 p0))), .val (.int (f0_m22 p0)), .unset] [(.ref b25)])) _
      refine XS.astore X26.here hx rfl (hb hby at_82) rfl rfl (l' := #[.val (.int p0), .val (.int (f0_m5 p0)), .val (.int (f0_m10 p0)), .val (.int (F1 (f0_m5 p0) (f0_m10 p0))), .val (.int (f0_m22 p0)), .val (.ref b25)]) rfl ?_
      show Steps p.tables e below (T26.setTop (mkF m 84 #[.val (.int p0), .val (.int (f0_m5 p0)), .val (.int (f0_m10 p0)), .val (.int (F1 (f0_m5 p0) (f0_m10 p0))), .val (.int (f0_m22 p0)), .val (.ref b25)] [])) _
      refine XS.aload X26.here hx rfl (hb hby at_84) rfl rfl ?_
      show Steps p.tables e below (T26.setTop (mkF m 86 #[.val (.int p0), .val (.int (f0_m5 p0)), .val (.int (f0_m10 p0)), .val (.int (F1 (f0_m5 p0) (f0_m10 p0))), .val (.int (f0_m22 p0)), .val (.ref b25)] [(.ref b25)])) _
      refine st27.trans ?_
      exact k)
    by_cases hc89_29 : (F5 (F1 (f0_m5 p0) (f0_m10 p0))) = (0 : Int32)
    · have pre30 : ∀ t, Steps p.tables e below (T27.setTop (mkF m 115 #[.val (.int p0), .val (.int (f0_m5 p0)), .val (.int (f0_m10 p0)), .val (.int (F1 (f0_m5 p0) (f0_m10 p0))), .val (.int (f0_m22 p0)), .val (.ref b25)] [(.int (0 : Int32))])) t → Steps p.tables e below (s₁.setTop (entryFrame m #[(.int p0)] maxLocals)) t := fun t k => pre28 t (by
        show Steps p.tables e below (T27.setTop (mkF m 89 #[.val (.int p0), .val (.int (f0_m5 p0)), .val (.int (f0_m10 p0)), .val (.int (F1 (f0_m5 p0) (f0_m10 p0))), .val (.int (f0_m22 p0)), .val (.ref b25)] [(.int (F5 (F1 (f0_m5 p0) (f0_m10 p0))))])) _
        refine XS.ifYes X27.here hx rfl (pc0 := 89) (pc' := 114) rfl (hb hby at_89) rfl ((if0 _ _).trans (teq hc89_29).1) (by decide) (by decide) ?_
        show Steps p.tables e below (T27.setTop (mkF m 114 #[.val (.int p0), .val (.int (f0_m5 p0)), .val (.int (f0_m10 p0)), .val (.int (F1 (f0_m5 p0) (f0_m10 p0))), .val (.int (f0_m22 p0)), .val (.ref b25)] [])) _
        refine XS.iconst X27.here hx rfl (hb hby at_114) ?_
        exact k)
      obtain ⟨fs, hr, hrun, hended, hW, hsame⟩ := X27.leave (v := some (.int (0 : Int32))) (fun h => by rw [Bd.returns] at h; cases h)
      have hF : (F0 p0) = (0 : Int32) := by unfold F0; rw [if_pos hc66_24, if_pos hc89_29]
      exact ⟨_, _, pre30 _ (retN X27 hx (t := .boolean) Bd.returns (by simp) (hb hby at_115) hr), hrun, hended, _, _, rfl, ⟨by rw [hF], N27⟩, ⟨_, rfl⟩, hW, hsame.mono (by decide) (by decide)⟩
    obtain ⟨cq31, kq31, q31a, q31b, q31c⟩ := isOf hZ e27 u26_0
    obtain ⟨_, _, ⟨T31, L31, k31, n31⟩, -, X31, ⟨Lc31, hQ31, l31, y31, z31⟩, st31⟩ := X27.virtualBack hx (y := (⟨"com/example/panchayat/panchayat/protocol/CreateRequest", "isEphemeral", "()Z"⟩ : MethodName)) (z := (⟨"com/example/panchayat/panchayat/protocol/CreateRequest", "isEphemeral", "()Z"⟩ : MethodName)) hown (mvT hZ (hw _ (List.mem_of_getElem? (i := 30) rfl))) (mvT hZ (hw _ (List.mem_of_getElem? (i := 31) rfl))) (notFace_of_selects (args := #[]) (mvT hZ (hw _ (List.mem_of_getElem? (i := 33) rfl)))) (mvT hZ (hw _ (List.mem_of_getElem? (i := 33) rfl))) (mvT hZ (hw _ (List.mem_of_getElem? (i := 32) rfl))) (by decide) (backOf (W := 0) (rm6 l Z a0' hw [] b25 (F1 (f0_m5 p0) (f0_m10 p0)) T26.heap n0 Z26 u26_4) hZ (hw _ (List.mem_of_getElem? (i := 34) rfl)) (hw _ (List.mem_of_getElem? (i := 2) rfl)) (by decide) (by decide)) q31a q31c (g := (mkF m 94 #[.val (.int p0), .val (.int (f0_m5 p0)), .val (.int (f0_m10 p0)), .val (.int (F1 (f0_m5 p0) (f0_m10 p0))), .val (.int (f0_m22 p0)), .val (.ref b25)] [(.ref b25)])) rfl (by rw [hml]; rfl) (Steps.refl _) (argsL := []) (rest := []) (lenOf pd3 rfl) rfl (by show 2 * 0 + _ ≤ _; exact Nat.le_of_eq rfl) (hb hby at_94) (fun _ _ => ⟨rfl, e27, (by decide : 1 + 0 ≤ _), (by decide : 4 + 0 ≤ _)⟩)
    dsimp only [Pt.U, Pt.locs, Pt.cells, Pt.slots] at X31 l31 y31 z31 st31 hQ31
    subst l31 y31 z31
    obtain ⟨rfl, N31q, e31⟩ := hQ31
    have N31 := Fr.app N27 N31q
    have pre32 : ∀ t, Steps p.tables e below (T31.setTop (mkF m 98 #[.val (.int p0), .val (.int (f0_m5 p0)), .val (.int (f0_m10 p0)), .val (.int (F1 (f0_m5 p0) (f0_m10 p0))), .val (.int (f0_m22 p0)), .val (.ref b25)] [(.int (f0_m5 p0)), (.int (F6 (F1 (f0_m5 p0) (f0_m10 p0))))])) t → Steps p.tables e below (s₁.setTop (entryFrame m #[(.int p0)] maxLocals)) t := fun t k => pre28 t (by
      show Steps p.tables e below (T27.setTop (mkF m 89 #[.val (.int p0), .val (.int (f0_m5 p0)), .val (.int (f0_m10 p0)), .val (.int (F1 (f0_m5 p0) (f0_m10 p0))), .val (.int (f0_m22 p0)), .val (.ref b25)] [(.int (F5 (F1 (f0_m5 p0) (f0_m10 p0))))])) _
      refine XS.ifNo X27.here hx rfl (hb hby at_89) rfl ((if0 _ _).trans (feq hc89_29).1) ?_
      show Steps p.tables e below (T27.setTop (mkF m 92 #[.val (.int p0), .val (.int (f0_m5 p0)), .val (.int (f0_m10 p0)), .val (.int (F1 (f0_m5 p0) (f0_m10 p0))), .val (.int (f0_m22 p0)), .val (.ref b25)] [])) _
      refine XS.aload X27.here hx rfl (hb hby at_92) rfl rfl ?_
      show Steps p.tables e below (T27.setTop (mkF m 94 #[.val (.int p0), .val (.int (f0_m5 p0)), .val (.int (f0_m10 p0)), .val (.int (F1 (f0_m5 p0) (f0_m10 p0))), .val (.int (f0_m22 p0)), .val (.ref b25)] [(.ref b25)])) _
      refine st31.trans ?_
      show Steps p.tables e below (T31.setTop (mkF m 97 #[.val (.int p0), .val (.int (f0_m5 p0)), .val (.int (f0_m10 p0)), .val (.int (F1 (f0_m5 p0) (f0_m10 p0))), .val (.int (f0_m22 p0)), .val (.ref b25)] [(.int (F6 (F1 (f0_m5 p0) (f0_m10 p0))))])) _
      refine XS.iloadN X31.here hx rfl (hb hby at_97) rfl ?_
      exact k)
    by_cases hc98_33 : (F6 (F1 (f0_m5 p0) (f0_m10 p0))) = (f0_m5 p0)
    · obtain ⟨cq34, kq34, q34a, q34b, q34c⟩ := isOf hZ e31 u26_0
      obtain ⟨_, _, ⟨T34, L34, k34, n34⟩, -, X34, ⟨Lc34, hQ34, l34, y34, z34⟩, st34⟩ := X31.virtualBack hx (y := (⟨"com/example/panchayat/panchayat/protocol/CreateRequest", "isSequential", "()Z"⟩ : MethodName)) (z := (⟨"com/example/panchayat/panchayat/protocol/CreateRequest", "isSequential", "()Z"⟩ : MethodName)) hown (mvT hZ (hw _ (List.mem_of_getElem? (i := 35) rfl))) (mvT hZ (hw _ (List.mem_of_getElem? (i := 36) rfl))) (notFace_of_selects (args := #[]) (mvT hZ (hw _ (List.mem_of_getElem? (i := 38) rfl)))) (mvT hZ (hw _ (List.mem_of_getElem? (i := 38) rfl))) (mvT hZ (hw _ (List.mem_of_getElem? (i := 37) rfl))) (by decide) (backOf (W := 0) (rm7 l Z a0' hw [] b25 (F1 (f0_m5 p0) (f0_m10 p0)) T26.heap n0 Z26 u26_4) hZ (hw _ (List.mem_of_getElem? (i := 39) rfl)) (hw _ (List.mem_of_getElem? (i := 2) rfl)) (by decide) (by decide)) q34a q34c (g := (mkF m 103 #[.val (.int p0), .val (.int (f0_m5 p0)), .val (.int (f0_m10 p0)), .val (.int (F1 (f0_m5 p0) (f0_m10 p0))), .val (.int (f0_m22 p0)), .val (.ref b25)] [(.ref b25)])) rfl (by rw [hml]; rfl) (Steps.refl _) (argsL := []) (rest := []) (lenOf pd3 rfl) rfl (by show 2 * 0 + _ ≤ _; exact Nat.le_of_eq rfl) (hb hby at_103) (fun _ _ => ⟨rfl, e31, (by decide : 1 + 0 ≤ _), (by decide : 4 + 0 ≤ _)⟩)
      dsimp only [Pt.U, Pt.locs, Pt.cells, Pt.slots] at X34 l34 y34 z34 st34 hQ34
      subst l34 y34 z34
      obtain ⟨rfl, N34q, e34⟩ := hQ34
      have N34 := Fr.app N31 N34q
      have pre35 : ∀ t, Steps p.tables e below (T34.setTop (mkF m 107 #[.val (.int p0), .val (.int (f0_m5 p0)), .val (.int (f0_m10 p0)), .val (.int (F1 (f0_m5 p0) (f0_m10 p0))), .val (.int (f0_m22 p0)), .val (.ref b25)] [(.int (f0_m10 p0)), (.int (F7 (F1 (f0_m5 p0) (f0_m10 p0))))])) t → Steps p.tables e below (s₁.setTop (entryFrame m #[(.int p0)] maxLocals)) t := fun t k => pre32 t (by
        show Steps p.tables e below (T31.setTop (mkF m 98 #[.val (.int p0), .val (.int (f0_m5 p0)), .val (.int (f0_m10 p0)), .val (.int (F1 (f0_m5 p0) (f0_m10 p0))), .val (.int (f0_m22 p0)), .val (.ref b25)] [(.int (f0_m5 p0)), (.int (F6 (F1 (f0_m5 p0) (f0_m10 p0))))])) _
        refine XS.icmpNo X31.here hx rfl (hb hby at_98) rfl (teq hc98_33).2 ?_
        show Steps p.tables e below (T31.setTop (mkF m 101 #[.val (.int p0), .val (.int (f0_m5 p0)), .val (.int (f0_m10 p0)), .val (.int (F1 (f0_m5 p0) (f0_m10 p0))), .val (.int (f0_m22 p0)), .val (.ref b25)] [])) _
        refine XS.aload X31.here hx rfl (hb hby at_101) rfl rfl ?_
        show Steps p.tables e below (T31.setTop (mkF m 103 #[.val (.int p0), .val (.int (f0_m5 p0)), .val (.int (f0_m10 p0)), .val (.int (F1 (f0_m5 p0) (f0_m10 p0))), .val (.int (f0_m22 p0)), .val (.ref b25)] [(.ref b25)])) _
        refine st34.trans ?_
        show Steps p.tables e below (T34.setTop (mkF m 106 #[.val (.int p0), .val (.int (f0_m5 p0)), .val (.int (f0_m10 p0)), .val (.int (F1 (f0_m5 p0) (f0_m10 p0))), .val (.int (f0_m22 p0)), .val (.ref b25)] [(.int (F7 (F1 (f0_m5 p0) (f0_m10 p0))))])) _
        refine XS.iloadN X34.here hx rfl (hb hby at_106) rfl ?_
        exact k)
      by_cases hc107_36 : (F7 (F1 (f0_m5 p0) (f0_m10 p0))) = (f0_m10 p0)
      · have pre37 : ∀ t, Steps p.tables e below (T34.setTop (mkF m 115 #[.val (.int p0), .val (.int (f0_m5 p0)), .val (.int (f0_m10 p0)), .val (.int (F1 (f0_m5 p0) (f0_m10 p0))), .val (.int (f0_m22 p0)), .val (.ref b25)] [(.int (1 : Int32))])) t → Steps p.tables e below (s₁.setTop (entryFrame m #[(.int p0)] maxLocals)) t := fun t k => pre35 t (by
          show Steps p.tables e below (T34.setTop (mkF m 107 #[.val (.int p0), .val (.int (f0_m5 p0)), .val (.int (f0_m10 p0)), .val (.int (F1 (f0_m5 p0) (f0_m10 p0))), .val (.int (f0_m22 p0)), .val (.ref b25)] [(.int (f0_m10 p0)), (.int (F7 (F1 (f0_m5 p0) (f0_m10 p0))))])) _
          refine XS.icmpNo X34.here hx rfl (hb hby at_107) rfl (teq hc107_36).2 ?_
          show Steps p.tables e below (T34.setTop (mkF m 110 #[.val (.int p0), .val (.int (f0_m5 p0)), .val (.int (f0_m10 p0)), .val (.int (F1 (f0_m5 p0) (f0_m10 p0))), .val (.int (f0_m22 p0)), .val (.ref b25)] [])) _
          refine XS.iconst X34.here hx rfl (hb hby at_110) ?_
          show Steps p.tables e below (T34.setTop (mkF m 111 #[.val (.int p0), .val (.int (f0_m5 p0)), .val (.int (f0_m10 p0)), .val (.int (F1 (f0_m5 p0) (f0_m10 p0))), .val (.int (f0_m22 p0)), .val (.ref b25)] [(.int (1 : Int32))])) _
          refine XS.goto X34.here hx rfl (pc0 := 111) (pc' := 115) rfl (hb hby at_111) (by decide) (by decide) ?_
          exact k)
        obtain ⟨fs, hr, hrun, hended, hW, hsame⟩ := X34.leave (v := some (.int (1 : Int32))) (fun h => by rw [Bd.returns] at h; cases h)
        have hF : (F0 p0) = (1 : Int32) := by unfold F0; rw [if_pos hc66_24, if_neg hc89_29, if_pos hc98_33, if_pos hc107_36]
        exact ⟨_, _, pre37 _ (retN X34 hx (t := .boolean) Bd.returns (by simp) (hb hby at_115) hr), hrun, hended, _, _, rfl, ⟨by rw [hF], N34⟩, ⟨_, rfl⟩, hW, hsame.mono (by decide) (by decide)⟩
      have pre38 : ∀ t, Steps p.tables e below (T34.setTop (mkF m 115 #[.val (.int p0), .val (.int (f0_m5 p0)), .val (.int (f0_m10 p0)), .val (.int (F1 (f0_m5 p0) (f0_m10 p0))), .val (.int (f0_m22 p0)), .val (.ref b25)] [(.int (0 : Int32))])) t → Steps p.tables e below (s₁.setTop (entryFrame m #[(.int p0)] maxLocals)) t := fun t k => pre35 t (by
        show Steps p.tables e below (T34.setTop (mkF m 107 #[.val (.int p0), .val (.int (f0_m5 p0)), .val (.int (f0_m10 p0)), .val (.int (F1 (f0_m5 p0) (f0_m10 p0))), .val (.int (f0_m22 p0)), .val (.ref b25)] [(.int (f0_m10 p0)), (.int (F7 (F1 (f0_m5 p0) (f0_m10 p0))))])) _
        refine XS.icmpYes X34.here hx rfl (pc0 := 107) (pc' := 114) rfl (hb hby at_107) rfl (feq hc107_36).2 (by decide) (by decide) ?_
        show Steps p.tables e below (T34.setTop (mkF m 114 #[.val (.int p0), .val (.int (f0_m5 p0)), .val (.int (f0_m10 p0)), .val (.int (F1 (f0_m5 p0) (f0_m10 p0))), .val (.int (f0_m22 p0)), .val (.ref b25)] [])) _
        refine XS.iconst X34.here hx rfl (hb hby at_114) ?_
        exact k)
      obtain ⟨fs, hr, hrun, hended, hW, hsame⟩ := X34.leave (v := some (.int (0 : Int32))) (fun h => by rw [Bd.returns] at h; cases h)
      have hF : (F0 p0) = (0 : Int32) := by unfold F0; rw [if_pos hc66_24, if_neg hc89_29, if_pos hc98_33, if_neg hc107_36]
      exact ⟨_, _, pre38 _ (retN X34 hx (t := .boolean) Bd.returns (by simp) (hb hby at_115) hr), hrun, hended, _, _, rfl, ⟨by rw [hF], N34⟩, ⟨_, rfl⟩, hW, hsame.mono (by decide) (by decide)⟩
    have pre39 : ∀ t, Steps p.tables e below (T31.setTop (mkF m 115 #[.val (.int p0), .val (.int (f0_m5 p0)), .val (.int (f0_m10 p0)), .val (.int (F1 (f0_m5 p0) (f0_m10 p0))), .val (.int (f0_m22 p0)), .val (.ref b25)] [(.int (0 : Int32))])) t → Steps p.tables e below (s₁.setTop (entryFrame m #[(.int p0)] maxLocals)) t := fun t k => pre32 t (by
      show Steps p.tables e below (T31.setTop (mkF m 98 #[.val (.int p0), .val (.int (f0_m5 p0)), .val (.int (f0_m10 p0)), .val (.int (F1 (f0_m5 p0) (f0_m10 p0))), .val (.int (f0_m22 p0)), .val (.ref b25)] [(.int (f0_m5 p0)), (.int (F6 (F1 (f0_m5 p0) (f0_m10 p0))))])) _
      refine XS.icmpYes X31.here hx rfl (pc0 := 98) (pc' := 114) rfl (hb hby at_98) rfl (feq hc98_33).2 (by decide) (by decide) ?_
      show Steps p.tables e below (T31.setTop (mkF m 114 #[.val (.int p0), .val (.int (f0_m5 p0)), .val (.int (f0_m10 p0)), .val (.int (F1 (f0_m5 p0) (f0_m10 p0))), .val (.int (f0_m22 p0)), .val (.ref b25)] [])) _
      refine XS.iconst X31.here hx rfl (hb hby at_114) ?_
      exact k)
    obtain ⟨fs, hr, hrun, hended, hW, hsame⟩ := X31.leave (v := some (.int (0 : Int32))) (fun h => by rw [Bd.returns] at h; cases h)
    have hF : (F0 p0) = (0 : Int32) := by unfold F0; rw [if_pos hc66_24, if_neg hc89_29, if_neg hc98_33]
    exact ⟨_, _, pre39 _ (retN X31 hx (t := .boolean) Bd.returns (by simp) (hb hby at_115) hr), hrun, hended, _, _, rfl, ⟨by rw [hF], N31⟩, ⟨_, rfl⟩, hW, hsame.mono (by decide) (by decide)⟩
  have pre40 : ∀ t, Steps p.tables e below (T13.setTop (mkF m 70 #[.val (.int p0), .val (.int (f0_m5 p0)), .val (.int (f0_m10 p0)), .val (.int (F1 (f0_m5 p0) (f0_m10 p0))), .val (.int (f0_m22 p0)), .unset] [(.int (0 : Int32))])) t → Steps p.tables e below (s₁.setTop (entryFrame m #[(.int p0)] maxLocals)) t := fun t k => pre23 t (by
    show Steps p.tables e below (T13.setTop (mkF m 66 #[.val (.int p0), .val (.int (f0_m5 p0)), .val (.int (f0_m10 p0)), .val (.int (F1 (f0_m5 p0) (f0_m10 p0))), .val (.int (f0_m22 p0)), .unset] [(.int (f0_m22 p0)), (.int (F1 (f0_m5 p0) (f0_m10 p0)))])) _
    refine XS.icmpNo X13.here hx rfl (hb hby at_66) rfl (feq hc66_24).1 ?_
    show Steps p.tables e below (T13.setTop (mkF m 69 #[.val (.int p0), .val (.int (f0_m5 p0)), .val (.int (f0_m10 p0)), .val (.int (F1 (f0_m5 p0) (f0_m10 p0))), .val (.int (f0_m22 p0)), .unset] [])) _
    refine XS.iconst X13.here hx rfl (hb hby at_69) ?_
    exact k)
  obtain ⟨fs, hr, hrun, hended, hW, hsame⟩ := X13.leave (v := some (.int (0 : Int32))) (fun h => by rw [Bd.returns] at h; cases h)
  have hF : (F0 p0) = (0 : Int32) := by unfold F0; rw [if_neg hc66_24]
  exact ⟨_, _, pre40 _ (retN X13 hx (t := .boolean) Bd.returns (by simp) (hb hby at_70) hr), hrun, hended, _, _, rfl, ⟨by rw [hF], N13⟩, ⟨_, rfl⟩, hW, hsame.mono (by decide) (by decide)⟩
theorem own_law (p0 : Int32) : F0 p0 = 1 := by
  have h1 : f0_m5 p0 = 0 ∨ f0_m5 p0 = 1 := by unfold f0_m5; split <;> simp
  have h2 : f0_m10 p0 = 0 ∨ f0_m10 p0 = 1 := by unfold f0_m10; split <;> simp
  unfold F0 f0_m22
  rcases h1 with h1 | h1 <;> rcases h2 with h2 | h2 <;> rw [h1, h2] <;> decide
set_option maxRecDepth 65536 in
set_option maxHeartbeats 40000000 in
theorem comes_1 {Post : Tables → Env → Array Value → State → Outcome → State → Prop} (hpost : ∀ tb e args s v u, (limb_1_1.after args s (.returned v) u = true ∧ limb_1_2.after args s (.returned v) u = true ∧ True) → FrameEnd s (.returned v) u (Jvm.fieldLocs frame_1_writes args s ++ Jvm.arrayLocs frame_1_arrays args s ++ Jvm.staticLocs frame_1_statics s) 16 128 → Post tb e args s (.returned v) u) :
    ArmFor flags0 classFile x code maxLocals ret World_1 tables_1 room_1 Calls_1 rest_1 Pre_1 Post := by
  intro l hfl _ _ p e ha hc hk s m args below hf hA hF happ hP
  obtain ⟨hcalls, hrest, hpre⟩ := hP
  obtain ⟨-, -, -, hnamed, -, -, -, hat⟩ := (Spec.applies_iff hf).mp happ
  obtain ⟨hg, hn⟩ := and_e (Cond.before_iff.mp (show (Jvm.Cond.and given_1 narrow_1).before args s = true from hpre))
  obtain ⟨hcount, g0⟩ := and_e hg
  obtain ⟨w0, rfl⟩ : ∃ w0 : Value, args = #[w0] := by
    have hs : args.size = 1 := by simpa [Cond.value, given_1] using hcount
    obtain ⟨L⟩ := args
    match L, hs with
    | [w0], _ => exact ⟨w0, rfl⟩
  have hw := fun d (hd : d ∈ tables_1) => atoms_spec (ws := Jvm.Cond.code x code maxLocals ret :: tables_1) hat d (List.mem_cons_of_mem _ hd)
  obtain ⟨i0, ei0⟩ := is_v g0
  obtain rfl : w0 = (.int i0) := Option.some.inj ei0
  obtain ⟨n, o, h1, h2, h3, _, L, rfl, ⟨rfl, N⟩, hq⟩ := rm0 l s _ hw tables_1 i0 s.heap s.heap.size (Nat.le_refl _) p e ha hc hk s m _ below hf ((Spec.applies_iff_loose hf).mp happ).1 ⟨rfl, State.Warmed39.refl s, rfl⟩ trivial
  have hlaw := own_law i0
  refine ⟨n, _, h1, h2, h3, hpost _ _ _ _ _ _ ⟨Cond.after_iff.mpr rfl, Cond.after_iff.mpr (eq_i res_at (Term.int_eval (1)) (congrArg Value.int hlaw)), trivial⟩ ⟨hq.1, hq.2.1, (hq.2.2.sift fun y hy => Or.inr (N y hy)).mono (by decide) (by decide)⟩⟩
theorem main_1_1 : Claimed_1_1 := comes_1 fun _ _ _ _ _ _ h hF => ⟨h.1, hF⟩
theorem main_1_2 : Claimed_1_2 := comes_1 fun _ _ _ _ _ _ h hF => ⟨h.2.1, hF⟩
end Jvm.Pilot.@@N@@
namespace Jvm.Pilot.@@N@@
open Jvm Jvm.ClassFile Sem Op Lib Jvm.Free Jvm.Stand Jvm.Pilot.@@N@@.Jvm.D
/-! MADE BY PROGRAM (witnessworld.py) out of the Statement's table words and the real class files: 11 classes; the members and pool entries that the words name. The judged class is class 1, her method 1. -/
namespace start1
open Jvm.ClassFile
def u (s : String) : CpInfo := .utf8 (stringToUtf16 s)
/-- a pool by its gaps: so many unusable entries, then the entry; so many at the end -/
def gap : Nat → List CpInfo → List CpInfo
  | 0, r => r
  | n + 1, r => .unusable :: gap n r
def poolList (es : List (Nat × CpInfo)) (last : Nat) : List CpInfo := es.foldr (fun e r => gap e.1 (e.2 :: r)) (gap last [])
def pool (es : List (Nat × CpInfo)) (last : Nat) : Array CpInfo := ⟨poolList es last⟩
def fileOf (pool : Array CpInfo) (this : Nat) (attrs : Array Attribute := #[]) (ms : Array MethodInfo := #[]) (fl : Nat := 33) (sup : Nat := 0) (ifs : Array Nat := #[]) (fds : Array FieldInfo := #[]) : ClassFile where
  minorVersion := 0
  majorVersion := 65
  constantPool := pool
  accessFlags := fl
  thisClass := this
  superClass := sup
  interfaces := ifs
  fields := fds
  methods := ms
  attributes := attrs
def plain (name : String) (sup : Option ClassId) : Class where
  name := name
  kind := .ordinary
  loader := none
  accessFlags := 33
  super := sup
  interfaces := #[]
  cf := none
  fields := #[]
  methods := #[]
  instanceTypes := #[]
  staticTypes := #[]
  resolved := #[]
  callSites := []
  init := .initialized
  statics := none
  mirror := none

def pool0 : Array CpInfo := pool [(5, u "<init>"), (0, u "()V"), (1, .class_ 10), (1, u "java/lang/Object")] 113

def k0c0 : Code := { maxStack := 0, maxLocals := 1, code := object_method_1_code, exceptionTable := #[], attributes := #[] }
def k0m0 : Method := { name := "<init>", desc := "()V", sig := { parameters := [], returnType := none }, accessFlags := 1, code := some k0c0 }
/-- java/lang/Object -/
def k0 : Class := { plain "java/lang/Object" none with
  accessFlags := 33
  interfaces := #[]
  cf := some (fileOf pool0 8 #[] #[{ accessFlags := 1, nameIndex := 5, descriptorIndex := 6, attributes := #[] }] 33 0 #[] #[])
  fields := #[]
  methods := #[k0m0]
  instanceTypes := #[]
  staticTypes := #[]
  resolved := Array.replicate 124 none
  statics := none }

def pool1 : Array CpInfo := pool [(2, .class_ 4), (1, u "java/lang/Object"), (0, u "<init>"), (0, u "()V"), (0, .methodref 8 9), (0, .class_ 10), (0, .nameAndType 11 12), (0, u "com/example/panchayat/panchayat/protocol/CreateRequest"), (0, u "mode"), (0, u "(ZZ)I"), (0, .methodref 8 14), (0, .nameAndType 5 15), (0, u "(Ljava/lang/String;[BLjava/util/List;I)V"), (0, .methodref 8 17), (0, .nameAndType 18 19), (0, u "hasKnownMode"), (0, u "()Z"), (0, .methodref 8 21), (0, .nameAndType 22 19), (0, u "isEphemeral"), (0, .methodref 8 24), (0, .nameAndType 25 19), (0, u "isSequential"), (0, .class_ 27), (0, u "com/example/panchayat/panchayat/protocol/CreateRequestModePinLaw"), (2, u "law"), (0, u "(I)Z")] 3

def k1m0 : Method := { name := "<init>", desc := "()V", sig := { parameters := [], returnType := none }, accessFlags := 1, code := none }
def k1c1 : Code := { maxStack := 6, maxLocals := 6, code := code, exceptionTable := #[], attributes := #[] }
def k1m1 : Method := { name := "law", desc := "(I)Z", sig := { parameters := [.int], returnType := some .boolean }, accessFlags := 9, code := some k1c1 }
/-- com/example/panchayat/panchayat/protocol/CreateRequestModePinLaw -/
def k1 : Class := { plain "com/example/panchayat/panchayat/protocol/CreateRequestModePinLaw" (some 0) with
  accessFlags := 49
  interfaces := #[]
  cf := some (fileOf pool1 26 #[] #[{ accessFlags := 1, nameIndex := 5, descriptorIndex := 6, attributes := #[] }, { accessFlags := 9, nameIndex := 30, descriptorIndex := 31, attributes := #[] }] 49 2 #[] #[])
  fields := #[]
  methods := #[k1m0, k1m1]
  instanceTypes := #[]
  staticTypes := #[]
  resolved := Array.replicate 35 none
  statics := none }

def pool2 : Array CpInfo := pool [(1, .methodref 2 3), (0, .class_ 4), (0, .nameAndType 5 6), (0, u "java/lang/Object"), (0, u "<init>"), (0, u "()V"), (0, .class_ 8), (0, u "java/lang/Record")] 13

def k2c0 : Code := { maxStack := 1, maxLocals := 1, code := jdk_30_method_1_code, exceptionTable := #[], attributes := #[] }
def k2m0 : Method := { name := "<init>", desc := "()V", sig := { parameters := [], returnType := none }, accessFlags := 4, code := some k2c0 }
/-- java/lang/Record -/
def k2 : Class := { plain "java/lang/Record" (some 0) with
  accessFlags := 1057
  interfaces := #[]
  cf := some (fileOf pool2 7 #[] #[{ accessFlags := 4, nameIndex := 5, descriptorIndex := 6, attributes := #[] }] 1057 2 #[] #[])
  fields := #[]
  methods := #[k2m0]
  instanceTypes := #[]
  staticTypes := #[]
  resolved := Array.replicate 22 none
  statics := none }

def pool3 : Array CpInfo := pool [(1, .class_ 2), (0, u "com/example/panchayat/panchayat/protocol/Operation"), (0, .class_ 4), (0, u "java/lang/Object")] 17

/-- com/example/panchayat/panchayat/protocol/Operation -/
def k3 : Class := { plain "com/example/panchayat/panchayat/protocol/Operation" (some 0) with
  accessFlags := 1537
  interfaces := #[]
  cf := some (fileOf pool3 1 #[] #[] 1537 3 #[] #[])
  fields := #[]
  methods := #[]
  instanceTypes := #[]
  staticTypes := #[]
  resolved := Array.replicate 22 none
  statics := none }

def pool4 : Array CpInfo := pool [(1, .methodref 2 3), (0, .class_ 4), (0, .nameAndType 5 6), (0, u "java/lang/Record"), (0, u "<init>"), (0, u "()V"), (0, .fieldref 8 9), (0, .class_ 10), (0, .nameAndType 11 12), (0, u "com/example/panchayat/panchayat/protocol/CreateRequest"), (0, u "path"), (0, u "Ljava/lang/String;"), (0, .fieldref 8 14), (0, .nameAndType 15 16), (0, u "data"), (0, u "[B"), (0, .fieldref 8 18), (0, .nameAndType 19 20), (0, u "acl"), (0, u "Ljava/util/List;"), (0, .fieldref 8 22), (0, .nameAndType 23 24), (0, u "flags"), (0, u "I"), (20, u "(Ljava/lang/String;[BLjava/util/List;I)V"), (32, .class_ 79), (0, u "com/example/panchayat/panchayat/protocol/Operation"), (2, u "EPHEMERAL"), (2, u "SEQUENTIAL"), (10, u "mode"), (0, u "(ZZ)I"), (4, u "hasKnownMode"), (0, u "()Z"), (0, u "isEphemeral"), (0, u "isSequential")] 25

def k4c0 : Code := { maxStack := 2, maxLocals := 5, code := prog_16_method_1_code, exceptionTable := #[], attributes := #[] }
def k4m0 : Method := { name := "<init>", desc := "(Ljava/lang/String;[BLjava/util/List;I)V", sig := { parameters := [(.object "java/lang/String"), (.array .byte), (.object "java/util/List"), .int], returnType := none }, accessFlags := 1, code := some k4c0 }
def k4c1 : Code := { maxStack := 2, maxLocals := 2, code := prog_16_method_3_code, exceptionTable := #[], attributes := #[] }
def k4m1 : Method := { name := "mode", desc := "(ZZ)I", sig := { parameters := [.boolean, .boolean], returnType := some .int }, accessFlags := 9, code := some k4c1 }
def k4c2 : Code := { maxStack := 2, maxLocals := 1, code := prog_16_method_6_code, exceptionTable := #[], attributes := #[] }
def k4m2 : Method := { name := "hasKnownMode", desc := "()Z", sig := { parameters := [], returnType := some .boolean }, accessFlags := 1, code := some k4c2 }
def k4c3 : Code := { maxStack := 2, maxLocals := 1, code := prog_16_method_7_code, exceptionTable := #[], attributes := #[] }
def k4m3 : Method := { name := "isEphemeral", desc := "()Z", sig := { parameters := [], returnType := some .boolean }, accessFlags := 1, code := some k4c3 }
def k4c4 : Code := { maxStack := 2, maxLocals := 1, code := prog_16_method_8_code, exceptionTable := #[], attributes := #[] }
def k4m4 : Method := { name := "isSequential", desc := "()Z", sig := { parameters := [], returnType := some .boolean }, accessFlags := 1, code := some k4c4 }
/-- com/example/panchayat/panchayat/protocol/CreateRequest -/
def k4 : Class := { plain "com/example/panchayat/panchayat/protocol/CreateRequest" (some 2) with
  accessFlags := 49
  interfaces := #[3]
  cf := some (fileOf pool4 8 #[] #[{ accessFlags := 1, nameIndex := 5, descriptorIndex := 45, attributes := #[] }, { accessFlags := 9, nameIndex := 96, descriptorIndex := 97, attributes := #[] }, { accessFlags := 1, nameIndex := 102, descriptorIndex := 103, attributes := #[] }, { accessFlags := 1, nameIndex := 104, descriptorIndex := 103, attributes := #[] }, { accessFlags := 1, nameIndex := 105, descriptorIndex := 103, attributes := #[] }] 49 2 #[78] #[{ accessFlags := 18, nameIndex := 11, descriptorIndex := 12, attributes := #[] }, { accessFlags := 18, nameIndex := 15, descriptorIndex := 16, attributes := #[] }, { accessFlags := 18, nameIndex := 19, descriptorIndex := 20, attributes := #[] }, { accessFlags := 18, nameIndex := 23, descriptorIndex := 24, attributes := #[] }, { accessFlags := 26, nameIndex := 82, descriptorIndex := 24, attributes := #[] }, { accessFlags := 26, nameIndex := 85, descriptorIndex := 24, attributes := #[] }])
  fields := #[{ name := "path", type := (.object "java/lang/String"), accessFlags := 18, slot := 0, constantValue := 0 }, { name := "data", type := (.array .byte), accessFlags := 18, slot := 1, constantValue := 0 }, { name := "acl", type := (.object "java/util/List"), accessFlags := 18, slot := 2, constantValue := 0 }, { name := "flags", type := .int, accessFlags := 18, slot := 3, constantValue := 0 }, { name := "EPHEMERAL", type := .int, accessFlags := 26, slot := 0, constantValue := 0 }, { name := "SEQUENTIAL", type := .int, accessFlags := 26, slot := 1, constantValue := 0 }]
  methods := #[k4m0, k4m1, k4m2, k4m3, k4m4]
  instanceTypes := #[(.object "java/lang/String"), (.array .byte), (.object "java/util/List"), .int]
  staticTypes := #[.int, .int]
  resolved := Array.replicate 131 none
  statics := none }

def pool5 : Array CpInfo := pool [(1, u "java/lang/Cloneable"), (0, .class_ 1), (0, u "java/lang/Object"), (0, .class_ 3)] 3

/-- java/lang/Cloneable -/
def k5 : Class := { plain "java/lang/Cloneable" (some 0) with
  accessFlags := 1537
  interfaces := #[]
  cf := some (fileOf pool5 2 #[] #[] 1537 4 #[] #[])
  fields := #[]
  methods := #[]
  instanceTypes := #[]
  staticTypes := #[]
  resolved := Array.replicate 8 none
  statics := none }

def pool6 : Array CpInfo := pool [(1, u "java/io/Serializable"), (0, .class_ 1), (0, u "java/lang/Object"), (0, .class_ 3)] 3

/-- java/io/Serializable -/
def k6 : Class := { plain "java/io/Serializable" (some 0) with
  accessFlags := 1537
  interfaces := #[]
  cf := some (fileOf pool6 2 #[] #[] 1537 4 #[] #[])
  fields := #[]
  methods := #[]
  instanceTypes := #[]
  staticTypes := #[]
  resolved := Array.replicate 8 none
  statics := none }

/-- the primitive byte -/
def k7 : Class := { plain "byte" none with kind := .primitive 'B', accessFlags := 0x411 }
/-- [B -/
def k8 : Class := { plain "[B" (some 0) with kind := .array 7 .byte, interfaces := #[5, 6], accessFlags := 1041 }

/-- the primitive int -/
def k9 : Class := { plain "int" none with kind := .primitive 'I', accessFlags := 0x411 }
/-- [I -/
def k10 : Class := { plain "[I" (some 0) with kind := .array 9 .int, interfaces := #[5, 6], accessFlags := 1041 }

def heap : Heap := #[]
def classes : Array Class := #[k0, k1, k2, k3, k4, k5, k6, k7, k8, k9, k10]
def interned : List (Array UInt16 × Addr) := []
def slotsUsed : Nat := 0
def theMethod : MethodId := ⟨1, 1⟩
def args0 : Array Value := #[.int 7]
def aboutOver (below : List Frame) : State where
  vm := { classes := classes, interned := interned.toArray }
  heap := heap
  slotsUsed := slotsUsed
  threads := #[{ frames := .invoking theMethod args0 :: below }]
def below0 : List Frame := [.native { method := ⟨0, 0⟩, args := #[] }]
def about1 : State := aboutOver below0
def p0 : Program := .bare "" "" ""
def e0 : Env := launch0.env 0 0 0
theorem w_frames : about1.frames = Frame.invoking theMethod args0 :: below0 := rfl
set_option maxRecDepth 65536 in
theorem w_args : argsFit about1.vm theMethod args0 = true := by decide +kernel
set_option maxRecDepth 65536 in
theorem w_heap : heapFits about1 = true := by decide +kernel
set_option maxRecDepth 65536 in
theorem w_runnable : about1.curStatus? = some .runnable := by decide +kernel
set_option maxRecDepth 65536 in
theorem w_alone : about1.alone = true := by decide +kernel
set_option maxRecDepth 65536 in
theorem w_named : about1.methodNamed? x = some theMethod := by decide +kernel
set_option maxRecDepth 65536 in
theorem w_hears : about1.hears theMethod below0 = true := by decide +kernel
set_option maxRecDepth 65536 in
theorem w_ripe : about1.ripe theMethod args0 below0 = true := by decide +kernel
theorem w_running : about1.status = .running := rfl
set_option maxRecDepth 65536 in
theorem w_room : about1.hasRoom e0.platform room_1 = true :=
  launch0.hasRoom_least _ room_1 (by decide +kernel) (by decide +kernel) (by decide +kernel) (by decide +kernel) (by decide +kernel) (by decide +kernel)
theorem allAtoms_all (ts : List Jvm.Cond) (a : Array Jvm.Value) (st : Jvm.State) : (allAtoms ts).before a st = ts.all (fun c => c.before a st) := by
  induction ts with
  | nil => rfl
  | cons c t ih =>
    show (Jvm.Cond.and c (allAtoms t)).before a st = _
    rw [Jvm.Cond.before_and, ih, List.all_cons]
def words1 : List Jvm.Cond := Jvm.Cond.code x code maxLocals ret :: tables_1
/-- a 'code' word, met by the world's own term for the bytes: nothing is compared byte by byte -/
theorem code_word {y : MethodName} {bytes : ByteArray} {mx : Nat} {rt : Option FieldType} {a : Array Value} {s : State} {m : MethodId} {meth : Method} {c : Code} (h1 : s.methodNamed? y = some m) (h2 : s.vm.method? m = some meth) (h3 : meth.code = some c) (h4 : c.code = bytes)
    (h5 : (c.maxLocals == mx && c.exceptionTable.isEmpty && decide (c.maxStack ≤ mostOperands) && decide (meth.sig.returnType = rt) && !meth.locks && decide (parseMethodDescriptor y.desc = some meth.sig)) = true) : (Jvm.Cond.code y bytes mx rt).before a s = true := by
  simp only [Bool.and_eq_true, beq_iff_eq, Bool.not_eq_true', decide_eq_true_eq] at h5
  obtain ⟨⟨⟨⟨⟨g1, g2⟩, g3⟩, g4⟩, g5⟩, g6⟩ := h5
  simp [Cond.before, Cond.holds, Cond.value, h1, h2, h3, h4, g1, g2, g3, g4, g5, g6]
def isCode : Jvm.Cond → Bool
  | .code _ _ _ _ => true
  | _ => false
theorem all_split {L : List Jvm.Cond} {P : Jvm.Cond → Bool} (h1 : L.all (fun c => isCode c || P c) = true) (h2 : ∀ c ∈ L.filter isCode, P c = true) : L.all P = true := by
  refine List.all_eq_true.mpr fun c hc => ?_
  have h := List.all_eq_true.mp h1 c hc
  rcases Bool.eq_false_or_eq_true (isCode c) with hi | hi
  · exact h2 c (List.mem_filter.mpr ⟨hc, hi⟩)
  · simpa [hi] using h
set_option maxRecDepth 65536 in
theorem w_c0 : (Jvm.Cond.code x code maxLocals ret).before args0 about1 = true := code_word (m := ⟨1, 1⟩) (meth := k1m1) (c := k1c1) (by decide +kernel) rfl rfl rfl (by decide +kernel)
set_option maxRecDepth 65536 in
theorem w_c1 : (Jvm.Cond.code ({ cls := "com/example/panchayat/panchayat/protocol/CreateRequest", name := "mode", desc := "(ZZ)I" } : Jvm.MethodName) prog_16_method_3_code (2 : Nat) (Option.some Jvm.ClassFile.FieldType.int)).before args0 about1 = true := code_word (m := ⟨4, 1⟩) (meth := k4m1) (c := k4c1) (by decide +kernel) rfl rfl rfl (by decide +kernel)
set_option maxRecDepth 65536 in
theorem w_c2 : (Jvm.Cond.code ({ cls := "com/example/panchayat/panchayat/protocol/CreateRequest", name := "<init>", desc := "(Ljava/lang/String;[BLjava/util/List;I)V" } : Jvm.MethodName) prog_16_method_1_code (5 : Nat) (Option.none : Option Jvm.ClassFile.FieldType)).before args0 about1 = true := code_word (m := ⟨4, 0⟩) (meth := k4m0) (c := k4c0) (by decide +kernel) rfl rfl rfl (by decide +kernel)
set_option maxRecDepth 65536 in
theorem w_c3 : (Jvm.Cond.code ({ cls := "java/lang/Record", name := "<init>", desc := "()V" } : Jvm.MethodName) jdk_30_method_1_code (1 : Nat) (Option.none : Option Jvm.ClassFile.FieldType)).before args0 about1 = true := code_word (m := ⟨2, 0⟩) (meth := k2m0) (c := k2c0) (by decide +kernel) rfl rfl rfl (by decide +kernel)
set_option maxRecDepth 65536 in
theorem w_c4 : (Jvm.Cond.code ({ cls := "java/lang/Object", name := "<init>", desc := "()V" } : Jvm.MethodName) object_method_1_code (1 : Nat) (Option.none : Option Jvm.ClassFile.FieldType)).before args0 about1 = true := code_word (m := ⟨0, 0⟩) (meth := k0m0) (c := k0c0) (by decide +kernel) rfl rfl rfl (by decide +kernel)
set_option maxRecDepth 65536 in
theorem w_c5 : (Jvm.Cond.code ({ cls := "com/example/panchayat/panchayat/protocol/CreateRequest", name := "hasKnownMode", desc := "()Z" } : Jvm.MethodName) prog_16_method_6_code (1 : Nat) (Option.some Jvm.ClassFile.FieldType.boolean)).before args0 about1 = true := code_word (m := ⟨4, 2⟩) (meth := k4m2) (c := k4c2) (by decide +kernel) rfl rfl rfl (by decide +kernel)
set_option maxRecDepth 65536 in
theorem w_c6 : (Jvm.Cond.code ({ cls := "com/example/panchayat/panchayat/protocol/CreateRequest", name := "isEphemeral", desc := "()Z" } : Jvm.MethodName) prog_16_method_7_code (1 : Nat) (Option.some Jvm.ClassFile.FieldType.boolean)).before args0 about1 = true := code_word (m := ⟨4, 3⟩) (meth := k4m3) (c := k4c3) (by decide +kernel) rfl rfl rfl (by decide +kernel)
set_option maxRecDepth 65536 in
theorem w_c7 : (Jvm.Cond.code ({ cls := "com/example/panchayat/panchayat/protocol/CreateRequest", name := "isSequential", desc := "()Z" } : Jvm.MethodName) prog_16_method_8_code (1 : Nat) (Option.some Jvm.ClassFile.FieldType.boolean)).before args0 about1 = true := code_word (m := ⟨4, 4⟩) (meth := k4m4) (c := k4c4) (by decide +kernel) rfl rfl rfl (by decide +kernel)
def codes1 : List Jvm.Cond := [Jvm.Cond.code x code maxLocals ret, Jvm.Cond.code ({ cls := "com/example/panchayat/panchayat/protocol/CreateRequest", name := "mode", desc := "(ZZ)I" } : Jvm.MethodName) prog_16_method_3_code (2 : Nat) (Option.some Jvm.ClassFile.FieldType.int), Jvm.Cond.code ({ cls := "com/example/panchayat/panchayat/protocol/CreateRequest", name := "<init>", desc := "(Ljava/lang/String;[BLjava/util/List;I)V" } : Jvm.MethodName) prog_16_method_1_code (5 : Nat) (Option.none : Option Jvm.ClassFile.FieldType), Jvm.Cond.code ({ cls := "java/lang/Record", name := "<init>", desc := "()V" } : Jvm.MethodName) jdk_30_method_1_code (1 : Nat) (Option.none : Option Jvm.ClassFile.FieldType), Jvm.Cond.code ({ cls := "java/lang/Object", name := "<init>", desc := "()V" } : Jvm.MethodName) object_method_1_code (1 : Nat) (Option.none : Option Jvm.ClassFile.FieldType), Jvm.Cond.code ({ cls := "com/example/panchayat/panchayat/protocol/CreateRequest", name := "hasKnownMode", desc := "()Z" } : Jvm.MethodName) prog_16_method_6_code (1 : Nat) (Option.some Jvm.ClassFile.FieldType.boolean), Jvm.Cond.code ({ cls := "com/example/panchayat/panchayat/protocol/CreateRequest", name := "isEphemeral", desc := "()Z" } : Jvm.MethodName) prog_16_method_7_code (1 : Nat) (Option.some Jvm.ClassFile.FieldType.boolean), Jvm.Cond.code ({ cls := "com/example/panchayat/panchayat/protocol/CreateRequest", name := "isSequential", desc := "()Z" } : Jvm.MethodName) prog_16_method_8_code (1 : Nat) (Option.some Jvm.ClassFile.FieldType.boolean)]
set_option maxRecDepth 65536 in
theorem codes_eq : words1.filter isCode = codes1 := rfl
theorem w_codes : ∀ c ∈ words1.filter isCode, c.before args0 about1 = true := by
  rw [codes_eq]
  intro c hc
  simp only [codes1, List.mem_cons, List.not_mem_nil, or_false] at hc
  rcases hc with rfl | rfl | rfl | rfl | rfl | rfl | rfl | rfl
  · exact w_c0
  · exact w_c1
  · exact w_c2
  · exact w_c3
  · exact w_c4
  · exact w_c5
  · exact w_c6
  · exact w_c7
set_option maxRecDepth 65536 in
theorem w_t1 : (words1.take 24).all (fun c => isCode c || c.before args0 about1) = true := by decide +kernel
set_option maxRecDepth 65536 in
theorem w_t2 : (words1.drop 24).all (fun c => isCode c || c.before args0 about1) = true := by decide +kernel
theorem w_tables : (allAtoms (Jvm.Cond.code x code maxLocals ret :: tables_1)).before args0 about1 = true := by
  rw [allAtoms_all]
  show words1.all (fun c => c.before args0 about1) = true
  refine all_split ?_ w_codes
  rw [← List.take_append_drop 24 words1, List.all_append, w_t1, w_t2]
  rfl
set_option maxRecDepth 65536 in
theorem w_case : (Jvm.Cond.and given_1 narrow_1).before args0 about1 = true := by decide +kernel
theorem w_applies : (headSpec (Jvm.Cond.code x code maxLocals ret :: tables_1) room_1).applies x e0.platform about1 = true :=
  (Spec.applies_iff w_frames).mpr ⟨w_running, w_runnable, w_alone, w_named, w_hears, w_ripe, w_room, w_tables⟩
theorem atStart : AtStart classFile x code maxLocals ret World_1 tables_1 room_1 Calls_1 rest_1 Pre_1 launch0 p0 e0 about1 theMethod args0 below0 :=
  ⟨lists_1, trivial, launch0.admits_env _ _ _, launch0.least_env, fairChoices_fair.cas, fairChoices_fair.clock, w_frames, w_args, w_heap, w_applies, trivial, trivial, w_case⟩
end start1
theorem witness_1 : WitnessClaimed_1 := ⟨start1.p0, start1.e0, start1.about1, start1.theMethod, start1.args0, start1.below0, start1.atStart⟩
end Jvm.Pilot.@@N@@
