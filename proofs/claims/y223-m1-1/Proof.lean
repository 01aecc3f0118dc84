import JvmDerived
import JvmDerived.Pilot.@@N@@Statement
import JvmDerived.Pilot.@@N@@Code
set_option linter.unusedVariables false
set_option linter.unusedSimpArgs false
namespace Jvm.RoadKit
open Sem ClassFile Op Lib Jvm.Stand Jvm.Free Jvm.LawKit
section New
variable {p : Program} {l : Launch} {e : Env} {R : Room} {s : State} {m : MethodId} {args : Array Value} {below : List Frame} {meth : Method} {c : Code} {T : State} {locs : List Loc} {cells slots : Nat}
theorem retI (X : Stand p l e R s m args below meth c T locs cells slots) (hx : p.tables.exec = Jvm.exec) {pc : Nat} {Ls : Array Slot} {z : Int32} {rest : List Value} (hret : meth.sig.returnType = some .int) (hd : decode c.code pc = .ok (.ireturn, 1)) {fs : List Frame}
    (hl : ∀ (f : JFrame) (acts : List Action), f.method = m → f.locked = none → f.entered = [] → (doReturn e (T.setTop f) acts (some (.int z))).1 = T.setFrames fs) : Steps p.tables e below (T.setTop (mkF m pc Ls (.int z :: rest))) (T.setFrames fs) := by
  have hm' : T.vm.method? m = some meth := X.method'
  have hn : narrow .int (.int z) = .int z := rfl
  show Steps p.tables e below (T.setTop { method := m, pc := pc, locals := Ls, stack := _ :: rest, locked := none }) _
  jvm_step X.here [X.here.top, hx, hd, hm', hret, hn]
  first | (intro acts; rw [hl _ acts rfl rfl rfl]) | rw [hl _ _ rfl rfl rfl]
  exact Steps.refl _
end New
end Jvm.RoadKit
namespace Jvm.Pilot.@@N@@
open Jvm Jvm.ClassFile Sem Op Lib Jvm.Free Jvm.Stand Jvm.LawKit Jvm.RoadKit Bundle Jvm.Pilot.@@N@@.Jvm.D
theorem d1_0 : decode prog_27_method_5_code 0 = .ok (.aload_n 0, 1) := by decide +kernel
theorem d1_1 : decode prog_27_method_5_code 1 = .ok (.arraylength, 1) := by decide +kernel
theorem d1_2 : decode prog_27_method_5_code 2 = .ok (.iconst 2, 1) := by decide +kernel
theorem d1_3 : decode prog_27_method_5_code 3 = .ok (.idiv, 1) := by decide +kernel
theorem d1_4 : decode prog_27_method_5_code 4 = .ok (.newarray .int, 2) := by decide +kernel
theorem d1_6 : decode prog_27_method_5_code 6 = .ok (.astore_n 1, 1) := by decide +kernel
theorem d1_7 : decode prog_27_method_5_code 7 = .ok (.iconst 0, 1) := by decide +kernel
theorem d1_8 : decode prog_27_method_5_code 8 = .ok (.istore_n 2, 1) := by decide +kernel
theorem d1_9 : decode prog_27_method_5_code 9 = .ok (.iload_n 2, 1) := by decide +kernel
theorem d1_10 : decode prog_27_method_5_code 10 = .ok (.aload_n 1, 1) := by decide +kernel
theorem d1_11 : decode prog_27_method_5_code 11 = .ok (.arraylength, 1) := by decide +kernel
theorem d1_12 : decode prog_27_method_5_code 12 = .ok (.if_icmp .ge 36, 3) := by decide +kernel
theorem d1_48 : decode prog_27_method_5_code 48 = .ok (.aload_n 1, 1) := by decide +kernel
theorem d1_49 : decode prog_27_method_5_code 49 = .ok (.areturn, 1) := by decide +kernel
theorem d1_15 : decode prog_27_method_5_code 15 = .ok (.aload_n 1, 1) := by decide +kernel
theorem d1_16 : decode prog_27_method_5_code 16 = .ok (.iload_n 2, 1) := by decide +kernel
theorem d1_17 : decode prog_27_method_5_code 17 = .ok (.aload_n 0, 1) := by decide +kernel
theorem d1_18 : decode prog_27_method_5_code 18 = .ok (.iconst 2, 1) := by decide +kernel
theorem d1_19 : decode prog_27_method_5_code 19 = .ok (.iload_n 2, 1) := by decide +kernel
theorem d1_20 : decode prog_27_method_5_code 20 = .ok (.imul, 1) := by decide +kernel
theorem d1_21 : decode prog_27_method_5_code 21 = .ok (.baload, 1) := by decide +kernel
theorem d1_22 : decode prog_27_method_5_code 22 = .ok (.sipush 255, 3) := by decide +kernel
theorem d1_25 : decode prog_27_method_5_code 25 = .ok (.iand, 1) := by decide +kernel
theorem d1_26 : decode prog_27_method_5_code 26 = .ok (.bipush 8, 2) := by decide +kernel
theorem d1_28 : decode prog_27_method_5_code 28 = .ok (.ishl, 1) := by decide +kernel
theorem d1_29 : decode prog_27_method_5_code 29 = .ok (.aload_n 0, 1) := by decide +kernel
theorem d1_30 : decode prog_27_method_5_code 30 = .ok (.iconst 2, 1) := by decide +kernel
theorem d1_31 : decode prog_27_method_5_code 31 = .ok (.iload_n 2, 1) := by decide +kernel
theorem d1_32 : decode prog_27_method_5_code 32 = .ok (.imul, 1) := by decide +kernel
theorem d1_33 : decode prog_27_method_5_code 33 = .ok (.iconst 1, 1) := by decide +kernel
theorem d1_34 : decode prog_27_method_5_code 34 = .ok (.iadd, 1) := by decide +kernel
theorem d1_35 : decode prog_27_method_5_code 35 = .ok (.baload, 1) := by decide +kernel
theorem d1_36 : decode prog_27_method_5_code 36 = .ok (.sipush 255, 3) := by decide +kernel
theorem d1_39 : decode prog_27_method_5_code 39 = .ok (.iand, 1) := by decide +kernel
theorem d1_40 : decode prog_27_method_5_code 40 = .ok (.ior, 1) := by decide +kernel
theorem d1_41 : decode prog_27_method_5_code 41 = .ok (.iastore, 1) := by decide +kernel
theorem d1_42 : decode prog_27_method_5_code 42 = .ok (.iinc 2 1, 3) := by decide +kernel
theorem d1_45 : decode prog_27_method_5_code 45 = .ok (.goto (-36), 3) := by decide +kernel
theorem pd0 : parseMethodDescriptor "([B)[I" = some ⟨[(.array .byte)], some (.array .int)⟩ := by decide +kernel
theorem pn0 : plainName "com/example/cardwarden/cardwarden/core/fs/FilePath" = true := by first | (simp [plainName, overriddenIn]; done) | decide +kernel
theorem pn1 : plainName "com/example/cardwarden/cardwarden/core/fs/FilePathFileIdsPinLaw" = true := by first | (simp [plainName, overriddenIn]; done) | decide +kernel
theorem ef1_0 (m : MethodId) (x0 : Addr) : entryFrame m #[(.ref x0)] 3 = mkF m 0 #[.val (.ref x0), .unset, .unset] [] := by first | (simp [entryFrame, mkF, argsToLocals, Value.category]; done) | rfl
def Q1_0 (Z : State) (a0 : Addr) (k_a0 : ClassId) (h0 : Heap) (n0 : Nat) (v : Option Value) (h : Heap) (L : List Loc) : Prop := ∃ b : Addr, v = some (.ref b) ∧ Fr n0 L ∧ h0.size ≤ b ∧ n0 ≤ b ∧ Keep h0 h [] ∧ ∃ kk : ClassId, Arv Z h b kk .int (0 : Int32) [] (.int 0)
set_option maxRecDepth 65536 in
set_option maxHeartbeats 40000000 in
theorem rm1_0 (l : Launch) (Z : State) (a0' : Array Value) (hw : ∀ d ∈ tables_1, d.before a0' Z = true) (ws : List Jvm.Cond) (a0 : Addr) (k_a0 : ClassId) (h0 : Heap) (n0 : Nat) (Z0 : n0 ≤ h0.size) (V_a0 : Arv Z h0 a0 k_a0 .byte (0 : Int32) [] (.int 0)) :
    MetFree l (⟨"com/example/cardwarden/cardwarden/core/fs/FilePath", "fileIds", "([B)[I"⟩ : MethodName) (head1 (Jvm.Cond.code (⟨"com/example/cardwarden/cardwarden/core/fs/FilePath", "fileIds", "([B)[I"⟩ : MethodName) prog_27_method_5_code 3 (some (.array .int)) :: ws) ({ frames := 0, cells := 1, slots := 0, locals := 0 } : Room)) (fun a U => a = #[(.ref a0)] ∧ Z.Warmed39 U.vm ∧ U.heap = h0) (fun _ _ _ _ _ => True) (fun _ U o U' => ∃ v L, o = .returned v ∧ Q1_0 Z a0 k_a0 h0 n0 v U'.heap L ∧ FrameEnd U o U' L ({ frames := 0, cells := 1, slots := 0, locals := 0 } : Room).cells ({ frames := 0, cells := 1, slots := 0, locals := 0 } : Room).slots) := by
  refine MetFree.of_bodySF (plainFor_of_name pn0) hisR ?_
  intro p e s m args below meth c s₁ Bd hml0 hP hK
  obtain ⟨rfl, hZ, hh⟩ := hP
  have hx := Bd.exec
  have hby := Bd.bytes
  have hml : c.maxLocals = 3 := hml0
  have hown : s.vm.findClass "com/example/cardwarden/cardwarden/core/fs/FilePath" = some m.cls := findClass_of_methodNamed Bd.named
  have hnm := (name_of_methodNamed Bd.named Bd.method).1
  have X0 : Stand p l e ({ frames := 0, cells := 1, slots := 0, locals := 0 } : Room) s m #[(.ref a0)] below meth c s₁ [] 0 0 := Stand.of_body Bd
  have e0 : s₁.heap = h0 := by rw [← hh, Bd.state]; rfl
  have N0 := Fr.nil n0
  have hlk : meth.locks = false := by first | exact BodyLoose.notSynchronized Bd | exact Body.notSynchronized Bd
  have pre0 : ∀ t, Steps p.tables e below (s₁.setTop (mkF m 0 #[.val (.ref a0), .unset, .unset] [])) t → Steps p.tables e below (s₁.setTop (entryFrame m #[(.ref a0)] 3)) t := fun t k => castTop (ef1_0 m a0) k
  obtain ⟨cl1, Ar1, q1, S1, M1, H1, G1⟩ := id V_a0
  obtain ⟨T2, h2, k2, X2, e2, E2, A2, st2⟩ := newP X0 hx hZ (hw _ (List.mem_of_getElem? (i := 5) rfl)) e0 (g := (mkF m 4 #[.val (.ref a0), .unset, .unset] [(.int (0 : Int32))])) rfl (hb hby d1_4) rfl (by decide) (cap := 0) (by decide) (by decide) (by decide) (by decide)
  obtain ⟨b2, g2⟩ : ∃ z, z = h0.size := ⟨_, rfl⟩
  rw [← g2] at A2 st2
  have ne_a0_b2 : a0 ≠ b2 := Nat.ne_of_lt (Nat.lt_of_lt_of_le V_a0.lt (Nat.le_of_eq g2.symm))
  have g_b2 : n0 ≤ b2 := Nat.le_trans Z0 (Nat.le_of_eq g2.symm)
  have sz_b2 : h0.size ≤ b2 := Nat.le_trans (Keep.refl h0 []).1 (Nat.le_of_eq g2.symm)
  have Z2 : n0 ≤ h2.size := Nat.le_trans Z0 E2.1
  have KC2 : Keep h0 h2 [] := (Keep.refl h0 []).ext E2
  have V2 : Arv Z h2 b2 k2 .int (0 : Int32) [] (.int (0 : Int32)) := (Arv.new A2 (by decide)).pad (pad_rep [] (.int (0 : Int32)) 0)
  obtain ⟨cl3, Ar3, q3, S3, M3, H3, G3⟩ := id V2
  have pre4 : ∀ t, Steps p.tables e below (T2.setTop (mkF m 49 #[.val (.ref a0), .val (.ref b2), .val (.int (0 : Int32))] [(.ref b2)])) t → Steps p.tables e below (s₁.setTop (entryFrame m #[(.ref a0)] 3)) t := fun t k => pre0 t (by
    show Steps p.tables e below (s₁.setTop (mkF m 0 #[.val (.ref a0), .unset, .unset] [])) _
    refine XS.aloadN X0.here hx rfl (hb hby d1_0) rfl rfl ?_
    show Steps p.tables e below (s₁.setTop (mkF m 1 #[.val (.ref a0), .unset, .unset] [(.ref a0)])) _
    refine X0.arraylength hx (by rw [e0]; exact Ar1.1) (State.isArrayOf_alike hZ.alike Ar1.2.1) (g := (mkF m 1 #[.val (.ref a0), .unset, .unset] [(.ref a0)])) rfl rfl (hb hby d1_1) _ ?_
    rw [len_of S1 M1]
    show Steps p.tables e below (s₁.setTop (mkF m 2 #[.val (.ref a0), .unset, .unset] [(.int (0 : Int32))])) _
    refine XS.iconst X0.here hx rfl (hb hby d1_2) ?_
    show Steps p.tables e below (s₁.setTop (mkF m 3 #[.val (.ref a0), .unset, .unset] [(.int (2 : Int32)), (.int (0 : Int32))])) _
    refine XS.idiv X0.here hx rfl (hb hby d1_3) rfl (by decide) ?_
    show Steps p.tables e below (s₁.setTop (mkF m 4 #[.val (.ref a0), .unset, .unset] [(.int (0 : Int32))])) _
    refine st2 _ ?_
    show Steps p.tables e below (T2.setTop (mkF m 6 #[.val (.ref a0), .unset, .unset] [(.ref b2)])) _
    refine XS.astoreN X2.here hx rfl (hb hby d1_6) rfl rfl (l' := #[.val (.ref a0), .val (.ref b2), .unset]) rfl ?_
    show Steps p.tables e below (T2.setTop (mkF m 7 #[.val (.ref a0), .val (.ref b2), .unset] [])) _
    refine XS.iconst X2.here hx rfl (hb hby d1_7) ?_
    show Steps p.tables e below (T2.setTop (mkF m 8 #[.val (.ref a0), .val (.ref b2), .unset] [(.int (0 : Int32))])) _
    refine XS.istoreN X2.here hx rfl (hb hby d1_8) rfl (l' := #[.val (.ref a0), .val (.ref b2), .val (.int (0 : Int32))]) rfl ?_
    show Steps p.tables e below (T2.setTop (mkF m 9 #[.val (.ref a0), .val (.ref b2), .val (.int (0 : Int32))] [])) _
    refine XS.iloadN X2.here hx rfl (hb hby d1_9) rfl ?_
    show Steps p.tables e below (T2.setTop (mkF m 10 #[.val (.ref a0), .val (.ref b2), .val (.int (0 : Int32))] [(.int (0 : Int32))])) _
    refine XS.aloadN X2.here hx rfl (hb hby d1_10) rfl rfl ?_
    show Steps p.tables e below (T2.setTop (mkF m 11 #[.val (.ref a0), .val (.ref b2), .val (.int (0 : Int32))] [(.ref b2), (.int (0 : Int32))])) _
    refine X2.arraylength hx (by rw [e2]; exact Ar3.1) (State.isArrayOf_alike hZ.alike Ar3.2.1) (g := (mkF m 11 #[.val (.ref a0), .val (.ref b2), .val (.int (0 : Int32))] [(.ref b2), (.int (0 : Int32))])) rfl rfl (hb hby d1_11) _ ?_
    rw [len_of S3 M3]
    show Steps p.tables e below (T2.setTop (mkF m 12 #[.val (.ref a0), .val (.ref b2), .val (.int (0 : Int32))] [(.int (0 : Int32)), (.int (0 : Int32))])) _
    refine XS.icmpYes X2.here hx rfl (pc0 := 12) (pc' := 48) rfl (hb hby d1_12) rfl (flt (by decide : ¬ ((0 : Int32) < (0 : Int32)))).2.1 (by decide) (by decide) ?_
    show Steps p.tables e below (T2.setTop (mkF m 48 #[.val (.ref a0), .val (.ref b2), .val (.int (0 : Int32))] [])) _
    refine XS.aloadN X2.here hx rfl (hb hby d1_48) rfl rfl ?_
    exact k)
  obtain ⟨fs, hr, hrun, hended, hW, hsame⟩ := X2.leave (v := some (.ref b2)) (fun h => by rw [Bd.returns] at h; cases h) hlk
  exact ⟨_, _, pre4 _ (by jvm_step X2.here [X2.here.top, hx, (hb hby d1_49), X2.method', Bd.returns, Value.isRef, FieldType.isReference]; (first | (intro acts; rw [hr _ acts rfl rfl rfl]) | rw [hr _ _ rfl rfl rfl]); exact Steps.refl _), hrun, hended, _, _, rfl, (by show Q1_0 Z a0 k_a0 h0 n0 _ T2.heap _; rw [e2]; exact ⟨b2, rfl, N0, sz_b2, g_b2, KC2, ⟨_, V2⟩⟩), ⟨_, rfl⟩, hW, hsame.mono (by decide) (by decide)⟩
theorem ef1_1 (m : MethodId) (x0 : Addr) : entryFrame m #[(.ref x0)] 3 = mkF m 0 #[.val (.ref x0), .unset, .unset] [] := by first | (simp [entryFrame, mkF, argsToLocals, Value.category]; done) | rfl
def Q1_1 (Z : State) (a0 : Addr) (x0_a0 : Int32) (x1_a0 : Int32) (k_a0 : ClassId) (h0 : Heap) (n0 : Nat) (v : Option Value) (h : Heap) (L : List Loc) : Prop := ∃ b : Addr, v = some (.ref b) ∧ Fr n0 L ∧ h0.size ≤ b ∧ n0 ≤ b ∧ Keep h0 h [] ∧ ∃ kk : ClassId, Arv Z h b kk .int (1 : Int32) [(.int (((x0_a0 &&& (255 : Int32)) <<< ((8 : Int32) &&& 31)) ||| (x1_a0 &&& (255 : Int32))))] (.int 0)
set_option maxRecDepth 65536 in
set_option maxHeartbeats 40000000 in
theorem rm1_1 (l : Launch) (Z : State) (a0' : Array Value) (hw : ∀ d ∈ tables_1, d.before a0' Z = true) (ws : List Jvm.Cond) (a0 : Addr) (x0_a0 : Int32) (x1_a0 : Int32) (k_a0 : ClassId) (h0 : Heap) (n0 : Nat) (Z0 : n0 ≤ h0.size) (V_a0 : Arv Z h0 a0 k_a0 .byte (2 : Int32) [(.int x0_a0), (.int x1_a0)] (.int 0)) :
    MetFree l (⟨"com/example/cardwarden/cardwarden/core/fs/FilePath", "fileIds", "([B)[I"⟩ : MethodName) (head1 (Jvm.Cond.code (⟨"com/example/cardwarden/cardwarden/core/fs/FilePath", "fileIds", "([B)[I"⟩ : MethodName) prog_27_method_5_code 3 (some (.array .int)) :: ws) ({ frames := 0, cells := 1, slots := 1, locals := 0 } : Room)) (fun a U => a = #[(.ref a0)] ∧ Z.Warmed39 U.vm ∧ U.heap = h0) (fun _ _ _ _ _ => True) (fun _ U o U' => ∃ v L, o = .returned v ∧ Q1_1 Z a0 x0_a0 x1_a0 k_a0 h0 n0 v U'.heap L ∧ FrameEnd U o U' L ({ frames := 0, cells := 1, slots := 1, locals := 0 } : Room).cells ({ frames := 0, cells := 1, slots := 1, locals := 0 } : Room).slots) := by
  refine MetFree.of_bodySF (plainFor_of_name pn0) hisR ?_
  intro p e s m args below meth c s₁ Bd hml0 hP hK
  obtain ⟨rfl, hZ, hh⟩ := hP
  have hx := Bd.exec
  have hby := Bd.bytes
  have hml : c.maxLocals = 3 := hml0
  have hown : s.vm.findClass "com/example/cardwarden/cardwarden/core/fs/FilePath" = some m.cls := findClass_of_methodNamed Bd.named
  have hnm := (name_of_methodNamed Bd.named Bd.method).1
  have X0 : Stand p l e ({ frames := 0, cells := 1, slots := 1, locals := 0 } : Room) s m #[(.ref a0)] below meth c s₁ [] 0 0 := Stand.of_body Bd
  have e0 : s₁.heap = h0 := by rw [← hh, Bd.state]; rfl
  have N0 := Fr.nil n0
  have hlk : meth.locks = false := by first | exact BodyLoose.notSynchronized Bd | exact Body.notSynchronized Bd
  have pre0 : ∀ t, Steps p.tables e below (s₁.setTop (mkF m 0 #[.val (.ref a0), .unset, .unset] [])) t → Steps p.tables e below (s₁.setTop (entryFrame m #[(.ref a0)] 3)) t := fun t k => castTop (ef1_1 m a0) k
  obtain ⟨cl1, Ar1, q1, S1, M1, H1, G1⟩ := id V_a0
  obtain ⟨T2, h2, k2, X2, e2, E2, A2, st2⟩ := newP X0 hx hZ (hw _ (List.mem_of_getElem? (i := 5) rfl)) e0 (g := (mkF m 4 #[.val (.ref a0), .unset, .unset] [(.int (1 : Int32))])) rfl (hb hby d1_4) rfl (by decide) (cap := 1) (by decide) (by decide) (by decide) (by decide)
  obtain ⟨b2, g2⟩ : ∃ z, z = h0.size := ⟨_, rfl⟩
  rw [← g2] at A2 st2
  have ne_a0_b2 : a0 ≠ b2 := Nat.ne_of_lt (Nat.lt_of_lt_of_le V_a0.lt (Nat.le_of_eq g2.symm))
  have g_b2 : n0 ≤ b2 := Nat.le_trans Z0 (Nat.le_of_eq g2.symm)
  have sz_b2 : h0.size ≤ b2 := Nat.le_trans (Keep.refl h0 []).1 (Nat.le_of_eq g2.symm)
  have Z2 : n0 ≤ h2.size := Nat.le_trans Z0 E2.1
  have KC2 : Keep h0 h2 [] := (Keep.refl h0 []).ext E2
  have V2 : Arv Z h2 b2 k2 .int (1 : Int32) [(.int (0 : Int32))] (.int (0 : Int32)) := (Arv.new A2 (by decide)).pad (pad_rep [] (.int (0 : Int32)) 1)
  obtain ⟨cl3, Ar3, q3, S3, M3, H3, G3⟩ := id V2
  have y4 := (V_a0.ext E2)
  obtain ⟨cl5, Ar5, q5, S5, M5, H5, G5⟩ := id y4
  have hin5 : ¬ ((0 : Int32) < 0 ∨ cl5.slots.size ≤ ((0 : Int32)).toNatClampNeg) := inb_of S5 ⟨by decide, by decide⟩
  have hat5 : cl5.slots[((0 : Int32)).toNatClampNeg]? = some (.int x0_a0) := H5.at hin5 rfl
  obtain ⟨cl6, Ar6, q6, S6, M6, H6, G6⟩ := id y4
  have hin6 : ¬ ((1 : Int32) < 0 ∨ cl6.slots.size ≤ ((1 : Int32)).toNatClampNeg) := inb_of S6 ⟨by decide, by decide⟩
  have hat6 : cl6.slots[((1 : Int32)).toNatClampNeg]? = some (.int x1_a0) := H6.at hin6 rfl
  obtain ⟨cl7, Ar7, q7, S7, M7, H7, G7⟩ := id V2
  have hin7 : ¬ ((0 : Int32) < 0 ∨ cl7.slots.size ≤ ((0 : Int32)).toNatClampNeg) := inb_of S7 ⟨by decide, by decide⟩
  obtain ⟨T8, h8, X8, e8, W8, st8⟩ := stI X2 hx hZ e2 Ar7 (j := (0 : Int32)) hin7 (g := (mkF m 41 #[.val (.ref a0), .val (.ref b2), .val (.int (0 : Int32))] [(.int (((x0_a0 &&& (255 : Int32)) <<< ((8 : Int32) &&& 31)) ||| (x1_a0 &&& (255 : Int32)))), (.int (0 : Int32)), (.ref b2)])) rfl rfl (hb hby d1_41)
  have Z8 : n0 ≤ h8.size := Nat.le_trans Z2 (Keep.of_wr W8).1
  have N8 := Fr.snoc X8 N0 g_b2
  have KC8 : Keep h0 h8 [] := KC2.wr W8 (Or.inr sz_b2)
  have V8 : Arv Z h8 b2 k2 .int (1 : Int32) [(.int (((x0_a0 &&& (255 : Int32)) <<< ((8 : Int32) &&& 31)) ||| (x1_a0 &&& (255 : Int32))))] (.int (0 : Int32)) := Arv.set Ar7 q7 S7 M7 H7 G7 rfl W8 0 rfl (Nat.le_of_ble_eq_true rfl)
  obtain ⟨cl9, Ar9, q9, S9, M9, H9, G9⟩ := id V8
  have pre10 : ∀ t, Steps p.tables e below (T8.setTop (mkF m 49 #[.val (.ref a0), .val (.ref b2), .val (.int (1 : Int32))] [(.ref b2)])) t → Steps p.tables e below (s₁.setTop (entryFrame m #[(.ref a0)] 3)) t := fun t k => pre0 t (by
    show Steps p.tables e below (s₁.setTop (mkF m 0 #[.val (.ref a0), .unset, .unset] [])) _
    refine XS.aloadN X0.here hx rfl (hb hby d1_0) rfl rfl ?_
    show Steps p.tables e below (s₁.setTop (mkF m 1 #[.val (.ref a0), .unset, .unset] [(.ref a0)])) _
    refine X0.arraylength hx (by rw [e0]; exact Ar1.1) (State.isArrayOf_alike hZ.alike Ar1.2.1) (g := (mkF m 1 #[.val (.ref a0), .unset, .unset] [(.ref a0)])) rfl rfl (hb hby d1_1) _ ?_
    rw [len_of S1 M1]
    show Steps p.tables e below (s₁.setTop (mkF m 2 #[.val (.ref a0), .unset, .unset] [(.int (2 : Int32))])) _
    refine XS.iconst X0.here hx rfl (hb hby d1_2) ?_
    show Steps p.tables e below (s₁.setTop (mkF m 3 #[.val (.ref a0), .unset, .unset] [(.int (2 : Int32)), (.int (2 : Int32))])) _
    refine XS.idiv X0.here hx rfl (hb hby d1_3) rfl (by decide) ?_
    show Steps p.tables e below (s₁.setTop (mkF m 4 #[.val (.ref a0), .unset, .unset] [(.int (1 : Int32))])) _
    refine st2 _ ?_
    show Steps p.tables e below (T2.setTop (mkF m 6 #[.val (.ref a0), .unset, .unset] [(.ref b2)])) _
    refine XS.astoreN X2.here hx rfl (hb hby d1_6) rfl rfl (l' := #[.val (.ref a0), .val (.ref b2), .unset]) rfl ?_
    show Steps p.tables e below (T2.setTop (mkF m 7 #[.val (.ref a0), .val (.ref b2), .unset] [])) _
    refine XS.iconst X2.here hx rfl (hb hby d1_7) ?_
    show Steps p.tables e below (T2.setTop (mkF m 8 #[.val (.ref a0), .val (.ref b2), .unset] [(.int (0 : Int32))])) _
    refine XS.istoreN X2.here hx rfl (hb hby d1_8) rfl (l' := #[.val (.ref a0), .val (.ref b2), .val (.int (0 : Int32))]) rfl ?_
    show Steps p.tables e below (T2.setTop (mkF m 9 #[.val (.ref a0), .val (.ref b2), .val (.int (0 : Int32))] [])) _
    refine XS.iloadN X2.here hx rfl (hb hby d1_9) rfl ?_
    show Steps p.tables e below (T2.setTop (mkF m 10 #[.val (.ref a0), .val (.ref b2), .val (.int (0 : Int32))] [(.int (0 : Int32))])) _
    refine XS.aloadN X2.here hx rfl (hb hby d1_10) rfl rfl ?_
    show Steps p.tables e below (T2.setTop (mkF m 11 #[.val (.ref a0), .val (.ref b2), .val (.int (0 : Int32))] [(.ref b2), (.int (0 : Int32))])) _
    refine X2.arraylength hx (by rw [e2]; exact Ar3.1) (State.isArrayOf_alike hZ.alike Ar3.2.1) (g := (mkF m 11 #[.val (.ref a0), .val (.ref b2), .val (.int (0 : Int32))] [(.ref b2), (.int (0 : Int32))])) rfl rfl (hb hby d1_11) _ ?_
    rw [len_of S3 M3]
    show Steps p.tables e below (T2.setTop (mkF m 12 #[.val (.ref a0), .val (.ref b2), .val (.int (0 : Int32))] [(.int (1 : Int32)), (.int (0 : Int32))])) _
    refine XS.icmpNo X2.here hx rfl (hb hby d1_12) rfl (tlt (by decide : (0 : Int32) < (1 : Int32))).2.1 ?_
    show Steps p.tables e below (T2.setTop (mkF m 15 #[.val (.ref a0), .val (.ref b2), .val (.int (0 : Int32))] [])) _
    refine XS.aloadN X2.here hx rfl (hb hby d1_15) rfl rfl ?_
    show Steps p.tables e below (T2.setTop (mkF m 16 #[.val (.ref a0), .val (.ref b2), .val (.int (0 : Int32))] [(.ref b2)])) _
    refine XS.iloadN X2.here hx rfl (hb hby d1_16) rfl ?_
    show Steps p.tables e below (T2.setTop (mkF m 17 #[.val (.ref a0), .val (.ref b2), .val (.int (0 : Int32))] [(.int (0 : Int32)), (.ref b2)])) _
    refine XS.aloadN X2.here hx rfl (hb hby d1_17) rfl rfl ?_
    show Steps p.tables e below (T2.setTop (mkF m 18 #[.val (.ref a0), .val (.ref b2), .val (.int (0 : Int32))] [(.ref a0), (.int (0 : Int32)), (.ref b2)])) _
    refine XS.iconst X2.here hx rfl (hb hby d1_18) ?_
    show Steps p.tables e below (T2.setTop (mkF m 19 #[.val (.ref a0), .val (.ref b2), .val (.int (0 : Int32))] [(.int (2 : Int32)), (.ref a0), (.int (0 : Int32)), (.ref b2)])) _
    refine XS.iloadN X2.here hx rfl (hb hby d1_19) rfl ?_
    show Steps p.tables e below (T2.setTop (mkF m 20 #[.val (.ref a0), .val (.ref b2), .val (.int (0 : Int32))] [(.int (0 : Int32)), (.int (2 : Int32)), (.ref a0), (.int (0 : Int32)), (.ref b2)])) _
    refine XS.imul X2.here hx rfl (hb hby d1_20) rfl ?_
    show Steps p.tables e below (T2.setTop (mkF m 21 #[.val (.ref a0), .val (.ref b2), .val (.int (0 : Int32))] [(.int (0 : Int32)), (.ref a0), (.int (0 : Int32)), (.ref b2)])) _
    refine X2.baloadBytes hx (j := (0 : Int32)) (v := (.int x0_a0)) (by rw [e2]; exact Ar5.1) (State.isArrayOf_alike hZ.alike Ar5.2.1) Ar5.2.2 hin5 hat5 (g := (mkF m 21 #[.val (.ref a0), .val (.ref b2), .val (.int (0 : Int32))] [(.int (0 : Int32)), (.ref a0), (.int (0 : Int32)), (.ref b2)])) rfl rfl (hb hby d1_21) _ ?_
    show Steps p.tables e below (T2.setTop (mkF m 22 #[.val (.ref a0), .val (.ref b2), .val (.int (0 : Int32))] [(.int x0_a0), (.int (0 : Int32)), (.ref b2)])) _
    refine XS.sipush X2.here hx rfl (hb hby d1_22) ?_
    show Steps p.tables e below (T2.setTop (mkF m 25 #[.val (.ref a0), .val (.ref b2), .val (.int (0 : Int32))] [(.int (255 : Int32)), (.int x0_a0), (.int (0 : Int32)), (.ref b2)])) _
    refine XS.iand X2.here hx rfl (hb hby d1_25) rfl ?_
    show Steps p.tables e below (T2.setTop (mkF m 26 #[.val (.ref a0), .val (.ref b2), .val (.int (0 : Int32))] [(.int (x0_a0 &&& (255 : Int32))), (.int (0 : Int32)), (.ref b2)])) _
    refine XS.bipush X2.here hx rfl (hb hby d1_26) ?_
    show Steps p.tables e below (T2.setTop (mkF m 28 #[.val (.ref a0), .val (.ref b2), .val (.int (0 : Int32))] [(.int (8 : Int32)), (.int (x0_a0 &&& (255 : Int32))), (.int (0 : Int32)), (.ref b2)])) _
    refine XS.ishl X2.here hx rfl (hb hby d1_28) rfl ?_
    show Steps p.tables e below (T2.setTop (mkF m 29 #[.val (.ref a0), .val (.ref b2), .val (.int (0 : Int32))] [(.int ((x0_a0 &&& (255 : Int32)) <<< ((8 : Int32) &&& 31))), (.int (0 : Int32)), (.ref b2)])) _
    refine XS.aloadN X2.here hx rfl (hb hby d1_29) rfl rfl ?_
    show Steps p.tables e below (T2.setTop (mkF m 30 #[.val (.ref a0), .val (.ref b2), .val (.int (0 : Int32))] [(.ref a0), (.int ((x0_a0 &&& (255 : Int32)) <<< ((8 : Int32) &&& 31))), (.int (0 : Int32)), (.ref b2)])) _
    refine XS.iconst X2.here hx rfl (hb hby d1_30) ?_
    show Steps p.tables e below (T2.setTop (mkF m 31 #[.val (.ref a0), .val (.ref b2), .val (.int (0 : Int32))] [(.int (2 : Int32)), (.ref a0), (.int ((x0_a0 &&& (255 : Int32)) <<< ((8 : Int32) &&& 31))), (.int (0 : Int32)), (.ref b2)])) _
    refine XS.iloadN X2.here hx rfl (hb hby d1_31) rfl ?_
    show Steps p.tables e below (T2.setTop (mkF m 32 #[.val (.ref a0), .val (.ref b2), .val (.int (0 : Int32))] [(.int (0 : Int32)), (.int (2 : Int32)), (.ref a0), (.int ((x0_a0 &&& (255 : Int32)) <<< ((8 : Int32) &&& 31))), (.int (0 : Int32)), (.ref b2)])) _
    refine XS.imul X2.here hx rfl (hb hby d1_32) rfl ?_
    show Steps p.tables e below (T2.setTop (mkF m 33 #[.val (.ref a0), .val (.ref b2), .val (.int (0 : Int32))] [(.int (0 : Int32)), (.ref a0), (.int ((x0_a0 &&& (255 : Int32)) <<< ((8 : Int32) &&& 31))), (.int (0 : Int32)), (.ref b2)])) _
    refine XS.iconst X2.here hx rfl (hb hby d1_33) ?_
    show Steps p.tables e below (T2.setTop (mkF m 34 #[.val (.ref a0), .val (.ref b2), .val (.int (0 : Int32))] [(.int (1 : Int32)), (.int (0 : Int32)), (.ref a0), (.int ((x0_a0 &&& (255 : Int32)) <<< ((8 : Int32) &&& 31))), (.int (0 : Int32)), (.ref b2)])) _
    refine XS.iadd X2.here hx rfl (hb hby d1_34) rfl ?_
    show Steps p.tables e below (T2.setTop (mkF m 35 #[.val (.ref a0), .val (.ref b2), .val (.int (0 : Int32))] [(.int (1 : Int32)), (.ref a0), (.int ((x0_a0 &&& (255 : Int32)) <<< ((8 : Int32) &&& 31))), (.int (0 : Int32)), (.ref b2)])) _
    refine X2.baloadBytes hx (j := (1 : Int32)) (v := (.int x1_a0)) (by rw [e2]; exact Ar6.1) (State.isArrayOf_alike hZ.alike Ar6.2.1) Ar6.2.2 hin6 hat6 (g := (mkF m 35 #[.val (.ref a0), .val (.ref b2), .val (.int (0 : Int32))] [(.int (1 : Int32)), (.ref a0), (.int ((x0_a0 &&& (255 : Int32)) <<< ((8 : Int32) &&& 31))), (.int (0 : Int32)), (.ref b2)])) rfl rfl (hb hby d1_35) _ ?_
    show Steps p.tables e below (T2.setTop (mkF m 36 #[.val (.ref a0), .val (.ref b2), .val (.int (0 : Int32))] [(.int x1_a0), (.int ((x0_a0 &&& (255 : Int32)) <<< ((8 : Int32) &&& 31))), (.int (0 : Int32)), (.ref b2)])) _
    refine XS.sipush X2.here hx rfl (hb hby d1_36) ?_
    show Steps p.tables e below (T2.setTop (mkF m 39 #[.val (.ref a0), .val (.ref b2), .val (.int (0 : Int32))] [(.int (255 : Int32)), (.int x1_a0), (.int ((x0_a0 &&& (255 : Int32)) <<< ((8 : Int32) &&& 31))), (.int (0 : Int32)), (.ref b2)])) _
    refine XS.iand X2.here hx rfl (hb hby d1_39) rfl ?_
    show Steps p.tables e below (T2.setTop (mkF m 40 #[.val (.ref a0), .val (.ref b2), .val (.int (0 : Int32))] [(.int (x1_a0 &&& (255 : Int32))), (.int ((x0_a0 &&& (255 : Int32)) <<< ((8 : Int32) &&& 31))), (.int (0 : Int32)), (.ref b2)])) _
    refine XS.ior X2.here hx rfl (hb hby d1_40) rfl ?_
    show Steps p.tables e below (T2.setTop (mkF m 41 #[.val (.ref a0), .val (.ref b2), .val (.int (0 : Int32))] [(.int (((x0_a0 &&& (255 : Int32)) <<< ((8 : Int32) &&& 31)) ||| (x1_a0 &&& (255 : Int32)))), (.int (0 : Int32)), (.ref b2)])) _
    refine st8 _ ?_
    show Steps p.tables e below (T8.setTop (mkF m 42 #[.val (.ref a0), .val (.ref b2), .val (.int (0 : Int32))] [])) _
    refine XS.iinc X8.here hx rfl (hb hby d1_42) rfl (l' := #[.val (.ref a0), .val (.ref b2), .val (.int ((0 : Int32) + (1 : Int32)))]) rfl ?_
    show Steps p.tables e below (T8.setTop (mkF m 45 #[.val (.ref a0), .val (.ref b2), .val (.int (1 : Int32))] [])) _
    refine XS.goto X8.here hx rfl (pc0 := 45) (pc' := 9) rfl (hb hby d1_45) (by decide) (by decide) ?_
    show Steps p.tables e below (T8.setTop (mkF m 9 #[.val (.ref a0), .val (.ref b2), .val (.int (1 : Int32))] [])) _
    refine XS.iloadN X8.here hx rfl (hb hby d1_9) rfl ?_
    show Steps p.tables e below (T8.setTop (mkF m 10 #[.val (.ref a0), .val (.ref b2), .val (.int (1 : Int32))] [(.int (1 : Int32))])) _
    refine XS.aloadN X8.here hx rfl (hb hby d1_10) rfl rfl ?_
    show Steps p.tables e below (T8.setTop (mkF m 11 #[.val (.ref a0), .val (.ref b2), .val (.int (1 : Int32))] [(.ref b2), (.int (1 : Int32))])) _
    refine X8.arraylength hx (by rw [e8]; exact Ar9.1) (State.isArrayOf_alike hZ.alike Ar9.2.1) (g := (mkF m 11 #[.val (.ref a0), .val (.ref b2), .val (.int (1 : Int32))] [(.ref b2), (.int (1 : Int32))])) rfl rfl (hb hby d1_11) _ ?_
    rw [len_of S9 M9]
    show Steps p.tables e below (T8.setTop (mkF m 12 #[.val (.ref a0), .val (.ref b2), .val (.int (1 : Int32))] [(.int (1 : Int32)), (.int (1 : Int32))])) _
    refine XS.icmpYes X8.here hx rfl (pc0 := 12) (pc' := 48) rfl (hb hby d1_12) rfl (flt (by decide : ¬ ((1 : Int32) < (1 : Int32)))).2.1 (by decide) (by decide) ?_
    show Steps p.tables e below (T8.setTop (mkF m 48 #[.val (.ref a0), .val (.ref b2), .val (.int (1 : Int32))] [])) _
    refine XS.aloadN X8.here hx rfl (hb hby d1_48) rfl rfl ?_
    exact k)
  obtain ⟨fs, hr, hrun, hended, hW, hsame⟩ := X8.leave (v := some (.ref b2)) (fun h => by rw [Bd.returns] at h; cases h) hlk
  exact ⟨_, _, pre10 _ (by jvm_step X8.here [X8.here.top, hx, (hb hby d1_49), X8.method', Bd.returns, Value.isRef, FieldType.isReference]; (first | (intro acts; rw [hr _ acts rfl rfl rfl]) | rw [hr _ _ rfl rfl rfl]); exact Steps.refl _), hrun, hended, _, _, rfl, (by show Q1_1 Z a0 x0_a0 x1_a0 k_a0 h0 n0 _ T8.heap _; rw [e8]; exact ⟨b2, rfl, N8, sz_b2, g_b2, KC8, ⟨_, V8⟩⟩), ⟨_, rfl⟩, hW, hsame.mono (by decide) (by decide)⟩
theorem ef1_2 (m : MethodId) (x0 : Addr) : entryFrame m #[(.ref x0)] 3 = mkF m 0 #[.val (.ref x0), .unset, .unset] [] := by first | (simp [entryFrame, mkF, argsToLocals, Value.category]; done) | rfl
def Q1_2 (Z : State) (a0 : Addr) (x0_a0 : Int32) (x1_a0 : Int32) (x2_a0 : Int32) (x3_a0 : Int32) (k_a0 : ClassId) (h0 : Heap) (n0 : Nat) (v : Option Value) (h : Heap) (L : List Loc) : Prop := ∃ b : Addr, v = some (.ref b) ∧ Fr n0 L ∧ h0.size ≤ b ∧ n0 ≤ b ∧ Keep h0 h [] ∧ ∃ kk : ClassId, Arv Z h b kk .int (2 : Int32) [(.int (((x0_a0 &&& (255 : Int32)) <<< ((8 : Int32) &&& 31)) ||| (x1_a0 &&& (255 : Int32)))), (.int (((x2_a0 &&& (255 : Int32)) <<< ((8 : Int32) &&& 31)) ||| (x3_a0 &&& (255 : Int32))))] (.int 0)
set_option maxRecDepth 65536 in
set_option maxHeartbeats 40000000 in
theorem rm1_2 (l : Launch) (Z : State) (a0' : Array Value) (hw : ∀ d ∈ tables_1, d.before a0' Z = true) (ws : List Jvm.Cond) (a0 : Addr) (x0_a0 : Int32) (x1_a0 : Int32) (x2_a0 : Int32) (x3_a0 : Int32) (k_a0 : ClassId) (h0 : Heap) (n0 : Nat) (Z0 : n0 ≤ h0.size) (V_a0 : Arv Z h0 a0 k_a0 .byte (4 : Int32) [(.int x0_a0), (.int x1_a0), (.int x2_a0), (.int x3_a0)] (.int 0)) :
    MetFree l (⟨"com/example/cardwarden/cardwarden/core/fs/FilePath", "fileIds", "([B)[I"⟩ : MethodName) (head1 (Jvm.Cond.code (⟨"com/example/cardwarden/cardwarden/core/fs/FilePath", "fileIds", "([B)[I"⟩ : MethodName) prog_27_method_5_code 3 (some (.array .int)) :: ws) ({ frames := 0, cells := 1, slots := 2, locals := 0 } : Room)) (fun a U => a = #[(.ref a0)] ∧ Z.Warmed39 U.vm ∧ U.heap = h0) (fun _ _ _ _ _ => True) (fun _ U o U' => ∃ v L, o = .returned v ∧ Q1_2 Z a0 x0_a0 x1_a0 x2_a0 x3_a0 k_a0 h0 n0 v U'.heap L ∧ FrameEnd U o U' L ({ frames := 0, cells := 1, slots := 2, locals := 0 } : Room).cells ({ frames := 0, cells := 1, slots := 2, locals := 0 } : Room).slots) := by
  refine MetFree.of_bodySF (plainFor_of_name pn0) hisR ?_
  intro p e s m args below meth c s₁ Bd hml0 hP hK
  obtain ⟨rfl, hZ, hh⟩ := hP
  have hx := Bd.exec
  have hby := Bd.bytes
  have hml : c.maxLocals = 3 := hml0
  have hown : s.vm.findClass "com/example/cardwarden/cardwarden/core/fs/FilePath" = some m.cls := findClass_of_methodNamed Bd.named
  have hnm := (name_of_methodNamed Bd.named Bd.method).1
  have X0 : Stand p l e ({ frames := 0, cells := 1, slots := 2, locals := 0 } : Room) s m #[(.ref a0)] below meth c s₁ [] 0 0 := Stand.of_body Bd
  have e0 : s₁.heap = h0 := by rw [← hh, Bd.state]; rfl
  have N0 := Fr.nil n0
  have hlk : meth.locks = false := by first | exact BodyLoose.notSynchronized Bd | exact Body.notSynchronized Bd
  have pre0 : ∀ t, Steps p.tables e below (s₁.setTop (mkF m 0 #[.val (.ref a0), .unset, .unset] [])) t → Steps p.tables e below (s₁.setTop (entryFrame m #[(.ref a0)] 3)) t := fun t k => castTop (ef1_2 m a0) k
  obtain ⟨cl1, Ar1, q1, S1, M1, H1, G1⟩ := id V_a0
  obtain ⟨T2, h2, k2, X2, e2, E2, A2, st2⟩ := newP X0 hx hZ (hw _ (List.mem_of_getElem? (i := 5) rfl)) e0 (g := (mkF m 4 #[.val (.ref a0), .unset, .unset] [(.int (2 : Int32))])) rfl (hb hby d1_4) rfl (by decide) (cap := 2) (by decide) (by decide) (by decide) (by decide)
  obtain ⟨b2, g2⟩ : ∃ z, z = h0.size := ⟨_, rfl⟩
  rw [← g2] at A2 st2
  have ne_a0_b2 : a0 ≠ b2 := Nat.ne_of_lt (Nat.lt_of_lt_of_le V_a0.lt (Nat.le_of_eq g2.symm))
  have g_b2 : n0 ≤ b2 := Nat.le_trans Z0 (Nat.le_of_eq g2.symm)
  have sz_b2 : h0.size ≤ b2 := Nat.le_trans (Keep.refl h0 []).1 (Nat.le_of_eq g2.symm)
  have Z2 : n0 ≤ h2.size := Nat.le_trans Z0 E2.1
  have KC2 : Keep h0 h2 [] := (Keep.refl h0 []).ext E2
  have V2 : Arv Z h2 b2 k2 .int (2 : Int32) [(.int (0 : Int32)), (.int (0 : Int32))] (.int (0 : Int32)) := (Arv.new A2 (by decide)).pad (pad_rep [] (.int (0 : Int32)) 2)
  obtain ⟨cl3, Ar3, q3, S3, M3, H3, G3⟩ := id V2
  have y4 := (V_a0.ext E2)
  obtain ⟨cl5, Ar5, q5, S5, M5, H5, G5⟩ := id y4
  have hin5 : ¬ ((0 : Int32) < 0 ∨ cl5.slots.size ≤ ((0 : Int32)).toNatClampNeg) := inb_of S5 ⟨by decide, by decide⟩
  have hat5 : cl5.slots[((0 : Int32)).toNatClampNeg]? = some (.int x0_a0) := H5.at hin5 rfl
  obtain ⟨cl6, Ar6, q6, S6, M6, H6, G6⟩ := id y4
  have hin6 : ¬ ((1 : Int32) < 0 ∨ cl6.slots.size ≤ ((1 : Int32)).toNatClampNeg) := inb_of S6 ⟨by decide, by decide⟩
  have hat6 : cl6.slots[((1 : Int32)).toNatClampNeg]? = some (.int x1_a0) := H6.at hin6 rfl
  obtain ⟨cl7, Ar7, q7, S7, M7, H7, G7⟩ := id V2
  have hin7 : ¬ ((0 : Int32) < 0 ∨ cl7.slots.size ≤ ((0 : Int32)).toNatClampNeg) := inb_of S7 ⟨by decide, by decide⟩
  obtain ⟨T8, h8, X8, e8, W8, st8⟩ := stI X2 hx hZ e2 Ar7 (j := (0 : Int32)) hin7 (g := (mkF m 41 #[.val (.ref a0), .val (.ref b2), .val (.int (0 : Int32))] [(.int (((x0_a0 &&& (255 : Int32)) <<< ((8 : Int32) &&& 31)) ||| (x1_a0 &&& (255 : Int32)))), (.int (0 : Int32)), (.ref b2)])) rfl rfl (hb hby d1_41)
  have Z8 : n0 ≤ h8.size := Nat.le_trans Z2 (Keep.of_wr W8).1
  have N8 := Fr.snoc X8 N0 g_b2
  have KC8 : Keep h0 h8 [] := KC2.wr W8 (Or.inr sz_b2)
  have V8 : Arv Z h8 b2 k2 .int (2 : Int32) [(.int (((x0_a0 &&& (255 : Int32)) <<< ((8 : Int32) &&& 31)) ||| (x1_a0 &&& (255 : Int32)))), (.int (0 : Int32))] (.int (0 : Int32)) := Arv.set Ar7 q7 S7 M7 H7 G7 rfl W8 0 rfl (Nat.le_of_ble_eq_true rfl)
  obtain ⟨cl9, Ar9, q9, S9, M9, H9, G9⟩ := id V8
  have y10 := (y4.other W8 ne_a0_b2)
  obtain ⟨cl11, Ar11, q11, S11, M11, H11, G11⟩ := id y10
  have hin11 : ¬ ((2 : Int32) < 0 ∨ cl11.slots.size ≤ ((2 : Int32)).toNatClampNeg) := inb_of S11 ⟨by decide, by decide⟩
  have hat11 : cl11.slots[((2 : Int32)).toNatClampNeg]? = some (.int x2_a0) := H11.at hin11 rfl
  obtain ⟨cl12, Ar12, q12, S12, M12, H12, G12⟩ := id y10
  have hin12 : ¬ ((3 : Int32) < 0 ∨ cl12.slots.size ≤ ((3 : Int32)).toNatClampNeg) := inb_of S12 ⟨by decide, by decide⟩
  have hat12 : cl12.slots[((3 : Int32)).toNatClampNeg]? = some (.int x3_a0) := H12.at hin12 rfl
  obtain ⟨cl13, Ar13, q13, S13, M13, H13, G13⟩ := id V8
  have hin13 : ¬ ((1 : Int32) < 0 ∨ cl13.slots.size ≤ ((1 : Int32)).toNatClampNeg) := inb_of S13 ⟨by decide, by decide⟩
  obtain ⟨T14, h14, X14, e14, W14, st14⟩ := stI X8 hx hZ e8 Ar13 (j := (1 : Int32)) hin13 (g := (mkF m 41 #[.val (.ref a0), .val (.ref b2), .val (.int (1 : Int32))] [(.int (((x2_a0 &&& (255 : Int32)) <<< ((8 : Int32) &&& 31)) ||| (x3_a0 &&& (255 : Int32)))), (.int (1 : Int32)), (.ref b2)])) rfl rfl (hb hby d1_41)
  have Z14 : n0 ≤ h14.size := Nat.le_trans Z8 (Keep.of_wr W14).1
  have N14 := Fr.snoc X14 N8 g_b2
  have KC14 : Keep h0 h14 [] := KC8.wr W14 (Or.inr sz_b2)
  have V14 : Arv Z h14 b2 k2 .int (2 : Int32) [(.int (((x0_a0 &&& (255 : Int32)) <<< ((8 : Int32) &&& 31)) ||| (x1_a0 &&& (255 : Int32)))), (.int (((x2_a0 &&& (255 : Int32)) <<< ((8 : Int32) &&& 31)) ||| (x3_a0 &&& (255 : Int32))))] (.int (0 : Int32)) := Arv.set Ar13 q13 S13 M13 H13 G13 rfl W14 1 rfl (Nat.le_of_ble_eq_true rfl)
  obtain ⟨cl15, Ar15, q15, S15, M15, H15, G15⟩ := id V14
  have pre16 : ∀ t, Steps p.tables e below (T14.setTop (mkF m 49 #[.val (.ref a0), .val (.ref b2), .val (.int (2 : Int32))] [(.ref b2)])) t → Steps p.tables e below (s₁.setTop (entryFrame m #[(.ref a0)] 3)) t := fun t k => pre0 t (by
    show Steps p.tables e below (s₁.setTop (mkF m 0 #[.val (.ref a0), .unset, .unset] [])) _
    refine XS.aloadN X0.here hx rfl (hb hby d1_0) rfl rfl ?_
    show Steps p.tables e below (s₁.setTop (mkF m 1 #[.val (.ref a0), .unset, .unset] [(.ref a0)])) _
    refine X0.arraylength hx (by rw [e0]; exact Ar1.1) (State.isArrayOf_alike hZ.alike Ar1.2.1) (g := (mkF m 1 #[.val (.ref a0), .unset, .unset] [(.ref a0)])) rfl rfl (hb hby d1_1) _ ?_
    rw [len_of S1 M1]
    show Steps p.tables e below (s₁.setTop (mkF m 2 #[.val (.ref a0), .unset, .unset] [(.int (4 : Int32))])) _
    refine XS.iconst X0.here hx rfl (hb hby d1_2) ?_
    show Steps p.tables e below (s₁.setTop (mkF m 3 #[.val (.ref a0), .unset, .unset] [(.int (2 : Int32)), (.int (4 : Int32))])) _
    refine XS.idiv X0.here hx rfl (hb hby d1_3) rfl (by decide) ?_
    show Steps p.tables e below (s₁.setTop (mkF m 4 #[.val (.ref a0), .unset, .unset] [(.int (2 : Int32))])) _
    refine st2 _ ?_
    show Steps p.tables e below (T2.setTop (mkF m 6 #[.val (.ref a0), .unset, .unset] [(.ref b2)])) _
    refine XS.astoreN X2.here hx rfl (hb hby d1_6) rfl rfl (l' := #[.val (.ref a0), .val (.ref b2), .unset]) rfl ?_
    show Steps p.tables e below (T2.setTop (mkF m 7 #[.val (.ref a0), .val (.ref b2), .unset] [])) _
    refine XS.iconst X2.here hx rfl (hb hby d1_7) ?_
    show Steps p.tables e below (T2.setTop (mkF m 8 #[.val (.ref a0), .val (.ref b2), .unset] [(.int (0 : Int32))])) _
    refine XS.istoreN X2.here hx rfl (hb hby d1_8) rfl (l' := #[.val (.ref a0), .val (.ref b2), .val (.int (0 : Int32))]) rfl ?_
    show Steps p.tables e below (T2.setTop (mkF m 9 #[.val (.ref a0), .val (.ref b2), .val (.int (0 : Int32))] [])) _
    refine XS.iloadN X2.here hx rfl (hb hby d1_9) rfl ?_
    show Steps p.tables e below (T2.setTop (mkF m 10 #[.val (.ref a0), .val (.ref b2), .val (.int (0 : Int32))] [(.int (0 : Int32))])) _
    refine XS.aloadN X2.here hx rfl (hb hby d1_10) rfl rfl ?_
    show Steps p.tables e below (T2.setTop (mkF m 11 #[.val (.ref a0), .val (.ref b2), .val (.int (0 : Int32))] [(.ref b2), (.int (0 : Int32))])) _
    refine X2.arraylength hx (by rw [e2]; exact Ar3.1) (State.isArrayOf_alike hZ.alike Ar3.2.1) (g := (mkF m 11 #[.val (.ref a0), .val (.ref b2), .val (.int (0 : Int32))] [(.ref b2), (.int (0 : Int32))])) rfl rfl (hb hby d1_11) _ ?_
    rw [len_of S3 M3]
    show Steps p.tables e below (T2.setTop (mkF m 12 #[.val (.ref a0), .val (.ref b2), .val (.int (0 : Int32))] [(.int (2 : Int32)), (.int (0 : Int32))])) _
    refine XS.icmpNo X2.here hx rfl (hb hby d1_12) rfl (tlt (by decide : (0 : Int32) < (2 : Int32))).2.1 ?_
    show Steps p.tables e below (T2.setTop (mkF m 15 #[.val (.ref a0), .val (.ref b2), .val (.int (0 : Int32))] [])) _
    refine XS.aloadN X2.here hx rfl (hb hby d1_15) rfl rfl ?_
    show Steps p.tables e below (T2.setTop (mkF m 16 #[.val (.ref a0), .val (.ref b2), .val (.int (0 : Int32))] [(.ref b2)])) _
    refine XS.iloadN X2.here hx rfl (hb hby d1_16) rfl ?_
    show Steps p.tables e below (T2.setTop (mkF m 17 #[.val (.ref a0), .val (.ref b2), .val (.int (0 : Int32))] [(.int (0 : Int32)), (.ref b2)])) _
    refine XS.aloadN X2.here hx rfl (hb hby d1_17) rfl rfl ?_
    show Steps p.tables e below (T2.setTop (mkF m 18 #[.val (.ref a0), .val (.ref b2), .val (.int (0 : Int32))] [(.ref a0), (.int (0 : Int32)), (.ref b2)])) _
    refine XS.iconst X2.here hx rfl (hb hby d1_18) ?_
    show Steps p.tables e below (T2.setTop (mkF m 19 #[.val (.ref a0), .val (.ref b2), .val (.int (0 : Int32))] [(.int (2 : Int32)), (.ref a0), (.int (0 : Int32)), (.ref b2)])) _
    refine XS.iloadN X2.here hx rfl (hb hby d1_19) rfl ?_
    show Steps p.tables e below (T2.setTop (mkF m 20 #[.val (.ref a0), .val (.ref b2), .val (.int (0 : Int32))] [(.int (0 : Int32)), (.int (2 : Int32)), (.ref a0), (.int (0 : Int32)), (.ref b2)])) _
    refine XS.imul X2.here hx rfl (hb hby d1_20) rfl ?_
    show Steps p.tables e below (T2.setTop (mkF m 21 #[.val (.ref a0), .val (.ref b2), .val (.int (0 : Int32))] [(.int (0 : Int32)), (.ref a0), (.int (0 : Int32)), (.ref b2)])) _
    refine X2.baloadBytes hx (j := (0 : Int32)) (v := (.int x0_a0)) (by rw [e2]; exact Ar5.1) (State.isArrayOf_alike hZ.alike Ar5.2.1) Ar5.2.2 hin5 hat5 (g := (mkF m 21 #[.val (.ref a0), .val (.ref b2), .val (.int (0 : Int32))] [(.int (0 : Int32)), (.ref a0), (.int (0 : Int32)), (.ref b2)])) rfl rfl (hb hby d1_21) _ ?_
    show Steps p.tables e below (T2.setTop (mkF m 22 #[.val (.ref a0), .val (.ref b2), .val (.int (0 : Int32))] [(.int x0_a0), (.int (0 : Int32)), (.ref b2)])) _
    refine XS.sipush X2.here hx rfl (hb hby d1_22) ?_
    show Steps p.tables e below (T2.setTop (mkF m 25 #[.val (.ref a0), .val (.ref b2), .val (.int (0 : Int32))] [(.int (255 : Int32)), (.int x0_a0), (.int (0 : Int32)), (.ref b2)])) _
    refine XS.iand X2.here hx rfl (hb hby d1_25) rfl ?_
    show Steps p.tables e below (T2.setTop (mkF m 26 #[.val (.ref a0), .val (.ref b2), .val (.int (0 : Int32))] [(.int (x0_a0 &&& (255 : Int32))), (.int (0 : Int32)), (.ref b2)])) _
    refine XS.bipush X2.here hx rfl (hb hby d1_26) ?_
    show Steps p.tables e below (T2.setTop (mkF m 28 #[.val (.ref a0), .val (.ref b2), .val (.int (0 : Int32))] [(.int (8 : Int32)), (.int (x0_a0 &&& (255 : Int32))), (.int (0 : Int32)), (.ref b2)])) _
    refine XS.ishl X2.here hx rfl (hb hby d1_28) rfl ?_
    show Steps p.tables e below (T2.setTop (mkF m 29 #[.val (.ref a0), .val (.ref b2), .val (.int (0 : Int32))] [(.int ((x0_a0 &&& (255 : Int32)) <<< ((8 : Int32) &&& 31))), (.int (0 : Int32)), (.ref b2)])) _
    refine XS.aloadN X2.here hx rfl (hb hby d1_29) rfl rfl ?_
    show Steps p.tables e below (T2.setTop (mkF m 30 #[.val (.ref a0), .val (.ref b2), .val (.int (0 : Int32))] [(.ref a0), (.int ((x0_a0 &&& (255 : Int32)) <<< ((8 : Int32) &&& 31))), (.int (0 : Int32)), (.ref b2)])) _
    refine XS.iconst X2.here hx rfl (hb hby d1_30) ?_
    show Steps p.tables e below (T2.setTop (mkF m 31 #[.val (.ref a0), .val (.ref b2), .val (.int (0 : Int32))] [(.int (2 : Int32)), (.ref a0), (.int ((x0_a0 &&& (255 : Int32)) <<< ((8 : Int32) &&& 31))), (.int (0 : Int32)), (.ref b2)])) _
    refine XS.iloadN X2.here hx rfl (hb hby d1_31) rfl ?_
    show Steps p.tables e below (T2.setTop (mkF m 32 #[.val (.ref a0), .val (.ref b2), .val (.int (0 : Int32))] [(.int (0 : Int32)), (.int (2 : Int32)), (.ref a0), (.int ((x0_a0 &&& (255 : Int32)) <<< ((8 : Int32) &&& 31))), (.int (0 : Int32)), (.ref b2)])) _
    refine XS.imul X2.here hx rfl (hb hby d1_32) rfl ?_
    show Steps p.tables e below (T2.setTop (mkF m 33 #[.val (.ref a0), .val (.ref b2), .val (.int (0 : Int32))] [(.int (0 : Int32)), (.ref a0), (.int ((x0_a0 &&& (255 : Int32)) <<< ((8 : Int32) &&& 31))), (.int (0 : Int32)), (.ref b2)])) _
    refine XS.iconst X2.here hx rfl (hb hby d1_33) ?_
    show Steps p.tables e below (T2.setTop (mkF m 34 #[.val (.ref a0), .val (.ref b2), .val (.int (0 : Int32))] [(.int (1 : Int32)), (.int (0 : Int32)), (.ref a0), (.int ((x0_a0 &&& (255 : Int32)) <<< ((8 : Int32) &&& 31))), (.int (0 : Int32)), (.ref b2)])) _
    refine XS.iadd X2.here hx rfl (hb hby d1_34) rfl ?_
    show Steps p.tables e below (T2.setTop (mkF m 35 #[.val (.ref a0), .val (.ref b2), .val (.int (0 : Int32))] [(.int (1 : Int32)), (.ref a0), (.int ((x0_a0 &&& (255 : Int32)) <<< ((8 : Int32) &&& 31))), (.int (0 : Int32)), (.ref b2)])) _
    refine X2.baloadBytes hx (j := (1 : Int32)) (v := (.int x1_a0)) (by rw [e2]; exact Ar6.1) (State.isArrayOf_alike hZ.alike Ar6.2.1) Ar6.2.2 hin6 hat6 (g := (mkF m 35 #[.val (.ref a0), .val (.ref b2), .val (.int (0 : Int32))] [(.int (1 : Int32)), (.ref a0), (.int ((x0_a0 &&& (255 : Int32)) <<< ((8 : Int32) &&& 31))), (.int (0 : Int32)), (.ref b2)])) rfl rfl (hb hby d1_35) _ ?_
    show Steps p.tables e below (T2.setTop (mkF m 36 #[.val (.ref a0), .val (.ref b2), .val (.int (0 : Int32))] [(.int x1_a0), (.int ((x0_a0 &&& (255 : Int32)) <<< ((8 : Int32) &&& 31))), (.int (0 : Int32)), (.ref b2)])) _
    refine XS.sipush X2.here hx rfl (hb hby d1_36) ?_
    show Steps p.tables e below (T2.setTop (mkF m 39 #[.val (.ref a0), .val (.ref b2), .val (.int (0 : Int32))] [(.int (255 : Int32)), (.int x1_a0), (.int ((x0_a0 &&& (255 : Int32)) <<< ((8 : Int32) &&& 31))), (.int (0 : Int32)), (.ref b2)])) _
    refine XS.iand X2.here hx rfl (hb hby d1_39) rfl ?_
    show Steps p.tables e below (T2.setTop (mkF m 40 #[.val (.ref a0), .val (.ref b2), .val (.int (0 : Int32))] [(.int (x1_a0 &&& (255 : Int32))), (.int ((x0_a0 &&& (255 : Int32)) <<< ((8 : Int32) &&& 31))), (.int (0 : Int32)), (.ref b2)])) _
    refine XS.ior X2.here hx rfl (hb hby d1_40) rfl ?_
    show Steps p.tables e below (T2.setTop (mkF m 41 #[.val (.ref a0), .val (.ref b2), .val (.int (0 : Int32))] [(.int (((x0_a0 &&& (255 : Int32)) <<< ((8 : Int32) &&& 31)) ||| (x1_a0 &&& (255 : Int32)))), (.int (0 : Int32)), (.ref b2)])) _
    refine st8 _ ?_
    show Steps p.tables e below (T8.setTop (mkF m 42 #[.val (.ref a0), .val (.ref b2), .val (.int (0 : Int32))] [])) _
    refine XS.iinc X8.here hx rfl (hb hby d1_42) rfl (l' := #[.val (.ref a0), .val (.ref b2), .val (.int ((0 : Int32) + (1 : Int32)))]) rfl ?_
    show Steps p.tables e below (T8.setTop (mkF m 45 #[.val (.ref a0), .val (.ref b2), .val (.int (1 : Int32))] [])) _
    refine XS.goto X8.here hx rfl (pc0 := 45) (pc' := 9) rfl (hb hby d1_45) (by decide) (by decide) ?_
    show Steps p.tables e below (T8.setTop (mkF m 9 #[.val (.ref a0), .val (.ref b2), .val (.int (1 : Int32))] [])) _
    refine XS.iloadN X8.here hx rfl (hb hby d1_9) rfl ?_
    show Steps p.tables e below (T8.setTop (mkF m 10 #[.val (.ref a0), .val (.ref b2), .val (.int (1 : Int32))] [(.int (1 : Int32))])) _
    refine XS.aloadN X8.here hx rfl (hb hby d1_10) rfl rfl ?_
    show Steps p.tables e below (T8.setTop (mkF m 11 #[.val (.ref a0), .val (.ref b2), .val (.int (1 : Int32))] [(.ref b2), (.int (1 : Int32))])) _
    refine X8.arraylength hx (by rw [e8]; exact Ar9.1) (State.isArrayOf_alike hZ.alike Ar9.2.1) (g := (mkF m 11 #[.val (.ref a0), .val (.ref b2), .val (.int (1 : Int32))] [(.ref b2), (.int (1 : Int32))])) rfl rfl (hb hby d1_11) _ ?_
    rw [len_of S9 M9]
    show Steps p.tables e below (T8.setTop (mkF m 12 #[.val (.ref a0), .val (.ref b2), .val (.int (1 : Int32))] [(.int (2 : Int32)), (.int (1 : Int32))])) _
    refine XS.icmpNo X8.here hx rfl (hb hby d1_12) rfl (tlt (by decide : (1 : Int32) < (2 : Int32))).2.1 ?_
    show Steps p.tables e below (T8.setTop (mkF m 15 #[.val (.ref a0), .val (.ref b2), .val (.int (1 : Int32))] [])) _
    refine XS.aloadN X8.here hx rfl (hb hby d1_15) rfl rfl ?_
    show Steps p.tables e below (T8.setTop (mkF m 16 #[.val (.ref a0), .val (.ref b2), .val (.int (1 : Int32))] [(.ref b2)])) _
    refine XS.iloadN X8.here hx rfl (hb hby d1_16) rfl ?_
    show Steps p.tables e below (T8.setTop (mkF m 17 #[.val (.ref a0), .val (.ref b2), .val (.int (1 : Int32))] [(.int (1 : Int32)), (.ref b2)])) _
    refine XS.aloadN X8.here hx rfl (hb hby d1_17) rfl rfl ?_
    show Steps p.tables e below (T8.setTop (mkF m 18 #[.val (.ref a0), .val (.ref b2), .val (.int (1 : Int32))] [(.ref a0), (.int (1 : Int32)), (.ref b2)])) _
    refine XS.iconst X8.here hx rfl (hb hby d1_18) ?_
    show Steps p.tables e below (T8.setTop (mkF m 19 #[.val (.ref a0), .val (.ref b2), .val (.int (1 : Int32))] [(.int (2 : Int32)), (.ref a0), (.int (1 : Int32)), (.ref b2)])) _
    refine XS.iloadN X8.here hx rfl (hb hby d1_19) rfl ?_
    show Steps p.tables e below (T8.setTop (mkF m 20 #[.val (.ref a0), .val (.ref b2), .val (.int (1 : Int32))] [(.int (1 : Int32)), (.int (2 : Int32)), (.ref a0), (.int (1 : Int32)), (.ref b2)])) _
    refine XS.imul X8.here hx rfl (hb hby d1_20) rfl ?_
    show Steps p.tables e below (T8.setTop (mkF m 21 #[.val (.ref a0), .val (.ref b2), .val (.int (1 : Int32))] [(.int (2 : Int32)), (.ref a0), (.int (1 : Int32)), (.ref b2)])) _
    refine X8.baloadBytes hx (j := (2 : Int32)) (v := (.int x2_a0)) (by rw [e8]; exact Ar11.1) (State.isArrayOf_alike hZ.alike Ar11.2.1) Ar11.2.2 hin11 hat11 (g := (mkF m 21 #[.val (.ref a0), .val (.ref b2), .val (.int (1 : Int32))] [(.int (2 : Int32)), (.ref a0), (.int (1 : Int32)), (.ref b2)])) rfl rfl (hb hby d1_21) _ ?_
    show Steps p.tables e below (T8.setTop (mkF m 22 #[.val (.ref a0), .val (.ref b2), .val (.int (1 : Int32))] [(.int x2_a0), (.int (1 : Int32)), (.ref b2)])) _
    refine XS.sipush X8.here hx rfl (hb hby d1_22) ?_
    show Steps p.tables e below (T8.setTop (mkF m 25 #[.val (.ref a0), .val (.ref b2), .val (.int (1 : Int32))] [(.int (255 : Int32)), (.int x2_a0), (.int (1 : Int32)), (.ref b2)])) _
    refine XS.iand X8.here hx rfl (hb hby d1_25) rfl ?_
    show Steps p.tables e below (T8.setTop (mkF m 26 #[.val (.ref a0), .val (.ref b2), .val (.int (1 : Int32))] [(.int (x2_a0 &&& (255 : Int32))), (.int (1 : Int32)), (.ref b2)])) _
    refine XS.bipush X8.here hx rfl (hb hby d1_26) ?_
    show Steps p.tables e below (T8.setTop (mkF m 28 #[.val (.ref a0), .val (.ref b2), .val (.int (1 : Int32))] [(.int (8 : Int32)), (.int (x2_a0 &&& (255 : Int32))), (.int (1 : Int32)), (.ref b2)])) _
    refine XS.ishl X8.here hx rfl (hb hby d1_28) rfl ?_
    show Steps p.tables e below (T8.setTop (mkF m 29 #[.val (.ref a0), .val (.ref b2), .val (.int (1 : Int32))] [(.int ((x2_a0 &&& (255 : Int32)) <<< ((8 : Int32) &&& 31))), (.int (1 : Int32)), (.ref b2)])) _
    refine XS.aloadN X8.here hx rfl (hb hby d1_29) rfl rfl ?_
    show Steps p.tables e below (T8.setTop (mkF m 30 #[.val (.ref a0), .val (.ref b2), .val (.int (1 : Int32))] [(.ref a0), (.int ((x2_a0 &&& (255 : Int32)) <<< ((8 : Int32) &&& 31))), (.int (1 : Int32)), (.ref b2)])) _
    refine XS.iconst X8.here hx rfl (hb hby d1_30) ?_
    show Steps p.tables e below (T8.setTop (mkF m 31 #[.val (.ref a0), .val (.ref b2), .val (.int (1 : Int32))] [(.int (2 : Int32)), (.ref a0), (.int ((x2_a0 &&& (255 : Int32)) <<< ((8 : Int32) &&& 31))), (.int (1 : Int32)), (.ref b2)])) _
    refine XS.iloadN X8.here hx rfl (hb hby d1_31) rfl ?_
    show Steps p.tables e below (T8.setTop (mkF m 32 #[.val (.ref a0), .val (.ref b2), .val (.int (1 : Int32))] [(.int (1 : Int32)), (.int (2 : Int32)), (.ref a0), (.int ((x2_a0 &&& (255 : Int32)) <<< ((8 : Int32) &&& 31))), (.int (1 : Int32)), (.ref b2)])) _
    refine XS.imul X8.here hx rfl (hb hby d1_32) rfl ?_
    show Steps p.tables e below (T8.setTop (mkF m 33 #[.val (.ref a0), .val (.ref b2), .val (.int (1 : Int32))] [(.int (2 : Int32)), (.ref a0), (.int ((x2_a0 &&& (255 : Int32)) <<< ((8 : Int32) &&& 31))), (.int (1 : Int32)), (.ref b2)])) _
    refine XS.iconst X8.here hx rfl (hb hby d1_33) ?_
    show Steps p.tables e below (T8.setTop (mkF m 34 #[.val (.ref a0), .val (.ref b2), .val (.int (1 : Int32))] [(.int (1 : Int32)), (.int (2 : Int32)), (.ref a0), (.int ((x2_a0 &&& (255 : Int32)) <<< ((8 : Int32) &&& 31))), (.int (1 : Int32)), (.ref b2)])) _
    refine XS.iadd X8.here hx rfl (hb hby d1_34) rfl ?_
    show Steps p.tables e below (T8.setTop (mkF m 35 #[.val (.ref a0), .val (.ref b2), .val (.int (1 : Int32))] [(.int (3 : Int32)), (.ref a0), (.int ((x2_a0 &&& (255 : Int32)) <<< ((8 : Int32) &&& 31))), (.int (1 : Int32)), (.ref b2)])) _
    refine X8.baloadBytes hx (j := (3 : Int32)) (v := (.int x3_a0)) (by rw [e8]; exact Ar12.1) (State.isArrayOf_alike hZ.alike Ar12.2.1) Ar12.2.2 hin12 hat12 (g := (mkF m 35 #[.val (.ref a0), .val (.ref b2), .val (.int (1 : Int32))] [(.int (3 : Int32)), (.ref a0), (.int ((x2_a0 &&& (255 : Int32)) <<< ((8 : Int32) &&& 31))), (.int (1 : Int32)), (.ref b2)])) rfl rfl (hb hby d1_35) _ ?_
    show Steps p.tables e below (T8.setTop (mkF m 36 #[.val (.ref a0), .val (.ref b2), .val (.int (1 : Int32))] [(.int x3_a0), (.int ((x2_a0 &&& (255 : Int32)) <<< ((8 : Int32) &&& 31))), (.int (1 : Int32)), (.ref b2)])) _
    refine XS.sipush X8.here hx rfl (hb hby d1_36) ?_
    show Steps p.tables e below (T8.setTop (mkF m 39 #[.val (.ref a0), .val (.ref b2), .val (.int (1 : Int32))] [(.int (255 : Int32)), (.int x3_a0), (.int ((x2_a0 &&& (255 : Int32)) <<< ((8 : Int32) &&& 31))), (.int (1 : Int32)), (.ref b2)])) _
    refine XS.iand X8.here hx rfl (hb hby d1_39) rfl ?_
    show Steps p.tables e below (T8.setTop (mkF m 40 #[.val (.ref a0), .val (.ref b2), .val (.int (1 : Int32))] [(.int (x3_a0 &&& (255 : Int32))), (.int ((x2_a0 &&& (255 : Int32)) <<< ((8 : Int32) &&& 31))), (.int (1 : Int32)), (.ref b2)])) _
    refine XS.ior X8.here hx rfl (hb hby d1_40) rfl ?_
    show Steps p.tables e below (T8.setTop (mkF m 41 #[.val (.ref a0), .val (.ref b2), .val (.int (1 : Int32))] [(.int (((x2_a0 &&& (255 : Int32)) <<< ((8 : Int32) &&& 31)) ||| (x3_a0 &&& (255 : Int32)))), (.int (1 : Int32)), (.ref b2)])) _
    refine st14 _ ?_
    show Steps p.tables e below (T14.setTop (mkF m 42 #[.val (.ref a0), .val (.ref b2), .val (.int (1 : Int32))] [])) _
    refine XS.iinc X14.here hx rfl (hb hby d1_42) rfl (l' := #[.val (.ref a0), .val (.ref b2), .val (.int ((1 : Int32) + (1 : Int32)))]) rfl ?_
    show Steps p.tables e below (T14.setTop (mkF m 45 #[.val (.ref a0), .val (.ref b2), .val (.int (2 : Int32))] [])) _
    refine XS.goto X14.here hx rfl (pc0 := 45) (pc' := 9) rfl (hb hby d1_45) (by decide) (by decide) ?_
    show Steps p.tables e below (T14.setTop (mkF m 9 #[.val (.ref a0), .val (.ref b2), .val (.int (2 : Int32))] [])) _
    refine XS.iloadN X14.here hx rfl (hb hby d1_9) rfl ?_
    show Steps p.tables e below (T14.setTop (mkF m 10 #[.val (.ref a0), .val (.ref b2), .val (.int (2 : Int32))] [(.int (2 : Int32))])) _
    refine XS.aloadN X14.here hx rfl (hb hby d1_10) rfl rfl ?_
    show Steps p.tables e below (T14.setTop (mkF m 11 #[.val (.ref a0), .val (.ref b2), .val (.int (2 : Int32))] [(.ref b2), (.int (2 : Int32))])) _
    refine X14.arraylength hx (by rw [e14]; exact Ar15.1) (State.isArrayOf_alike hZ.alike Ar15.2.1) (g := (mkF m 11 #[.val (.ref a0), .val (.ref b2), .val (.int (2 : Int32))] [(.ref b2), (.int (2 : Int32))])) rfl rfl (hb hby d1_11) _ ?_
    rw [len_of S15 M15]
    show Steps p.tables e below (T14.setTop (mkF m 12 #[.val (.ref a0), .val (.ref b2), .val (.int (2 : Int32))] [(.int (2 : Int32)), (.int (2 : Int32))])) _
    refine XS.icmpYes X14.here hx rfl (pc0 := 12) (pc' := 48) rfl (hb hby d1_12) rfl (flt (by decide : ¬ ((2 : Int32) < (2 : Int32)))).2.1 (by decide) (by decide) ?_
    show Steps p.tables e below (T14.setTop (mkF m 48 #[.val (.ref a0), .val (.ref b2), .val (.int (2 : Int32))] [])) _
    refine XS.aloadN X14.here hx rfl (hb hby d1_48) rfl rfl ?_
    exact k)
  obtain ⟨fs, hr, hrun, hended, hW, hsame⟩ := X14.leave (v := some (.ref b2)) (fun h => by rw [Bd.returns] at h; cases h) hlk
  exact ⟨_, _, pre16 _ (by jvm_step X14.here [X14.here.top, hx, (hb hby d1_49), X14.method', Bd.returns, Value.isRef, FieldType.isReference]; (first | (intro acts; rw [hr _ acts rfl rfl rfl]) | rw [hr _ _ rfl rfl rfl]); exact Steps.refl _), hrun, hended, _, _, rfl, (by show Q1_2 Z a0 x0_a0 x1_a0 x2_a0 x3_a0 k_a0 h0 n0 _ T14.heap _; rw [e14]; exact ⟨b2, rfl, N14, sz_b2, g_b2, KC14, ⟨_, V14⟩⟩), ⟨_, rfl⟩, hW, hsame.mono (by decide) (by decide)⟩
theorem ef1_3 (m : MethodId) (x0 : Addr) : entryFrame m #[(.ref x0)] 3 = mkF m 0 #[.val (.ref x0), .unset, .unset] [] := by first | (simp [entryFrame, mkF, argsToLocals, Value.category]; done) | rfl
def Q1_3 (Z : State) (a0 : Addr) (x0_a0 : Int32) (x1_a0 : Int32) (x2_a0 : Int32) (x3_a0 : Int32) (x4_a0 : Int32) (x5_a0 : Int32) (k_a0 : ClassId) (h0 : Heap) (n0 : Nat) (v : Option Value) (h : Heap) (L : List Loc) : Prop := ∃ b : Addr, v = some (.ref b) ∧ Fr n0 L ∧ h0.size ≤ b ∧ n0 ≤ b ∧ Keep h0 h [] ∧ ∃ kk : ClassId, Arv Z h b kk .int (3 : Int32) [(.int (((x0_a0 &&& (255 : Int32)) <<< ((8 : Int32) &&& 31)) ||| (x1_a0 &&& (255 : Int32)))), (.int (((x2_a0 &&& (255 : Int32)) <<< ((8 : Int32) &&& 31)) ||| (x3_a0 &&& (255 : Int32)))), (.int (((x4_a0 &&& (255 : Int32)) <<< ((8 : Int32) &&& 31)) ||| (x5_a0 &&& (255 : Int32))))] (.int 0)
set_option maxRecDepth 65536 in
set_option maxHeartbeats 40000000 in
theorem rm1_3 (l : Launch) (Z : State) (a0' : Array Value) (hw : ∀ d ∈ tables_1, d.before a0' Z = true) (ws : List Jvm.Cond) (a0 : Addr) (x0_a0 : Int32) (x1_a0 : Int32) (x2_a0 : Int32) (x3_a0 : Int32) (x4_a0 : Int32) (x5_a0 : Int32) (k_a0 : ClassId) (h0 : Heap) (n0 : Nat) (Z0 : n0 ≤ h0.size) (V_a0 : Arv Z h0 a0 k_a0 .byte (6 : Int32) [(.int x0_a0), (.int x1_a0), (.int x2_a0), (.int x3_a0), (.int x4_a0), (.int x5_a0)] (.int 0)) :
    MetFree l (⟨"com/example/cardwarden/cardwarden/core/fs/FilePath", "fileIds", "([B)[I"⟩ : MethodName) (head1 (Jvm.Cond.code (⟨"com/example/cardwarden/cardwarden/core/fs/FilePath", "fileIds", "([B)[I"⟩ : MethodName) prog_27_method_5_code 3 (some (.array .int)) :: ws) ({ frames := 0, cells := 1, slots := 3, locals := 0 } : Room)) (fun a U => a = #[(.ref a0)] ∧ Z.Warmed39 U.vm ∧ U.heap = h0) (fun _ _ _ _ _ => True) (fun _ U o U' => ∃ v L, o = .returned v ∧ Q1_3 Z a0 x0_a0 x1_a0 x2_a0 x3_a0 x4_a0 x5_a0 k_a0 h0 n0 v U'.heap L ∧ FrameEnd U o U' L ({ frames := 0, cells := 1, slots := 3, locals := 0 } : Room).cells ({ frames := 0, cells := 1, slots := 3, locals := 0 } : Room).slots) := by
  refine MetFree.of_bodySF (plainFor_of_name pn0) hisR ?_
  intro p e s m args below meth c s₁ Bd hml0 hP hK
  obtain ⟨rfl, hZ, hh⟩ := hP
  have hx := Bd.exec
  have hby := Bd.bytes
  have hml : c.maxLocals = 3 := hml0
  have hown : s.vm.findClass "com/example/cardwarden/cardwarden/core/fs/FilePath" = some m.cls := findClass_of_methodNamed Bd.named
  have hnm := (name_of_methodNamed Bd.named Bd.method).1
  have X0 : Stand p l e ({ frames := 0, cells := 1, slots := 3, locals := 0 } : Room) s m #[(.ref a0)] below meth c s₁ [] 0 0 := Stand.of_body Bd
  have e0 : s₁.heap = h0 := by rw [← hh, Bd.state]; rfl
  have N0 := Fr.nil n0
  have hlk : meth.locks = false := by first | exact BodyLoose.notSynchronized Bd | exact Body.notSynchronized Bd
  have pre0 : ∀ t, Steps p.tables e below (s₁.setTop (mkF m 0 #[.val (.ref a0), .unset, .unset] [])) t → Steps p.tables e below (s₁.setTop (entryFrame m #[(.ref a0)] 3)) t := fun t k => castTop (ef1_3 m a0) k
  obtain ⟨cl1, Ar1, q1, S1, M1, H1, G1⟩ := id V_a0
  obtain ⟨T2, h2, k2, X2, e2, E2, A2, st2⟩ := newP X0 hx hZ (hw _ (List.mem_of_getElem? (i := 5) rfl)) e0 (g := (mkF m 4 #[.val (.ref a0), .unset, .unset] [(.int (3 : Int32))])) rfl (hb hby d1_4) rfl (by decide) (cap := 3) (by decide) (by decide) (by decide) (by decide)
  obtain ⟨b2, g2⟩ : ∃ z, z = h0.size := ⟨_, rfl⟩
  rw [← g2] at A2 st2
  have ne_a0_b2 : a0 ≠ b2 := Nat.ne_of_lt (Nat.lt_of_lt_of_le V_a0.lt (Nat.le_of_eq g2.symm))
  have g_b2 : n0 ≤ b2 := Nat.le_trans Z0 (Nat.le_of_eq g2.symm)
  have sz_b2 : h0.size ≤ b2 := Nat.le_trans (Keep.refl h0 []).1 (Nat.le_of_eq g2.symm)
  have Z2 : n0 ≤ h2.size := Nat.le_trans Z0 E2.1
  have KC2 : Keep h0 h2 [] := (Keep.refl h0 []).ext E2
  have V2 : Arv Z h2 b2 k2 .int (3 : Int32) [(.int (0 : Int32)), (.int (0 : Int32)), (.int (0 : Int32))] (.int (0 : Int32)) := (Arv.new A2 (by decide)).pad (pad_rep [] (.int (0 : Int32)) 3)
  obtain ⟨cl3, Ar3, q3, S3, M3, H3, G3⟩ := id V2
  have y4 := (V_a0.ext E2)
  obtain ⟨cl5, Ar5, q5, S5, M5, H5, G5⟩ := id y4
  have hin5 : ¬ ((0 : Int32) < 0 ∨ cl5.slots.size ≤ ((0 : Int32)).toNatClampNeg) := inb_of S5 ⟨by decide, by decide⟩
  have hat5 : cl5.slots[((0 : Int32)).toNatClampNeg]? = some (.int x0_a0) := H5.at hin5 rfl
  obtain ⟨cl6, Ar6, q6, S6, M6, H6, G6⟩ := id y4
  have hin6 : ¬ ((1 : Int32) < 0 ∨ cl6.slots.size ≤ ((1 : Int32)).toNatClampNeg) := inb_of S6 ⟨by decide, by decide⟩
  have hat6 : cl6.slots[((1 : Int32)).toNatClampNeg]? = some (.int x1_a0) := H6.at hin6 rfl
  obtain ⟨cl7, Ar7, q7, S7, M7, H7, G7⟩ := id V2
  have hin7 : ¬ ((0 : Int32) < 0 ∨ cl7.slots.size ≤ ((0 : Int32)).toNatClampNeg) := inb_of S7 ⟨by decide, by decide⟩
  obtain ⟨T8, h8, X8, e8, W8, st8⟩ := stI X2 hx hZ e2 Ar7 (j := (0 : Int32)) hin7 (g := (mkF m 41 #[.val (.ref a0), .val (.ref b2), .val (.int (0 : Int32))] [(.int (((x0_a0 &&& (255 : Int32)) <<< ((8 : Int32) &&& 31)) ||| (x1_a0 &&& (255 : Int32)))), (.int (0 : Int32)), (.ref b2)])) rfl rfl (hb hby d1_41)
  have Z8 : n0 ≤ h8.size := Nat.le_trans Z2 (Keep.of_wr W8).1
  have N8 := Fr.snoc X8 N0 g_b2
  have KC8 : Keep h0 h8 [] := KC2.wr W8 (Or.inr sz_b2)
  have V8 : Arv Z h8 b2 k2 .int (3 : Int32) [(.int (((x0_a0 &&& (255 : Int32)) <<< ((8 : Int32) &&& 31)) ||| (x1_a0 &&& (255 : Int32)))), (.int (0 : Int32)), (.int (0 : Int32))] (.int (0 : Int32)) := Arv.set Ar7 q7 S7 M7 H7 G7 rfl W8 0 rfl (Nat.le_of_ble_eq_true rfl)
  obtain ⟨cl9, Ar9, q9, S9, M9, H9, G9⟩ := id V8
  have y10 := (y4.other W8 ne_a0_b2)
  obtain ⟨cl11, Ar11, q11, S11, M11, H11, G11⟩ := id y10
  have hin11 : ¬ ((2 : Int32) < 0 ∨ cl11.slots.size ≤ ((2 : Int32)).toNatClampNeg) := inb_of S11 ⟨by decide, by decide⟩
  have hat11 : cl11.slots[((2 : Int32)).toNatClampNeg]? = some (.int x2_a0) := H11.at hin11 rfl
  obtain ⟨cl12, Ar12, q12, S12, M12, H12, G12⟩ := id y10
  have hin12 : ¬ ((3 : Int32) < 0 ∨ cl12.slots.size ≤ ((3 : Int32)).toNatClampNeg) := inb_of S12 ⟨by decide, by decide⟩
  have hat12 : cl12.slots[((3 : Int32)).toNatClampNeg]? = some (.int x3_a0) := H12.at hin12 rfl
  obtain ⟨cl13, Ar13, q13, S13, M13, H13, G13⟩ := id V8
  have hin13 : ¬ ((1 : Int32) < 0 ∨ cl13.slots.size ≤ ((1 : Int32)).toNatClampNeg) := inb_of S13 ⟨by decide, by decide⟩
  obtain ⟨T14, h14, X14, e14, W14, st14⟩ := stI X8 hx hZ e8 Ar13 (j := (1 : Int32)) hin13 (g := (mkF m 41 #[.val (.ref a0), .val (.ref b2), .val (.int (1 : Int32))] [(.int (((x2_a0 &&& (255 : Int32)) <<< ((8 : Int32) &&& 31)) ||| (x3_a0 &&& (255 : Int32)))), (.int (1 : Int32)), (.ref b2)])) rfl rfl (hb hby d1_41)
  have Z14 : n0 ≤ h14.size := Nat.le_trans Z8 (Keep.of_wr W14).1
  have N14 := Fr.snoc X14 N8 g_b2
  have KC14 : Keep h0 h14 [] := KC8.wr W14 (Or.inr sz_b2)
  have V14 : Arv Z h14 b2 k2 .int (3 : Int32) [(.int (((x0_a0 &&& (255 : Int32)) <<< ((8 : Int32) &&& 31)) ||| (x1_a0 &&& (255 : Int32)))), (.int (((x2_a0 &&& (255 : Int32)) <<< ((8 : Int32) &&& 31)) ||| (x3_a0 &&& (255 : Int32)))), (.int (0 : Int32))] (.int (0 : Int32)) := Arv.set Ar13 q13 S13 M13 H13 G13 rfl W14 1 rfl (Nat.le_of_ble_eq_true rfl)
  obtain ⟨cl15, Ar15, q15, S15, M15, H15, G15⟩ := id V14
  have y16 := (y10.other W14 ne_a0_b2)
  obtain ⟨cl17, Ar17, q17, S17, M17, H17, G17⟩ := id y16
  have hin17 : ¬ ((4 : Int32) < 0 ∨ cl17.slots.size ≤ ((4 : Int32)).toNatClampNeg) := inb_of S17 ⟨by decide, by decide⟩
  have hat17 : cl17.slots[((4 : Int32)).toNatClampNeg]? = some (.int x4_a0) := H17.at hin17 rfl
  obtain ⟨cl18, Ar18, q18, S18, M18, H18, G18⟩ := id y16
  have hin18 : ¬ ((5 : Int32) < 0 ∨ cl18.slots.size ≤ ((5 : Int32)).toNatClampNeg) := inb_of S18 ⟨by decide, by decide⟩
  have hat18 : cl18.slots[((5 : Int32)).toNatClampNeg]? = some (.int x5_a0) := H18.at hin18 rfl
  obtain ⟨cl19, Ar19, q19, S19, M19, H19, G19⟩ := id V14
  have hin19 : ¬ ((2 : Int32) < 0 ∨ cl19.slots.size ≤ ((2 : Int32)).toNatClampNeg) := inb_of S19 ⟨by decide, by decide⟩
  obtain ⟨T20, h20, X20, e20, W20, st20⟩ := stI X14 hx hZ e14 Ar19 (j := (2 : Int32)) hin19 (g := (mkF m 41 #[.val (.ref a0), .val (.ref b2), .val (.int (2 : Int32))] [(.int (((x4_a0 &&& (255 : Int32)) <<< ((8 : Int32) &&& 31)) ||| (x5_a0 &&& (255 : Int32)))), (.int (2 : Int32)), (.ref b2)])) rfl rfl (hb hby d1_41)
  have Z20 : n0 ≤ h20.size := Nat.le_trans Z14 (Keep.of_wr W20).1
  have N20 := Fr.snoc X20 N14 g_b2
  have KC20 : Keep h0 h20 [] := KC14.wr W20 (Or.inr sz_b2)
  have V20 : Arv Z h20 b2 k2 .int (3 : Int32) [(.int (((x0_a0 &&& (255 : Int32)) <<< ((8 : Int32) &&& 31)) ||| (x1_a0 &&& (255 : Int32)))), (.int (((x2_a0 &&& (255 : Int32)) <<< ((8 : Int32) &&& 31)) ||| (x3_a0 &&& (255 : Int32)))), (.int (((x4_a0 &&& (255 : Int32)) <<< ((8 : Int32) &&& 31)) ||| (x5_a0 &&& (255 : Int32))))] (.int (0 : Int32)) := Arv.set Ar19 q19 S19 M19 H19 G19 rfl W20 2 rfl (Nat.le_of_ble_eq_true rfl)
  obtain ⟨cl21, Ar21, q21, S21, M21, H21, G21⟩ := id V20
  have pre22 : ∀ t, Steps p.tables e below (T20.setTop (mkF m 49 #[.val (.ref a0), .val (.ref b2), .val (.int (3 : Int32))] [(.ref b2)])) t → Steps p.tables e below (s₁.setTop (entryFrame m #[(.ref a0)] 3)) t := fun t k => pre0 t (by
    show Steps p.tables e below (s₁.setTop (mkF m 0 #[.val (.ref a0), .unset, .unset] [])) _
    refine XS.aloadN X0.here hx rfl (hb hby d1_0) rfl rfl ?_
    show Steps p.tables e below (s₁.setTop (mkF m 1 #[.val (.ref a0), .unset, .unset] [(.ref a0)])) _
    refine X0.arraylength hx (by rw [e0]; exact Ar1.1) (State.isArrayOf_alike hZ.alike Ar1.2.1) (g := (mkF m 1 #[.val (.ref a0), .unset, .unset] [(.ref a0)])) rfl rfl (hb hby d1_1) _ ?_
    rw [len_of S1 M1]
    show Steps p.tables e below (s₁.setTop (mkF m 2 #[.val (.ref a0), .unset, .unset] [(.int (6 : Int32))])) _
    refine XS.iconst X0.here hx rfl (hb hby d1_2) ?_
    show Steps p.tables e below (s₁.setTop (mkF m 3 #[.val (.ref a0), .unset, .unset] [(.int (2 : Int32)), (.int (6 : Int32))])) _
    refine XS.idiv X0.here hx rfl (hb hby d1_3) rfl (by decide) ?_
    show Steps p.tables e below (s₁.setTop (mkF m 4 #[.val (.ref a0), .unset, .unset] [(.int (3 : Int32))])) _
    refine st2 _ ?_
    show Steps p.tables e below (T2.setTop (mkF m 6 #[.val (.ref a0), .unset, .unset] [(.ref b2)])) _
    refine XS.astoreN X2.here hx rfl (hb hby d1_6) rfl rfl (l' := #[.val (.ref a0), .val (.ref b2), .unset]) rfl ?_
    show Steps p.tables e below (T2.setTop (mkF m 7 #[.val (.ref a0), .val (.ref b2), .unset] [])) _
    refine XS.iconst X2.here hx rfl (hb hby d1_7) ?_
    show Steps p.tables e below (T2.setTop (mkF m 8 #[.val (.ref a0), .val (.ref b2), .unset] [(.int (0 : Int32))])) _
    refine XS.istoreN X2.here hx rfl (hb hby d1_8) rfl (l' := #[.val (.ref a0), .val (.ref b2), .val (.int (0 : Int32))]) rfl ?_
    show Steps p.tables e below (T2.setTop (mkF m 9 #[.val (.ref a0), .val (.ref b2), .val (.int (0 : Int32))] [])) _
    refine XS.iloadN X2.here hx rfl (hb hby d1_9) rfl ?_
    show Steps p.tables e below (T2.setTop (mkF m 10 #[.val (.ref a0), .val (.ref b2), .val (.int (0 : Int32))] [(.int (0 : Int32))])) _
    refine XS.aloadN X2.here hx rfl (hb hby d1_10) rfl rfl ?_
    show Steps p.tables e below (T2.setTop (mkF m 11 #[.val (.ref a0), .val (.ref b2), .val (.int (0 : Int32))] [(.ref b2), (.int (0 : Int32))])) _
    refine X2.arraylength hx (by rw [e2]; exact Ar3.1) (State.isArrayOf_alike hZ.alike Ar3.2.1) (g := (mkF m 11 #[.val (.ref a0), .val (.ref b2), .val (.int (0 : Int32))] [(.ref b2), (.int (0 : Int32))])) rfl rfl (hb hby d1_11) _ ?_
    rw [len_of S3 M3]
    show Steps p.tables e below (T2.setTop (mkF m 12 #[.val (.ref a0), .val (.ref b2), .val (.int (0 : Int32))] [(.int (3 : Int32)), (.int (0 : Int32))])) _
    refine XS.icmpNo X2.here hx rfl (hb hby d1_12) rfl (tlt (by decide : (0 : Int32) < (3 : Int32))).2.1 ?_
    show Steps p.tables e below (T2.setTop (mkF m 15 #[.val (.ref a0), .val (.ref b2), .val (.int (0 : Int32))] [])) _
    refine XS.aloadN X2.here hx rfl (hb hby d1_15) rfl rfl ?_
    show Steps p.tables e below (T2.setTop (mkF m 16 #[.val (.ref a0), .val (.ref b2), .val (.int (0 : Int32))] [(.ref b2)])) _
    refine XS.iloadN X2.here hx rfl (hb hby d1_16) rfl ?_
    show Steps p.tables e below (T2.setTop (mkF m 17 #[.val (.ref a0), .val (.ref b2), .val (.int (0 : Int32))] [(.int (0 : Int32)), (.ref b2)])) _
    refine XS.aloadN X2.here hx rfl (hb hby d1_17) rfl rfl ?_
    show Steps p.tables e below (T2.setTop (mkF m 18 #[.val (.ref a0), .val (.ref b2), .val (.int (0 : Int32))] [(.ref a0), (.int (0 : Int32)), (.ref b2)])) _
    refine XS.iconst X2.here hx rfl (hb hby d1_18) ?_
    show Steps p.tables e below (T2.setTop (mkF m 19 #[.val (.ref a0), .val (.ref b2), .val (.int (0 : Int32))] [(.int (2 : Int32)), (.ref a0), (.int (0 : Int32)), (.ref b2)])) _
    refine XS.iloadN X2.here hx rfl (hb hby d1_19) rfl ?_
    show Steps p.tables e below (T2.setTop (mkF m 20 #[.val (.ref a0), .val (.ref b2), .val (.int (0 : Int32))] [(.int (0 : Int32)), (.int (2 : Int32)), (.ref a0), (.int (0 : Int32)), (.ref b2)])) _
    refine XS.imul X2.here hx rfl (hb hby d1_20) rfl ?_
    show Steps p.tables e below (T2.setTop (mkF m 21 #[.val (.ref a0), .val (.ref b2), .val (.int (0 : Int32))] [(.int (0 : Int32)), (.ref a0), (.int (0 : Int32)), (.ref b2)])) _
    refine X2.baloadBytes hx (j := (0 : Int32)) (v := (.int x0_a0)) (by rw [e2]; exact Ar5.1) (State.isArrayOf_alike hZ.alike Ar5.2.1) Ar5.2.2 hin5 hat5 (g := (mkF m 21 #[.val (.ref a0), .val (.ref b2), .val (.int (0 : Int32))] [(.int (0 : Int32)), (.ref a0), (.int (0 : Int32)), (.ref b2)])) rfl rfl (hb hby d1_21) _ ?_
    show Steps p.tables e below (T2.setTop (mkF m 22 #[.val (.ref a0), .val (.ref b2), .val (.int (0 : Int32))] [(.int x0_a0), (.int (0 : Int32)), (.ref b2)])) _
    refine XS.sipush X2.here hx rfl (hb hby d1_22) ?_
    show Steps p.tables e below (T2.setTop (mkF m 25 #[.val (.ref a0), .val (.ref b2), .val (.int (0 : Int32))] [(.int (255 : Int32)), (.int x0_a0), (.int (0 : Int32)), (.ref b2)])) _
    refine XS.iand X2.here hx rfl (hb hby d1_25) rfl ?_
    show Steps p.tables e below (T2.setTop (mkF m 26 #[.val (.ref a0), .val (.ref b2), .val (.int (0 : Int32))] [(.int (x0_a0 &&& (255 : Int32))), (.int (0 : Int32)), (.ref b2)])) _
    refine XS.bipush X2.here hx rfl (hb hby d1_26) ?_
    show Steps p.tables e below (T2.setTop (mkF m 28 #[.val (.ref a0), .val (.ref b2), .val (.int (0 : Int32))] [(.int (8 : Int32)), (.int (x0_a0 &&& (255 : Int32))), (.int (0 : Int32)), (.ref b2)])) _
    refine XS.ishl X2.here hx rfl (hb hby d1_28) rfl ?_
    show Steps p.tables e below (T2.setTop (mkF m 29 #[.val (.ref a0), .val (.ref b2), .val (.int (0 : Int32))] [(.int ((x0_a0 &&& (255 : Int32)) <<< ((8 : Int32) &&& 31))), (.int (0 : Int32)), (.ref b2)])) _
    refine XS.aloadN X2.here hx rfl (hb hby d1_29) rfl rfl ?_
    show Steps p.tables e below (T2.setTop (mkF m 30 #[.val (.ref a0), .val (.ref b2), .val (.int (0 : Int32))] [(.ref a0), (.int ((x0_a0 &&& (255 : Int32)) <<< ((8 : Int32) &&& 31))), (.int (0 : Int32)), (.ref b2)])) _
    refine XS.iconst X2.here hx rfl (hb hby d1_30) ?_
    show Steps p.tables e below (T2.setTop (mkF m 31 #[.val (.ref a0), .val (.ref b2), .val (.int (0 : Int32))] [(.int (2 : Int32)), (.ref a0), (.int ((x0_a0 &&& (255 : Int32)) <<< ((8 : Int32) &&& 31))), (.int (0 : Int32)), (.ref b2)])) _
    refine XS.iloadN X2.here hx rfl (hb hby d1_31) rfl ?_
    show Steps p.tables e below (T2.setTop (mkF m 32 #[.val (.ref a0), .val (.ref b2), .val (.int (0 : Int32))] [(.int (0 : Int32)), (.int (2 : Int32)), (.ref a0), (.int ((x0_a0 &&& (255 : Int32)) <<< ((8 : Int32) &&& 31))), (.int (0 : Int32)), (.ref b2)])) _
    refine XS.imul X2.here hx rfl (hb hby d1_32) rfl ?_
    show Steps p.tables e below (T2.setTop (mkF m 33 #[.val (.ref a0), .val (.ref b2), .val (.int (0 : Int32))] [(.int (0 : Int32)), (.ref a0), (.int ((x0_a0 &&& (255 : Int32)) <<< ((8 : Int32) &&& 31))), (.int (0 : Int32)), (.ref b2)])) _
    refine XS.iconst X2.here hx rfl (hb hby d1_33) ?_
    show Steps p.tables e below (T2.setTop (mkF m 34 #[.val (.ref a0), .val (.ref b2), .val (.int (0 : Int32))] [(.int (1 : Int32)), (.int (0 : Int32)), (.ref a0), (.int ((x0_a0 &&& (255 : Int32)) <<< ((8 : Int32) &&& 31))), (.int (0 : Int32)), (.ref b2)])) _
    refine XS.iadd X2.here hx rfl (hb hby d1_34) rfl ?_
    show Steps p.tables e below (T2.setTop (mkF m 35 #[.val (.ref a0), .val (.ref b2), .val (.int (0 : Int32))] [(.int (1 : Int32)), (.ref a0), (.int ((x0_a0 &&& (255 : Int32)) <<< ((8 : Int32) &&& 31))), (.int (0 : Int32)), (.ref b2)])) _
    refine X2.baloadBytes hx (j := (1 : Int32)) (v := (.int x1_a0)) (by rw [e2]; exact Ar6.1) (State.isArrayOf_alike hZ.alike Ar6.2.1) Ar6.2.2 hin6 hat6 (g := (mkF m 35 #[.val (.ref a0), .val (.ref b2), .val (.int (0 : Int32))] [(.int (1 : Int32)), (.ref a0), (.int ((x0_a0 &&& (255 : Int32)) <<< ((8 : Int32) &&& 31))), (.int (0 : Int32)), (.ref b2)])) rfl rfl (hb hby d1_35) _ ?_
    show Steps p.tables e below (T2.setTop (mkF m 36 #[.val (.ref a0), .val (.ref b2), .val (.int (0 : Int32))] [(.int x1_a0), (.int ((x0_a0 &&& (255 : Int32)) <<< ((8 : Int32) &&& 31))), (.int (0 : Int32)), (.ref b2)])) _
    refine XS.sipush X2.here hx rfl (hb hby d1_36) ?_
    show Steps p.tables e below (T2.setTop (mkF m 39 #[.val (.ref a0), .val (.ref b2), .val (.int (0 : Int32))] [(.int (255 : Int32)), (.int x1_a0), (.int ((x0_a0 &&& (255 : Int32)) <<< ((8 : Int32) &&& 31))), (.int (0 : Int32)), (.ref b2)])) _
    refine XS.iand X2.here hx rfl (hb hby d1_39) rfl ?_
    show Steps p.tables e below (T2.setTop (mkF m 40 #[.val (.ref a0), .val (.ref b2), .val (.int (0 : Int32))] [(.int (x1_a0 &&& (255 : Int32))), (.int ((x0_a0 &&& (255 : Int32)) <<< ((8 : Int32) &&& 31))), (.int (0 : Int32)), (.ref b2)])) _
    refine XS.ior X2.here hx rfl (hb hby d1_40) rfl ?_
    show Steps p.tables e below (T2.setTop (mkF m 41 #[.val (.ref a0), .val (.ref b2), .val (.int (0 : Int32))] [(.int (((x0_a0 &&& (255 : Int32)) <<< ((8 : Int32) &&& 31)) ||| (x1_a0 &&& (255 : Int32)))), (.int (0 : Int32)), (.ref b2)])) _
    refine st8 _ ?_
    show Steps p.tables e below (T8.setTop (mkF m 42 #[.val (.ref a0), .val (.ref b2), .val (.int (0 : Int32))] [])) _
    refine XS.iinc X8.here hx rfl (hb hby d1_42) rfl (l' := #[.val (.ref a0), .val (.ref b2), .val (.int ((0 : Int32) + (1 : Int32)))]) rfl ?_
    show Steps p.tables e below (T8.setTop (mkF m 45 #[.val (.ref a0), .val (.ref b2), .val (.int (1 : Int32))] [])) _
    refine XS.goto X8.here hx rfl (pc0 := 45) (pc' := 9) rfl (hb hby d1_45) (by decide) (by decide) ?_
    show Steps p.tables e below (T8.setTop (mkF m 9 #[.val (.ref a0), .val (.ref b2), .val (.int (1 : Int32))] [])) _
    refine XS.iloadN X8.here hx rfl (hb hby d1_9) rfl ?_
    show Steps p.tables e below (T8.setTop (mkF m 10 #[.val (.ref a0), .val (.ref b2), .val (.int (1 : Int32))] [(.int (1 : Int32))])) _
    refine XS.aloadN X8.here hx rfl (hb hby d1_10) rfl rfl ?_
    show Steps p.tables e below (T8.setTop (mkF m 11 #[.val (.ref a0), .val (.ref b2), .val (.int (1 : Int32))] [(.ref b2), (.int (1 : Int32))])) _
    refine X8.arraylength hx (by rw [e8]; exact Ar9.1) (State.isArrayOf_alike hZ.alike Ar9.2.1) (g := (mkF m 11 #[.val (.ref a0), .val (.ref b2), .val (.int (1 : Int32))] [(.ref b2), (.int (1 : Int32))])) rfl rfl (hb hby d1_11) _ ?_
    rw [len_of S9 M9]
    show Steps p.tables e below (T8.setTop (mkF m 12 #[.val (.ref a0), .val (.ref b2), .val (.int (1 : Int32))] [(.int (3 : Int32)), (.int (1 : Int32))])) _
    refine XS.icmpNo X8.here hx rfl (hb hby d1_12) rfl (tlt (by decide : (1 : Int32) < (3 : Int32))).2.1 ?_
    show Steps p.tables e below (T8.setTop (mkF m 15 #[.val (.ref a0), .val (.ref b2), .val (.int (1 : Int32))] [])) _
    refine XS.aloadN X8.here hx rfl (hb hby d1_15) rfl rfl ?_
    show Steps p.tables e below (T8.setTop (mkF m 16 #[.val (.ref a0), .val (.ref b2), .val (.int (1 : Int32))] [(.ref b2)])) _
    refine XS.iloadN X8.here hx rfl (hb hby d1_16) rfl ?_
    show Steps p.tables e below (T8.setTop (mkF m 17 #[.val (.ref a0), .val (.ref b2), .val (.int (1 : Int32))] [(.int (1 : Int32)), (.ref b2)])) _
    refine XS.aloadN X8.here hx rfl (hb hby d1_17) rfl rfl ?_
    show Steps p.tables e below (T8.setTop (mkF m 18 #[.val (.ref a0), .val (.ref b2), .val (.int (1 : Int32))] [(.ref a0), (.int (1 : Int32)), (.ref b2)])) _
    refine XS.iconst X8.here hx rfl (hb hby d1_18) ?_
    show Steps p.tables e below (T8.setTop (mkF m 19 #[.val (.ref a0), .val (.ref b2), .val (.int (1 : Int32))] [(.int (2 : Int32)), (.ref a0), (.int (1 : Int32)), (.ref b2)])) _
    refine XS.iloadN X8.here hx rfl (hb hby d1_19) rfl ?_
    show Steps p.tables e below (T8.setTop (mkF m 20 #[.val (.ref a0), .val (.ref b2), .val (.int (1 : Int32))] [(.int (1 : Int32)), (.int (2 : Int32)), (.ref a0), (.int (1 : Int32)), (.ref b2)])) _
    refine XS.imul X8.here hx rfl (hb hby d1_20) rfl ?_
    show Steps p.tables e below (T8.setTop (mkF m 21 #[.val (.ref a0), .val (.ref b2), .val (.int (1 : Int32))] [(.int (2 : Int32)), (.ref a0), (.int (1 : Int32)), (.ref b2)])) _
    refine X8.baloadBytes hx (j := (2 : Int32)) (v := (.int x2_a0)) (by rw [e8]; exact Ar11.1) (State.isArrayOf_alike hZ.alike Ar11.2.1) Ar11.2.2 hin11 hat11 (g := (mkF m 21 #[.val (.ref a0), .val (.ref b2), .val (.int (1 : Int32))] [(.int (2 : Int32)), (.ref a0), (.int (1 : Int32)), (.ref b2)])) rfl rfl (hb hby d1_21) _ ?_
    show Steps p.tables e below (T8.setTop (mkF m 22 #[.val (.ref a0), .val (.ref b2), .val (.int (1 : Int32))] [(.int x2_a0), (.int (1 : Int32)), (.ref b2)])) _
    refine XS.sipush X8.here hx rfl (hb hby d1_22) ?_
    show Steps p.tables e below (T8.setTop (mkF m 25 #[.val (.ref a0), .val (.ref b2), .val (.int (1 : Int32))] [(.int (255 : Int32)), (.int x2_a0), (.int (1 : Int32)), (.ref b2)])) _
    refine XS.iand X8.here hx rfl (hb hby d1_25) rfl ?_
    show Steps p.tables e below (T8.setTop (mkF m 26 #[.val (.ref a0), .val (.ref b2), .val (.int (1 : Int32))] [(.int (x2_a0 &&& (255 : Int32))), (.int (1 : Int32)), (.ref b2)])) _
    refine XS.bipush X8.here hx rfl (hb hby d1_26) ?_
    show Steps p.tables e below (T8.setTop (mkF m 28 #[.val (.ref a0), .val (.ref b2), .val (.int (1 : Int32))] [(.int (8 : Int32)), (.int (x2_a0 &&& (255 : Int32))), (.int (1 : Int32)), (.ref b2)])) _
    refine XS.ishl X8.here hx rfl (hb hby d1_28) rfl ?_
    show Steps p.tables e below (T8.setTop (mkF m 29 #[.val (.ref a0), .val (.ref b2), .val (.int (1 : Int32))] [(.int ((x2_a0 &&& (255 : Int32)) <<< ((8 : Int32) &&& 31))), (.int (1 : Int32)), (.ref b2)])) _
    refine XS.aloadN X8.here hx rfl (hb hby d1_29) rfl rfl ?_
    show Steps p.tables e below (T8.setTop (mkF m 30 #[.val (.ref a0), .val (.ref b2), .val (.int (1 : Int32))] [(.ref a0), (.int ((x2_a0 &&& (255 : Int32)) <<< ((8 : Int32) &&& 31))), (.int (1 : Int32)), (.ref b2)])) _
    refine XS.iconst X8.here hx rfl (hb hby d1_30) ?_
    show Steps p.tables e below (T8.setTop (mkF m 31 #[.val (.ref a0), .val (.ref b2), .val (.int (1 : Int32))] [(.int (2 : Int32)), (.ref a0), (.int ((x2_a0 &&& (255 : Int32)) <<< ((8 : Int32) &&& 31))), (.int (1 : Int32)), (.ref b2)])) _
    refine XS.iloadN X8.here hx rfl (hb hby d1_31) rfl ?_
    show Steps p.tables e below (T8.setTop (mkF m 32 #[.val (.ref a0), .val (.ref b2), .val (.int (1 : Int32))] [(.int (1 : Int32)), (.int (2 : Int32)), (.ref a0), (.int ((x2_a0 &&& (255 : Int32)) <<< ((8 : Int32) &&& 31))), (.int (1 : Int32)), (.ref b2)])) _
    refine XS.imul X8.here hx rfl (hb hby d1_32) rfl ?_
    show Steps p.tables e below (T8.setTop (mkF m 33 #[.val (.ref a0), .val (.ref b2), .val (.int (1 : Int32))] [(.int (2 : Int32)), (.ref a0), (.int ((x2_a0 &&& (255 : Int32)) <<< ((8 : Int32) &&& 31))), (.int (1 : Int32)), (.ref b2)])) _
    refine XS.iconst X8.here hx rfl (hb hby d1_33) ?_
    show Steps p.tables e below (T8.setTop (mkF m 34 #[.val (.ref a0), .val (.ref b2), .val (.int (1 : Int32))] [(.int (1 : Int32)), (.int (2 : Int32)), (.ref a0), (.int ((x2_a0 &&& (255 : Int32)) <<< ((8 : Int32) &&& 31))), (.int (1 : Int32)), (.ref b2)])) _
    refine XS.iadd X8.here hx rfl (hb hby d1_34) rfl ?_
    show Steps p.tables e below (T8.setTop (mkF m 35 #[.val (.ref a0), .val (.ref b2), .val (.int (1 : Int32))] [(.int (3 : Int32)), (.ref a0), (.int ((x2_a0 &&& (255 : Int32)) <<< ((8 : Int32) &&& 31))), (.int (1 : Int32)), (.ref b2)])) _
    refine X8.baloadBytes hx (j := (3 : Int32)) (v := (.int x3_a0)) (by rw [e8]; exact Ar12.1) (State.isArrayOf_alike hZ.alike Ar12.2.1) Ar12.2.2 hin12 hat12 (g := (mkF m 35 #[.val (.ref a0), .val (.ref b2), .val (.int (1 : Int32))] [(.int (3 : Int32)), (.ref a0), (.int ((x2_a0 &&& (255 : Int32)) <<< ((8 : Int32) &&& 31))), (.int (1 : Int32)), (.ref b2)])) rfl rfl (hb hby d1_35) _ ?_
    show Steps p.tables e below (T8.setTop (mkF m 36 #[.val (.ref a0), .val (.ref b2), .val (.int (1 : Int32))] [(.int x3_a0), (.int ((x2_a0 &&& (255 : Int32)) <<< ((8 : Int32) &&& 31))), (.int (1 : Int32)), (.ref b2)])) _
    refine XS.sipush X8.here hx rfl (hb hby d1_36) ?_
    show Steps p.tables e below (T8.setTop (mkF m 39 #[.val (.ref a0), .val (.ref b2), .val (.int (1 : Int32))] [(.int (255 : Int32)), (.int x3_a0), (.int ((x2_a0 &&& (255 : Int32)) <<< ((8 : Int32) &&& 31))), (.int (1 : Int32)), (.ref b2)])) _
    refine XS.iand X8.here hx rfl (hb hby d1_39) rfl ?_
    show Steps p.tables e below (T8.setTop (mkF m 40 #[.val (.ref a0), .val (.ref b2), .val (.int (1 : Int32))] [(.int (x3_a0 &&& (255 : Int32))), (.int ((x2_a0 &&& (255 : Int32)) <<< ((8 : Int32) &&& 31))), (.int (1 : Int32)), (.ref b2)])) _
    refine XS.ior X8.here hx rfl (hb hby d1_40) rfl ?_
    show Steps p.tables e below (T8.setTop (mkF m 41 #[.val (.ref a0), .val (.ref b2), .val (.int (1 : Int32))] [(.int (((x2_a0 &&& (255 : Int32)) <<< ((8 : Int32) &&& 31)) ||| (x3_a0 &&& (255 : Int32)))), (.int (1 : Int32)), (.ref b2)])) _
    refine st14 _ ?_
    show Steps p.tables e below (T14.setTop (mkF m 42 #[.val (.ref a0), .val (.ref b2), .val (.int (1 : Int32))] [])) _
    refine XS.iinc X14.here hx rfl (hb hby d1_42) rfl (l' := #[.val (.ref a0), .val (.ref b2), .val (.int ((1 : Int32) + (1 : Int32)))]) rfl ?_
    show Steps p.tables e below (T14.setTop (mkF m 45 #[.val (.ref a0), .val (.ref b2), .val (.int (2 : Int32))] [])) _
    refine XS.goto X14.here hx rfl (pc0 := 45) (pc' := 9) rfl (hb hby d1_45) (by decide) (by decide) ?_
    show Steps p.tables e below (T14.setTop (mkF m 9 #[.val (.ref a0), .val (.ref b2), .val (.int (2 : Int32))] [])) _
    refine XS.iloadN X14.here hx rfl (hb hby d1_9) rfl ?_
    show Steps p.tables e below (T14.setTop (mkF m 10 #[.val (.ref a0), .val (.ref b2), .val (.int (2 : Int32))] [(.int (2 : Int32))])) _
    refine XS.aloadN X14.here hx rfl (hb hby d1_10) rfl rfl ?_
    show Steps p.tables e below (T14.setTop (mkF m 11 #[.val (.ref a0), .val (.ref b2), .val (.int (2 : Int32))] [(.ref b2), (.int (2 : Int32))])) _
    refine X14.arraylength hx (by rw [e14]; exact Ar15.1) (State.isArrayOf_alike hZ.alike Ar15.2.1) (g := (mkF m 11 #[.val (.ref a0), .val (.ref b2), .val (.int (2 : Int32))] [(.ref b2), (.int (2 : Int32))])) rfl rfl (hb hby d1_11) _ ?_
    rw [len_of S15 M15]
    show Steps p.tables e below (T14.setTop (mkF m 12 #[.val (.ref a0), .val (.ref b2), .val (.int (2 : Int32))] [(.int (3 : Int32)), (.int (2 : Int32))])) _
    refine XS.icmpNo X14.here hx rfl (hb hby d1_12) rfl (tlt (by decide : (2 : Int32) < (3 : Int32))).2.1 ?_
    show Steps p.tables e below (T14.setTop (mkF m 15 #[.val (.ref a0), .val (.ref b2), .val (.int (2 : Int32))] [])) _
    refine XS.aloadN X14.here hx rfl (hb hby d1_15) rfl rfl ?_
    show Steps p.tables e below (T14.setTop (mkF m 16 #[.val (.ref a0), .val (.ref b2), .val (.int (2 : Int32))] [(.ref b2)])) _
    refine XS.iloadN X14.here hx rfl (hb hby d1_16) rfl ?_
    show Steps p.tables e below (T14.setTop (mkF m 17 #[.val (.ref a0), .val (.ref b2), .val (.int (2 : Int32))] [(.int (2 : Int32)), (.ref b2)])) _
    refine XS.aloadN X14.here hx rfl (hb hby d1_17) rfl rfl ?_
    show Steps p.tables e below (T14.setTop (mkF m 18 #[.val (.ref a0), .val (.ref b2), .val (.int (2 : Int32))] [(.ref a0), (.int (2 : Int32)), (.ref b2)])) _
    refine XS.iconst X14.here hx rfl (hb hby d1_18) ?_
    show Steps p.tables e below (T14.setTop (mkF m 19 #[.val (.ref a0), .val (.ref b2), .val (.int (2 : Int32))] [(.int (2 : Int32)), (.ref a0), (.int (2 : Int32)), (.ref b2)])) _
    refine XS.iloadN X14.here hx rfl (hb hby d1_19) rfl ?_
    show Steps p.tables e below (T14.setTop (mkF m 20 #[.val (.ref a0), .val (.ref b2), .val (.int (2 : Int32))] [(.int (2 : Int32)), (.int (2 : Int32)), (.ref a0), (.int (2 : Int32)), (.ref b2)])) _
    refine XS.imul X14.here hx rfl (hb hby d1_20) rfl ?_
    show Steps p.tables e below (T14.setTop (mkF m 21 #[.val (.ref a0), .val (.ref b2), .val (.int (2 : Int32))] [(.int (4 : Int32)), (.ref a0), (.int (2 : Int32)), (.ref b2)])) _
    refine X14.baloadBytes hx (j := (4 : Int32)) (v := (.int x4_a0)) (by rw [e14]; exact Ar17.1) (State.isArrayOf_alike hZ.alike Ar17.2.1) Ar17.2.2 hin17 hat17 (g := (mkF m 21 #[.val (.ref a0), .val (.ref b2), .val (.int (2 : Int32))] [(.int (4 : Int32)), (.ref a0), (.int (2 : Int32)), (.ref b2)])) rfl rfl (hb hby d1_21) _ ?_
    show Steps p.tables e below (T14.setTop (mkF m 22 #[.val (.ref a0), .val (.ref b2), .val (.int (2 : Int32))] [(.int x4_a0), (.int (2 : Int32)), (.ref b2)])) _
    refine XS.sipush X14.here hx rfl (hb hby d1_22) ?_
    show Steps p.tables e below (T14.setTop (mkF m 25 #[.val (.ref a0), .val (.ref b2), .val (.int (2 : Int32))] [(.int (255 : Int32)), (.int x4_a0), (.int (2 : Int32)), (.ref b2)])) _
    refine XS.iand X14.here hx rfl (hb hby d1_25) rfl ?_
    show Steps p.tables e below (T14.setTop (mkF m 26 #[.val (.ref a0), .val (.ref b2), .val (.int (2 : Int32))] [(.int (x4_a0 &&& (255 : Int32))), (.int (2 : Int32)), (.ref b2)])) _
    refine XS.bipush X14.here hx rfl (hb hby d1_26) ?_
    show Steps p.tables e below (T14.setTop (mkF m 28 #[.val (.ref a0), .val (.ref b2), .val (.int (2 : Int32))] [(.int (8 : Int32)), (.int (x4_a0 &&& (255 : Int32))), (.int (2 : Int32)), (.ref b2)])) _
    refine XS.ishl X14.here hx rfl (hb hby d1_28) rfl ?_
    show Steps p.tables e below (T14.setTop (mkF m 29 #[.val (.ref a0), .val (.ref b2), .val (.int (2 : Int32))] [(.int ((x4_a0 &&& (255 : Int32)) <<< ((8 : Int32) &&& 31))), (.int (2 : Int32)), (.ref b2)])) _
    refine XS.aloadN X14.here hx rfl (hb hby d1_29) rfl rfl ?_
    show Steps p.tables e below (T14.setTop (mkF m 30 #[.val (.ref a0), .val (.ref b2), .val (.int (2 : Int32))] [(.ref a0), (.int ((x4_a0 &&& (255 : Int32)) <<< ((8 : Int32) &&& 31))), (.int (2 : Int32)), (.ref b2)])) _
    refine XS.iconst X14.here hx rfl (hb hby d1_30) ?_
    show Steps p.tables e below (T14.setTop (mkF m 31 #[.val (.ref a0), .val (.ref b2), .val (.int (2 : Int32))] [(.int (2 : Int32)), (.ref a0), (.int ((x4_a0 &&& (255 : Int32)) <<< ((8 : Int32) &&& 31))), (.int (2 : Int32)), (.ref b2)])) _
    refine XS.iloadN X14.here hx rfl (hb hby d1_31) rfl ?_
    show Steps p.tables e below (T14.setTop (mkF m 32 #[.val (.ref a0), .val (.ref b2), .val (.int (2 : Int32))] [(.int (2 : Int32)), (.int (2 : Int32)), (.ref a0), (.int ((x4_a0 &&& (255 : Int32)) <<< ((8 : Int32) &&& 31))), (.int (2 : Int32)), (.ref b2)])) _
    refine XS.imul X14.here hx rfl (hb hby d1_32) rfl ?_
    show Steps p.tables e below (T14.setTop (mkF m 33 #[.val (.ref a0), .val (.ref b2), .val (.int (2 : Int32))] [(.int (4 : Int32)), (.ref a0), (.int ((x4_a0 &&& (255 : Int32)) <<< ((8 : Int32) &&& 31))), (.int (2 : Int32)), (.ref b2)])) _
    refine XS.iconst X14.here hx rfl (hb hby d1_33) ?_
    show Steps p.tables e below (T14.setTop (mkF m 34 #[.val (.ref a0), .val (.ref b2), .val (.int (2 : Int32))] [(.int (1 : Int32)), (.int (4 : Int32)), (.ref a0), (.int ((x4_a0 &&& (255 : Int32)) <<< ((8 : Int32) &&& 31))), (.int (2 : Int32)), (.ref b2)])) _
    refine XS.iadd X14.here hx rfl (hb hby d1_34) rfl ?_
    show Steps p.tables e below (T14.setTop (mkF m 35 #[.val (.ref a0), .val (.ref b2), .val (.int (2 : Int32))] [(.int (5 : Int32)), (.ref a0), (.int ((x4_a0 &&& (255 : Int32)) <<< ((8 : Int32) &&& 31))), (.int (2 : Int32)), (.ref b2)])) _
    refine X14.baloadBytes hx (j := (5 : Int32)) (v := (.int x5_a0)) (by rw [e14]; exact Ar18.1) (State.isArrayOf_alike hZ.alike Ar18.2.1) Ar18.2.2 hin18 hat18 (g := (mkF m 35 #[.val (.ref a0), .val (.ref b2), .val (.int (2 : Int32))] [(.int (5 : Int32)), (.ref a0), (.int ((x4_a0 &&& (255 : Int32)) <<< ((8 : Int32) &&& 31))), (.int (2 : Int32)), (.ref b2)])) rfl rfl (hb hby d1_35) _ ?_
    show Steps p.tables e below (T14.setTop (mkF m 36 #[.val (.ref a0), .val (.ref b2), .val (.int (2 : Int32))] [(.int x5_a0), (.int ((x4_a0 &&& (255 : Int32)) <<< ((8 : Int32) &&& 31))), (.int (2 : Int32)), (.ref b2)])) _
    refine XS.sipush X14.here hx rfl (hb hby d1_36) ?_
    show Steps p.tables e below (T14.setTop (mkF m 39 #[.val (.ref a0), .val (.ref b2), .val (.int (2 : Int32))] [(.int (255 : Int32)), (.int x5_a0), (.int ((x4_a0 &&& (255 : Int32)) <<< ((8 : Int32) &&& 31))), (.int (2 : Int32)), (.ref b2)])) _
    refine XS.iand X14.here hx rfl (hb hby d1_39) rfl ?_
    show Steps p.tables e below (T14.setTop (mkF m 40 #[.val (.ref a0), .val (.ref b2), .val (.int (2 : Int32))] [(.int (x5_a0 &&& (255 : Int32))), (.int ((x4_a0 &&& (255 : Int32)) <<< ((8 : Int32) &&& 31))), (.int (2 : Int32)), (.ref b2)])) _
    refine XS.ior X14.here hx rfl (hb hby d1_40) rfl ?_
    show Steps p.tables e below (T14.setTop (mkF m 41 #[.val (.ref a0), .val (.ref b2), .val (.int (2 : Int32))] [(.int (((x4_a0 &&& (255 : Int32)) <<< ((8 : Int32) &&& 31)) ||| (x5_a0 &&& (255 : Int32)))), (.int (2 : Int32)), (.ref b2)])) _
    refine st20 _ ?_
    show Steps p.tables e below (T20.setTop (mkF m 42 #[.val (.ref a0), .val (.ref b2), .val (.int (2 : Int32))] [])) _
    refine XS.iinc X20.here hx rfl (hb hby d1_42) rfl (l' := #[.val (.ref a0), .val (.ref b2), .val (.int ((2 : Int32) + (1 : Int32)))]) rfl ?_
    show Steps p.tables e below (T20.setTop (mkF m 45 #[.val (.ref a0), .val (.ref b2), .val (.int (3 : Int32))] [])) _
    refine XS.goto X20.here hx rfl (pc0 := 45) (pc' := 9) rfl (hb hby d1_45) (by decide) (by decide) ?_
    show Steps p.tables e below (T20.setTop (mkF m 9 #[.val (.ref a0), .val (.ref b2), .val (.int (3 : Int32))] [])) _
    refine XS.iloadN X20.here hx rfl (hb hby d1_9) rfl ?_
    show Steps p.tables e below (T20.setTop (mkF m 10 #[.val (.ref a0), .val (.ref b2), .val (.int (3 : Int32))] [(.int (3 : Int32))])) _
    refine XS.aloadN X20.here hx rfl (hb hby d1_10) rfl rfl ?_
    show Steps p.tables e below (T20.setTop (mkF m 11 #[.val (.ref a0), .val (.ref b2), .val (.int (3 : Int32))] [(.ref b2), (.int (3 : Int32))])) _
    refine X20.arraylength hx (by rw [e20]; exact Ar21.1) (State.isArrayOf_alike hZ.alike Ar21.2.1) (g := (mkF m 11 #[.val (.ref a0), .val (.ref b2), .val (.int (3 : Int32))] [(.ref b2), (.int (3 : Int32))])) rfl rfl (hb hby d1_11) _ ?_
    rw [len_of S21 M21]
    show Steps p.tables e below (T20.setTop (mkF m 12 #[.val (.ref a0), .val (.ref b2), .val (.int (3 : Int32))] [(.int (3 : Int32)), (.int (3 : Int32))])) _
    refine XS.icmpYes X20.here hx rfl (pc0 := 12) (pc' := 48) rfl (hb hby d1_12) rfl (flt (by decide : ¬ ((3 : Int32) < (3 : Int32)))).2.1 (by decide) (by decide) ?_
    show Steps p.tables e below (T20.setTop (mkF m 48 #[.val (.ref a0), .val (.ref b2), .val (.int (3 : Int32))] [])) _
    refine XS.aloadN X20.here hx rfl (hb hby d1_48) rfl rfl ?_
    exact k)
  obtain ⟨fs, hr, hrun, hended, hW, hsame⟩ := X20.leave (v := some (.ref b2)) (fun h => by rw [Bd.returns] at h; cases h) hlk
  exact ⟨_, _, pre22 _ (by jvm_step X20.here [X20.here.top, hx, (hb hby d1_49), X20.method', Bd.returns, Value.isRef, FieldType.isReference]; (first | (intro acts; rw [hr _ acts rfl rfl rfl]) | rw [hr _ _ rfl rfl rfl]); exact Steps.refl _), hrun, hended, _, _, rfl, (by show Q1_3 Z a0 x0_a0 x1_a0 x2_a0 x3_a0 x4_a0 x5_a0 k_a0 h0 n0 _ T20.heap _; rw [e20]; exact ⟨b2, rfl, N20, sz_b2, g_b2, KC20, ⟨_, V20⟩⟩), ⟨_, rfl⟩, hW, hsame.mono (by decide) (by decide)⟩
def f0_m22 (p0 : Int32) (p1 : Int32) (p2 : Int32) (p3 : Int32) : Int32 := (if (((((((p1.toUInt32 >>> ((8 : Int32) &&& 31).toUInt32).toInt32).toInt8.toInt32).toInt8.toInt32) &&& (255 : Int32)) <<< ((8 : Int32) &&& 31)) ||| (((p1.toInt8.toInt32).toInt8.toInt32) &&& (255 : Int32))) = (p1 &&& (65535 : Int32)) then (1 : Int32) else (0 : Int32))
def f0_m42 (p0 : Int32) (p1 : Int32) (p2 : Int32) (p3 : Int32) : Int32 := (if (((((((p1.toUInt32 >>> ((8 : Int32) &&& 31).toUInt32).toInt32).toInt8.toInt32).toInt8.toInt32) &&& (255 : Int32)) <<< ((8 : Int32) &&& 31)) ||| (((p1.toInt8.toInt32).toInt8.toInt32) &&& (255 : Int32))) = (p1 &&& (65535 : Int32)) then (1 : Int32) else (0 : Int32))
def f0_m51 (p0 : Int32) (p1 : Int32) (p2 : Int32) (p3 : Int32) : Int32 := (if (f0_m42 p0 p1 p2 p3) = (0 : Int32) then (0 : Int32) else (if (((((((p2.toUInt32 >>> ((8 : Int32) &&& 31).toUInt32).toInt32).toInt8.toInt32).toInt8.toInt32) &&& (255 : Int32)) <<< ((8 : Int32) &&& 31)) ||| (((p2.toInt8.toInt32).toInt8.toInt32) &&& (255 : Int32))) = (p2 &&& (65535 : Int32)) then (1 : Int32) else (0 : Int32)))
def f0_m75 (p0 : Int32) (p1 : Int32) (p2 : Int32) (p3 : Int32) : Int32 := (if (((((((p1.toUInt32 >>> ((8 : Int32) &&& 31).toUInt32).toInt32).toInt8.toInt32).toInt8.toInt32) &&& (255 : Int32)) <<< ((8 : Int32) &&& 31)) ||| (((p1.toInt8.toInt32).toInt8.toInt32) &&& (255 : Int32))) = (p1 &&& (65535 : Int32)) then (1 : Int32) else (0 : Int32))
def f0_m84 (p0 : Int32) (p1 : Int32) (p2 : Int32) (p3 : Int32) : Int32 := (if (f0_m75 p0 p1 p2 p3) = (0 : Int32) then (0 : Int32) else (if (((((((p2.toUInt32 >>> ((8 : Int32) &&& 31).toUInt32).toInt32).toInt8.toInt32).toInt8.toInt32) &&& (255 : Int32)) <<< ((8 : Int32) &&& 31)) ||| (((p2.toInt8.toInt32).toInt8.toInt32) &&& (255 : Int32))) = (p2 &&& (65535 : Int32)) then (1 : Int32) else (0 : Int32)))
def f0_m93 (p0 : Int32) (p1 : Int32) (p2 : Int32) (p3 : Int32) : Int32 := (if (f0_m84 p0 p1 p2 p3) = (0 : Int32) then (0 : Int32) else (if (((((((p3.toUInt32 >>> ((8 : Int32) &&& 31).toUInt32).toInt32).toInt8.toInt32).toInt8.toInt32) &&& (255 : Int32)) <<< ((8 : Int32) &&& 31)) ||| (((p3.toInt8.toInt32).toInt8.toInt32) &&& (255 : Int32))) = (p3 &&& (65535 : Int32)) then (1 : Int32) else (0 : Int32)))
def F0 (p0 : Int32) (p1 : Int32) (p2 : Int32) (p3 : Int32) : Int32 := (if (p0 &&& (3 : Int32)) = (0 : Int32) then (1 : Int32) else (if (p0 &&& (3 : Int32)) = (1 : Int32) then ((f0_m22 p0 p1 p2 p3) &&& 1) else (if (p0 &&& (3 : Int32)) = (2 : Int32) then ((f0_m51 p0 p1 p2 p3) &&& 1) else ((f0_m93 p0 p1 p2 p3) &&& 1))))
theorem own_q (x : Int32) : x &&& 3 = 0 ∨ x &&& 3 = 1 ∨ x &&& 3 = 2 ∨ x &&& 3 = 3 := by
  have r : (x &&& (3 : Int32)).toInt = x.toInt % (2 ^ 2 : Nat) := c_mask x 3 2 (by decide) (by decide)
  have q : (x &&& (3 : Int32)).toInt = 0 ∨ (x &&& (3 : Int32)).toInt = 1 ∨ (x &&& (3 : Int32)).toInt = 2 ∨ (x &&& (3 : Int32)).toInt = 3 := by omega
  rcases q with q | q | q | q
  · exact Or.inl (Int32.toInt_inj.mp q)
  · exact Or.inr (Or.inl (Int32.toInt_inj.mp q))
  · exact Or.inr (Or.inr (Or.inl (Int32.toInt_inj.mp q)))
  · exact Or.inr (Or.inr (Or.inr (Int32.toInt_inj.mp q)))
theorem own_q3 (x : Int32) (h0 : ¬ x &&& 3 = 0) (h1 : ¬ x &&& 3 = 1) (h2 : ¬ x &&& 3 = 2) : x &&& 3 = 3 := by
  rcases own_q x with h | h | h | h
  · exact absurd h h0
  · exact absurd h h1
  · exact absurd h h2
  · exact h
theorem ef0 (m : MethodId) (x0 : Int32) (x1 : Int32) (x2 : Int32) (x3 : Int32) : entryFrame m #[(.int x0), (.int x1), (.int x2), (.int x3)] maxLocals = mkF m 0 #[.val (.int x0), .val (.int x1), .val (.int x2), .val (.int x3), .unset, .unset, .unset, .unset] [] := by first | (simp [entryFrame, mkF, argsToLocals, Value.category, maxLocals]; done) | rfl
def Q0 (Z : State) (p0 : Int32) (p1 : Int32) (p2 : Int32) (p3 : Int32) (h0 : Heap) (n0 : Nat) (v : Option Value) (h : Heap) (L : List Loc) : Prop := v = some (.int (F0 p0 p1 p2 p3)) ∧ Fr n0 L
set_option maxRecDepth 65536 in
set_option maxHeartbeats 40000000 in
theorem rm0 (l : Launch) (Z : State) (a0' : Array Value) (hw : ∀ d ∈ tables_1, d.before a0' Z = true) (ws : List Jvm.Cond) (p0 : Int32) (p1 : Int32) (p2 : Int32) (p3 : Int32) (h0 : Heap) (n0 : Nat) (Z0 : n0 ≤ h0.size) :
    MetFree l x (head1 (Jvm.Cond.code x code maxLocals ret :: ws) room_1) (fun a U => a = #[(.int p0), (.int p1), (.int p2), (.int p3)] ∧ Z.Warmed39 U.vm ∧ U.heap = h0) (fun _ _ _ _ _ => True) (fun _ U o U' => ∃ v L, o = .returned v ∧ Q0 Z p0 p1 p2 p3 h0 n0 v U'.heap L ∧ FrameEnd U o U' L 2 9) := by
  refine MetFree.of_bodySF (plainFor_of_name pn1) hisR ?_
  intro p e s m args below meth c s₁ Bd hml0 hP hK
  obtain ⟨rfl, hZ, hh⟩ := hP
  have hx := Bd.exec
  have hby := Bd.bytes
  have hml : c.maxLocals = 8 := hml0
  have hown : s.vm.findClass "com/example/cardwarden/cardwarden/core/fs/FilePathFileIdsPinLaw" = some m.cls := findClass_of_methodNamed Bd.named
  have hnm := (name_of_methodNamed Bd.named Bd.method).1
  have X0 : Stand p l e room_1 s m #[(.int p0), (.int p1), (.int p2), (.int p3)] below meth c s₁ [] 0 0 := Stand.of_body Bd
  have e0 : s₁.heap = h0 := by rw [← hh, Bd.state]; rfl
  have N0 := Fr.nil n0
  have hlk : meth.locks = false := by first | exact BodyLoose.notSynchronized Bd | exact Body.notSynchronized Bd
  have pre0 : ∀ t, Steps p.tables e below (s₁.setTop (mkF m 0 #[.val (.int p0), .val (.int p1), .val (.int p2), .val (.int p3), .unset, .unset, .unset, .unset] [])) t → Steps p.tables e below (s₁.setTop (entryFrame m #[(.int p0), (.int p1), (.int p2), (.int p3)] maxLocals)) t := fun t k => castTop (ef0 m p0 p1 p2 p3) k
  have pre1 : ∀ t, Steps p.tables e below (s₁.setTop (mkF m 5 #[.val (.int p0), .val (.int p1), .val (.int p2), .val (.int p3), .val (.int (p0 &&& (3 : Int32))), .unset, .unset, .unset] [])) t → Steps p.tables e below (s₁.setTop (entryFrame m #[(.int p0), (.int p1), (.int p2), (.int p3)] maxLocals)) t := fun t k => pre0 t (by
    show Steps p.tables e below (s₁.setTop (mkF m 0 #[.val (.int p0), .val (.int p1), .val (.int p2), .val (.int p3), .unset, .unset, .unset, .unset] [])) _
    refine XS.iloadN X0.here hx rfl (hb hby at_0) rfl ?_
    show Steps p.tables e below (s₁.setTop (mkF m 1 #[.val (.int p0), .val (.int p1), .val (.int p2), .val (.int p3), .unset, .unset, .unset, .unset] [(.int p0)])) _
    refine XS.iconst X0.here hx rfl (hb hby at_1) ?_
    show Steps p.tables e below (s₁.setTop (mkF m 2 #[.val (.int p0), .val (.int p1), .val (.int p2), .val (.int p3), .unset, .unset, .unset, .unset] [(.int (3 : Int32)), (.int p0)])) _
    refine XS.iand X0.here hx rfl (hb hby at_2) rfl ?_
    show Steps p.tables e below (s₁.setTop (mkF m 3 #[.val (.int p0), .val (.int p1), .val (.int p2), .val (.int p3), .unset, .unset, .unset, .unset] [(.int (p0 &&& (3 : Int32)))])) _
    refine XS.istore X0.here hx rfl (hb hby at_3) rfl (l' := #[.val (.int p0), .val (.int p1), .val (.int p2), .val (.int p3), .val (.int (p0 &&& (3 : Int32))), .unset, .unset, .unset]) rfl ?_
    exact k)
  by_cases hv2 : (p0 &&& (3 : Int32)) = (0 : Int32)
  · have pre3 := pre1
    rw [hv2] at pre3
    obtain ⟨T4, h4, k4, X4, e4, E4, A4, st4⟩ := newP X0 hx hZ (hw _ (List.mem_of_getElem? (i := 0) rfl)) e0 (g := (mkF m 9 #[.val (.int p0), .val (.int p1), .val (.int p2), .val (.int p3), .val (.int (0 : Int32)), .unset, .unset, .unset] [(.int (0 : Int32))])) rfl (hb hby at_9) rfl (by decide) (cap := 0) (by decide) (by decide) (by decide) (by decide)
    obtain ⟨b4, g4⟩ : ∃ z, z = h0.size := ⟨_, rfl⟩
    rw [← g4] at A4 st4
    have g_b4 : n0 ≤ b4 := Nat.le_trans Z0 (Nat.le_of_eq g4.symm)
    have Z4 : n0 ≤ h4.size := Nat.le_trans Z0 E4.1
    have V4 : Arv Z h4 b4 k4 .byte (0 : Int32) [] (.int (0 : Int32)) := (Arv.new A4 (by decide)).pad (pad_rep [] (.int (0 : Int32)) 0)
    obtain ⟨_, _, ⟨T5, L5, k5, n5⟩, -, X5, ⟨Lc5, hQ5, l5, y5, z5⟩, st5⟩ := Jvm.LawKit.callS X4 hx (y := (⟨"com/example/cardwarden/cardwarden/core/fs/FilePath", "fileIds", "([B)[I"⟩ : MethodName)) hown (mvT hZ (hw _ (List.mem_of_getElem? (i := 1) rfl))) (mvT hZ (hw _ (List.mem_of_getElem? (i := 2) rfl))) (mvT hZ (hw _ (List.mem_of_getElem? (i := 3) rfl))) (mvT hZ (hw _ (List.mem_of_getElem? (i := 4) rfl))) (by decide) (backOf (W := 0) (rm1_0 l Z a0' hw [] b4 k4 h4 n0 Z4 V4) hZ (hw _ (List.mem_of_getElem? (i := 4) rfl)) (hw _ (List.mem_of_getElem? (i := 3) rfl)) (by decide) (by decide)) (g := (mkF m 78 #[.val (.int p0), .val (.int p1), .val (.int p2), .val (.int p3), .val (.int (0 : Int32)), .val (.ref b4), .unset, .unset] [(.ref b4)])) rfl (by rw [hml]; rfl) (argsL := [(.ref b4)]) (rest := []) (lenOf pd0 rfl) rfl (by show 2 * 0 + _ ≤ _; exact Nat.le_of_eq rfl) (hb hby at_78) (fun _ _ => ⟨rfl, e4, (by decide : 1 + 1 ≤ _), (by decide : 0 + 0 ≤ _)⟩)
    dsimp only [Pt.U, Pt.locs, Pt.cells, Pt.slots] at X5 l5 y5 z5 st5 hQ5
    subst l5 y5 z5
    obtain ⟨b5, rfl, N5q, gs5, g_b5, K5, u5_0⟩ := hQ5
    have N5 := Fr.app N0 N5q
    have ne_b4_b5 : b4 ≠ b5 := Nat.ne_of_lt (Nat.lt_of_lt_of_le V4.lt gs5)
    have Z5 : n0 ≤ T5.heap.size := Nat.le_trans Z4 K5.1
    obtain ⟨kk5, u5_0⟩ := u5_0
    obtain ⟨cl6, Ar6, q6, S6, M6, H6, G6⟩ := id u5_0
    have pre7 : ∀ t, Steps p.tables e below (T5.setTop (mkF m 190 #[.val (.int p0), .val (.int p1), .val (.int p2), .val (.int p3), .val (.int (0 : Int32)), .val (.ref b4), .val (.ref b5), .val (.int (1 : Int32))] [(.int (1 : Int32))])) t → Steps p.tables e below (s₁.setTop (entryFrame m #[(.int p0), (.int p1), (.int p2), (.int p3)] maxLocals)) t := fun t k => pre3 t (by
      show Steps p.tables e below (s₁.setTop (mkF m 5 #[.val (.int p0), .val (.int p1), .val (.int p2), .val (.int p3), .val (.int (0 : Int32)), .unset, .unset, .unset] [])) _
      refine XS.iconst X0.here hx rfl (hb hby at_5) ?_
      show Steps p.tables e below (s₁.setTop (mkF m 6 #[.val (.int p0), .val (.int p1), .val (.int p2), .val (.int p3), .val (.int (0 : Int32)), .unset, .unset, .unset] [(.int (2 : Int32))])) _
      refine XS.iload X0.here hx rfl (hb hby at_6) rfl ?_
      show Steps p.tables e below (s₁.setTop (mkF m 8 #[.val (.int p0), .val (.int p1), .val (.int p2), .val (.int p3), .val (.int (0 : Int32)), .unset, .unset, .unset] [(.int (0 : Int32)), (.int (2 : Int32))])) _
      refine XS.imul X0.here hx rfl (hb hby at_8) rfl ?_
      show Steps p.tables e below (s₁.setTop (mkF m 9 #[.val (.int p0), .val (.int p1), .val (.int p2), .val (.int p3), .val (.int (0 : Int32)), .unset, .unset, .unset] [(.int (0 : Int32))])) _
      refine st4 _ ?_
      show Steps p.tables e below (T4.setTop (mkF m 11 #[.val (.int p0), .val (.int p1), .val (.int p2), .val (.int p3), .val (.int (0 : Int32)), .unset, .unset, .unset] [(.ref b4)])) _
      refine XS.astore X4.here hx rfl (hb hby at_11) rfl rfl (l' := #[.val (.int p0), .val (.int p1), .val (.int p2), .val (.int p3), .val (.int (0 : Int32)), .val (.ref b4), .unset, .unset]) rfl ?_
      show Steps p.tables e below (T4.setTop (mkF m 13 #[.val (.int p0), .val (.int p1), .val (.int p2), .val (.int p3), .val (.int (0 : Int32)), .val (.ref b4), .unset, .unset] [])) _
      refine XS.iload X4.here hx rfl (hb hby at_13) rfl ?_
      show Steps p.tables e below (T4.setTop (mkF m 15 #[.val (.int p0), .val (.int p1), .val (.int p2), .val (.int p3), .val (.int (0 : Int32)), .val (.ref b4), .unset, .unset] [(.int (0 : Int32))])) _
      refine XS.iconst X4.here hx rfl (hb hby at_15) ?_
      show Steps p.tables e below (T4.setTop (mkF m 16 #[.val (.int p0), .val (.int p1), .val (.int p2), .val (.int p3), .val (.int (0 : Int32)), .val (.ref b4), .unset, .unset] [(.int (1 : Int32)), (.int (0 : Int32))])) _
      refine XS.icmpYes X4.here hx rfl (pc0 := 16) (pc' := 34) rfl (hb hby at_16) rfl (tlt (by decide : (0 : Int32) < (1 : Int32))).1 (by decide) (by decide) ?_
      show Steps p.tables e below (T4.setTop (mkF m 34 #[.val (.int p0), .val (.int p1), .val (.int p2), .val (.int p3), .val (.int (0 : Int32)), .val (.ref b4), .unset, .unset] [])) _
      refine XS.iload X4.here hx rfl (hb hby at_34) rfl ?_
      show Steps p.tables e below (T4.setTop (mkF m 36 #[.val (.int p0), .val (.int p1), .val (.int p2), .val (.int p3), .val (.int (0 : Int32)), .val (.ref b4), .unset, .unset] [(.int (0 : Int32))])) _
      refine XS.iconst X4.here hx rfl (hb hby at_36) ?_
      show Steps p.tables e below (T4.setTop (mkF m 37 #[.val (.int p0), .val (.int p1), .val (.int p2), .val (.int p3), .val (.int (0 : Int32)), .val (.ref b4), .unset, .unset] [(.int (2 : Int32)), (.int (0 : Int32))])) _
      refine XS.icmpYes X4.here hx rfl (pc0 := 37) (pc' := 55) rfl (hb hby at_37) rfl (tlt (by decide : (0 : Int32) < (2 : Int32))).1 (by decide) (by decide) ?_
      show Steps p.tables e below (T4.setTop (mkF m 55 #[.val (.int p0), .val (.int p1), .val (.int p2), .val (.int p3), .val (.int (0 : Int32)), .val (.ref b4), .unset, .unset] [])) _
      refine XS.iload X4.here hx rfl (hb hby at_55) rfl ?_
      show Steps p.tables e below (T4.setTop (mkF m 57 #[.val (.int p0), .val (.int p1), .val (.int p2), .val (.int p3), .val (.int (0 : Int32)), .val (.ref b4), .unset, .unset] [(.int (0 : Int32))])) _
      refine XS.iconst X4.here hx rfl (hb hby at_57) ?_
      show Steps p.tables e below (T4.setTop (mkF m 58 #[.val (.int p0), .val (.int p1), .val (.int p2), .val (.int p3), .val (.int (0 : Int32)), .val (.ref b4), .unset, .unset] [(.int (3 : Int32)), (.int (0 : Int32))])) _
      refine XS.icmpYes X4.here hx rfl (pc0 := 58) (pc' := 76) rfl (hb hby at_58) rfl (tlt (by decide : (0 : Int32) < (3 : Int32))).1 (by decide) (by decide) ?_
      show Steps p.tables e below (T4.setTop (mkF m 76 #[.val (.int p0), .val (.int p1), .val (.int p2), .val (.int p3), .val (.int (0 : Int32)), .val (.ref b4), .unset, .unset] [])) _
      refine XS.aload X4.here hx rfl (hb hby at_76) rfl rfl ?_
      show Steps p.tables e below (T4.setTop (mkF m 78 #[.val (.int p0), .val (.int p1), .val (.int p2), .val (.int p3), .val (.int (0 : Int32)), .val (.ref b4), .unset, .unset] [(.ref b4)])) _
      refine st5 _ ?_
      show Steps p.tables e below (T5.setTop (mkF m 81 #[.val (.int p0), .val (.int p1), .val (.int p2), .val (.int p3), .val (.int (0 : Int32)), .val (.ref b4), .unset, .unset] [(.ref b5)])) _
      refine XS.astore X5.here hx rfl (hb hby at_81) rfl rfl (l' := #[.val (.int p0), .val (.int p1), .val (.int p2), .val (.int p3), .val (.int (0 : Int32)), .val (.ref b4), .val (.ref b5), .unset]) rfl ?_
      show Steps p.tables e below (T5.setTop (mkF m 83 #[.val (.int p0), .val (.int p1), .val (.int p2), .val (.int p3), .val (.int (0 : Int32)), .val (.ref b4), .val (.ref b5), .unset] [])) _
      refine XS.aload X5.here hx rfl (hb hby at_83) rfl rfl ?_
      show Steps p.tables e below (T5.setTop (mkF m 85 #[.val (.int p0), .val (.int p1), .val (.int p2), .val (.int p3), .val (.int (0 : Int32)), .val (.ref b4), .val (.ref b5), .unset] [(.ref b5)])) _
      refine XS.ifnullNo X5.here hx rfl (hb hby at_85) rfl ?_
      show Steps p.tables e below (T5.setTop (mkF m 88 #[.val (.int p0), .val (.int p1), .val (.int p2), .val (.int p3), .val (.int (0 : Int32)), .val (.ref b4), .val (.ref b5), .unset] [])) _
      refine XS.aload X5.here hx rfl (hb hby at_88) rfl rfl ?_
      show Steps p.tables e below (T5.setTop (mkF m 90 #[.val (.int p0), .val (.int p1), .val (.int p2), .val (.int p3), .val (.int (0 : Int32)), .val (.ref b4), .val (.ref b5), .unset] [(.ref b5)])) _
      refine X5.arraylength hx Ar6.1 (State.isArrayOf_alike hZ.alike Ar6.2.1) (g := (mkF m 90 #[.val (.int p0), .val (.int p1), .val (.int p2), .val (.int p3), .val (.int (0 : Int32)), .val (.ref b4), .val (.ref b5), .unset] [(.ref b5)])) rfl rfl (hb hby at_90) _ ?_
      rw [len_of S6 M6]
      show Steps p.tables e below (T5.setTop (mkF m 91 #[.val (.int p0), .val (.int p1), .val (.int p2), .val (.int p3), .val (.int (0 : Int32)), .val (.ref b4), .val (.ref b5), .unset] [(.int (0 : Int32))])) _
      refine XS.iload X5.here hx rfl (hb hby at_91) rfl ?_
      show Steps p.tables e below (T5.setTop (mkF m 93 #[.val (.int p0), .val (.int p1), .val (.int p2), .val (.int p3), .val (.int (0 : Int32)), .val (.ref b4), .val (.ref b5), .unset] [(.int (0 : Int32)), (.int (0 : Int32))])) _
      refine XS.icmpYes X5.here hx rfl (pc0 := 93) (pc' := 98) rfl (hb hby at_93) rfl (teq (rfl : (0 : Int32) = (0 : Int32))).1 (by decide) (by decide) ?_
      show Steps p.tables e below (T5.setTop (mkF m 98 #[.val (.int p0), .val (.int p1), .val (.int p2), .val (.int p3), .val (.int (0 : Int32)), .val (.ref b4), .val (.ref b5), .unset] [])) _
      refine XS.iconst X5.here hx rfl (hb hby at_98) ?_
      show Steps p.tables e below (T5.setTop (mkF m 99 #[.val (.int p0), .val (.int p1), .val (.int p2), .val (.int p3), .val (.int (0 : Int32)), .val (.ref b4), .val (.ref b5), .unset] [(.int (1 : Int32))])) _
      refine XS.istore X5.here hx rfl (hb hby at_99) rfl (l' := #[.val (.int p0), .val (.int p1), .val (.int p2), .val (.int p3), .val (.int (0 : Int32)), .val (.ref b4), .val (.ref b5), .val (.int (1 : Int32))]) rfl ?_
      show Steps p.tables e below (T5.setTop (mkF m 101 #[.val (.int p0), .val (.int p1), .val (.int p2), .val (.int p3), .val (.int (0 : Int32)), .val (.ref b4), .val (.ref b5), .val (.int (1 : Int32))] [])) _
      refine XS.iload X5.here hx rfl (hb hby at_101) rfl ?_
      show Steps p.tables e below (T5.setTop (mkF m 103 #[.val (.int p0), .val (.int p1), .val (.int p2), .val (.int p3), .val (.int (0 : Int32)), .val (.ref b4), .val (.ref b5), .val (.int (1 : Int32))] [(.int (0 : Int32))])) _
      refine XS.iconst X5.here hx rfl (hb hby at_103) ?_
      show Steps p.tables e below (T5.setTop (mkF m 104 #[.val (.int p0), .val (.int p1), .val (.int p2), .val (.int p3), .val (.int (0 : Int32)), .val (.ref b4), .val (.ref b5), .val (.int (1 : Int32))] [(.int (1 : Int32)), (.int (0 : Int32))])) _
      refine XS.icmpYes X5.here hx rfl (pc0 := 104) (pc' := 130) rfl (hb hby at_104) rfl (tlt (by decide : (0 : Int32) < (1 : Int32))).1 (by decide) (by decide) ?_
      show Steps p.tables e below (T5.setTop (mkF m 130 #[.val (.int p0), .val (.int p1), .val (.int p2), .val (.int p3), .val (.int (0 : Int32)), .val (.ref b4), .val (.ref b5), .val (.int (1 : Int32))] [])) _
      refine XS.iload X5.here hx rfl (hb hby at_130) rfl ?_
      show Steps p.tables e below (T5.setTop (mkF m 132 #[.val (.int p0), .val (.int p1), .val (.int p2), .val (.int p3), .val (.int (0 : Int32)), .val (.ref b4), .val (.ref b5), .val (.int (1 : Int32))] [(.int (0 : Int32))])) _
      refine XS.iconst X5.here hx rfl (hb hby at_132) ?_
      show Steps p.tables e below (T5.setTop (mkF m 133 #[.val (.int p0), .val (.int p1), .val (.int p2), .val (.int p3), .val (.int (0 : Int32)), .val (.ref b4), .val (.ref b5), .val (.int (1 : Int32))] [(.int (2 : Int32)), (.int (0 : Int32))])) _
      refine XS.icmpYes X5.here hx rfl (pc0 := 133) (pc' := 159) rfl (hb hby at_133) rfl (tlt (by decide : (0 : Int32) < (2 : Int32))).1 (by decide) (by decide) ?_
      show Steps p.tables e below (T5.setTop (mkF m 159 #[.val (.int p0), .val (.int p1), .val (.int p2), .val (.int p3), .val (.int (0 : Int32)), .val (.ref b4), .val (.ref b5), .val (.int (1 : Int32))] [])) _
      refine XS.iload X5.here hx rfl (hb hby at_159) rfl ?_
      show Steps p.tables e below (T5.setTop (mkF m 161 #[.val (.int p0), .val (.int p1), .val (.int p2), .val (.int p3), .val (.int (0 : Int32)), .val (.ref b4), .val (.ref b5), .val (.int (1 : Int32))] [(.int (0 : Int32))])) _
      refine XS.iconst X5.here hx rfl (hb hby at_161) ?_
      show Steps p.tables e below (T5.setTop (mkF m 162 #[.val (.int p0), .val (.int p1), .val (.int p2), .val (.int p3), .val (.int (0 : Int32)), .val (.ref b4), .val (.ref b5), .val (.int (1 : Int32))] [(.int (3 : Int32)), (.int (0 : Int32))])) _
      refine XS.icmpYes X5.here hx rfl (pc0 := 162) (pc' := 188) rfl (hb hby at_162) rfl (tlt (by decide : (0 : Int32) < (3 : Int32))).1 (by decide) (by decide) ?_
      show Steps p.tables e below (T5.setTop (mkF m 188 #[.val (.int p0), .val (.int p1), .val (.int p2), .val (.int p3), .val (.int (0 : Int32)), .val (.ref b4), .val (.ref b5), .val (.int (1 : Int32))] [])) _
      refine XS.iload X5.here hx rfl (hb hby at_188) rfl ?_
      exact k)
    obtain ⟨fs, hr, hrun, hended, hW, hsame⟩ := X5.leave (v := some (.int (1 : Int32))) (fun h => by rw [Bd.returns] at h; cases h) hlk
    have hF : (F0 p0 p1 p2 p3) = (1 : Int32) := by unfold F0; rw [if_pos hv2]
    exact ⟨_, _, pre7 _ (retN X5 hx (t := .boolean) Bd.returns (by simp) (hb hby at_190) hr), hrun, hended, _, _, rfl, ⟨by rw [hF], N5⟩, ⟨_, rfl⟩, hW, hsame.mono (by decide) (by decide)⟩
  by_cases hv8 : (p0 &&& (3 : Int32)) = (1 : Int32)
  · have pre9 := pre1
    rw [hv8] at pre9
    obtain ⟨T10, h10, k10, X10, e10, E10, A10, st10⟩ := newP X0 hx hZ (hw _ (List.mem_of_getElem? (i := 0) rfl)) e0 (g := (mkF m 9 #[.val (.int p0), .val (.int p1), .val (.int p2), .val (.int p3), .val (.int (1 : Int32)), .unset, .unset, .unset] [(.int (2 : Int32))])) rfl (hb hby at_9) rfl (by decide) (cap := 2) (by decide) (by decide) (by decide) (by decide)
    obtain ⟨b10, g10⟩ : ∃ z, z = h0.size := ⟨_, rfl⟩
    rw [← g10] at A10 st10
    have g_b10 : n0 ≤ b10 := Nat.le_trans Z0 (Nat.le_of_eq g10.symm)
    have Z10 : n0 ≤ h10.size := Nat.le_trans Z0 E10.1
    have V10 : Arv Z h10 b10 k10 .byte (2 : Int32) [(.int (0 : Int32)), (.int (0 : Int32))] (.int (0 : Int32)) := (Arv.new A10 (by decide)).pad (pad_rep [] (.int (0 : Int32)) 2)
    obtain ⟨cl11, Ar11, q11, S11, M11, H11, G11⟩ := id V10
    have hin11 : ¬ ((0 : Int32) < 0 ∨ cl11.slots.size ≤ ((0 : Int32)).toNatClampNeg) := inb_of S11 ⟨by decide, by decide⟩
    obtain ⟨T12, h12, X12, e12, W12, st12⟩ := stB X10 hx hZ e10 Ar11 (j := (0 : Int32)) hin11 (g := (mkF m 27 #[.val (.int p0), .val (.int p1), .val (.int p2), .val (.int p3), .val (.int (1 : Int32)), .val (.ref b10), .unset, .unset] [(.int (((p1.toUInt32 >>> ((8 : Int32) &&& 31).toUInt32).toInt32).toInt8.toInt32)), (.int (0 : Int32)), (.ref b10)])) rfl rfl (hb hby at_27)
    have Z12 : n0 ≤ h12.size := Nat.le_trans Z10 (Keep.of_wr W12).1
    have N12 := Fr.snoc X12 N0 g_b10
    have V12 : Arv Z h12 b10 k10 .byte (2 : Int32) [(.int ((((p1.toUInt32 >>> ((8 : Int32) &&& 31).toUInt32).toInt32).toInt8.toInt32).toInt8.toInt32)), (.int (0 : Int32))] (.int (0 : Int32)) := Arv.set Ar11 q11 S11 M11 H11 G11 (fits_nar_byte _) W12 0 rfl (Nat.le_of_ble_eq_true rfl)
    obtain ⟨cl13, Ar13, q13, S13, M13, H13, G13⟩ := id V12
    have hin13 : ¬ ((1 : Int32) < 0 ∨ cl13.slots.size ≤ ((1 : Int32)).toNatClampNeg) := inb_of S13 ⟨by decide, by decide⟩
    obtain ⟨T14, h14, X14, e14, W14, st14⟩ := stB X12 hx hZ e12 Ar13 (j := (1 : Int32)) hin13 (g := (mkF m 33 #[.val (.int p0), .val (.int p1), .val (.int p2), .val (.int p3), .val (.int (1 : Int32)), .val (.ref b10), .unset, .unset] [(.int (p1.toInt8.toInt32)), (.int (1 : Int32)), (.ref b10)])) rfl rfl (hb hby at_33)
    have Z14 : n0 ≤ h14.size := Nat.le_trans Z12 (Keep.of_wr W14).1
    have N14 := Fr.snoc X14 N12 g_b10
    have V14 : Arv Z h14 b10 k10 .byte (2 : Int32) [(.int ((((p1.toUInt32 >>> ((8 : Int32) &&& 31).toUInt32).toInt32).toInt8.toInt32).toInt8.toInt32)), (.int ((p1.toInt8.toInt32).toInt8.toInt32))] (.int (0 : Int32)) := Arv.set Ar13 q13 S13 M13 H13 G13 (fits_nar_byte _) W14 1 rfl (Nat.le_of_ble_eq_true rfl)
    obtain ⟨_, _, ⟨T15, L15, k15, n15⟩, -, X15, ⟨Lc15, hQ15, l15, y15, z15⟩, st15⟩ := Jvm.LawKit.callS X14 hx (y := (⟨"com/example/cardwarden/cardwarden/core/fs/FilePath", "fileIds", "([B)[I"⟩ : MethodName)) hown (mvT hZ (hw _ (List.mem_of_getElem? (i := 1) rfl))) (mvT hZ (hw _ (List.mem_of_getElem? (i := 2) rfl))) (mvT hZ (hw _ (List.mem_of_getElem? (i := 3) rfl))) (mvT hZ (hw _ (List.mem_of_getElem? (i := 4) rfl))) (by decide) (backOf (W := 0) (rm1_1 l Z a0' hw [] b10 ((((p1.toUInt32 >>> ((8 : Int32) &&& 31).toUInt32).toInt32).toInt8.toInt32).toInt8.toInt32) ((p1.toInt8.toInt32).toInt8.toInt32) k10 h14 n0 Z14 V14) hZ (hw _ (List.mem_of_getElem? (i := 4) rfl)) (hw _ (List.mem_of_getElem? (i := 3) rfl)) (by decide) (by decide)) (g := (mkF m 78 #[.val (.int p0), .val (.int p1), .val (.int p2), .val (.int p3), .val (.int (1 : Int32)), .val (.ref b10), .unset, .unset] [(.ref b10)])) rfl (by rw [hml]; rfl) (argsL := [(.ref b10)]) (rest := []) (lenOf pd0 rfl) rfl (by show 2 * 0 + _ ≤ _; exact Nat.le_of_eq rfl) (hb hby at_78) (fun _ _ => ⟨rfl, e14, (by decide : 1 + 1 ≤ _), (by decide : 2 + 1 ≤ _)⟩)
    dsimp only [Pt.U, Pt.locs, Pt.cells, Pt.slots] at X15 l15 y15 z15 st15 hQ15
    subst l15 y15 z15
    obtain ⟨b15, rfl, N15q, gs15, g_b15, K15, u15_0⟩ := hQ15
    have N15 := Fr.app N14 N15q
    have ne_b10_b15 : b10 ≠ b15 := Nat.ne_of_lt (Nat.lt_of_lt_of_le V14.lt gs15)
    have Z15 : n0 ≤ T15.heap.size := Nat.le_trans Z14 K15.1
    obtain ⟨kk15, u15_0⟩ := u15_0
    obtain ⟨cl16, Ar16, q16, S16, M16, H16, G16⟩ := id u15_0
    obtain ⟨cl17, Ar17, q17, S17, M17, H17, G17⟩ := id u15_0
    have hin17 : ¬ ((0 : Int32) < 0 ∨ cl17.slots.size ≤ ((0 : Int32)).toNatClampNeg) := inb_of S17 ⟨by decide, by decide⟩
    have hat17 : cl17.slots[((0 : Int32)).toNatClampNeg]? = some (.int (((((((p1.toUInt32 >>> ((8 : Int32) &&& 31).toUInt32).toInt32).toInt8.toInt32).toInt8.toInt32) &&& (255 : Int32)) <<< ((8 : Int32) &&& 31)) ||| (((p1.toInt8.toInt32).toInt8.toInt32) &&& (255 : Int32)))) := H17.at hin17 rfl
    have pre18 : ∀ t, Steps p.tables e below (T15.setTop (mkF m 120 #[.val (.int p0), .val (.int p1), .val (.int p2), .val (.int p3), .val (.int (1 : Int32)), .val (.ref b10), .val (.ref b15), .val (.int (1 : Int32))] [(.int (p1 &&& (65535 : Int32))), (.int (((((((p1.toUInt32 >>> ((8 : Int32) &&& 31).toUInt32).toInt32).toInt8.toInt32).toInt8.toInt32) &&& (255 : Int32)) <<< ((8 : Int32) &&& 31)) ||| (((p1.toInt8.toInt32).toInt8.toInt32) &&& (255 : Int32))))])) t → Steps p.tables e below (s₁.setTop (entryFrame m #[(.int p0), (.int p1), (.int p2), (.int p3)] maxLocals)) t := fun t k => pre9 t (by
      show Steps p.tables e below (s₁.setTop (mkF m 5 #[.val (.int p0), .val (.int p1), .val (.int p2), .val (.int p3), .val (.int (1 : Int32)), .unset, .unset, .unset] [])) _
      refine XS.iconst X0.here hx rfl (hb hby at_5) ?_
      show Steps p.tables e below (s₁.setTop (mkF m 6 #[.val (.int p0), .val (.int p1), .val (.int p2), .val (.int p3), .val (.int (1 : Int32)), .unset, .unset, .unset] [(.int (2 : Int32))])) _
      refine XS.iload X0.here hx rfl (hb hby at_6) rfl ?_
      show Steps p.tables e below (s₁.setTop (mkF m 8 #[.val (.int p0), .val (.int p1), .val (.int p2), .val (.int p3), .val (.int (1 : Int32)), .unset, .unset, .unset] [(.int (1 : Int32)), (.int (2 : Int32))])) _
      refine XS.imul X0.here hx rfl (hb hby at_8) rfl ?_
      show Steps p.tables e below (s₁.setTop (mkF m 9 #[.val (.int p0), .val (.int p1), .val (.int p2), .val (.int p3), .val (.int (1 : Int32)), .unset, .unset, .unset] [(.int (2 : Int32))])) _
      refine st10 _ ?_
      show Steps p.tables e below (T10.setTop (mkF m 11 #[.val (.int p0), .val (.int p1), .val (.int p2), .val (.int p3), .val (.int (1 : Int32)), .unset, .unset, .unset] [(.ref b10)])) _
      refine XS.astore X10.here hx rfl (hb hby at_11) rfl rfl (l' := #[.val (.int p0), .val (.int p1), .val (.int p2), .val (.int p3), .val (.int (1 : Int32)), .val (.ref b10), .unset, .unset]) rfl ?_
      show Steps p.tables e below (T10.setTop (mkF m 13 #[.val (.int p0), .val (.int p1), .val (.int p2), .val (.int p3), .val (.int (1 : Int32)), .val (.ref b10), .unset, .unset] [])) _
      refine XS.iload X10.here hx rfl (hb hby at_13) rfl ?_
      show Steps p.tables e below (T10.setTop (mkF m 15 #[.val (.int p0), .val (.int p1), .val (.int p2), .val (.int p3), .val (.int (1 : Int32)), .val (.ref b10), .unset, .unset] [(.int (1 : Int32))])) _
      refine XS.iconst X10.here hx rfl (hb hby at_15) ?_
      show Steps p.tables e below (T10.setTop (mkF m 16 #[.val (.int p0), .val (.int p1), .val (.int p2), .val (.int p3), .val (.int (1 : Int32)), .val (.ref b10), .unset, .unset] [(.int (1 : Int32)), (.int (1 : Int32))])) _
      refine XS.icmpNo X10.here hx rfl (hb hby at_16) rfl (flt (by decide : ¬ ((1 : Int32) < (1 : Int32)))).1 ?_
      show Steps p.tables e below (T10.setTop (mkF m 19 #[.val (.int p0), .val (.int p1), .val (.int p2), .val (.int p3), .val (.int (1 : Int32)), .val (.ref b10), .unset, .unset] [])) _
      refine XS.aload X10.here hx rfl (hb hby at_19) rfl rfl ?_
      show Steps p.tables e below (T10.setTop (mkF m 21 #[.val (.int p0), .val (.int p1), .val (.int p2), .val (.int p3), .val (.int (1 : Int32)), .val (.ref b10), .unset, .unset] [(.ref b10)])) _
      refine XS.iconst X10.here hx rfl (hb hby at_21) ?_
      show Steps p.tables e below (T10.setTop (mkF m 22 #[.val (.int p0), .val (.int p1), .val (.int p2), .val (.int p3), .val (.int (1 : Int32)), .val (.ref b10), .unset, .unset] [(.int (0 : Int32)), (.ref b10)])) _
      refine XS.iloadN X10.here hx rfl (hb hby at_22) rfl ?_
      show Steps p.tables e below (T10.setTop (mkF m 23 #[.val (.int p0), .val (.int p1), .val (.int p2), .val (.int p3), .val (.int (1 : Int32)), .val (.ref b10), .unset, .unset] [(.int p1), (.int (0 : Int32)), (.ref b10)])) _
      refine XS.bipush X10.here hx rfl (hb hby at_23) ?_
      show Steps p.tables e below (T10.setTop (mkF m 25 #[.val (.int p0), .val (.int p1), .val (.int p2), .val (.int p3), .val (.int (1 : Int32)), .val (.ref b10), .unset, .unset] [(.int (8 : Int32)), (.int p1), (.int (0 : Int32)), (.ref b10)])) _
      refine XS.iushr X10.here hx rfl (hb hby at_25) rfl ?_
      show Steps p.tables e below (T10.setTop (mkF m 26 #[.val (.int p0), .val (.int p1), .val (.int p2), .val (.int p3), .val (.int (1 : Int32)), .val (.ref b10), .unset, .unset] [(.int ((p1.toUInt32 >>> ((8 : Int32) &&& 31).toUInt32).toInt32)), (.int (0 : Int32)), (.ref b10)])) _
      refine XS.i2b X10.here hx rfl (hb hby at_26) rfl ?_
      show Steps p.tables e below (T10.setTop (mkF m 27 #[.val (.int p0), .val (.int p1), .val (.int p2), .val (.int p3), .val (.int (1 : Int32)), .val (.ref b10), .unset, .unset] [(.int (((p1.toUInt32 >>> ((8 : Int32) &&& 31).toUInt32).toInt32).toInt8.toInt32)), (.int (0 : Int32)), (.ref b10)])) _
      refine st12 _ ?_
      show Steps p.tables e below (T12.setTop (mkF m 28 #[.val (.int p0), .val (.int p1), .val (.int p2), .val (.int p3), .val (.int (1 : Int32)), .val (.ref b10), .unset, .unset] [])) _
      refine XS.aload X12.here hx rfl (hb hby at_28) rfl rfl ?_
      show Steps p.tables e below (T12.setTop (mkF m 30 #[.val (.int p0), .val (.int p1), .val (.int p2), .val (.int p3), .val (.int (1 : Int32)), .val (.ref b10), .unset, .unset] [(.ref b10)])) _
      refine XS.iconst X12.here hx rfl (hb hby at_30) ?_
      show Steps p.tables e below (T12.setTop (mkF m 31 #[.val (.int p0), .val (.int p1), .val (.int p2), .val (.int p3), .val (.int (1 : Int32)), .val (.ref b10), .unset, .unset] [(.int (1 : Int32)), (.ref b10)])) _
      refine XS.iloadN X12.here hx rfl (hb hby at_31) rfl ?_
      show Steps p.tables e below (T12.setTop (mkF m 32 #[.val (.int p0), .val (.int p1), .val (.int p2), .val (.int p3), .val (.int (1 : Int32)), .val (.ref b10), .unset, .unset] [(.int p1), (.int (1 : Int32)), (.ref b10)])) _
      refine XS.i2b X12.here hx rfl (hb hby at_32) rfl ?_
      show Steps p.tables e below (T12.setTop (mkF m 33 #[.val (.int p0), .val (.int p1), .val (.int p2), .val (.int p3), .val (.int (1 : Int32)), .val (.ref b10), .unset, .unset] [(.int (p1.toInt8.toInt32)), (.int (1 : Int32)), (.ref b10)])) _
      refine st14 _ ?_
      show Steps p.tables e below (T14.setTop (mkF m 34 #[.val (.int p0), .val (.int p1), .val (.int p2), .val (.int p3), .val (.int (1 : Int32)), .val (.ref b10), .unset, .unset] [])) _
      refine XS.iload X14.here hx rfl (hb hby at_34) rfl ?_
      show Steps p.tables e below (T14.setTop (mkF m 36 #[.val (.int p0), .val (.int p1), .val (.int p2), .val (.int p3), .val (.int (1 : Int32)), .val (.ref b10), .unset, .unset] [(.int (1 : Int32))])) _
      refine XS.iconst X14.here hx rfl (hb hby at_36) ?_
      show Steps p.tables e below (T14.setTop (mkF m 37 #[.val (.int p0), .val (.int p1), .val (.int p2), .val (.int p3), .val (.int (1 : Int32)), .val (.ref b10), .unset, .unset] [(.int (2 : Int32)), (.int (1 : Int32))])) _
      refine XS.icmpYes X14.here hx rfl (pc0 := 37) (pc' := 55) rfl (hb hby at_37) rfl (tlt (by decide : (1 : Int32) < (2 : Int32))).1 (by decide) (by decide) ?_
      show Steps p.tables e below (T14.setTop (mkF m 55 #[.val (.int p0), .val (.int p1), .val (.int p2), .val (.int p3), .val (.int (1 : Int32)), .val (.ref b10), .unset, .unset] [])) _
      refine XS.iload X14.here hx rfl (hb hby at_55) rfl ?_
      show Steps p.tables e below (T14.setTop (mkF m 57 #[.val (.int p0), .val (.int p1), .val (.int p2), .val (.int p3), .val (.int (1 : Int32)), .val (.ref b10), .unset, .unset] [(.int (1 : Int32))])) _
      refine XS.iconst X14.here hx rfl (hb hby at_57) ?_
      show Steps p.tables e below (T14.setTop (mkF m 58 #[.val (.int p0), .val (.int p1), .val (.int p2), .val (.int p3), .val (.int (1 : Int32)), .val (.ref b10), .unset, .unset] [(.int (3 : Int32)), (.int (1 : Int32))])) _
      refine XS.icmpYes X14.here hx rfl (pc0 := 58) (pc' := 76) rfl (hb hby at_58) rfl (tlt (by decide : (1 : Int32) < (3 : Int32))).1 (by decide) (by decide) ?_
      show Steps p.tables e below (T14.setTop (mkF m 76 #[.val (.int p0), .val (.int p1), .val (.int p2), .val (.int p3), .val (.int (1 : Int32)), .val (.ref b10), .unset, .unset] [])) _
      refine XS.aload X14.here hx rfl (hb hby at_76) rfl rfl ?_
      show Steps p.tables e below (T14.setTop (mkF m 78 #[.val (.int p0), .val (.int p1), .val (.int p2), .val (.int p3), .val (.int (1 : Int32)), .val (.ref b10), .unset, .unset] [(.ref b10)])) _
      refine st15 _ ?_
      show Steps p.tables e below (T15.setTop (mkF m 81 #[.val (.int p0), .val (.int p1), .val (.int p2), .val (.int p3), .val (.int (1 : Int32)), .val (.ref b10), .unset, .unset] [(.ref b15)])) _
      refine XS.astore X15.here hx rfl (hb hby at_81) rfl rfl (l' := #[.val (.int p0), .val (.int p1), .val (.int p2), .val (.int p3), .val (.int (1 : Int32)), .val (.ref b10), .val (.ref b15), .unset]) rfl ?_
      show Steps p.tables e below (T15.setTop (mkF m 83 #[.val (.int p0), .val (.int p1), .val (.int p2), .val (.int p3), .val (.int (1 : Int32)), .val (.ref b10), .val (.ref b15), .unset] [])) _
      refine XS.aload X15.here hx rfl (hb hby at_83) rfl rfl ?_
      show Steps p.tables e below (T15.setTop (mkF m 85 #[.val (.int p0), .val (.int p1), .val (.int p2), .val (.int p3), .val (.int (1 : Int32)), .val (.ref b10), .val (.ref b15), .unset] [(.ref b15)])) _
      refine XS.ifnullNo X15.here hx rfl (hb hby at_85) rfl ?_
      show Steps p.tables e below (T15.setTop (mkF m 88 #[.val (.int p0), .val (.int p1), .val (.int p2), .val (.int p3), .val (.int (1 : Int32)), .val (.ref b10), .val (.ref b15), .unset] [])) _
      refine XS.aload X15.here hx rfl (hb hby at_88) rfl rfl ?_
      show Steps p.tables e below (T15.setTop (mkF m 90 #[.val (.int p0), .val (.int p1), .val (.int p2), .val (.int p3), .val (.int (1 : Int32)), .val (.ref b10), .val (.ref b15), .unset] [(.ref b15)])) _
      refine X15.arraylength hx Ar16.1 (State.isArrayOf_alike hZ.alike Ar16.2.1) (g := (mkF m 90 #[.val (.int p0), .val (.int p1), .val (.int p2), .val (.int p3), .val (.int (1 : Int32)), .val (.ref b10), .val (.ref b15), .unset] [(.ref b15)])) rfl rfl (hb hby at_90) _ ?_
      rw [len_of S16 M16]
      show Steps p.tables e below (T15.setTop (mkF m 91 #[.val (.int p0), .val (.int p1), .val (.int p2), .val (.int p3), .val (.int (1 : Int32)), .val (.ref b10), .val (.ref b15), .unset] [(.int (1 : Int32))])) _
      refine XS.iload X15.here hx rfl (hb hby at_91) rfl ?_
      show Steps p.tables e below (T15.setTop (mkF m 93 #[.val (.int p0), .val (.int p1), .val (.int p2), .val (.int p3), .val (.int (1 : Int32)), .val (.ref b10), .val (.ref b15), .unset] [(.int (1 : Int32)), (.int (1 : Int32))])) _
      refine XS.icmpYes X15.here hx rfl (pc0 := 93) (pc' := 98) rfl (hb hby at_93) rfl (teq (rfl : (1 : Int32) = (1 : Int32))).1 (by decide) (by decide) ?_
      show Steps p.tables e below (T15.setTop (mkF m 98 #[.val (.int p0), .val (.int p1), .val (.int p2), .val (.int p3), .val (.int (1 : Int32)), .val (.ref b10), .val (.ref b15), .unset] [])) _
      refine XS.iconst X15.here hx rfl (hb hby at_98) ?_
      show Steps p.tables e below (T15.setTop (mkF m 99 #[.val (.int p0), .val (.int p1), .val (.int p2), .val (.int p3), .val (.int (1 : Int32)), .val (.ref b10), .val (.ref b15), .unset] [(.int (1 : Int32))])) _
      refine XS.istore X15.here hx rfl (hb hby at_99) rfl (l' := #[.val (.int p0), .val (.int p1), .val (.int p2), .val (.int p3), .val (.int (1 : Int32)), .val (.ref b10), .val (.ref b15), .val (.int (1 : Int32))]) rfl ?_
      show Steps p.tables e below (T15.setTop (mkF m 101 #[.val (.int p0), .val (.int p1), .val (.int p2), .val (.int p3), .val (.int (1 : Int32)), .val (.ref b10), .val (.ref b15), .val (.int (1 : Int32))] [])) _
      refine XS.iload X15.here hx rfl (hb hby at_101) rfl ?_
      show Steps p.tables e below (T15.setTop (mkF m 103 #[.val (.int p0), .val (.int p1), .val (.int p2), .val (.int p3), .val (.int (1 : Int32)), .val (.ref b10), .val (.ref b15), .val (.int (1 : Int32))] [(.int (1 : Int32))])) _
      refine XS.iconst X15.here hx rfl (hb hby at_103) ?_
      show Steps p.tables e below (T15.setTop (mkF m 104 #[.val (.int p0), .val (.int p1), .val (.int p2), .val (.int p3), .val (.int (1 : Int32)), .val (.ref b10), .val (.ref b15), .val (.int (1 : Int32))] [(.int (1 : Int32)), (.int (1 : Int32))])) _
      refine XS.icmpNo X15.here hx rfl (hb hby at_104) rfl (flt (by decide : ¬ ((1 : Int32) < (1 : Int32)))).1 ?_
      show Steps p.tables e below (T15.setTop (mkF m 107 #[.val (.int p0), .val (.int p1), .val (.int p2), .val (.int p3), .val (.int (1 : Int32)), .val (.ref b10), .val (.ref b15), .val (.int (1 : Int32))] [])) _
      refine XS.iload X15.here hx rfl (hb hby at_107) rfl ?_
      show Steps p.tables e below (T15.setTop (mkF m 109 #[.val (.int p0), .val (.int p1), .val (.int p2), .val (.int p3), .val (.int (1 : Int32)), .val (.ref b10), .val (.ref b15), .val (.int (1 : Int32))] [(.int (1 : Int32))])) _
      refine XS.ifNo X15.here hx rfl (hb hby at_109) rfl ((if0 _ _).trans (feq (by decide : ¬ ((1 : Int32) = (0 : Int32)))).1) ?_
      show Steps p.tables e below (T15.setTop (mkF m 112 #[.val (.int p0), .val (.int p1), .val (.int p2), .val (.int p3), .val (.int (1 : Int32)), .val (.ref b10), .val (.ref b15), .val (.int (1 : Int32))] [])) _
      refine XS.aload X15.here hx rfl (hb hby at_112) rfl rfl ?_
      show Steps p.tables e below (T15.setTop (mkF m 114 #[.val (.int p0), .val (.int p1), .val (.int p2), .val (.int p3), .val (.int (1 : Int32)), .val (.ref b10), .val (.ref b15), .val (.int (1 : Int32))] [(.ref b15)])) _
      refine XS.iconst X15.here hx rfl (hb hby at_114) ?_
      show Steps p.tables e below (T15.setTop (mkF m 115 #[.val (.int p0), .val (.int p1), .val (.int p2), .val (.int p3), .val (.int (1 : Int32)), .val (.ref b10), .val (.ref b15), .val (.int (1 : Int32))] [(.int (0 : Int32)), (.ref b15)])) _
      refine X15.iaload hx (j := (0 : Int32)) (v := (.int (((((((p1.toUInt32 >>> ((8 : Int32) &&& 31).toUInt32).toInt32).toInt8.toInt32).toInt8.toInt32) &&& (255 : Int32)) <<< ((8 : Int32) &&& 31)) ||| (((p1.toInt8.toInt32).toInt8.toInt32) &&& (255 : Int32))))) Ar17.1 (State.isArrayOf_alike hZ.alike Ar17.2.1) Ar17.2.2 hin17 hat17 (g := (mkF m 115 #[.val (.int p0), .val (.int p1), .val (.int p2), .val (.int p3), .val (.int (1 : Int32)), .val (.ref b10), .val (.ref b15), .val (.int (1 : Int32))] [(.int (0 : Int32)), (.ref b15)])) rfl rfl (hb hby at_115) _ ?_
      show Steps p.tables e below (T15.setTop (mkF m 116 #[.val (.int p0), .val (.int p1), .val (.int p2), .val (.int p3), .val (.int (1 : Int32)), .val (.ref b10), .val (.ref b15), .val (.int (1 : Int32))] [(.int (((((((p1.toUInt32 >>> ((8 : Int32) &&& 31).toUInt32).toInt32).toInt8.toInt32).toInt8.toInt32) &&& (255 : Int32)) <<< ((8 : Int32) &&& 31)) ||| (((p1.toInt8.toInt32).toInt8.toInt32) &&& (255 : Int32))))])) _
      refine XS.iloadN X15.here hx rfl (hb hby at_116) rfl ?_
      show Steps p.tables e below (T15.setTop (mkF m 117 #[.val (.int p0), .val (.int p1), .val (.int p2), .val (.int p3), .val (.int (1 : Int32)), .val (.ref b10), .val (.ref b15), .val (.int (1 : Int32))] [(.int p1), (.int (((((((p1.toUInt32 >>> ((8 : Int32) &&& 31).toUInt32).toInt32).toInt8.toInt32).toInt8.toInt32) &&& (255 : Int32)) <<< ((8 : Int32) &&& 31)) ||| (((p1.toInt8.toInt32).toInt8.toInt32) &&& (255 : Int32))))])) _
      refine X15.ldcInt hx hown (mvT hZ (hw _ (List.mem_of_getElem? (i := 6) rfl))) (g := (mkF m 117 #[.val (.int p0), .val (.int p1), .val (.int p2), .val (.int p3), .val (.int (1 : Int32)), .val (.ref b10), .val (.ref b15), .val (.int (1 : Int32))] [(.int p1), (.int (((((((p1.toUInt32 >>> ((8 : Int32) &&& 31).toUInt32).toInt32).toInt8.toInt32).toInt8.toInt32) &&& (255 : Int32)) <<< ((8 : Int32) &&& 31)) ||| (((p1.toInt8.toInt32).toInt8.toInt32) &&& (255 : Int32))))])) rfl (hb hby at_117) _ ?_
      show Steps p.tables e below (T15.setTop (mkF m 119 #[.val (.int p0), .val (.int p1), .val (.int p2), .val (.int p3), .val (.int (1 : Int32)), .val (.ref b10), .val (.ref b15), .val (.int (1 : Int32))] [(.int (65535 : Int32)), (.int p1), (.int (((((((p1.toUInt32 >>> ((8 : Int32) &&& 31).toUInt32).toInt32).toInt8.toInt32).toInt8.toInt32) &&& (255 : Int32)) <<< ((8 : Int32) &&& 31)) ||| (((p1.toInt8.toInt32).toInt8.toInt32) &&& (255 : Int32))))])) _
      refine XS.iand X15.here hx rfl (hb hby at_119) rfl ?_
      exact k)
    obtain ⟨T19, L19, X19, e19, N19, pre19⟩ : ∃ (T' : State) (locs' : List Loc), Stand p l e room_1 s m #[(.int p0), (.int p1), (.int p2), (.int p3)] below meth c T' locs' 2 3 ∧ T'.heap = T15.heap ∧ Fr n0 locs' ∧ ∀ t, Steps p.tables e below (T'.setTop (mkF m 128 #[.val (.int p0), .val (.int p1), .val (.int p2), .val (.int p3), .val (.int (1 : Int32)), .val (.ref b10), .val (.ref b15), .val (.int (1 : Int32))] [(.int (f0_m22 p0 p1 p2 p3))])) t → Steps p.tables e below (s₁.setTop (entryFrame m #[(.int p0), (.int p1), (.int p2), (.int p3)] maxLocals)) t := by
      by_cases hc120_19 : (((((((p1.toUInt32 >>> ((8 : Int32) &&& 31).toUInt32).toInt32).toInt8.toInt32).toInt8.toInt32) &&& (255 : Int32)) <<< ((8 : Int32) &&& 31)) ||| (((p1.toInt8.toInt32).toInt8.toInt32) &&& (255 : Int32))) = (p1 &&& (65535 : Int32))
      · have pre20 : ∀ t, Steps p.tables e below (T15.setTop (mkF m 128 #[.val (.int p0), .val (.int p1), .val (.int p2), .val (.int p3), .val (.int (1 : Int32)), .val (.ref b10), .val (.ref b15), .val (.int (1 : Int32))] [(.int (1 : Int32))])) t → Steps p.tables e below (s₁.setTop (entryFrame m #[(.int p0), (.int p1), (.int p2), (.int p3)] maxLocals)) t := fun t k => pre18 t (by
          show Steps p.tables e below (T15.setTop (mkF m 120 #[.val (.int p0), .val (.int p1), .val (.int p2), .val (.int p3), .val (.int (1 : Int32)), .val (.ref b10), .val (.ref b15), .val (.int (1 : Int32))] [(.int (p1 &&& (65535 : Int32))), (.int (((((((p1.toUInt32 >>> ((8 : Int32) &&& 31).toUInt32).toInt32).toInt8.toInt32).toInt8.toInt32) &&& (255 : Int32)) <<< ((8 : Int32) &&& 31)) ||| (((p1.toInt8.toInt32).toInt8.toInt32) &&& (255 : Int32))))])) _
          refine XS.icmpNo X15.here hx rfl (hb hby at_120) rfl (teq hc120_19).2 ?_
          show Steps p.tables e below (T15.setTop (mkF m 123 #[.val (.int p0), .val (.int p1), .val (.int p2), .val (.int p3), .val (.int (1 : Int32)), .val (.ref b10), .val (.ref b15), .val (.int (1 : Int32))] [])) _
          refine XS.iconst X15.here hx rfl (hb hby at_123) ?_
          show Steps p.tables e below (T15.setTop (mkF m 124 #[.val (.int p0), .val (.int p1), .val (.int p2), .val (.int p3), .val (.int (1 : Int32)), .val (.ref b10), .val (.ref b15), .val (.int (1 : Int32))] [(.int (1 : Int32))])) _
          refine XS.goto X15.here hx rfl (pc0 := 124) (pc' := 128) rfl (hb hby at_124) (by decide) (by decide) ?_
          exact k)
        have q_f0_m22 : f0_m22 p0 p1 p2 p3 = (1 : Int32) := by unfold f0_m22; rw [if_pos hc120_19]
        rw [q_f0_m22]
        exact ⟨T15, _, X15, rfl, N15, pre20⟩
      have pre21 : ∀ t, Steps p.tables e below (T15.setTop (mkF m 128 #[.val (.int p0), .val (.int p1), .val (.int p2), .val (.int p3), .val (.int (1 : Int32)), .val (.ref b10), .val (.ref b15), .val (.int (1 : Int32))] [(.int (0 : Int32))])) t → Steps p.tables e below (s₁.setTop (entryFrame m #[(.int p0), (.int p1), (.int p2), (.int p3)] maxLocals)) t := fun t k => pre18 t (by
        show Steps p.tables e below (T15.setTop (mkF m 120 #[.val (.int p0), .val (.int p1), .val (.int p2), .val (.int p3), .val (.int (1 : Int32)), .val (.ref b10), .val (.ref b15), .val (.int (1 : Int32))] [(.int (p1 &&& (65535 : Int32))), (.int (((((((p1.toUInt32 >>> ((8 : Int32) &&& 31).toUInt32).toInt32).toInt8.toInt32).toInt8.toInt32) &&& (255 : Int32)) <<< ((8 : Int32) &&& 31)) ||| (((p1.toInt8.toInt32).toInt8.toInt32) &&& (255 : Int32))))])) _
        refine XS.icmpYes X15.here hx rfl (pc0 := 120) (pc' := 127) rfl (hb hby at_120) rfl (feq hc120_19).2 (by decide) (by decide) ?_
        show Steps p.tables e below (T15.setTop (mkF m 127 #[.val (.int p0), .val (.int p1), .val (.int p2), .val (.int p3), .val (.int (1 : Int32)), .val (.ref b10), .val (.ref b15), .val (.int (1 : Int32))] [])) _
        refine XS.iconst X15.here hx rfl (hb hby at_127) ?_
        exact k)
      have q_f0_m22 : f0_m22 p0 p1 p2 p3 = (0 : Int32) := by unfold f0_m22; rw [if_neg hc120_19]
      rw [q_f0_m22]
      exact ⟨T15, _, X15, rfl, N15, pre21⟩
    have pre23 : ∀ t, Steps p.tables e below (T19.setTop (mkF m 190 #[.val (.int p0), .val (.int p1), .val (.int p2), .val (.int p3), .val (.int (1 : Int32)), .val (.ref b10), .val (.ref b15), .val (.int (f0_m22 p0 p1 p2 p3))] [(.int (f0_m22 p0 p1 p2 p3))])) t → Steps p.tables e below (s₁.setTop (entryFrame m #[(.int p0), (.int p1), (.int p2), (.int p3)] maxLocals)) t := fun t k => pre19 t (by
      show Steps p.tables e below (T19.setTop (mkF m 128 #[.val (.int p0), .val (.int p1), .val (.int p2), .val (.int p3), .val (.int (1 : Int32)), .val (.ref b10), .val (.ref b15), .val (.int (1 : Int32))] [(.int (f0_m22 p0 p1 p2 p3))])) _
      refine XS.istore X19.here hx rfl (hb hby at_128) rfl (l' := #[.val (.int p0), .val (.int p1), .val (.int p2), .val (.int p3), .val (.int (1 : Int32)), .val (.ref b10), .val (.ref b15), .val (.int (f0_m22 p0 p1 p2 p3))]) rfl ?_
      show Steps p.tables e below (T19.setTop (mkF m 130 #[.val (.int p0), .val (.int p1), .val (.int p2), .val (.int p3), .val (.int (1 : Int32)), .val (.ref b10), .val (.ref b15), .val (.int (f0_m22 p0 p1 p2 p3))] [])) _
      refine XS.iload X19.here hx rfl (hb hby at_130) rfl ?_
      show Steps p.tables e below (T19.setTop (mkF m 132 #[.val (.int p0), .val (.int p1), .val (.int p2), .val (.int p3), .val (.int (1 : Int32)), .val (.ref b10), .val (.ref b15), .val (.int (f0_m22 p0 p1 p2 p3))] [(.int (1 : Int32))])) _
      refine XS.iconst X19.here hx rfl (hb hby at_132) ?_
      show Steps p.tables e below (T19.setTop (mkF m 133 #[.val (.int p0), .val (.int p1), .val (.int p2), .val (.int p3), .val (.int (1 : Int32)), .val (.ref b10), .val (.ref b15), .val (.int (f0_m22 p0 p1 p2 p3))] [(.int (2 : Int32)), (.int (1 : Int32))])) _
      refine XS.icmpYes X19.here hx rfl (pc0 := 133) (pc' := 159) rfl (hb hby at_133) rfl (tlt (by decide : (1 : Int32) < (2 : Int32))).1 (by decide) (by decide) ?_
      show Steps p.tables e below (T19.setTop (mkF m 159 #[.val (.int p0), .val (.int p1), .val (.int p2), .val (.int p3), .val (.int (1 : Int32)), .val (.ref b10), .val (.ref b15), .val (.int (f0_m22 p0 p1 p2 p3))] [])) _
      refine XS.iload X19.here hx rfl (hb hby at_159) rfl ?_
      show Steps p.tables e below (T19.setTop (mkF m 161 #[.val (.int p0), .val (.int p1), .val (.int p2), .val (.int p3), .val (.int (1 : Int32)), .val (.ref b10), .val (.ref b15), .val (.int (f0_m22 p0 p1 p2 p3))] [(.int (1 : Int32))])) _
      refine XS.iconst X19.here hx rfl (hb hby at_161) ?_
      show Steps p.tables e below (T19.setTop (mkF m 162 #[.val (.int p0), .val (.int p1), .val (.int p2), .val (.int p3), .val (.int (1 : Int32)), .val (.ref b10), .val (.ref b15), .val (.int (f0_m22 p0 p1 p2 p3))] [(.int (3 : Int32)), (.int (1 : Int32))])) _
      refine XS.icmpYes X19.here hx rfl (pc0 := 162) (pc' := 188) rfl (hb hby at_162) rfl (tlt (by decide : (1 : Int32) < (3 : Int32))).1 (by decide) (by decide) ?_
      show Steps p.tables e below (T19.setTop (mkF m 188 #[.val (.int p0), .val (.int p1), .val (.int p2), .val (.int p3), .val (.int (1 : Int32)), .val (.ref b10), .val (.ref b15), .val (.int (f0_m22 p0 p1 p2 p3))] [])) _
      refine XS.iload X19.here hx rfl (hb hby at_188) rfl ?_
      exact k)
    obtain ⟨fs, hr, hrun, hended, hW, hsame⟩ := X19.leave (v := some (.int ((f0_m22 p0 p1 p2 p3) &&& 1))) (fun h => by rw [Bd.returns] at h; cases h) hlk
    have hF : (F0 p0 p1 p2 p3) = ((f0_m22 p0 p1 p2 p3) &&& 1) := by unfold F0; rw [if_neg hv2, if_pos hv8]
    exact ⟨_, _, pre23 _ (retN X19 hx (t := .boolean) Bd.returns (by simp) (hb hby at_190) hr), hrun, hended, _, _, rfl, ⟨by rw [hF], N19⟩, ⟨_, rfl⟩, hW, hsame.mono (by decide) (by decide)⟩
  by_cases hv24 : (p0 &&& (3 : Int32)) = (2 : Int32)
  · have pre25 := pre1
    rw [hv24] at pre25
    obtain ⟨T26, h26, k26, X26, e26, E26, A26, st26⟩ := newP X0 hx hZ (hw _ (List.mem_of_getElem? (i := 0) rfl)) e0 (g := (mkF m 9 #[.val (.int p0), .val (.int p1), .val (.int p2), .val (.int p3), .val (.int (2 : Int32)), .unset, .unset, .unset] [(.int (4 : Int32))])) rfl (hb hby at_9) rfl (by decide) (cap := 4) (by decide) (by decide) (by decide) (by decide)
    obtain ⟨b26, g26⟩ : ∃ z, z = h0.size := ⟨_, rfl⟩
    rw [← g26] at A26 st26
    have g_b26 : n0 ≤ b26 := Nat.le_trans Z0 (Nat.le_of_eq g26.symm)
    have Z26 : n0 ≤ h26.size := Nat.le_trans Z0 E26.1
    have V26 : Arv Z h26 b26 k26 .byte (4 : Int32) [(.int (0 : Int32)), (.int (0 : Int32)), (.int (0 : Int32)), (.int (0 : Int32))] (.int (0 : Int32)) := (Arv.new A26 (by decide)).pad (pad_rep [] (.int (0 : Int32)) 4)
    obtain ⟨cl27, Ar27, q27, S27, M27, H27, G27⟩ := id V26
    have hin27 : ¬ ((0 : Int32) < 0 ∨ cl27.slots.size ≤ ((0 : Int32)).toNatClampNeg) := inb_of S27 ⟨by decide, by decide⟩
    obtain ⟨T28, h28, X28, e28, W28, st28⟩ := stB X26 hx hZ e26 Ar27 (j := (0 : Int32)) hin27 (g := (mkF m 27 #[.val (.int p0), .val (.int p1), .val (.int p2), .val (.int p3), .val (.int (2 : Int32)), .val (.ref b26), .unset, .unset] [(.int (((p1.toUInt32 >>> ((8 : Int32) &&& 31).toUInt32).toInt32).toInt8.toInt32)), (.int (0 : Int32)), (.ref b26)])) rfl rfl (hb hby at_27)
    have Z28 : n0 ≤ h28.size := Nat.le_trans Z26 (Keep.of_wr W28).1
    have N28 := Fr.snoc X28 N0 g_b26
    have V28 : Arv Z h28 b26 k26 .byte (4 : Int32) [(.int ((((p1.toUInt32 >>> ((8 : Int32) &&& 31).toUInt32).toInt32).toInt8.toInt32).toInt8.toInt32)), (.int (0 : Int32)), (.int (0 : Int32)), (.int (0 : Int32))] (.int (0 : Int32)) := Arv.set Ar27 q27 S27 M27 H27 G27 (fits_nar_byte _) W28 0 rfl (Nat.le_of_ble_eq_true rfl)
    obtain ⟨cl29, Ar29, q29, S29, M29, H29, G29⟩ := id V28
    have hin29 : ¬ ((1 : Int32) < 0 ∨ cl29.slots.size ≤ ((1 : Int32)).toNatClampNeg) := inb_of S29 ⟨by decide, by decide⟩
    obtain ⟨T30, h30, X30, e30, W30, st30⟩ := stB X28 hx hZ e28 Ar29 (j := (1 : Int32)) hin29 (g := (mkF m 33 #[.val (.int p0), .val (.int p1), .val (.int p2), .val (.int p3), .val (.int (2 : Int32)), .val (.ref b26), .unset, .unset] [(.int (p1.toInt8.toInt32)), (.int (1 : Int32)), (.ref b26)])) rfl rfl (hb hby at_33)
    have Z30 : n0 ≤ h30.size := Nat.le_trans Z28 (Keep.of_wr W30).1
    have N30 := Fr.snoc X30 N28 g_b26
    have V30 : Arv Z h30 b26 k26 .byte (4 : Int32) [(.int ((((p1.toUInt32 >>> ((8 : Int32) &&& 31).toUInt32).toInt32).toInt8.toInt32).toInt8.toInt32)), (.int ((p1.toInt8.toInt32).toInt8.toInt32)), (.int (0 : Int32)), (.int (0 : Int32))] (.int (0 : Int32)) := Arv.set Ar29 q29 S29 M29 H29 G29 (fits_nar_byte _) W30 1 rfl (Nat.le_of_ble_eq_true rfl)
    obtain ⟨cl31, Ar31, q31, S31, M31, H31, G31⟩ := id V30
    have hin31 : ¬ ((2 : Int32) < 0 ∨ cl31.slots.size ≤ ((2 : Int32)).toNatClampNeg) := inb_of S31 ⟨by decide, by decide⟩
    obtain ⟨T32, h32, X32, e32, W32, st32⟩ := stB X30 hx hZ e30 Ar31 (j := (2 : Int32)) hin31 (g := (mkF m 48 #[.val (.int p0), .val (.int p1), .val (.int p2), .val (.int p3), .val (.int (2 : Int32)), .val (.ref b26), .unset, .unset] [(.int (((p2.toUInt32 >>> ((8 : Int32) &&& 31).toUInt32).toInt32).toInt8.toInt32)), (.int (2 : Int32)), (.ref b26)])) rfl rfl (hb hby at_48)
    have Z32 : n0 ≤ h32.size := Nat.le_trans Z30 (Keep.of_wr W32).1
    have N32 := Fr.snoc X32 N30 g_b26
    have V32 : Arv Z h32 b26 k26 .byte (4 : Int32) [(.int ((((p1.toUInt32 >>> ((8 : Int32) &&& 31).toUInt32).toInt32).toInt8.toInt32).toInt8.toInt32)), (.int ((p1.toInt8.toInt32).toInt8.toInt32)), (.int ((((p2.toUInt32 >>> ((8 : Int32) &&& 31).toUInt32).toInt32).toInt8.toInt32).toInt8.toInt32)), (.int (0 : Int32))] (.int (0 : Int32)) := Arv.set Ar31 q31 S31 M31 H31 G31 (fits_nar_byte _) W32 2 rfl (Nat.le_of_ble_eq_true rfl)
    obtain ⟨cl33, Ar33, q33, S33, M33, H33, G33⟩ := id V32
    have hin33 : ¬ ((3 : Int32) < 0 ∨ cl33.slots.size ≤ ((3 : Int32)).toNatClampNeg) := inb_of S33 ⟨by decide, by decide⟩
    obtain ⟨T34, h34, X34, e34, W34, st34⟩ := stB X32 hx hZ e32 Ar33 (j := (3 : Int32)) hin33 (g := (mkF m 54 #[.val (.int p0), .val (.int p1), .val (.int p2), .val (.int p3), .val (.int (2 : Int32)), .val (.ref b26), .unset, .unset] [(.int (p2.toInt8.toInt32)), (.int (3 : Int32)), (.ref b26)])) rfl rfl (hb hby at_54)
    have Z34 : n0 ≤ h34.size := Nat.le_trans Z32 (Keep.of_wr W34).1
    have N34 := Fr.snoc X34 N32 g_b26
    have V34 : Arv Z h34 b26 k26 .byte (4 : Int32) [(.int ((((p1.toUInt32 >>> ((8 : Int32) &&& 31).toUInt32).toInt32).toInt8.toInt32).toInt8.toInt32)), (.int ((p1.toInt8.toInt32).toInt8.toInt32)), (.int ((((p2.toUInt32 >>> ((8 : Int32) &&& 31).toUInt32).toInt32).toInt8.toInt32).toInt8.toInt32)), (.int ((p2.toInt8.toInt32).toInt8.toInt32))] (.int (0 : Int32)) := Arv.set Ar33 q33 S33 M33 H33 G33 (fits_nar_byte _) W34 3 rfl (Nat.le_of_ble_eq_true rfl)
    obtain ⟨_, _, ⟨T35, L35, k35, n35⟩, -, X35, ⟨Lc35, hQ35, l35, y35, z35⟩, st35⟩ := Jvm.LawKit.callS X34 hx (y := (⟨"com/example/cardwarden/cardwarden/core/fs/FilePath", "fileIds", "([B)[I"⟩ : MethodName)) hown (mvT hZ (hw _ (List.mem_of_getElem? (i := 1) rfl))) (mvT hZ (hw _ (List.mem_of_getElem? (i := 2) rfl))) (mvT hZ (hw _ (List.mem_of_getElem? (i := 3) rfl))) (mvT hZ (hw _ (List.mem_of_getElem? (i := 4) rfl))) (by decide) (backOf (W := 0) (rm1_2 l Z a0' hw [] b26 ((((p1.toUInt32 >>> ((8 : Int32) &&& 31).toUInt32).toInt32).toInt8.toInt32).toInt8.toInt32) ((p1.toInt8.toInt32).toInt8.toInt32) ((((p2.toUInt32 >>> ((8 : Int32) &&& 31).toUInt32).toInt32).toInt8.toInt32).toInt8.toInt32) ((p2.toInt8.toInt32).toInt8.toInt32) k26 h34 n0 Z34 V34) hZ (hw _ (List.mem_of_getElem? (i := 4) rfl)) (hw _ (List.mem_of_getElem? (i := 3) rfl)) (by decide) (by decide)) (g := (mkF m 78 #[.val (.int p0), .val (.int p1), .val (.int p2), .val (.int p3), .val (.int (2 : Int32)), .val (.ref b26), .unset, .unset] [(.ref b26)])) rfl (by rw [hml]; rfl) (argsL := [(.ref b26)]) (rest := []) (lenOf pd0 rfl) rfl (by show 2 * 0 + _ ≤ _; exact Nat.le_of_eq rfl) (hb hby at_78) (fun _ _ => ⟨rfl, e34, (by decide : 1 + 1 ≤ _), (by decide : 4 + 2 ≤ _)⟩)
    dsimp only [Pt.U, Pt.locs, Pt.cells, Pt.slots] at X35 l35 y35 z35 st35 hQ35
    subst l35 y35 z35
    obtain ⟨b35, rfl, N35q, gs35, g_b35, K35, u35_0⟩ := hQ35
    have N35 := Fr.app N34 N35q
    have ne_b26_b35 : b26 ≠ b35 := Nat.ne_of_lt (Nat.lt_of_lt_of_le V34.lt gs35)
    have Z35 : n0 ≤ T35.heap.size := Nat.le_trans Z34 K35.1
    obtain ⟨kk35, u35_0⟩ := u35_0
    obtain ⟨cl36, Ar36, q36, S36, M36, H36, G36⟩ := id u35_0
    obtain ⟨cl37, Ar37, q37, S37, M37, H37, G37⟩ := id u35_0
    have hin37 : ¬ ((0 : Int32) < 0 ∨ cl37.slots.size ≤ ((0 : Int32)).toNatClampNeg) := inb_of S37 ⟨by decide, by decide⟩
    have hat37 : cl37.slots[((0 : Int32)).toNatClampNeg]? = some (.int (((((((p1.toUInt32 >>> ((8 : Int32) &&& 31).toUInt32).toInt32).toInt8.toInt32).toInt8.toInt32) &&& (255 : Int32)) <<< ((8 : Int32) &&& 31)) ||| (((p1.toInt8.toInt32).toInt8.toInt32) &&& (255 : Int32)))) := H37.at hin37 rfl
    have pre38 : ∀ t, Steps p.tables e below (T35.setTop (mkF m 120 #[.val (.int p0), .val (.int p1), .val (.int p2), .val (.int p3), .val (.int (2 : Int32)), .val (.ref b26), .val (.ref b35), .val (.int (1 : Int32))] [(.int (p1 &&& (65535 : Int32))), (.int (((((((p1.toUInt32 >>> ((8 : Int32) &&& 31).toUInt32).toInt32).toInt8.toInt32).toInt8.toInt32) &&& (255 : Int32)) <<< ((8 : Int32) &&& 31)) ||| (((p1.toInt8.toInt32).toInt8.toInt32) &&& (255 : Int32))))])) t → Steps p.tables e below (s₁.setTop (entryFrame m #[(.int p0), (.int p1), (.int p2), (.int p3)] maxLocals)) t := fun t k => pre25 t (by
      show Steps p.tables e below (s₁.setTop (mkF m 5 #[.val (.int p0), .val (.int p1), .val (.int p2), .val (.int p3), .val (.int (2 : Int32)), .unset, .unset, .unset] [])) _
      refine XS.iconst X0.here hx rfl (hb hby at_5) ?_
      show Steps p.tables e below (s₁.setTop (mkF m 6 #[.val (.int p0), .val (.int p1), .val (.int p2), .val (.int p3), .val (.int (2 : Int32)), .unset, .unset, .unset] [(.int (2 : Int32))])) _
      refine XS.iload X0.here hx rfl (hb hby at_6) rfl ?_
      show Steps p.tables e below (s₁.setTop (mkF m 8 #[.val (.int p0), .val (.int p1), .val (.int p2), .val (.int p3), .val (.int (2 : Int32)), .unset, .unset, .unset] [(.int (2 : Int32)), (.int (2 : Int32))])) _
      refine XS.imul X0.here hx rfl (hb hby at_8) rfl ?_
      show Steps p.tables e below (s₁.setTop (mkF m 9 #[.val (.int p0), .val (.int p1), .val (.int p2), .val (.int p3), .val (.int (2 : Int32)), .unset, .unset, .unset] [(.int (4 : Int32))])) _
      refine st26 _ ?_
      show Steps p.tables e below (T26.setTop (mkF m 11 #[.val (.int p0), .val (.int p1), .val (.int p2), .val (.int p3), .val (.int (2 : Int32)), .unset, .unset, .unset] [(.ref b26)])) _
      refine XS.astore X26.here hx rfl (hb hby at_11) rfl rfl (l' := #[.val (.int p0), .val (.int p1), .val (.int p2), .val (.int p3), .val (.int (2 : Int32)), .val (.ref b26), .unset, .unset]) rfl ?_
      show Steps p.tables e below (T26.setTop (mkF m 13 #[.val (.int p0), .val (.int p1), .val (.int p2), .val (.int p3), .val (.int (2 : Int32)), .val (.ref b26), .unset, .unset] [])) _
      refine XS.iload X26.here hx rfl (hb hby at_13) rfl ?_
      show Steps p.tables e below (T26.setTop (mkF m 15 #[.val (.int p0), .val (.int p1), .val (.int p2), .val (.int p3), .val (.int (2 : Int32)), .val (.ref b26), .unset, .unset] [(.int (2 : Int32))])) _
      refine XS.iconst X26.here hx rfl (hb hby at_15) ?_
      show Steps p.tables e below (T26.setTop (mkF m 16 #[.val (.int p0), .val (.int p1), .val (.int p2), .val (.int p3), .val (.int (2 : Int32)), .val (.ref b26), .unset, .unset] [(.int (1 : Int32)), (.int (2 : Int32))])) _
      refine XS.icmpNo X26.here hx rfl (hb hby at_16) rfl (flt (by decide : ¬ ((2 : Int32) < (1 : Int32)))).1 ?_
      show Steps p.tables e below (T26.setTop (mkF m 19 #[.val (.int p0), .val (.int p1), .val (.int p2), .val (.int p3), .val (.int (2 : Int32)), .val (.ref b26), .unset, .unset] [])) _
      refine XS.aload X26.here hx rfl (hb hby at_19) rfl rfl ?_
      show Steps p.tables e below (T26.setTop (mkF m 21 #[.val (.int p0), .val (.int p1), .val (.int p2), .val (.int p3), .val (.int (2 : Int32)), .val (.ref b26), .unset, .unset] [(.ref b26)])) _
      refine XS.iconst X26.here hx rfl (hb hby at_21) ?_
      show Steps p.tables e below (T26.setTop (mkF m 22 #[.val (.int p0), .val (.int p1), .val (.int p2), .val (.int p3), .val (.int (2 : Int32)), .val (.ref b26), .unset, .unset] [(.int (0 : Int32)), (.ref b26)])) _
      refine XS.iloadN X26.here hx rfl (hb hby at_22) rfl ?_
      show Steps p.tables e below (T26.setTop (mkF m 23 #[.val (.int p0), .val (.int p1), .val (.int p2), .val (.int p3), .val (.int (2 : Int32)), .val (.ref b26), .unset, .unset] [(.int p1), (.int (0 : Int32)), (.ref b26)])) _
      refine XS.bipush X26.here hx rfl (hb hby at_23) ?_
      show Steps p.tables e below (T26.setTop (mkF m 25 #[.val (.int p0), .val (.int p1), .val (.int p2), .val (.int p3), .val (.int (2 : Int32)), .val (.ref b26), .unset, .unset] [(.int (8 : Int32)), (.int p1), (.int (0 : Int32)), (.ref b26)])) _
      refine XS.iushr X26.here hx rfl (hb hby at_25) rfl ?_
      show Steps p.tables e below (T26.setTop (mkF m 26 #[.val (.int p0), .val (.int p1), .val (.int p2), .val (.int p3), .val (.int (2 : Int32)), .val (.ref b26), .unset, .unset] [(.int ((p1.toUInt32 >>> ((8 : Int32) &&& 31).toUInt32).toInt32)), (.int (0 : Int32)), (.ref b26)])) _
      refine XS.i2b X26.here hx rfl (hb hby at_26) rfl ?_
      show Steps p.tables e below (T26.setTop (mkF m 27 #[.val (.int p0), .val (.int p1), .val (.int p2), .val (.int p3), .val (.int (2 : Int32)), .val (.ref b26), .unset, .unset] [(.int (((p1.toUInt32 >>> ((8 : Int32) &&& 31).toUInt32).toInt32).toInt8.toInt32)), (.int (0 : Int32)), (.ref b26)])) _
      refine st28 _ ?_
      show Steps p.tables e below (T28.setTop (mkF m 28 #[.val (.int p0), .val (.int p1), .val (.int p2), .val (.int p3), .val (.int (2 : Int32)), .val (.ref b26), .unset, .unset] [])) _
      refine XS.aload X28.here hx rfl (hb hby at_28) rfl rfl ?_
      show Steps p.tables e below (T28.setTop (mkF m 30 #[.val (.int p0), .val (.int p1), .val (.int p2), .val (.int p3), .val (.int (2 : Int32)), .val (.ref b26), .unset, .unset] [(.ref b26)])) _
      refine XS.iconst X28.here hx rfl (hb hby at_30) ?_
      show Steps p.tables e below (T28.setTop (mkF m 31 #[.val (.int p0), .val (.int p1), .val (.int p2), .val (.int p3), .val (.int (2 : Int32)), .val (.ref b26), .unset, .unset] [(.int (1 : Int32)), (.ref b26)])) _
      refine XS.iloadN X28.here hx rfl (hb hby at_31) rfl ?_
      show Steps p.tables e below (T28.setTop (mkF m 32 #[.val (.int p0), .val (.int p1), .val (.int p2), .val (.int p3), .val (.int (2 : Int32)), .val (.ref b26), .unset, .unset] [(.int p1), (.int (1 : Int32)), (.ref b26)])) _
      refine XS.i2b X28.here hx rfl (hb hby at_32) rfl ?_
      show Steps p.tables e below (T28.setTop (mkF m 33 #[.val (.int p0), .val (.int p1), .val (.int p2), .val (.int p3), .val (.int (2 : Int32)), .val (.ref b26), .unset, .unset] [(.int (p1.toInt8.toInt32)), (.int (1 : Int32)), (.ref b26)])) _
      refine st30 _ ?_
      show Steps p.tables e below (T30.setTop (mkF m 34 #[.val (.int p0), .val (.int p1), .val (.int p2), .val (.int p3), .val (.int (2 : Int32)), .val (.ref b26), .unset, .unset] [])) _
      refine XS.iload X30.here hx rfl (hb hby at_34) rfl ?_
      show Steps p.tables e below (T30.setTop (mkF m 36 #[.val (.int p0), .val (.int p1), .val (.int p2), .val (.int p3), .val (.int (2 : Int32)), .val (.ref b26), .unset, .unset] [(.int (2 : Int32))])) _
      refine XS.iconst X30.here hx rfl (hb hby at_36) ?_
      show Steps p.tables e below (T30.setTop (mkF m 37 #[.val (.int p0), .val (.int p1), .val (.int p2), .val (.int p3), .val (.int (2 : Int32)), .val (.ref b26), .unset, .unset] [(.int (2 : Int32)), (.int (2 : Int32))])) _
      refine XS.icmpNo X30.here hx rfl (hb hby at_37) rfl (flt (by decide : ¬ ((2 : Int32) < (2 : Int32)))).1 ?_
      show Steps p.tables e below (T30.setTop (mkF m 40 #[.val (.int p0), .val (.int p1), .val (.int p2), .val (.int p3), .val (.int (2 : Int32)), .val (.ref b26), .unset, .unset] [])) _
      refine XS.aload X30.here hx rfl (hb hby at_40) rfl rfl ?_
      show Steps p.tables e below (T30.setTop (mkF m 42 #[.val (.int p0), .val (.int p1), .val (.int p2), .val (.int p3), .val (.int (2 : Int32)), .val (.ref b26), .unset, .unset] [(.ref b26)])) _
      refine XS.iconst X30.here hx rfl (hb hby at_42) ?_
      show Steps p.tables e below (T30.setTop (mkF m 43 #[.val (.int p0), .val (.int p1), .val (.int p2), .val (.int p3), .val (.int (2 : Int32)), .val (.ref b26), .unset, .unset] [(.int (2 : Int32)), (.ref b26)])) _
      refine XS.iloadN X30.here hx rfl (hb hby at_43) rfl ?_
      show Steps p.tables e below (T30.setTop (mkF m 44 #[.val (.int p0), .val (.int p1), .val (.int p2), .val (.int p3), .val (.int (2 : Int32)), .val (.ref b26), .unset, .unset] [(.int p2), (.int (2 : Int32)), (.ref b26)])) _
      refine XS.bipush X30.here hx rfl (hb hby at_44) ?_
      show Steps p.tables e below (T30.setTop (mkF m 46 #[.val (.int p0), .val (.int p1), .val (.int p2), .val (.int p3), .val (.int (2 : Int32)), .val (.ref b26), .unset, .unset] [(.int (8 : Int32)), (.int p2), (.int (2 : Int32)), (.ref b26)])) _
      refine XS.iushr X30.here hx rfl (hb hby at_46) rfl ?_
      show Steps p.tables e below (T30.setTop (mkF m 47 #[.val (.int p0), .val (.int p1), .val (.int p2), .val (.int p3), .val (.int (2 : Int32)), .val (.ref b26), .unset, .unset] [(.int ((p2.toUInt32 >>> ((8 : Int32) &&& 31).toUInt32).toInt32)), (.int (2 : Int32)), (.ref b26)])) _
      refine XS.i2b X30.here hx rfl (hb hby at_47) rfl ?_
      show Steps p.tables e below (T30.setTop (mkF m 48 #[.val (.int p0), .val (.int p1), .val (.int p2), .val (.int p3), .val (.int (2 : Int32)), .val (.ref b26), .unset, .unset] [(.int (((p2.toUInt32 >>> ((8 : Int32) &&& 31).toUInt32).toInt32).toInt8.toInt32)), (.int (2 : Int32)), (.ref b26)])) _
      refine st32 _ ?_
      show Steps p.tables e below (T32.setTop (mkF m 49 #[.val (.int p0), .val (.int p1), .val (.int p2), .val (.int p3), .val (.int (2 : Int32)), .val (.ref b26), .unset, .unset] [])) _
      refine XS.aload X32.here hx rfl (hb hby at_49) rfl rfl ?_
      show Steps p.tables e below (T32.setTop (mkF m 51 #[.val (.int p0), .val (.int p1), .val (.int p2), .val (.int p3), .val (.int (2 : Int32)), .val (.ref b26), .unset, .unset] [(.ref b26)])) _
      refine XS.iconst X32.here hx rfl (hb hby at_51) ?_
      show Steps p.tables e below (T32.setTop (mkF m 52 #[.val (.int p0), .val (.int p1), .val (.int p2), .val (.int p3), .val (.int (2 : Int32)), .val (.ref b26), .unset, .unset] [(.int (3 : Int32)), (.ref b26)])) _
      refine XS.iloadN X32.here hx rfl (hb hby at_52) rfl ?_
      show Steps p.tables e below (T32.setTop (mkF m 53 #[.val (.int p0), .val (.int p1), .val (.int p2), .val (.int p3), .val (.int (2 : Int32)), .val (.ref b26), .unset, .unset] [(.int p2), (.int (3 : Int32)), (.ref b26)])) _
      refine XS.i2b X32.here hx rfl (hb hby at_53) rfl ?_
      show Steps p.tables e below (T32.setTop (mkF m 54 #[.val (.int p0), .val (.int p1), .val (.int p2), .val (.int p3), .val (.int (2 : Int32)), .val (.ref b26), .unset, .unset] [(.int (p2.toInt8.toInt32)), (.int (3 : Int32)), (.ref b26)])) _
      refine st34 _ ?_
      show Steps p.tables e below (T34.setTop (mkF m 55 #[.val (.int p0), .val (.int p1), .val (.int p2), .val (.int p3), .val (.int (2 : Int32)), .val (.ref b26), .unset, .unset] [])) _
      refine XS.iload X34.here hx rfl (hb hby at_55) rfl ?_
      show Steps p.tables e below (T34.setTop (mkF m 57 #[.val (.int p0), .val (.int p1), .val (.int p2), .val (.int p3), .val (.int (2 : Int32)), .val (.ref b26), .unset, .unset] [(.int (2 : Int32))])) _
      refine XS.iconst X34.here hx rfl (hb hby at_57) ?_
      show Steps p.tables e below (T34.setTop (mkF m 58 #[.val (.int p0), .val (.int p1), .val (.int p2), .val (.int p3), .val (.int (2 : Int32)), .val (.ref b26), .unset, .unset] [(.int (3 : Int32)), (.int (2 : Int32))])) _
      refine XS.icmpYes X34.here hx rfl (pc0 := 58) (pc' := 76) rfl (hb hby at_58) rfl (tlt (by decide : (2 : Int32) < (3 : Int32))).1 (by decide) (by decide) ?_
      show Steps p.tables e below (T34.setTop (mkF m 76 #[.val (.int p0), .val (.int p1), .val (.int p2), .val (.int p3), .val (.int (2 : Int32)), .val (.ref b26), .unset, .unset] [])) _
      refine XS.aload X34.here hx rfl (hb hby at_76) rfl rfl ?_
      show Steps p.tables e below (T34.setTop (mkF m 78 #[.val (.int p0), .val (.int p1), .val (.int p2), .val (.int p3), .val (.int (2 : Int32)), .val (.ref b26), .unset, .unset] [(.ref b26)])) _
      refine st35 _ ?_
      show Steps p.tables e below (T35.setTop (mkF m 81 #[.val (.int p0), .val (.int p1), .val (.int p2), .val (.int p3), .val (.int (2 : Int32)), .val (.ref b26), .unset, .unset] [(.ref b35)])) _
      refine XS.astore X35.here hx rfl (hb hby at_81) rfl rfl (l' := #[.val (.int p0), .val (.int p1), .val (.int p2), .val (.int p3), .val (.int (2 : Int32)), .val (.ref b26), .val (.ref b35), .unset]) rfl ?_
      show Steps p.tables e below (T35.setTop (mkF m 83 #[.val (.int p0), .val (.int p1), .val (.int p2), .val (.int p3), .val (.int (2 : Int32)), .val (.ref b26), .val (.ref b35), .unset] [])) _
      refine XS.aload X35.here hx rfl (hb hby at_83) rfl rfl ?_
      show Steps p.tables e below (T35.setTop (mkF m 85 #[.val (.int p0), .val (.int p1), .val (.int p2), .val (.int p3), .val (.int (2 : Int32)), .val (.ref b26), .val (.ref b35), .unset] [(.ref b35)])) _
      refine XS.ifnullNo X35.here hx rfl (hb hby at_85) rfl ?_
      show Steps p.tables e below (T35.setTop (mkF m 88 #[.val (.int p0), .val (.int p1), .val (.int p2), .val (.int p3), .val (.int (2 : Int32)), .val (.ref b26), .val (.ref b35), .unset] [])) _
      refine XS.aload X35.here hx rfl (hb hby at_88) rfl rfl ?_
      show Steps p.tables e below (T35.setTop (mkF m 90 #[.val (.int p0), .val (.int p1), .val (.int p2), .val (.int p3), .val (.int (2 : Int32)), .val (.ref b26), .val (.ref b35), .unset] [(.ref b35)])) _
      refine X35.arraylength hx Ar36.1 (State.isArrayOf_alike hZ.alike Ar36.2.1) (g := (mkF m 90 #[.val (.int p0), .val (.int p1), .val (.int p2), .val (.int p3), .val (.int (2 : Int32)), .val (.ref b26), .val (.ref b35), .unset] [(.ref b35)])) rfl rfl (hb hby at_90) _ ?_
      rw [len_of S36 M36]
      show Steps p.tables e below (T35.setTop (mkF m 91 #[.val (.int p0), .val (.int p1), .val (.int p2), .val (.int p3), .val (.int (2 : Int32)), .val (.ref b26), .val (.ref b35), .unset] [(.int (2 : Int32))])) _
      refine XS.iload X35.here hx rfl (hb hby at_91) rfl ?_
      show Steps p.tables e below (T35.setTop (mkF m 93 #[.val (.int p0), .val (.int p1), .val (.int p2), .val (.int p3), .val (.int (2 : Int32)), .val (.ref b26), .val (.ref b35), .unset] [(.int (2 : Int32)), (.int (2 : Int32))])) _
      refine XS.icmpYes X35.here hx rfl (pc0 := 93) (pc' := 98) rfl (hb hby at_93) rfl (teq (rfl : (2 : Int32) = (2 : Int32))).1 (by decide) (by decide) ?_
      show Steps p.tables e below (T35.setTop (mkF m 98 #[.val (.int p0), .val (.int p1), .val (.int p2), .val (.int p3), .val (.int (2 : Int32)), .val (.ref b26), .val (.ref b35), .unset] [])) _
      refine XS.iconst X35.here hx rfl (hb hby at_98) ?_
      show Steps p.tables e below (T35.setTop (mkF m 99 #[.val (.int p0), .val (.int p1), .val (.int p2), .val (.int p3), .val (.int (2 : Int32)), .val (.ref b26), .val (.ref b35), .unset] [(.int (1 : Int32))])) _
      refine XS.istore X35.here hx rfl (hb hby at_99) rfl (l' := #[.val (.int p0), .val (.int p1), .val (.int p2), .val (.int p3), .val (.int (2 : Int32)), .val (.ref b26), .val (.ref b35), .val (.int (1 : Int32))]) rfl ?_
      show Steps p.tables e below (T35.setTop (mkF m 101 #[.val (.int p0), .val (.int p1), .val (.int p2), .val (.int p3), .val (.int (2 : Int32)), .val (.ref b26), .val (.ref b35), .val (.int (1 : Int32))] [])) _
      refine XS.iload X35.here hx rfl (hb hby at_101) rfl ?_
      show Steps p.tables e below (T35.setTop (mkF m 103 #[.val (.int p0), .val (.int p1), .val (.int p2), .val (.int p3), .val (.int (2 : Int32)), .val (.ref b26), .val (.ref b35), .val (.int (1 : Int32))] [(.int (2 : Int32))])) _
      refine XS.iconst X35.here hx rfl (hb hby at_103) ?_
      show Steps p.tables e below (T35.setTop (mkF m 104 #[.val (.int p0), .val (.int p1), .val (.int p2), .val (.int p3), .val (.int (2 : Int32)), .val (.ref b26), .val (.ref b35), .val (.int (1 : Int32))] [(.int (1 : Int32)), (.int (2 : Int32))])) _
      refine XS.icmpNo X35.here hx rfl (hb hby at_104) rfl (flt (by decide : ¬ ((2 : Int32) < (1 : Int32)))).1 ?_
      show Steps p.tables e below (T35.setTop (mkF m 107 #[.val (.int p0), .val (.int p1), .val (.int p2), .val (.int p3), .val (.int (2 : Int32)), .val (.ref b26), .val (.ref b35), .val (.int (1 : Int32))] [])) _
      refine XS.iload X35.here hx rfl (hb hby at_107) rfl ?_
      show Steps p.tables e below (T35.setTop (mkF m 109 #[.val (.int p0), .val (.int p1), .val (.int p2), .val (.int p3), .val (.int (2 : Int32)), .val (.ref b26), .val (.ref b35), .val (.int (1 : Int32))] [(.int (1 : Int32))])) _
      refine XS.ifNo X35.here hx rfl (hb hby at_109) rfl ((if0 _ _).trans (feq (by decide : ¬ ((1 : Int32) = (0 : Int32)))).1) ?_
      show Steps p.tables e below (T35.setTop (mkF m 112 #[.val (.int p0), .val (.int p1), .val (.int p2), .val (.int p3), .val (.int (2 : Int32)), .val (.ref b26), .val (.ref b35), .val (.int (1 : Int32))] [])) _
      refine XS.aload X35.here hx rfl (hb hby at_112) rfl rfl ?_
      show Steps p.tables e below (T35.setTop (mkF m 114 #[.val (.int p0), .val (.int p1), .val (.int p2), .val (.int p3), .val (.int (2 : Int32)), .val (.ref b26), .val (.ref b35), .val (.int (1 : Int32))] [(.ref b35)])) _
      refine XS.iconst X35.here hx rfl (hb hby at_114) ?_
      show Steps p.tables e below (T35.setTop (mkF m 115 #[.val (.int p0), .val (.int p1), .val (.int p2), .val (.int p3), .val (.int (2 : Int32)), .val (.ref b26), .val (.ref b35), .val (.int (1 : Int32))] [(.int (0 : Int32)), (.ref b35)])) _
      refine X35.iaload hx (j := (0 : Int32)) (v := (.int (((((((p1.toUInt32 >>> ((8 : Int32) &&& 31).toUInt32).toInt32).toInt8.toInt32).toInt8.toInt32) &&& (255 : Int32)) <<< ((8 : Int32) &&& 31)) ||| (((p1.toInt8.toInt32).toInt8.toInt32) &&& (255 : Int32))))) Ar37.1 (State.isArrayOf_alike hZ.alike Ar37.2.1) Ar37.2.2 hin37 hat37 (g := (mkF m 115 #[.val (.int p0), .val (.int p1), .val (.int p2), .val (.int p3), .val (.int (2 : Int32)), .val (.ref b26), .val (.ref b35), .val (.int (1 : Int32))] [(.int (0 : Int32)), (.ref b35)])) rfl rfl (hb hby at_115) _ ?_
      show Steps p.tables e below (T35.setTop (mkF m 116 #[.val (.int p0), .val (.int p1), .val (.int p2), .val (.int p3), .val (.int (2 : Int32)), .val (.ref b26), .val (.ref b35), .val (.int (1 : Int32))] [(.int (((((((p1.toUInt32 >>> ((8 : Int32) &&& 31).toUInt32).toInt32).toInt8.toInt32).toInt8.toInt32) &&& (255 : Int32)) <<< ((8 : Int32) &&& 31)) ||| (((p1.toInt8.toInt32).toInt8.toInt32) &&& (255 : Int32))))])) _
      refine XS.iloadN X35.here hx rfl (hb hby at_116) rfl ?_
      show Steps p.tables e below (T35.setTop (mkF m 117 #[.val (.int p0), .val (.int p1), .val (.int p2), .val (.int p3), .val (.int (2 : Int32)), .val (.ref b26), .val (.ref b35), .val (.int (1 : Int32))] [(.int p1), (.int (((((((p1.toUInt32 >>> ((8 : Int32) &&& 31).toUInt32).toInt32).toInt8.toInt32).toInt8.toInt32) &&& (255 : Int32)) <<< ((8 : Int32) &&& 31)) ||| (((p1.toInt8.toInt32).toInt8.toInt32) &&& (255 : Int32))))])) _
      refine X35.ldcInt hx hown (mvT hZ (hw _ (List.mem_of_getElem? (i := 6) rfl))) (g := (mkF m 117 #[.val (.int p0), .val (.int p1), .val (.int p2), .val (.int p3), .val (.int (2 : Int32)), .val (.ref b26), .val (.ref b35), .val (.int (1 : Int32))] [(.int p1), (.int (((((((p1.toUInt32 >>> ((8 : Int32) &&& 31).toUInt32).toInt32).toInt8.toInt32).toInt8.toInt32) &&& (255 : Int32)) <<< ((8 : Int32) &&& 31)) ||| (((p1.toInt8.toInt32).toInt8.toInt32) &&& (255 : Int32))))])) rfl (hb hby at_117) _ ?_
      show Steps p.tables e below (T35.setTop (mkF m 119 #[.val (.int p0), .val (.int p1), .val (.int p2), .val (.int p3), .val (.int (2 : Int32)), .val (.ref b26), .val (.ref b35), .val (.int (1 : Int32))] [(.int (65535 : Int32)), (.int p1), (.int (((((((p1.toUInt32 >>> ((8 : Int32) &&& 31).toUInt32).toInt32).toInt8.toInt32).toInt8.toInt32) &&& (255 : Int32)) <<< ((8 : Int32) &&& 31)) ||| (((p1.toInt8.toInt32).toInt8.toInt32) &&& (255 : Int32))))])) _
      refine XS.iand X35.here hx rfl (hb hby at_119) rfl ?_
      exact k)
    obtain ⟨T39, L39, X39, e39, N39, pre39⟩ : ∃ (T' : State) (locs' : List Loc), Stand p l e room_1 s m #[(.int p0), (.int p1), (.int p2), (.int p3)] below meth c T' locs' 2 6 ∧ T'.heap = T35.heap ∧ Fr n0 locs' ∧ ∀ t, Steps p.tables e below (T'.setTop (mkF m 128 #[.val (.int p0), .val (.int p1), .val (.int p2), .val (.int p3), .val (.int (2 : Int32)), .val (.ref b26), .val (.ref b35), .val (.int (1 : Int32))] [(.int (f0_m42 p0 p1 p2 p3))])) t → Steps p.tables e below (s₁.setTop (entryFrame m #[(.int p0), (.int p1), (.int p2), (.int p3)] maxLocals)) t := by
      by_cases hc120_39 : (((((((p1.toUInt32 >>> ((8 : Int32) &&& 31).toUInt32).toInt32).toInt8.toInt32).toInt8.toInt32) &&& (255 : Int32)) <<< ((8 : Int32) &&& 31)) ||| (((p1.toInt8.toInt32).toInt8.toInt32) &&& (255 : Int32))) = (p1 &&& (65535 : Int32))
      · have pre40 : ∀ t, Steps p.tables e below (T35.setTop (mkF m 128 #[.val (.int p0), .val (.int p1), .val (.int p2), .val (.int p3), .val (.int (2 : Int32)), .val (.ref b26), .val (.ref b35), .val (.int (1 : Int32))] [(.int (1 : Int32))])) t → Steps p.tables e below (s₁.setTop (entryFrame m #[(.int p0), (.int p1), (.int p2), (.int p3)] maxLocals)) t := fun t k => pre38 t (by
          show Steps p.tables e below (T35.setTop (mkF m 120 #[.val (.int p0), .val (.int p1), .val (.int p2), .val (.int p3), .val (.int (2 : Int32)), .val (.ref b26), .val (.ref b35), .val (.int (1 : Int32))] [(.int (p1 &&& (65535 : Int32))), (.int (((((((p1.toUInt32 >>> ((8 : Int32) &&& 31).toUInt32).toInt32).toInt8.toInt32).toInt8.toInt32) &&& (255 : Int32)) <<< ((8 : Int32) &&& 31)) ||| (((p1.toInt8.toInt32).toInt8.toInt32) &&& (255 : Int32))))])) _
          refine XS.icmpNo X35.here hx rfl (hb hby at_120) rfl (teq hc120_39).2 ?_
          show Steps p.tables e below (T35.setTop (mkF m 123 #[.val (.int p0), .val (.int p1), .val (.int p2), .val (.int p3), .val (.int (2 : Int32)), .val (.ref b26), .val (.ref b35), .val (.int (1 : Int32))] [])) _
          refine XS.iconst X35.here hx rfl (hb hby at_123) ?_
          show Steps p.tables e below (T35.setTop (mkF m 124 #[.val (.int p0), .val (.int p1), .val (.int p2), .val (.int p3), .val (.int (2 : Int32)), .val (.ref b26), .val (.ref b35), .val (.int (1 : Int32))] [(.int (1 : Int32))])) _
          refine XS.goto X35.here hx rfl (pc0 := 124) (pc' := 128) rfl (hb hby at_124) (by decide) (by decide) ?_
          exact k)
        have q_f0_m42 : f0_m42 p0 p1 p2 p3 = (1 : Int32) := by unfold f0_m42; rw [if_pos hc120_39]
        rw [q_f0_m42]
        exact ⟨T35, _, X35, rfl, N35, pre40⟩
      have pre41 : ∀ t, Steps p.tables e below (T35.setTop (mkF m 128 #[.val (.int p0), .val (.int p1), .val (.int p2), .val (.int p3), .val (.int (2 : Int32)), .val (.ref b26), .val (.ref b35), .val (.int (1 : Int32))] [(.int (0 : Int32))])) t → Steps p.tables e below (s₁.setTop (entryFrame m #[(.int p0), (.int p1), (.int p2), (.int p3)] maxLocals)) t := fun t k => pre38 t (by
        show Steps p.tables e below (T35.setTop (mkF m 120 #[.val (.int p0), .val (.int p1), .val (.int p2), .val (.int p3), .val (.int (2 : Int32)), .val (.ref b26), .val (.ref b35), .val (.int (1 : Int32))] [(.int (p1 &&& (65535 : Int32))), (.int (((((((p1.toUInt32 >>> ((8 : Int32) &&& 31).toUInt32).toInt32).toInt8.toInt32).toInt8.toInt32) &&& (255 : Int32)) <<< ((8 : Int32) &&& 31)) ||| (((p1.toInt8.toInt32).toInt8.toInt32) &&& (255 : Int32))))])) _
        refine XS.icmpYes X35.here hx rfl (pc0 := 120) (pc' := 127) rfl (hb hby at_120) rfl (feq hc120_39).2 (by decide) (by decide) ?_
        show Steps p.tables e below (T35.setTop (mkF m 127 #[.val (.int p0), .val (.int p1), .val (.int p2), .val (.int p3), .val (.int (2 : Int32)), .val (.ref b26), .val (.ref b35), .val (.int (1 : Int32))] [])) _
        refine XS.iconst X35.here hx rfl (hb hby at_127) ?_
        exact k)
      have q_f0_m42 : f0_m42 p0 p1 p2 p3 = (0 : Int32) := by unfold f0_m42; rw [if_neg hc120_39]
      rw [q_f0_m42]
      exact ⟨T35, _, X35, rfl, N35, pre41⟩
    have pre43 : ∀ t, Steps p.tables e below (T39.setTop (mkF m 138 #[.val (.int p0), .val (.int p1), .val (.int p2), .val (.int p3), .val (.int (2 : Int32)), .val (.ref b26), .val (.ref b35), .val (.int (f0_m42 p0 p1 p2 p3))] [(.int (f0_m42 p0 p1 p2 p3))])) t → Steps p.tables e below (s₁.setTop (entryFrame m #[(.int p0), (.int p1), (.int p2), (.int p3)] maxLocals)) t := fun t k => pre39 t (by
      show Steps p.tables e below (T39.setTop (mkF m 128 #[.val (.int p0), .val (.int p1), .val (.int p2), .val (.int p3), .val (.int (2 : Int32)), .val (.ref b26), .val (.ref b35), .val (.int (1 : Int32))] [(.int (f0_m42 p0 p1 p2 p3))])) _
      refine XS.istore X39.here hx rfl (hb hby at_128) rfl (l' := #[.val (.int p0), .val (.int p1), .val (.int p2), .val (.int p3), .val (.int (2 : Int32)), .val (.ref b26), .val (.ref b35), .val (.int (f0_m42 p0 p1 p2 p3))]) rfl ?_
      show Steps p.tables e below (T39.setTop (mkF m 130 #[.val (.int p0), .val (.int p1), .val (.int p2), .val (.int p3), .val (.int (2 : Int32)), .val (.ref b26), .val (.ref b35), .val (.int (f0_m42 p0 p1 p2 p3))] [])) _
      refine XS.iload X39.here hx rfl (hb hby at_130) rfl ?_
      show Steps p.tables e below (T39.setTop (mkF m 132 #[.val (.int p0), .val (.int p1), .val (.int p2), .val (.int p3), .val (.int (2 : Int32)), .val (.ref b26), .val (.ref b35), .val (.int (f0_m42 p0 p1 p2 p3))] [(.int (2 : Int32))])) _
      refine XS.iconst X39.here hx rfl (hb hby at_132) ?_
      show Steps p.tables e below (T39.setTop (mkF m 133 #[.val (.int p0), .val (.int p1), .val (.int p2), .val (.int p3), .val (.int (2 : Int32)), .val (.ref b26), .val (.ref b35), .val (.int (f0_m42 p0 p1 p2 p3))] [(.int (2 : Int32)), (.int (2 : Int32))])) _
      refine XS.icmpNo X39.here hx rfl (hb hby at_133) rfl (flt (by decide : ¬ ((2 : Int32) < (2 : Int32)))).1 ?_
      show Steps p.tables e below (T39.setTop (mkF m 136 #[.val (.int p0), .val (.int p1), .val (.int p2), .val (.int p3), .val (.int (2 : Int32)), .val (.ref b26), .val (.ref b35), .val (.int (f0_m42 p0 p1 p2 p3))] [])) _
      refine XS.iload X39.here hx rfl (hb hby at_136) rfl ?_
      exact k)
    obtain ⟨T44, L44, X44, e44, N44, pre44⟩ : ∃ (T' : State) (locs' : List Loc), Stand p l e room_1 s m #[(.int p0), (.int p1), (.int p2), (.int p3)] below meth c T' locs' 2 6 ∧ T'.heap = T35.heap ∧ Fr n0 locs' ∧ ∀ t, Steps p.tables e below (T'.setTop (mkF m 157 #[.val (.int p0), .val (.int p1), .val (.int p2), .val (.int p3), .val (.int (2 : Int32)), .val (.ref b26), .val (.ref b35), .val (.int (f0_m42 p0 p1 p2 p3))] [(.int (f0_m51 p0 p1 p2 p3))])) t → Steps p.tables e below (s₁.setTop (entryFrame m #[(.int p0), (.int p1), (.int p2), (.int p3)] maxLocals)) t := by
      by_cases hc138_44 : (f0_m42 p0 p1 p2 p3) = (0 : Int32)
      · have pre45 : ∀ t, Steps p.tables e below (T39.setTop (mkF m 157 #[.val (.int p0), .val (.int p1), .val (.int p2), .val (.int p3), .val (.int (2 : Int32)), .val (.ref b26), .val (.ref b35), .val (.int (f0_m42 p0 p1 p2 p3))] [(.int (0 : Int32))])) t → Steps p.tables e below (s₁.setTop (entryFrame m #[(.int p0), (.int p1), (.int p2), (.int p3)] maxLocals)) t := fun t k => pre43 t (by
          show Steps p.tables e below (T39.setTop (mkF m 138 #[.val (.int p0), .val (.int p1), .val (.int p2), .val (.int p3), .val (.int (2 : Int32)), .val (.ref b26), .val (.ref b35), .val (.int (f0_m42 p0 p1 p2 p3))] [(.int (f0_m42 p0 p1 p2 p3))])) _
          refine XS.ifYes X39.here hx rfl (pc0 := 138) (pc' := 156) rfl (hb hby at_138) rfl ((if0 _ _).trans (teq hc138_44).1) (by decide) (by decide) ?_
          show Steps p.tables e below (T39.setTop (mkF m 156 #[.val (.int p0), .val (.int p1), .val (.int p2), .val (.int p3), .val (.int (2 : Int32)), .val (.ref b26), .val (.ref b35), .val (.int (f0_m42 p0 p1 p2 p3))] [])) _
          refine XS.iconst X39.here hx rfl (hb hby at_156) ?_
          exact k)
        have q_f0_m51 : f0_m51 p0 p1 p2 p3 = (0 : Int32) := by unfold f0_m51; rw [if_pos hc138_44]
        rw [q_f0_m51]
        exact ⟨T39, _, X39, e39, N39, pre45⟩
      obtain ⟨cl46, Ar46, q46, S46, M46, H46, G46⟩ := id u35_0
      have hin46 : ¬ ((1 : Int32) < 0 ∨ cl46.slots.size ≤ ((1 : Int32)).toNatClampNeg) := inb_of S46 ⟨by decide, by decide⟩
      have hat46 : cl46.slots[((1 : Int32)).toNatClampNeg]? = some (.int (((((((p2.toUInt32 >>> ((8 : Int32) &&& 31).toUInt32).toInt32).toInt8.toInt32).toInt8.toInt32) &&& (255 : Int32)) <<< ((8 : Int32) &&& 31)) ||| (((p2.toInt8.toInt32).toInt8.toInt32) &&& (255 : Int32)))) := H46.at hin46 rfl
      have pre47 : ∀ t, Steps p.tables e below (T39.setTop (mkF m 149 #[.val (.int p0), .val (.int p1), .val (.int p2), .val (.int p3), .val (.int (2 : Int32)), .val (.ref b26), .val (.ref b35), .val (.int (f0_m42 p0 p1 p2 p3))] [(.int (p2 &&& (65535 : Int32))), (.int (((((((p2.toUInt32 >>> ((8 : Int32) &&& 31).toUInt32).toInt32).toInt8.toInt32).toInt8.toInt32) &&& (255 : Int32)) <<< ((8 : Int32) &&& 31)) ||| (((p2.toInt8.toInt32).toInt8.toInt32) &&& (255 : Int32))))])) t → Steps p.tables e below (s₁.setTop (entryFrame m #[(.int p0), (.int p1), (.int p2), (.int p3)] maxLocals)) t := fun t k => pre43 t (by
        show Steps p.tables e below (T39.setTop (mkF m 138 #[.val (.int p0), .val (.int p1), .val (.int p2), .val (.int p3), .val (.int (2 : Int32)), .val (.ref b26), .val (.ref b35), .val (.int (f0_m42 p0 p1 p2 p3))] [(.int (f0_m42 p0 p1 p2 p3))])) _
        refine XS.ifNo X39.here hx rfl (hb hby at_138) rfl ((if0 _ _).trans (feq hc138_44).1) ?_
        show Steps p.tables e below (T39.setTop (mkF m 141 #[.val (.int p0), .val (.int p1), .val (.int p2), .val (.int p3), .val (.int (2 : Int32)), .val (.ref b26), .val (.ref b35), .val (.int (f0_m42 p0 p1 p2 p3))] [])) _
        refine XS.aload X39.here hx rfl (hb hby at_141) rfl rfl ?_
        show Steps p.tables e below (T39.setTop (mkF m 143 #[.val (.int p0), .val (.int p1), .val (.int p2), .val (.int p3), .val (.int (2 : Int32)), .val (.ref b26), .val (.ref b35), .val (.int (f0_m42 p0 p1 p2 p3))] [(.ref b35)])) _
        refine XS.iconst X39.here hx rfl (hb hby at_143) ?_
        show Steps p.tables e below (T39.setTop (mkF m 144 #[.val (.int p0), .val (.int p1), .val (.int p2), .val (.int p3), .val (.int (2 : Int32)), .val (.ref b26), .val (.ref b35), .val (.int (f0_m42 p0 p1 p2 p3))] [(.int (1 : Int32)), (.ref b35)])) _
        refine X39.iaload hx (j := (1 : Int32)) (v := (.int (((((((p2.toUInt32 >>> ((8 : Int32) &&& 31).toUInt32).toInt32).toInt8.toInt32).toInt8.toInt32) &&& (255 : Int32)) <<< ((8 : Int32) &&& 31)) ||| (((p2.toInt8.toInt32).toInt8.toInt32) &&& (255 : Int32))))) (by rw [e39]; exact Ar46.1) (State.isArrayOf_alike hZ.alike Ar46.2.1) Ar46.2.2 hin46 hat46 (g := (mkF m 144 #[.val (.int p0), .val (.int p1), .val (.int p2), .val (.int p3), .val (.int (2 : Int32)), .val (.ref b26), .val (.ref b35), .val (.int (f0_m42 p0 p1 p2 p3))] [(.int (1 : Int32)), (.ref b35)])) rfl rfl (hb hby at_144) _ ?_
        show Steps p.tables e below (T39.setTop (mkF m 145 #[.val (.int p0), .val (.int p1), .val (.int p2), .val (.int p3), .val (.int (2 : Int32)), .val (.ref b26), .val (.ref b35), .val (.int (f0_m42 p0 p1 p2 p3))] [(.int (((((((p2.toUInt32 >>> ((8 : Int32) &&& 31).toUInt32).toInt32).toInt8.toInt32).toInt8.toInt32) &&& (255 : Int32)) <<< ((8 : Int32) &&& 31)) ||| (((p2.toInt8.toInt32).toInt8.toInt32) &&& (255 : Int32))))])) _
        refine XS.iloadN X39.here hx rfl (hb hby at_145) rfl ?_
        show Steps p.tables e below (T39.setTop (mkF m 146 #[.val (.int p0), .val (.int p1), .val (.int p2), .val (.int p3), .val (.int (2 : Int32)), .val (.ref b26), .val (.ref b35), .val (.int (f0_m42 p0 p1 p2 p3))] [(.int p2), (.int (((((((p2.toUInt32 >>> ((8 : Int32) &&& 31).toUInt32).toInt32).toInt8.toInt32).toInt8.toInt32) &&& (255 : Int32)) <<< ((8 : Int32) &&& 31)) ||| (((p2.toInt8.toInt32).toInt8.toInt32) &&& (255 : Int32))))])) _
        refine X39.ldcInt hx hown (mvT hZ (hw _ (List.mem_of_getElem? (i := 6) rfl))) (g := (mkF m 146 #[.val (.int p0), .val (.int p1), .val (.int p2), .val (.int p3), .val (.int (2 : Int32)), .val (.ref b26), .val (.ref b35), .val (.int (f0_m42 p0 p1 p2 p3))] [(.int p2), (.int (((((((p2.toUInt32 >>> ((8 : Int32) &&& 31).toUInt32).toInt32).toInt8.toInt32).toInt8.toInt32) &&& (255 : Int32)) <<< ((8 : Int32) &&& 31)) ||| (((p2.toInt8.toInt32).toInt8.toInt32) &&& (255 : Int32))))])) rfl (hb hby at_146) _ ?_
        show Steps p.tables e below (T39.setTop (mkF m 148 #[.val (.int p0), .val (.int p1), .val (.int p2), .val (.int p3), .val (.int (2 : Int32)), .val (.ref b26), .val (.ref b35), .val (.int (f0_m42 p0 p1 p2 p3))] [(.int (65535 : Int32)), (.int p2), (.int (((((((p2.toUInt32 >>> ((8 : Int32) &&& 31).toUInt32).toInt32).toInt8.toInt32).toInt8.toInt32) &&& (255 : Int32)) <<< ((8 : Int32) &&& 31)) ||| (((p2.toInt8.toInt32).toInt8.toInt32) &&& (255 : Int32))))])) _
        refine XS.iand X39.here hx rfl (hb hby at_148) rfl ?_
        exact k)
      by_cases hc149_48 : (((((((p2.toUInt32 >>> ((8 : Int32) &&& 31).toUInt32).toInt32).toInt8.toInt32).toInt8.toInt32) &&& (255 : Int32)) <<< ((8 : Int32) &&& 31)) ||| (((p2.toInt8.toInt32).toInt8.toInt32) &&& (255 : Int32))) = (p2 &&& (65535 : Int32))
      · have pre49 : ∀ t, Steps p.tables e below (T39.setTop (mkF m 157 #[.val (.int p0), .val (.int p1), .val (.int p2), .val (.int p3), .val (.int (2 : Int32)), .val (.ref b26), .val (.ref b35), .val (.int (f0_m42 p0 p1 p2 p3))] [(.int (1 : Int32))])) t → Steps p.tables e below (s₁.setTop (entryFrame m #[(.int p0), (.int p1), (.int p2), (.int p3)] maxLocals)) t := fun t k => pre47 t (by
          show Steps p.tables e below (T39.setTop (mkF m 149 #[.val (.int p0), .val (.int p1), .val (.int p2), .val (.int p3), .val (.int (2 : Int32)), .val (.ref b26), .val (.ref b35), .val (.int (f0_m42 p0 p1 p2 p3))] [(.int (p2 &&& (65535 : Int32))), (.int (((((((p2.toUInt32 >>> ((8 : Int32) &&& 31).toUInt32).toInt32).toInt8.toInt32).toInt8.toInt32) &&& (255 : Int32)) <<< ((8 : Int32) &&& 31)) ||| (((p2.toInt8.toInt32).toInt8.toInt32) &&& (255 : Int32))))])) _
          refine XS.icmpNo X39.here hx rfl (hb hby at_149) rfl (teq hc149_48).2 ?_
          show Steps p.tables e below (T39.setTop (mkF m 152 #[.val (.int p0), .val (.int p1), .val (.int p2), .val (.int p3), .val (.int (2 : Int32)), .val (.ref b26), .val (.ref b35), .val (.int (f0_m42 p0 p1 p2 p3))] [])) _
          refine XS.iconst X39.here hx rfl (hb hby at_152) ?_
          show Steps p.tables e below (T39.setTop (mkF m 153 #[.val (.int p0), .val (.int p1), .val (.int p2), .val (.int p3), .val (.int (2 : Int32)), .val (.ref b26), .val (.ref b35), .val (.int (f0_m42 p0 p1 p2 p3))] [(.int (1 : Int32))])) _
          refine XS.goto X39.here hx rfl (pc0 := 153) (pc' := 157) rfl (hb hby at_153) (by decide) (by decide) ?_
          exact k)
        have q_f0_m51 : f0_m51 p0 p1 p2 p3 = (1 : Int32) := by unfold f0_m51; rw [if_neg hc138_44, if_pos hc149_48]
        rw [q_f0_m51]
        exact ⟨T39, _, X39, e39, N39, pre49⟩
      have pre50 : ∀ t, Steps p.tables e below (T39.setTop (mkF m 157 #[.val (.int p0), .val (.int p1), .val (.int p2), .val (.int p3), .val (.int (2 : Int32)), .val (.ref b26), .val (.ref b35), .val (.int (f0_m42 p0 p1 p2 p3))] [(.int (0 : Int32))])) t → Steps p.tables e below (s₁.setTop (entryFrame m #[(.int p0), (.int p1), (.int p2), (.int p3)] maxLocals)) t := fun t k => pre47 t (by
        show Steps p.tables e below (T39.setTop (mkF m 149 #[.val (.int p0), .val (.int p1), .val (.int p2), .val (.int p3), .val (.int (2 : Int32)), .val (.ref b26), .val (.ref b35), .val (.int (f0_m42 p0 p1 p2 p3))] [(.int (p2 &&& (65535 : Int32))), (.int (((((((p2.toUInt32 >>> ((8 : Int32) &&& 31).toUInt32).toInt32).toInt8.toInt32).toInt8.toInt32) &&& (255 : Int32)) <<< ((8 : Int32) &&& 31)) ||| (((p2.toInt8.toInt32).toInt8.toInt32) &&& (255 : Int32))))])) _
        refine XS.icmpYes X39.here hx rfl (pc0 := 149) (pc' := 156) rfl (hb hby at_149) rfl (feq hc149_48).2 (by decide) (by decide) ?_
        show Steps p.tables e below (T39.setTop (mkF m 156 #[.val (.int p0), .val (.int p1), .val (.int p2), .val (.int p3), .val (.int (2 : Int32)), .val (.ref b26), .val (.ref b35), .val (.int (f0_m42 p0 p1 p2 p3))] [])) _
        refine XS.iconst X39.here hx rfl (hb hby at_156) ?_
        exact k)
      have q_f0_m51 : f0_m51 p0 p1 p2 p3 = (0 : Int32) := by unfold f0_m51; rw [if_neg hc138_44, if_neg hc149_48]
      rw [q_f0_m51]
      exact ⟨T39, _, X39, e39, N39, pre50⟩
    have pre52 : ∀ t, Steps p.tables e below (T44.setTop (mkF m 190 #[.val (.int p0), .val (.int p1), .val (.int p2), .val (.int p3), .val (.int (2 : Int32)), .val (.ref b26), .val (.ref b35), .val (.int (f0_m51 p0 p1 p2 p3))] [(.int (f0_m51 p0 p1 p2 p3))])) t → Steps p.tables e below (s₁.setTop (entryFrame m #[(.int p0), (.int p1), (.int p2), (.int p3)] maxLocals)) t := fun t k => pre44 t (by
      show Steps p.tables e below (T44.setTop (mkF m 157 #[.val (.int p0), .val (.int p1), .val (.int p2), .val (.int p3), .val (.int (2 : Int32)), .val (.ref b26), .val (.ref b35), .val (.int (f0_m42 p0 p1 p2 p3))] [(.int (f0_m51 p0 p1 p2 p3))])) _
      refine XS.istore X44.here hx rfl (hb hby at_157) rfl (l' := #[.val (.int p0), .val (.int p1), .val (.int p2), .val (.int p3), .val (.int (2 : Int32)), .val (.ref b26), .val (.ref b35), .val (.int (f0_m51 p0 p1 p2 p3))]) rfl ?_
      show Steps p.tables e below (T44.setTop (mkF m 159 #[.val (.int p0), .val (.int p1), .val (.int p2), .val (.int p3), .val (.int (2 : Int32)), .val (.ref b26), .val (.ref b35), .val (.int (f0_m51 p0 p1 p2 p3))] [])) _
      refine XS.iload X44.here hx rfl (hb hby at_159) rfl ?_
      show Steps p.tables e below (T44.setTop (mkF m 161 #[.val (.int p0), .val (.int p1), .val (.int p2), .val (.int p3), .val (.int (2 : Int32)), .val (.ref b26), .val (.ref b35), .val (.int (f0_m51 p0 p1 p2 p3))] [(.int (2 : Int32))])) _
      refine XS.iconst X44.here hx rfl (hb hby at_161) ?_
      show Steps p.tables e below (T44.setTop (mkF m 162 #[.val (.int p0), .val (.int p1), .val (.int p2), .val (.int p3), .val (.int (2 : Int32)), .val (.ref b26), .val (.ref b35), .val (.int (f0_m51 p0 p1 p2 p3))] [(.int (3 : Int32)), (.int (2 : Int32))])) _
      refine XS.icmpYes X44.here hx rfl (pc0 := 162) (pc' := 188) rfl (hb hby at_162) rfl (tlt (by decide : (2 : Int32) < (3 : Int32))).1 (by decide) (by decide) ?_
      show Steps p.tables e below (T44.setTop (mkF m 188 #[.val (.int p0), .val (.int p1), .val (.int p2), .val (.int p3), .val (.int (2 : Int32)), .val (.ref b26), .val (.ref b35), .val (.int (f0_m51 p0 p1 p2 p3))] [])) _
      refine XS.iload X44.here hx rfl (hb hby at_188) rfl ?_
      exact k)
    obtain ⟨fs, hr, hrun, hended, hW, hsame⟩ := X44.leave (v := some (.int ((f0_m51 p0 p1 p2 p3) &&& 1))) (fun h => by rw [Bd.returns] at h; cases h) hlk
    have hF : (F0 p0 p1 p2 p3) = ((f0_m51 p0 p1 p2 p3) &&& 1) := by unfold F0; rw [if_neg hv2, if_neg hv8, if_pos hv24]
    exact ⟨_, _, pre52 _ (retN X44 hx (t := .boolean) Bd.returns (by simp) (hb hby at_190) hr), hrun, hended, _, _, rfl, ⟨by rw [hF], N44⟩, ⟨_, rfl⟩, hW, hsame.mono (by decide) (by decide)⟩
  have hv53 : (p0 &&& (3 : Int32)) = (3 : Int32) := own_q3 p0 hv2 hv8 hv24
  have pre54 := pre1
  rw [hv53] at pre54
  obtain ⟨T55, h55, k55, X55, e55, E55, A55, st55⟩ := newP X0 hx hZ (hw _ (List.mem_of_getElem? (i := 0) rfl)) e0 (g := (mkF m 9 #[.val (.int p0), .val (.int p1), .val (.int p2), .val (.int p3), .val (.int (3 : Int32)), .unset, .unset, .unset] [(.int (6 : Int32))])) rfl (hb hby at_9) rfl (by decide) (cap := 6) (by decide) (by decide) (by decide) (by decide)
  obtain ⟨b55, g55⟩ : ∃ z, z = h0.size := ⟨_, rfl⟩
  rw [← g55] at A55 st55
  have g_b55 : n0 ≤ b55 := Nat.le_trans Z0 (Nat.le_of_eq g55.symm)
  have Z55 : n0 ≤ h55.size := Nat.le_trans Z0 E55.1
  have V55 : Arv Z h55 b55 k55 .byte (6 : Int32) [(.int (0 : Int32)), (.int (0 : Int32)), (.int (0 : Int32)), (.int (0 : Int32)), (.int (0 : Int32)), (.int (0 : Int32))] (.int (0 : Int32)) := (Arv.new A55 (by decide)).pad (pad_rep [] (.int (0 : Int32)) 6)
  obtain ⟨cl56, Ar56, q56, S56, M56, H56, G56⟩ := id V55
  have hin56 : ¬ ((0 : Int32) < 0 ∨ cl56.slots.size ≤ ((0 : Int32)).toNatClampNeg) := inb_of S56 ⟨by decide, by decide⟩
  obtain ⟨T57, h57, X57, e57, W57, st57⟩ := stB X55 hx hZ e55 Ar56 (j := (0 : Int32)) hin56 (g := (mkF m 27 #[.val (.int p0), .val (.int p1), .val (.int p2), .val (.int p3), .val (.int (3 : Int32)), .val (.ref b55), .unset, .unset] [(.int (((p1.toUInt32 >>> ((8 : Int32) &&& 31).toUInt32).toInt32).toInt8.toInt32)), (.int (0 : Int32)), (.ref b55)])) rfl rfl (hb hby at_27)
  have Z57 : n0 ≤ h57.size := Nat.le_trans Z55 (Keep.of_wr W57).1
  have N57 := Fr.snoc X57 N0 g_b55
  have V57 : Arv Z h57 b55 k55 .byte (6 : Int32) [(.int ((((p1.toUInt32 >>> ((8 : Int32) &&& 31).toUInt32).toInt32).toInt8.toInt32).toInt8.toInt32)), (.int (0 : Int32)), (.int (0 : Int32)), (.int (0 : Int32)), (.int (0 : Int32)), (.int (0 : Int32))] (.int (0 : Int32)) := Arv.set Ar56 q56 S56 M56 H56 G56 (fits_nar_byte _) W57 0 rfl (Nat.le_of_ble_eq_true rfl)
  obtain ⟨cl58, Ar58, q58, S58, M58, H58, G58⟩ := id V57
  have hin58 : ¬ ((1 : Int32) < 0 ∨ cl58.slots.size ≤ ((1 : Int32)).toNatClampNeg) := inb_of S58 ⟨by decide, by decide⟩
  obtain ⟨T59, h59, X59, e59, W59, st59⟩ := stB X57 hx hZ e57 Ar58 (j := (1 : Int32)) hin58 (g := (mkF m 33 #[.val (.int p0), .val (.int p1), .val (.int p2), .val (.int p3), .val (.int (3 : Int32)), .val (.ref b55), .unset, .unset] [(.int (p1.toInt8.toInt32)), (.int (1 : Int32)), (.ref b55)])) rfl rfl (hb hby at_33)
  have Z59 : n0 ≤ h59.size := Nat.le_trans Z57 (Keep.of_wr W59).1
  have N59 := Fr.snoc X59 N57 g_b55
  have V59 : Arv Z h59 b55 k55 .byte (6 : Int32) [(.int ((((p1.toUInt32 >>> ((8 : Int32) &&& 31).toUInt32).toInt32).toInt8.toInt32).toInt8.toInt32)), (.int ((p1.toInt8.toInt32).toInt8.toInt32)), (.int (0 : Int32)), (.int (0 : Int32)), (.int (0 : Int32)), (.int (0 : Int32))] (.int (0 : Int32)) := Arv.set Ar58 q58 S58 M58 H58 G58 (fits_nar_byte _) W59 1 rfl (Nat.le_of_ble_eq_true rfl)
  obtain ⟨cl60, Ar60, q60, S60, M60, H60, G60⟩ := id V59
  have hin60 : ¬ ((2 : Int32) < 0 ∨ cl60.slots.size ≤ ((2 : Int32)).toNatClampNeg) := inb_of S60 ⟨by decide, by decide⟩
  obtain ⟨T61, h61, X61, e61, W61, st61⟩ := stB X59 hx hZ e59 Ar60 (j := (2 : Int32)) hin60 (g := (mkF m 48 #[.val (.int p0), .val (.int p1), .val (.int p2), .val (.int p3), .val (.int (3 : Int32)), .val (.ref b55), .unset, .unset] [(.int (((p2.toUInt32 >>> ((8 : Int32) &&& 31).toUInt32).toInt32).toInt8.toInt32)), (.int (2 : Int32)), (.ref b55)])) rfl rfl (hb hby at_48)
  have Z61 : n0 ≤ h61.size := Nat.le_trans Z59 (Keep.of_wr W61).1
  have N61 := Fr.snoc X61 N59 g_b55
  have V61 : Arv Z h61 b55 k55 .byte (6 : Int32) [(.int ((((p1.toUInt32 >>> ((8 : Int32) &&& 31).toUInt32).toInt32).toInt8.toInt32).toInt8.toInt32)), (.int ((p1.toInt8.toInt32).toInt8.toInt32)), (.int ((((p2.toUInt32 >>> ((8 : Int32) &&& 31).toUInt32).toInt32).toInt8.toInt32).toInt8.toInt32)), (.int (0 : Int32)), (.int (0 : Int32)), (.int (0 : Int32))] (.int (0 : Int32)) := Arv.set Ar60 q60 S60 M60 H60 G60 (fits_nar_byte _) W61 2 rfl (Nat.le_of_ble_eq_true rfl)
  obtain ⟨cl62, Ar62, q62, S62, M62, H62, G62⟩ := id V61
  have hin62 : ¬ ((3 : Int32) < 0 ∨ cl62.slots.size ≤ ((3 : Int32)).toNatClampNeg) := inb_of S62 ⟨by decide, by decide⟩
  obtain ⟨T63, h63, X63, e63, W63, st63⟩ := stB X61 hx hZ e61 Ar62 (j := (3 : Int32)) hin62 (g := (mkF m 54 #[.val (.int p0), .val (.int p1), .val (.int p2), .val (.int p3), .val (.int (3 : Int32)), .val (.ref b55), .unset, .unset] [(.int (p2.toInt8.toInt32)), (.int (3 : Int32)), (.ref b55)])) rfl rfl (hb hby at_54)
  have Z63 : n0 ≤ h63.size := Nat.le_trans Z61 (Keep.of_wr W63).1
  have N63 := Fr.snoc X63 N61 g_b55
  have V63 : Arv Z h63 b55 k55 .byte (6 : Int32) [(.int ((((p1.toUInt32 >>> ((8 : Int32) &&& 31).toUInt32).toInt32).toInt8.toInt32).toInt8.toInt32)), (.int ((p1.toInt8.toInt32).toInt8.toInt32)), (.int ((((p2.toUInt32 >>> ((8 : Int32) &&& 31).toUInt32).toInt32).toInt8.toInt32).toInt8.toInt32)), (.int ((p2.toInt8.toInt32).toInt8.toInt32)), (.int (0 : Int32)), (.int (0 : Int32))] (.int (0 : Int32)) := Arv.set Ar62 q62 S62 M62 H62 G62 (fits_nar_byte _) W63 3 rfl (Nat.le_of_ble_eq_true rfl)
  obtain ⟨cl64, Ar64, q64, S64, M64, H64, G64⟩ := id V63
  have hin64 : ¬ ((4 : Int32) < 0 ∨ cl64.slots.size ≤ ((4 : Int32)).toNatClampNeg) := inb_of S64 ⟨by decide, by decide⟩
  obtain ⟨T65, h65, X65, e65, W65, st65⟩ := stB X63 hx hZ e63 Ar64 (j := (4 : Int32)) hin64 (g := (mkF m 69 #[.val (.int p0), .val (.int p1), .val (.int p2), .val (.int p3), .val (.int (3 : Int32)), .val (.ref b55), .unset, .unset] [(.int (((p3.toUInt32 >>> ((8 : Int32) &&& 31).toUInt32).toInt32).toInt8.toInt32)), (.int (4 : Int32)), (.ref b55)])) rfl rfl (hb hby at_69)
  have Z65 : n0 ≤ h65.size := Nat.le_trans Z63 (Keep.of_wr W65).1
  have N65 := Fr.snoc X65 N63 g_b55
  have V65 : Arv Z h65 b55 k55 .byte (6 : Int32) [(.int ((((p1.toUInt32 >>> ((8 : Int32) &&& 31).toUInt32).toInt32).toInt8.toInt32).toInt8.toInt32)), (.int ((p1.toInt8.toInt32).toInt8.toInt32)), (.int ((((p2.toUInt32 >>> ((8 : Int32) &&& 31).toUInt32).toInt32).toInt8.toInt32).toInt8.toInt32)), (.int ((p2.toInt8.toInt32).toInt8.toInt32)), (.int ((((p3.toUInt32 >>> ((8 : Int32) &&& 31).toUInt32).toInt32).toInt8.toInt32).toInt8.toInt32)), (.int (0 : Int32))] (.int (0 : Int32)) := Arv.set Ar64 q64 S64 M64 H64 G64 (fits_nar_byte _) W65 4 rfl (Nat.le_of_ble_eq_true rfl)
  obtain ⟨cl66, Ar66, q66, S66, M66, H66, G66⟩ := id V65
  have hin66 : ¬ ((5 : Int32) < 0 ∨ cl66.slots.size ≤ ((5 : Int32)).toNatClampNeg) := inb_of S66 ⟨by decide, by decide⟩
  obtain ⟨T67, h67, X67, e67, W67, st67⟩ := stB X65 hx hZ e65 Ar66 (j := (5 : Int32)) hin66 (g := (mkF m 75 #[.val (.int p0), .val (.int p1), .val (.int p2), .val (.int p3), .val (.int (3 : Int32)), .val (.ref b55), .unset, .unset] [(.int (p3.toInt8.toInt32)), (.int (5 : Int32)), (.ref b55)])) rfl rfl (hb hby at_75)
  have Z67 : n0 ≤ h67.size := Nat.le_trans Z65 (Keep.of_wr W67).1
  have N67 := Fr.snoc X67 N65 g_b55
  have V67 : Arv Z h67 b55 k55 .byte (6 : Int32) [(.int ((((p1.toUInt32 >>> ((8 : Int32) &&& 31).toUInt32).toInt32).toInt8.toInt32).toInt8.toInt32)), (.int ((p1.toInt8.toInt32).toInt8.toInt32)), (.int ((((p2.toUInt32 >>> ((8 : Int32) &&& 31).toUInt32).toInt32).toInt8.toInt32).toInt8.toInt32)), (.int ((p2.toInt8.toInt32).toInt8.toInt32)), (.int ((((p3.toUInt32 >>> ((8 : Int32) &&& 31).toUInt32).toInt32).toInt8.toInt32).toInt8.toInt32)), (.int ((p3.toInt8.toInt32).toInt8.toInt32))] (.int (0 : Int32)) := Arv.set Ar66 q66 S66 M66 H66 G66 (fits_nar_byte _) W67 5 rfl (Nat.le_of_ble_eq_true rfl)
  obtain ⟨_, _, ⟨T68, L68, k68, n68⟩, -, X68, ⟨Lc68, hQ68, l68, y68, z68⟩, st68⟩ := Jvm.LawKit.callS X67 hx (y := (⟨"com/example/cardwarden/cardwarden/core/fs/FilePath", "fileIds", "([B)[I"⟩ : MethodName)) hown (mvT hZ (hw _ (List.mem_of_getElem? (i := 1) rfl))) (mvT hZ (hw _ (List.mem_of_getElem? (i := 2) rfl))) (mvT hZ (hw _ (List.mem_of_getElem? (i := 3) rfl))) (mvT hZ (hw _ (List.mem_of_getElem? (i := 4) rfl))) (by decide) (backOf (W := 0) (rm1_3 l Z a0' hw [] b55 ((((p1.toUInt32 >>> ((8 : Int32) &&& 31).toUInt32).toInt32).toInt8.toInt32).toInt8.toInt32) ((p1.toInt8.toInt32).toInt8.toInt32) ((((p2.toUInt32 >>> ((8 : Int32) &&& 31).toUInt32).toInt32).toInt8.toInt32).toInt8.toInt32) ((p2.toInt8.toInt32).toInt8.toInt32) ((((p3.toUInt32 >>> ((8 : Int32) &&& 31).toUInt32).toInt32).toInt8.toInt32).toInt8.toInt32) ((p3.toInt8.toInt32).toInt8.toInt32) k55 h67 n0 Z67 V67) hZ (hw _ (List.mem_of_getElem? (i := 4) rfl)) (hw _ (List.mem_of_getElem? (i := 3) rfl)) (by decide) (by decide)) (g := (mkF m 78 #[.val (.int p0), .val (.int p1), .val (.int p2), .val (.int p3), .val (.int (3 : Int32)), .val (.ref b55), .unset, .unset] [(.ref b55)])) rfl (by rw [hml]; rfl) (argsL := [(.ref b55)]) (rest := []) (lenOf pd0 rfl) rfl (by show 2 * 0 + _ ≤ _; exact Nat.le_of_eq rfl) (hb hby at_78) (fun _ _ => ⟨rfl, e67, (by decide : 1 + 1 ≤ _), (by decide : 6 + 3 ≤ _)⟩)
  dsimp only [Pt.U, Pt.locs, Pt.cells, Pt.slots] at X68 l68 y68 z68 st68 hQ68
  subst l68 y68 z68
  obtain ⟨b68, rfl, N68q, gs68, g_b68, K68, u68_0⟩ := hQ68
  have N68 := Fr.app N67 N68q
  have ne_b55_b68 : b55 ≠ b68 := Nat.ne_of_lt (Nat.lt_of_lt_of_le V67.lt gs68)
  have Z68 : n0 ≤ T68.heap.size := Nat.le_trans Z67 K68.1
  obtain ⟨kk68, u68_0⟩ := u68_0
  obtain ⟨cl69, Ar69, q69, S69, M69, H69, G69⟩ := id u68_0
  obtain ⟨cl70, Ar70, q70, S70, M70, H70, G70⟩ := id u68_0
  have hin70 : ¬ ((0 : Int32) < 0 ∨ cl70.slots.size ≤ ((0 : Int32)).toNatClampNeg) := inb_of S70 ⟨by decide, by decide⟩
  have hat70 : cl70.slots[((0 : Int32)).toNatClampNeg]? = some (.int (((((((p1.toUInt32 >>> ((8 : Int32) &&& 31).toUInt32).toInt32).toInt8.toInt32).toInt8.toInt32) &&& (255 : Int32)) <<< ((8 : Int32) &&& 31)) ||| (((p1.toInt8.toInt32).toInt8.toInt32) &&& (255 : Int32)))) := H70.at hin70 rfl
  have pre71 : ∀ t, Steps p.tables e below (T68.setTop (mkF m 120 #[.val (.int p0), .val (.int p1), .val (.int p2), .val (.int p3), .val (.int (3 : Int32)), .val (.ref b55), .val (.ref b68), .val (.int (1 : Int32))] [(.int (p1 &&& (65535 : Int32))), (.int (((((((p1.toUInt32 >>> ((8 : Int32) &&& 31).toUInt32).toInt32).toInt8.toInt32).toInt8.toInt32) &&& (255 : Int32)) <<< ((8 : Int32) &&& 31)) ||| (((p1.toInt8.toInt32).toInt8.toInt32) &&& (255 : Int32))))])) t → Steps p.tables e below (s₁.setTop (entryFrame m #[(.int p0), (.int p1), (.int p2), (.int p3)] maxLocals)) t := fun t k => pre54 t (by
    show Steps p.tables e below (s₁.setTop (mkF m 5 #[.val (.int p0), .val (.int p1), .val (.int p2), .val (.int p3), .val (.int (3 : Int32)), .unset, .unset, .unset] [])) _
    refine XS.iconst X0.here hx rfl (hb hby at_5) ?_
    show Steps p.tables e below (s₁.setTop (mkF m 6 #[.val (.int p0), .val (.int p1), .val (.int p2), .val (.int p3), .val (.int (3 : Int32)), .unset, .unset, .unset] [(.int (2 : Int32))])) _
    refine XS.iload X0.here hx rfl (hb hby at_6) rfl ?_
    show Steps p.tables e below (s₁.setTop (mkF m 8 #[.val (.int p0), .val (.int p1), .val (.int p2), .val (.int p3), .val (.int (3 : Int32)), .unset, .unset, .unset] [(.int (3 : Int32)), (.int (2 : Int32))])) _
    refine XS.imul X0.here hx rfl (hb hby at_8) rfl ?_
    show Steps p.tables e below (s₁.setTop (mkF m 9 #[.val (.int p0), .val (.int p1), .val (.int p2), .val (.int p3), .val (.int (3 : Int32)), .unset, .unset, .unset] [(.int (6 : Int32))])) _
    refine st55 _ ?_
    show Steps p.tables e below (T55.setTop (mkF m 11 #[.val (.int p0), .val (.int p1), .val (.int p2), .val (.int p3), .val (.int (3 : Int32)), .unset, .unset, .unset] [(.ref b55)])) _
    refine XS.astore X55.here hx rfl (hb hby at_11) rfl rfl (l' := #[.val (.int p0), .val (.int p1), .val (.int p2), .val (.int p3), .val (.int (3 : Int32)), .val (.ref b55), .unset, .unset]) rfl ?_
    show Steps p.tables e below (T55.setTop (mkF m 13 #[.val (.int p0), .val (.int p1), .val (.int p2), .val (.int p3), .val (.int (3 : Int32)), .val (.ref b55), .unset, .unset] [])) _
    refine XS.iload X55.here hx rfl (hb hby at_13) rfl ?_
    show Steps p.tables e below (T55.setTop (mkF m 15 #[.val (.int p0), .val (.int p1), .val (.int p2), .val (.int p3), .val (.int (3 : Int32)), .val (.ref b55), .unset, .unset] [(.int (3 : Int32))])) _
    refine XS.iconst X55.here hx rfl (hb hby at_15) ?_
    show Steps p.tables e below (T55.setTop (mkF m 16 #[.val (.int p0), .val (.int p1), .val (.int p2), .val (.int p3), .val (.int (3 : Int32)), .val (.ref b55), .unset, .unset] [(.int (1 : Int32)), (.int (3 : Int32))])) _
    refine XS.icmpNo X55.here hx rfl (hb hby at_16) rfl (flt (by decide : ¬ ((3 : Int32) < (1 : Int32)))).1 ?_
    show Steps p.tables e below (T55.setTop (mkF m 19 #[.val (.int p0), .val (.int p1), .val (.int p2), .val (.int p3), .val (.int (3 : Int32)), .val (.ref b55), .unset, .unset] [])) _
    refine XS.aload X55.here hx rfl (hb hby at_19) rfl rfl ?_
    show Steps p.tables e below (T55.setTop (mkF m 21 #[.val (.int p0), .val (.int p1), .val (.int p2), .val (.int p3), .val (.int (3 : Int32)), .val (.ref b55), .unset, .unset] [(.ref b55)])) _
    refine XS.iconst X55.here hx rfl (hb hby at_21) ?_
    show Steps p.tables e below (T55.setTop (mkF m 22 #[.val (.int p0), .val (.int p1), .val (.int p2), .val (.int p3), .val (.int (3 : Int32)), .val (.ref b55), .unset, .unset] [(.int (0 : Int32)), (.ref b55)])) _
    refine XS.iloadN X55.here hx rfl (hb hby at_22) rfl ?_
    show Steps p.tables e below (T55.setTop (mkF m 23 #[.val (.int p0), .val (.int p1), .val (.int p2), .val (.int p3), .val (.int (3 : Int32)), .val (.ref b55), .unset, .unset] [(.int p1), (.int (0 : Int32)), (.ref b55)])) _
    refine XS.bipush X55.here hx rfl (hb hby at_23) ?_
    show Steps p.tables e below (T55.setTop (mkF m 25 #[.val (.int p0), .val (.int p1), .val (.int p2), .val (.int p3), .val (.int (3 : Int32)), .val (.ref b55), .unset, .unset] [(.int (8 : Int32)), (.int p1), (.int (0 : Int32)), (.ref b55)])) _
    refine XS.iushr X55.here hx rfl (hb hby at_25) rfl ?_
    show Steps p.tables e below (T55.setTop (mkF m 26 #[.val (.int p0), .val (.int p1), .val (.int p2), .val (.int p3), .val (.int (3 : Int32)), .val (.ref b55), .unset, .unset] [(.int ((p1.toUInt32 >>> ((8 : Int32) &&& 31).toUInt32).toInt32)), (.int (0 : Int32)), (.ref b55)])) _
    refine XS.i2b X55.here hx rfl (hb hby at_26) rfl ?_
    show Steps p.tables e below (T55.setTop (mkF m 27 #[.val (.int p0), .val (.int p1), .val (.int p2), .val (.int p3), .val (.int (3 : Int32)), .val (.ref b55), .unset, .unset] [(.int (((p1.toUInt32 >>> ((8 : Int32) &&& 31).toUInt32).toInt32).toInt8.toInt32)), (.int (0 : Int32)), (.ref b55)])) _
    refine st57 _ ?_
    show Steps p.tables e below (T57.setTop (mkF m 28 #[.val (.int p0), .val (.int p1), .val (.int p2), .val (.int p3), .val (.int (3 : Int32)), .val (.ref b55), .unset, .unset] [])) _
    refine XS.aload X57.here hx rfl (hb hby at_28) rfl rfl ?_
    show Steps p.tables e below (T57.setTop (mkF m 30 #[.val (.int p0), .val (.int p1), .val (.int p2), .val (.int p3), .val (.int (3 : Int32)), .val (.ref b55), .unset, .unset] [(.ref b55)])) _
    refine XS.iconst X57.here hx rfl (hb hby at_30) ?_
    show Steps p.tables e below (T57.setTop (mkF m 31 #[.val (.int p0), .val (.int p1), .val (.int p2), .val (.int p3), .val (.int (3 : Int32)), .val (.ref b55), .unset, .unset] [(.int (1 : Int32)), (.ref b55)])) _
    refine XS.iloadN X57.here hx rfl (hb hby at_31) rfl ?_
    show Steps p.tables e below (T57.setTop (mkF m 32 #[.val (.int p0), .val (.int p1), .val (.int p2), .val (.int p3), .val (.int (3 : Int32)), .val (.ref b55), .unset, .unset] [(.int p1), (.int (1 : Int32)), (.ref b55)])) _
    refine XS.i2b X57.here hx rfl (hb hby at_32) rfl ?_
    show Steps p.tables e below (T57.setTop (mkF m 33 #[.val (.int p0), .val (.int p1), .val (.int p2), .val (.int p3), .val (.int (3 : Int32)), .val (.ref b55), .unset, .unset] [(.int (p1.toInt8.toInt32)), (.int (1 : Int32)), (.ref b55)])) _
    refine st59 _ ?_
    show Steps p.tables e below (T59.setTop (mkF m 34 #[.val (.int p0), .val (.int p1), .val (.int p2), .val (.int p3), .val (.int (3 : Int32)), .val (.ref b55), .unset, .unset] [])) _
    refine XS.iload X59.here hx rfl (hb hby at_34) rfl ?_
    show Steps p.tables e below (T59.setTop (mkF m 36 #[.val (.int p0), .val (.int p1), .val (.int p2), .val (.int p3), .val (.int (3 : Int32)), .val (.ref b55), .unset, .unset] [(.int (3 : Int32))])) _
    refine XS.iconst X59.here hx rfl (hb hby at_36) ?_
    show Steps p.tables e below (T59.setTop (mkF m 37 #[.val (.int p0), .val (.int p1), .val (.int p2), .val (.int p3), .val (.int (3 : Int32)), .val (.ref b55), .unset, .unset] [(.int (2 : Int32)), (.int (3 : Int32))])) _
    refine XS.icmpNo X59.here hx rfl (hb hby at_37) rfl (flt (by decide : ¬ ((3 : Int32) < (2 : Int32)))).1 ?_
    show Steps p.tables e below (T59.setTop (mkF m 40 #[.val (.int p0), .val (.int p1), .val (.int p2), .val (.int p3), .val (.int (3 : Int32)), .val (.ref b55), .unset, .unset] [])) _
    refine XS.aload X59.here hx rfl (hb hby at_40) rfl rfl ?_
    show Steps p.tables e below (T59.setTop (mkF m 42 #[.val (.int p0), .val (.int p1), .val (.int p2), .val (.int p3), .val (.int (3 : Int32)), .val (.ref b55), .unset, .unset] [(.ref b55)])) _
    refine XS.iconst X59.here hx rfl (hb hby at_42) ?_
    show Steps p.tables e below (T59.setTop (mkF m 43 #[.val (.int p0), .val (.int p1), .val (.int p2), .val (.int p3), .val (.int (3 : Int32)), .val (.ref b55), .unset, .unset] [(.int (2 : Int32)), (.ref b55)])) _
    refine XS.iloadN X59.here hx rfl (hb hby at_43) rfl ?_
    show Steps p.tables e below (T59.setTop (mkF m 44 #[.val (.int p0), .val (.int p1), .val (.int p2), .val (.int p3), .val (.int (3 : Int32)), .val (.ref b55), .unset, .unset] [(.int p2), (.int (2 : Int32)), (.ref b55)])) _
    refine XS.bipush X59.here hx rfl (hb hby at_44) ?_
    show Steps p.tables e below (T59.setTop (mkF m 46 #[.val (.int p0), .val (.int p1), .val (.int p2), .val (.int p3), .val (.int (3 : Int32)), .val (.ref b55), .unset, .unset] [(.int (8 : Int32)), (.int p2), (.int (2 : Int32)), (.ref b55)])) _
    refine XS.iushr X59.here hx rfl (hb hby at_46) rfl ?_
    show Steps p.tables e below (T59.setTop (mkF m 47 #[.val (.int p0), .val (.int p1), .val (.int p2), .val (.int p3), .val (.int (3 : Int32)), .val (.ref b55), .unset, .unset] [(.int ((p2.toUInt32 >>> ((8 : Int32) &&& 31).toUInt32).toInt32)), (.int (2 : Int32)), (.ref b55)])) _
    refine XS.i2b X59.here hx rfl (hb hby at_47) rfl ?_
    show Steps p.tables e below (T59.setTop (mkF m 48 #[.val (.int p0), .val (.int p1), .val (.int p2), .val (.int p3), .val (.int (3 : Int32)), .val (.ref b55), .unset, .unset] [(.int (((p2.toUInt32 >>> ((8 : Int32) &&& 31).toUInt32).toInt32).toInt8.toInt32)), (.int (2 : Int32)), (.ref b55)])) _
    refine st61 _ ?_
    show Steps p.tables e below (T61.setTop (mkF m 49 #[.val (.int p0), .val (.int p1), .val (.int p2), .val (.int p3), .val (.int (3 : Int32)), .val (.ref b55), .unset, .unset] [])) _
    refine XS.aload X61.here hx rfl (hb hby at_49) rfl rfl ?_
    show Steps p.tables e below (T61.setTop (mkF m 51 #[.val (.int p0), .val (.int p1), .val (.int p2), .val (.int p3), .val (.int (3 : Int32)), .val (.ref b55), .unset, .unset] [(.ref b55)])) _
    refine XS.iconst X61.here hx rfl (hb hby at_51) ?_
    show Steps p.tables e below (T61.setTop (mkF m 52 #[.val (.int p0), .val (.int p1), .val (.int p2), .val (.int p3), .val (.int (3 : Int32)), .val (.ref b55), .unset, .unset] [(.int (3 : Int32)), (.ref b55)])) _
    refine XS.iloadN X61.here hx rfl (hb hby at_52) rfl ?_
    show Steps p.tables e below (T61.setTop (mkF m 53 #[.val (.int p0), .val (.int p1), .val (.int p2), .val (.int p3), .val (.int (3 : Int32)), .val (.ref b55), .unset, .unset] [(.int p2), (.int (3 : Int32)), (.ref b55)])) _
    refine XS.i2b X61.here hx rfl (hb hby at_53) rfl ?_
    show Steps p.tables e below (T61.setTop (mkF m 54 #[.val (.int p0), .val (.int p1), .val (.int p2), .val (.int p3), .val (.int (3 : Int32)), .val (.ref b55), .unset, .unset] [(.int (p2.toInt8.toInt32)), (.int (3 : Int32)), (.ref b55)])) _
    refine st63 _ ?_
    show Steps p.tables e below (T63.setTop (mkF m 55 #[.val (.int p0), .val (.int p1), .val (.int p2), .val (.int p3), .val (.int (3 : Int32)), .val (.ref b55), .unset, .unset] [])) _
    refine XS.iload X63.here hx rfl (hb hby at_55) rfl ?_
    show Steps p.tables e below (T63.setTop (mkF m 57 #[.val (.int p0), .val (.int p1), .val (.int p2), .val (.int p3), .val (.int (3 : Int32)), .val (.ref b55), .unset, .unset] [(.int (3 : Int32))])) _
    refine XS.iconst X63.here hx rfl (hb hby at_57) ?_
    show Steps p.tables e below (T63.setTop (mkF m 58 #[.val (.int p0), .val (.int p1), .val (.int p2), .val (.int p3), .val (.int (3 : Int32)), .val (.ref b55), .unset, .unset] [(.int (3 : Int32)), (.int (3 : Int32))])) _
    refine XS.icmpNo X63.here hx rfl (hb hby at_58) rfl (flt (by decide : ¬ ((3 : Int32) < (3 : Int32)))).1 ?_
    show Steps p.tables e below (T63.setTop (mkF m 61 #[.val (.int p0), .val (.int p1), .val (.int p2), .val (.int p3), .val (.int (3 : Int32)), .val (.ref b55), .unset, .unset] [])) _
    refine XS.aload X63.here hx rfl (hb hby at_61) rfl rfl ?_
    show Steps p.tables e below (T63.setTop (mkF m 63 #[.val (.int p0), .val (.int p1), .val (.int p2), .val (.int p3), .val (.int (3 : Int32)), .val (.ref b55), .unset, .unset] [(.ref b55)])) _
    refine XS.iconst X63.here hx rfl (hb hby at_63) ?_
    show Steps p.tables e below (T63.setTop (mkF m 64 #[.val (.int p0), .val (.int p1), .val (.int p2), .val (.int p3), .val (.int (3 : Int32)), .val (.ref b55), .unset, .unset] [(.int (4 : Int32)), (.ref b55)])) _
    refine XS.iloadN X63.here hx rfl (hb hby at_64) rfl ?_
    show Steps p.tables e below (T63.setTop (mkF m 65 #[.val (.int p0), .val (.int p1), .val (.int p2), .val (.int p3), .val (.int (3 : Int32)), .val (.ref b55), .unset, .unset] [(.int p3), (.int (4 : Int32)), (.ref b55)])) _
    refine XS.bipush X63.here hx rfl (hb hby at_65) ?_
    show Steps p.tables e below (T63.setTop (mkF m 67 #[.val (.int p0), .val (.int p1), .val (.int p2), .val (.int p3), .val (.int (3 : Int32)), .val (.ref b55), .unset, .unset] [(.int (8 : Int32)), (.int p3), (.int (4 : Int32)), (.ref b55)])) _
    refine XS.iushr X63.here hx rfl (hb hby at_67) rfl ?_
    show Steps p.tables e below (T63.setTop (mkF m 68 #[.val (.int p0), .val (.int p1), .val (.int p2), .val (.int p3), .val (.int (3 : Int32)), .val (.ref b55), .unset, .unset] [(.int ((p3.toUInt32 >>> ((8 : Int32) &&& 31).toUInt32).toInt32)), (.int (4 : Int32)), (.ref b55)])) _
    refine XS.i2b X63.here hx rfl (hb hby at_68) rfl ?_
    show Steps p.tables e below (T63.setTop (mkF m 69 #[.val (.int p0), .val (.int p1), .val (.int p2), .val (.int p3), .val (.int (3 : Int32)), .val (.ref b55), .unset, .unset] [(.int (((p3.toUInt32 >>> ((8 : Int32) &&& 31).toUInt32).toInt32).toInt8.toInt32)), (.int (4 : Int32)), (.ref b55)])) _
    refine st65 _ ?_
    show Steps p.tables e below (T65.setTop (mkF m 70 #[.val (.int p0), .val (.int p1), .val (.int p2), .val (.int p3), .val (.int (3 : Int32)), .val (.ref b55), .unset, .unset] [])) _
    refine XS.aload X65.here hx rfl (hb hby at_70) rfl rfl ?_
    show Steps p.tables e below (T65.setTop (mkF m 72 #[.val (.int p0), .val (.int p1), .val (.int p2), .val (.int p3), .val (.int (3 : Int32)), .val (.ref b55), .unset, .unset] [(.ref b55)])) _
    refine XS.iconst X65.here hx rfl (hb hby at_72) ?_
    show Steps p.tables e below (T65.setTop (mkF m 73 #[.val (.int p0), .val (.int p1), .val (.int p2), .val (.int p3), .val (.int (3 : Int32)), .val (.ref b55), .unset, .unset] [(.int (5 : Int32)), (.ref b55)])) _
    refine XS.iloadN X65.here hx rfl (hb hby at_73) rfl ?_
    show Steps p.tables e below (T65.setTop (mkF m 74 #[.val (.int p0), .val (.int p1), .val (.int p2), .val (.int p3), .val (.int (3 : Int32)), .val (.ref b55), .unset, .unset] [(.int p3), (.int (5 : Int32)), (.ref b55)])) _
    refine XS.i2b X65.here hx rfl (hb hby at_74) rfl ?_
    show Steps p.tables e below (T65.setTop (mkF m 75 #[.val (.int p0), .val (.int p1), .val (.int p2), .val (.int p3), .val (.int (3 : Int32)), .val (.ref b55), .unset, .unset] [(.int (p3.toInt8.toInt32)), (.int (5 : Int32)), (.ref b55)])) _
    refine st67 _ ?_
    show Steps p.tables e below (T67.setTop (mkF m 76 #[.val (.int p0), .val (.int p1), .val (.int p2), .val (.int p3), .val (.int (3 : Int32)), .val (.ref b55), .unset, .unset] [])) _
    refine XS.aload X67.here hx rfl (hb hby at_76) rfl rfl ?_
    show Steps p.tables e below (T67.setTop (mkF m 78 #[.val (.int p0), .val (.int p1), .val (.int p2), .val (.int p3), .val (.int (3 : Int32)), .val (.ref b55), .unset, .unset] [(.ref b55)])) _
    refine st68 _ ?_
    show Steps p.tables e below (T68.setTop (mkF m 81 #[.val (.int p0), .val (.int p1), .val (.int p2), .val (.int p3), .val (.int (3 : Int32)), .val (.ref b55), .unset, .unset] [(.ref b68)])) _
    refine XS.astore X68.here hx rfl (hb hby at_81) rfl rfl (l' := #[.val (.int p0), .val (.int p1), .val (.int p2), .val (.int p3), .val (.int (3 : Int32)), .val (.ref b55), .val (.ref b68), .unset]) rfl ?_
    show Steps p.tables e below (T68.setTop (mkF m 83 #[.val (.int p0), .val (.int p1), .val (.int p2), .val (.int p3), .val (.int (3 : Int32)), .val (.ref b55), .val (.ref b68), .unset] [])) _
    refine XS.aload X68.here hx rfl (hb hby at_83) rfl rfl ?_
    show Steps p.tables e below (T68.setTop (mkF m 85 #[.val (.int p0), .val (.int p1), .val (.int p2), .val (.int p3), .val (.int (3 : Int32)), .val (.ref b55), .val (.ref b68), .unset] [(.ref b68)])) _
    refine XS.ifnullNo X68.here hx rfl (hb hby at_85) rfl ?_
    show Steps p.tables e below (T68.setTop (mkF m 88 #[.val (.int p0), .val (.int p1), .val (.int p2), .val (.int p3), .val (.int (3 : Int32)), .val (.ref b55), .val (.ref b68), .unset] [])) _
    refine XS.aload X68.here hx rfl (hb hby at_88) rfl rfl ?_
    show Steps p.tables e below (T68.setTop (mkF m 90 #[.val (.int p0), .val (.int p1), .val (.int p2), .val (.int p3), .val (.int (3 : Int32)), .val (.ref b55), .val (.ref b68), .unset] [(.ref b68)])) _
    refine X68.arraylength hx Ar69.1 (State.isArrayOf_alike hZ.alike Ar69.2.1) (g := (mkF m 90 #[.val (.int p0), .val (.int p1), .val (.int p2), .val (.int p3), .val (.int (3 : Int32)), .val (.ref b55), .val (.ref b68), .unset] [(.ref b68)])) rfl rfl (hb hby at_90) _ ?_
    rw [len_of S69 M69]
    show Steps p.tables e below (T68.setTop (mkF m 91 #[.val (.int p0), .val (.int p1), .val (.int p2), .val (.int p3), .val (.int (3 : Int32)), .val (.ref b55), .val (.ref b68), .unset] [(.int (3 : Int32))])) _
    refine XS.iload X68.here hx rfl (hb hby at_91) rfl ?_
    show Steps p.tables e below (T68.setTop (mkF m 93 #[.val (.int p0), .val (.int p1), .val (.int p2), .val (.int p3), .val (.int (3 : Int32)), .val (.ref b55), .val (.ref b68), .unset] [(.int (3 : Int32)), (.int (3 : Int32))])) _
    refine XS.icmpYes X68.here hx rfl (pc0 := 93) (pc' := 98) rfl (hb hby at_93) rfl (teq (rfl : (3 : Int32) = (3 : Int32))).1 (by decide) (by decide) ?_
    show Steps p.tables e below (T68.setTop (mkF m 98 #[.val (.int p0), .val (.int p1), .val (.int p2), .val (.int p3), .val (.int (3 : Int32)), .val (.ref b55), .val (.ref b68), .unset] [])) _
    refine XS.iconst X68.here hx rfl (hb hby at_98) ?_
    show Steps p.tables e below (T68.setTop (mkF m 99 #[.val (.int p0), .val (.int p1), .val (.int p2), .val (.int p3), .val (.int (3 : Int32)), .val (.ref b55), .val (.ref b68), .unset] [(.int (1 : Int32))])) _
    refine XS.istore X68.here hx rfl (hb hby at_99) rfl (l' := #[.val (.int p0), .val (.int p1), .val (.int p2), .val (.int p3), .val (.int (3 : Int32)), .val (.ref b55), .val (.ref b68), .val (.int (1 : Int32))]) rfl ?_
    show Steps p.tables e below (T68.setTop (mkF m 101 #[.val (.int p0), .val (.int p1), .val (.int p2), .val (.int p3), .val (.int (3 : Int32)), .val (.ref b55), .val (.ref b68), .val (.int (1 : Int32))] [])) _
    refine XS.iload X68.here hx rfl (hb hby at_101) rfl ?_
    show Steps p.tables e below (T68.setTop (mkF m 103 #[.val (.int p0), .val (.int p1), .val (.int p2), .val (.int p3), .val (.int (3 : Int32)), .val (.ref b55), .val (.ref b68), .val (.int (1 : Int32))] [(.int (3 : Int32))])) _
    refine XS.iconst X68.here hx rfl (hb hby at_103) ?_
    show Steps p.tables e below (T68.setTop (mkF m 104 #[.val (.int p0), .val (.int p1), .val (.int p2), .val (.int p3), .val (.int (3 : Int32)), .val (.ref b55), .val (.ref b68), .val (.int (1 : Int32))] [(.int (1 : Int32)), (.int (3 : Int32))])) _
    refine XS.icmpNo X68.here hx rfl (hb hby at_104) rfl (flt (by decide : ¬ ((3 : Int32) < (1 : Int32)))).1 ?_
    show Steps p.tables e below (T68.setTop (mkF m 107 #[.val (.int p0), .val (.int p1), .val (.int p2), .val (.int p3), .val (.int (3 : Int32)), .val (.ref b55), .val (.ref b68), .val (.int (1 : Int32))] [])) _
    refine XS.iload X68.here hx rfl (hb hby at_107) rfl ?_
    show Steps p.tables e below (T68.setTop (mkF m 109 #[.val (.int p0), .val (.int p1), .val (.int p2), .val (.int p3), .val (.int (3 : Int32)), .val (.ref b55), .val (.ref b68), .val (.int (1 : Int32))] [(.int (1 : Int32))])) _
    refine XS.ifNo X68.here hx rfl (hb hby at_109) rfl ((if0 _ _).trans (feq (by decide : ¬ ((1 : Int32) = (0 : Int32)))).1) ?_
    show Steps p.tables e below (T68.setTop (mkF m 112 #[.val (.int p0), .val (.int p1), .val (.int p2), .val (.int p3), .val (.int (3 : Int32)), .val (.ref b55), .val (.ref b68), .val (.int (1 : Int32))] [])) _
    refine XS.aload X68.here hx rfl (hb hby at_112) rfl rfl ?_
    show Steps p.tables e below (T68.setTop (mkF m 114 #[.val (.int p0), .val (.int p1), .val (.int p2), .val (.int p3), .val (.int (3 : Int32)), .val (.ref b55), .val (.ref b68), .val (.int (1 : Int32))] [(.ref b68)])) _
    refine XS.iconst X68.here hx rfl (hb hby at_114) ?_
    show Steps p.tables e below (T68.setTop (mkF m 115 #[.val (.int p0), .val (.int p1), .val (.int p2), .val (.int p3), .val (.int (3 : Int32)), .val (.ref b55), .val (.ref b68), .val (.int (1 : Int32))] [(.int (0 : Int32)), (.ref b68)])) _
    refine X68.iaload hx (j := (0 : Int32)) (v := (.int (((((((p1.toUInt32 >>> ((8 : Int32) &&& 31).toUInt32).toInt32).toInt8.toInt32).toInt8.toInt32) &&& (255 : Int32)) <<< ((8 : Int32) &&& 31)) ||| (((p1.toInt8.toInt32).toInt8.toInt32) &&& (255 : Int32))))) Ar70.1 (State.isArrayOf_alike hZ.alike Ar70.2.1) Ar70.2.2 hin70 hat70 (g := (mkF m 115 #[.val (.int p0), .val (.int p1), .val (.int p2), .val (.int p3), .val (.int (3 : Int32)), .val (.ref b55), .val (.ref b68), .val (.int (1 : Int32))] [(.int (0 : Int32)), (.ref b68)])) rfl rfl (hb hby at_115) _ ?_
    show Steps p.tables e below (T68.setTop (mkF m 116 #[.val (.int p0), .val (.int p1), .val (.int p2), .val (.int p3), .val (.int (3 : Int32)), .val (.ref b55), .val (.ref b68), .val (.int (1 : Int32))] [(.int (((((((p1.toUInt32 >>> ((8 : Int32) &&& 31).toUInt32).toInt32).toInt8.toInt32).toInt8.toInt32) &&& (255 : Int32)) <<< ((8 : Int32) &&& 31)) ||| (((p1.toInt8.toInt32).toInt8.toInt32) &&& (255 : Int32))))])) _
    refine XS.iloadN X68.here hx rfl (hb hby at_116) rfl ?_
    show Steps p.tables e below (T68.setTop (mkF m 117 #[.val (.int p0), .val (.int p1), .val (.int p2), .val (.int p3), .val (.int (3 : Int32)), .val (.ref b55), .val (.ref b68), .val (.int (1 : Int32))] [(.int p1), (.int (((((((p1.toUInt32 >>> ((8 : Int32) &&& 31).toUInt32).toInt32).toInt8.toInt32).toInt8.toInt32) &&& (255 : Int32)) <<< ((8 : Int32) &&& 31)) ||| (((p1.toInt8.toInt32).toInt8.toInt32) &&& (255 : Int32))))])) _
    refine X68.ldcInt hx hown (mvT hZ (hw _ (List.mem_of_getElem? (i := 6) rfl))) (g := (mkF m 117 #[.val (.int p0), .val (.int p1), .val (.int p2), .val (.int p3), .val (.int (3 : Int32)), .val (.ref b55), .val (.ref b68), .val (.int (1 : Int32))] [(.int p1), (.int (((((((p1.toUInt32 >>> ((8 : Int32) &&& 31).toUInt32).toInt32).toInt8.toInt32).toInt8.toInt32) &&& (255 : Int32)) <<< ((8 : Int32) &&& 31)) ||| (((p1.toInt8.toInt32).toInt8.toInt32) &&& (255 : Int32))))])) rfl (hb hby at_117) _ ?_
    show Steps p.tables e below (T68.setTop (mkF m 119 #[.val (.int p0), .val (.int p1), .val (.int p2), .val (.int p3), .val (.int (3 : Int32)), .val (.ref b55), .val (.ref b68), .val (.int (1 : Int32))] [(.int (65535 : Int32)), (.int p1), (.int (((((((p1.toUInt32 >>> ((8 : Int32) &&& 31).toUInt32).toInt32).toInt8.toInt32).toInt8.toInt32) &&& (255 : Int32)) <<< ((8 : Int32) &&& 31)) ||| (((p1.toInt8.toInt32).toInt8.toInt32) &&& (255 : Int32))))])) _
    refine XS.iand X68.here hx rfl (hb hby at_119) rfl ?_
    exact k)
  obtain ⟨T72, L72, X72, e72, N72, pre72⟩ : ∃ (T' : State) (locs' : List Loc), Stand p l e room_1 s m #[(.int p0), (.int p1), (.int p2), (.int p3)] below meth c T' locs' 2 9 ∧ T'.heap = T68.heap ∧ Fr n0 locs' ∧ ∀ t, Steps p.tables e below (T'.setTop (mkF m 128 #[.val (.int p0), .val (.int p1), .val (.int p2), .val (.int p3), .val (.int (3 : Int32)), .val (.ref b55), .val (.ref b68), .val (.int (1 : Int32))] [(.int (f0_m75 p0 p1 p2 p3))])) t → Steps p.tables e below (s₁.setTop (entryFrame m #[(.int p0), (.int p1), (.int p2), (.int p3)] maxLocals)) t := by
    by_cases hc120_72 : (((((((p1.toUInt32 >>> ((8 : Int32) &&& 31).toUInt32).toInt32).toInt8.toInt32).toInt8.toInt32) &&& (255 : Int32)) <<< ((8 : Int32) &&& 31)) ||| (((p1.toInt8.toInt32).toInt8.toInt32) &&& (255 : Int32))) = (p1 &&& (65535 : Int32))
    · have pre73 : ∀ t, Steps p.tables e below (T68.setTop (mkF m 128 #[.val (.int p0), .val (.int p1), .val (.int p2), .val (.int p3), .val (.int (3 : Int32)), .val (.ref b55), .val (.ref b68), .val (.int (1 : Int32))] [(.int (1 : Int32))])) t → Steps p.tables e below (s₁.setTop (entryFrame m #[(.int p0), (.int p1), (.int p2), (.int p3)] maxLocals)) t := fun t k => pre71 t (by
        show Steps p.tables e below (T68.setTop (mkF m 120 #[.val (.int p0), .val (.int p1), .val (.int p2), .val (.int p3), .val (.int (3 : Int32)), .val (.ref b55), .val (.ref b68), .val (.int (1 : Int32))] [(.int (p1 &&& (65535 : Int32))), (.int (((((((p1.toUInt32 >>> ((8 : Int32) &&& 31).toUInt32).toInt32).toInt8.toInt32).toInt8.toInt32) &&& (255 : Int32)) <<< ((8 : Int32) &&& 31)) ||| (((p1.toInt8.toInt32).toInt8.toInt32) &&& (255 : Int32))))])) _
        refine XS.icmpNo X68.here hx rfl (hb hby at_120) rfl (teq hc120_72).2 ?_
        show Steps p.tables e below (T68.setTop (mkF m 123 #[.val (.int p0), .val (.int p1), .val (.int p2), .val (.int p3), .val (.int (3 : Int32)), .val (.ref b55), .val (.ref b68), .val (.int (1 : Int32))] [])) _
        refine XS.iconst X68.here hx rfl (hb hby at_123) ?_
        show Steps p.tables e below (T68.setTop (mkF m 124 #[.val (.int p0), .val (.int p1), .val (.int p2), .val (.int p3), .val (.int (3 : Int32)), .val (.ref b55), .val (.ref b68), .val (.int (1 : Int32))] [(.int (1 : Int32))])) _
        refine XS.goto X68.here hx rfl (pc0 := 124) (pc' := 128) rfl (hb hby at_124) (by decide) (by decide) ?_
        exact k)
      have q_f0_m75 : f0_m75 p0 p1 p2 p3 = (1 : Int32) := by unfold f0_m75; rw [if_pos hc120_72]
      rw [q_f0_m75]
      exact ⟨T68, _, X68, rfl, N68, pre73⟩
    have pre74 : ∀ t, Steps p.tables e below (T68.setTop (mkF m 128 #[.val (.int p0), .val (.int p1), .val (.int p2), .val (.int p3), .val (.int (3 : Int32)), .val (.ref b55), .val (.ref b68), .val (.int (1 : Int32))] [(.int (0 : Int32))])) t → Steps p.tables e below (s₁.setTop (entryFrame m #[(.int p0), (.int p1), (.int p2), (.int p3)] maxLocals)) t := fun t k => pre71 t (by
      show Steps p.tables e below (T68.setTop (mkF m 120 #[.val (.int p0), .val (.int p1), .val (.int p2), .val (.int p3), .val (.int (3 : Int32)), .val (.ref b55), .val (.ref b68), .val (.int (1 : Int32))] [(.int (p1 &&& (65535 : Int32))), (.int (((((((p1.toUInt32 >>> ((8 : Int32) &&& 31).toUInt32).toInt32).toInt8.toInt32).toInt8.toInt32) &&& (255 : Int32)) <<< ((8 : Int32) &&& 31)) ||| (((p1.toInt8.toInt32).toInt8.toInt32) &&& (255 : Int32))))])) _
      refine XS.icmpYes X68.here hx rfl (pc0 := 120) (pc' := 127) rfl (hb hby at_120) rfl (feq hc120_72).2 (by decide) (by decide) ?_
      show Steps p.tables e below (T68.setTop (mkF m 127 #[.val (.int p0), .val (.int p1), .val (.int p2), .val (.int p3), .val (.int (3 : Int32)), .val (.ref b55), .val (.ref b68), .val (.int (1 : Int32))] [])) _
      refine XS.iconst X68.here hx rfl (hb hby at_127) ?_
      exact k)
    have q_f0_m75 : f0_m75 p0 p1 p2 p3 = (0 : Int32) := by unfold f0_m75; rw [if_neg hc120_72]
    rw [q_f0_m75]
    exact ⟨T68, _, X68, rfl, N68, pre74⟩
  have pre76 : ∀ t, Steps p.tables e below (T72.setTop (mkF m 138 #[.val (.int p0), .val (.int p1), .val (.int p2), .val (.int p3), .val (.int (3 : Int32)), .val (.ref b55), .val (.ref b68), .val (.int (f0_m75 p0 p1 p2 p3))] [(.int (f0_m75 p0 p1 p2 p3))])) t → Steps p.tables e below (s₁.setTop (entryFrame m #[(.int p0), (.int p1), (.int p2), (.int p3)] maxLocals)) t := fun t k => pre72 t (by
    show Steps p.tables e below (T72.setTop (mkF m 128 #[.val (.int p0), .val (.int p1), .val (.int p2), .val (.int p3), .val (.int (3 : Int32)), .val (.ref b55), .val (.ref b68), .val (.int (1 : Int32))] [(.int (f0_m75 p0 p1 p2 p3))])) _
    refine XS.istore X72.here hx rfl (hb hby at_128) rfl (l' := #[.val (.int p0), .val (.int p1), .val (.int p2), .val (.int p3), .val (.int (3 : Int32)), .val (.ref b55), .val (.ref b68), .val (.int (f0_m75 p0 p1 p2 p3))]) rfl ?_
    show Steps p.tables e below (T72.setTop (mkF m 130 #[.val (.int p0), .val (.int p1), .val (.int p2), .val (.int p3), .val (.int (3 : Int32)), .val (.ref b55), .val (.ref b68), .val (.int (f0_m75 p0 p1 p2 p3))] [])) _
    refine XS.iload X72.here hx rfl (hb hby at_130) rfl ?_
    show Steps p.tables e below (T72.setTop (mkF m 132 #[.val (.int p0), .val (.int p1), .val (.int p2), .val (.int p3), .val (.int (3 : Int32)), .val (.ref b55), .val (.ref b68), .val (.int (f0_m75 p0 p1 p2 p3))] [(.int (3 : Int32))])) _
    refine XS.iconst X72.here hx rfl (hb hby at_132) ?_
    show Steps p.tables e below (T72.setTop (mkF m 133 #[.val (.int p0), .val (.int p1), .val (.int p2), .val (.int p3), .val (.int (3 : Int32)), .val (.ref b55), .val (.ref b68), .val (.int (f0_m75 p0 p1 p2 p3))] [(.int (2 : Int32)), (.int (3 : Int32))])) _
    refine XS.icmpNo X72.here hx rfl (hb hby at_133) rfl (flt (by decide : ¬ ((3 : Int32) < (2 : Int32)))).1 ?_
    show Steps p.tables e below (T72.setTop (mkF m 136 #[.val (.int p0), .val (.int p1), .val (.int p2), .val (.int p3), .val (.int (3 : Int32)), .val (.ref b55), .val (.ref b68), .val (.int (f0_m75 p0 p1 p2 p3))] [])) _
    refine XS.iload X72.here hx rfl (hb hby at_136) rfl ?_
    exact k)
  obtain ⟨T77, L77, X77, e77, N77, pre77⟩ : ∃ (T' : State) (locs' : List Loc), Stand p l e room_1 s m #[(.int p0), (.int p1), (.int p2), (.int p3)] below meth c T' locs' 2 9 ∧ T'.heap = T68.heap ∧ Fr n0 locs' ∧ ∀ t, Steps p.tables e below (T'.setTop (mkF m 157 #[.val (.int p0), .val (.int p1), .val (.int p2), .val (.int p3), .val (.int (3 : Int32)), .val (.ref b55), .val (.ref b68), .val (.int (f0_m75 p0 p1 p2 p3))] [(.int (f0_m84 p0 p1 p2 p3))])) t → Steps p.tables e below (s₁.setTop (entryFrame m #[(.int p0), (.int p1), (.int p2), (.int p3)] maxLocals)) t := by
    by_cases hc138_77 : (f0_m75 p0 p1 p2 p3) = (0 : Int32)
    · have pre78 : ∀ t, Steps p.tables e below (T72.setTop (mkF m 157 #[.val (.int p0), .val (.int p1), .val (.int p2), .val (.int p3), .val (.int (3 : Int32)), .val (.ref b55), .val (.ref b68), .val (.int (f0_m75 p0 p1 p2 p3))] [(.int (0 : Int32))])) t → Steps p.tables e below (s₁.setTop (entryFrame m #[(.int p0), (.int p1), (.int p2), (.int p3)] maxLocals)) t := fun t k => pre76 t (by
        show Steps p.tables e below (T72.setTop (mkF m 138 #[.val (.int p0), .val (.int p1), .val (.int p2), .val (.int p3), .val (.int (3 : Int32)), .val (.ref b55), .val (.ref b68), .val (.int (f0_m75 p0 p1 p2 p3))] [(.int (f0_m75 p0 p1 p2 p3))])) _
        refine XS.ifYes X72.here hx rfl (pc0 := 138) (pc' := 156) rfl (hb hby at_138) rfl ((if0 _ _).trans (teq hc138_77).1) (by decide) (by decide) ?_
        show Steps p.tables e below (T72.setTop (mkF m 156 #[.val (.int p0), .val (.int p1), .val (.int p2), .val (.int p3), .val (.int (3 : Int32)), .val (.ref b55), .val (.ref b68), .val (.int (f0_m75 p0 p1 p2 p3))] [])) _
        refine XS.iconst X72.here hx rfl (hb hby at_156) ?_
        exact k)
      have q_f0_m84 : f0_m84 p0 p1 p2 p3 = (0 : Int32) := by unfold f0_m84; rw [if_pos hc138_77]
      rw [q_f0_m84]
      exact ⟨T72, _, X72, e72, N72, pre78⟩
    obtain ⟨cl79, Ar79, q79, S79, M79, H79, G79⟩ := id u68_0
    have hin79 : ¬ ((1 : Int32) < 0 ∨ cl79.slots.size ≤ ((1 : Int32)).toNatClampNeg) := inb_of S79 ⟨by decide, by decide⟩
    have hat79 : cl79.slots[((1 : Int32)).toNatClampNeg]? = some (.int (((((((p2.toUInt32 >>> ((8 : Int32) &&& 31).toUInt32).toInt32).toInt8.toInt32).toInt8.toInt32) &&& (255 : Int32)) <<< ((8 : Int32) &&& 31)) ||| (((p2.toInt8.toInt32).toInt8.toInt32) &&& (255 : Int32)))) := H79.at hin79 rfl
    have pre80 : ∀ t, Steps p.tables e below (T72.setTop (mkF m 149 #[.val (.int p0), .val (.int p1), .val (.int p2), .val (.int p3), .val (.int (3 : Int32)), .val (.ref b55), .val (.ref b68), .val (.int (f0_m75 p0 p1 p2 p3))] [(.int (p2 &&& (65535 : Int32))), (.int (((((((p2.toUInt32 >>> ((8 : Int32) &&& 31).toUInt32).toInt32).toInt8.toInt32).toInt8.toInt32) &&& (255 : Int32)) <<< ((8 : Int32) &&& 31)) ||| (((p2.toInt8.toInt32).toInt8.toInt32) &&& (255 : Int32))))])) t → Steps p.tables e below (s₁.setTop (entryFrame m #[(.int p0), (.int p1), (.int p2), (.int p3)] maxLocals)) t := fun t k => pre76 t (by
      show Steps p.tables e below (T72.setTop (mkF m 138 #[.val (.int p0), .val (.int p1), .val (.int p2), .val (.int p3), .val (.int (3 : Int32)), .val (.ref b55), .val (.ref b68), .val (.int (f0_m75 p0 p1 p2 p3))] [(.int (f0_m75 p0 p1 p2 p3))])) _
      refine XS.ifNo X72.here hx rfl (hb hby at_138) rfl ((if0 _ _).trans (feq hc138_77).1) ?_
      show Steps p.tables e below (T72.setTop (mkF m 141 #[.val (.int p0), .val (.int p1), .val (.int p2), .val (.int p3), .val (.int (3 : Int32)), .val (.ref b55), .val (.ref b68), .val (.int (f0_m75 p0 p1 p2 p3))] [])) _
      refine XS.aload X72.here hx rfl (hb hby at_141) rfl rfl ?_
      show Steps p.tables e below (T72.setTop (mkF m 143 #[.val (.int p0), .val (.int p1), .val (.int p2), .val (.int p3), .val (.int (3 : Int32)), .val (.ref b55), .val (.ref b68), .val (.int (f0_m75 p0 p1 p2 p3))] [(.ref b68)])) _
      refine XS.iconst X72.here hx rfl (hb hby at_143) ?_
      show Steps p.tables e below (T72.setTop (mkF m 144 #[.val (.int p0), .val (.int p1), .val (.int p2), .val (.int p3), .val (.int (3 : Int32)), .val (.ref b55), .val (.ref b68), .val (.int (f0_m75 p0 p1 p2 p3))] [(.int (1 : Int32)), (.ref b68)])) _
      refine X72.iaload hx (j := (1 : Int32)) (v := (.int (((((((p2.toUInt32 >>> ((8 : Int32) &&& 31).toUInt32).toInt32).toInt8.toInt32).toInt8.toInt32) &&& (255 : Int32)) <<< ((8 : Int32) &&& 31)) ||| (((p2.toInt8.toInt32).toInt8.toInt32) &&& (255 : Int32))))) (by rw [e72]; exact Ar79.1) (State.isArrayOf_alike hZ.alike Ar79.2.1) Ar79.2.2 hin79 hat79 (g := (mkF m 144 #[.val (.int p0), .val (.int p1), .val (.int p2), .val (.int p3), .val (.int (3 : Int32)), .val (.ref b55), .val (.ref b68), .val (.int (f0_m75 p0 p1 p2 p3))] [(.int (1 : Int32)), (.ref b68)])) rfl rfl (hb hby at_144) _ ?_
      show Steps p.tables e below (T72.setTop (mkF m 145 #[.val (.int p0), .val (.int p1), .val (.int p2), .val (.int p3), .val (.int (3 : Int32)), .val (.ref b55), .val (.ref b68), .val (.int (f0_m75 p0 p1 p2 p3))] [(.int (((((((p2.toUInt32 >>> ((8 : Int32) &&& 31).toUInt32).toInt32).toInt8.toInt32).toInt8.toInt32) &&& (255 : Int32)) <<< ((8 : Int32) &&& 31)) ||| (((p2.toInt8.toInt32).toInt8.toInt32) &&& (255 : Int32))))])) _
      refine XS.iloadN X72.here hx rfl (hb hby at_145) rfl ?_
      show Steps p.tables e below (T72.setTop (mkF m 146 #[.val (.int p0), .val (.int p1), .val (.int p2), .val (.int p3), .val (.int (3 : Int32)), .val (.ref b55), .val (.ref b68), .val (.int (f0_m75 p0 p1 p2 p3))] [(.int p2), (.int (((((((p2.toUInt32 >>> ((8 : Int32) &&& 31).toUInt32).toInt32).toInt8.toInt32).toInt8.toInt32) &&& (255 : Int32)) <<< ((8 : Int32) &&& 31)) ||| (((p2.toInt8.toInt32).toInt8.toInt32) &&& (255 : Int32))))])) _
      refine X72.ldcInt hx hown (mvT hZ (hw _ (List.mem_of_getElem? (i := 6) rfl))) (g := (mkF m 146 #[.val (.int p0), .val (.int p1), .val (.int p2), .val (.int p3), .val (.int (3 : Int32)), .val (.ref b55), .val (.ref b68), .val (.int (f0_m75 p0 p1 p2 p3))] [(.int p2), (.int (((((((p2.toUInt32 >>> ((8 : Int32) &&& 31).toUInt32).toInt32).toInt8.toInt32).toInt8.toInt32) &&& (255 : Int32)) <<< ((8 : Int32) &&& 31)) ||| (((p2.toInt8.toInt32).toInt8.toInt32) &&& (255 : Int32))))])) rfl (hb hby at_146) _ ?_
      show Steps p.tables e below (T72.setTop (mkF m 148 #[.val (.int p0), .val (.int p1), .val (.int p2), .val (.int p3), .val (.int (3 : Int32)), .val (.ref b55), .val (.ref b68), .val (.int (f0_m75 p0 p1 p2 p3))] [(.int (65535 : Int32)), (.int p2), (.int (((((((p2.toUInt32 >>> ((8 : Int32) &&& 31).toUInt32).toInt32).toInt8.toInt32).toInt8.toInt32) &&& (255 : Int32)) <<< ((8 : Int32) &&& 31)) ||| (((p2.toInt8.toInt32).toInt8.toInt32) &&& (255 : Int32))))])) _
      refine XS.iand X72.here hx rfl (hb hby at_148) rfl ?_
      exact k)
    by_cases hc149_81 : (((((((p2.toUInt32 >>> ((8 : Int32) &&& 31).toUInt32).toInt32).toInt8.toInt32).toInt8.toInt32) &&& (255 : Int32)) <<< ((8 : Int32) &&& 31)) ||| (((p2.toInt8.toInt32).toInt8.toInt32) &&& (255 : Int32))) = (p2 &&& (65535 : Int32))
    · have pre82 : ∀ t, Steps p.tables e below (T72.setTop (mkF m 157 #[.val (.int p0), .val (.int p1), .val (.int p2), .val (.int p3), .val (.int (3 : Int32)), .val (.ref b55), .val (.ref b68), .val (.int (f0_m75 p0 p1 p2 p3))] [(.int (1 : Int32))])) t → Steps p.tables e below (s₁.setTop (entryFrame m #[(.int p0), (.int p1), (.int p2), (.int p3)] maxLocals)) t := fun t k => pre80 t (by
        show Steps p.tables e below (T72.setTop (mkF m 149 #[.val (.int p0), .val (.int p1), .val (.int p2), .val (.int p3), .val (.int (3 : Int32)), .val (.ref b55), .val (.ref b68), .val (.int (f0_m75 p0 p1 p2 p3))] [(.int (p2 &&& (65535 : Int32))), (.int (((((((p2.toUInt32 >>> ((8 : Int32) &&& 31).toUInt32).toInt32).toInt8.toInt32).toInt8.toInt32) &&& (255 : Int32)) <<< ((8 : Int32) &&& 31)) ||| (((p2.toInt8.toInt32).toInt8.toInt32) &&& (255 : Int32))))])) _
        refine XS.icmpNo X72.here hx rfl (hb hby at_149) rfl (teq hc149_81).2 ?_
        show Steps p.tables e below (T72.setTop (mkF m 152 #[.val (.int p0), .val (.int p1), .val (.int p2), .val (.int p3), .val (.int (3 : Int32)), .val (.ref b55), .val (.ref b68), .val (.int (f0_m75 p0 p1 p2 p3))] [])) _
        refine XS.iconst X72.here hx rfl (hb hby at_152) ?_
        show Steps p.tables e below (T72.setTop (mkF m 153 #[.val (.int p0), .val (.int p1), .val (.int p2), .val (.int p3), .val (.int (3 : Int32)), .val (.ref b55), .val (.ref b68), .val (.int (f0_m75 p0 p1 p2 p3))] [(.int (1 : Int32))])) _
        refine XS.goto X72.here hx rfl (pc0 := 153) (pc' := 157) rfl (hb hby at_153) (by decide) (by decide) ?_
        exact k)
      have q_f0_m84 : f0_m84 p0 p1 p2 p3 = (1 : Int32) := by unfold f0_m84; rw [if_neg hc138_77, if_pos hc149_81]
      rw [q_f0_m84]
      exact ⟨T72, _, X72, e72, N72, pre82⟩
    have pre83 : ∀ t, Steps p.tables e below (T72.setTop (mkF m 157 #[.val (.int p0), .val (.int p1), .val (.int p2), .val (.int p3), .val (.int (3 : Int32)), .val (.ref b55), .val (.ref b68), .val (.int (f0_m75 p0 p1 p2 p3))] [(.int (0 : Int32))])) t → Steps p.tables e below (s₁.setTop (entryFrame m #[(.int p0), (.int p1), (.int p2), (.int p3)] maxLocals)) t := fun t k => pre80 t (by
      show Steps p.tables e below (T72.setTop (mkF m 149 #[.val (.int p0), .val (.int p1), .val (.int p2), .val (.int p3), .val (.int (3 : Int32)), .val (.ref b55), .val (.ref b68), .val (.int (f0_m75 p0 p1 p2 p3))] [(.int (p2 &&& (65535 : Int32))), (.int (((((((p2.toUInt32 >>> ((8 : Int32) &&& 31).toUInt32).toInt32).toInt8.toInt32).toInt8.toInt32) &&& (255 : Int32)) <<< ((8 : Int32) &&& 31)) ||| (((p2.toInt8.toInt32).toInt8.toInt32) &&& (255 : Int32))))])) _
      refine XS.icmpYes X72.here hx rfl (pc0 := 149) (pc' := 156) rfl (hb hby at_149) rfl (feq hc149_81).2 (by decide) (by decide) ?_
      show Steps p.tables e below (T72.setTop (mkF m 156 #[.val (.int p0), .val (.int p1), .val (.int p2), .val (.int p3), .val (.int (3 : Int32)), .val (.ref b55), .val (.ref b68), .val (.int (f0_m75 p0 p1 p2 p3))] [])) _
      refine XS.iconst X72.here hx rfl (hb hby at_156) ?_
      exact k)
    have q_f0_m84 : f0_m84 p0 p1 p2 p3 = (0 : Int32) := by unfold f0_m84; rw [if_neg hc138_77, if_neg hc149_81]
    rw [q_f0_m84]
    exact ⟨T72, _, X72, e72, N72, pre83⟩
  have pre85 : ∀ t, Steps p.tables e below (T77.setTop (mkF m 167 #[.val (.int p0), .val (.int p1), .val (.int p2), .val (.int p3), .val (.int (3 : Int32)), .val (.ref b55), .val (.ref b68), .val (.int (f0_m84 p0 p1 p2 p3))] [(.int (f0_m84 p0 p1 p2 p3))])) t → Steps p.tables e below (s₁.setTop (entryFrame m #[(.int p0), (.int p1), (.int p2), (.int p3)] maxLocals)) t := fun t k => pre77 t (by
    show Steps p.tables e below (T77.setTop (mkF m 157 #[.val (.int p0), .val (.int p1), .val (.int p2), .val (.int p3), .val (.int (3 : Int32)), .val (.ref b55), .val (.ref b68), .val (.int (f0_m75 p0 p1 p2 p3))] [(.int (f0_m84 p0 p1 p2 p3))])) _
    refine XS.istore X77.here hx rfl (hb hby at_157) rfl (l' := #[.val (.int p0), .val (.int p1), .val (.int p2), .val (.int p3), .val (.int (3 : Int32)), .val (.ref b55), .val (.ref b68), .val (.int (f0_m84 p0 p1 p2 p3))]) rfl ?_
    show Steps p.tables e below (T77.setTop (mkF m 159 #[.val (.int p0), .val (.int p1), .val (.int p2), .val (.int p3), .val (.int (3 : Int32)), .val (.ref b55), .val (.ref b68), .val (.int (f0_m84 p0 p1 p2 p3))] [])) _
    refine XS.iload X77.here hx rfl (hb hby at_159) rfl ?_
    show Steps p.tables e below (T77.setTop (mkF m 161 #[.val (.int p0), .val (.int p1), .val (.int p2), .val (.int p3), .val (.int (3 : Int32)), .val (.ref b55), .val (.ref b68), .val (.int (f0_m84 p0 p1 p2 p3))] [(.int (3 : Int32))])) _
    refine XS.iconst X77.here hx rfl (hb hby at_161) ?_
    show Steps p.tables e below (T77.setTop (mkF m 162 #[.val (.int p0), .val (.int p1), .val (.int p2), .val (.int p3), .val (.int (3 : Int32)), .val (.ref b55), .val (.ref b68), .val (.int (f0_m84 p0 p1 p2 p3))] [(.int (3 : Int32)), (.int (3 : Int32))])) _
    refine XS.icmpNo X77.here hx rfl (hb hby at_162) rfl (flt (by decide : ¬ ((3 : Int32) < (3 : Int32)))).1 ?_
    show Steps p.tables e below (T77.setTop (mkF m 165 #[.val (.int p0), .val (.int p1), .val (.int p2), .val (.int p3), .val (.int (3 : Int32)), .val (.ref b55), .val (.ref b68), .val (.int (f0_m84 p0 p1 p2 p3))] [])) _
    refine XS.iload X77.here hx rfl (hb hby at_165) rfl ?_
    exact k)
  obtain ⟨T86, L86, X86, e86, N86, pre86⟩ : ∃ (T' : State) (locs' : List Loc), Stand p l e room_1 s m #[(.int p0), (.int p1), (.int p2), (.int p3)] below meth c T' locs' 2 9 ∧ T'.heap = T68.heap ∧ Fr n0 locs' ∧ ∀ t, Steps p.tables e below (T'.setTop (mkF m 186 #[.val (.int p0), .val (.int p1), .val (.int p2), .val (.int p3), .val (.int (3 : Int32)), .val (.ref b55), .val (.ref b68), .val (.int (f0_m84 p0 p1 p2 p3))] [(.int (f0_m93 p0 p1 p2 p3))])) t → Steps p.tables e below (s₁.setTop (entryFrame m #[(.int p0), (.int p1), (.int p2), (.int p3)] maxLocals)) t := by
    by_cases hc167_86 : (f0_m84 p0 p1 p2 p3) = (0 : Int32)
    · have pre87 : ∀ t, Steps p.tables e below (T77.setTop (mkF m 186 #[.val (.int p0), .val (.int p1), .val (.int p2), .val (.int p3), .val (.int (3 : Int32)), .val (.ref b55), .val (.ref b68), .val (.int (f0_m84 p0 p1 p2 p3))] [(.int (0 : Int32))])) t → Steps p.tables e below (s₁.setTop (entryFrame m #[(.int p0), (.int p1), (.int p2), (.int p3)] maxLocals)) t := fun t k => pre85 t (by
        show Steps p.tables e below (T77.setTop (mkF m 167 #[.val (.int p0), .val (.int p1), .val (.int p2), .val (.int p3), .val (.int (3 : Int32)), .val (.ref b55), .val (.ref b68), .val (.int (f0_m84 p0 p1 p2 p3))] [(.int (f0_m84 p0 p1 p2 p3))])) _
        refine XS.ifYes X77.here hx rfl (pc0 := 167) (pc' := 185) rfl (hb hby at_167) rfl ((if0 _ _).trans (teq hc167_86).1) (by decide) (by decide) ?_
        show Steps p.tables e below (T77.setTop (mkF m 185 #[.val (.int p0), .val (.int p1), .val (.int p2), .val (.int p3), .val (.int (3 : Int32)), .val (.ref b55), .val (.ref b68), .val (.int (f0_m84 p0 p1 p2 p3))] [])) _
        refine XS.iconst X77.here hx rfl (hb hby at_185) ?_
        exact k)
      have q_f0_m93 : f0_m93 p0 p1 p2 p3 = (0 : Int32) := by unfold f0_m93; rw [if_pos hc167_86]
      rw [q_f0_m93]
      exact ⟨T77, _, X77, e77, N77, pre87⟩
    obtain ⟨cl88, Ar88, q88, S88, M88, H88, G88⟩ := id u68_0
    have hin88 : ¬ ((2 : Int32) < 0 ∨ cl88.slots.size ≤ ((2 : Int32)).toNatClampNeg) := inb_of S88 ⟨by decide, by decide⟩
    have hat88 : cl88.slots[((2 : Int32)).toNatClampNeg]? = some (.int (((((((p3.toUInt32 >>> ((8 : Int32) &&& 31).toUInt32).toInt32).toInt8.toInt32).toInt8.toInt32) &&& (255 : Int32)) <<< ((8 : Int32) &&& 31)) ||| (((p3.toInt8.toInt32).toInt8.toInt32) &&& (255 : Int32)))) := H88.at hin88 rfl
    have pre89 : ∀ t, Steps p.tables e below (T77.setTop (mkF m 178 #[.val (.int p0), .val (.int p1), .val (.int p2), .val (.int p3), .val (.int (3 : Int32)), .val (.ref b55), .val (.ref b68), .val (.int (f0_m84 p0 p1 p2 p3))] [(.int (p3 &&& (65535 : Int32))), (.int (((((((p3.toUInt32 >>> ((8 : Int32) &&& 31).toUInt32).toInt32).toInt8.toInt32).toInt8.toInt32) &&& (255 : Int32)) <<< ((8 : Int32) &&& 31)) ||| (((p3.toInt8.toInt32).toInt8.toInt32) &&& (255 : Int32))))])) t → Steps p.tables e below (s₁.setTop (entryFrame m #[(.int p0), (.int p1), (.int p2), (.int p3)] maxLocals)) t := fun t k => pre85 t (by
      show Steps p.tables e below (T77.setTop (mkF m 167 #[.val (.int p0), .val (.int p1), .val (.int p2), .val (.int p3), .val (.int (3 : Int32)), .val (.ref b55), .val (.ref b68), .val (.int (f0_m84 p0 p1 p2 p3))] [(.int (f0_m84 p0 p1 p2 p3))])) _
      refine XS.ifNo X77.here hx rfl (hb hby at_167) rfl ((if0 _ _).trans (feq hc167_86).1) ?_
      show Steps p.tables e below (T77.setTop (mkF m 170 #[.val (.int p0), .val (.int p1), .val (.int p2), .val (.int p3), .val (.int (3 : Int32)), .val (.ref b55), .val (.ref b68), .val (.int (f0_m84 p0 p1 p2 p3))] [])) _
      refine XS.aload X77.here hx rfl (hb hby at_170) rfl rfl ?_
      show Steps p.tables e below (T77.setTop (mkF m 172 #[.val (.int p0), .val (.int p1), .val (.int p2), .val (.int p3), .val (.int (3 : Int32)), .val (.ref b55), .val (.ref b68), .val (.int (f0_m84 p0 p1 p2 p3))] [(.ref b68)])) _
      refine XS.iconst X77.here hx rfl (hb hby at_172) ?_
      show Steps p.tables e below (T77.setTop (mkF m 173 #[.val (.int p0), .val (.int p1), .val (.int p2), .val (.int p3), .val (.int (3 : Int32)), .val (.ref b55), .val (.ref b68), .val (.int (f0_m84 p0 p1 p2 p3))] [(.int (2 : Int32)), (.ref b68)])) _
      refine X77.iaload hx (j := (2 : Int32)) (v := (.int (((((((p3.toUInt32 >>> ((8 : Int32) &&& 31).toUInt32).toInt32).toInt8.toInt32).toInt8.toInt32) &&& (255 : Int32)) <<< ((8 : Int32) &&& 31)) ||| (((p3.toInt8.toInt32).toInt8.toInt32) &&& (255 : Int32))))) (by rw [e77]; exact Ar88.1) (State.isArrayOf_alike hZ.alike Ar88.2.1) Ar88.2.2 hin88 hat88 (g := (mkF m 173 #[.val (.int p0), .val (.int p1), .val (.int p2), .val (.int p3), .val (.int (3 : Int32)), .val (.ref b55), .val (.ref b68), .val (.int (f0_m84 p0 p1 p2 p3))] [(.int (2 : Int32)), (.ref b68)])) rfl rfl (hb hby at_173) _ ?_
      show Steps p.tables e below (T77.setTop (mkF m 174 #[.val (.int p0), .val (.int p1), .val (.int p2), .val (.int p3), .val (.int (3 : Int32)), .val (.ref b55), .val (.ref b68), .val (.int (f0_m84 p0 p1 p2 p3))] [(.int (((((((p3.toUInt32 >>> ((8 : Int32) &&& 31).toUInt32).toInt32).toInt8.toInt32).toInt8.toInt32) &&& (255 : Int32)) <<< ((8 : Int32) &&& 31)) ||| (((p3.toInt8.toInt32).toInt8.toInt32) &&& (255 : Int32))))])) _
      refine XS.iloadN X77.here hx rfl (hb hby at_174) rfl ?_
      show Steps p.tables e below (T77.setTop (mkF m 175 #[.val (.int p0), .val (.int p1), .val (.int p2), .val (.int p3), .val (.int (3 : Int32)), .val (.ref b55), .val (.ref b68), .val (.int (f0_m84 p0 p1 p2 p3))] [(.int p3), (.int (((((((p3.toUInt32 >>> ((8 : Int32) &&& 31).toUInt32).toInt32).toInt8.toInt32).toInt8.toInt32) &&& (255 : Int32)) <<< ((8 : Int32) &&& 31)) ||| (((p3.toInt8.toInt32).toInt8.toInt32) &&& (255 : Int32))))])) _
      refine X77.ldcInt hx hown (mvT hZ (hw _ (List.mem_of_getElem? (i := 6) rfl))) (g := (mkF m 175 #[.val (.int p0), .val (.int p1), .val (.int p2), .val (.int p3), .val (.int (3 : Int32)), .val (.ref b55), .val (.ref b68), .val (.int (f0_m84 p0 p1 p2 p3))] [(.int p3), (.int (((((((p3.toUInt32 >>> ((8 : Int32) &&& 31).toUInt32).toInt32).toInt8.toInt32).toInt8.toInt32) &&& (255 : Int32)) <<< ((8 : Int32) &&& 31)) ||| (((p3.toInt8.toInt32).toInt8.toInt32) &&& (255 : Int32))))])) rfl (hb hby at_175) _ ?_
      show Steps p.tables e below (T77.setTop (mkF m 177 #[.val (.int p0), .val (.int p1), .val (.int p2), .val (.int p3), .val (.int (3 : Int32)), .val (.ref b55), .val (.ref b68), .val (.int (f0_m84 p0 p1 p2 p3))] [(.int (65535 : Int32)), (.int p3), (.int (((((((p3.toUInt32 >>> ((8 : Int32) &&& 31).toUInt32).toInt32).toInt8.toInt32).toInt8.toInt32) &&& (255 : Int32)) <<< ((8 : Int32) &&& 31)) ||| (((p3.toInt8.toInt32).toInt8.toInt32) &&& (255 : Int32))))])) _
      refine XS.iand X77.here hx rfl (hb hby at_177) rfl ?_
      exact k)
    by_cases hc178_90 : (((((((p3.toUInt32 >>> ((8 : Int32) &&& 31).toUInt32).toInt32).toInt8.toInt32).toInt8.toInt32) &&& (255 : Int32)) <<< ((8 : Int32) &&& 31)) ||| (((p3.toInt8.toInt32).toInt8.toInt32) &&& (255 : Int32))) = (p3 &&& (65535 : Int32))
    · have pre91 : ∀ t, Steps p.tables e below (T77.setTop (mkF m 186 #[.val (.int p0), .val (.int p1), .val (.int p2), .val (.int p3), .val (.int (3 : Int32)), .val (.ref b55), .val (.ref b68), .val (.int (f0_m84 p0 p1 p2 p3))] [(.int (1 : Int32))])) t → Steps p.tables e below (s₁.setTop (entryFrame m #[(.int p0), (.int p1), (.int p2), (.int p3)] maxLocals)) t := fun t k => pre89 t (by
        show Steps p.tables e below (T77.setTop (mkF m 178 #[.val (.int p0), .val (.int p1), .val (.int p2), .val (.int p3), .val (.int (3 : Int32)), .val (.ref b55), .val (.ref b68), .val (.int (f0_m84 p0 p1 p2 p3))] [(.int (p3 &&& (65535 : Int32))), (.int (((((((p3.toUInt32 >>> ((8 : Int32) &&& 31).toUInt32).toInt32).toInt8.toInt32).toInt8.toInt32) &&& (255 : Int32)) <<< ((8 : Int32) &&& 31)) ||| (((p3.toInt8.toInt32).toInt8.toInt32) &&& (255 : Int32))))])) _
        refine XS.icmpNo X77.here hx rfl (hb hby at_178) rfl (teq hc178_90).2 ?_
        show Steps p.tables e below (T77.setTop (mkF m 181 #[.val (.int p0), .val (.int p1), .val (.int p2), .val (.int p3), .val (.int (3 : Int32)), .val (.ref b55), .val (.ref b68), .val (.int (f0_m84 p0 p1 p2 p3))] [])) _
        refine XS.iconst X77.here hx rfl (hb hby at_181) ?_
        show Steps p.tables e below (T77.setTop (mkF m 182 #[.val (.int p0), .val (.int p1), .val (.int p2), .val (.int p3), .val (.int (3 : Int32)), .val (.ref b55), .val (.ref b68), .val (.int (f0_m84 p0 p1 p2 p3))] [(.int (1 : Int32))])) _
        refine XS.goto X77.here hx rfl (pc0 := 182) (pc' := 186) rfl (hb hby at_182) (by decide) (by decide) ?_
        exact k)
      have q_f0_m93 : f0_m93 p0 p1 p2 p3 = (1 : Int32) := by unfold f0_m93; rw [if_neg hc167_86, if_pos hc178_90]
      rw [q_f0_m93]
      exact ⟨T77, _, X77, e77, N77, pre91⟩
    have pre92 : ∀ t, Steps p.tables e below (T77.setTop (mkF m 186 #[.val (.int p0), .val (.int p1), .val (.int p2), .val (.int p3), .val (.int (3 : Int32)), .val (.ref b55), .val (.ref b68), .val (.int (f0_m84 p0 p1 p2 p3))] [(.int (0 : Int32))])) t → Steps p.tables e below (s₁.setTop (entryFrame m #[(.int p0), (.int p1), (.int p2), (.int p3)] maxLocals)) t := fun t k => pre89 t (by
      show Steps p.tables e below (T77.setTop (mkF m 178 #[.val (.int p0), .val (.int p1), .val (.int p2), .val (.int p3), .val (.int (3 : Int32)), .val (.ref b55), .val (.ref b68), .val (.int (f0_m84 p0 p1 p2 p3))] [(.int (p3 &&& (65535 : Int32))), (.int (((((((p3.toUInt32 >>> ((8 : Int32) &&& 31).toUInt32).toInt32).toInt8.toInt32).toInt8.toInt32) &&& (255 : Int32)) <<< ((8 : Int32) &&& 31)) ||| (((p3.toInt8.toInt32).toInt8.toInt32) &&& (255 : Int32))))])) _
      refine XS.icmpYes X77.here hx rfl (pc0 := 178) (pc' := 185) rfl (hb hby at_178) rfl (feq hc178_90).2 (by decide) (by decide) ?_
      show Steps p.tables e below (T77.setTop (mkF m 185 #[.val (.int p0), .val (.int p1), .val (.int p2), .val (.int p3), .val (.int (3 : Int32)), .val (.ref b55), .val (.ref b68), .val (.int (f0_m84 p0 p1 p2 p3))] [])) _
      refine XS.iconst X77.here hx rfl (hb hby at_185) ?_
      exact k)
    have q_f0_m93 : f0_m93 p0 p1 p2 p3 = (0 : Int32) := by unfold f0_m93; rw [if_neg hc167_86, if_neg hc178_90]
    rw [q_f0_m93]
    exact ⟨T77, _, X77, e77, N77, pre92⟩
  have pre94 : ∀ t, Steps p.tables e below (T86.setTop (mkF m 190 #[.val (.int p0), .val (.int p1), .val (.int p2), .val (.int p3), .val (.int (3 : Int32)), .val (.ref b55), .val (.ref b68), .val (.int (f0_m93 p0 p1 p2 p3))] [(.int (f0_m93 p0 p1 p2 p3))])) t → Steps p.tables e below (s₁.setTop (entryFrame m #[(.int p0), (.int p1), (.int p2), (.int p3)] maxLocals)) t := fun t k => pre86 t (by
    show Steps p.tables e below (T86.setTop (mkF m 186 #[.val (.int p0), .val (.int p1), .val (.int p2), .val (.int p3), .val (.int (3 : Int32)), .val (.ref b55), .val (.ref b68), .val (.int (f0_m84 p0 p1 p2 p3))] [(.int (f0_m93 p0 p1 p2 p3))])) _
    refine XS.istore X86.here hx rfl (hb hby at_186) rfl (l' := #[.val (.int p0), .val (.int p1), .val (.int p2), .val (.int p3), .val (.int (3 : Int32)), .val (.ref b55), .val (.ref b68), .val (.int (f0_m93 p0 p1 p2 p3))]) rfl ?_
    show Steps p.tables e below (T86.setTop (mkF m 188 #[.val (.int p0), .val (.int p1), .val (.int p2), .val (.int p3), .val (.int (3 : Int32)), .val (.ref b55), .val (.ref b68), .val (.int (f0_m93 p0 p1 p2 p3))] [])) _
    refine XS.iload X86.here hx rfl (hb hby at_188) rfl ?_
    exact k)
  obtain ⟨fs, hr, hrun, hended, hW, hsame⟩ := X86.leave (v := some (.int ((f0_m93 p0 p1 p2 p3) &&& 1))) (fun h => by rw [Bd.returns] at h; cases h) hlk
  have hF : (F0 p0 p1 p2 p3) = ((f0_m93 p0 p1 p2 p3) &&& 1) := by unfold F0; rw [if_neg hv2, if_neg hv8, if_neg hv24]
  exact ⟨_, _, pre94 _ (retN X86 hx (t := .boolean) Bd.returns (by simp) (hb hby at_190) hr), hrun, hended, _, _, rfl, ⟨by rw [hF], N86⟩, ⟨_, rfl⟩, hW, hsame.mono (by decide) (by decide)⟩
theorem own_b2 (x : Int32) : x.toInt8.toInt32.toInt8.toInt32 = x.toInt8.toInt32 := by rw [Int8.toInt8_toInt32]
/-- two bytes: the upper one of y, whose low byte is x's second one, and x's low byte -/
theorem own_word (x y : Int32) (hy : (y.toInt - x.toInt / 256) % 256 = 0) : (((y.toInt8.toInt32 &&& (255 : Int32)) <<< ((8 : Int32) &&& 31)) ||| (x.toInt8.toInt32 &&& (255 : Int32))) = (x &&& (65535 : Int32)) := by
  apply Int32.toInt_inj.mp
  have e1 : (y.toInt8.toInt32 &&& (255 : Int32)).toInt = y.toInt8.toInt32.toInt % (2 ^ 8 : Nat) := c_mask _ 255 8 (by decide) (by decide)
  have e2 : (x.toInt8.toInt32 &&& (255 : Int32)).toInt = x.toInt8.toInt32.toInt % (2 ^ 8 : Nat) := c_mask _ 255 8 (by decide) (by decide)
  have e3 : (x &&& (65535 : Int32)).toInt = x.toInt % (2 ^ 16 : Nat) := c_mask _ 65535 16 (by decide) (by decide)
  have b1 := c_i2b y; have b2 := c_i2b x
  generalize y.toInt8.toInt32 &&& (255 : Int32) = u at *
  generalize x.toInt8.toInt32 &&& (255 : Int32) = v at *
  have s := c_ishl u 8 8 (by decide); have rs := rng32 (u <<< ((8 : Int32) &&& 31))
  have s' : (u <<< ((8 : Int32) &&& 31)).toInt = u.toInt * 256 := by omega
  have o := c_or (u <<< ((8 : Int32) &&& 31)) v 8 (by decide) 256 (by decide) (by omega) (by omega) (by omega)
  have ro := rng32 ((u <<< ((8 : Int32) &&& 31)) ||| v); have rx := rng32 x
  omega
theorem own_w (x : Int32) : (((((x.toUInt32 >>> ((8 : Int32) &&& 31).toUInt32).toInt32).toInt8.toInt32 &&& (255 : Int32)) <<< ((8 : Int32) &&& 31)) ||| (x.toInt8.toInt32 &&& (255 : Int32))) = (x &&& (65535 : Int32)) :=
  own_word x _ (by rw [c_iushr x 8 8 (by decide) (by decide)]; have := rng32 x; omega)
theorem own_law (p0 p1 p2 p3 : Int32) : F0 p0 p1 p2 p3 = 1 := by
  unfold F0 f0_m22 f0_m51 f0_m42 f0_m93 f0_m84 f0_m75
  simp only [own_b2]
  rw [if_pos (own_w p1), if_pos (own_w p2), if_pos (own_w p3)]
  rcases own_q p0 with h | h | h | h <;> rw [h] <;> decide
set_option maxRecDepth 65536 in
set_option maxHeartbeats 40000000 in
theorem comes_1 {Post : Tables → Env → Array Value → State → Outcome → State → Prop} (hpost : ∀ tb e args s v u, (limb_1_1.after args s (.returned v) u = true ∧ limb_1_2.after args s (.returned v) u = true ∧ True) → FrameEnd s (.returned v) u (Jvm.fieldLocs frame_1_writes args s ++ Jvm.arrayLocs frame_1_arrays args s ++ Jvm.staticLocs frame_1_statics s) 16 128 → Post tb e args s (.returned v) u) :
    ArmFor flags0 classFile x code maxLocals ret World_1 tables_1 room_1 Calls_1 rest_1 Pre_1 Post := by
  intro l hfl _ _ p e ha hc hk s m args below hf hA hF happ hP
  obtain ⟨hcalls, hrest, hpre⟩ := hP
  obtain ⟨-, -, -, hnamed, -, -, -, hat⟩ := (Spec.applies_iff hf).mp happ
  obtain ⟨hg, hn⟩ := and_e (Cond.before_iff.mp (show (Jvm.Cond.and given_1 narrow_1).before args s = true from hpre))
  obtain ⟨hcount, g0⟩ := and_e hg
  obtain ⟨ga0, g1⟩ := and_e g0
  obtain ⟨ga1, g2⟩ := and_e g1
  obtain ⟨ga2, g3⟩ := and_e g2
  obtain ⟨w0, w1, w2, w3, rfl⟩ : ∃ w0 w1 w2 w3 : Value, args = #[w0, w1, w2, w3] := by
    have hs : args.size = 4 := by simpa [Cond.value, given_1] using hcount
    obtain ⟨L⟩ := args
    match L, hs with
    | [w0, w1, w2, w3], _ => exact ⟨w0, w1, w2, w3, rfl⟩
  have hw := fun d (hd : d ∈ tables_1) => atoms_spec (ws := Jvm.Cond.code x code maxLocals ret :: tables_1) hat d (List.mem_cons_of_mem _ hd)
  obtain ⟨i0, ei0⟩ := is_v ga0
  obtain rfl : w0 = (.int i0) := Option.some.inj ei0
  obtain ⟨i1, ei1⟩ := is_v ga1
  obtain rfl : w1 = (.int i1) := Option.some.inj ei1
  obtain ⟨i2, ei2⟩ := is_v ga2
  obtain rfl : w2 = (.int i2) := Option.some.inj ei2
  obtain ⟨i3, ei3⟩ := is_v g3
  obtain rfl : w3 = (.int i3) := Option.some.inj ei3
  obtain ⟨n, o, h1, h2, h3, _, L, rfl, ⟨rfl, N⟩, hq⟩ := rm0 l s _ hw tables_1 i0 i1 i2 i3 s.heap s.heap.size (Nat.le_refl _) p e ha hc hk s m _ below hf ((Spec.applies_iff_loose hf).mp happ).1 ⟨rfl, State.Warmed39.refl s, rfl⟩ trivial
  have hlaw := own_law i0 i1 i2 i3
  refine ⟨n, _, h1, h2, h3, hpost _ _ _ _ _ _ ⟨Cond.after_iff.mpr rfl, Cond.after_iff.mpr (eq_i res_at (Term.int_eval (1)) (congrArg Value.int hlaw)), trivial⟩ ⟨hq.1, hq.2.1, (hq.2.2.sift fun y hy => Or.inr (N y hy)).mono (by decide) (by decide)⟩⟩
theorem main_1_1 : Claimed_1_1 := comes_1 fun _ _ _ _ _ _ h hF => ⟨h.1, hF⟩
theorem main_1_2 : Claimed_1_2 := comes_1 fun _ _ _ _ _ _ h hF => ⟨h.2.1, hF⟩
end Jvm.Pilot.@@N@@
namespace Jvm.Pilot.@@N@@
open Jvm Jvm.ClassFile Sem Op Lib Jvm.Free Jvm.Stand Jvm.Pilot.@@N@@.Jvm.D
/-! MADE BY PROGRAM (witnessworld.py) out of the Statement's table words and the real class files: 9 classes; the members and pool entries that the words name. The judged class is class 1, her method 1. -/
namespace start1
open Jvm.ClassFile
def u (s : String) : CpInfo := .utf8 (stringToUtf16 s)
/-- a pool by its gaps: so many unusable entries, then the entry; so many at the end -/
def gap : Nat → List CpInfo → List CpInfo
  | 0, r => r
  | n + 1, r => .unusable :: gap n r
def poolList (es : List (Nat × CpInfo)) (last : Nat) : List CpInfo := es.foldr (fun e r => gap e.1 (e.2 :: r)) (gap last [])
def pool (es : List (Nat × CpInfo)) (last : Nat) : Array CpInfo := ⟨poolList es last⟩
def fileOf (pool : Array CpInfo) (this : Nat) (attrs : Array Attribute := #[]) (ms : Array MethodInfo := #[]) (fl : Nat := 33) (sup : Nat := 0) (ifs : Array Nat := #[]) (fds : Array FieldInfo := #[]) : ClassFile where
  minorVersion := 0
  majorVersion := 65
  constantPool := pool
  accessFlags := fl
  thisClass := this
  superClass := sup
  interfaces := ifs
  fields := fds
  methods := ms
  attributes := attrs
def plain (name : String) (sup : Option ClassId) : Class where
  name := name
  kind := .ordinary
  loader := none
  accessFlags := 33
  super := sup
  interfaces := #[]
  cf := none
  fields := #[]
  methods := #[]
  instanceTypes := #[]
  staticTypes := #[]
  resolved := #[]
  callSites := []
  init := .initialized
  statics := none
  mirror := none

def pool0 : Array CpInfo := pool [(5, u "<init>"), (0, u "()V"), (1, .class_ 10), (1, u "java/lang/Object")] 113

def k0m0 : Method := { name := "<init>", desc := "()V", sig := { parameters := [], returnType := none }, accessFlags := 1, code := none }
/-- java/lang/Object -/
def k0 : Class := { plain "java/lang/Object" none with
  accessFlags := 33
  interfaces := #[]
  cf := some (fileOf pool0 8 #[] #[{ accessFlags := 1, nameIndex := 5, descriptorIndex := 6, attributes := #[] }] 33 0 #[] #[])
  fields := #[]
  methods := #[k0m0]
  instanceTypes := #[]
  staticTypes := #[]
  resolved := Array.replicate 124 none
  statics := none }

def pool1 : Array CpInfo := pool [(2, .class_ 4), (1, u "java/lang/Object"), (0, u "<init>"), (0, u "()V"), (0, .methodref 8 9), (0, .class_ 10), (0, .nameAndType 11 12), (0, u "com/example/cardwarden/cardwarden/core/fs/FilePath"), (0, u "fileIds"), (0, u "([B)[I"), (0, .integer 65535), (0, .class_ 15), (0, u "com/example/cardwarden/cardwarden/core/fs/FilePathFileIdsPinLaw"), (2, u "law"), (0, u "(IIII)Z")] 7

def k1m0 : Method := { name := "<init>", desc := "()V", sig := { parameters := [], returnType := none }, accessFlags := 2, code := none }
def k1c1 : Code := { maxStack := 4, maxLocals := 8, code := code, exceptionTable := #[], attributes := #[] }
def k1m1 : Method := { name := "law", desc := "(IIII)Z", sig := { parameters := [.int, .int, .int, .int], returnType := some .boolean }, accessFlags := 9, code := some k1c1 }
/-- com/example/cardwarden/cardwarden/core/fs/FilePathFileIdsPinLaw -/
def k1 : Class := { plain "com/example/cardwarden/cardwarden/core/fs/FilePathFileIdsPinLaw" (some 0) with
  accessFlags := 49
  interfaces := #[]
  cf := some (fileOf pool1 14 #[] #[{ accessFlags := 2, nameIndex := 5, descriptorIndex := 6, attributes := #[] }, { accessFlags := 9, nameIndex := 18, descriptorIndex := 19, attributes := #[] }] 49 2 #[] #[])
  fields := #[]
  methods := #[k1m0, k1m1]
  instanceTypes := #[]
  staticTypes := #[]
  resolved := Array.replicate 27 none
  statics := none }

def pool2 : Array CpInfo := pool [(2, .class_ 4), (1, u "java/lang/Object"), (3, .class_ 10), (1, u "com/example/cardwarden/cardwarden/core/fs/FilePath"), (0, u "ids"), (0, u "Ljava/util/List;"), (21, u "MF"), (0, u "Lcom/example/cardwarden/cardwarden/core/fs/FilePath;"), (38, u "RESERVED_IDS"), (0, u "Ljava/util/Set;"), (104, u "MF_ID"), (0, u "I"), (4, u "ID_DIGITS"), (1, u "ID_BYTES"), (12, u "fileIds"), (0, u "([B)[I")] 32

def k2c0 : Code := { maxStack := 6, maxLocals := 3, code := prog_27_method_5_code, exceptionTable := #[], attributes := #[] }
def k2m0 : Method := { name := "fileIds", desc := "([B)[I", sig := { parameters := [(.array .byte)], returnType := some (.array .int) }, accessFlags := 9, code := some k2c0 }
/-- com/example/cardwarden/cardwarden/core/fs/FilePath -/
def k2 : Class := { plain "com/example/cardwarden/cardwarden/core/fs/FilePath" (some 0) with
  accessFlags := 49
  interfaces := #[]
  cf := some (fileOf pool2 8 #[] #[{ accessFlags := 9, nameIndex := 201, descriptorIndex := 202, attributes := #[] }] 49 2 #[] #[{ accessFlags := 26, nameIndex := 180, descriptorIndex := 181, attributes := #[] }, { accessFlags := 25, nameIndex := 34, descriptorIndex := 35, attributes := #[] }, { accessFlags := 26, nameIndex := 74, descriptorIndex := 75, attributes := #[] }, { accessFlags := 26, nameIndex := 186, descriptorIndex := 181, attributes := #[] }, { accessFlags := 26, nameIndex := 188, descriptorIndex := 181, attributes := #[] }, { accessFlags := 18, nameIndex := 11, descriptorIndex := 12, attributes := #[] }])
  fields := #[{ name := "MF_ID", type := .int, accessFlags := 26, slot := 0, constantValue := 0 }, { name := "MF", type := (.object "com/example/cardwarden/cardwarden/core/fs/FilePath"), accessFlags := 25, slot := 1, constantValue := 0 }, { name := "RESERVED_IDS", type := (.object "java/util/Set"), accessFlags := 26, slot := 2, constantValue := 0 }, { name := "ID_DIGITS", type := .int, accessFlags := 26, slot := 3, constantValue := 0 }, { name := "ID_BYTES", type := .int, accessFlags := 26, slot := 4, constantValue := 0 }, { name := "ids", type := (.object "java/util/List"), accessFlags := 18, slot := 0, constantValue := 0 }]
  methods := #[k2m0]
  instanceTypes := #[(.object "java/util/List")]
  staticTypes := #[.int, (.object "com/example/cardwarden/cardwarden/core/fs/FilePath"), (.object "java/util/Set"), .int, .int]
  resolved := Array.replicate 235 none
  statics := none }

def pool3 : Array CpInfo := pool [(1, u "java/lang/Cloneable"), (0, .class_ 1), (0, u "java/lang/Object"), (0, .class_ 3)] 3

/-- java/lang/Cloneable -/
def k3 : Class := { plain "java/lang/Cloneable" (some 0) with
  accessFlags := 1537
  interfaces := #[]
  cf := some (fileOf pool3 2 #[] #[] 1537 4 #[] #[])
  fields := #[]
  methods := #[]
  instanceTypes := #[]
  staticTypes := #[]
  resolved := Array.replicate 8 none
  statics := none }

def pool4 : Array CpInfo := pool [(1, u "java/io/Serializable"), (0, .class_ 1), (0, u "java/lang/Object"), (0, .class_ 3)] 3

/-- java/io/Serializable -/
def k4 : Class := { plain "java/io/Serializable" (some 0) with
  accessFlags := 1537
  interfaces := #[]
  cf := some (fileOf pool4 2 #[] #[] 1537 4 #[] #[])
  fields := #[]
  methods := #[]
  instanceTypes := #[]
  staticTypes := #[]
  resolved := Array.replicate 8 none
  statics := none }

/-- the primitive byte -/
def k5 : Class := { plain "byte" none with kind := .primitive 'B', accessFlags := 0x411 }
/-- [B -/
def k6 : Class := { plain "[B" (some 0) with kind := .array 5 .byte, interfaces := #[3, 4], accessFlags := 1041 }

/-- the primitive int -/
def k7 : Class := { plain "int" none with kind := .primitive 'I', accessFlags := 0x411 }
/-- [I -/
def k8 : Class := { plain "[I" (some 0) with kind := .array 7 .int, interfaces := #[3, 4], accessFlags := 1041 }

def heap : Heap := #[]
def classes : Array Class := #[k0, k1, k2, k3, k4, k5, k6, k7, k8]
def interned : List (Array UInt16 × Addr) := []
def slotsUsed : Nat := 0
def theMethod : MethodId := ⟨1, 1⟩
def args0 : Array Value := #[.int 7, .int 7, .int 7, .int 7]
def aboutOver (below : List Frame) : State where
  vm := { classes := classes, interned := interned.toArray }
  heap := heap
  slotsUsed := slotsUsed
  threads := #[{ frames := .invoking theMethod args0 :: below }]
def below0 : List Frame := [.native { method := ⟨0, 0⟩, args := #[] }]
def about1 : State := aboutOver below0
def p0 : Program := .bare "" "" ""
def e0 : Env := launch0.env 0 0 0
theorem w_frames : about1.frames = Frame.invoking theMethod args0 :: below0 := rfl
set_option maxRecDepth 65536 in
theorem w_args : argsFit about1.vm theMethod args0 = true := by decide +kernel
set_option maxRecDepth 65536 in
theorem w_heap : heapFits about1 = true := by decide +kernel
set_option maxRecDepth 65536 in
theorem w_runnable : about1.curStatus? = some .runnable := by decide +kernel
set_option maxRecDepth 65536 in
theorem w_alone : about1.alone = true := by decide +kernel
set_option maxRecDepth 65536 in
theorem w_named : about1.methodNamed? x = some theMethod := by decide +kernel
set_option maxRecDepth 65536 in
theorem w_hears : about1.hears theMethod below0 = true := by decide +kernel
set_option maxRecDepth 65536 in
theorem w_ripe : about1.ripe theMethod args0 below0 = true := by decide +kernel
theorem w_running : about1.status = .running := rfl
set_option maxRecDepth 65536 in
theorem w_room : about1.hasRoom e0.platform room_1 = true :=
  launch0.hasRoom_least _ room_1 (by decide +kernel) (by decide +kernel) (by decide +kernel) (by decide +kernel) (by decide +kernel) (by decide +kernel)
theorem allAtoms_all (ts : List Jvm.Cond) (a : Array Jvm.Value) (st : Jvm.State) : (allAtoms ts).before a st = ts.all (fun c => c.before a st) := by
  induction ts with
  | nil => rfl
  | cons c t ih =>
    show (Jvm.Cond.and c (allAtoms t)).before a st = _
    rw [Jvm.Cond.before_and, ih, List.all_cons]
def words1 : List Jvm.Cond := Jvm.Cond.code x code maxLocals ret :: tables_1
/-- a 'code' word, met by the world's own term for the bytes: nothing is compared byte by byte -/
theorem code_word {y : MethodName} {bytes : ByteArray} {mx : Nat} {rt : Option FieldType} {a : Array Value} {s : State} {m : MethodId} {meth : Method} {c : Code} (h1 : s.methodNamed? y = some m) (h2 : s.vm.method? m = some meth) (h3 : meth.code = some c) (h4 : c.code = bytes)
    (h5 : (c.maxLocals == mx && c.exceptionTable.isEmpty && decide (c.maxStack ≤ mostOperands) && decide (meth.sig.returnType = rt) && !meth.locks && decide (parseMethodDescriptor y.desc = some meth.sig)) = true) : (Jvm.Cond.code y bytes mx rt).before a s = true := by
  simp only [Bool.and_eq_true, beq_iff_eq, Bool.not_eq_true', decide_eq_true_eq] at h5
  obtain ⟨⟨⟨⟨⟨g1, g2⟩, g3⟩, g4⟩, g5⟩, g6⟩ := h5
  simp [Cond.before, Cond.holds, Cond.value, h1, h2, h3, h4, g1, g2, g3, g4, g5, g6]
def isCode : Jvm.Cond → Bool
  | .code _ _ _ _ => true
  | _ => false
theorem all_split {L : List Jvm.Cond} {P : Jvm.Cond → Bool} (h1 : L.all (fun c => isCode c || P c) = true) (h2 : ∀ c ∈ L.filter isCode, P c = true) : L.all P = true := by
  refine List.all_eq_true.mpr fun c hc => ?_
  have h := List.all_eq_true.mp h1 c hc
  rcases Bool.eq_false_or_eq_true (isCode c) with hi | hi
  · exact h2 c (List.mem_filter.mpr ⟨hc, hi⟩)
  · simpa [hi] using h
set_option maxRecDepth 65536 in
theorem w_c0 : (Jvm.Cond.code x code maxLocals ret).before args0 about1 = true := code_word (m := ⟨1, 1⟩) (meth := k1m1) (c := k1c1) (by decide +kernel) rfl rfl rfl (by decide +kernel)
set_option maxRecDepth 65536 in
theorem w_c1 : (Jvm.Cond.code ({ cls := "com/example/cardwarden/cardwarden/core/fs/FilePath", name := "fileIds", desc := "([B)[I" } : Jvm.MethodName) prog_27_method_5_code (3 : Nat) (Option.some (Jvm.ClassFile.FieldType.array Jvm.ClassFile.FieldType.int))).before args0 about1 = true := code_word (m := ⟨2, 0⟩) (meth := k2m0) (c := k2c0) (by decide +kernel) rfl rfl rfl (by decide +kernel)
def codes1 : List Jvm.Cond := [Jvm.Cond.code x code maxLocals ret, Jvm.Cond.code ({ cls := "com/example/cardwarden/cardwarden/core/fs/FilePath", name := "fileIds", desc := "([B)[I" } : Jvm.MethodName) prog_27_method_5_code (3 : Nat) (Option.some (Jvm.ClassFile.FieldType.array Jvm.ClassFile.FieldType.int))]
set_option maxRecDepth 65536 in
theorem codes_eq : words1.filter isCode = codes1 := rfl
theorem w_codes : ∀ c ∈ words1.filter isCode, c.before args0 about1 = true := by
  rw [codes_eq]
  intro c hc
  simp only [codes1, List.mem_cons, List.not_mem_nil, or_false] at hc
  rcases hc with rfl | rfl
  · exact w_c0
  · exact w_c1
set_option maxRecDepth 65536 in
theorem w_t1 : words1.all (fun c => isCode c || c.before args0 about1) = true := by decide +kernel
theorem w_tables : (allAtoms (Jvm.Cond.code x code maxLocals ret :: tables_1)).before args0 about1 = true := by
  rw [allAtoms_all]
  show words1.all (fun c => c.before args0 about1) = true
  refine all_split ?_ w_codes
  rw [w_t1]
set_option maxRecDepth 65536 in
theorem w_case : (Jvm.Cond.and given_1 narrow_1).before args0 about1 = true := by decide +kernel
theorem w_applies : (headSpec (Jvm.Cond.code x code maxLocals ret :: tables_1) room_1).applies x e0.platform about1 = true :=
  (Spec.applies_iff w_frames).mpr ⟨w_running, w_runnable, w_alone, w_named, w_hears, w_ripe, w_room, w_tables⟩
theorem atStart : AtStart classFile x code maxLocals ret World_1 tables_1 room_1 Calls_1 rest_1 Pre_1 launch0 p0 e0 about1 theMethod args0 below0 :=
  ⟨lists_1, trivial, launch0.admits_env _ _ _, launch0.least_env, fairChoices_fair.cas, fairChoices_fair.clock, w_frames, w_args, w_heap, w_applies, trivial, trivial, w_case⟩
end start1
theorem witness_1 : WitnessClaimed_1 := ⟨start1.p0, start1.e0, start1.about1, start1.theMethod, start1.args0, start1.below0, start1.atStart⟩
end Jvm.Pilot.@@N@@
