import JvmDerived
import JvmDerived.Pilot.@@N@@Statement
import JvmDerived.Pilot.@@N@@Code
set_option linter.unusedVariables false
set_option linter.unusedSimpArgs false
namespace Jvm.RoadKit
open Sem ClassFile Op Lib Jvm.Stand Jvm.Free Jvm.LawKit
section New
variable {p : Program} {l : Launch} {e : Env} {R : Room} {s : State} {m : MethodId} {args : Array Value} {below : List Frame} {meth : Method} {c : Code} {T : State} {locs : List Loc} {cells slots : Nat}
theorem retI (X : Stand p l e R s m args below meth c T locs cells slots) (hx : p.tables.exec = Jvm.exec) {pc : Nat} {Ls : Array Slot} {z : Int32} {rest : List Value} (hret : meth.sig.returnType = some .int) (hd : decode c.code pc = .ok (.ireturn, 1)) {fs : List Frame}
    (hl : ∀ (f : JFrame) (acts : List Action), f.method = m → f.locked = none → f.entered = [] → (doReturn e (T.setTop f) acts (some (.int z))).1 = T.setFrames fs) : Steps p.tables e below (T.setTop (mkF m pc Ls (.int z :: rest))) (T.setFrames fs) := by
  have hm' : T.vm.method? m = some meth := X.method'
  have hn : narrow .int (.int z) = .int z := rfl
  show Steps p.tables e below (T.setTop { method := m, pc := pc, locals := Ls, stack := _ :: rest, locked := none }) _
  jvm_step X.here [X.here.top, hx, hd, hm', hret, hn]
  first | (intro acts; rw [hl _ acts rfl rfl rfl]) | rw [hl _ _ rfl rfl rfl]
  exact Steps.refl _
end New
end Jvm.RoadKit
namespace Jvm.Pilot.@@N@@
open Jvm Jvm.ClassFile Sem Op Lib Jvm.Free Jvm.Stand Jvm.LawKit Jvm.RoadKit Bundle Jvm.Pilot.@@N@@.Jvm.D
theorem d3_0 : decode jdk_22_method_1_code 0 = .ok (.aload_n 0, 1) := by decide +kernel
theorem d3_1 : decode jdk_22_method_1_code 1 = .ok (.invokespecial 1, 3) := by decide +kernel
theorem d3_4 : decode jdk_22_method_1_code 4 = .ok (.return_, 1) := by decide +kernel
theorem d2_0 : decode jdk_39_method_1_code 0 = .ok (.aload_n 0, 1) := by decide +kernel
theorem d2_1 : decode jdk_39_method_1_code 1 = .ok (.invokespecial 1, 3) := by decide +kernel
theorem pd0 : parseMethodDescriptor "()V" = some ⟨[], none⟩ := by decide +kernel
theorem d2_4 : decode jdk_39_method_1_code 4 = .ok (.aload_n 0, 1) := by decide +kernel
theorem d2_5 : decode jdk_39_method_1_code 5 = .ok (.iconst 0, 1) := by decide +kernel
theorem d2_6 : decode jdk_39_method_1_code 6 = .ok (.putfield 7, 3) := by decide +kernel
theorem d2_9 : decode jdk_39_method_1_code 9 = .ok (.return_, 1) := by decide +kernel
theorem d1_0 : decode jdk_38_method_2_code 0 = .ok (.aload_n 0, 1) := by decide +kernel
theorem d1_1 : decode jdk_38_method_2_code 1 = .ok (.invokespecial 1, 3) := by decide +kernel
theorem d1_4 : decode jdk_38_method_2_code 4 = .ok (.aload_n 0, 1) := by decide +kernel
theorem d1_5 : decode jdk_38_method_2_code 5 = .ok (.getstatic 39, 3) := by decide +kernel
theorem d1_8 : decode jdk_38_method_2_code 8 = .ok (.putfield 9, 3) := by decide +kernel
theorem d1_11 : decode jdk_38_method_2_code 11 = .ok (.return_, 1) := by decide +kernel
theorem d6_0 : decode jdk_30_method_1_code 0 = .ok (.aload_n 0, 1) := by decide +kernel
theorem d6_1 : decode jdk_30_method_1_code 1 = .ok (.invokespecial 1, 3) := by decide +kernel
theorem d6_4 : decode jdk_30_method_1_code 4 = .ok (.return_, 1) := by decide +kernel
theorem d5_0 : decode prog_16_method_1_code 0 = .ok (.aload_n 0, 1) := by decide +kernel
theorem d5_1 : decode prog_16_method_1_code 1 = .ok (.invokespecial 1, 3) := by decide +kernel
theorem d5_4 : decode prog_16_method_1_code 4 = .ok (.aload_n 0, 1) := by decide +kernel
theorem d5_5 : decode prog_16_method_1_code 5 = .ok (.aload_n 1, 1) := by decide +kernel
theorem d5_6 : decode prog_16_method_1_code 6 = .ok (.putfield 7, 3) := by decide +kernel
theorem d5_9 : decode prog_16_method_1_code 9 = .ok (.aload_n 0, 1) := by decide +kernel
theorem d5_10 : decode prog_16_method_1_code 10 = .ok (.aload_n 2, 1) := by decide +kernel
theorem d5_11 : decode prog_16_method_1_code 11 = .ok (.putfield 13, 3) := by decide +kernel
theorem d5_14 : decode prog_16_method_1_code 14 = .ok (.aload_n 0, 1) := by decide +kernel
theorem d5_15 : decode prog_16_method_1_code 15 = .ok (.aload_n 3, 1) := by decide +kernel
theorem d5_16 : decode prog_16_method_1_code 16 = .ok (.putfield 17, 3) := by decide +kernel
theorem d5_19 : decode prog_16_method_1_code 19 = .ok (.aload_n 0, 1) := by decide +kernel
theorem d5_20 : decode prog_16_method_1_code 20 = .ok (.iload 4, 2) := by decide +kernel
theorem d5_22 : decode prog_16_method_1_code 22 = .ok (.putfield 21, 3) := by decide +kernel
theorem d5_25 : decode prog_16_method_1_code 25 = .ok (.return_, 1) := by decide +kernel
theorem d7_0 : decode prog_16_method_3_code 0 = .ok (.iload_n 0, 1) := by decide +kernel
theorem d7_1 : decode prog_16_method_3_code 1 = .ok (.ifCond .eq 7, 3) := by decide +kernel
theorem d7_8 : decode prog_16_method_3_code 8 = .ok (.iconst 0, 1) := by decide +kernel
theorem d7_4 : decode prog_16_method_3_code 4 = .ok (.iconst 1, 1) := by decide +kernel
theorem d7_5 : decode prog_16_method_3_code 5 = .ok (.goto 4, 3) := by decide +kernel
theorem d7_9 : decode prog_16_method_3_code 9 = .ok (.iload_n 1, 1) := by decide +kernel
theorem d7_10 : decode prog_16_method_3_code 10 = .ok (.ifCond .eq 7, 3) := by decide +kernel
theorem d7_17 : decode prog_16_method_3_code 17 = .ok (.iconst 0, 1) := by decide +kernel
theorem d7_13 : decode prog_16_method_3_code 13 = .ok (.iconst 2, 1) := by decide +kernel
theorem d7_14 : decode prog_16_method_3_code 14 = .ok (.goto 4, 3) := by decide +kernel
theorem d7_18 : decode prog_16_method_3_code 18 = .ok (.ior, 1) := by decide +kernel
theorem d7_19 : decode prog_16_method_3_code 19 = .ok (.ireturn, 1) := by decide +kernel
theorem d8_0 : decode prog_16_method_7_code 0 = .ok (.aload_n 0, 1) := by decide +kernel
theorem d8_1 : decode prog_16_method_7_code 1 = .ok (.getfield 21, 3) := by decide +kernel
theorem d8_4 : decode prog_16_method_7_code 4 = .ok (.iconst 1, 1) := by decide +kernel
theorem d8_5 : decode prog_16_method_7_code 5 = .ok (.iand, 1) := by decide +kernel
theorem d8_6 : decode prog_16_method_7_code 6 = .ok (.ifCond .eq 7, 3) := by decide +kernel
theorem d8_13 : decode prog_16_method_7_code 13 = .ok (.iconst 0, 1) := by decide +kernel
theorem d8_14 : decode prog_16_method_7_code 14 = .ok (.ireturn, 1) := by decide +kernel
theorem d8_9 : decode prog_16_method_7_code 9 = .ok (.iconst 1, 1) := by decide +kernel
theorem d8_10 : decode prog_16_method_7_code 10 = .ok (.goto 4, 3) := by decide +kernel
theorem pd1 : parseMethodDescriptor "(Ljava/lang/String;[BLjava/util/List;I)V" = some ⟨[(.object "java/lang/String"), (.array .byte), (.object "java/util/List"), .int], none⟩ := by decide +kernel
theorem pd2 : parseMethodDescriptor "(ZZ)I" = some ⟨[.boolean, .boolean], some .int⟩ := by decide +kernel
theorem pd3 : parseMethodDescriptor "()Z" = some ⟨[], some .boolean⟩ := by decide +kernel
theorem pn0 : plainName "java/util/AbstractCollection" = true := by first | (simp [plainName, overriddenIn]; done) | decide +kernel
theorem pn1 : plainName "java/util/AbstractList" = true := by first | (simp [plainName, overriddenIn]; done) | decide +kernel
theorem pn2 : plainName "java/util/ArrayList" = true := by first | (simp [plainName, overriddenIn]; done) | decide +kernel
theorem pn3 : plainName "java/lang/Record" = true := by first | (simp [plainName, overriddenIn]; done) | decide +kernel
theorem pn4 : plainName "com/example/panchayat/panchayat/protocol/CreateRequest" = true := by first | (simp [plainName, overriddenIn]; done) | decide +kernel
theorem pn5 : plainName "com/example/panchayat/panchayat/protocol/CreateRequestIsEphemeralPinLaw" = true := by first | (simp [plainName, overriddenIn]; done) | decide +kernel
theorem ef3 (m : MethodId) (x0 : Addr) : entryFrame m #[(.ref x0)] 1 = mkF m 0 #[.val (.ref x0)] [] := by first | (simp [entryFrame, mkF, argsToLocals, Value.category]; done) | rfl
def Q3 (Z : State) (a0 : Addr) (h0 : Heap) (n0 : Nat) (v : Option Value) (h : Heap) (L : List Loc) : Prop := v = none ∧ Fr n0 L ∧ h = h0
set_option maxRecDepth 65536 in
set_option maxHeartbeats 40000000 in
theorem rm3 (l : Launch) (Z : State) (a0' : Array Value) (hw : ∀ d ∈ tables_1, d.before a0' Z = true) (ws : List Jvm.Cond) (a0 : Addr) (h0 : Heap) (n0 : Nat) (Z0 : n0 ≤ h0.size) :
    MetFree l (⟨"java/util/AbstractCollection", "<init>", "()V"⟩ : MethodName) (head1 (Jvm.Cond.code (⟨"java/util/AbstractCollection", "<init>", "()V"⟩ : MethodName) jdk_22_method_1_code 1 none :: ws) ({ frames := 1, cells := 0, slots := 0, locals := 12 } : Room)) (fun a U => a = #[(.ref a0)] ∧ Z.Warmed39 U.vm ∧ U.heap = h0) (fun _ _ _ _ _ => True) (fun _ U o U' => ∃ v L, o = .returned v ∧ Q3 Z a0 h0 n0 v U'.heap L ∧ FrameEnd U o U' L ({ frames := 1, cells := 0, slots := 0, locals := 12 } : Room).cells ({ frames := 1, cells := 0, slots := 0, locals := 12 } : Room).slots) := by
  refine MetFree.of_bodySF (plainFor_of_name pn0) hisR ?_
  intro p e s m args below meth c s₁ Bd hml0 hP hK
  obtain ⟨rfl, hZ, hh⟩ := hP
  have hx := Bd.exec
  have hby := Bd.bytes
  have hml : c.maxLocals = 1 := hml0
  have hown : s.vm.findClass "java/util/AbstractCollection" = some m.cls := findClass_of_methodNamed Bd.named
  have hnm := (name_of_methodNamed Bd.named Bd.method).1
  have X0 : Stand p l e ({ frames := 1, cells := 0, slots := 0, locals := 12 } : Room) s m #[(.ref a0)] below meth c s₁ [] 0 0 := Stand.of_body Bd
  have e0 : s₁.heap = h0 := by rw [← hh, Bd.state]; rfl
  have N0 := Fr.nil n0
  have pre0 : ∀ t, Steps p.tables e below (s₁.setTop (mkF m 0 #[.val (.ref a0)] [])) t → Steps p.tables e below (s₁.setTop (entryFrame m #[(.ref a0)] 1)) t := fun t k => castTop (ef3 m a0) k
  obtain ⟨T1, X1, e1, st1⟩ := initO X0 hx hZ hown (hw _ (List.mem_of_getElem? (i := 21) rfl)) (hw _ (List.mem_of_getElem? (i := 22) rfl)) (hw _ (List.mem_of_getElem? (i := 23) rfl)) e0 (g := (mkF m 1 #[.val (.ref a0)] [(.ref a0)])) rfl (by rw [hml]; rfl) rfl (hb hby d3_1) (by decide) (W := 0) (by show 2 * 0 + _ ≤ _; exact Nat.le_of_eq rfl) (by decide)
  have pre2 : ∀ t, Steps p.tables e below (T1.setTop (mkF m 4 #[.val (.ref a0)] [])) t → Steps p.tables e below (s₁.setTop (entryFrame m #[(.ref a0)] 1)) t := fun t k => pre0 t (by
    show Steps p.tables e below (s₁.setTop (mkF m 0 #[.val (.ref a0)] [])) _
    refine XS.aloadN X0.here hx rfl (hb hby d3_0) rfl rfl ?_
    show Steps p.tables e below (s₁.setTop (mkF m 1 #[.val (.ref a0)] [(.ref a0)])) _
    refine st1 _ ?_
    exact k)
  obtain ⟨fs, hr, hrun, hended, hW, hsame⟩ := X1.leave (v := none) (fun _ => rfl)
  exact ⟨_, _, pre2 _ (X1.returnOut hx Bd.returns (hb hby d3_4) hr), hrun, hended, _, _, rfl, ⟨rfl, N0, e1⟩, ⟨_, rfl⟩, hW, hsame.mono (by decide) (by decide)⟩
theorem ef2 (m : MethodId) (x0 : Addr) : entryFrame m #[(.ref x0)] 1 = mkF m 0 #[.val (.ref x0)] [] := by first | (simp [entryFrame, mkF, argsToLocals, Value.category]; done) | rfl
def Q2 (Z : State) (a0 : Addr) (wa0_modCount : Int32) (wa0_elementData : Value) (h0 : Heap) (n0 : Nat) (v : Option Value) (h : Heap) (L : List Loc) : Prop := v = none ∧ Fr n0 L ∧ Keep h0 h [a0] ∧ Exa Z h a0 "java/util/ArrayList" ∧ Fld Z h a0 "java/util/AbstractList" "modCount" "I" (.int (0 : Int32)) ∧ Fld Z h a0 "java/util/ArrayList" "elementData" "[Ljava/lang/Object;" wa0_elementData
set_option maxRecDepth 65536 in
set_option maxHeartbeats 40000000 in
theorem rm2 (l : Launch) (Z : State) (a0' : Array Value) (hw : ∀ d ∈ tables_1, d.before a0' Z = true) (ws : List Jvm.Cond) (a0 : Addr) (wa0_modCount : Int32) (wa0_elementData : Value) (h0 : Heap) (n0 : Nat) (Z0 : n0 ≤ h0.size) (E_a0 : Exa Z h0 a0 "java/util/ArrayList") (F_wa0_modCount : Fld Z h0 a0 "java/util/AbstractList" "modCount" "I" (.int wa0_modCount)) (F_wa0_elementData : Fld Z h0 a0 "java/util/ArrayList" "elementData" "[Ljava/lang/Object;" wa0_elementData) (g_a0 : n0 ≤ a0) :
    MetFree l (⟨"java/util/AbstractList", "<init>", "()V"⟩ : MethodName) (head1 (Jvm.Cond.code (⟨"java/util/AbstractList", "<init>", "()V"⟩ : MethodName) jdk_39_method_1_code 1 none :: ws) ({ frames := 2, cells := 0, slots := 0, locals := 24 } : Room)) (fun a U => a = #[(.ref a0)] ∧ Z.Warmed39 U.vm ∧ U.heap = h0) (fun _ _ _ _ _ => True) (fun _ U o U' => ∃ v L, o = .returned v ∧ Q2 Z a0 wa0_modCount wa0_elementData h0 n0 v U'.heap L ∧ FrameEnd U o U' L ({ frames := 2, cells := 0, slots := 0, locals := 24 } : Room).cells ({ frames := 2, cells := 0, slots := 0, locals := 24 } : Room).slots) := by
  refine MetFree.of_bodySF (plainFor_of_name pn1) hisR ?_
  intro p e s m args below meth c s₁ Bd hml0 hP hK
  obtain ⟨rfl, hZ, hh⟩ := hP
  have hx := Bd.exec
  have hby := Bd.bytes
  have hml : c.maxLocals = 1 := hml0
  have hown : s.vm.findClass "java/util/AbstractList" = some m.cls := findClass_of_methodNamed Bd.named
  have hnm := (name_of_methodNamed Bd.named Bd.method).1
  have X0 : Stand p l e ({ frames := 2, cells := 0, slots := 0, locals := 24 } : Room) s m #[(.ref a0)] below meth c s₁ [] 0 0 := Stand.of_body Bd
  have e0 : s₁.heap = h0 := by rw [← hh, Bd.state]; rfl
  have N0 := Fr.nil n0
  have pre0 : ∀ t, Steps p.tables e below (s₁.setTop (mkF m 0 #[.val (.ref a0)] [])) t → Steps p.tables e below (s₁.setTop (entryFrame m #[(.ref a0)] 1)) t := fun t k => castTop (ef2 m a0) k
  obtain ⟨_, _, ⟨T1, L1, k1, n1⟩, -, X1, ⟨Lc1, hQ1, l1, y1, z1⟩, st1⟩ := X0.specialBack hx (y := (⟨"java/util/AbstractCollection", "<init>", "()V"⟩ : MethodName)) rfl hown (mvT hZ (hw _ (List.mem_of_getElem? (i := 15) rfl))) (mvT hZ (hw _ (List.mem_of_getElem? (i := 16) rfl))) (mvT hZ (hw _ (List.mem_of_getElem? (i := 20) rfl))) (by decide) (backOf (W := 0) (rm3 l Z a0' hw [] a0 h0 n0 Z0) hZ (hw _ (List.mem_of_getElem? (i := 20) rfl)) (hw _ (List.mem_of_getElem? (i := 19) rfl)) (by decide) (by decide)) (g := (mkF m 1 #[.val (.ref a0)] [(.ref a0)])) rfl (by rw [hml]; rfl) (Steps.refl _) (a := a0) (argsL := []) (rest := []) (lenOf pd0 rfl) rfl (by show 2 * 0 + _ ≤ _; exact Nat.le_of_eq rfl) (hb hby d2_1) (fun _ _ => ⟨rfl, e0, (by decide : 0 + 0 ≤ _), (by decide : 0 + 0 ≤ _)⟩)
  dsimp only [Pt.U, Pt.locs, Pt.cells, Pt.slots] at X1 l1 y1 z1 st1 hQ1
  subst l1 y1 z1
  obtain ⟨rfl, N1q, e1⟩ := hQ1
  have N1 := Fr.app N0 N1q
  obtain ⟨T2, h2, X2, e2, W2, st2⟩ := putF X1 hx hZ hown (host := "") (Or.inl (hw _ (List.mem_of_getElem? (i := 24) rfl))) Via.refl e1 F_wa0_modCount E_a0 (Or.inl (hw _ (List.mem_of_getElem? (i := 25) rfl))) (hw _ (List.mem_of_getElem? (i := 4) rfl)) (ty := .int) (by decide) rfl rfl (g := (mkF m 6 #[.val (.ref a0)] [(.int (0 : Int32)), (.ref a0)])) rfl rfl (hb hby d2_6)
  have Z2 : n0 ≤ h2.size := Nat.le_trans Z0 (Keep.of_wr W2).1
  have N2 := Fr.snoc X2 N1 g_a0
  have KC2 : Keep h0 h2 [a0] := (Keep.refl h0 [a0]).wr W2 (Or.inl (List.mem_of_getElem? (i := 0) rfl))
  have Fw2 := F_wa0_modCount.same W2
  have pre3 : ∀ t, Steps p.tables e below (T2.setTop (mkF m 9 #[.val (.ref a0)] [])) t → Steps p.tables e below (s₁.setTop (entryFrame m #[(.ref a0)] 1)) t := fun t k => pre0 t (by
    show Steps p.tables e below (s₁.setTop (mkF m 0 #[.val (.ref a0)] [])) _
    refine XS.aloadN X0.here hx rfl (hb hby d2_0) rfl rfl ?_
    show Steps p.tables e below (s₁.setTop (mkF m 1 #[.val (.ref a0)] [(.ref a0)])) _
    refine st1.trans ?_
    show Steps p.tables e below (T1.setTop (mkF m 4 #[.val (.ref a0)] [])) _
    refine XS.aloadN X1.here hx rfl (hb hby d2_4) rfl rfl ?_
    show Steps p.tables e below (T1.setTop (mkF m 5 #[.val (.ref a0)] [(.ref a0)])) _
    refine XS.iconst X1.here hx rfl (hb hby d2_5) ?_
    show Steps p.tables e below (T1.setTop (mkF m 6 #[.val (.ref a0)] [(.int (0 : Int32)), (.ref a0)])) _
    refine st2 _ ?_
    exact k)
  obtain ⟨fs, hr, hrun, hended, hW, hsame⟩ := X2.leave (v := none) (fun _ => rfl)
  have y4 := (E_a0.wr W2)
  have y5 := (F_wa0_elementData.other W2 (Or.inr (slot_ne (Or.inl (hw _ (List.mem_of_getElem? (i := 28) rfl))) (Or.inl (hw _ (List.mem_of_getElem? (i := 25) rfl))) (by decide) (t := (.array (.object "java/lang/Object"))) (t' := .int) (by decide) (by decide))))
  exact ⟨_, _, pre3 _ (X2.returnOut hx Bd.returns (hb hby d2_9) hr), hrun, hended, _, _, rfl, (by show Q2 Z a0 wa0_modCount wa0_elementData h0 n0 _ T2.heap _; rw [e2]; exact ⟨rfl, N2, KC2, y4, Fw2, y5⟩), ⟨_, rfl⟩, hW, hsame.mono (by decide) (by decide)⟩
theorem ef1 (m : MethodId) (x0 : Addr) : entryFrame m #[(.ref x0)] 1 = mkF m 0 #[.val (.ref x0)] [] := by first | (simp [entryFrame, mkF, argsToLocals, Value.category]; done) | rfl
def Q1 (Z : State) (a0 : Addr) (wa0_modCount : Int32) (wa0_elementData : Value) (s_DEFAULTCAPACITY_EMPTY_ELEMENTDATA : Addr) (h0 : Heap) (n0 : Nat) (v : Option Value) (h : Heap) (L : List Loc) : Prop := v = none ∧ Fr n0 L ∧ Keep h0 h [a0] ∧ Exa Z h a0 "java/util/ArrayList" ∧ Fld Z h a0 "java/util/AbstractList" "modCount" "I" (.int (0 : Int32)) ∧ Fld Z h a0 "java/util/ArrayList" "elementData" "[Ljava/lang/Object;" (.ref s_DEFAULTCAPACITY_EMPTY_ELEMENTDATA)
set_option maxRecDepth 65536 in
set_option maxHeartbeats 40000000 in
theorem rm1 (l : Launch) (Z : State) (a0' : Array Value) (hw : ∀ d ∈ tables_1, d.before a0' Z = true) (ws : List Jvm.Cond) (a0 : Addr) (wa0_modCount : Int32) (wa0_elementData : Value) (s_DEFAULTCAPACITY_EMPTY_ELEMENTDATA : Addr) (h0 : Heap) (n0 : Nat) (Z0 : n0 ≤ h0.size) (E_a0 : Exa Z h0 a0 "java/util/ArrayList") (F_wa0_modCount : Fld Z h0 a0 "java/util/AbstractList" "modCount" "I" (.int wa0_modCount)) (F_wa0_elementData : Fld Z h0 a0 "java/util/ArrayList" "elementData" "[Ljava/lang/Object;" wa0_elementData) (g_a0 : n0 ≤ a0) (OLD0 : Old Z n0 h0) (S_s_DEFAULTCAPACITY_EMPTY_ELEMENTDATA : Sta Z Z.heap "java/util/ArrayList" "DEFAULTCAPACITY_EMPTY_ELEMENTDATA" "[Ljava/lang/Object;" (.ref s_DEFAULTCAPACITY_EMPTY_ELEMENTDATA)) :
    MetFree l (⟨"java/util/ArrayList", "<init>", "()V"⟩ : MethodName) (head1 (Jvm.Cond.code (⟨"java/util/ArrayList", "<init>", "()V"⟩ : MethodName) jdk_38_method_2_code 1 none :: ws) ({ frames := 3, cells := 0, slots := 0, locals := 36 } : Room)) (fun a U => a = #[(.ref a0)] ∧ Z.Warmed39 U.vm ∧ U.heap = h0) (fun _ _ _ _ _ => True) (fun _ U o U' => ∃ v L, o = .returned v ∧ Q1 Z a0 wa0_modCount wa0_elementData s_DEFAULTCAPACITY_EMPTY_ELEMENTDATA h0 n0 v U'.heap L ∧ FrameEnd U o U' L ({ frames := 3, cells := 0, slots := 0, locals := 36 } : Room).cells ({ frames := 3, cells := 0, slots := 0, locals := 36 } : Room).slots) := by
  refine MetFree.of_bodySF (plainFor_of_name pn2) hisR ?_
  intro p e s m args below meth c s₁ Bd hml0 hP hK
  obtain ⟨rfl, hZ, hh⟩ := hP
  have hx := Bd.exec
  have hby := Bd.bytes
  have hml : c.maxLocals = 1 := hml0
  have hown : s.vm.findClass "java/util/ArrayList" = some m.cls := findClass_of_methodNamed Bd.named
  have hnm := (name_of_methodNamed Bd.named Bd.method).1
  have X0 : Stand p l e ({ frames := 3, cells := 0, slots := 0, locals := 36 } : Room) s m #[(.ref a0)] below meth c s₁ [] 0 0 := Stand.of_body Bd
  have e0 : s₁.heap = h0 := by rw [← hh, Bd.state]; rfl
  have N0 := Fr.nil n0
  have pre0 : ∀ t, Steps p.tables e below (s₁.setTop (mkF m 0 #[.val (.ref a0)] [])) t → Steps p.tables e below (s₁.setTop (entryFrame m #[(.ref a0)] 1)) t := fun t k => castTop (ef1 m a0) k
  obtain ⟨_, _, ⟨T1, L1, k1, n1⟩, -, X1, ⟨Lc1, hQ1, l1, y1, z1⟩, st1⟩ := X0.specialBack hx (y := (⟨"java/util/AbstractList", "<init>", "()V"⟩ : MethodName)) rfl hown (mvT hZ (hw _ (List.mem_of_getElem? (i := 9) rfl))) (mvT hZ (hw _ (List.mem_of_getElem? (i := 10) rfl))) (mvT hZ (hw _ (List.mem_of_getElem? (i := 14) rfl))) (by decide) (backOf (W := 0) (rm2 l Z a0' hw [] a0 wa0_modCount wa0_elementData h0 n0 Z0 E_a0 F_wa0_modCount F_wa0_elementData g_a0) hZ (hw _ (List.mem_of_getElem? (i := 14) rfl)) (hw _ (List.mem_of_getElem? (i := 13) rfl)) (by decide) (by decide)) (g := (mkF m 1 #[.val (.ref a0)] [(.ref a0)])) rfl (by rw [hml]; rfl) (Steps.refl _) (a := a0) (argsL := []) (rest := []) (lenOf pd0 rfl) rfl (by show 2 * 0 + _ ≤ _; exact Nat.le_of_eq rfl) (hb hby d1_1) (fun _ _ => ⟨rfl, e0, (by decide : 0 + 0 ≤ _), (by decide : 0 + 0 ≤ _)⟩)
  dsimp only [Pt.U, Pt.locs, Pt.cells, Pt.slots] at X1 l1 y1 z1 st1 hQ1
  subst l1 y1 z1
  obtain ⟨rfl, N1q, K1, u1_0, u1_1, u1_2⟩ := hQ1
  have N1 := Fr.app N0 N1q
  have Z1 : n0 ≤ T1.heap.size := Nat.le_trans Z0 K1.1
  have KC1 : Keep h0 T1.heap [a0] := (Keep.refl h0 [a0]).trans K1 (allS (Or.inl (List.mem_of_getElem? (i := 0) rfl)) all0)
  have O1 : Old Z n0 T1.heap := OLD0.keep K1 (allS g_a0 all0)
  obtain ⟨T2, X2, e2, st2⟩ := getS2 X1 hx hZ hown (host := "") (Or.inl (hw _ (List.mem_of_getElem? (i := 26) rfl))) Via.refl rfl (S_s_DEFAULTCAPACITY_EMPTY_ELEMENTDATA.ext O1.2) (g := (mkF m 5 #[.val (.ref a0)] [(.ref a0)])) rfl (hb hby d1_5)
  obtain ⟨T3, h3, X3, e3, W3, st3⟩ := putF X2 hx hZ hown (host := "") (Or.inl (hw _ (List.mem_of_getElem? (i := 27) rfl))) Via.refl e2 u1_2 u1_0 (Or.inl (hw _ (List.mem_of_getElem? (i := 28) rfl))) (hw _ (List.mem_of_getElem? (i := 4) rfl)) (ty := (.array (.object "java/lang/Object"))) (by decide) rfl rfl (g := (mkF m 8 #[.val (.ref a0)] [(.ref s_DEFAULTCAPACITY_EMPTY_ELEMENTDATA), (.ref a0)])) rfl rfl (hb hby d1_8)
  have Z3 : n0 ≤ h3.size := Nat.le_trans Z1 (Keep.of_wr W3).1
  have N3 := Fr.snoc X3 N1 g_a0
  have KC3 : Keep h0 h3 [a0] := KC1.wr W3 (Or.inl (List.mem_of_getElem? (i := 0) rfl))
  have O3 : Old Z n0 h3 := O1.wr W3 g_a0
  have Fw3 := u1_2.same W3
  have pre4 : ∀ t, Steps p.tables e below (T3.setTop (mkF m 11 #[.val (.ref a0)] [])) t → Steps p.tables e below (s₁.setTop (entryFrame m #[(.ref a0)] 1)) t := fun t k => pre0 t (by
    show Steps p.tables e below (s₁.setTop (mkF m 0 #[.val (.ref a0)] [])) _
    refine XS.aloadN X0.here hx rfl (hb hby d1_0) rfl rfl ?_
    show Steps p.tables e below (s₁.setTop (mkF m 1 #[.val (.ref a0)] [(.ref a0)])) _
    refine st1.trans ?_
    show Steps p.tables e below (T1.setTop (mkF m 4 #[.val (.ref a0)] [])) _
    refine XS.aloadN X1.here hx rfl (hb hby d1_4) rfl rfl ?_
    show Steps p.tables e below (T1.setTop (mkF m 5 #[.val (.ref a0)] [(.ref a0)])) _
    refine st2 _ ?_
    show Steps p.tables e below (T2.setTop (mkF m 8 #[.val (.ref a0)] [(.ref s_DEFAULTCAPACITY_EMPTY_ELEMENTDATA), (.ref a0)])) _
    refine st3 _ ?_
    exact k)
  obtain ⟨fs, hr, hrun, hended, hW, hsame⟩ := X3.leave (v := none) (fun _ => rfl)
  have y5 := (u1_0.wr W3)
  have y6 := (u1_1.other W3 (Or.inr (slot_ne (Or.inl (hw _ (List.mem_of_getElem? (i := 25) rfl))) (Or.inl (hw _ (List.mem_of_getElem? (i := 28) rfl))) (by decide) (t := .int) (t' := (.array (.object "java/lang/Object"))) (by decide) (by decide))))
  exact ⟨_, _, pre4 _ (X3.returnOut hx Bd.returns (hb hby d1_11) hr), hrun, hended, _, _, rfl, (by show Q1 Z a0 wa0_modCount wa0_elementData s_DEFAULTCAPACITY_EMPTY_ELEMENTDATA h0 n0 _ T3.heap _; rw [e3]; exact ⟨rfl, N3, KC3, y5, y6, Fw3⟩), ⟨_, rfl⟩, hW, hsame.mono (by decide) (by decide)⟩
theorem ef6 (m : MethodId) (x0 : Addr) : entryFrame m #[(.ref x0)] 1 = mkF m 0 #[.val (.ref x0)] [] := by first | (simp [entryFrame, mkF, argsToLocals, Value.category]; done) | rfl
def Q6 (Z : State) (a0 : Addr) (h0 : Heap) (n0 : Nat) (v : Option Value) (h : Heap) (L : List Loc) : Prop := v = none ∧ Fr n0 L ∧ h = h0
set_option maxRecDepth 65536 in
set_option maxHeartbeats 40000000 in
theorem rm6 (l : Launch) (Z : State) (a0' : Array Value) (hw : ∀ d ∈ tables_1, d.before a0' Z = true) (ws : List Jvm.Cond) (a0 : Addr) (h0 : Heap) (n0 : Nat) (Z0 : n0 ≤ h0.size) :
    MetFree l (⟨"java/lang/Record", "<init>", "()V"⟩ : MethodName) (head1 (Jvm.Cond.code (⟨"java/lang/Record", "<init>", "()V"⟩ : MethodName) jdk_30_method_1_code 1 none :: ws) ({ frames := 1, cells := 0, slots := 0, locals := 12 } : Room)) (fun a U => a = #[(.ref a0)] ∧ Z.Warmed39 U.vm ∧ U.heap = h0) (fun _ _ _ _ _ => True) (fun _ U o U' => ∃ v L, o = .returned v ∧ Q6 Z a0 h0 n0 v U'.heap L ∧ FrameEnd U o U' L ({ frames := 1, cells := 0, slots := 0, locals := 12 } : Room).cells ({ frames := 1, cells := 0, slots := 0, locals := 12 } : Room).slots) := by
  refine MetFree.of_bodySF (plainFor_of_name pn3) hisR ?_
  intro p e s m args below meth c s₁ Bd hml0 hP hK
  obtain ⟨rfl, hZ, hh⟩ := hP
  have hx := Bd.exec
  have hby := Bd.bytes
  have hml : c.maxLocals = 1 := hml0
  have hown : s.vm.findClass "java/lang/Record" = some m.cls := findClass_of_methodNamed Bd.named
  have hnm := (name_of_methodNamed Bd.named Bd.method).1
  have X0 : Stand p l e ({ frames := 1, cells := 0, slots := 0, locals := 12 } : Room) s m #[(.ref a0)] below meth c s₁ [] 0 0 := Stand.of_body Bd
  have e0 : s₁.heap = h0 := by rw [← hh, Bd.state]; rfl
  have N0 := Fr.nil n0
  have pre0 : ∀ t, Steps p.tables e below (s₁.setTop (mkF m 0 #[.val (.ref a0)] [])) t → Steps p.tables e below (s₁.setTop (entryFrame m #[(.ref a0)] 1)) t := fun t k => castTop (ef6 m a0) k
  obtain ⟨T1, X1, e1, st1⟩ := initO X0 hx hZ hown (hw _ (List.mem_of_getElem? (i := 37) rfl)) (hw _ (List.mem_of_getElem? (i := 22) rfl)) (hw _ (List.mem_of_getElem? (i := 23) rfl)) e0 (g := (mkF m 1 #[.val (.ref a0)] [(.ref a0)])) rfl (by rw [hml]; rfl) rfl (hb hby d6_1) (by decide) (W := 0) (by show 2 * 0 + _ ≤ _; exact Nat.le_of_eq rfl) (by decide)
  have pre2 : ∀ t, Steps p.tables e below (T1.setTop (mkF m 4 #[.val (.ref a0)] [])) t → Steps p.tables e below (s₁.setTop (entryFrame m #[(.ref a0)] 1)) t := fun t k => pre0 t (by
    show Steps p.tables e below (s₁.setTop (mkF m 0 #[.val (.ref a0)] [])) _
    refine XS.aloadN X0.here hx rfl (hb hby d6_0) rfl rfl ?_
    show Steps p.tables e below (s₁.setTop (mkF m 1 #[.val (.ref a0)] [(.ref a0)])) _
    refine st1 _ ?_
    exact k)
  obtain ⟨fs, hr, hrun, hended, hW, hsame⟩ := X1.leave (v := none) (fun _ => rfl)
  exact ⟨_, _, pre2 _ (X1.returnOut hx Bd.returns (hb hby d6_4) hr), hrun, hended, _, _, rfl, ⟨rfl, N0, e1⟩, ⟨_, rfl⟩, hW, hsame.mono (by decide) (by decide)⟩
theorem ef5 (m : MethodId) (x0 : Addr) (x3 : Addr) (x4 : Int32) : entryFrame m #[(.ref x0), .null, .null, (.ref x3), (.int x4)] 5 = mkF m 0 #[.val (.ref x0), .val .null, .val .null, .val (.ref x3), .val (.int x4)] [] := by first | (simp [entryFrame, mkF, argsToLocals, Value.category]; done) | rfl
def Q5 (Z : State) (a0 : Addr) (a3 : Addr) (p4 : Int32) (wa0_path : Value) (wa0_data : Value) (wa0_acl : Value) (wa0_flags : Int32) (h0 : Heap) (n0 : Nat) (v : Option Value) (h : Heap) (L : List Loc) : Prop := v = none ∧ Fr n0 L ∧ Keep h0 h [a0] ∧ Exa Z h a0 "com/example/panchayat/panchayat/protocol/CreateRequest" ∧ Fld Z h a0 "com/example/panchayat/panchayat/protocol/CreateRequest" "path" "Ljava/lang/String;" .null ∧ Fld Z h a0 "com/example/panchayat/panchayat/protocol/CreateRequest" "data" "[B" .null ∧ Fld Z h a0 "com/example/panchayat/panchayat/protocol/CreateRequest" "acl" "Ljava/util/List;" (.ref a3) ∧ Fld Z h a0 "com/example/panchayat/panchayat/protocol/CreateRequest" "flags" "I" (.int p4)
set_option maxRecDepth 65536 in
set_option maxHeartbeats 40000000 in
theorem rm5 (l : Launch) (Z : State) (a0' : Array Value) (hw : ∀ d ∈ tables_1, d.before a0' Z = true) (ws : List Jvm.Cond) (a0 : Addr) (a3 : Addr) (p4 : Int32) (wa0_path : Value) (wa0_data : Value) (wa0_acl : Value) (wa0_flags : Int32) (h0 : Heap) (n0 : Nat) (Z0 : n0 ≤ h0.size) (E_a0 : Exa Z h0 a0 "com/example/panchayat/panchayat/protocol/CreateRequest") (F_wa0_path : Fld Z h0 a0 "com/example/panchayat/panchayat/protocol/CreateRequest" "path" "Ljava/lang/String;" wa0_path) (F_wa0_data : Fld Z h0 a0 "com/example/panchayat/panchayat/protocol/CreateRequest" "data" "[B" wa0_data) (F_wa0_acl : Fld Z h0 a0 "com/example/panchayat/panchayat/protocol/CreateRequest" "acl" "Ljava/util/List;" wa0_acl) (F_wa0_flags : Fld Z h0 a0 "com/example/panchayat/panchayat/protocol/CreateRequest" "flags" "I" (.int wa0_flags)) (g_a0 : n0 ≤ a0) :
    MetFree l (⟨"com/example/panchayat/panchayat/protocol/CreateRequest", "<init>", "(Ljava/lang/String;[BLjava/util/List;I)V"⟩ : MethodName) (head1 (Jvm.Cond.code (⟨"com/example/panchayat/panchayat/protocol/CreateRequest", "<init>", "(Ljava/lang/String;[BLjava/util/List;I)V"⟩ : MethodName) prog_16_method_1_code 5 none :: ws) ({ frames := 2, cells := 0, slots := 0, locals := 24 } : Room)) (fun a U => a = #[(.ref a0), .null, .null, (.ref a3), (.int p4)] ∧ Z.Warmed39 U.vm ∧ U.heap = h0) (fun _ _ _ _ _ => True) (fun _ U o U' => ∃ v L, o = .returned v ∧ Q5 Z a0 a3 p4 wa0_path wa0_data wa0_acl wa0_flags h0 n0 v U'.heap L ∧ FrameEnd U o U' L ({ frames := 2, cells := 0, slots := 0, locals := 24 } : Room).cells ({ frames := 2, cells := 0, slots := 0, locals := 24 } : Room).slots) := by
  refine MetFree.of_bodySF (plainFor_of_name pn4) hisR ?_
  intro p e s m args below meth c s₁ Bd hml0 hP hK
  obtain ⟨rfl, hZ, hh⟩ := hP
  have hx := Bd.exec
  have hby := Bd.bytes
  have hml : c.maxLocals = 5 := hml0
  have hown : s.vm.findClass "com/example/panchayat/panchayat/protocol/CreateRequest" = some m.cls := findClass_of_methodNamed Bd.named
  have hnm := (name_of_methodNamed Bd.named Bd.method).1
  have X0 : Stand p l e ({ frames := 2, cells := 0, slots := 0, locals := 24 } : Room) s m #[(.ref a0), .null, .null, (.ref a3), (.int p4)] below meth c s₁ [] 0 0 := Stand.of_body Bd
  have e0 : s₁.heap = h0 := by rw [← hh, Bd.state]; rfl
  have N0 := Fr.nil n0
  have pre0 : ∀ t, Steps p.tables e below (s₁.setTop (mkF m 0 #[.val (.ref a0), .val .null, .val .null, .val (.ref a3), .val (.int p4)] [])) t → Steps p.tables e below (s₁.setTop (entryFrame m #[(.ref a0), .null, .null, (.ref a3), (.int p4)] 5)) t := fun t k => castTop (ef5 m a0 a3 p4) k
  obtain ⟨_, _, ⟨T1, L1, k1, n1⟩, -, X1, ⟨Lc1, hQ1, l1, y1, z1⟩, st1⟩ := X0.specialBack hx (y := (⟨"java/lang/Record", "<init>", "()V"⟩ : MethodName)) rfl hown (mvT hZ (hw _ (List.mem_of_getElem? (i := 32) rfl))) (mvT hZ (hw _ (List.mem_of_getElem? (i := 33) rfl))) (mvT hZ (hw _ (List.mem_of_getElem? (i := 36) rfl))) (by decide) (backOf (W := 0) (rm6 l Z a0' hw [] a0 h0 n0 Z0) hZ (hw _ (List.mem_of_getElem? (i := 36) rfl)) (hw _ (List.mem_of_getElem? (i := 35) rfl)) (by decide) (by decide)) (g := (mkF m 1 #[.val (.ref a0), .val .null, .val .null, .val (.ref a3), .val (.int p4)] [(.ref a0)])) rfl (by rw [hml]; rfl) (Steps.refl _) (a := a0) (argsL := []) (rest := []) (lenOf pd0 rfl) rfl (by show 2 * 0 + _ ≤ _; exact Nat.le_of_eq rfl) (hb hby d5_1) (fun _ _ => ⟨rfl, e0, (by decide : 0 + 0 ≤ _), (by decide : 0 + 0 ≤ _)⟩)
  dsimp only [Pt.U, Pt.locs, Pt.cells, Pt.slots] at X1 l1 y1 z1 st1 hQ1
  subst l1 y1 z1
  obtain ⟨rfl, N1q, e1⟩ := hQ1
  have N1 := Fr.app N0 N1q
  obtain ⟨T2, h2, X2, e2, W2, st2⟩ := putF X1 hx hZ hown (host := "") (Or.inl (hw _ (List.mem_of_getElem? (i := 38) rfl))) Via.refl e1 F_wa0_path E_a0 (Or.inr ⟨(hw _ (List.mem_of_getElem? (i := 39) rfl)), rfl, hnm⟩) (hw _ (List.mem_of_getElem? (i := 1) rfl)) (ty := (.object "java/lang/String")) (by decide) rfl rfl (g := (mkF m 6 #[.val (.ref a0), .val .null, .val .null, .val (.ref a3), .val (.int p4)] [.null, (.ref a0)])) rfl rfl (hb hby d5_6)
  have Z2 : n0 ≤ h2.size := Nat.le_trans Z0 (Keep.of_wr W2).1
  have N2 := Fr.snoc X2 N1 g_a0
  have KC2 : Keep h0 h2 [a0] := (Keep.refl h0 [a0]).wr W2 (Or.inl (List.mem_of_getElem? (i := 0) rfl))
  have Fw2 := F_wa0_path.same W2
  have y3 := (E_a0.wr W2)
  have y4 := (F_wa0_data.other W2 (Or.inr (slot_ne (Or.inr (hw _ (List.mem_of_getElem? (i := 41) rfl))) (Or.inr (hw _ (List.mem_of_getElem? (i := 39) rfl))) (by decide) (t := (.array .byte)) (t' := (.object "java/lang/String")) (by decide) (by decide))))
  obtain ⟨T5, h5, X5, e5, W5, st5⟩ := putF X2 hx hZ hown (host := "") (Or.inl (hw _ (List.mem_of_getElem? (i := 40) rfl))) Via.refl e2 y4 y3 (Or.inr ⟨(hw _ (List.mem_of_getElem? (i := 41) rfl)), rfl, hnm⟩) (hw _ (List.mem_of_getElem? (i := 1) rfl)) (ty := (.array .byte)) (by decide) rfl rfl (g := (mkF m 11 #[.val (.ref a0), .val .null, .val .null, .val (.ref a3), .val (.int p4)] [.null, (.ref a0)])) rfl rfl (hb hby d5_11)
  have Z5 : n0 ≤ h5.size := Nat.le_trans Z2 (Keep.of_wr W5).1
  have N5 := Fr.snoc X5 N2 g_a0
  have KC5 : Keep h0 h5 [a0] := KC2.wr W5 (Or.inl (List.mem_of_getElem? (i := 0) rfl))
  have Fw5 := y4.same W5
  have y6 := (y3.wr W5)
  have y7 := ((F_wa0_acl.other W2 (Or.inr (slot_ne (Or.inr (hw _ (List.mem_of_getElem? (i := 43) rfl))) (Or.inr (hw _ (List.mem_of_getElem? (i := 39) rfl))) (by decide) (t := (.object "java/util/List")) (t' := (.object "java/lang/String")) (by decide) (by decide)))).other W5 (Or.inr (slot_ne (Or.inr (hw _ (List.mem_of_getElem? (i := 43) rfl))) (Or.inr (hw _ (List.mem_of_getElem? (i := 41) rfl))) (by decide) (t := (.object "java/util/List")) (t' := (.array .byte)) (by decide) (by decide))))
  obtain ⟨T8, h8, X8, e8, W8, st8⟩ := putF X5 hx hZ hown (host := "") (Or.inl (hw _ (List.mem_of_getElem? (i := 42) rfl))) Via.refl e5 y7 y6 (Or.inr ⟨(hw _ (List.mem_of_getElem? (i := 43) rfl)), rfl, hnm⟩) (hw _ (List.mem_of_getElem? (i := 1) rfl)) (ty := (.object "java/util/List")) (by decide) rfl rfl (g := (mkF m 16 #[.val (.ref a0), .val .null, .val .null, .val (.ref a3), .val (.int p4)] [(.ref a3), (.ref a0)])) rfl rfl (hb hby d5_16)
  have Z8 : n0 ≤ h8.size := Nat.le_trans Z5 (Keep.of_wr W8).1
  have N8 := Fr.snoc X8 N5 g_a0
  have KC8 : Keep h0 h8 [a0] := KC5.wr W8 (Or.inl (List.mem_of_getElem? (i := 0) rfl))
  have Fw8 := y7.same W8
  have y9 := (y6.wr W8)
  have y10 := (((F_wa0_flags.other W2 (Or.inr (slot_ne (Or.inr (hw _ (List.mem_of_getElem? (i := 45) rfl))) (Or.inr (hw _ (List.mem_of_getElem? (i := 39) rfl))) (by decide) (t := .int) (t' := (.object "java/lang/String")) (by decide) (by decide)))).other W5 (Or.inr (slot_ne (Or.inr (hw _ (List.mem_of_getElem? (i := 45) rfl))) (Or.inr (hw _ (List.mem_of_getElem? (i := 41) rfl))) (by decide) (t := .int) (t' := (.array .byte)) (by decide) (by decide)))).other W8 (Or.inr (slot_ne (Or.inr (hw _ (List.mem_of_getElem? (i := 45) rfl))) (Or.inr (hw _ (List.mem_of_getElem? (i := 43) rfl))) (by decide) (t := .int) (t' := (.object "java/util/List")) (by decide) (by decide))))
  obtain ⟨T11, h11, X11, e11, W11, st11⟩ := putF X8 hx hZ hown (host := "") (Or.inl (hw _ (List.mem_of_getElem? (i := 44) rfl))) Via.refl e8 y10 y9 (Or.inr ⟨(hw _ (List.mem_of_getElem? (i := 45) rfl)), rfl, hnm⟩) (hw _ (List.mem_of_getElem? (i := 1) rfl)) (ty := .int) (by decide) rfl rfl (g := (mkF m 22 #[.val (.ref a0), .val .null, .val .null, .val (.ref a3), .val (.int p4)] [(.int p4), (.ref a0)])) rfl rfl (hb hby d5_22)
  have Z11 : n0 ≤ h11.size := Nat.le_trans Z8 (Keep.of_wr W11).1
  have N11 := Fr.snoc X11 N8 g_a0
  have KC11 : Keep h0 h11 [a0] := KC8.wr W11 (Or.inl (List.mem_of_getElem? (i := 0) rfl))
  have Fw11 := y10.same W11
  have pre12 : ∀ t, Steps p.tables e below (T11.setTop (mkF m 25 #[.val (.ref a0), .val .null, .val .null, .val (.ref a3), .val (.int p4)] [])) t → Steps p.tables e below (s₁.setTop (entryFrame m #[(.ref a0), .null, .null, (.ref a3), (.int p4)] 5)) t := fun t k => pre0 t (by
    show Steps p.tables e below (s₁.setTop (mkF m 0 #[.val (.ref a0), .val .null, .val .null, .val (.ref a3), .val (.int p4)] [])) _
    refine XS.aloadN X0.here hx rfl (hb hby d5_0) rfl rfl ?_
    show Steps p.tables e below (s₁.setTop (mkF m 1 #[.val (.ref a0), .val .null, .val .null, .val (.ref a3), .val (.int p4)] [(.ref a0)])) _
    refine st1.trans ?_
    show Steps p.tables e below (T1.setTop (mkF m 4 #[.val (.ref a0), .val .null, .val .null, .val (.ref a3), .val (.int p4)] [])) _
    refine XS.aloadN X1.here hx rfl (hb hby d5_4) rfl rfl ?_
    show Steps p.tables e below (T1.setTop (mkF m 5 #[.val (.ref a0), .val .null, .val .null, .val (.ref a3), .val (.int p4)] [(.ref a0)])) _
    refine XS.aloadN X1.here hx rfl (hb hby d5_5) rfl rfl ?_
    show Steps p.tables e below (T1.setTop (mkF m 6 #[.val (.ref a0), .val .null, .val .null, .val (.ref a3), .val (.int p4)] [.null, (.ref a0)])) _
    refine st2 _ ?_
    show Steps p.tables e below (T2.setTop (mkF m 9 #[.val (.ref a0), .val .null, .val .null, .val (.ref a3), .val (.int p4)] [])) _
    refine XS.aloadN X2.here hx rfl (hb hby d5_9) rfl rfl ?_
    show Steps p.tables e below (T2.setTop (mkF m 10 #[.val (.ref a0), .val .null, .val .null, .val (.ref a3), .val (.int p4)] [(.ref a0)])) _
    refine XS.aloadN X2.here hx rfl (hb hby d5_10) rfl rfl ?_
    show Steps p.tables e below (T2.setTop (mkF m 11 #[.val (.ref a0), .val .null, .val .null, .val (.ref a3), .val (.int p4)] [.null, (.ref a0)])) _
    refine st5 _ ?_
    show Steps p.tables e below (T5.setTop (mkF m 14 #[.val (.ref a0), .val .null, .val .null, .val (.ref a3), .val (.int p4)] [])) _
    refine XS.aloadN X5.here hx rfl (hb hby d5_14) rfl rfl ?_
    show Steps p.tables e below (T5.setTop (mkF m 15 #[.val (.ref a0), .val .null, .val .null, .val (.ref a3), .val (.int p4)] [(.ref a0)])) _
    refine XS.aloadN X5.here hx rfl (hb hby d5_15) rfl rfl ?_
    show Steps p.tables e below (T5.setTop (mkF m 16 #[.val (.ref a0), .val .null, .val .null, .val (.ref a3), .val (.int p4)] [(.ref a3), (.ref a0)])) _
    refine st8 _ ?_
    show Steps p.tables e below (T8.setTop (mkF m 19 #[.val (.ref a0), .val .null, .val .null, .val (.ref a3), .val (.int p4)] [])) _
    refine XS.aloadN X8.here hx rfl (hb hby d5_19) rfl rfl ?_
    show Steps p.tables e below (T8.setTop (mkF m 20 #[.val (.ref a0), .val .null, .val .null, .val (.ref a3), .val (.int p4)] [(.ref a0)])) _
    refine XS.iload X8.here hx rfl (hb hby d5_20) rfl ?_
    show Steps p.tables e below (T8.setTop (mkF m 22 #[.val (.ref a0), .val .null, .val .null, .val (.ref a3), .val (.int p4)] [(.int p4), (.ref a0)])) _
    refine st11 _ ?_
    exact k)
  obtain ⟨fs, hr, hrun, hended, hW, hsame⟩ := X11.leave (v := none) (fun _ => rfl)
  have y13 := (y9.wr W11)
  have y14 := (((Fw2.other W5 (Or.inr (slot_ne (Or.inr (hw _ (List.mem_of_getElem? (i := 39) rfl))) (Or.inr (hw _ (List.mem_of_getElem? (i := 41) rfl))) (by decide) (t := (.object "java/lang/String")) (t' := (.array .byte)) (by decide) (by decide)))).other W8 (Or.inr (slot_ne (Or.inr (hw _ (List.mem_of_getElem? (i := 39) rfl))) (Or.inr (hw _ (List.mem_of_getElem? (i := 43) rfl))) (by decide) (t := (.object "java/lang/String")) (t' := (.object "java/util/List")) (by decide) (by decide)))).other W11 (Or.inr (slot_ne (Or.inr (hw _ (List.mem_of_getElem? (i := 39) rfl))) (Or.inr (hw _ (List.mem_of_getElem? (i := 45) rfl))) (by decide) (t := (.object "java/lang/String")) (t' := .int) (by decide) (by decide))))
  have y15 := ((Fw5.other W8 (Or.inr (slot_ne (Or.inr (hw _ (List.mem_of_getElem? (i := 41) rfl))) (Or.inr (hw _ (List.mem_of_getElem? (i := 43) rfl))) (by decide) (t := (.array .byte)) (t' := (.object "java/util/List")) (by decide) (by decide)))).other W11 (Or.inr (slot_ne (Or.inr (hw _ (List.mem_of_getElem? (i := 41) rfl))) (Or.inr (hw _ (List.mem_of_getElem? (i := 45) rfl))) (by decide) (t := (.array .byte)) (t' := .int) (by decide) (by decide))))
  have y16 := (Fw8.other W11 (Or.inr (slot_ne (Or.inr (hw _ (List.mem_of_getElem? (i := 43) rfl))) (Or.inr (hw _ (List.mem_of_getElem? (i := 45) rfl))) (by decide) (t := (.object "java/util/List")) (t' := .int) (by decide) (by decide))))
  exact ⟨_, _, pre12 _ (X11.returnOut hx Bd.returns (hb hby d5_25) hr), hrun, hended, _, _, rfl, (by show Q5 Z a0 a3 p4 wa0_path wa0_data wa0_acl wa0_flags h0 n0 _ T11.heap _; rw [e11]; exact ⟨rfl, N11, KC11, y13, y14, y15, y16, Fw11⟩), ⟨_, rfl⟩, hW, hsame.mono (by decide) (by decide)⟩
def f7_m5 (p0 : Int32) (p1 : Int32) : Int32 := (if p0 = (0 : Int32) then (0 : Int32) else (1 : Int32))
def f7_m10 (p0 : Int32) (p1 : Int32) : Int32 := (if p1 = (0 : Int32) then (0 : Int32) else (2 : Int32))
def F7 (p0 : Int32) (p1 : Int32) : Int32 := ((f7_m5 p0 p1) ||| (f7_m10 p0 p1))
theorem ef7 (m : MethodId) (x0 : Int32) (x1 : Int32) : entryFrame m #[(.int x0), (.int x1)] 2 = mkF m 0 #[.val (.int x0), .val (.int x1)] [] := by first | (simp [entryFrame, mkF, argsToLocals, Value.category]; done) | rfl
def Q7 (Z : State) (p0 : Int32) (p1 : Int32) (h0 : Heap) (n0 : Nat) (v : Option Value) (h : Heap) (L : List Loc) : Prop := v = some (.int (F7 p0 p1)) ∧ Fr n0 L ∧ h = h0
set_option maxRecDepth 65536 in
set_option maxHeartbeats 40000000 in
theorem rm7 (l : Launch) (Z : State) (a0' : Array Value) (hw : ∀ d ∈ tables_1, d.before a0' Z = true) (ws : List Jvm.Cond) (p0 : Int32) (p1 : Int32) (h0 : Heap) (n0 : Nat) (Z0 : n0 ≤ h0.size) :
    MetFree l (⟨"com/example/panchayat/panchayat/protocol/CreateRequest", "mode", "(ZZ)I"⟩ : MethodName) (head1 (Jvm.Cond.code (⟨"com/example/panchayat/panchayat/protocol/CreateRequest", "mode", "(ZZ)I"⟩ : MethodName) prog_16_method_3_code 2 (some .int) :: ws) ({ frames := 0, cells := 0, slots := 0, locals := 0 } : Room)) (fun a U => a = #[(.int p0), (.int p1)] ∧ Z.Warmed39 U.vm ∧ U.heap = h0) (fun _ _ _ _ _ => True) (fun _ U o U' => ∃ v L, o = .returned v ∧ Q7 Z p0 p1 h0 n0 v U'.heap L ∧ FrameEnd U o U' L ({ frames := 0, cells := 0, slots := 0, locals := 0 } : Room).cells ({ frames := 0, cells := 0, slots := 0, locals := 0 } : Room).slots) := by
  refine MetFree.of_bodySF (plainFor_of_name pn4) hisR ?_
  intro p e s m args below meth c s₁ Bd hml0 hP hK
  obtain ⟨rfl, hZ, hh⟩ := hP
  have hx := Bd.exec
  have hby := Bd.bytes
  have hml : c.maxLocals = 2 := hml0
  have hown : s.vm.findClass "com/example/panchayat/panchayat/protocol/CreateRequest" = some m.cls := findClass_of_methodNamed Bd.named
  have hnm := (name_of_methodNamed Bd.named Bd.method).1
  have X0 : Stand p l e ({ frames := 0, cells := 0, slots := 0, locals := 0 } : Room) s m #[(.int p0), (.int p1)] below meth c s₁ [] 0 0 := Stand.of_body Bd
  have e0 : s₁.heap = h0 := by rw [← hh, Bd.state]; rfl
  have N0 := Fr.nil n0
  have pre0 : ∀ t, Steps p.tables e below (s₁.setTop (mkF m 0 #[.val (.int p0), .val (.int p1)] [])) t → Steps p.tables e below (s₁.setTop (entryFrame m #[(.int p0), (.int p1)] 2)) t := fun t k => castTop (ef7 m p0 p1) k
  have pre1 : ∀ t, Steps p.tables e below (s₁.setTop (mkF m 1 #[.val (.int p0), .val (.int p1)] [(.int p0)])) t → Steps p.tables e below (s₁.setTop (entryFrame m #[(.int p0), (.int p1)] 2)) t := fun t k => pre0 t (by
    show Steps p.tables e below (s₁.setTop (mkF m 0 #[.val (.int p0), .val (.int p1)] [])) _
    refine XS.iloadN X0.here hx rfl (hb hby d7_0) rfl ?_
    exact k)
  obtain ⟨T2, L2, X2, e2, N2, pre2⟩ : ∃ (T' : State) (locs' : List Loc), Stand p l e ({ frames := 0, cells := 0, slots := 0, locals := 0 } : Room) s m #[(.int p0), (.int p1)] below meth c T' locs' 0 0 ∧ T'.heap = h0 ∧ Fr n0 locs' ∧ ∀ t, Steps p.tables e below (T'.setTop (mkF m 9 #[.val (.int p0), .val (.int p1)] [(.int (f7_m5 p0 p1))])) t → Steps p.tables e below (s₁.setTop (entryFrame m #[(.int p0), (.int p1)] 2)) t := by
    by_cases hc1_2 : p0 = (0 : Int32)
    · have pre3 : ∀ t, Steps p.tables e below (s₁.setTop (mkF m 9 #[.val (.int p0), .val (.int p1)] [(.int (0 : Int32))])) t → Steps p.tables e below (s₁.setTop (entryFrame m #[(.int p0), (.int p1)] 2)) t := fun t k => pre1 t (by
        show Steps p.tables e below (s₁.setTop (mkF m 1 #[.val (.int p0), .val (.int p1)] [(.int p0)])) _
        refine XS.ifYes X0.here hx rfl (pc0 := 1) (pc' := 8) rfl (hb hby d7_1) rfl ((if0 _ _).trans (teq hc1_2).1) (by decide) (by decide) ?_
        show Steps p.tables e below (s₁.setTop (mkF m 8 #[.val (.int p0), .val (.int p1)] [])) _
        refine XS.iconst X0.here hx rfl (hb hby d7_8) ?_
        exact k)
      have q_f7_m5 : f7_m5 p0 p1 = (0 : Int32) := by unfold f7_m5; rw [if_pos hc1_2]
      rw [q_f7_m5]
      exact ⟨s₁, _, X0, e0, N0, pre3⟩
    have pre4 : ∀ t, Steps p.tables e below (s₁.setTop (mkF m 9 #[.val (.int p0), .val (.int p1)] [(.int (1 : Int32))])) t → Steps p.tables e below (s₁.setTop (entryFrame m #[(.int p0), (.int p1)] 2)) t := fun t k => pre1 t (by
      show Steps p.tables e below (s₁.setTop (mkF m 1 #[.val (.int p0), .val (.int p1)] [(.int p0)])) _
      refine XS.ifNo X0.here hx rfl (hb hby d7_1) rfl ((if0 _ _).trans (feq hc1_2).1) ?_
      show Steps p.tables e below (s₁.setTop (mkF m 4 #[.val (.int p0), .val (.int p1)] [])) _
      refine XS.iconst X0.here hx rfl (hb hby d7_4) ?_
      show Steps p.tables e below (s₁.setTop (mkF m 5 #[.val (.int p0), .val (.int p1)] [(.int (1 : Int32))])) _
      refine XS.goto X0.here hx rfl (pc0 := 5) (pc' := 9) rfl (hb hby d7_5) (by decide) (by decide) ?_
      exact k)
    have q_f7_m5 : f7_m5 p0 p1 = (1 : Int32) := by unfold f7_m5; rw [if_neg hc1_2]
    rw [q_f7_m5]
    exact ⟨s₁, _, X0, e0, N0, pre4⟩
  have pre6 : ∀ t, Steps p.tables e below (T2.setTop (mkF m 10 #[.val (.int p0), .val (.int p1)] [(.int p1), (.int (f7_m5 p0 p1))])) t → Steps p.tables e below (s₁.setTop (entryFrame m #[(.int p0), (.int p1)] 2)) t := fun t k => pre2 t (by
    show Steps p.tables e below (T2.setTop (mkF m 9 #[.val (.int p0), .val (.int p1)] [(.int (f7_m5 p0 p1))])) _
    refine XS.iloadN X2.here hx rfl (hb hby d7_9) rfl ?_
    exact k)
  obtain ⟨T7, L7, X7, e7, N7, pre7⟩ : ∃ (T' : State) (locs' : List Loc), Stand p l e ({ frames := 0, cells := 0, slots := 0, locals := 0 } : Room) s m #[(.int p0), (.int p1)] below meth c T' locs' 0 0 ∧ T'.heap = h0 ∧ Fr n0 locs' ∧ ∀ t, Steps p.tables e below (T'.setTop (mkF m 18 #[.val (.int p0), .val (.int p1)] [(.int (f7_m10 p0 p1)), (.int (f7_m5 p0 p1))])) t → Steps p.tables e below (s₁.setTop (entryFrame m #[(.int p0), (.int p1)] 2)) t := by
    by_cases hc10_7 : p1 = (0 : Int32)
    · have pre8 : ∀ t, Steps p.tables e below (T2.setTop (mkF m 18 #[.val (.int p0), .val (.int p1)] [(.int (0 : Int32)), (.int (f7_m5 p0 p1))])) t → Steps p.tables e below (s₁.setTop (entryFrame m #[(.int p0), (.int p1)] 2)) t := fun t k => pre6 t (by
        show Steps p.tables e below (T2.setTop (mkF m 10 #[.val (.int p0), .val (.int p1)] [(.int p1), (.int (f7_m5 p0 p1))])) _
        refine XS.ifYes X2.here hx rfl (pc0 := 10) (pc' := 17) rfl (hb hby d7_10) rfl ((if0 _ _).trans (teq hc10_7).1) (by decide) (by decide) ?_
        show Steps p.tables e below (T2.setTop (mkF m 17 #[.val (.int p0), .val (.int p1)] [(.int (f7_m5 p0 p1))])) _
        refine XS.iconst X2.here hx rfl (hb hby d7_17) ?_
        exact k)
      have q_f7_m10 : f7_m10 p0 p1 = (0 : Int32) := by unfold f7_m10; rw [if_pos hc10_7]
      rw [q_f7_m10]
      exact ⟨T2, _, X2, e2, N2, pre8⟩
    have pre9 : ∀ t, Steps p.tables e below (T2.setTop (mkF m 18 #[.val (.int p0), .val (.int p1)] [(.int (2 : Int32)), (.int (f7_m5 p0 p1))])) t → Steps p.tables e below (s₁.setTop (entryFrame m #[(.int p0), (.int p1)] 2)) t := fun t k => pre6 t (by
      show Steps p.tables e below (T2.setTop (mkF m 10 #[.val (.int p0), .val (.int p1)] [(.int p1), (.int (f7_m5 p0 p1))])) _
      refine XS.ifNo X2.here hx rfl (hb hby d7_10) rfl ((if0 _ _).trans (feq hc10_7).1) ?_
      show Steps p.tables e below (T2.setTop (mkF m 13 #[.val (.int p0), .val (.int p1)] [(.int (f7_m5 p0 p1))])) _
      refine XS.iconst X2.here hx rfl (hb hby d7_13) ?_
      show Steps p.tables e below (T2.setTop (mkF m 14 #[.val (.int p0), .val (.int p1)] [(.int (2 : Int32)), (.int (f7_m5 p0 p1))])) _
      refine XS.goto X2.here hx rfl (pc0 := 14) (pc' := 18) rfl (hb hby d7_14) (by decide) (by decide) ?_
      exact k)
    have q_f7_m10 : f7_m10 p0 p1 = (2 : Int32) := by unfold f7_m10; rw [if_neg hc10_7]
    rw [q_f7_m10]
    exact ⟨T2, _, X2, e2, N2, pre9⟩
  have pre11 : ∀ t, Steps p.tables e below (T7.setTop (mkF m 19 #[.val (.int p0), .val (.int p1)] [(.int ((f7_m5 p0 p1) ||| (f7_m10 p0 p1)))])) t → Steps p.tables e below (s₁.setTop (entryFrame m #[(.int p0), (.int p1)] 2)) t := fun t k => pre7 t (by
    show Steps p.tables e below (T7.setTop (mkF m 18 #[.val (.int p0), .val (.int p1)] [(.int (f7_m10 p0 p1)), (.int (f7_m5 p0 p1))])) _
    refine XS.ior X7.here hx rfl (hb hby d7_18) rfl ?_
    exact k)
  obtain ⟨fs, hr, hrun, hended, hW, hsame⟩ := X7.leave (v := some (.int ((f7_m5 p0 p1) ||| (f7_m10 p0 p1)))) (fun h => by rw [Bd.returns] at h; cases h)
  have hF : (F7 p0 p1) = ((f7_m5 p0 p1) ||| (f7_m10 p0 p1)) := by rfl
  exact ⟨_, _, pre11 _ (retI X7 hx Bd.returns (hb hby d7_19) hr), hrun, hended, _, _, rfl, ⟨by rw [hF], N7, e7⟩, ⟨_, rfl⟩, hW, hsame.mono (by decide) (by decide)⟩
def F8 (wa0_flags : Int32) : Int32 := (if (wa0_flags &&& (1 : Int32)) = (0 : Int32) then (0 : Int32) else (1 : Int32))
theorem ef8 (m : MethodId) (x0 : Addr) : entryFrame m #[(.ref x0)] 1 = mkF m 0 #[.val (.ref x0)] [] := by first | (simp [entryFrame, mkF, argsToLocals, Value.category]; done) | rfl
def Q8 (Z : State) (a0 : Addr) (wa0_flags : Int32) (h0 : Heap) (n0 : Nat) (v : Option Value) (h : Heap) (L : List Loc) : Prop := v = some (.int (F8 wa0_flags)) ∧ Fr n0 L ∧ h = h0
set_option maxRecDepth 65536 in
set_option maxHeartbeats 40000000 in
theorem rm8 (l : Launch) (Z : State) (a0' : Array Value) (hw : ∀ d ∈ tables_1, d.before a0' Z = true) (ws : List Jvm.Cond) (a0 : Addr) (wa0_flags : Int32) (h0 : Heap) (n0 : Nat) (Z0 : n0 ≤ h0.size) (F_wa0_flags : Fld Z h0 a0 "com/example/panchayat/panchayat/protocol/CreateRequest" "flags" "I" (.int wa0_flags)) :
    MetFree l (⟨"com/example/panchayat/panchayat/protocol/CreateRequest", "isEphemeral", "()Z"⟩ : MethodName) (head1 (Jvm.Cond.code (⟨"com/example/panchayat/panchayat/protocol/CreateRequest", "isEphemeral", "()Z"⟩ : MethodName) prog_16_method_7_code 1 (some .boolean) :: ws) ({ frames := 0, cells := 0, slots := 0, locals := 0 } : Room)) (fun a U => a = #[(.ref a0)] ∧ Z.Warmed39 U.vm ∧ U.heap = h0) (fun _ _ _ _ _ => True) (fun _ U o U' => ∃ v L, o = .returned v ∧ Q8 Z a0 wa0_flags h0 n0 v U'.heap L ∧ FrameEnd U o U' L ({ frames := 0, cells := 0, slots := 0, locals := 0 } : Room).cells ({ frames := 0, cells := 0, slots := 0, locals := 0 } : Room).slots) := by
  refine MetFree.of_bodySF (plainFor_of_name pn4) hisR ?_
  intro p e s m args below meth c s₁ Bd hml0 hP hK
  obtain ⟨rfl, hZ, hh⟩ := hP
  have hx := Bd.exec
  have hby := Bd.bytes
  have hml : c.maxLocals = 1 := hml0
  have hown : s.vm.findClass "com/example/panchayat/panchayat/protocol/CreateRequest" = some m.cls := findClass_of_methodNamed Bd.named
  have hnm := (name_of_methodNamed Bd.named Bd.method).1
  have X0 : Stand p l e ({ frames := 0, cells := 0, slots := 0, locals := 0 } : Room) s m #[(.ref a0)] below meth c s₁ [] 0 0 := Stand.of_body Bd
  have e0 : s₁.heap = h0 := by rw [← hh, Bd.state]; rfl
  have N0 := Fr.nil n0
  have pre0 : ∀ t, Steps p.tables e below (s₁.setTop (mkF m 0 #[.val (.ref a0)] [])) t → Steps p.tables e below (s₁.setTop (entryFrame m #[(.ref a0)] 1)) t := fun t k => castTop (ef8 m a0) k
  obtain ⟨T1, X1, e1, st1⟩ := getF X0 hx hZ hown (host := "") (Or.inl (hw _ (List.mem_of_getElem? (i := 44) rfl))) Via.refl e0 F_wa0_flags (g := (mkF m 1 #[.val (.ref a0)] [(.ref a0)])) rfl rfl (hb hby d8_1)
  have pre2 : ∀ t, Steps p.tables e below (T1.setTop (mkF m 6 #[.val (.ref a0)] [(.int (wa0_flags &&& (1 : Int32)))])) t → Steps p.tables e below (s₁.setTop (entryFrame m #[(.ref a0)] 1)) t := fun t k => pre0 t (by
    show Steps p.tables e below (s₁.setTop (mkF m 0 #[.val (.ref a0)] [])) _
    refine XS.aloadN X0.here hx rfl (hb hby d8_0) rfl rfl ?_
    show Steps p.tables e below (s₁.setTop (mkF m 1 #[.val (.ref a0)] [(.ref a0)])) _
    refine st1 _ ?_
    show Steps p.tables e below (T1.setTop (mkF m 4 #[.val (.ref a0)] [(.int wa0_flags)])) _
    refine XS.iconst X1.here hx rfl (hb hby d8_4) ?_
    show Steps p.tables e below (T1.setTop (mkF m 5 #[.val (.ref a0)] [(.int (1 : Int32)), (.int wa0_flags)])) _
    refine XS.iand X1.here hx rfl (hb hby d8_5) rfl ?_
    exact k)
  by_cases hc6_3 : (wa0_flags &&& (1 : Int32)) = (0 : Int32)
  · have pre4 : ∀ t, Steps p.tables e below (T1.setTop (mkF m 14 #[.val (.ref a0)] [(.int (0 : Int32))])) t → Steps p.tables e below (s₁.setTop (entryFrame m #[(.ref a0)] 1)) t := fun t k => pre2 t (by
      show Steps p.tables e below (T1.setTop (mkF m 6 #[.val (.ref a0)] [(.int (wa0_flags &&& (1 : Int32)))])) _
      refine XS.ifYes X1.here hx rfl (pc0 := 6) (pc' := 13) rfl (hb hby d8_6) rfl ((if0 _ _).trans (teq hc6_3).1) (by decide) (by decide) ?_
      show Steps p.tables e below (T1.setTop (mkF m 13 #[.val (.ref a0)] [])) _
      refine XS.iconst X1.here hx rfl (hb hby d8_13) ?_
      exact k)
    obtain ⟨fs, hr, hrun, hended, hW, hsame⟩ := X1.leave (v := some (.int (0 : Int32))) (fun h => by rw [Bd.returns] at h; cases h)
    have hF : (F8 wa0_flags) = (0 : Int32) := by unfold F8; rw [if_pos hc6_3]
    exact ⟨_, _, pre4 _ (retN X1 hx (t := .boolean) Bd.returns (by simp) (hb hby d8_14) hr), hrun, hended, _, _, rfl, ⟨by rw [hF], N0, e1⟩, ⟨_, rfl⟩, hW, hsame.mono (by decide) (by decide)⟩
  have pre5 : ∀ t, Steps p.tables e below (T1.setTop (mkF m 14 #[.val (.ref a0)] [(.int (1 : Int32))])) t → Steps p.tables e below (s₁.setTop (entryFrame m #[(.ref a0)] 1)) t := fun t k => pre2 t (by
    show Steps p.tables e below (T1.setTop (mkF m 6 #[.val (.ref a0)] [(.int (wa0_flags &&& (1 : Int32)))])) _
    refine XS.ifNo X1.here hx rfl (hb hby d8_6) rfl ((if0 _ _).trans (feq hc6_3).1) ?_
    show Steps p.tables e below (T1.setTop (mkF m 9 #[.val (.ref a0)] [])) _
    refine XS.iconst X1.here hx rfl (hb hby d8_9) ?_
    show Steps p.tables e below (T1.setTop (mkF m 10 #[.val (.ref a0)] [(.int (1 : Int32))])) _
    refine XS.goto X1.here hx rfl (pc0 := 10) (pc' := 14) rfl (hb hby d8_10) (by decide) (by decide) ?_
    exact k)
  obtain ⟨fs, hr, hrun, hended, hW, hsame⟩ := X1.leave (v := some (.int (1 : Int32))) (fun h => by rw [Bd.returns] at h; cases h)
  have hF : (F8 wa0_flags) = (1 : Int32) := by unfold F8; rw [if_neg hc6_3]
  exact ⟨_, _, pre5 _ (retN X1 hx (t := .boolean) Bd.returns (by simp) (hb hby d8_14) hr), hrun, hended, _, _, rfl, ⟨by rw [hF], N0, e1⟩, ⟨_, rfl⟩, hW, hsame.mono (by decide) (by decide)⟩
def f0_m5 (p0 : Int32) (p1 : Int32) : Int32 := (if (p1 &&& (1 : Int32)) = (0 : Int32) then (0 : Int32) else (1 : Int32))
def f0_m10 (p0 : Int32) (p1 : Int32) : Int32 := (if (p1 &&& (2 : Int32)) = (0 : Int32) then (0 : Int32) else (1 : Int32))
def f0_m37 (p0 : Int32) (p1 : Int32) : Int32 := (if (p0 % (2 : Int32)) = (0 : Int32) then (0 : Int32) else (1 : Int32))
def f0_m45 (p0 : Int32) (p1 : Int32) : Int32 := (if (F8 p0) = (f0_m37 p0 p1) then (1 : Int32) else (0 : Int32))
def f0_m51 (p0 : Int32) (p1 : Int32) : Int32 := (if (F8 (F7 (f0_m5 p0 p1) (f0_m10 p0 p1))) = (f0_m5 p0 p1) then (1 : Int32) else (0 : Int32))
def F0 (p0 : Int32) (p1 : Int32) : Int32 := (if (f0_m45 p0 p1) = (0 : Int32) then (0 : Int32) else (if (f0_m51 p0 p1) = (0 : Int32) then (0 : Int32) else (1 : Int32)))
theorem ef0 (m : MethodId) (x0 : Int32) (x1 : Int32) : entryFrame m #[(.int x0), (.int x1)] maxLocals = mkF m 0 #[.val (.int x0), .val (.int x1), .unset, .unset, .unset, .unset, .unset, .unset, .unset] [] := by first | (simp [entryFrame, mkF, argsToLocals, Value.category, maxLocals]; done) | rfl
def Q0 (Z : State) (p0 : Int32) (p1 : Int32) (s_DEFAULTCAPACITY_EMPTY_ELEMENTDATA : Addr) (h0 : Heap) (n0 : Nat) (v : Option Value) (h : Heap) (L : List Loc) : Prop := v = some (.int (F0 p0 p1)) ∧ Fr n0 L
set_option maxRecDepth 65536 in
set_option maxHeartbeats 40000000 in
theorem rm0 (l : Launch) (Z : State) (a0' : Array Value) (hw : ∀ d ∈ tables_1, d.before a0' Z = true) (ws : List Jvm.Cond) (p0 : Int32) (p1 : Int32) (s_DEFAULTCAPACITY_EMPTY_ELEMENTDATA : Addr) (h0 : Heap) (n0 : Nat) (Z0 : n0 ≤ h0.size) (OLD0 : Old Z n0 h0) (S_s_DEFAULTCAPACITY_EMPTY_ELEMENTDATA : Sta Z Z.heap "java/util/ArrayList" "DEFAULTCAPACITY_EMPTY_ELEMENTDATA" "[Ljava/lang/Object;" (.ref s_DEFAULTCAPACITY_EMPTY_ELEMENTDATA)) :
    MetFree l x (head1 (Jvm.Cond.code x code maxLocals ret :: ws) room_1) (fun a U => a = #[(.int p0), (.int p1)] ∧ Z.Warmed39 U.vm ∧ U.heap = h0) (fun _ _ _ _ _ => True) (fun _ U o U' => ∃ v L, o = .returned v ∧ Q0 Z p0 p1 s_DEFAULTCAPACITY_EMPTY_ELEMENTDATA h0 n0 v U'.heap L ∧ FrameEnd U o U' L 4 14) := by
  refine MetFree.of_bodySF (plainFor_of_name pn5) hisR ?_
  intro p e s m args below meth c s₁ Bd hml0 hP hK
  obtain ⟨rfl, hZ, hh⟩ := hP
  have hx := Bd.exec
  have hby := Bd.bytes
  have hml : c.maxLocals = 9 := hml0
  have hown : s.vm.findClass "com/example/panchayat/panchayat/protocol/CreateRequestIsEphemeralPinLaw" = some m.cls := findClass_of_methodNamed Bd.named
  have hnm := (name_of_methodNamed Bd.named Bd.method).1
  have X0 : Stand p l e room_1 s m #[(.int p0), (.int p1)] below meth c s₁ [] 0 0 := Stand.of_body Bd
  have e0 : s₁.heap = h0 := by rw [← hh, Bd.state]; rfl
  have N0 := Fr.nil n0
  have pre0 : ∀ t, Steps p.tables e below (s₁.setTop (mkF m 0 #[.val (.int p0), .val (.int p1), .unset, .unset, .unset, .unset, .unset, .unset, .unset] [])) t → Steps p.tables e below (s₁.setTop (entryFrame m #[(.int p0), (.int p1)] maxLocals)) t := fun t k => castTop (ef0 m p0 p1) k
  have pre1 : ∀ t, Steps p.tables e below (s₁.setTop (mkF m 3 #[.val (.int p0), .val (.int p1), .unset, .unset, .unset, .unset, .unset, .unset, .unset] [(.int (p1 &&& (1 : Int32)))])) t → Steps p.tables e below (s₁.setTop (entryFrame m #[(.int p0), (.int p1)] maxLocals)) t := fun t k => pre0 t (by
    show Steps p.tables e below (s₁.setTop (mkF m 0 #[.val (.int p0), .val (.int p1), .unset, .unset, .unset, .unset, .unset, .unset, .unset] [])) _
    refine XS.iloadN X0.here hx rfl (hb hby at_0) rfl ?_
    show Steps p.tables e below (s₁.setTop (mkF m 1 #[.val (.int p0), .val (.int p1), .unset, .unset, .unset, .unset, .unset, .unset, .unset] [(.int p1)])) _
    refine XS.iconst X0.here hx rfl (hb hby at_1) ?_
    show Steps p.tables e below (s₁.setTop (mkF m 2 #[.val (.int p0), .val (.int p1), .unset, .unset, .unset, .unset, .unset, .unset, .unset] [(.int (1 : Int32)), (.int p1)])) _
    refine XS.iand X0.here hx rfl (hb hby at_2) rfl ?_
    exact k)
  obtain ⟨T2, L2, X2, e2, N2, pre2⟩ : ∃ (T' : State) (locs' : List Loc), Stand p l e room_1 s m #[(.int p0), (.int p1)] below meth c T' locs' 0 0 ∧ T'.heap = h0 ∧ Fr n0 locs' ∧ ∀ t, Steps p.tables e below (T'.setTop (mkF m 11 #[.val (.int p0), .val (.int p1), .unset, .unset, .unset, .unset, .unset, .unset, .unset] [(.int (f0_m5 p0 p1))])) t → Steps p.tables e below (s₁.setTop (entryFrame m #[(.int p0), (.int p1)] maxLocals)) t := by
    by_cases hc3_2 : (p1 &&& (1 : Int32)) = (0 : Int32)
    · have pre3 : ∀ t, Steps p.tables e below (s₁.setTop (mkF m 11 #[.val (.int p0), .val (.int p1), .unset, .unset, .unset, .unset, .unset, .unset, .unset] [(.int (0 : Int32))])) t → Steps p.tables e below (s₁.setTop (entryFrame m #[(.int p0), (.int p1)] maxLocals)) t := fun t k => pre1 t (by
        show Steps p.tables e below (s₁.setTop (mkF m 3 #[.val (.int p0), .val (.int p1), .unset, .unset, .unset, .unset, .unset, .unset, .unset] [(.int (p1 &&& (1 : Int32)))])) _
        refine XS.ifYes X0.here hx rfl (pc0 := 3) (pc' := 10) rfl (hb hby at_3) rfl ((if0 _ _).trans (teq hc3_2).1) (by decide) (by decide) ?_
        show Steps p.tables e below (s₁.setTop (mkF m 10 #[.val (.int p0), .val (.int p1), .unset, .unset, .unset, .unset, .unset, .unset, .unset] [])) _
        refine XS.iconst X0.here hx rfl (hb hby at_10) ?_
        exact k)
      have q_f0_m5 : f0_m5 p0 p1 = (0 : Int32) := by unfold f0_m5; rw [if_pos hc3_2]
      rw [q_f0_m5]
      exact ⟨s₁, _, X0, e0, N0, pre3⟩
    have pre4 : ∀ t, Steps p.tables e below (s₁.setTop (mkF m 11 #[.val (.int p0), .val (.int p1), .unset, .unset, .unset, .unset, .unset, .unset, .unset] [(.int (1 : Int32))])) t → Steps p.tables e below (s₁.setTop (entryFrame m #[(.int p0), (.int p1)] maxLocals)) t := fun t k => pre1 t (by
      show Steps p.tables e below (s₁.setTop (mkF m 3 #[.val (.int p0), .val (.int p1), .unset, .unset, .unset, .unset, .unset, .unset, .unset] [(.int (p1 &&& (1 : Int32)))])) _
      refine XS.ifNo X0.here hx rfl (hb hby at_3) rfl ((if0 _ _).trans (feq hc3_2).1) ?_
      show Steps p.tables e below (s₁.setTop (mkF m 6 #[.val (.int p0), .val (.int p1), .unset, .unset, .unset, .unset, .unset, .unset, .unset] [])) _
      refine XS.iconst X0.here hx rfl (hb hby at_6) ?_
      show Steps p.tables e below (s₁.setTop (mkF m 7 #[.val (.int p0), .val (.int p1), .unset, .unset, .unset, .unset, .unset, .unset, .unset] [(.int (1 : Int32))])) _
      refine XS.goto X0.here hx rfl (pc0 := 7) (pc' := 11) rfl (hb hby at_7) (by decide) (by decide) ?_
      exact k)
    have q_f0_m5 : f0_m5 p0 p1 = (1 : Int32) := by unfold f0_m5; rw [if_neg hc3_2]
    rw [q_f0_m5]
    exact ⟨s₁, _, X0, e0, N0, pre4⟩
  have pre6 : ∀ t, Steps p.tables e below (T2.setTop (mkF m 15 #[.val (.int p0), .val (.int p1), .val (.int (f0_m5 p0 p1)), .unset, .unset, .unset, .unset, .unset, .unset] [(.int (p1 &&& (2 : Int32)))])) t → Steps p.tables e below (s₁.setTop (entryFrame m #[(.int p0), (.int p1)] maxLocals)) t := fun t k => pre2 t (by
    show Steps p.tables e below (T2.setTop (mkF m 11 #[.val (.int p0), .val (.int p1), .unset, .unset, .unset, .unset, .unset, .unset, .unset] [(.int (f0_m5 p0 p1))])) _
    refine XS.istoreN X2.here hx rfl (hb hby at_11) rfl (l' := #[.val (.int p0), .val (.int p1), .val (.int (f0_m5 p0 p1)), .unset, .unset, .unset, .unset, .unset, .unset]) rfl ?_
    show Steps p.tables e below (T2.setTop (mkF m 12 #[.val (.int p0), .val (.int p1), .val (.int (f0_m5 p0 p1)), .unset, .unset, .unset, .unset, .unset, .unset] [])) _
    refine XS.iloadN X2.here hx rfl (hb hby at_12) rfl ?_
    show Steps p.tables e below (T2.setTop (mkF m 13 #[.val (.int p0), .val (.int p1), .val (.int (f0_m5 p0 p1)), .unset, .unset, .unset, .unset, .unset, .unset] [(.int p1)])) _
    refine XS.iconst X2.here hx rfl (hb hby at_13) ?_
    show Steps p.tables e below (T2.setTop (mkF m 14 #[.val (.int p0), .val (.int p1), .val (.int (f0_m5 p0 p1)), .unset, .unset, .unset, .unset, .unset, .unset] [(.int (2 : Int32)), (.int p1)])) _
    refine XS.iand X2.here hx rfl (hb hby at_14) rfl ?_
    exact k)
  obtain ⟨T7, L7, X7, e7, N7, pre7⟩ : ∃ (T' : State) (locs' : List Loc), Stand p l e room_1 s m #[(.int p0), (.int p1)] below meth c T' locs' 0 0 ∧ T'.heap = h0 ∧ Fr n0 locs' ∧ ∀ t, Steps p.tables e below (T'.setTop (mkF m 23 #[.val (.int p0), .val (.int p1), .val (.int (f0_m5 p0 p1)), .unset, .unset, .unset, .unset, .unset, .unset] [(.int (f0_m10 p0 p1))])) t → Steps p.tables e below (s₁.setTop (entryFrame m #[(.int p0), (.int p1)] maxLocals)) t := by
    by_cases hc15_7 : (p1 &&& (2 : Int32)) = (0 : Int32)
    · have pre8 : ∀ t, Steps p.tables e below (T2.setTop (mkF m 23 #[.val (.int p0), .val (.int p1), .val (.int (f0_m5 p0 p1)), .unset, .unset, .unset, .unset, .unset, .unset] [(.int (0 : Int32))])) t → Steps p.tables e below (s₁.setTop (entryFrame m #[(.int p0), (.int p1)] maxLocals)) t := fun t k => pre6 t (by
        show Steps p.tables e below (T2.setTop (mkF m 15 #[.val (.int p0), .val (.int p1), .val (.int (f0_m5 p0 p1)), .unset, .unset, .unset, .unset, .unset, .unset] [(.int (p1 &&& (2 : Int32)))])) _
        refine XS.ifYes X2.here hx rfl (pc0 := 15) (pc' := 22) rfl (hb hby at_15) rfl ((if0 _ _).trans (teq hc15_7).1) (by decide) (by decide) ?_
        show Steps p.tables e below (T2.setTop (mkF m 22 #[.val (.int p0), .val (.int p1), .val (.int (f0_m5 p0 p1)), .unset, .unset, .unset, .unset, .unset, .unset] [])) _
        refine XS.iconst X2.here hx rfl (hb hby at_22) ?_
        exact k)
      have q_f0_m10 : f0_m10 p0 p1 = (0 : Int32) := by unfold f0_m10; rw [if_pos hc15_7]
      rw [q_f0_m10]
      exact ⟨T2, _, X2, e2, N2, pre8⟩
    have pre9 : ∀ t, Steps p.tables e below (T2.setTop (mkF m 23 #[.val (.int p0), .val (.int p1), .val (.int (f0_m5 p0 p1)), .unset, .unset, .unset, .unset, .unset, .unset] [(.int (1 : Int32))])) t → Steps p.tables e below (s₁.setTop (entryFrame m #[(.int p0), (.int p1)] maxLocals)) t := fun t k => pre6 t (by
      show Steps p.tables e below (T2.setTop (mkF m 15 #[.val (.int p0), .val (.int p1), .val (.int (f0_m5 p0 p1)), .unset, .unset, .unset, .unset, .unset, .unset] [(.int (p1 &&& (2 : Int32)))])) _
      refine XS.ifNo X2.here hx rfl (hb hby at_15) rfl ((if0 _ _).trans (feq hc15_7).1) ?_
      show Steps p.tables e below (T2.setTop (mkF m 18 #[.val (.int p0), .val (.int p1), .val (.int (f0_m5 p0 p1)), .unset, .unset, .unset, .unset, .unset, .unset] [])) _
      refine XS.iconst X2.here hx rfl (hb hby at_18) ?_
      show Steps p.tables e below (T2.setTop (mkF m 19 #[.val (.int p0), .val (.int p1), .val (.int (f0_m5 p0 p1)), .unset, .unset, .unset, .unset, .unset, .unset] [(.int (1 : Int32))])) _
      refine XS.goto X2.here hx rfl (pc0 := 19) (pc' := 23) rfl (hb hby at_19) (by decide) (by decide) ?_
      exact k)
    have q_f0_m10 : f0_m10 p0 p1 = (1 : Int32) := by unfold f0_m10; rw [if_neg hc15_7]
    rw [q_f0_m10]
    exact ⟨T2, _, X2, e2, N2, pre9⟩
  obtain ⟨T11, h11, X11, e11, E11, A11, D11, -, st11⟩ := newO X7 hx hZ hown (hw _ (List.mem_of_getElem? (i := 0) rfl)) (hw _ (List.mem_of_getElem? (i := 1) rfl)) (hw _ (List.mem_of_getElem? (i := 2) rfl)) e7 (g := (mkF m 24 #[.val (.int p0), .val (.int p1), .val (.int (f0_m5 p0 p1)), .val (.int (f0_m10 p0 p1)), .unset, .unset, .unset, .unset, .unset] [])) rfl (hb hby at_24) (by decide) (by decide)
  obtain ⟨b11, g11⟩ : ∃ z, z = h0.size := ⟨_, rfl⟩
  rw [← g11] at A11 D11 st11
  have g_b11 : n0 ≤ b11 := Nat.le_trans Z0 (Nat.le_of_eq g11.symm)
  have Z11 : n0 ≤ h11.size := Nat.le_trans Z0 E11.1
  have O11 : Old Z n0 h11 := OLD0.ext E11
  have F11_path : Fld Z h11 b11 "com/example/panchayat/panchayat/protocol/CreateRequest" "path" "Ljava/lang/String;" .null := D11 (Or.inr (hw _ (List.mem_of_getElem? (i := 39) rfl))) (ty := (.object "java/lang/String")) (by decide)
  have F11_data : Fld Z h11 b11 "com/example/panchayat/panchayat/protocol/CreateRequest" "data" "[B" .null := D11 (Or.inr (hw _ (List.mem_of_getElem? (i := 41) rfl))) (ty := (.array .byte)) (by decide)
  have F11_acl : Fld Z h11 b11 "com/example/panchayat/panchayat/protocol/CreateRequest" "acl" "Ljava/util/List;" .null := D11 (Or.inr (hw _ (List.mem_of_getElem? (i := 43) rfl))) (ty := (.object "java/util/List")) (by decide)
  have F11_flags : Fld Z h11 b11 "com/example/panchayat/panchayat/protocol/CreateRequest" "flags" "I" (.int (0 : Int32)) := D11 (Or.inr (hw _ (List.mem_of_getElem? (i := 45) rfl))) (ty := .int) (by decide)
  obtain ⟨T12, h12, X12, e12, E12, A12, D12, -, st12⟩ := newO X11 hx hZ hown (hw _ (List.mem_of_getElem? (i := 3) rfl)) (hw _ (List.mem_of_getElem? (i := 4) rfl)) (hw _ (List.mem_of_getElem? (i := 5) rfl)) e11 (g := (mkF m 30 #[.val (.int p0), .val (.int p1), .val (.int (f0_m5 p0 p1)), .val (.int (f0_m10 p0 p1)), .unset, .unset, .unset, .unset, .unset] [.null, .null, (.ref b11), (.ref b11)])) rfl (hb hby at_30) (by decide) (by decide)
  obtain ⟨b12, g12⟩ : ∃ z, z = h11.size := ⟨_, rfl⟩
  rw [← g12] at A12 D12 st12
  have ne_b11_b12 : b11 ≠ b12 := Nat.ne_of_lt (Nat.lt_of_lt_of_le A11.lt (Nat.le_of_eq g12.symm))
  have g_b12 : n0 ≤ b12 := Nat.le_trans Z11 (Nat.le_of_eq g12.symm)
  have Z12 : n0 ≤ h12.size := Nat.le_trans Z11 E12.1
  have O12 : Old Z n0 h12 := O11.ext E12
  have F12_modCount : Fld Z h12 b12 "java/util/AbstractList" "modCount" "I" (.int (0 : Int32)) := D12 (Or.inl (hw _ (List.mem_of_getElem? (i := 25) rfl))) (ty := .int) (by decide)
  have F12_elementData : Fld Z h12 b12 "java/util/ArrayList" "elementData" "[Ljava/lang/Object;" .null := D12 (Or.inl (hw _ (List.mem_of_getElem? (i := 28) rfl))) (ty := (.array (.object "java/lang/Object"))) (by decide)
  obtain ⟨_, _, ⟨T13, L13, k13, n13⟩, -, X13, ⟨Lc13, hQ13, l13, y13, z13⟩, st13⟩ := X12.specialBack hx (y := (⟨"java/util/ArrayList", "<init>", "()V"⟩ : MethodName)) rfl hown (mvT hZ (hw _ (List.mem_of_getElem? (i := 6) rfl))) (mvT hZ (hw _ (List.mem_of_getElem? (i := 7) rfl))) (mvT hZ (hw _ (List.mem_of_getElem? (i := 8) rfl))) (by decide) (backOf (W := 5) (rm1 l Z a0' hw [] b12 (0 : Int32) .null s_DEFAULTCAPACITY_EMPTY_ELEMENTDATA h12 n0 Z12 A12 F12_modCount F12_elementData g_b12 O12 S_s_DEFAULTCAPACITY_EMPTY_ELEMENTDATA) hZ (hw _ (List.mem_of_getElem? (i := 8) rfl)) (hw _ (List.mem_of_getElem? (i := 5) rfl)) (by decide) (by decide)) (g := (mkF m 34 #[.val (.int p0), .val (.int p1), .val (.int (f0_m5 p0 p1)), .val (.int (f0_m10 p0 p1)), .unset, .unset, .unset, .unset, .unset] [(.ref b12), (.ref b12), .null, .null, (.ref b11), (.ref b11)])) rfl (by rw [hml]; rfl) (Steps.refl _) (a := b12) (argsL := []) (rest := [(.ref b12), .null, .null, (.ref b11), (.ref b11)]) (lenOf pd0 rfl) rfl (by show 2 * 0 + _ ≤ _; exact Nat.le_of_eq rfl) (hb hby at_34) (fun _ _ => ⟨rfl, e12, (by decide : 2 + 0 ≤ _), (by decide : 7 + 0 ≤ _)⟩)
  dsimp only [Pt.U, Pt.locs, Pt.cells, Pt.slots] at X13 l13 y13 z13 st13 hQ13
  subst l13 y13 z13
  obtain ⟨rfl, N13q, K13, u13_0, u13_1, u13_2⟩ := hQ13
  have N13 := Fr.app N7 N13q
  have Z13 : n0 ≤ T13.heap.size := Nat.le_trans Z12 K13.1
  have O13 : Old Z n0 T13.heap := O12.keep K13 (allS g_b12 all0)
  have y15 := ((F11_path.ext E12).keep K13 (ninS ne_b11_b12 nin0))
  have y16 := ((F11_data.ext E12).keep K13 (ninS ne_b11_b12 nin0))
  have y17 := ((F11_acl.ext E12).keep K13 (ninS ne_b11_b12 nin0))
  have y18 := ((F11_flags.ext E12).keep K13 (ninS ne_b11_b12 nin0))
  have y19 := ((A11.ext E12).keep K13)
  obtain ⟨_, _, ⟨T14, L14, k14, n14⟩, -, X14, ⟨Lc14, hQ14, l14, y14, z14⟩, st14⟩ := X13.specialBack hx (y := (⟨"com/example/panchayat/panchayat/protocol/CreateRequest", "<init>", "(Ljava/lang/String;[BLjava/util/List;I)V"⟩ : MethodName)) rfl hown (mvT hZ (hw _ (List.mem_of_getElem? (i := 29) rfl))) (mvT hZ (hw _ (List.mem_of_getElem? (i := 30) rfl))) (mvT hZ (hw _ (List.mem_of_getElem? (i := 31) rfl))) (by decide) (backOf (W := 1) (rm5 l Z a0' hw [] b11 b12 p0 .null .null .null (0 : Int32) T13.heap n0 Z13 y19 y15 y16 y17 y18 g_b11) hZ (hw _ (List.mem_of_getElem? (i := 31) rfl)) (hw _ (List.mem_of_getElem? (i := 2) rfl)) (by decide) (by decide)) (g := (mkF m 38 #[.val (.int p0), .val (.int p1), .val (.int (f0_m5 p0 p1)), .val (.int (f0_m10 p0 p1)), .unset, .unset, .unset, .unset, .unset] [(.int p0), (.ref b12), .null, .null, (.ref b11), (.ref b11)])) rfl (by rw [hml]; rfl) (Steps.refl _) (a := b11) (argsL := [.null, .null, (.ref b12), (.int p0)]) (rest := [(.ref b11)]) (lenOf pd1 rfl) rfl (by show 2 * 0 + _ ≤ _; exact Nat.le_of_eq rfl) (hb hby at_38) (fun _ _ => ⟨rfl, rfl, (by decide : 2 + 0 ≤ _), (by decide : 7 + 0 ≤ _)⟩)
  dsimp only [Pt.U, Pt.locs, Pt.cells, Pt.slots] at X14 l14 y14 z14 st14 hQ14
  subst l14 y14 z14
  obtain ⟨rfl, N14q, K14, u14_0, u14_1, u14_2, u14_3, u14_4⟩ := hQ14
  have N14 := Fr.app N13 N14q
  have Z14 : n0 ≤ T14.heap.size := Nat.le_trans Z13 K14.1
  have O14 : Old Z n0 T14.heap := O13.keep K14 (allS g_b11 all0)
  obtain ⟨T20, h20, X20, e20, E20, A20, D20, -, st20⟩ := newO X14 hx hZ hown (hw _ (List.mem_of_getElem? (i := 0) rfl)) (hw _ (List.mem_of_getElem? (i := 1) rfl)) (hw _ (List.mem_of_getElem? (i := 2) rfl)) rfl (g := (mkF m 43 #[.val (.int p0), .val (.int p1), .val (.int (f0_m5 p0 p1)), .val (.int (f0_m10 p0 p1)), .val (.ref b11), .unset, .unset, .unset, .unset] [])) rfl (hb hby at_43) (by decide) (by decide)
  obtain ⟨b20, g20⟩ : ∃ z, z = T14.heap.size := ⟨_, rfl⟩
  rw [← g20] at A20 D20 st20
  have ne_b11_b20 : b11 ≠ b20 := Nat.ne_of_lt (Nat.lt_of_lt_of_le u14_0.lt (Nat.le_of_eq g20.symm))
  have y21 := (u13_0.keep K14)
  have ne_b12_b20 : b12 ≠ b20 := Nat.ne_of_lt (Nat.lt_of_lt_of_le y21.lt (Nat.le_of_eq g20.symm))
  have g_b20 : n0 ≤ b20 := Nat.le_trans Z14 (Nat.le_of_eq g20.symm)
  have Z20 : n0 ≤ h20.size := Nat.le_trans Z14 E20.1
  have O20 : Old Z n0 h20 := O14.ext E20
  have F20_path : Fld Z h20 b20 "com/example/panchayat/panchayat/protocol/CreateRequest" "path" "Ljava/lang/String;" .null := D20 (Or.inr (hw _ (List.mem_of_getElem? (i := 39) rfl))) (ty := (.object "java/lang/String")) (by decide)
  have F20_data : Fld Z h20 b20 "com/example/panchayat/panchayat/protocol/CreateRequest" "data" "[B" .null := D20 (Or.inr (hw _ (List.mem_of_getElem? (i := 41) rfl))) (ty := (.array .byte)) (by decide)
  have F20_acl : Fld Z h20 b20 "com/example/panchayat/panchayat/protocol/CreateRequest" "acl" "Ljava/util/List;" .null := D20 (Or.inr (hw _ (List.mem_of_getElem? (i := 43) rfl))) (ty := (.object "java/util/List")) (by decide)
  have F20_flags : Fld Z h20 b20 "com/example/panchayat/panchayat/protocol/CreateRequest" "flags" "I" (.int (0 : Int32)) := D20 (Or.inr (hw _ (List.mem_of_getElem? (i := 45) rfl))) (ty := .int) (by decide)
  obtain ⟨T22, h22, X22, e22, E22, A22, D22, -, st22⟩ := newO X20 hx hZ hown (hw _ (List.mem_of_getElem? (i := 3) rfl)) (hw _ (List.mem_of_getElem? (i := 4) rfl)) (hw _ (List.mem_of_getElem? (i := 5) rfl)) e20 (g := (mkF m 49 #[.val (.int p0), .val (.int p1), .val (.int (f0_m5 p0 p1)), .val (.int (f0_m10 p0 p1)), .val (.ref b11), .unset, .unset, .unset, .unset] [.null, .null, (.ref b20), (.ref b20)])) rfl (hb hby at_49) (by decide) (by decide)
  obtain ⟨b22, g22⟩ : ∃ z, z = h20.size := ⟨_, rfl⟩
  rw [← g22] at A22 D22 st22
  have y23 := (u14_0.ext E20)
  have ne_b11_b22 : b11 ≠ b22 := Nat.ne_of_lt (Nat.lt_of_lt_of_le y23.lt (Nat.le_of_eq g22.symm))
  have y24 := (y21.ext E20)
  have ne_b12_b22 : b12 ≠ b22 := Nat.ne_of_lt (Nat.lt_of_lt_of_le y24.lt (Nat.le_of_eq g22.symm))
  have ne_b20_b22 : b20 ≠ b22 := Nat.ne_of_lt (Nat.lt_of_lt_of_le A20.lt (Nat.le_of_eq g22.symm))
  have g_b22 : n0 ≤ b22 := Nat.le_trans Z20 (Nat.le_of_eq g22.symm)
  have Z22 : n0 ≤ h22.size := Nat.le_trans Z20 E22.1
  have O22 : Old Z n0 h22 := O20.ext E22
  have F22_modCount : Fld Z h22 b22 "java/util/AbstractList" "modCount" "I" (.int (0 : Int32)) := D22 (Or.inl (hw _ (List.mem_of_getElem? (i := 25) rfl))) (ty := .int) (by decide)
  have F22_elementData : Fld Z h22 b22 "java/util/ArrayList" "elementData" "[Ljava/lang/Object;" .null := D22 (Or.inl (hw _ (List.mem_of_getElem? (i := 28) rfl))) (ty := (.array (.object "java/lang/Object"))) (by decide)
  obtain ⟨_, _, ⟨T25, L25, k25, n25⟩, -, X25, ⟨Lc25, hQ25, l25, y25, z25⟩, st25⟩ := X22.specialBack hx (y := (⟨"java/util/ArrayList", "<init>", "()V"⟩ : MethodName)) rfl hown (mvT hZ (hw _ (List.mem_of_getElem? (i := 6) rfl))) (mvT hZ (hw _ (List.mem_of_getElem? (i := 7) rfl))) (mvT hZ (hw _ (List.mem_of_getElem? (i := 8) rfl))) (by decide) (backOf (W := 5) (rm1 l Z a0' hw [] b22 (0 : Int32) .null s_DEFAULTCAPACITY_EMPTY_ELEMENTDATA h22 n0 Z22 A22 F22_modCount F22_elementData g_b22 O22 S_s_DEFAULTCAPACITY_EMPTY_ELEMENTDATA) hZ (hw _ (List.mem_of_getElem? (i := 8) rfl)) (hw _ (List.mem_of_getElem? (i := 5) rfl)) (by decide) (by decide)) (g := (mkF m 53 #[.val (.int p0), .val (.int p1), .val (.int (f0_m5 p0 p1)), .val (.int (f0_m10 p0 p1)), .val (.ref b11), .unset, .unset, .unset, .unset] [(.ref b22), (.ref b22), .null, .null, (.ref b20), (.ref b20)])) rfl (by rw [hml]; rfl) (Steps.refl _) (a := b22) (argsL := []) (rest := [(.ref b22), .null, .null, (.ref b20), (.ref b20)]) (lenOf pd0 rfl) rfl (by show 2 * 0 + _ ≤ _; exact Nat.le_of_eq rfl) (hb hby at_53) (fun _ _ => ⟨rfl, e22, (by decide : 4 + 0 ≤ _), (by decide : 14 + 0 ≤ _)⟩)
  dsimp only [Pt.U, Pt.locs, Pt.cells, Pt.slots] at X25 l25 y25 z25 st25 hQ25
  subst l25 y25 z25
  obtain ⟨rfl, N25q, K25, u25_0, u25_1, u25_2⟩ := hQ25
  have N25 := Fr.app N14 N25q
  have Z25 : n0 ≤ T25.heap.size := Nat.le_trans Z22 K25.1
  have O25 : Old Z n0 T25.heap := O22.keep K25 (allS g_b22 all0)
  obtain ⟨_, _, ⟨T26, L26, k26, n26⟩, -, X26, ⟨Lc26, hQ26, l26, y26, z26⟩, st26⟩ := Jvm.LawKit.callS X25 hx (y := (⟨"com/example/panchayat/panchayat/protocol/CreateRequest", "mode", "(ZZ)I"⟩ : MethodName)) hown (mvT hZ (hw _ (List.mem_of_getElem? (i := 46) rfl))) (mvT hZ (hw _ (List.mem_of_getElem? (i := 47) rfl))) (mvT hZ (hw _ (List.mem_of_getElem? (i := 2) rfl))) (mvT hZ (hw _ (List.mem_of_getElem? (i := 48) rfl))) (by decide) (backOf (W := 5) (rm7 l Z a0' hw [] (f0_m5 p0 p1) (f0_m10 p0 p1) T25.heap n0 Z25) hZ (hw _ (List.mem_of_getElem? (i := 48) rfl)) (hw _ (List.mem_of_getElem? (i := 2) rfl)) (by decide) (by decide)) (g := (mkF m 58 #[.val (.int p0), .val (.int p1), .val (.int (f0_m5 p0 p1)), .val (.int (f0_m10 p0 p1)), .val (.ref b11), .unset, .unset, .unset, .unset] [(.int (f0_m10 p0 p1)), (.int (f0_m5 p0 p1)), (.ref b22), .null, .null, (.ref b20), (.ref b20)])) rfl (by rw [hml]; rfl) (argsL := [(.int (f0_m5 p0 p1)), (.int (f0_m10 p0 p1))]) (rest := [(.ref b22), .null, .null, (.ref b20), (.ref b20)]) (lenOf pd2 rfl) rfl (by show 2 * 0 + _ ≤ _; exact Nat.le_of_eq rfl) (hb hby at_58) (fun _ _ => ⟨rfl, rfl, (by decide : 4 + 0 ≤ _), (by decide : 14 + 0 ≤ _)⟩)
  dsimp only [Pt.U, Pt.locs, Pt.cells, Pt.slots] at X26 l26 y26 z26 st26 hQ26
  subst l26 y26 z26
  obtain ⟨rfl, N26q, e26⟩ := hQ26
  have N26 := Fr.app N25 N26q
  have y28 := ((F20_path.ext E22).keep K25 (ninS ne_b20_b22 nin0))
  have y29 := ((F20_data.ext E22).keep K25 (ninS ne_b20_b22 nin0))
  have y30 := ((F20_acl.ext E22).keep K25 (ninS ne_b20_b22 nin0))
  have y31 := ((F20_flags.ext E22).keep K25 (ninS ne_b20_b22 nin0))
  have y32 := ((A20.ext E22).keep K25)
  obtain ⟨_, _, ⟨T27, L27, k27, n27⟩, -, X27, ⟨Lc27, hQ27, l27, y27, z27⟩, st27⟩ := X26.specialBack hx (y := (⟨"com/example/panchayat/panchayat/protocol/CreateRequest", "<init>", "(Ljava/lang/String;[BLjava/util/List;I)V"⟩ : MethodName)) rfl hown (mvT hZ (hw _ (List.mem_of_getElem? (i := 29) rfl))) (mvT hZ (hw _ (List.mem_of_getElem? (i := 30) rfl))) (mvT hZ (hw _ (List.mem_of_getElem? (i := 31) rfl))) (by decide) (backOf (W := 1) (rm5 l Z a0' hw [] b20 b22 (F7 (f0_m5 p0 p1) (f0_m10 p0 p1)) .null .null .null (0 : Int32) T25.heap n0 Z25 y32 y28 y29 y30 y31 g_b20) hZ (hw _ (List.mem_of_getElem? (i := 31) rfl)) (hw _ (List.mem_of_getElem? (i := 2) rfl)) (by decide) (by decide)) (g := (mkF m 61 #[.val (.int p0), .val (.int p1), .val (.int (f0_m5 p0 p1)), .val (.int (f0_m10 p0 p1)), .val (.ref b11), .unset, .unset, .unset, .unset] [(.int (F7 (f0_m5 p0 p1) (f0_m10 p0 p1))), (.ref b22), .null, .null, (.ref b20), (.ref b20)])) rfl (by rw [hml]; rfl) (Steps.refl _) (a := b20) (argsL := [.null, .null, (.ref b22), (.int (F7 (f0_m5 p0 p1) (f0_m10 p0 p1)))]) (rest := [(.ref b20)]) (lenOf pd1 rfl) rfl (by show 2 * 0 + _ ≤ _; exact Nat.le_of_eq rfl) (hb hby at_61) (fun _ _ => ⟨rfl, e26, (by decide : 4 + 0 ≤ _), (by decide : 14 + 0 ≤ _)⟩)
  dsimp only [Pt.U, Pt.locs, Pt.cells, Pt.slots] at X27 l27 y27 z27 st27 hQ27
  subst l27 y27 z27
  obtain ⟨rfl, N27q, K27, u27_0, u27_1, u27_2, u27_3, u27_4⟩ := hQ27
  have N27 := Fr.app N26 N27q
  have Z27 : n0 ≤ T27.heap.size := Nat.le_trans Z25 K27.1
  have O27 : Old Z n0 T27.heap := O25.keep K27 (allS g_b20 all0)
  have pre33 : ∀ t, Steps p.tables e below (T27.setTop (mkF m 69 #[.val (.int p0), .val (.int p1), .val (.int (f0_m5 p0 p1)), .val (.int (f0_m10 p0 p1)), .val (.ref b11), .val (.ref b20), .unset, .unset, .unset] [(.int (p0 % (2 : Int32)))])) t → Steps p.tables e below (s₁.setTop (entryFrame m #[(.int p0), (.int p1)] maxLocals)) t := fun t k => pre7 t (by
    show Steps p.tables e below (T7.setTop (mkF m 23 #[.val (.int p0), .val (.int p1), .val (.int (f0_m5 p0 p1)), .unset, .unset, .unset, .unset, .unset, .unset] [(.int (f0_m10 p0 p1))])) _
    refine XS.istoreN X7.here hx rfl (hb hby at_23) rfl (l' := #[.val (.int p0), .val (.int p1), .val (.int (f0_m5 p0 p1)), .val (.int (f0_m10 p0 p1)), .unset, .unset, .unset, .unset, .unset]) rfl ?_
    show Steps p.tables e below (T7.setTop (mkF m 24 #[.val (.int p0), .val (.int p1), .val (.int (f0_m5 p0 p1)), .val (.int (f0_m10 p0 p1)), .unset, .unset, .unset, .unset, .unset] [])) _
    refine st11 _ ?_
    show Steps p.tables e below (T11.setTop (mkF m 27 #[.val (.int p0), .val (.int p1), .val (.int (f0_m5 p0 p1)), .val (.int (f0_m10 p0 p1)), .unset, .unset, .unset, .unset, .unset] [(.ref b11)])) _
    refine XS.dup X11.here hx rfl (hb hby at_27) rfl rfl ?_
    show Steps p.tables e below (T11.setTop (mkF m 28 #[.val (.int p0), .val (.int p1), .val (.int (f0_m5 p0 p1)), .val (.int (f0_m10 p0 p1)), .unset, .unset, .unset, .unset, .unset] [(.ref b11), (.ref b11)])) _
    refine XS.aconstNull X11.here hx rfl (hb hby at_28) ?_
    show Steps p.tables e below (T11.setTop (mkF m 29 #[.val (.int p0), .val (.int p1), .val (.int (f0_m5 p0 p1)), .val (.int (f0_m10 p0 p1)), .unset, .unset, .unset, .unset, .unset] [.null, (.ref b11), (.ref b11)])) _
    refine XS.aconstNull X11.here hx rfl (hb hby at_29) ?_
    show Steps p.tables e below (T11.setTop (mkF m 30 #[.val (.int p0), .val (.int p1), .val (.int (f0_m5 p0 p1)), .val (.int (f0_m10 p0 p1)), .unset, .unset, .unset, .unset, .unset] [.null, .null, (.ref b11), (.ref b11)])) _
    refine st12 _ ?_
    show Steps p.tables e below (T12.setTop (mkF m 33 #[.val (.int p0), .val (.int p1), .val (.int (f0_m5 p0 p1)), .val (.int (f0_m10 p0 p1)), .unset, .unset, .unset, .unset, .unset] [(.ref b12), .null, .null, (.ref b11), (.ref b11)])) _
    refine XS.dup X12.here hx rfl (hb hby at_33) rfl rfl ?_
    show Steps p.tables e below (T12.setTop (mkF m 34 #[.val (.int p0), .val (.int p1), .val (.int (f0_m5 p0 p1)), .val (.int (f0_m10 p0 p1)), .unset, .unset, .unset, .unset, .unset] [(.ref b12), (.ref b12), .null, .null, (.ref b11), (.ref b11)])) _
    refine st13.trans ?_
    show Steps p.tables e below (T13.setTop (mkF m 37 #[.val (.int p0), .val (.int p1), .val (.int (f0_m5 p0 p1)), .val (.int (f0_m10 p0 p1)), .unset, .unset, .unset, .unset, .unset] [(.ref b12), .null, .null, (.ref b11), (.ref b11)])) _
    refine XS.iloadN X13.here hx rfl (hb hby at_37) rfl ?_
    show Steps p.tables e below (T13.setTop (mkF m 38 #[.val (.int p0), .val (.int p1), .val (.int (f0_m5 p0 p1)), .val (.int (f0_m10 p0 p1)), .unset, .unset, .unset, .unset, .unset] [(.int p0), (.ref b12), .null, .null, (.ref b11), (.ref b11)])) _
    refine st14.trans ?_
    show Steps p.tables e below (T14.setTop (mkF m 41 #[.val (.int p0), .val (.int p1), .val (.int (f0_m5 p0 p1)), .val (.int (f0_m10 p0 p1)), .unset, .unset, .unset, .unset, .unset] [(.ref b11)])) _
    refine XS.astore X14.here hx rfl (hb hby at_41) rfl rfl (l' := #[.val (.int p0), .val (.int p1), .val (.int (f0_m5 p0 p1)), .val (.int (f0_m10 p0 p1)), .val (.ref b11), .unset, .unset, .unset, .unset]) rfl ?_
    show Steps p.tables e below (T14.setTop (mkF m 43 #[.val (.int p0), .val (.int p1), .val (.int (f0_m5 p0 p1)), .val (.int (f0_m10 p0 p1)), .val (.ref b11), .unset, .unset, .unset, .unset] [])) _
    refine st20 _ ?_
    show Steps p.tables e below (T20.setTop (mkF m 46 #[.val (.int p0), .val (.int p1), .val (.int (f0_m5 p0 p1)), .val (.int (f0_m10 p0 p1)), .val (.ref b11), .unset, .unset, .unset, .unset] [(.ref b20)])) _
    refine XS.dup X20.here hx rfl (hb hby at_46) rfl rfl ?_
    show Steps p.tables e below (T20.setTop (mkF m 47 #[.val (.int p0), .val (.int p1), .val (.int (f0_m5 p0 p1)), .val (.int (f0_m10 p0 p1)), .val (.ref b11), .unset, .unset, .unset, .unset] [(.ref b20), (.ref b20)])) _
    refine XS.aconstNull X20.here hx rfl (hb hby at_47) ?_
    show Steps p.tables e below (T20.setTop (mkF m 48 #[.val (.int p0), .val (.int p1), .val (.int (f0_m5 p0 p1)), .val (.int (f0_m10 p0 p1)), .val (.ref b11), .unset, .unset, .unset, .unset] [.null, (.ref b20), (.ref b20)])) _
    refine XS.aconstNull X20.here hx rfl (hb hby at_48) ?_
    show Steps p.tables e below (T20.setTop (mkF m 49 #[.val (.int p0), .val (.int p1), .val (.int (f0_m5 p0 p1)), .val (.int (f0_m10 p0 p1)), .val (.ref b11), .unset, .unset, .unset, .unset] [.null, .null, (.ref b20), (.ref b20)])) _
    refine st22 _ ?_
    show Steps p.tables e below (T22.setTop (mkF m 52 #[.val (.int p0), .val (.int p1), .val (.int (f0_m5 p0 p1)), .val (.int (f0_m10 p0 p1)), .val (.ref b11), .unset, .unset, .unset, .unset] [(.ref b22), .null, .null, (.ref b20), (.ref b20)])) _
    refine XS.dup X22.here hx rfl (hb hby at_52) rfl rfl ?_
    show Steps p.tables e below (T22.setTop (mkF m 53 #[.val (.int p0), .val (.int p1), .val (.int (f0_m5 p0 p1)), .val (.int (f0_m10 p0 p1)), .val (.ref b11), .unset, .unset, .unset, .unset] [(.ref b22), (.ref b22), .null, .null, (.ref b20), (.ref b20)])) _
    refine st25.trans ?_
    show Steps p.tables e below (T25.setTop (mkF m 56 #[.val (.int p0), .val (.int p1), .val (.int (f0_m5 p0 p1)), .val (.int (f0_m10 p0 p1)), .val (.ref b11), .unset, .unset, .unset, .unset] [(.ref b22), .null, .null, (.ref b20), (.ref b20)])) _
    refine XS.iloadN X25.here hx rfl (hb hby at_56) rfl ?_
    show Steps p.tables e below (T25.setTop (mkF m 57 #[.val (.int p0), .val (.int p1), .val (.int (f0_m5 p0 p1)), .val (.int (f0_m10 p0 p1)), .val (.ref b11), .unset, .unset, .unset, .unset] [(.int (f0_m5 p0 p1)), (.ref b22), .null, .null, (.ref b20), (.ref b20)])) _
    refine XS.iloadN X25.here hx rfl (hb hby at_57) rfl ?_
    show Steps p.tables e below (T25.setTop (mkF m 58 #[.val (.int p0), .val (.int p1), .val (.int (f0_m5 p0 p1)), .val (.int (f0_m10 p0 p1)), .val (.ref b11), .unset, .unset, .unset, .unset] [(.int (f0_m10 p0 p1)), (.int (f0_m5 p0 p1)), (.ref b22), .null, .null, (.ref b20), (.ref b20)])) _
    refine st26 _ ?_
    show Steps p.tables e below (T26.setTop (mkF m 61 #[.val (.int p0), .val (.int p1), .val (.int (f0_m5 p0 p1)), .val (.int (f0_m10 p0 p1)), .val (.ref b11), .unset, .unset, .unset, .unset] [(.int (F7 (f0_m5 p0 p1) (f0_m10 p0 p1))), (.ref b22), .null, .null, (.ref b20), (.ref b20)])) _
    refine st27.trans ?_
    show Steps p.tables e below (T27.setTop (mkF m 64 #[.val (.int p0), .val (.int p1), .val (.int (f0_m5 p0 p1)), .val (.int (f0_m10 p0 p1)), .val (.ref b11), .unset, .unset, .unset, .unset] [(.ref b20)])) _
    refine XS.astore X27.here hx rfl (hb hby at_64) rfl rfl (l' := #[.val (.int p0), .val (.int p1), .val (.int (f0_m5 p0 p1)), .val (.int (f0_m10 p0 p1)), .val (.ref b11), .val (.ref b20), .unset, .unset, .unset]) rfl ?_
    show Steps p.tables e below (T27.setTop (mkF m 66 #[.val (.int p0), .val (.int p1), .val (.int (f0_m5 p0 p1)), .val (.int (f0_m10 p0 p1)), .val (.ref b11), .val (.ref b20), .unset, .unset, .unset] [])) _
    refine XS.iloadN X27.here hx rfl (hb hby at_66) rfl ?_
    show Steps p.tables e below (T27.setTop (mkF m 67 #[.val (.int p0), .val (.int p1), .val (.int (f0_m5 p0 p1)), .val (.int (f0_m10 p0 p1)), .val (.ref b11), .val (.ref b20), .unset, .unset, .unset] [(.int p0)])) _
    refine XS.iconst X27.here hx rfl (hb hby at_67) ?_
    show Steps p.tables e below (T27.setTop (mkF m 68 #[.val (.int p0), .val (.int p1), .val (.int (f0_m5 p0 p1)), .val (.int (f0_m10 p0 p1)), .val (.ref b11), .val (.ref b20), .unset, .unset, .unset] [(.int (2 : Int32)), (.int p0)])) _
    refine Jvm.RoadKit.iremM X27 hx rfl (hb hby at_68) rfl (by decide) ?_
    exact k)
  obtain ⟨T34, L34, X34, e34, N34, pre34⟩ : ∃ (T' : State) (locs' : List Loc), Stand p l e room_1 s m #[(.int p0), (.int p1)] below meth c T' locs' 4 14 ∧ T'.heap = T27.heap ∧ Fr n0 locs' ∧ ∀ t, Steps p.tables e below (T'.setTop (mkF m 77 #[.val (.int p0), .val (.int p1), .val (.int (f0_m5 p0 p1)), .val (.int (f0_m10 p0 p1)), .val (.ref b11), .val (.ref b20), .unset, .unset, .unset] [(.int (f0_m37 p0 p1))])) t → Steps p.tables e below (s₁.setTop (entryFrame m #[(.int p0), (.int p1)] maxLocals)) t := by
    by_cases hc69_34 : (p0 % (2 : Int32)) = (0 : Int32)
    · have pre35 : ∀ t, Steps p.tables e below (T27.setTop (mkF m 77 #[.val (.int p0), .val (.int p1), .val (.int (f0_m5 p0 p1)), .val (.int (f0_m10 p0 p1)), .val (.ref b11), .val (.ref b20), .unset, .unset, .unset] [(.int (0 : Int32))])) t → Steps p.tables e below (s₁.setTop (entryFrame m #[(.int p0), (.int p1)] maxLocals)) t := fun t k => pre33 t (by
        show Steps p.tables e below (T27.setTop (mkF m 69 #[.val (.int p0), .val (.int p1), .val (.int (f0_m5 p0 p1)), .val (.int (f0_m10 p0 p1)), .val (.ref b11), .val (.ref b20), .unset, .unset, .unset] [(.int (p0 % (2 : Int32)))])) _
        refine XS.ifYes X27.here hx rfl (pc0 := 69) (pc' := 76) rfl (hb hby at_69) rfl ((if0 _ _).trans (teq hc69_34).1) (by decide) (by decide) ?_
        show Steps p.tables e below (T27.setTop (mkF m 76 #[.val (.int p0), .val (.int p1), .val (.int (f0_m5 p0 p1)), .val (.int (f0_m10 p0 p1)), .val (.ref b11), .val (.ref b20), .unset, .unset, .unset] [])) _
        refine XS.iconst X27.here hx rfl (hb hby at_76) ?_
        exact k)
      have q_f0_m37 : f0_m37 p0 p1 = (0 : Int32) := by unfold f0_m37; rw [if_pos hc69_34]
      rw [q_f0_m37]
      exact ⟨T27, _, X27, rfl, N27, pre35⟩
    have pre36 : ∀ t, Steps p.tables e below (T27.setTop (mkF m 77 #[.val (.int p0), .val (.int p1), .val (.int (f0_m5 p0 p1)), .val (.int (f0_m10 p0 p1)), .val (.ref b11), .val (.ref b20), .unset, .unset, .unset] [(.int (1 : Int32))])) t → Steps p.tables e below (s₁.setTop (entryFrame m #[(.int p0), (.int p1)] maxLocals)) t := fun t k => pre33 t (by
      show Steps p.tables e below (T27.setTop (mkF m 69 #[.val (.int p0), .val (.int p1), .val (.int (f0_m5 p0 p1)), .val (.int (f0_m10 p0 p1)), .val (.ref b11), .val (.ref b20), .unset, .unset, .unset] [(.int (p0 % (2 : Int32)))])) _
      refine XS.ifNo X27.here hx rfl (hb hby at_69) rfl ((if0 _ _).trans (feq hc69_34).1) ?_
      show Steps p.tables e below (T27.setTop (mkF m 72 #[.val (.int p0), .val (.int p1), .val (.int (f0_m5 p0 p1)), .val (.int (f0_m10 p0 p1)), .val (.ref b11), .val (.ref b20), .unset, .unset, .unset] [])) _
      refine XS.iconst X27.here hx rfl (hb hby at_72) ?_
      show Steps p.tables e below (T27.setTop (mkF m 73 #[.val (.int p0), .val (.int p1), .val (.int (f0_m5 p0 p1)), .val (.int (f0_m10 p0 p1)), .val (.ref b11), .val (.ref b20), .unset, .unset, .unset] [(.int (1 : Int32))])) _
      refine XS.goto X27.here hx rfl (pc0 := 73) (pc' := 77) rfl (hb hby at_73) (by decide) (by decide) ?_
      exact k)
    have q_f0_m37 : f0_m37 p0 p1 = (1 : Int32) := by unfold f0_m37; rw [if_neg hc69_34]
    rw [q_f0_m37]
    exact ⟨T27, _, X27, rfl, N27, pre36⟩
  have y39 := ((((u14_4.ext E20).ext E22).keep K25 (ninS ne_b11_b22 nin0)).keep K27 (ninS ne_b11_b20 nin0))
  have y40 := (((y23.ext E22).keep K25).keep K27)
  obtain ⟨cq38, kq38, q38a, q38b, q38c⟩ := isOf hZ e34 y40
  obtain ⟨_, _, ⟨T38, L38, k38, n38⟩, -, X38, ⟨Lc38, hQ38, l38, y38, z38⟩, st38⟩ := X34.virtualBack hx (y := (⟨"com/example/panchayat/panchayat/protocol/CreateRequest", "isEphemeral", "()Z"⟩ : MethodName)) (z := (⟨"com/example/panchayat/panchayat/protocol/CreateRequest", "isEphemeral", "()Z"⟩ : MethodName)) hown (mvT hZ (hw _ (List.mem_of_getElem? (i := 49) rfl))) (mvT hZ (hw _ (List.mem_of_getElem? (i := 50) rfl))) (notFace_of_selects (args := #[]) (mvT hZ (hw _ (List.mem_of_getElem? (i := 52) rfl)))) (mvT hZ (hw _ (List.mem_of_getElem? (i := 52) rfl))) (mvT hZ (hw _ (List.mem_of_getElem? (i := 51) rfl))) (by decide) (backOf (W := 0) (rm8 l Z a0' hw [] b11 p0 T27.heap n0 Z27 y39) hZ (hw _ (List.mem_of_getElem? (i := 53) rfl)) (hw _ (List.mem_of_getElem? (i := 2) rfl)) (by decide) (by decide)) q38a q38c (g := (mkF m 81 #[.val (.int p0), .val (.int p1), .val (.int (f0_m5 p0 p1)), .val (.int (f0_m10 p0 p1)), .val (.ref b11), .val (.ref b20), .val (.int (f0_m37 p0 p1)), .unset, .unset] [(.ref b11)])) rfl (by rw [hml]; rfl) (Steps.refl _) (argsL := []) (rest := []) (lenOf pd3 rfl) rfl (by show 2 * 0 + _ ≤ _; exact Nat.le_of_eq rfl) (hb hby at_81) (fun _ _ => ⟨rfl, e34, (by decide : 4 + 0 ≤ _), (by decide : 14 + 0 ≤ _)⟩)
  dsimp only [Pt.U, Pt.locs, Pt.cells, Pt.slots] at X38 l38 y38 z38 st38 hQ38
  subst l38 y38 z38
  obtain ⟨rfl, N38q, e38⟩ := hQ38
  have N38 := Fr.app N34 N38q
  have pre41 : ∀ t, Steps p.tables e below (T38.setTop (mkF m 86 #[.val (.int p0), .val (.int p1), .val (.int (f0_m5 p0 p1)), .val (.int (f0_m10 p0 p1)), .val (.ref b11), .val (.ref b20), .val (.int (f0_m37 p0 p1)), .unset, .unset] [(.int (f0_m37 p0 p1)), (.int (F8 p0))])) t → Steps p.tables e below (s₁.setTop (entryFrame m #[(.int p0), (.int p1)] maxLocals)) t := fun t k => pre34 t (by
    show Steps p.tables e below (T34.setTop (mkF m 77 #[.val (.int p0), .val (.int p1), .val (.int (f0_m5 p0 p1)), .val (.int (f0_m10 p0 p1)), .val (.ref b11), .val (.ref b20), .unset, .unset, .unset] [(.int (f0_m37 p0 p1))])) _
    refine XS.istore X34.here hx rfl (hb hby at_77) rfl (l' := #[.val (.int p0), .val (.int p1), .val (.int (f0_m5 p0 p1)), .val (.int (f0_m10 p0 p1)), .val (.ref b11), .val (.ref b20), .val (.int (f0_m37 p0 p1)), .unset, .unset]) rfl ?_
    show Steps p.tables e below (T34.setTop (mkF m 79 #[.val (.int p0), .val (.int p1), .val (.int (f0_m5 p0 p1)), .val (.int (f0_m10 p0 p1)), .val (.ref b11), .val (.ref b20), .val (.int (f0_m37 p0 p1)), .unset, .unset] [])) _
    refine XS.aload X34.here hx rfl (hb hby at_79) rfl rfl ?_
    show Steps p.tables e below (T34.setTop (mkF m 81 #[.val (.int p0), .val (.int p1), .val (.int (f0_m5 p0 p1)), .val (.int (f0_m10 p0 p1)), .val (.ref b11), .val (.ref b20), .val (.int (f0_m37 p0 p1)), .unset, .unset] [(.ref b11)])) _
    refine st38.trans ?_
    show Steps p.tables e below (T38.setTop (mkF m 84 #[.val (.int p0), .val (.int p1), .val (.int (f0_m5 p0 p1)), .val (.int (f0_m10 p0 p1)), .val (.ref b11), .val (.ref b20), .val (.int (f0_m37 p0 p1)), .unset, .unset] [(.int (F8 p0))])) _
    refine XS.iload X38.here hx rfl (hb hby at_84) rfl ?_
    exact k)
  obtain ⟨T42, L42, X42, e42, N42, pre42⟩ : ∃ (T' : State) (locs' : List Loc), Stand p l e room_1 s m #[(.int p0), (.int p1)] below meth c T' locs' 4 14 ∧ T'.heap = T27.heap ∧ Fr n0 locs' ∧ ∀ t, Steps p.tables e below (T'.setTop (mkF m 94 #[.val (.int p0), .val (.int p1), .val (.int (f0_m5 p0 p1)), .val (.int (f0_m10 p0 p1)), .val (.ref b11), .val (.ref b20), .val (.int (f0_m37 p0 p1)), .unset, .unset] [(.int (f0_m45 p0 p1))])) t → Steps p.tables e below (s₁.setTop (entryFrame m #[(.int p0), (.int p1)] maxLocals)) t := by
    by_cases hc86_42 : (F8 p0) = (f0_m37 p0 p1)
    · have pre43 : ∀ t, Steps p.tables e below (T38.setTop (mkF m 94 #[.val (.int p0), .val (.int p1), .val (.int (f0_m5 p0 p1)), .val (.int (f0_m10 p0 p1)), .val (.ref b11), .val (.ref b20), .val (.int (f0_m37 p0 p1)), .unset, .unset] [(.int (1 : Int32))])) t → Steps p.tables e below (s₁.setTop (entryFrame m #[(.int p0), (.int p1)] maxLocals)) t := fun t k => pre41 t (by
        show Steps p.tables e below (T38.setTop (mkF m 86 #[.val (.int p0), .val (.int p1), .val (.int (f0_m5 p0 p1)), .val (.int (f0_m10 p0 p1)), .val (.ref b11), .val (.ref b20), .val (.int (f0_m37 p0 p1)), .unset, .unset] [(.int (f0_m37 p0 p1)), (.int (F8 p0))])) _
        refine XS.icmpNo X38.here hx rfl (hb hby at_86) rfl (teq hc86_42).2 ?_
        show Steps p.tables e below (T38.setTop (mkF m 89 #[.val (.int p0), .val (.int p1), .val (.int (f0_m5 p0 p1)), .val (.int (f0_m10 p0 p1)), .val (.ref b11), .val (.ref b20), .val (.int (f0_m37 p0 p1)), .unset, .unset] [])) _
        refine XS.iconst X38.here hx rfl (hb hby at_89) ?_
        show Steps p.tables e below (T38.setTop (mkF m 90 #[.val (.int p0), .val (.int p1), .val (.int (f0_m5 p0 p1)), .val (.int (f0_m10 p0 p1)), .val (.ref b11), .val (.ref b20), .val (.int (f0_m37 p0 p1)), .unset, .unset] [(.int (1 : Int32))])) _
        refine XS.goto X38.here hx rfl (pc0 := 90) (pc' := 94) rfl (hb hby at_90) (by decide) (by decide) ?_
        exact k)
      have q_f0_m45 : f0_m45 p0 p1 = (1 : Int32) := by unfold f0_m45; rw [if_pos hc86_42]
      rw [q_f0_m45]
      exact ⟨T38, _, X38, e38, N38, pre43⟩
    have pre44 : ∀ t, Steps p.tables e below (T38.setTop (mkF m 94 #[.val (.int p0), .val (.int p1), .val (.int (f0_m5 p0 p1)), .val (.int (f0_m10 p0 p1)), .val (.ref b11), .val (.ref b20), .val (.int (f0_m37 p0 p1)), .unset, .unset] [(.int (0 : Int32))])) t → Steps p.tables e below (s₁.setTop (entryFrame m #[(.int p0), (.int p1)] maxLocals)) t := fun t k => pre41 t (by
      show Steps p.tables e below (T38.setTop (mkF m 86 #[.val (.int p0), .val (.int p1), .val (.int (f0_m5 p0 p1)), .val (.int (f0_m10 p0 p1)), .val (.ref b11), .val (.ref b20), .val (.int (f0_m37 p0 p1)), .unset, .unset] [(.int (f0_m37 p0 p1)), (.int (F8 p0))])) _
      refine XS.icmpYes X38.here hx rfl (pc0 := 86) (pc' := 93) rfl (hb hby at_86) rfl (feq hc86_42).2 (by decide) (by decide) ?_
      show Steps p.tables e below (T38.setTop (mkF m 93 #[.val (.int p0), .val (.int p1), .val (.int (f0_m5 p0 p1)), .val (.int (f0_m10 p0 p1)), .val (.ref b11), .val (.ref b20), .val (.int (f0_m37 p0 p1)), .unset, .unset] [])) _
      refine XS.iconst X38.here hx rfl (hb hby at_93) ?_
      exact k)
    have q_f0_m45 : f0_m45 p0 p1 = (0 : Int32) := by unfold f0_m45; rw [if_neg hc86_42]
    rw [q_f0_m45]
    exact ⟨T38, _, X38, e38, N38, pre44⟩
  obtain ⟨cq46, kq46, q46a, q46b, q46c⟩ := isOf hZ e42 u27_0
  obtain ⟨_, _, ⟨T46, L46, k46, n46⟩, -, X46, ⟨Lc46, hQ46, l46, y46, z46⟩, st46⟩ := X42.virtualBack hx (y := (⟨"com/example/panchayat/panchayat/protocol/CreateRequest", "isEphemeral", "()Z"⟩ : MethodName)) (z := (⟨"com/example/panchayat/panchayat/protocol/CreateRequest", "isEphemeral", "()Z"⟩ : MethodName)) hown (mvT hZ (hw _ (List.mem_of_getElem? (i := 49) rfl))) (mvT hZ (hw _ (List.mem_of_getElem? (i := 50) rfl))) (notFace_of_selects (args := #[]) (mvT hZ (hw _ (List.mem_of_getElem? (i := 52) rfl)))) (mvT hZ (hw _ (List.mem_of_getElem? (i := 52) rfl))) (mvT hZ (hw _ (List.mem_of_getElem? (i := 51) rfl))) (by decide) (backOf (W := 0) (rm8 l Z a0' hw [] b20 (F7 (f0_m5 p0 p1) (f0_m10 p0 p1)) T27.heap n0 Z27 u27_4) hZ (hw _ (List.mem_of_getElem? (i := 53) rfl)) (hw _ (List.mem_of_getElem? (i := 2) rfl)) (by decide) (by decide)) q46a q46c (g := (mkF m 98 #[.val (.int p0), .val (.int p1), .val (.int (f0_m5 p0 p1)), .val (.int (f0_m10 p0 p1)), .val (.ref b11), .val (.ref b20), .val (.int (f0_m37 p0 p1)), .val (.int (f0_m45 p0 p1)), .unset] [(.ref b20)])) rfl (by rw [hml]; rfl) (Steps.refl _) (argsL := []) (rest := []) (lenOf pd3 rfl) rfl (by show 2 * 0 + _ ≤ _; exact Nat.le_of_eq rfl) (hb hby at_98) (fun _ _ => ⟨rfl, e42, (by decide : 4 + 0 ≤ _), (by decide : 14 + 0 ≤ _)⟩)
  dsimp only [Pt.U, Pt.locs, Pt.cells, Pt.slots] at X46 l46 y46 z46 st46 hQ46
  subst l46 y46 z46
  obtain ⟨rfl, N46q, e46⟩ := hQ46
  have N46 := Fr.app N42 N46q
  have pre47 : ∀ t, Steps p.tables e below (T46.setTop (mkF m 102 #[.val (.int p0), .val (.int p1), .val (.int (f0_m5 p0 p1)), .val (.int (f0_m10 p0 p1)), .val (.ref b11), .val (.ref b20), .val (.int (f0_m37 p0 p1)), .val (.int (f0_m45 p0 p1)), .unset] [(.int (f0_m5 p0 p1)), (.int (F8 (F7 (f0_m5 p0 p1) (f0_m10 p0 p1))))])) t → Steps p.tables e below (s₁.setTop (entryFrame m #[(.int p0), (.int p1)] maxLocals)) t := fun t k => pre42 t (by
    show Steps p.tables e below (T42.setTop (mkF m 94 #[.val (.int p0), .val (.int p1), .val (.int (f0_m5 p0 p1)), .val (.int (f0_m10 p0 p1)), .val (.ref b11), .val (.ref b20), .val (.int (f0_m37 p0 p1)), .unset, .unset] [(.int (f0_m45 p0 p1))])) _
    refine XS.istore X42.here hx rfl (hb hby at_94) rfl (l' := #[.val (.int p0), .val (.int p1), .val (.int (f0_m5 p0 p1)), .val (.int (f0_m10 p0 p1)), .val (.ref b11), .val (.ref b20), .val (.int (f0_m37 p0 p1)), .val (.int (f0_m45 p0 p1)), .unset]) rfl ?_
    show Steps p.tables e below (T42.setTop (mkF m 96 #[.val (.int p0), .val (.int p1), .val (.int (f0_m5 p0 p1)), .val (.int (f0_m10 p0 p1)), .val (.ref b11), .val (.ref b20), .val (.int (f0_m37 p0 p1)), .val (.int (f0_m45 p0 p1)), .unset] [])) _
    refine XS.aload X42.here hx rfl (hb hby at_96) rfl rfl ?_
    show Steps p.tables e below (T42.setTop (mkF m 98 #[.val (.int p0), .val (.int p1), .val (.int (f0_m5 p0 p1)), .val (.int (f0_m10 p0 p1)), .val (.ref b11), .val (.ref b20), .val (.int (f0_m37 p0 p1)), .val (.int (f0_m45 p0 p1)), .unset] [(.ref b20)])) _
    refine st46.trans ?_
    show Steps p.tables e below (T46.setTop (mkF m 101 #[.val (.int p0), .val (.int p1), .val (.int (f0_m5 p0 p1)), .val (.int (f0_m10 p0 p1)), .val (.ref b11), .val (.ref b20), .val (.int (f0_m37 p0 p1)), .val (.int (f0_m45 p0 p1)), .unset] [(.int (F8 (F7 (f0_m5 p0 p1) (f0_m10 p0 p1))))])) _
    refine XS.iloadN X46.here hx rfl (hb hby at_101) rfl ?_
    exact k)
  obtain ⟨T48, L48, X48, e48, N48, pre48⟩ : ∃ (T' : State) (locs' : List Loc), Stand p l e room_1 s m #[(.int p0), (.int p1)] below meth c T' locs' 4 14 ∧ T'.heap = T27.heap ∧ Fr n0 locs' ∧ ∀ t, Steps p.tables e below (T'.setTop (mkF m 110 #[.val (.int p0), .val (.int p1), .val (.int (f0_m5 p0 p1)), .val (.int (f0_m10 p0 p1)), .val (.ref b11), .val (.ref b20), .val (.int (f0_m37 p0 p1)), .val (.int (f0_m45 p0 p1)), .unset] [(.int (f0_m51 p0 p1))])) t → Steps p.tables e below (s₁.setTop (entryFrame m #[(.int p0), (.int p1)] maxLocals)) t := by
    by_cases hc102_48 : (F8 (F7 (f0_m5 p0 p1) (f0_m10 p0 p1))) = (f0_m5 p0 p1)
    · have pre49 : ∀ t, Steps p.tables e below (T46.setTop (mkF m 110 #[.val (.int p0), .val (.int p1), .val (.int (f0_m5 p0 p1)), .val (.int (f0_m10 p0 p1)), .val (.ref b11), .val (.ref b20), .val (.int (f0_m37 p0 p1)), .val (.int (f0_m45 p0 p1)), .unset] [(.int (1 : Int32))])) t → Steps p.tables e below (s₁.setTop (entryFrame m #[(.int p0), (.int p1)] maxLocals)) t := fun t k => pre47 t (by
        show Steps p.tables e below (T46.setTop (mkF m 102 #[.val (.int p0), .val (.int p1), .val (.int (f0_m5 p0 p1)), .val (.int (f0_m10 p0 p1)), .val (.ref b11), .val (.ref b20), .val (.int (f0_m37 p0 p1)), .val (.int (f0_m45 p0 p1)), .unset] [(.int (f0_m5 p0 p1)), (.int (F8 (F7 (f0_m5 p0 p1) (f0_m10 p0 p1))))])) _
        refine XS.icmpNo X46.here hx rfl (hb hby at_102) rfl (teq hc102_48).2 ?_
        show Steps p.tables e below (T46.setTop (mkF m 105 #[.val (.int p0), .val (.int p1), .val (.int (f0_m5 p0 p1)), .val (.int (f0_m10 p0 p1)), .val (.ref b11), .val (.ref b20), .val (.int (f0_m37 p0 p1)), .val (.int (f0_m45 p0 p1)), .unset] [])) _
        refine XS.iconst X46.here hx rfl (hb hby at_105) ?_
        show Steps p.tables e below (T46.setTop (mkF m 106 #[.val (.int p0), .val (.int p1), .val (.int (f0_m5 p0 p1)), .val (.int (f0_m10 p0 p1)), .val (.ref b11), .val (.ref b20), .val (.int (f0_m37 p0 p1)), .val (.int (f0_m45 p0 p1)), .unset] [(.int (1 : Int32))])) _
        refine XS.goto X46.here hx rfl (pc0 := 106) (pc' := 110) rfl (hb hby at_106) (by decide) (by decide) ?_
        exact k)
      have q_f0_m51 : f0_m51 p0 p1 = (1 : Int32) := by unfold f0_m51; rw [if_pos hc102_48]
      rw [q_f0_m51]
      exact ⟨T46, _, X46, e46, N46, pre49⟩
    have pre50 : ∀ t, Steps p.tables e below (T46.setTop (mkF m 110 #[.val (.int p0), .val (.int p1), .val (.int (f0_m5 p0 p1)), .val (.int (f0_m10 p0 p1)), .val (.ref b11), .val (.ref b20), .val (.int (f0_m37 p0 p1)), .val (.int (f0_m45 p0 p1)), .unset] [(.int (0 : Int32))])) t → Steps p.tables e below (s₁.setTop (entryFrame m #[(.int p0), (.int p1)] maxLocals)) t := fun t k => pre47 t (by
      show Steps p.tables e below (T46.setTop (mkF m 102 #[.val (.int p0), .val (.int p1), .val (.int (f0_m5 p0 p1)), .val (.int (f0_m10 p0 p1)), .val (.ref b11), .val (.ref b20), .val (.int (f0_m37 p0 p1)), .val (.int (f0_m45 p0 p1)), .unset] [(.int (f0_m5 p0 p1)), (.int (F8 (F7 (f0_m5 p0 p1) (f0_m10 p0 p1))))])) _
      refine XS.icmpYes X46.here hx rfl (pc0 := 102) (pc' := 109) rfl (hb hby at_102) rfl (feq hc102_48).2 (by decide) (by decide) ?_
      show Steps p.tables e below (T46.setTop (mkF m 109 #[.val (.int p0), .val (.int p1), .val (.int (f0_m5 p0 p1)), .val (.int (f0_m10 p0 p1)), .val (.ref b11), .val (.ref b20), .val (.int (f0_m37 p0 p1)), .val (.int (f0_m45 p0 p1)), .unset] [])) _
      refine XS.iconst X46.here hx rfl (hb hby at_109) ?_
      exact k)
    have q_f0_m51 : f0_m51 p0 p1 = (0 : Int32) := by unfold f0_m51; rw [if_neg hc102_48]
    rw [q_f0_m51]
    exact ⟨T46, _, X46, e46, N46, pre50⟩
  have pre52 : ∀ t, Steps p.tables e below (T48.setTop (mkF m 114 #[.val (.int p0), .val (.int p1), .val (.int (f0_m5 p0 p1)), .val (.int (f0_m10 p0 p1)), .val (.ref b11), .val (.ref b20), .val (.int (f0_m37 p0 p1)), .val (.int (f0_m45 p0 p1)), .val (.int (f0_m51 p0 p1))] [(.int (f0_m45 p0 p1))])) t → Steps p.tables e below (s₁.setTop (entryFrame m #[(.int p0), (.int p1)] maxLocals)) t := fun t k => pre48 t (by
    show Steps p.tables e below (T48.setTop (mkF m 110 #[.val (.int p0), .val (.int p1), .val (.int (f0_m5 p0 p1)), .val (.int (f0_m10 p0 p1)), .val (.ref b11), .val (.ref b20), .val (.int (f0_m37 p0 p1)), .val (.int (f0_m45 p0 p1)), .unset] [(.int (f0_m51 p0 p1))])) _
    refine XS.istore X48.here hx rfl (hb hby at_110) rfl (l' := #[.val (.int p0), .val (.int p1), .val (.int (f0_m5 p0 p1)), .val (.int (f0_m10 p0 p1)), .val (.ref b11), .val (.ref b20), .val (.int (f0_m37 p0 p1)), .val (.int (f0_m45 p0 p1)), .val (.int (f0_m51 p0 p1))]) rfl ?_
    show Steps p.tables e below (T48.setTop (mkF m 112 #[.val (.int p0), .val (.int p1), .val (.int (f0_m5 p0 p1)), .val (.int (f0_m10 p0 p1)), .val (.ref b11), .val (.ref b20), .val (.int (f0_m37 p0 p1)), .val (.int (f0_m45 p0 p1)), .val (.int (f0_m51 p0 p1))] [])) _
    refine XS.iload X48.here hx rfl (hb hby at_112) rfl ?_
    exact k)
  by_cases hc114_53 : (f0_m45 p0 p1) = (0 : Int32)
  · have pre54 : ∀ t, Steps p.tables e below (T48.setTop (mkF m 127 #[.val (.int p0), .val (.int p1), .val (.int (f0_m5 p0 p1)), .val (.int (f0_m10 p0 p1)), .val (.ref b11), .val (.ref b20), .val (.int (f0_m37 p0 p1)), .val (.int (f0_m45 p0 p1)), .val (.int (f0_m51 p0 p1))] [(.int (0 : Int32))])) t → Steps p.tables e below (s₁.setTop (entryFrame m #[(.int p0), (.int p1)] maxLocals)) t := fun t k => pre52 t (by
      show Steps p.tables e below (T48.setTop (mkF m 114 #[.val (.int p0), .val (.int p1), .val (.int (f0_m5 p0 p1)), .val (.int (f0_m10 p0 p1)), .val (.ref b11), .val (.ref b20), .val (.int (f0_m37 p0 p1)), .val (.int (f0_m45 p0 p1)), .val (.int (f0_m51 p0 p1))] [(.int (f0_m45 p0 p1))])) _
      refine XS.ifYes X48.here hx rfl (pc0 := 114) (pc' := 126) rfl (hb hby at_114) rfl ((if0 _ _).trans (teq hc114_53).1) (by decide) (by decide) ?_
      show Steps p.tables e below (T48.setTop (mkF m 126 #[.val (.int p0), .val (.int p1), .val (.int (f0_m5 p0 p1)), .val (.int (f0_m10 p0 p1)), .val (.ref b11), .val (.ref b20), .val (.int (f0_m37 p0 p1)), .val (.int (f0_m45 p0 p1)), .val (.int (f0_m51 p0 p1))] [])) _
      refine XS.iconst X48.here hx rfl (hb hby at_126) ?_
      exact k)
    obtain ⟨fs, hr, hrun, hended, hW, hsame⟩ := X48.leave (v := some (.int (0 : Int32))) (fun h => by rw [Bd.returns] at h; cases h)
    have hF : (F0 p0 p1) = (0 : Int32) := by unfold F0; rw [if_pos hc114_53]
    exact ⟨_, _, pre54 _ (retN X48 hx (t := .boolean) Bd.returns (by simp) (hb hby at_127) hr), hrun, hended, _, _, rfl, ⟨by rw [hF], N48⟩, ⟨_, rfl⟩, hW, hsame.mono (by decide) (by decide)⟩
  have pre55 : ∀ t, Steps p.tables e below (T48.setTop (mkF m 119 #[.val (.int p0), .val (.int p1), .val (.int (f0_m5 p0 p1)), .val (.int (f0_m10 p0 p1)), .val (.ref b11), .val (.ref b20), .val (.int (f0_m37 p0 p1)), .val (.int (f0_m45 p0 p1)), .val (.int (f0_m51 p0 p1))] [(.int (f0_m51 p0 p1))])) t → Steps p.tables e below (s₁.setTop (entryFrame m #[(.int p0), (.int p1)] maxLocals)) t := fun t k => pre52 t (by
    show Steps p.tables e below (T48.setTop (mkF m 114 #[.val (.int p0), .val (.int p1), .val (.int (f0_m5 p0 p1)), .val (.int (f0_m10 p0 p1)), .val (.ref b11), .val (.ref b20), .val (.int (f0_m37 p0 p1)), .val (.int (f0_m45 p0 p1)), .val (.int (f0_m51 p0 p1))] [(.int (f0_m45 p0 p1))])) _
    refine XS.ifNo X48.here hx rfl (hb hby at_114) rfl ((if0 _ _).trans (feq hc114_53).1) ?_
    show Steps p.tables e below (T48.setTop (mkF m 117 #[.val (.int p0), .val (.int p1), .val (.int (f0_m5 p0 p1)), .val (.int (f0_m10 p0 p1)), .val (.ref b11), .val (.ref b20), .val (.int (f0_m37 p0 p1)), .val (.int (f0_m45 p0 p1)), .val (.int (f0_m51 p0 p1))] [])) _
    refine XS.iload X48.here hx rfl (hb hby at_117) rfl ?_
    exact k)
  by_cases hc119_56 : (f0_m51 p0 p1) = (0 : Int32)
  · have pre57 : ∀ t, Steps p.tables e below (T48.setTop (mkF m 127 #[.val (.int p0), .val (.int p1), .val (.int (f0_m5 p0 p1)), .val (.int (f0_m10 p0 p1)), .val (.ref b11), .val (.ref b20), .val (.int (f0_m37 p0 p1)), .val (.int (f0_m45 p0 p1)), .val (.int (f0_m51 p0 p1))] [(.int (0 : Int32))])) t → Steps p.tables e below (s₁.setTop (entryFrame m #[(.int p0), (.int p1)] maxLocals)) t := fun t k => pre55 t (by
      show Steps p.tables e below (T48.setTop (mkF m 119 #[.val (.int p0), .val (.int p1), .val (.int (f0_m5 p0 p1)), .val (.int (f0_m10 p0 p1)), .val (.ref b11), .val (.ref b20), .val (.int (f0_m37 p0 p1)), .val (.int (f0_m45 p0 p1)), .val (.int (f0_m51 p0 p1))] [(.int (f0_m51 p0 p1))])) _
      refine XS.ifYes X48.here hx rfl (pc0 := 119) (pc' := 126) rfl (hb hby at_119) rfl ((if0 _ _).trans (teq hc119_56).1) (by decide) (by decide) ?_
      show Steps p.tables e below (T48.setTop (mkF m 126 #[.val (.int p0), .val (.int p1), .val (.int (f0_m5 p0 p1)), .val (.int (f0_m10 p0 p1)), .val (.ref b11), .val (.ref b20), .val (.int (f0_m37 p0 p1)), .val (.int (f0_m45 p0 p1)), .val (.int (f0_m51 p0 p1))] [])) _
      refine XS.iconst X48.here hx rfl (hb hby at_126) ?_
      exact k)
    obtain ⟨fs, hr, hrun, hended, hW, hsame⟩ := X48.leave (v := some (.int (0 : Int32))) (fun h => by rw [Bd.returns] at h; cases h)
    have hF : (F0 p0 p1) = (0 : Int32) := by unfold F0; rw [if_neg hc114_53, if_pos hc119_56]
    exact ⟨_, _, pre57 _ (retN X48 hx (t := .boolean) Bd.returns (by simp) (hb hby at_127) hr), hrun, hended, _, _, rfl, ⟨by rw [hF], N48⟩, ⟨_, rfl⟩, hW, hsame.mono (by decide) (by decide)⟩
  have pre58 : ∀ t, Steps p.tables e below (T48.setTop (mkF m 127 #[.val (.int p0), .val (.int p1), .val (.int (f0_m5 p0 p1)), .val (.int (f0_m10 p0 p1)), .val (.ref b11), .val (.ref b20), .val (.int (f0_m37 p0 p1)), .val (.int (f0_m45 p0 p1)), .val (.int (f0_m51 p0 p1))] [(.int (1 : Int32))])) t → Steps p.tables e below (s₁.setTop (entryFrame m #[(.int p0), (.int p1)] maxLocals)) t := fun t k => pre55 t (by
    show Steps p.tables e below (T48.setTop (mkF m 119 #[.val (.int p0), .val (.int p1), .val (.int (f0_m5 p0 p1)), .val (.int (f0_m10 p0 p1)), .val (.ref b11), .val (.ref b20), .val (.int (f0_m37 p0 p1)), .val (.int (f0_m45 p0 p1)), .val (.int (f0_m51 p0 p1))] [(.int (f0_m51 p0 p1))])) _
    refine XS.ifNo X48.here hx rfl (hb hby at_119) rfl ((if0 _ _).trans (feq hc119_56).1) ?_
    show Steps p.tables e below (T48.setTop (mkF m 122 #[.val (.int p0), .val (.int p1), .val (.int (f0_m5 p0 p1)), .val (.int (f0_m10 p0 p1)), .val (.ref b11), .val (.ref b20), .val (.int (f0_m37 p0 p1)), .val (.int (f0_m45 p0 p1)), .val (.int (f0_m51 p0 p1))] [])) _
    refine XS.iconst X48.here hx rfl (hb hby at_122) ?_
    show Steps p.tables e below (T48.setTop (mkF m 123 #[.val (.int p0), .val (.int p1), .val (.int (f0_m5 p0 p1)), .val (.int (f0_m10 p0 p1)), .val (.ref b11), .val (.ref b20), .val (.int (f0_m37 p0 p1)), .val (.int (f0_m45 p0 p1)), .val (.int (f0_m51 p0 p1))] [(.int (1 : Int32))])) _
    refine XS.goto X48.here hx rfl (pc0 := 123) (pc' := 127) rfl (hb hby at_123) (by decide) (by decide) ?_
    exact k)
  obtain ⟨fs, hr, hrun, hended, hW, hsame⟩ := X48.leave (v := some (.int (1 : Int32))) (fun h => by rw [Bd.returns] at h; cases h)
  have hF : (F0 p0 p1) = (1 : Int32) := by unfold F0; rw [if_neg hc114_53, if_neg hc119_56]
  exact ⟨_, _, pre58 _ (retN X48 hx (t := .boolean) Bd.returns (by simp) (hb hby at_127) hr), hrun, hended, _, _, rfl, ⟨by rw [hF], N48⟩, ⟨_, rfl⟩, hW, hsame.mono (by decide) (by decide)⟩
theorem own_odd (x : Int32) : (x % (2 : Int32)) = 0 ↔ (x &&& (1 : Int32)) = 0 := by
  rw [← Int32.toInt_inj, ← Int32.toInt_inj]
  have r : (x &&& (1 : Int32)).toInt = x.toInt % (2 ^ 1 : Nat) := c_mask x 1 1 (by decide) (by decide)
  have q := c_irem x 2 2 (by decide)
  have z : (0 : Int32).toInt = 0 := rfl
  rw [r, z]
  by_cases h : 0 ≤ x.toInt
  · rw [q.1 h]; omega
  · rw [q.2 (by omega)]; omega
theorem own_law (p0 p1 : Int32) : F0 p0 p1 = 1 := by
  have e1 : F8 p0 = f0_m37 p0 p1 := by
    unfold F8 f0_m37; simp only [own_odd]
  have h1 : f0_m5 p0 p1 = 0 ∨ f0_m5 p0 p1 = 1 := by unfold f0_m5; split <;> simp
  have h2 : f0_m10 p0 p1 = 0 ∨ f0_m10 p0 p1 = 1 := by unfold f0_m10; split <;> simp
  unfold F0 f0_m45 f0_m51
  rw [if_pos e1]
  rcases h1 with h1 | h1 <;> rcases h2 with h2 | h2 <;> rw [h1, h2] <;> decide
set_option maxRecDepth 65536 in
set_option maxHeartbeats 40000000 in
theorem comes_1 {Post : Tables → Env → Array Value → State → Outcome → State → Prop} (hpost : ∀ tb e args s v u, (limb_1_1.after args s (.returned v) u = true ∧ limb_1_2.after args s (.returned v) u = true ∧ True) → FrameEnd s (.returned v) u (Jvm.fieldLocs frame_1_writes args s ++ Jvm.arrayLocs frame_1_arrays args s ++ Jvm.staticLocs frame_1_statics s) 16 128 → Post tb e args s (.returned v) u) :
    ArmFor flags0 classFile x code maxLocals ret World_1 tables_1 room_1 Calls_1 rest_1 Pre_1 Post := by
  intro l hfl _ _ p e ha hc hk s m args below hf hA hF happ hP
  obtain ⟨hcalls, hrest, hpre⟩ := hP
  obtain ⟨-, -, -, hnamed, -, -, -, hat⟩ := (Spec.applies_iff hf).mp happ
  obtain ⟨hg, hn⟩ := and_e (Cond.before_iff.mp (show (Jvm.Cond.and given_1 narrow_1).before args s = true from hpre))
  obtain ⟨hcount, g0⟩ := and_e hg
  obtain ⟨ga0, g1⟩ := and_e g0
  obtain ⟨w0, w1, rfl⟩ : ∃ w0 w1 : Value, args = #[w0, w1] := by
    have hs : args.size = 2 := by simpa [Cond.value, given_1] using hcount
    obtain ⟨L⟩ := args
    match L, hs with
    | [w0, w1], _ => exact ⟨w0, w1, rfl⟩
  have hw := fun d (hd : d ∈ tables_1) => atoms_spec (ws := Jvm.Cond.code x code maxLocals ret :: tables_1) hat d (List.mem_cons_of_mem _ hd)
  obtain ⟨i0, ei0⟩ := is_v ga0
  obtain rfl : w0 = (.int i0) := Option.some.inj ei0
  obtain ⟨i1, ei1⟩ := is_v g1
  obtain rfl : w1 = (.int i1) := Option.some.inj ei1
  obtain ⟨hsets, hown0⟩ := atoms_of _ (rest_1_c_eq ▸ (show rest_1_c.before _ s = true from hrest))
  obtain ⟨s_DEFAULTCAPACITY_EMPTY_ELEMENTDATA, hs_DEFAULTCAPACITY_EMPTY_ELEMENTDATA⟩ := arr_v (Cond.before_iff.mp (hsets _ (List.mem_of_getElem? (i := 6) rfl)))
  have S_s_DEFAULTCAPACITY_EMPTY_ELEMENTDATA := Sta.start hs_DEFAULTCAPACITY_EMPTY_ELEMENTDATA (Or.inr ⟨(hw _ (List.mem_of_getElem? (i := 5) rfl)), (hsets _ (List.mem_of_getElem? (i := 2) rfl))⟩)
  obtain ⟨n, o, h1, h2, h3, _, L, rfl, ⟨rfl, N⟩, hq⟩ := rm0 l s _ hw tables_1 i0 i1 s_DEFAULTCAPACITY_EMPTY_ELEMENTDATA s.heap s.heap.size (Nat.le_refl _) (Old.start s) S_s_DEFAULTCAPACITY_EMPTY_ELEMENTDATA p e ha hc hk s m _ below hf ((Spec.applies_iff_loose hf).mp happ).1 ⟨rfl, State.Warmed39.refl s, rfl⟩ trivial
  have hlaw := own_law i0 i1
  refine ⟨n, _, h1, h2, h3, hpost _ _ _ _ _ _ ⟨Cond.after_iff.mpr rfl, Cond.after_iff.mpr (eq_i res_at (Term.int_eval (1)) (congrArg Value.int hlaw)), trivial⟩ ⟨hq.1, hq.2.1, (hq.2.2.sift fun y hy => Or.inr (N y hy)).mono (by decide) (by decide)⟩⟩
theorem main_1_1 : Claimed_1_1 := comes_1 fun _ _ _ _ _ _ h hF => ⟨h.1, hF⟩
theorem main_1_2 : Claimed_1_2 := comes_1 fun _ _ _ _ _ _ h hF => ⟨h.2.1, hF⟩
end Jvm.Pilot.@@N@@
namespace Jvm.Pilot.@@N@@
open Jvm Jvm.ClassFile Sem Op Lib Jvm.Free Jvm.Stand Jvm.Pilot.@@N@@.Jvm.D
/-! MADE BY PROGRAM (witnessworld.py) out of the Statement's table words and the real class files: 20 classes; the members and pool entries that the words name. The judged class is class 1, her method 1. -/
namespace start1
open Jvm.ClassFile
def u (s : String) : CpInfo := .utf8 (stringToUtf16 s)
/-- a pool by its gaps: so many unusable entries, then the entry; so many at the end -/
def gap : Nat → List CpInfo → List CpInfo
  | 0, r => r
  | n + 1, r => .unusable :: gap n r
def poolList (es : List (Nat × CpInfo)) (last : Nat) : List CpInfo := es.foldr (fun e r => gap e.1 (e.2 :: r)) (gap last [])
def pool (es : List (Nat × CpInfo)) (last : Nat) : Array CpInfo := ⟨poolList es last⟩
def fileOf (pool : Array CpInfo) (this : Nat) (attrs : Array Attribute := #[]) (ms : Array MethodInfo := #[]) (fl : Nat := 33) (sup : Nat := 0) (ifs : Array Nat := #[]) (fds : Array FieldInfo := #[]) : ClassFile where
  minorVersion := 0
  majorVersion := 65
  constantPool := pool
  accessFlags := fl
  thisClass := this
  superClass := sup
  interfaces := ifs
  fields := fds
  methods := ms
  attributes := attrs
def plain (name : String) (sup : Option ClassId) : Class where
  name := name
  kind := .ordinary
  loader := none
  accessFlags := 33
  super := sup
  interfaces := #[]
  cf := none
  fields := #[]
  methods := #[]
  instanceTypes := #[]
  staticTypes := #[]
  resolved := #[]
  callSites := []
  init := .initialized
  statics := none
  mirror := none

def pool0 : Array CpInfo := pool [(5, u "<init>"), (0, u "()V"), (1, .class_ 10), (1, u "java/lang/Object")] 113

def k0c0 : Code := { maxStack := 0, maxLocals := 1, code := object_method_1_code, exceptionTable := #[], attributes := #[] }
def k0m0 : Method := { name := "<init>", desc := "()V", sig := { parameters := [], returnType := none }, accessFlags := 1, code := some k0c0 }
/-- java/lang/Object -/
def k0 : Class := { plain "java/lang/Object" none with
  accessFlags := 33
  interfaces := #[]
  cf := some (fileOf pool0 8 #[] #[{ accessFlags := 1, nameIndex := 5, descriptorIndex := 6, attributes := #[] }] 33 0 #[] #[])
  fields := #[]
  methods := #[k0m0]
  instanceTypes := #[]
  staticTypes := #[]
  resolved := Array.replicate 124 none
  statics := none }

def pool1 : Array CpInfo := pool [(2, .class_ 4), (0, .nameAndType 5 6), (0, u "java/lang/Object"), (0, u "<init>"), (0, u "()V"), (0, .class_ 8), (0, u "com/example/panchayat/panchayat/protocol/CreateRequest"), (0, .class_ 10), (0, u "java/util/ArrayList"), (0, .methodref 9 3), (0, .methodref 7 13), (0, .nameAndType 5 14), (0, u "(Ljava/lang/String;[BLjava/util/List;I)V"), (0, .methodref 7 16), (0, .nameAndType 17 18), (0, u "mode"), (0, u "(ZZ)I"), (0, .methodref 7 20), (0, .nameAndType 21 22), (0, u "isEphemeral"), (0, u "()Z"), (0, .class_ 24), (0, u "com/example/panchayat/panchayat/protocol/CreateRequestIsEphemeralPinLaw"), (2, u "law"), (0, u "(II)Z")] 3

def k1m0 : Method := { name := "<init>", desc := "()V", sig := { parameters := [], returnType := none }, accessFlags := 1, code := none }
def k1c1 : Code := { maxStack := 7, maxLocals := 9, code := code, exceptionTable := #[], attributes := #[] }
def k1m1 : Method := { name := "law", desc := "(II)Z", sig := { parameters := [.int, .int], returnType := some .boolean }, accessFlags := 9, code := some k1c1 }
/-- com/example/panchayat/panchayat/protocol/CreateRequestIsEphemeralPinLaw -/
def k1 : Class := { plain "com/example/panchayat/panchayat/protocol/CreateRequestIsEphemeralPinLaw" (some 0) with
  accessFlags := 49
  interfaces := #[]
  cf := some (fileOf pool1 23 #[] #[{ accessFlags := 1, nameIndex := 5, descriptorIndex := 6, attributes := #[] }, { accessFlags := 9, nameIndex := 27, descriptorIndex := 28, attributes := #[] }] 49 2 #[] #[])
  fields := #[]
  methods := #[k1m0, k1m1]
  instanceTypes := #[]
  staticTypes := #[]
  resolved := Array.replicate 32 none
  statics := none }

def pool2 : Array CpInfo := pool [(1, .methodref 2 3), (0, .class_ 4), (0, .nameAndType 5 6), (0, u "java/lang/Object"), (0, u "<init>"), (0, u "()V"), (0, .class_ 8), (0, u "java/lang/Record")] 13

def k2c0 : Code := { maxStack := 1, maxLocals := 1, code := jdk_30_method_1_code, exceptionTable := #[], attributes := #[] }
def k2m0 : Method := { name := "<init>", desc := "()V", sig := { parameters := [], returnType := none }, accessFlags := 4, code := some k2c0 }
/-- java/lang/Record -/
def k2 : Class := { plain "java/lang/Record" (some 0) with
  accessFlags := 1057
  interfaces := #[]
  cf := some (fileOf pool2 7 #[] #[{ accessFlags := 4, nameIndex := 5, descriptorIndex := 6, attributes := #[] }] 1057 2 #[] #[])
  fields := #[]
  methods := #[k2m0]
  instanceTypes := #[]
  staticTypes := #[]
  resolved := Array.replicate 22 none
  statics := none }

def pool3 : Array CpInfo := pool [(1, .class_ 2), (0, u "com/example/panchayat/panchayat/protocol/Operation"), (0, .class_ 4), (0, u "java/lang/Object")] 17

/-- com/example/panchayat/panchayat/protocol/Operation -/
def k3 : Class := { plain "com/example/panchayat/panchayat/protocol/Operation" (some 0) with
  accessFlags := 1537
  interfaces := #[]
  cf := some (fileOf pool3 1 #[] #[] 1537 3 #[] #[])
  fields := #[]
  methods := #[]
  instanceTypes := #[]
  staticTypes := #[]
  resolved := Array.replicate 22 none
  statics := none }

def pool4 : Array CpInfo := pool [(1, .methodref 2 3), (0, .class_ 4), (0, .nameAndType 5 6), (0, u "java/lang/Record"), (0, u "<init>"), (0, u "()V"), (0, .fieldref 8 9), (0, .class_ 10), (0, .nameAndType 11 12), (0, u "com/example/panchayat/panchayat/protocol/CreateRequest"), (0, u "path"), (0, u "Ljava/lang/String;"), (0, .fieldref 8 14), (0, .nameAndType 15 16), (0, u "data"), (0, u "[B"), (0, .fieldref 8 18), (0, .nameAndType 19 20), (0, u "acl"), (0, u "Ljava/util/List;"), (0, .fieldref 8 22), (0, .nameAndType 23 24), (0, u "flags"), (0, u "I"), (20, u "(Ljava/lang/String;[BLjava/util/List;I)V"), (32, .class_ 79), (0, u "com/example/panchayat/panchayat/protocol/Operation"), (2, u "EPHEMERAL"), (2, u "SEQUENTIAL"), (10, u "mode"), (0, u "(ZZ)I"), (5, u "()Z"), (0, u "isEphemeral")] 26

def k4c0 : Code := { maxStack := 2, maxLocals := 5, code := prog_16_method_1_code, exceptionTable := #[], attributes := #[] }
def k4m0 : Method := { name := "<init>", desc := "(Ljava/lang/String;[BLjava/util/List;I)V", sig := { parameters := [(.object "java/lang/String"), (.array .byte), (.object "java/util/List"), .int], returnType := none }, accessFlags := 1, code := some k4c0 }
def k4c1 : Code := { maxStack := 2, maxLocals := 2, code := prog_16_method_3_code, exceptionTable := #[], attributes := #[] }
def k4m1 : Method := { name := "mode", desc := "(ZZ)I", sig := { parameters := [.boolean, .boolean], returnType := some .int }, accessFlags := 9, code := some k4c1 }
def k4c2 : Code := { maxStack := 2, maxLocals := 1, code := prog_16_method_7_code, exceptionTable := #[], attributes := #[] }
def k4m2 : Method := { name := "isEphemeral", desc := "()Z", sig := { parameters := [], returnType := some .boolean }, accessFlags := 1, code := some k4c2 }
/-- com/example/panchayat/panchayat/protocol/CreateRequest -/
def k4 : Class := { plain "com/example/panchayat/panchayat/protocol/CreateRequest" (some 2) with
  accessFlags := 49
  interfaces := #[3]
  cf := some (fileOf pool4 8 #[] #[{ accessFlags := 1, nameIndex := 5, descriptorIndex := 45, attributes := #[] }, { accessFlags := 9, nameIndex := 96, descriptorIndex := 97, attributes := #[] }, { accessFlags := 1, nameIndex := 104, descriptorIndex := 103, attributes := #[] }] 49 2 #[78] #[{ accessFlags := 18, nameIndex := 11, descriptorIndex := 12, attributes := #[] }, { accessFlags := 18, nameIndex := 15, descriptorIndex := 16, attributes := #[] }, { accessFlags := 18, nameIndex := 19, descriptorIndex := 20, attributes := #[] }, { accessFlags := 18, nameIndex := 23, descriptorIndex := 24, attributes := #[] }, { accessFlags := 26, nameIndex := 82, descriptorIndex := 24, attributes := #[] }, { accessFlags := 26, nameIndex := 85, descriptorIndex := 24, attributes := #[] }])
  fields := #[{ name := "path", type := (.object "java/lang/String"), accessFlags := 18, slot := 0, constantValue := 0 }, { name := "data", type := (.array .byte), accessFlags := 18, slot := 1, constantValue := 0 }, { name := "acl", type := (.object "java/util/List"), accessFlags := 18, slot := 2, constantValue := 0 }, { name := "flags", type := .int, accessFlags := 18, slot := 3, constantValue := 0 }, { name := "EPHEMERAL", type := .int, accessFlags := 26, slot := 0, constantValue := 0 }, { name := "SEQUENTIAL", type := .int, accessFlags := 26, slot := 1, constantValue := 0 }]
  methods := #[k4m0, k4m1, k4m2]
  instanceTypes := #[(.object "java/lang/String"), (.array .byte), (.object "java/util/List"), .int]
  staticTypes := #[.int, .int]
  resolved := Array.replicate 131 none
  statics := none }

def pool5 : Array CpInfo := pool [(8, .class_ 10), (1, u "java/lang/Iterable"), (24, .class_ 36), (0, u "java/lang/Object")] 25

/-- java/lang/Iterable -/
def k5 : Class := { plain "java/lang/Iterable" (some 0) with
  accessFlags := 1537
  interfaces := #[]
  cf := some (fileOf pool5 8 #[] #[] 1537 35 #[] #[])
  fields := #[]
  methods := #[]
  instanceTypes := #[]
  staticTypes := #[]
  resolved := Array.replicate 62 none
  statics := none }

def pool6 : Array CpInfo := pool [(10, .class_ 12), (1, u "java/util/Collection"), (47, .class_ 61), (0, u "java/lang/Object"), (0, .class_ 63), (0, u "java/lang/Iterable")] 51

/-- java/util/Collection -/
def k6 : Class := { plain "java/util/Collection" (some 0) with
  accessFlags := 1537
  interfaces := #[5]
  cf := some (fileOf pool6 10 #[] #[] 1537 60 #[62] #[])
  fields := #[]
  methods := #[]
  instanceTypes := #[]
  staticTypes := #[]
  resolved := Array.replicate 115 none
  statics := none }

def pool7 : Array CpInfo := pool [(1, .methodref 2 3), (0, .class_ 4), (0, .nameAndType 5 6), (0, u "java/lang/Object"), (0, u "<init>"), (0, u "()V"), (1, .class_ 10), (1, u "java/util/AbstractCollection"), (66, .class_ 78), (0, u "java/util/Collection")] 81

def k7c0 : Code := { maxStack := 1, maxLocals := 1, code := jdk_22_method_1_code, exceptionTable := #[], attributes := #[] }
def k7m0 : Method := { name := "<init>", desc := "()V", sig := { parameters := [], returnType := none }, accessFlags := 4, code := some k7c0 }
/-- java/util/AbstractCollection -/
def k7 : Class := { plain "java/util/AbstractCollection" (some 0) with
  accessFlags := 1057
  interfaces := #[6]
  cf := some (fileOf pool7 8 #[] #[{ accessFlags := 4, nameIndex := 5, descriptorIndex := 6, attributes := #[] }] 1057 2 #[77] #[])
  fields := #[]
  methods := #[k7m0]
  instanceTypes := #[]
  staticTypes := #[]
  resolved := Array.replicate 160 none
  statics := none }

def pool8 : Array CpInfo := pool [(8, .class_ 10), (1, u "java/util/SequencedCollection"), (15, .class_ 27), (0, u "java/lang/Object"), (0, .class_ 29), (0, u "java/util/Collection")] 27

/-- java/util/SequencedCollection -/
def k8 : Class := { plain "java/util/SequencedCollection" (some 0) with
  accessFlags := 1537
  interfaces := #[6]
  cf := some (fileOf pool8 8 #[] #[] 1537 26 #[28] #[])
  fields := #[]
  methods := #[]
  instanceTypes := #[]
  staticTypes := #[]
  resolved := Array.replicate 57 none
  statics := none }

def pool9 : Array CpInfo := pool [(8, .class_ 10), (1, u "java/util/List"), (92, .class_ 104), (0, u "java/lang/Object"), (15, .class_ 121), (0, u "java/util/SequencedCollection")] 129

/-- java/util/List -/
def k9 : Class := { plain "java/util/List" (some 0) with
  accessFlags := 1537
  interfaces := #[8]
  cf := some (fileOf pool9 8 #[] #[] 1537 103 #[120] #[])
  fields := #[]
  methods := #[]
  instanceTypes := #[]
  staticTypes := #[]
  resolved := Array.replicate 251 none
  statics := none }

def pool10 : Array CpInfo := pool [(1, .methodref 2 3), (0, .class_ 4), (0, .nameAndType 5 6), (0, u "java/util/AbstractCollection"), (0, u "<init>"), (0, u "()V"), (0, .fieldref 8 9), (0, .class_ 10), (0, .nameAndType 11 12), (0, u "java/util/AbstractList"), (0, u "modCount"), (0, u "I"), (64, .class_ 78), (0, u "java/util/AbstractList$Itr"), (3, .class_ 83), (0, u "java/util/AbstractList$ListItr"), (9, .class_ 94), (0, u "java/util/AbstractList$RandomAccessSubList"), (3, .class_ 99), (0, u "java/util/AbstractList$SubList"), (33, .class_ 134), (0, u "java/util/List"), (73, .class_ 209), (0, u "java/util/AbstractList$SubList$1"), (0, .class_ 211), (0, u "java/util/AbstractList$RandomAccessSpliterator")] 6

def k10c0 : Code := { maxStack := 2, maxLocals := 1, code := jdk_39_method_1_code, exceptionTable := #[], attributes := #[] }
def k10m0 : Method := { name := "<init>", desc := "()V", sig := { parameters := [], returnType := none }, accessFlags := 4, code := some k10c0 }
/-- java/util/AbstractList -/
def k10 : Class := { plain "java/util/AbstractList" (some 7) with
  accessFlags := 1057
  interfaces := #[9]
  cf := some (fileOf pool10 8 #[.nestMembers #[93, 98, 208, 210, 82, 77]] #[{ accessFlags := 4, nameIndex := 5, descriptorIndex := 6, attributes := #[] }] 1057 2 #[133] #[{ accessFlags := 132, nameIndex := 11, descriptorIndex := 12, attributes := #[] }])
  fields := #[{ name := "modCount", type := .int, accessFlags := 132, slot := 0, constantValue := 0 }]
  methods := #[k10m0]
  instanceTypes := #[.int]
  staticTypes := #[]
  resolved := Array.replicate 218 none
  statics := none }

def pool11 : Array CpInfo := pool [(1, .class_ 2), (0, u "java/util/RandomAccess"), (0, .class_ 4), (0, u "java/lang/Object")] 2

/-- java/util/RandomAccess -/
def k11 : Class := { plain "java/util/RandomAccess" (some 0) with
  accessFlags := 1537
  interfaces := #[]
  cf := some (fileOf pool11 1 #[] #[] 1537 3 #[] #[])
  fields := #[]
  methods := #[]
  instanceTypes := #[]
  staticTypes := #[]
  resolved := Array.replicate 7 none
  statics := none }

def pool12 : Array CpInfo := pool [(1, .class_ 2), (0, u "java/lang/Cloneable"), (0, .class_ 4), (0, u "java/lang/Object")] 2

/-- java/lang/Cloneable -/
def k12 : Class := { plain "java/lang/Cloneable" (some 0) with
  accessFlags := 1537
  interfaces := #[]
  cf := some (fileOf pool12 1 #[] #[] 1537 3 #[] #[])
  fields := #[]
  methods := #[]
  instanceTypes := #[]
  staticTypes := #[]
  resolved := Array.replicate 7 none
  statics := none }

def pool13 : Array CpInfo := pool [(1, .class_ 2), (0, u "java/io/Serializable"), (0, .class_ 4), (0, u "java/lang/Object")] 2

/-- java/io/Serializable -/
def k13 : Class := { plain "java/io/Serializable" (some 0) with
  accessFlags := 1537
  interfaces := #[]
  cf := some (fileOf pool13 1 #[] #[] 1537 3 #[] #[])
  fields := #[]
  methods := #[]
  instanceTypes := #[]
  staticTypes := #[]
  resolved := Array.replicate 7 none
  statics := none }

def pool14 : Array CpInfo := pool [(1, .methodref 2 3), (0, .class_ 4), (0, .nameAndType 5 6), (0, u "java/util/AbstractList"), (0, u "<init>"), (0, u "()V"), (2, .fieldref 10 11), (0, .class_ 12), (0, .nameAndType 13 14), (0, u "java/util/ArrayList"), (0, u "elementData"), (0, u "[Ljava/lang/Object;"), (2, u "EMPTY_ELEMENTDATA"), (21, .fieldref 10 40), (0, .nameAndType 41 14), (0, u "DEFAULTCAPACITY_EMPTY_ELEMENTDATA"), (8, u "size"), (0, u "I"), (96, .class_ 149), (0, u "java/util/List"), (112, .class_ 263), (0, u "java/util/ArrayList$ListItr"), (3, .class_ 268), (0, u "java/util/ArrayList$Itr"), (7, .class_ 277), (0, u "java/util/ArrayList$SubList"), (12, .class_ 291), (0, u "java/util/ArrayList$ArrayListSpliterator"), (37, .class_ 330), (0, u "java/util/RandomAccess"), (0, .class_ 332), (0, u "java/lang/Cloneable"), (0, .class_ 334), (0, u "java/io/Serializable"), (0, u "serialVersionUID"), (0, u "J"), (3, u "DEFAULT_CAPACITY"), (159, .class_ 501), (0, u "java/util/ArrayList$SubList$2"), (0, .class_ 503), (0, u "java/util/ArrayList$SubList$1")] 5

def k14c0 : Code := { maxStack := 2, maxLocals := 1, code := jdk_38_method_2_code, exceptionTable := #[], attributes := #[] }
def k14m0 : Method := { name := "<init>", desc := "()V", sig := { parameters := [], returnType := none }, accessFlags := 1, code := some k14c0 }
/-- java/util/ArrayList -/
def k14 : Class := { plain "java/util/ArrayList" (some 10) with
  accessFlags := 33
  interfaces := #[9, 11, 12, 13]
  cf := some (fileOf pool14 10 #[.nestMembers #[290, 276, 500, 502, 262, 267]] #[{ accessFlags := 1, nameIndex := 5, descriptorIndex := 6, attributes := #[] }] 33 2 #[148, 329, 331, 333] #[{ accessFlags := 26, nameIndex := 335, descriptorIndex := 336, attributes := #[] }, { accessFlags := 26, nameIndex := 340, descriptorIndex := 51, attributes := #[] }, { accessFlags := 26, nameIndex := 17, descriptorIndex := 14, attributes := #[] }, { accessFlags := 26, nameIndex := 41, descriptorIndex := 14, attributes := #[] }, { accessFlags := 128, nameIndex := 13, descriptorIndex := 14, attributes := #[] }, { accessFlags := 2, nameIndex := 50, descriptorIndex := 51, attributes := #[] }])
  fields := #[{ name := "serialVersionUID", type := .long, accessFlags := 26, slot := 0, constantValue := 0 }, { name := "DEFAULT_CAPACITY", type := .int, accessFlags := 26, slot := 1, constantValue := 0 }, { name := "EMPTY_ELEMENTDATA", type := (.array (.object "java/lang/Object")), accessFlags := 26, slot := 2, constantValue := 0 }, { name := "DEFAULTCAPACITY_EMPTY_ELEMENTDATA", type := (.array (.object "java/lang/Object")), accessFlags := 26, slot := 3, constantValue := 0 }, { name := "elementData", type := (.array (.object "java/lang/Object")), accessFlags := 128, slot := 1, constantValue := 0 }, { name := "size", type := .int, accessFlags := 2, slot := 2, constantValue := 0 }]
  methods := #[k14m0]
  instanceTypes := #[.int, (.array (.object "java/lang/Object")), .int]
  staticTypes := #[.long, .int, (.array (.object "java/lang/Object")), (.array (.object "java/lang/Object"))]
  resolved := Array.replicate 509 none
  statics := some 0 }

/-- the primitive byte -/
def k15 : Class := { plain "byte" none with kind := .primitive 'B', accessFlags := 0x411 }
/-- [B -/
def k16 : Class := { plain "[B" (some 0) with kind := .array 15 .byte, interfaces := #[12, 13], accessFlags := 1041 }

/-- the primitive int -/
def k17 : Class := { plain "int" none with kind := .primitive 'I', accessFlags := 0x411 }
/-- [I -/
def k18 : Class := { plain "[I" (some 0) with kind := .array 17 .int, interfaces := #[12, 13], accessFlags := 1041 }

/-- [Ljava/lang/Object; -/
def k19 : Class := { plain "[Ljava/lang/Object;" (some 0) with kind := .array 0 (.object "java/lang/Object"), interfaces := #[12, 13], accessFlags := 1041 }

def heap : Heap := #[{ cls := 14, slots := #[.long 0, .int 0, .ref 1, .ref 2], vm := .statics 14 },
  { cls := 19, slots := #[], vm := .none },
  { cls := 19, slots := #[], vm := .none }]
def classes : Array Class := #[k0, k1, k2, k3, k4, k5, k6, k7, k8, k9, k10, k11, k12, k13, k14, k15, k16, k17, k18, k19]
def interned : List (Array UInt16 × Addr) := []
def slotsUsed : Nat := 4
def theMethod : MethodId := ⟨1, 1⟩
def args0 : Array Value := #[.int 7, .int 7]
def aboutOver (below : List Frame) : State where
  vm := { classes := classes, interned := interned.toArray }
  heap := heap
  slotsUsed := slotsUsed
  threads := #[{ frames := .invoking theMethod args0 :: below }]
def below0 : List Frame := [.native { method := ⟨0, 0⟩, args := #[] }]
def about1 : State := aboutOver below0
def p0 : Program := .bare "" "" ""
def e0 : Env := launch0.env 0 0 0
theorem w_frames : about1.frames = Frame.invoking theMethod args0 :: below0 := rfl
set_option maxRecDepth 65536 in
theorem w_args : argsFit about1.vm theMethod args0 = true := by decide +kernel
set_option maxRecDepth 65536 in
theorem w_heap : heapFits about1 = true := by decide +kernel
set_option maxRecDepth 65536 in
theorem w_runnable : about1.curStatus? = some .runnable := by decide +kernel
set_option maxRecDepth 65536 in
theorem w_alone : about1.alone = true := by decide +kernel
set_option maxRecDepth 65536 in
theorem w_named : about1.methodNamed? x = some theMethod := by decide +kernel
set_option maxRecDepth 65536 in
theorem w_hears : about1.hears theMethod below0 = true := by decide +kernel
set_option maxRecDepth 65536 in
theorem w_ripe : about1.ripe theMethod args0 below0 = true := by decide +kernel
theorem w_running : about1.status = .running := rfl
set_option maxRecDepth 65536 in
theorem w_room : about1.hasRoom e0.platform room_1 = true :=
  launch0.hasRoom_least _ room_1 (by decide +kernel) (by decide +kernel) (by decide +kernel) (by decide +kernel) (by decide +kernel) (by decide +kernel)
theorem allAtoms_all (ts : List Jvm.Cond) (a : Array Jvm.Value) (st : Jvm.State) : (allAtoms ts).before a st = ts.all (fun c => c.before a st) := by
  induction ts with
  | nil => rfl
  | cons c t ih =>
    show (Jvm.Cond.and c (allAtoms t)).before a st = _
    rw [Jvm.Cond.before_and, ih, List.all_cons]
def words1 : List Jvm.Cond := Jvm.Cond.code x code maxLocals ret :: tables_1
/-- a 'code' word, met by the world's own term for the bytes: nothing is compared byte by byte -/
theorem code_word {y : MethodName} {bytes : ByteArray} {mx : Nat} {rt : Option FieldType} {a : Array Value} {s : State} {m : MethodId} {meth : Method} {c : Code} (h1 : s.methodNamed? y = some m) (h2 : s.vm.method? m = some meth) (h3 : meth.code = some c) (h4 : c.code = bytes)
    (h5 : (c.maxLocals == mx && c.exceptionTable.isEmpty && decide (c.maxStack ≤ mostOperands) && decide (meth.sig.returnType = rt) && !meth.locks && decide (parseMethodDescriptor y.desc = some meth.sig)) = true) : (Jvm.Cond.code y bytes mx rt).before a s = true := by
  simp only [Bool.and_eq_true, beq_iff_eq, Bool.not_eq_true', decide_eq_true_eq] at h5
  obtain ⟨⟨⟨⟨⟨g1, g2⟩, g3⟩, g4⟩, g5⟩, g6⟩ := h5
  simp [Cond.before, Cond.holds, Cond.value, h1, h2, h3, h4, g1, g2, g3, g4, g5, g6]
def isCode : Jvm.Cond → Bool
  | .code _ _ _ _ => true
  | _ => false
theorem all_split {L : List Jvm.Cond} {P : Jvm.Cond → Bool} (h1 : L.all (fun c => isCode c || P c) = true) (h2 : ∀ c ∈ L.filter isCode, P c = true) : L.all P = true := by
  refine List.all_eq_true.mpr fun c hc => ?_
  have h := List.all_eq_true.mp h1 c hc
  rcases Bool.eq_false_or_eq_true (isCode c) with hi | hi
  · exact h2 c (List.mem_filter.mpr ⟨hc, hi⟩)
  · simpa [hi] using h
set_option maxRecDepth 65536 in
theorem w_c0 : (Jvm.Cond.code x code maxLocals ret).before args0 about1 = true := code_word (m := ⟨1, 1⟩) (meth := k1m1) (c := k1c1) (by decide +kernel) rfl rfl rfl (by decide +kernel)
set_option maxRecDepth 65536 in
theorem w_c1 : (Jvm.Cond.code ({ cls := "java/util/ArrayList", name := "<init>", desc := "()V" } : Jvm.MethodName) jdk_38_method_2_code (1 : Nat) (Option.none : Option Jvm.ClassFile.FieldType)).before args0 about1 = true := code_word (m := ⟨14, 0⟩) (meth := k14m0) (c := k14c0) (by decide +kernel) rfl rfl rfl (by decide +kernel)
set_option maxRecDepth 65536 in
theorem w_c2 : (Jvm.Cond.code ({ cls := "java/util/AbstractList", name := "<init>", desc := "()V" } : Jvm.MethodName) jdk_39_method_1_code (1 : Nat) (Option.none : Option Jvm.ClassFile.FieldType)).before args0 about1 = true := code_word (m := ⟨10, 0⟩) (meth := k10m0) (c := k10c0) (by decide +kernel) rfl rfl rfl (by decide +kernel)
set_option maxRecDepth 65536 in
theorem w_c3 : (Jvm.Cond.code ({ cls := "java/util/AbstractCollection", name := "<init>", desc := "()V" } : Jvm.MethodName) jdk_22_method_1_code (1 : Nat) (Option.none : Option Jvm.ClassFile.FieldType)).before args0 about1 = true := code_word (m := ⟨7, 0⟩) (meth := k7m0) (c := k7c0) (by decide +kernel) rfl rfl rfl (by decide +kernel)
set_option maxRecDepth 65536 in
theorem w_c4 : (Jvm.Cond.code ({ cls := "java/lang/Object", name := "<init>", desc := "()V" } : Jvm.MethodName) object_method_1_code (1 : Nat) (Option.none : Option Jvm.ClassFile.FieldType)).before args0 about1 = true := code_word (m := ⟨0, 0⟩) (meth := k0m0) (c := k0c0) (by decide +kernel) rfl rfl rfl (by decide +kernel)
set_option maxRecDepth 65536 in
theorem w_c5 : (Jvm.Cond.code ({ cls := "com/example/panchayat/panchayat/protocol/CreateRequest", name := "<init>", desc := "(Ljava/lang/String;[BLjava/util/List;I)V" } : Jvm.MethodName) prog_16_method_1_code (5 : Nat) (Option.none : Option Jvm.ClassFile.FieldType)).before args0 about1 = true := code_word (m := ⟨4, 0⟩) (meth := k4m0) (c := k4c0) (by decide +kernel) rfl rfl rfl (by decide +kernel)
set_option maxRecDepth 65536 in
theorem w_c6 : (Jvm.Cond.code ({ cls := "java/lang/Record", name := "<init>", desc := "()V" } : Jvm.MethodName) jdk_30_method_1_code (1 : Nat) (Option.none : Option Jvm.ClassFile.FieldType)).before args0 about1 = true := code_word (m := ⟨2, 0⟩) (meth := k2m0) (c := k2c0) (by decide +kernel) rfl rfl rfl (by decide +kernel)
set_option maxRecDepth 65536 in
theorem w_c7 : (Jvm.Cond.code ({ cls := "com/example/panchayat/panchayat/protocol/CreateRequest", name := "mode", desc := "(ZZ)I" } : Jvm.MethodName) prog_16_method_3_code (2 : Nat) (Option.some Jvm.ClassFile.FieldType.int)).before args0 about1 = true := code_word (m := ⟨4, 1⟩) (meth := k4m1) (c := k4c1) (by decide +kernel) rfl rfl rfl (by decide +kernel)
set_option maxRecDepth 65536 in
theorem w_c8 : (Jvm.Cond.code ({ cls := "com/example/panchayat/panchayat/protocol/CreateRequest", name := "isEphemeral", desc := "()Z" } : Jvm.MethodName) prog_16_method_7_code (1 : Nat) (Option.some Jvm.ClassFile.FieldType.boolean)).before args0 about1 = true := code_word (m := ⟨4, 2⟩) (meth := k4m2) (c := k4c2) (by decide +kernel) rfl rfl rfl (by decide +kernel)
def codes1 : List Jvm.Cond := [Jvm.Cond.code x code maxLocals ret, Jvm.Cond.code ({ cls := "java/util/ArrayList", name := "<init>", desc := "()V" } : Jvm.MethodName) jdk_38_method_2_code (1 : Nat) (Option.none : Option Jvm.ClassFile.FieldType), Jvm.Cond.code ({ cls := "java/util/AbstractList", name := "<init>", desc := "()V" } : Jvm.MethodName) jdk_39_method_1_code (1 : Nat) (Option.none : Option Jvm.ClassFile.FieldType), Jvm.Cond.code ({ cls := "java/util/AbstractCollection", name := "<init>", desc := "()V" } : Jvm.MethodName) jdk_22_method_1_code (1 : Nat) (Option.none : Option Jvm.ClassFile.FieldType), Jvm.Cond.code ({ cls := "java/lang/Object", name := "<init>", desc := "()V" } : Jvm.MethodName) object_method_1_code (1 : Nat) (Option.none : Option Jvm.ClassFile.FieldType), Jvm.Cond.code ({ cls := "com/example/panchayat/panchayat/protocol/CreateRequest", name := "<init>", desc := "(Ljava/lang/String;[BLjava/util/List;I)V" } : Jvm.MethodName) prog_16_method_1_code (5 : Nat) (Option.none : Option Jvm.ClassFile.FieldType), Jvm.Cond.code ({ cls := "java/lang/Record", name := "<init>", desc := "()V" } : Jvm.MethodName) jdk_30_method_1_code (1 : Nat) (Option.none : Option Jvm.ClassFile.FieldType), Jvm.Cond.code ({ cls := "com/example/panchayat/panchayat/protocol/CreateRequest", name := "mode", desc := "(ZZ)I" } : Jvm.MethodName) prog_16_method_3_code (2 : Nat) (Option.some Jvm.ClassFile.FieldType.int), Jvm.Cond.code ({ cls := "com/example/panchayat/panchayat/protocol/CreateRequest", name := "isEphemeral", desc := "()Z" } : Jvm.MethodName) prog_16_method_7_code (1 : Nat) (Option.some Jvm.ClassFile.FieldType.boolean)]
set_option maxRecDepth 65536 in
theorem codes_eq : words1.filter isCode = codes1 := rfl
theorem w_codes : ∀ c ∈ words1.filter isCode, c.before args0 about1 = true := by
  rw [codes_eq]
  intro c hc
  simp only [codes1, List.mem_cons, List.not_mem_nil, or_false] at hc
  rcases hc with rfl | rfl | rfl | rfl | rfl | rfl | rfl | rfl | rfl
  · exact w_c0
  · exact w_c1
  · exact w_c2
  · exact w_c3
  · exact w_c4
  · exact w_c5
  · exact w_c6
  · exact w_c7
  · exact w_c8
set_option maxRecDepth 65536 in
theorem w_t1 : (words1.take 24).all (fun c => isCode c || c.before args0 about1) = true := by decide +kernel
set_option maxRecDepth 65536 in
theorem w_t2 : ((words1.drop 24).take 24).all (fun c => isCode c || c.before args0 about1) = true := by decide +kernel
set_option maxRecDepth 65536 in
theorem w_t3 : ((words1.drop 24).drop 24).all (fun c => isCode c || c.before args0 about1) = true := by decide +kernel
theorem w_tables : (allAtoms (Jvm.Cond.code x code maxLocals ret :: tables_1)).before args0 about1 = true := by
  rw [allAtoms_all]
  show words1.all (fun c => c.before args0 about1) = true
  refine all_split ?_ w_codes
  rw [← List.take_append_drop 24 words1, List.all_append, w_t1, ← List.take_append_drop 24 (words1.drop 24), List.all_append, w_t2, w_t3]
  rfl
set_option maxRecDepth 65536 in
theorem w_rest : rest_1_c.before args0 about1 = true := by decide +kernel
set_option maxRecDepth 65536 in
theorem w_case : (Jvm.Cond.and given_1 narrow_1).before args0 about1 = true := by decide +kernel
theorem w_applies : (headSpec (Jvm.Cond.code x code maxLocals ret :: tables_1) room_1).applies x e0.platform about1 = true :=
  (Spec.applies_iff w_frames).mpr ⟨w_running, w_runnable, w_alone, w_named, w_hears, w_ripe, w_room, w_tables⟩
theorem atStart : AtStart classFile x code maxLocals ret World_1 tables_1 room_1 Calls_1 rest_1 Pre_1 launch0 p0 e0 about1 theMethod args0 below0 :=
  ⟨lists_1, trivial, launch0.admits_env _ _ _, launch0.least_env, fairChoices_fair.cas, fairChoices_fair.clock, w_frames, w_args, w_heap, w_applies, trivial, w_rest, w_case⟩
end start1
theorem witness_1 : WitnessClaimed_1 := ⟨start1.p0, start1.e0, start1.about1, start1.theMethod, start1.args0, start1.below0, start1.atStart⟩
end Jvm.Pilot.@@N@@
