import JvmDerived
import JvmDerived.Pilot.@@N@@Statement
import JvmDerived.Pilot.@@N@@Code
set_option linter.unusedVariables false
set_option linter.unusedSimpArgs false
namespace Jvm.RoadKit
open Sem ClassFile Op Lib Jvm.Stand Jvm.Free Jvm.LawKit
section New
variable {p : Program} {l : Launch} {e : Env} {R : Room} {s : State} {m : MethodId} {args : Array Value} {below : List Frame} {meth : Method} {c : Code} {T : State} {locs : List Loc} {cells slots : Nat}
theorem retI (X : Stand p l e R s m args below meth c T locs cells slots) (hx : p.tables.exec = Jvm.exec) {pc : Nat} {Ls : Array Slot} {z : Int32} {rest : List Value} (hret : meth.sig.returnType = some .int) (hd : decode c.code pc = .ok (.ireturn, 1)) {fs : List Frame}
    (hl : ∀ (f : JFrame) (acts : List Action), f.method = m → f.locked = none → f.entered = [] → (doReturn e (T.setTop f) acts (some (.int z))).1 = T.setFrames fs) : Steps p.tables e below (T.setTop (mkF m pc Ls (.int z :: rest))) (T.setFrames fs) := by
  have hm' : T.vm.method? m = some meth := X.method'
  have hn : narrow .int (.int z) = .int z := rfl
  show Steps p.tables e below (T.setTop { method := m, pc := pc, locals := Ls, stack := _ :: rest, locked := none }) _
  jvm_step X.here [X.here.top, hx, hd, hm', hret, hn]
  first | (intro acts; rw [hl _ acts rfl rfl rfl]) | rw [hl _ _ rfl rfl rfl]
  exact Steps.refl _
end New
end Jvm.RoadKit
namespace Jvm.Pilot.@@N@@
open Jvm Jvm.ClassFile Sem Op Lib Jvm.Free Jvm.Stand Jvm.LawKit Jvm.RoadKit Bundle Jvm.Pilot.@@N@@.Jvm.D
theorem d1_0 : decode prog_18_method_2_code 0 = .ok (.aload_n 0, 1) := by decide +kernel
theorem d1_1 : decode prog_18_method_2_code 1 = .ok (.arraylength, 1) := by decide +kernel
theorem d1_2 : decode prog_18_method_2_code 2 = .ok (.iconst 2, 1) := by decide +kernel
theorem d1_3 : decode prog_18_method_2_code 3 = .ok (.iadd, 1) := by decide +kernel
theorem d1_4 : decode prog_18_method_2_code 4 = .ok (.newarray .byte, 2) := by decide +kernel
theorem d1_6 : decode prog_18_method_2_code 6 = .ok (.astore_n 2, 1) := by decide +kernel
theorem d1_7 : decode prog_18_method_2_code 7 = .ok (.aload_n 0, 1) := by decide +kernel
theorem d1_8 : decode prog_18_method_2_code 8 = .ok (.iconst 0, 1) := by decide +kernel
theorem d1_9 : decode prog_18_method_2_code 9 = .ok (.aload_n 2, 1) := by decide +kernel
theorem d1_10 : decode prog_18_method_2_code 10 = .ok (.iconst 0, 1) := by decide +kernel
theorem d1_11 : decode prog_18_method_2_code 11 = .ok (.aload_n 0, 1) := by decide +kernel
theorem d1_12 : decode prog_18_method_2_code 12 = .ok (.arraylength, 1) := by decide +kernel
theorem d1_13 : decode prog_18_method_2_code 13 = .ok (.invokestatic 7, 3) := by decide +kernel
theorem d1_16 : decode prog_18_method_2_code 16 = .ok (.aload_n 2, 1) := by decide +kernel
theorem d1_17 : decode prog_18_method_2_code 17 = .ok (.aload_n 0, 1) := by decide +kernel
theorem d1_18 : decode prog_18_method_2_code 18 = .ok (.arraylength, 1) := by decide +kernel
theorem d1_19 : decode prog_18_method_2_code 19 = .ok (.iload_n 1, 1) := by decide +kernel
theorem d1_20 : decode prog_18_method_2_code 20 = .ok (.bipush 8, 2) := by decide +kernel
theorem d1_22 : decode prog_18_method_2_code 22 = .ok (.ishr, 1) := by decide +kernel
theorem d1_23 : decode prog_18_method_2_code 23 = .ok (.i2b, 1) := by decide +kernel
theorem d1_24 : decode prog_18_method_2_code 24 = .ok (.bastore, 1) := by decide +kernel
theorem d1_25 : decode prog_18_method_2_code 25 = .ok (.aload_n 2, 1) := by decide +kernel
theorem d1_26 : decode prog_18_method_2_code 26 = .ok (.aload_n 0, 1) := by decide +kernel
theorem d1_27 : decode prog_18_method_2_code 27 = .ok (.arraylength, 1) := by decide +kernel
theorem d1_28 : decode prog_18_method_2_code 28 = .ok (.iconst 1, 1) := by decide +kernel
theorem d1_29 : decode prog_18_method_2_code 29 = .ok (.iadd, 1) := by decide +kernel
theorem d1_30 : decode prog_18_method_2_code 30 = .ok (.iload_n 1, 1) := by decide +kernel
theorem d1_31 : decode prog_18_method_2_code 31 = .ok (.i2b, 1) := by decide +kernel
theorem d1_32 : decode prog_18_method_2_code 32 = .ok (.bastore, 1) := by decide +kernel
theorem d1_33 : decode prog_18_method_2_code 33 = .ok (.aload_n 2, 1) := by decide +kernel
theorem d1_34 : decode prog_18_method_2_code 34 = .ok (.areturn, 1) := by decide +kernel
theorem pd0 : parseMethodDescriptor "([BI)[B" = some ⟨[(.array .byte), .int], some (.array .byte)⟩ := by decide +kernel
theorem pn0 : plainName "com/example/cardwarden/cardwarden/core/card/StatusWord" = true := by first | (simp [plainName, overriddenIn]; done) | decide +kernel
theorem pn1 : plainName "com/example/cardwarden/cardwarden/core/card/StatusWordRespondPinLaw" = true := by first | (simp [plainName, overriddenIn]; done) | decide +kernel
theorem ef1_0 (m : MethodId) (x0 : Addr) (x1 : Int32) : entryFrame m #[(.ref x0), (.int x1)] 3 = mkF m 0 #[.val (.ref x0), .val (.int x1), .unset] [] := by first | (simp [entryFrame, mkF, argsToLocals, Value.category]; done) | rfl
def Q1_0 (Z : State) (a0 : Addr) (p1 : Int32) (k_a0 : ClassId) (h0 : Heap) (n0 : Nat) (v : Option Value) (h : Heap) (L : List Loc) : Prop := ∃ b : Addr, v = some (.ref b) ∧ Fr n0 L ∧ h0.size ≤ b ∧ n0 ≤ b ∧ Keep h0 h [] ∧ ∃ kk : ClassId, Arv Z h b kk .byte (2 : Int32) [(.int (((p1 >>> ((8 : Int32) &&& 31)).toInt8.toInt32).toInt8.toInt32)), (.int ((p1.toInt8.toInt32).toInt8.toInt32))] (.int 0)
set_option maxRecDepth 65536 in
set_option maxHeartbeats 40000000 in
theorem rm1_0 (l : Launch) (Z : State) (a0' : Array Value) (hw : ∀ d ∈ tables_1, d.before a0' Z = true) (ws : List Jvm.Cond) (a0 : Addr) (p1 : Int32) (k_a0 : ClassId) (h0 : Heap) (n0 : Nat) (Z0 : n0 ≤ h0.size) (V_a0 : Arv Z h0 a0 k_a0 .byte (0 : Int32) [] (.int 0)) :
    MetFree l (⟨"com/example/cardwarden/cardwarden/core/card/StatusWord", "respond", "([BI)[B"⟩ : MethodName) (head1 (Jvm.Cond.code (⟨"com/example/cardwarden/cardwarden/core/card/StatusWord", "respond", "([BI)[B"⟩ : MethodName) prog_18_method_2_code 3 (some (.array .byte)) :: ws) ({ frames := 1, cells := 1, slots := 2, locals := 18 } : Room)) (fun a U => a = #[(.ref a0), (.int p1)] ∧ Z.Warmed39 U.vm ∧ U.heap = h0) (fun _ _ _ _ _ => True) (fun _ U o U' => ∃ v L, o = .returned v ∧ Q1_0 Z a0 p1 k_a0 h0 n0 v U'.heap L ∧ FrameEnd U o U' L ({ frames := 1, cells := 1, slots := 2, locals := 18 } : Room).cells ({ frames := 1, cells := 1, slots := 2, locals := 18 } : Room).slots) := by
  refine MetFree.of_bodySF (plainFor_of_name pn0) hisR ?_
  intro p e s m args below meth c s₁ Bd hml0 hP hK
  obtain ⟨rfl, hZ, hh⟩ := hP
  have hx := Bd.exec
  have hby := Bd.bytes
  have hml : c.maxLocals = 3 := hml0
  have hown : s.vm.findClass "com/example/cardwarden/cardwarden/core/card/StatusWord" = some m.cls := findClass_of_methodNamed Bd.named
  have hnm := (name_of_methodNamed Bd.named Bd.method).1
  have X0 : Stand p l e ({ frames := 1, cells := 1, slots := 2, locals := 18 } : Room) s m #[(.ref a0), (.int p1)] below meth c s₁ [] 0 0 := Stand.of_body Bd
  have e0 : s₁.heap = h0 := by rw [← hh, Bd.state]; rfl
  have N0 := Fr.nil n0
  have hlk : meth.locks = false := by first | exact BodyLoose.notSynchronized Bd | exact Body.notSynchronized Bd
  have pre0 : ∀ t, Steps p.tables e below (s₁.setTop (mkF m 0 #[.val (.ref a0), .val (.int p1), .unset] [])) t → Steps p.tables e below (s₁.setTop (entryFrame m #[(.ref a0), (.int p1)] 3)) t := fun t k => castTop (ef1_0 m a0 p1) k
  obtain ⟨cl1, Ar1, q1, S1, M1, H1, G1⟩ := id V_a0
  obtain ⟨T2, h2, k2, X2, e2, E2, A2, st2⟩ := newP X0 hx hZ (hw _ (List.mem_of_getElem? (i := 0) rfl)) e0 (g := (mkF m 4 #[.val (.ref a0), .val (.int p1), .unset] [(.int (2 : Int32))])) rfl (hb hby d1_4) rfl (by decide) (cap := 2) (by decide) (by decide) (by decide) (by decide)
  obtain ⟨b2, g2⟩ : ∃ z, z = h0.size := ⟨_, rfl⟩
  rw [← g2] at A2 st2
  have ne_a0_b2 : a0 ≠ b2 := Nat.ne_of_lt (Nat.lt_of_lt_of_le V_a0.lt (Nat.le_of_eq g2.symm))
  have g_b2 : n0 ≤ b2 := Nat.le_trans Z0 (Nat.le_of_eq g2.symm)
  have sz_b2 : h0.size ≤ b2 := Nat.le_trans (Keep.refl h0 []).1 (Nat.le_of_eq g2.symm)
  have Z2 : n0 ≤ h2.size := Nat.le_trans Z0 E2.1
  have KC2 : Keep h0 h2 [] := (Keep.refl h0 []).ext E2
  have V2 : Arv Z h2 b2 k2 .byte (2 : Int32) [(.int (0 : Int32)), (.int (0 : Int32))] (.int (0 : Int32)) := (Arv.new A2 (by decide)).pad (pad_rep [] (.int (0 : Int32)) 2)
  have y3 := (V_a0.ext E2)
  obtain ⟨cl4, Ar4, q4, S4, M4, H4, G4⟩ := id y3
  obtain ⟨T5, h5, L5, X5, e5, N5, K5, V5, st5⟩ := cpA X2 hx hZ hown (hw _ (List.mem_of_getElem? (i := 5) rfl)) (hw _ (List.mem_of_getElem? (i := 8) rfl)) (hw _ (List.mem_of_getElem? (i := 6) rfl)) (hw _ (List.mem_of_getElem? (i := 7) rfl)) e2 y3 V2 (sp := (0 : Int32)) (dp := (0 : Int32)) (nn := (0 : Int32)) (us := []) (Or.inl ⟨rfl, rfl⟩) (by decide) (by decide) (by decide) (by decide) (by decide) rfl (by decide) N0 g_b2 (g := (mkF m 13 #[.val (.ref a0), .val (.int p1), .val (.ref b2)] [(.int (0 : Int32)), (.int (0 : Int32)), (.ref b2), (.int (0 : Int32)), (.ref a0)])) rfl (by rw [hml]; rfl) rfl (hb hby d1_13) (by decide) (W := 0) (by show 2 * 0 + _ ≤ _; exact Nat.le_of_eq rfl) (by decide)
  have Z5 : n0 ≤ h5.size := Nat.le_trans Z2 K5.1
  have KC5 : Keep h0 h5 [] := KC2.trans K5 (allS (Or.inr sz_b2) all0)
  have V5' : Arv Z h5 b2 k2 .byte (2 : Int32) [(.int (0 : Int32)), (.int (0 : Int32))] (.int (0 : Int32)) := V5
  have y6 := (y3.keep K5 (ninS ne_a0_b2 nin0))
  obtain ⟨cl7, Ar7, q7, S7, M7, H7, G7⟩ := id y6
  obtain ⟨cl8, Ar8, q8, S8, M8, H8, G8⟩ := id V5'
  have hin8 : ¬ ((0 : Int32) < 0 ∨ cl8.slots.size ≤ ((0 : Int32)).toNatClampNeg) := inb_of S8 ⟨by decide, by decide⟩
  obtain ⟨T9, h9, X9, e9, W9, st9⟩ := stB X5 hx hZ e5 Ar8 (j := (0 : Int32)) hin8 (g := (mkF m 24 #[.val (.ref a0), .val (.int p1), .val (.ref b2)] [(.int ((p1 >>> ((8 : Int32) &&& 31)).toInt8.toInt32)), (.int (0 : Int32)), (.ref b2)])) rfl rfl (hb hby d1_24)
  have Z9 : n0 ≤ h9.size := Nat.le_trans Z5 (Keep.of_wr W9).1
  have N9 := Fr.snoc X9 N5 g_b2
  have KC9 : Keep h0 h9 [] := KC5.wr W9 (Or.inr sz_b2)
  have V9 : Arv Z h9 b2 k2 .byte (2 : Int32) [(.int (((p1 >>> ((8 : Int32) &&& 31)).toInt8.toInt32).toInt8.toInt32)), (.int (0 : Int32))] (.int (0 : Int32)) := Arv.set Ar8 q8 S8 M8 H8 G8 (fits_nar_byte _) W9 0 rfl (Nat.le_of_ble_eq_true rfl)
  have y10 := (y6.other W9 ne_a0_b2)
  obtain ⟨cl11, Ar11, q11, S11, M11, H11, G11⟩ := id y10
  obtain ⟨cl12, Ar12, q12, S12, M12, H12, G12⟩ := id V9
  have hin12 : ¬ ((1 : Int32) < 0 ∨ cl12.slots.size ≤ ((1 : Int32)).toNatClampNeg) := inb_of S12 ⟨by decide, by decide⟩
  obtain ⟨T13, h13, X13, e13, W13, st13⟩ := stB X9 hx hZ e9 Ar12 (j := (1 : Int32)) hin12 (g := (mkF m 32 #[.val (.ref a0), .val (.int p1), .val (.ref b2)] [(.int (p1.toInt8.toInt32)), (.int (1 : Int32)), (.ref b2)])) rfl rfl (hb hby d1_32)
  have Z13 : n0 ≤ h13.size := Nat.le_trans Z9 (Keep.of_wr W13).1
  have N13 := Fr.snoc X13 N9 g_b2
  have KC13 : Keep h0 h13 [] := KC9.wr W13 (Or.inr sz_b2)
  have V13 : Arv Z h13 b2 k2 .byte (2 : Int32) [(.int (((p1 >>> ((8 : Int32) &&& 31)).toInt8.toInt32).toInt8.toInt32)), (.int ((p1.toInt8.toInt32).toInt8.toInt32))] (.int (0 : Int32)) := Arv.set Ar12 q12 S12 M12 H12 G12 (fits_nar_byte _) W13 1 rfl (Nat.le_of_ble_eq_true rfl)
  have pre14 : ∀ t, Steps p.tables e below (T13.setTop (mkF m 34 #[.val (.ref a0), .val (.int p1), .val (.ref b2)] [(.ref b2)])) t → Steps p.tables e below (s₁.setTop (entryFrame m #[(.ref a0), (.int p1)] 3)) t := fun t k => pre0 t (by
    show Steps p.tables e below (s₁.setTop (mkF m 0 #[.val (.ref a0), .val (.int p1), .unset] [])) _
    refine XS.aloadN X0.here hx rfl (hb hby d1_0) rfl rfl ?_
    show Steps p.tables e below (s₁.setTop (mkF m 1 #[.val (.ref a0), .val (.int p1), .unset] [(.ref a0)])) _
    refine X0.arraylength hx (by rw [e0]; exact Ar1.1) (State.isArrayOf_alike hZ.alike Ar1.2.1) (g := (mkF m 1 #[.val (.ref a0), .val (.int p1), .unset] [(.ref a0)])) rfl rfl (hb hby d1_1) _ ?_
    rw [len_of S1 M1]
    show Steps p.tables e below (s₁.setTop (mkF m 2 #[.val (.ref a0), .val (.int p1), .unset] [(.int (0 : Int32))])) _
    refine XS.iconst X0.here hx rfl (hb hby d1_2) ?_
    show Steps p.tables e below (s₁.setTop (mkF m 3 #[.val (.ref a0), .val (.int p1), .unset] [(.int (2 : Int32)), (.int (0 : Int32))])) _
    refine XS.iadd X0.here hx rfl (hb hby d1_3) rfl ?_
    show Steps p.tables e below (s₁.setTop (mkF m 4 #[.val (.ref a0), .val (.int p1), .unset] [(.int (2 : Int32))])) _
    refine st2 _ ?_
    show Steps p.tables e below (T2.setTop (mkF m 6 #[.val (.ref a0), .val (.int p1), .unset] [(.ref b2)])) _
    refine XS.astoreN X2.here hx rfl (hb hby d1_6) rfl rfl (l' := #[.val (.ref a0), .val (.int p1), .val (.ref b2)]) rfl ?_
    show Steps p.tables e below (T2.setTop (mkF m 7 #[.val (.ref a0), .val (.int p1), .val (.ref b2)] [])) _
    refine XS.aloadN X2.here hx rfl (hb hby d1_7) rfl rfl ?_
    show Steps p.tables e below (T2.setTop (mkF m 8 #[.val (.ref a0), .val (.int p1), .val (.ref b2)] [(.ref a0)])) _
    refine XS.iconst X2.here hx rfl (hb hby d1_8) ?_
    show Steps p.tables e below (T2.setTop (mkF m 9 #[.val (.ref a0), .val (.int p1), .val (.ref b2)] [(.int (0 : Int32)), (.ref a0)])) _
    refine XS.aloadN X2.here hx rfl (hb hby d1_9) rfl rfl ?_
    show Steps p.tables e below (T2.setTop (mkF m 10 #[.val (.ref a0), .val (.int p1), .val (.ref b2)] [(.ref b2), (.int (0 : Int32)), (.ref a0)])) _
    refine XS.iconst X2.here hx rfl (hb hby d1_10) ?_
    show Steps p.tables e below (T2.setTop (mkF m 11 #[.val (.ref a0), .val (.int p1), .val (.ref b2)] [(.int (0 : Int32)), (.ref b2), (.int (0 : Int32)), (.ref a0)])) _
    refine XS.aloadN X2.here hx rfl (hb hby d1_11) rfl rfl ?_
    show Steps p.tables e below (T2.setTop (mkF m 12 #[.val (.ref a0), .val (.int p1), .val (.ref b2)] [(.ref a0), (.int (0 : Int32)), (.ref b2), (.int (0 : Int32)), (.ref a0)])) _
    refine X2.arraylength hx (by rw [e2]; exact Ar4.1) (State.isArrayOf_alike hZ.alike Ar4.2.1) (g := (mkF m 12 #[.val (.ref a0), .val (.int p1), .val (.ref b2)] [(.ref a0), (.int (0 : Int32)), (.ref b2), (.int (0 : Int32)), (.ref a0)])) rfl rfl (hb hby d1_12) _ ?_
    rw [len_of S4 M4]
    show Steps p.tables e below (T2.setTop (mkF m 13 #[.val (.ref a0), .val (.int p1), .val (.ref b2)] [(.int (0 : Int32)), (.int (0 : Int32)), (.ref b2), (.int (0 : Int32)), (.ref a0)])) _
    refine st5 _ ?_
    show Steps p.tables e below (T5.setTop (mkF m 16 #[.val (.ref a0), .val (.int p1), .val (.ref b2)] [])) _
    refine XS.aloadN X5.here hx rfl (hb hby d1_16) rfl rfl ?_
    show Steps p.tables e below (T5.setTop (mkF m 17 #[.val (.ref a0), .val (.int p1), .val (.ref b2)] [(.ref b2)])) _
    refine XS.aloadN X5.here hx rfl (hb hby d1_17) rfl rfl ?_
    show Steps p.tables e below (T5.setTop (mkF m 18 #[.val (.ref a0), .val (.int p1), .val (.ref b2)] [(.ref a0), (.ref b2)])) _
    refine X5.arraylength hx (by rw [e5]; exact Ar7.1) (State.isArrayOf_alike hZ.alike Ar7.2.1) (g := (mkF m 18 #[.val (.ref a0), .val (.int p1), .val (.ref b2)] [(.ref a0), (.ref b2)])) rfl rfl (hb hby d1_18) _ ?_
    rw [len_of S7 M7]
    show Steps p.tables e below (T5.setTop (mkF m 19 #[.val (.ref a0), .val (.int p1), .val (.ref b2)] [(.int (0 : Int32)), (.ref b2)])) _
    refine XS.iloadN X5.here hx rfl (hb hby d1_19) rfl ?_
    show Steps p.tables e below (T5.setTop (mkF m 20 #[.val (.ref a0), .val (.int p1), .val (.ref b2)] [(.int p1), (.int (0 : Int32)), (.ref b2)])) _
    refine XS.bipush X5.here hx rfl (hb hby d1_20) ?_
    show Steps p.tables e below (T5.setTop (mkF m 22 #[.val (.ref a0), .val (.int p1), .val (.ref b2)] [(.int (8 : Int32)), (.int p1), (.int (0 : Int32)), (.ref b2)])) _
    refine XS.ishr X5.here hx rfl (hb hby d1_22) rfl ?_
    show Steps p.tables e below (T5.setTop (mkF m 23 #[.val (.ref a0), .val (.int p1), .val (.ref b2)] [(.int (p1 >>> ((8 : Int32) &&& 31))), (.int (0 : Int32)), (.ref b2)])) _
    refine XS.i2b X5.here hx rfl (hb hby d1_23) rfl ?_
    show Steps p.tables e below (T5.setTop (mkF m 24 #[.val (.ref a0), .val (.int p1), .val (.ref b2)] [(.int ((p1 >>> ((8 : Int32) &&& 31)).toInt8.toInt32)), (.int (0 : Int32)), (.ref b2)])) _
    refine st9 _ ?_
    show Steps p.tables e below (T9.setTop (mkF m 25 #[.val (.ref a0), .val (.int p1), .val (.ref b2)] [])) _
    refine XS.aloadN X9.here hx rfl (hb hby d1_25) rfl rfl ?_
    show Steps p.tables e below (T9.setTop (mkF m 26 #[.val (.ref a0), .val (.int p1), .val (.ref b2)] [(.ref b2)])) _
    refine XS.aloadN X9.here hx rfl (hb hby d1_26) rfl rfl ?_
    show Steps p.tables e below (T9.setTop (mkF m 27 #[.val (.ref a0), .val (.int p1), .val (.ref b2)] [(.ref a0), (.ref b2)])) _
    refine X9.arraylength hx (by rw [e9]; exact Ar11.1) (State.isArrayOf_alike hZ.alike Ar11.2.1) (g := (mkF m 27 #[.val (.ref a0), .val (.int p1), .val (.ref b2)] [(.ref a0), (.ref b2)])) rfl rfl (hb hby d1_27) _ ?_
    rw [len_of S11 M11]
    show Steps p.tables e below (T9.setTop (mkF m 28 #[.val (.ref a0), .val (.int p1), .val (.ref b2)] [(.int (0 : Int32)), (.ref b2)])) _
    refine XS.iconst X9.here hx rfl (hb hby d1_28) ?_
    show Steps p.tables e below (T9.setTop (mkF m 29 #[.val (.ref a0), .val (.int p1), .val (.ref b2)] [(.int (1 : Int32)), (.int (0 : Int32)), (.ref b2)])) _
    refine XS.iadd X9.here hx rfl (hb hby d1_29) rfl ?_
    show Steps p.tables e below (T9.setTop (mkF m 30 #[.val (.ref a0), .val (.int p1), .val (.ref b2)] [(.int (1 : Int32)), (.ref b2)])) _
    refine XS.iloadN X9.here hx rfl (hb hby d1_30) rfl ?_
    show Steps p.tables e below (T9.setTop (mkF m 31 #[.val (.ref a0), .val (.int p1), .val (.ref b2)] [(.int p1), (.int (1 : Int32)), (.ref b2)])) _
    refine XS.i2b X9.here hx rfl (hb hby d1_31) rfl ?_
    show Steps p.tables e below (T9.setTop (mkF m 32 #[.val (.ref a0), .val (.int p1), .val (.ref b2)] [(.int (p1.toInt8.toInt32)), (.int (1 : Int32)), (.ref b2)])) _
    refine st13 _ ?_
    show Steps p.tables e below (T13.setTop (mkF m 33 #[.val (.ref a0), .val (.int p1), .val (.ref b2)] [])) _
    refine XS.aloadN X13.here hx rfl (hb hby d1_33) rfl rfl ?_
    exact k)
  obtain ⟨fs, hr, hrun, hended, hW, hsame⟩ := X13.leave (v := some (.ref b2)) (fun h => by rw [Bd.returns] at h; cases h) hlk
  exact ⟨_, _, pre14 _ (by jvm_step X13.here [X13.here.top, hx, (hb hby d1_34), X13.method', Bd.returns, Value.isRef, FieldType.isReference]; (first | (intro acts; rw [hr _ acts rfl rfl rfl]) | rw [hr _ _ rfl rfl rfl]); exact Steps.refl _), hrun, hended, _, _, rfl, (by show Q1_0 Z a0 p1 k_a0 h0 n0 _ T13.heap _; rw [e13]; exact ⟨b2, rfl, N13, sz_b2, g_b2, KC13, ⟨_, V13⟩⟩), ⟨_, rfl⟩, hW, hsame.mono (by decide) (by decide)⟩
theorem ef1_1 (m : MethodId) (x0 : Addr) (x1 : Int32) : entryFrame m #[(.ref x0), (.int x1)] 3 = mkF m 0 #[.val (.ref x0), .val (.int x1), .unset] [] := by first | (simp [entryFrame, mkF, argsToLocals, Value.category]; done) | rfl
def Q1_1 (Z : State) (a0 : Addr) (p1 : Int32) (x0_a0 : Int32) (k_a0 : ClassId) (h0 : Heap) (n0 : Nat) (v : Option Value) (h : Heap) (L : List Loc) : Prop := ∃ b : Addr, v = some (.ref b) ∧ Fr n0 L ∧ h0.size ≤ b ∧ n0 ≤ b ∧ Keep h0 h [] ∧ ∃ kk : ClassId, Arv Z h b kk .byte (3 : Int32) [(.int x0_a0), (.int (((p1 >>> ((8 : Int32) &&& 31)).toInt8.toInt32).toInt8.toInt32)), (.int ((p1.toInt8.toInt32).toInt8.toInt32))] (.int 0)
set_option maxRecDepth 65536 in
set_option maxHeartbeats 40000000 in
theorem rm1_1 (l : Launch) (Z : State) (a0' : Array Value) (hw : ∀ d ∈ tables_1, d.before a0' Z = true) (ws : List Jvm.Cond) (a0 : Addr) (p1 : Int32) (x0_a0 : Int32) (k_a0 : ClassId) (h0 : Heap) (n0 : Nat) (Z0 : n0 ≤ h0.size) (V_a0 : Arv Z h0 a0 k_a0 .byte (1 : Int32) [(.int x0_a0)] (.int 0)) :
    MetFree l (⟨"com/example/cardwarden/cardwarden/core/card/StatusWord", "respond", "([BI)[B"⟩ : MethodName) (head1 (Jvm.Cond.code (⟨"com/example/cardwarden/cardwarden/core/card/StatusWord", "respond", "([BI)[B"⟩ : MethodName) prog_18_method_2_code 3 (some (.array .byte)) :: ws) ({ frames := 1, cells := 1, slots := 3, locals := 18 } : Room)) (fun a U => a = #[(.ref a0), (.int p1)] ∧ Z.Warmed39 U.vm ∧ U.heap = h0) (fun _ _ _ _ _ => True) (fun _ U o U' => ∃ v L, o = .returned v ∧ Q1_1 Z a0 p1 x0_a0 k_a0 h0 n0 v U'.heap L ∧ FrameEnd U o U' L ({ frames := 1, cells := 1, slots := 3, locals := 18 } : Room).cells ({ frames := 1, cells := 1, slots := 3, locals := 18 } : Room).slots) := by
  refine MetFree.of_bodySF (plainFor_of_name pn0) hisR ?_
  intro p e s m args below meth c s₁ Bd hml0 hP hK
  obtain ⟨rfl, hZ, hh⟩ := hP
  have hx := Bd.exec
  have hby := Bd.bytes
  have hml : c.maxLocals = 3 := hml0
  have hown : s.vm.findClass "com/example/cardwarden/cardwarden/core/card/StatusWord" = some m.cls := findClass_of_methodNamed Bd.named
  have hnm := (name_of_methodNamed Bd.named Bd.method).1
  have X0 : Stand p l e ({ frames := 1, cells := 1, slots := 3, locals := 18 } : Room) s m #[(.ref a0), (.int p1)] below meth c s₁ [] 0 0 := Stand.of_body Bd
  have e0 : s₁.heap = h0 := by rw [← hh, Bd.state]; rfl
  have N0 := Fr.nil n0
  have hlk : meth.locks = false := by first | exact BodyLoose.notSynchronized Bd | exact Body.notSynchronized Bd
  have pre0 : ∀ t, Steps p.tables e below (s₁.setTop (mkF m 0 #[.val (.ref a0), .val (.int p1), .unset] [])) t → Steps p.tables e below (s₁.setTop (entryFrame m #[(.ref a0), (.int p1)] 3)) t := fun t k => castTop (ef1_1 m a0 p1) k
  obtain ⟨cl1, Ar1, q1, S1, M1, H1, G1⟩ := id V_a0
  obtain ⟨T2, h2, k2, X2, e2, E2, A2, st2⟩ := newP X0 hx hZ (hw _ (List.mem_of_getElem? (i := 0) rfl)) e0 (g := (mkF m 4 #[.val (.ref a0), .val (.int p1), .unset] [(.int (3 : Int32))])) rfl (hb hby d1_4) rfl (by decide) (cap := 3) (by decide) (by decide) (by decide) (by decide)
  obtain ⟨b2, g2⟩ : ∃ z, z = h0.size := ⟨_, rfl⟩
  rw [← g2] at A2 st2
  have ne_a0_b2 : a0 ≠ b2 := Nat.ne_of_lt (Nat.lt_of_lt_of_le V_a0.lt (Nat.le_of_eq g2.symm))
  have g_b2 : n0 ≤ b2 := Nat.le_trans Z0 (Nat.le_of_eq g2.symm)
  have sz_b2 : h0.size ≤ b2 := Nat.le_trans (Keep.refl h0 []).1 (Nat.le_of_eq g2.symm)
  have Z2 : n0 ≤ h2.size := Nat.le_trans Z0 E2.1
  have KC2 : Keep h0 h2 [] := (Keep.refl h0 []).ext E2
  have V2 : Arv Z h2 b2 k2 .byte (3 : Int32) [(.int (0 : Int32)), (.int (0 : Int32)), (.int (0 : Int32))] (.int (0 : Int32)) := (Arv.new A2 (by decide)).pad (pad_rep [] (.int (0 : Int32)) 3)
  have y3 := (V_a0.ext E2)
  obtain ⟨cl4, Ar4, q4, S4, M4, H4, G4⟩ := id y3
  obtain ⟨T5, h5, L5, X5, e5, N5, K5, V5, st5⟩ := cpA X2 hx hZ hown (hw _ (List.mem_of_getElem? (i := 5) rfl)) (hw _ (List.mem_of_getElem? (i := 8) rfl)) (hw _ (List.mem_of_getElem? (i := 6) rfl)) (hw _ (List.mem_of_getElem? (i := 7) rfl)) e2 y3 V2 (sp := (0 : Int32)) (dp := (0 : Int32)) (nn := (1 : Int32)) (us := [(.int x0_a0)]) (Or.inl ⟨rfl, rfl⟩) (by decide) (by decide) (by decide) (by decide) (by decide) rfl (by decide) N0 g_b2 (g := (mkF m 13 #[.val (.ref a0), .val (.int p1), .val (.ref b2)] [(.int (1 : Int32)), (.int (0 : Int32)), (.ref b2), (.int (0 : Int32)), (.ref a0)])) rfl (by rw [hml]; rfl) rfl (hb hby d1_13) (by decide) (W := 0) (by show 2 * 0 + _ ≤ _; exact Nat.le_of_eq rfl) (by decide)
  have Z5 : n0 ≤ h5.size := Nat.le_trans Z2 K5.1
  have KC5 : Keep h0 h5 [] := KC2.trans K5 (allS (Or.inr sz_b2) all0)
  have V5' : Arv Z h5 b2 k2 .byte (3 : Int32) [(.int x0_a0), (.int (0 : Int32)), (.int (0 : Int32))] (.int (0 : Int32)) := V5
  have y6 := (y3.keep K5 (ninS ne_a0_b2 nin0))
  obtain ⟨cl7, Ar7, q7, S7, M7, H7, G7⟩ := id y6
  obtain ⟨cl8, Ar8, q8, S8, M8, H8, G8⟩ := id V5'
  have hin8 : ¬ ((1 : Int32) < 0 ∨ cl8.slots.size ≤ ((1 : Int32)).toNatClampNeg) := inb_of S8 ⟨by decide, by decide⟩
  obtain ⟨T9, h9, X9, e9, W9, st9⟩ := stB X5 hx hZ e5 Ar8 (j := (1 : Int32)) hin8 (g := (mkF m 24 #[.val (.ref a0), .val (.int p1), .val (.ref b2)] [(.int ((p1 >>> ((8 : Int32) &&& 31)).toInt8.toInt32)), (.int (1 : Int32)), (.ref b2)])) rfl rfl (hb hby d1_24)
  have Z9 : n0 ≤ h9.size := Nat.le_trans Z5 (Keep.of_wr W9).1
  have N9 := Fr.snoc X9 N5 g_b2
  have KC9 : Keep h0 h9 [] := KC5.wr W9 (Or.inr sz_b2)
  have V9 : Arv Z h9 b2 k2 .byte (3 : Int32) [(.int x0_a0), (.int (((p1 >>> ((8 : Int32) &&& 31)).toInt8.toInt32).toInt8.toInt32)), (.int (0 : Int32))] (.int (0 : Int32)) := Arv.set Ar8 q8 S8 M8 H8 G8 (fits_nar_byte _) W9 1 rfl (Nat.le_of_ble_eq_true rfl)
  have y10 := (y6.other W9 ne_a0_b2)
  obtain ⟨cl11, Ar11, q11, S11, M11, H11, G11⟩ := id y10
  obtain ⟨cl12, Ar12, q12, S12, M12, H12, G12⟩ := id V9
  have hin12 : ¬ ((2 : Int32) < 0 ∨ cl12.slots.size ≤ ((2 : Int32)).toNatClampNeg) := inb_of S12 ⟨by decide, by decide⟩
  obtain ⟨T13, h13, X13, e13, W13, st13⟩ := stB X9 hx hZ e9 Ar12 (j := (2 : Int32)) hin12 (g := (mkF m 32 #[.val (.ref a0), .val (.int p1), .val (.ref b2)] [(.int (p1.toInt8.toInt32)), (.int (2 : Int32)), (.ref b2)])) rfl rfl (hb hby d1_32)
  have Z13 : n0 ≤ h13.size := Nat.le_trans Z9 (Keep.of_wr W13).1
  have N13 := Fr.snoc X13 N9 g_b2
  have KC13 : Keep h0 h13 [] := KC9.wr W13 (Or.inr sz_b2)
  have V13 : Arv Z h13 b2 k2 .byte (3 : Int32) [(.int x0_a0), (.int (((p1 >>> ((8 : Int32) &&& 31)).toInt8.toInt32).toInt8.toInt32)), (.int ((p1.toInt8.toInt32).toInt8.toInt32))] (.int (0 : Int32)) := Arv.set Ar12 q12 S12 M12 H12 G12 (fits_nar_byte _) W13 2 rfl (Nat.le_of_ble_eq_true rfl)
  have pre14 : ∀ t, Steps p.tables e below (T13.setTop (mkF m 34 #[.val (.ref a0), .val (.int p1), .val (.ref b2)] [(.ref b2)])) t → Steps p.tables e below (s₁.setTop (entryFrame m #[(.ref a0), (.int p1)] 3)) t := fun t k => pre0 t (by
    show Steps p.tables e below (s₁.setTop (mkF m 0 #[.val (.ref a0), .val (.int p1), .unset] [])) _
    refine XS.aloadN X0.here hx rfl (hb hby d1_0) rfl rfl ?_
    show Steps p.tables e below (s₁.setTop (mkF m 1 #[.val (.ref a0), .val (.int p1), .unset] [(.ref a0)])) _
    refine X0.arraylength hx (by rw [e0]; exact Ar1.1) (State.isArrayOf_alike hZ.alike Ar1.2.1) (g := (mkF m 1 #[.val (.ref a0), .val (.int p1), .unset] [(.ref a0)])) rfl rfl (hb hby d1_1) _ ?_
    rw [len_of S1 M1]
    show Steps p.tables e below (s₁.setTop (mkF m 2 #[.val (.ref a0), .val (.int p1), .unset] [(.int (1 : Int32))])) _
    refine XS.iconst X0.here hx rfl (hb hby d1_2) ?_
    show Steps p.tables e below (s₁.setTop (mkF m 3 #[.val (.ref a0), .val (.int p1), .unset] [(.int (2 : Int32)), (.int (1 : Int32))])) _
    refine XS.iadd X0.here hx rfl (hb hby d1_3) rfl ?_
    show Steps p.tables e below (s₁.setTop (mkF m 4 #[.val (.ref a0), .val (.int p1), .unset] [(.int (3 : Int32))])) _
    refine st2 _ ?_
    show Steps p.tables e below (T2.setTop (mkF m 6 #[.val (.ref a0), .val (.int p1), .unset] [(.ref b2)])) _
    refine XS.astoreN X2.here hx rfl (hb hby d1_6) rfl rfl (l' := #[.val (.ref a0), .val (.int p1), .val (.ref b2)]) rfl ?_
    show Steps p.tables e below (T2.setTop (mkF m 7 #[.val (.ref a0), .val (.int p1), .val (.ref b2)] [])) _
    refine XS.aloadN X2.here hx rfl (hb hby d1_7) rfl rfl ?_
    show Steps p.tables e below (T2.setTop (mkF m 8 #[.val (.ref a0), .val (.int p1), .val (.ref b2)] [(.ref a0)])) _
    refine XS.iconst X2.here hx rfl (hb hby d1_8) ?_
    show Steps p.tables e below (T2.setTop (mkF m 9 #[.val (.ref a0), .val (.int p1), .val (.ref b2)] [(.int (0 : Int32)), (.ref a0)])) _
    refine XS.aloadN X2.here hx rfl (hb hby d1_9) rfl rfl ?_
    show Steps p.tables e below (T2.setTop (mkF m 10 #[.val (.ref a0), .val (.int p1), .val (.ref b2)] [(.ref b2), (.int (0 : Int32)), (.ref a0)])) _
    refine XS.iconst X2.here hx rfl (hb hby d1_10) ?_
    show Steps p.tables e below (T2.setTop (mkF m 11 #[.val (.ref a0), .val (.int p1), .val (.ref b2)] [(.int (0 : Int32)), (.ref b2), (.int (0 : Int32)), (.ref a0)])) _
    refine XS.aloadN X2.here hx rfl (hb hby d1_11) rfl rfl ?_
    show Steps p.tables e below (T2.setTop (mkF m 12 #[.val (.ref a0), .val (.int p1), .val (.ref b2)] [(.ref a0), (.int (0 : Int32)), (.ref b2), (.int (0 : Int32)), (.ref a0)])) _
    refine X2.arraylength hx (by rw [e2]; exact Ar4.1) (State.isArrayOf_alike hZ.alike Ar4.2.1) (g := (mkF m 12 #[.val (.ref a0), .val (.int p1), .val (.ref b2)] [(.ref a0), (.int (0 : Int32)), (.ref b2), (.int (0 : Int32)), (.ref a0)])) rfl rfl (hb hby d1_12) _ ?_
    rw [len_of S4 M4]
    show Steps p.tables e below (T2.setTop (mkF m 13 #[.val (.ref a0), .val (.int p1), .val (.ref b2)] [(.int (1 : Int32)), (.int (0 : Int32)), (.ref b2), (.int (0 : Int32)), (.ref a0)])) _
    refine st5 _ ?_
    show Steps p.tables e below (T5.setTop (mkF m 16 #[.val (.ref a0), .val (.int p1), .val (.ref b2)] [])) _
    refine XS.aloadN X5.here hx rfl (hb hby d1_16) rfl rfl ?_
    show Steps p.tables e below (T5.setTop (mkF m 17 #[.val (.ref a0), .val (.int p1), .val (.ref b2)] [(.ref b2)])) _
    refine XS.aloadN X5.here hx rfl (hb hby d1_17) rfl rfl ?_
    show Steps p.tables e below (T5.setTop (mkF m 18 #[.val (.ref a0), .val (.int p1), .val (.ref b2)] [(.ref a0), (.ref b2)])) _
    refine X5.arraylength hx (by rw [e5]; exact Ar7.1) (State.isArrayOf_alike hZ.alike Ar7.2.1) (g := (mkF m 18 #[.val (.ref a0), .val (.int p1), .val (.ref b2)] [(.ref a0), (.ref b2)])) rfl rfl (hb hby d1_18) _ ?_
    rw [len_of S7 M7]
    show Steps p.tables e below (T5.setTop (mkF m 19 #[.val (.ref a0), .val (.int p1), .val (.ref b2)] [(.int (1 : Int32)), (.ref b2)])) _
    refine XS.iloadN X5.here hx rfl (hb hby d1_19) rfl ?_
    show Steps p.tables e below (T5.setTop (mkF m 20 #[.val (.ref a0), .val (.int p1), .val (.ref b2)] [(.int p1), (.int (1 : Int32)), (.ref b2)])) _
    refine XS.bipush X5.here hx rfl (hb hby d1_20) ?_
    show Steps p.tables e below (T5.setTop (mkF m 22 #[.val (.ref a0), .val (.int p1), .val (.ref b2)] [(.int (8 : Int32)), (.int p1), (.int (1 : Int32)), (.ref b2)])) _
    refine XS.ishr X5.here hx rfl (hb hby d1_22) rfl ?_
    show Steps p.tables e below (T5.setTop (mkF m 23 #[.val (.ref a0), .val (.int p1), .val (.ref b2)] [(.int (p1 >>> ((8 : Int32) &&& 31))), (.int (1 : Int32)), (.ref b2)])) _
    refine XS.i2b X5.here hx rfl (hb hby d1_23) rfl ?_
    show Steps p.tables e below (T5.setTop (mkF m 24 #[.val (.ref a0), .val (.int p1), .val (.ref b2)] [(.int ((p1 >>> ((8 : Int32) &&& 31)).toInt8.toInt32)), (.int (1 : Int32)), (.ref b2)])) _
    refine st9 _ ?_
    show Steps p.tables e below (T9.setTop (mkF m 25 #[.val (.ref a0), .val (.int p1), .val (.ref b2)] [])) _
    refine XS.aloadN X9.here hx rfl (hb hby d1_25) rfl rfl ?_
    show Steps p.tables e below (T9.setTop (mkF m 26 #[.val (.ref a0), .val (.int p1), .val (.ref b2)] [(.ref b2)])) _
    refine XS.aloadN X9.here hx rfl (hb hby d1_26) rfl rfl ?_
    show Steps p.tables e below (T9.setTop (mkF m 27 #[.val (.ref a0), .val (.int p1), .val (.ref b2)] [(.ref a0), (.ref b2)])) _
    refine X9.arraylength hx (by rw [e9]; exact Ar11.1) (State.isArrayOf_alike hZ.alike Ar11.2.1) (g := (mkF m 27 #[.val (.ref a0), .val (.int p1), .val (.ref b2)] [(.ref a0), (.ref b2)])) rfl rfl (hb hby d1_27) _ ?_
    rw [len_of S11 M11]
    show Steps p.tables e below (T9.setTop (mkF m 28 #[.val (.ref a0), .val (.int p1), .val (.ref b2)] [(.int (1 : Int32)), (.ref b2)])) _
    refine XS.iconst X9.here hx rfl (hb hby d1_28) ?_
    show Steps p.tables e below (T9.setTop (mkF m 29 #[.val (.ref a0), .val (.int p1), .val (.ref b2)] [(.int (1 : Int32)), (.int (1 : Int32)), (.ref b2)])) _
    refine XS.iadd X9.here hx rfl (hb hby d1_29) rfl ?_
    show Steps p.tables e below (T9.setTop (mkF m 30 #[.val (.ref a0), .val (.int p1), .val (.ref b2)] [(.int (2 : Int32)), (.ref b2)])) _
    refine XS.iloadN X9.here hx rfl (hb hby d1_30) rfl ?_
    show Steps p.tables e below (T9.setTop (mkF m 31 #[.val (.ref a0), .val (.int p1), .val (.ref b2)] [(.int p1), (.int (2 : Int32)), (.ref b2)])) _
    refine XS.i2b X9.here hx rfl (hb hby d1_31) rfl ?_
    show Steps p.tables e below (T9.setTop (mkF m 32 #[.val (.ref a0), .val (.int p1), .val (.ref b2)] [(.int (p1.toInt8.toInt32)), (.int (2 : Int32)), (.ref b2)])) _
    refine st13 _ ?_
    show Steps p.tables e below (T13.setTop (mkF m 33 #[.val (.ref a0), .val (.int p1), .val (.ref b2)] [])) _
    refine XS.aloadN X13.here hx rfl (hb hby d1_33) rfl rfl ?_
    exact k)
  obtain ⟨fs, hr, hrun, hended, hW, hsame⟩ := X13.leave (v := some (.ref b2)) (fun h => by rw [Bd.returns] at h; cases h) hlk
  exact ⟨_, _, pre14 _ (by jvm_step X13.here [X13.here.top, hx, (hb hby d1_34), X13.method', Bd.returns, Value.isRef, FieldType.isReference]; (first | (intro acts; rw [hr _ acts rfl rfl rfl]) | rw [hr _ _ rfl rfl rfl]); exact Steps.refl _), hrun, hended, _, _, rfl, (by show Q1_1 Z a0 p1 x0_a0 k_a0 h0 n0 _ T13.heap _; rw [e13]; exact ⟨b2, rfl, N13, sz_b2, g_b2, KC13, ⟨_, V13⟩⟩), ⟨_, rfl⟩, hW, hsame.mono (by decide) (by decide)⟩
theorem ef1_2 (m : MethodId) (x0 : Addr) (x1 : Int32) : entryFrame m #[(.ref x0), (.int x1)] 3 = mkF m 0 #[.val (.ref x0), .val (.int x1), .unset] [] := by first | (simp [entryFrame, mkF, argsToLocals, Value.category]; done) | rfl
def Q1_2 (Z : State) (a0 : Addr) (p1 : Int32) (x0_a0 : Int32) (x1_a0 : Int32) (k_a0 : ClassId) (h0 : Heap) (n0 : Nat) (v : Option Value) (h : Heap) (L : List Loc) : Prop := ∃ b : Addr, v = some (.ref b) ∧ Fr n0 L ∧ h0.size ≤ b ∧ n0 ≤ b ∧ Keep h0 h [] ∧ ∃ kk : ClassId, Arv Z h b kk .byte (4 : Int32) [(.int x0_a0), (.int x1_a0), (.int (((p1 >>> ((8 : Int32) &&& 31)).toInt8.toInt32).toInt8.toInt32)), (.int ((p1.toInt8.toInt32).toInt8.toInt32))] (.int 0)
set_option maxRecDepth 65536 in
set_option maxHeartbeats 40000000 in
theorem rm1_2 (l : Launch) (Z : State) (a0' : Array Value) (hw : ∀ d ∈ tables_1, d.before a0' Z = true) (ws : List Jvm.Cond) (a0 : Addr) (p1 : Int32) (x0_a0 : Int32) (x1_a0 : Int32) (k_a0 : ClassId) (h0 : Heap) (n0 : Nat) (Z0 : n0 ≤ h0.size) (V_a0 : Arv Z h0 a0 k_a0 .byte (2 : Int32) [(.int x0_a0), (.int x1_a0)] (.int 0)) :
    MetFree l (⟨"com/example/cardwarden/cardwarden/core/card/StatusWord", "respond", "([BI)[B"⟩ : MethodName) (head1 (Jvm.Cond.code (⟨"com/example/cardwarden/cardwarden/core/card/StatusWord", "respond", "([BI)[B"⟩ : MethodName) prog_18_method_2_code 3 (some (.array .byte)) :: ws) ({ frames := 1, cells := 1, slots := 4, locals := 18 } : Room)) (fun a U => a = #[(.ref a0), (.int p1)] ∧ Z.Warmed39 U.vm ∧ U.heap = h0) (fun _ _ _ _ _ => True) (fun _ U o U' => ∃ v L, o = .returned v ∧ Q1_2 Z a0 p1 x0_a0 x1_a0 k_a0 h0 n0 v U'.heap L ∧ FrameEnd U o U' L ({ frames := 1, cells := 1, slots := 4, locals := 18 } : Room).cells ({ frames := 1, cells := 1, slots := 4, locals := 18 } : Room).slots) := by
  refine MetFree.of_bodySF (plainFor_of_name pn0) hisR ?_
  intro p e s m args below meth c s₁ Bd hml0 hP hK
  obtain ⟨rfl, hZ, hh⟩ := hP
  have hx := Bd.exec
  have hby := Bd.bytes
  have hml : c.maxLocals = 3 := hml0
  have hown : s.vm.findClass "com/example/cardwarden/cardwarden/core/card/StatusWord" = some m.cls := findClass_of_methodNamed Bd.named
  have hnm := (name_of_methodNamed Bd.named Bd.method).1
  have X0 : Stand p l e ({ frames := 1, cells := 1, slots := 4, locals := 18 } : Room) s m #[(.ref a0), (.int p1)] below meth c s₁ [] 0 0 := Stand.of_body Bd
  have e0 : s₁.heap = h0 := by rw [← hh, Bd.state]; rfl
  have N0 := Fr.nil n0
  have hlk : meth.locks = false := by first | exact BodyLoose.notSynchronized Bd | exact Body.notSynchronized Bd
  have pre0 : ∀ t, Steps p.tables e below (s₁.setTop (mkF m 0 #[.val (.ref a0), .val (.int p1), .unset] [])) t → Steps p.tables e below (s₁.setTop (entryFrame m #[(.ref a0), (.int p1)] 3)) t := fun t k => castTop (ef1_2 m a0 p1) k
  obtain ⟨cl1, Ar1, q1, S1, M1, H1, G1⟩ := id V_a0
  obtain ⟨T2, h2, k2, X2, e2, E2, A2, st2⟩ := newP X0 hx hZ (hw _ (List.mem_of_getElem? (i := 0) rfl)) e0 (g := (mkF m 4 #[.val (.ref a0), .val (.int p1), .unset] [(.int (4 : Int32))])) rfl (hb hby d1_4) rfl (by decide) (cap := 4) (by decide) (by decide) (by decide) (by decide)
  obtain ⟨b2, g2⟩ : ∃ z, z = h0.size := ⟨_, rfl⟩
  rw [← g2] at A2 st2
  have ne_a0_b2 : a0 ≠ b2 := Nat.ne_of_lt (Nat.lt_of_lt_of_le V_a0.lt (Nat.le_of_eq g2.symm))
  have g_b2 : n0 ≤ b2 := Nat.le_trans Z0 (Nat.le_of_eq g2.symm)
  have sz_b2 : h0.size ≤ b2 := Nat.le_trans (Keep.refl h0 []).1 (Nat.le_of_eq g2.symm)
  have Z2 : n0 ≤ h2.size := Nat.le_trans Z0 E2.1
  have KC2 : Keep h0 h2 [] := (Keep.refl h0 []).ext E2
  have V2 : Arv Z h2 b2 k2 .byte (4 : Int32) [(.int (0 : Int32)), (.int (0 : Int32)), (.int (0 : Int32)), (.int (0 : Int32))] (.int (0 : Int32)) := (Arv.new A2 (by decide)).pad (pad_rep [] (.int (0 : Int32)) 4)
  have y3 := (V_a0.ext E2)
  obtain ⟨cl4, Ar4, q4, S4, M4, H4, G4⟩ := id y3
  obtain ⟨T5, h5, L5, X5, e5, N5, K5, V5, st5⟩ := cpA X2 hx hZ hown (hw _ (List.mem_of_getElem? (i := 5) rfl)) (hw _ (List.mem_of_getElem? (i := 8) rfl)) (hw _ (List.mem_of_getElem? (i := 6) rfl)) (hw _ (List.mem_of_getElem? (i := 7) rfl)) e2 y3 V2 (sp := (0 : Int32)) (dp := (0 : Int32)) (nn := (2 : Int32)) (us := [(.int x0_a0), (.int x1_a0)]) (Or.inl ⟨rfl, rfl⟩) (by decide) (by decide) (by decide) (by decide) (by decide) rfl (by decide) N0 g_b2 (g := (mkF m 13 #[.val (.ref a0), .val (.int p1), .val (.ref b2)] [(.int (2 : Int32)), (.int (0 : Int32)), (.ref b2), (.int (0 : Int32)), (.ref a0)])) rfl (by rw [hml]; rfl) rfl (hb hby d1_13) (by decide) (W := 0) (by show 2 * 0 + _ ≤ _; exact Nat.le_of_eq rfl) (by decide)
  have Z5 : n0 ≤ h5.size := Nat.le_trans Z2 K5.1
  have KC5 : Keep h0 h5 [] := KC2.trans K5 (allS (Or.inr sz_b2) all0)
  have V5' : Arv Z h5 b2 k2 .byte (4 : Int32) [(.int x0_a0), (.int x1_a0), (.int (0 : Int32)), (.int (0 : Int32))] (.int (0 : Int32)) := V5
  have y6 := (y3.keep K5 (ninS ne_a0_b2 nin0))
  obtain ⟨cl7, Ar7, q7, S7, M7, H7, G7⟩ := id y6
  obtain ⟨cl8, Ar8, q8, S8, M8, H8, G8⟩ := id V5'
  have hin8 : ¬ ((2 : Int32) < 0 ∨ cl8.slots.size ≤ ((2 : Int32)).toNatClampNeg) := inb_of S8 ⟨by decide, by decide⟩
  obtain ⟨T9, h9, X9, e9, W9, st9⟩ := stB X5 hx hZ e5 Ar8 (j := (2 : Int32)) hin8 (g := (mkF m 24 #[.val (.ref a0), .val (.int p1), .val (.ref b2)] [(.int ((p1 >>> ((8 : Int32) &&& 31)).toInt8.toInt32)), (.int (2 : Int32)), (.ref b2)])) rfl rfl (hb hby d1_24)
  have Z9 : n0 ≤ h9.size := Nat.le_trans Z5 (Keep.of_wr W9).1
  have N9 := Fr.snoc X9 N5 g_b2
  have KC9 : Keep h0 h9 [] := KC5.wr W9 (Or.inr sz_b2)
  have V9 : Arv Z h9 b2 k2 .byte (4 : Int32) [(.int x0_a0), (.int x1_a0), (.int (((p1 >>> ((8 : Int32) &&& 31)).toInt8.toInt32).toInt8.toInt32)), (.int (0 : Int32))] (.int (0 : Int32)) := Arv.set Ar8 q8 S8 M8 H8 G8 (fits_nar_byte _) W9 2 rfl (Nat.le_of_ble_eq_true rfl)
  have y10 := (y6.other W9 ne_a0_b2)
  obtain ⟨cl11, Ar11, q11, S11, M11, H11, G11⟩ := id y10
  obtain ⟨cl12, Ar12, q12, S12, M12, H12, G12⟩ := id V9
  have hin12 : ¬ ((3 : Int32) < 0 ∨ cl12.slots.size ≤ ((3 : Int32)).toNatClampNeg) := inb_of S12 ⟨by decide, by decide⟩
  obtain ⟨T13, h13, X13, e13, W13, st13⟩ := stB X9 hx hZ e9 Ar12 (j := (3 : Int32)) hin12 (g := (mkF m 32 #[.val (.ref a0), .val (.int p1), .val (.ref b2)] [(.int (p1.toInt8.toInt32)), (.int (3 : Int32)), (.ref b2)])) rfl rfl (hb hby d1_32)
  have Z13 : n0 ≤ h13.size := Nat.le_trans Z9 (Keep.of_wr W13).1
  have N13 := Fr.snoc X13 N9 g_b2
  have KC13 : Keep h0 h13 [] := KC9.wr W13 (Or.inr sz_b2)
  have V13 : Arv Z h13 b2 k2 .byte (4 : Int32) [(.int x0_a0), (.int x1_a0), (.int (((p1 >>> ((8 : Int32) &&& 31)).toInt8.toInt32).toInt8.toInt32)), (.int ((p1.toInt8.toInt32).toInt8.toInt32))] (.int (0 : Int32)) := Arv.set Ar12 q12 S12 M12 H12 G12 (fits_nar_byte _) W13 3 rfl (Nat.le_of_ble_eq_true rfl)
  have pre14 : ∀ t, Steps p.tables e below (T13.setTop (mkF m 34 #[.val (.ref a0), .val (.int p1), .val (.ref b2)] [(.ref b2)])) t → Steps p.tables e below (s₁.setTop (entryFrame m #[(.ref a0), (.int p1)] 3)) t := fun t k => pre0 t (by
    show Steps p.tables e below (s₁.setTop (mkF m 0 #[.val (.ref a0), .val (.int p1), .unset] [])) _
    refine XS.aloadN X0.here hx rfl (hb hby d1_0) rfl rfl ?_
    show Steps p.tables e below (s₁.setTop (mkF m 1 #[.val (.ref a0), .val (.int p1), .unset] [(.ref a0)])) _
    refine X0.arraylength hx (by rw [e0]; exact Ar1.1) (State.isArrayOf_alike hZ.alike Ar1.2.1) (g := (mkF m 1 #[.val (.ref a0), .val (.int p1), .unset] [(.ref a0)])) rfl rfl (hb hby d1_1) _ ?_
    rw [len_of S1 M1]
    show Steps p.tables e below (s₁.setTop (mkF m 2 #[.val (.ref a0), .val (.int p1), .unset] [(.int (2 : Int32))])) _
    refine XS.iconst X0.here hx rfl (hb hby d1_2) ?_
    show Steps p.tables e below (s₁.setTop (mkF m 3 #[.val (.ref a0), .val (.int p1), .unset] [(.int (2 : Int32)), (.int (2 : Int32))])) _
    refine XS.iadd X0.here hx rfl (hb hby d1_3) rfl ?_
    show Steps p.tables e below (s₁.setTop (mkF m 4 #[.val (.ref a0), .val (.int p1), .unset] [(.int (4 : Int32))])) _
    refine st2 _ ?_
    show Steps p.tables e below (T2.setTop (mkF m 6 #[.val (.ref a0), .val (.int p1), .unset] [(.ref b2)])) _
    refine XS.astoreN X2.here hx rfl (hb hby d1_6) rfl rfl (l' := #[.val (.ref a0), .val (.int p1), .val (.ref b2)]) rfl ?_
    show Steps p.tables e below (T2.setTop (mkF m 7 #[.val (.ref a0), .val (.int p1), .val (.ref b2)] [])) _
    refine XS.aloadN X2.here hx rfl (hb hby d1_7) rfl rfl ?_
    show Steps p.tables e below (T2.setTop (mkF m 8 #[.val (.ref a0), .val (.int p1), .val (.ref b2)] [(.ref a0)])) _
    refine XS.iconst X2.here hx rfl (hb hby d1_8) ?_
    show Steps p.tables e below (T2.setTop (mkF m 9 #[.val (.ref a0), .val (.int p1), .val (.ref b2)] [(.int (0 : Int32)), (.ref a0)])) _
    refine XS.aloadN X2.here hx rfl (hb hby d1_9) rfl rfl ?_
    show Steps p.tables e below (T2.setTop (mkF m 10 #[.val (.ref a0), .val (.int p1), .val (.ref b2)] [(.ref b2), (.int (0 : Int32)), (.ref a0)])) _
    refine XS.iconst X2.here hx rfl (hb hby d1_10) ?_
    show Steps p.tables e below (T2.setTop (mkF m 11 #[.val (.ref a0), .val (.int p1), .val (.ref b2)] [(.int (0 : Int32)), (.ref b2), (.int (0 : Int32)), (.ref a0)])) _
    refine XS.aloadN X2.here hx rfl (hb hby d1_11) rfl rfl ?_
    show Steps p.tables e below (T2.setTop (mkF m 12 #[.val (.ref a0), .val (.int p1), .val (.ref b2)] [(.ref a0), (.int (0 : Int32)), (.ref b2), (.int (0 : Int32)), (.ref a0)])) _
    refine X2.arraylength hx (by rw [e2]; exact Ar4.1) (State.isArrayOf_alike hZ.alike Ar4.2.1) (g := (mkF m 12 #[.val (.ref a0), .val (.int p1), .val (.ref b2)] [(.ref a0), (.int (0 : Int32)), (.ref b2), (.int (0 : Int32)), (.ref a0)])) rfl rfl (hb hby d1_12) _ ?_
    rw [len_of S4 M4]
    show Steps p.tables e below (T2.setTop (mkF m 13 #[.val (.ref a0), .val (.int p1), .val (.ref b2)] [(.int (2 : Int32)), (.int (0 : Int32)), (.ref b2), (.int (0 : Int32)), (.ref a0)])) _
    refine st5 _ ?_
    show Steps p.tables e below (T5.setTop (mkF m 16 #[.val (.ref a0), .val (.int p1), .val (.ref b2)] [])) _
    refine XS.aloadN X5.here hx rfl (hb hby d1_16) rfl rfl ?_
    show Steps p.tables e below (T5.setTop (mkF m 17 #[.val (.ref a0), .val (.int p1), .val (.ref b2)] [(.ref b2)])) _
    refine XS.aloadN X5.here hx rfl (hb hby d1_17) rfl rfl ?_
    show Steps p.tables e below (T5.setTop (mkF m 18 #[.val (.ref a0), .val (.int p1), .val (.ref b2)] [(.ref a0), (.ref b2)])) _
    refine X5.arraylength hx (by rw [e5]; exact Ar7.1) (State.isArrayOf_alike hZ.alike Ar7.2.1) (g := (mkF m 18 #[.val (.ref a0), .val (.int p1), .val (.ref b2)] [(.ref a0), (.ref b2)])) rfl rfl (hb hby d1_18) _ ?_
    rw [len_of S7 M7]
    show Steps p.tables e below (T5.setTop (mkF m 19 #[.val (.ref a0), .val (.int p1), .val (.ref b2)] [(.int (2 : Int32)), (.ref b2)])) _
    refine XS.iloadN X5.here hx rfl (hb hby d1_19) rfl ?_
    show Steps p.tables e below (T5.setTop (mkF m 20 #[.val (.ref a0), .val (.int p1), .val (.ref b2)] [(.int p1), (.int (2 : Int32)), (.ref b2)])) _
    refine XS.bipush X5.here hx rfl (hb hby d1_20) ?_
    show Steps p.tables e below (T5.setTop (mkF m 22 #[.val (.ref a0), .val (.int p1), .val (.ref b2)] [(.int (8 : Int32)), (.int p1), (.int (2 : Int32)), (.ref b2)])) _
    refine XS.ishr X5.here hx rfl (hb hby d1_22) rfl ?_
    show Steps p.tables e below (T5.setTop (mkF m 23 #[.val (.ref a0), .val (.int p1), .val (.ref b2)] [(.int (p1 >>> ((8 : Int32) &&& 31))), (.int (2 : Int32)), (.ref b2)])) _
    refine XS.i2b X5.here hx rfl (hb hby d1_23) rfl ?_
    show Steps p.tables e below (T5.setTop (mkF m 24 #[.val (.ref a0), .val (.int p1), .val (.ref b2)] [(.int ((p1 >>> ((8 : Int32) &&& 31)).toInt8.toInt32)), (.int (2 : Int32)), (.ref b2)])) _
    refine st9 _ ?_
    show Steps p.tables e below (T9.setTop (mkF m 25 #[.val (.ref a0), .val (.int p1), .val (.ref b2)] [])) _
    refine XS.aloadN X9.here hx rfl (hb hby d1_25) rfl rfl ?_
    show Steps p.tables e below (T9.setTop (mkF m 26 #[.val (.ref a0), .val (.int p1), .val (.ref b2)] [(.ref b2)])) _
    refine XS.aloadN X9.here hx rfl (hb hby d1_26) rfl rfl ?_
    show Steps p.tables e below (T9.setTop (mkF m 27 #[.val (.ref a0), .val (.int p1), .val (.ref b2)] [(.ref a0), (.ref b2)])) _
    refine X9.arraylength hx (by rw [e9]; exact Ar11.1) (State.isArrayOf_alike hZ.alike Ar11.2.1) (g := (mkF m 27 #[.val (.ref a0), .val (.int p1), .val (.ref b2)] [(.ref a0), (.ref b2)])) rfl rfl (hb hby d1_27) _ ?_
    rw [len_of S11 M11]
    show Steps p.tables e below (T9.setTop (mkF m 28 #[.val (.ref a0), .val (.int p1), .val (.ref b2)] [(.int (2 : Int32)), (.ref b2)])) _
    refine XS.iconst X9.here hx rfl (hb hby d1_28) ?_
    show Steps p.tables e below (T9.setTop (mkF m 29 #[.val (.ref a0), .val (.int p1), .val (.ref b2)] [(.int (1 : Int32)), (.int (2 : Int32)), (.ref b2)])) _
    refine XS.iadd X9.here hx rfl (hb hby d1_29) rfl ?_
    show Steps p.tables e below (T9.setTop (mkF m 30 #[.val (.ref a0), .val (.int p1), .val (.ref b2)] [(.int (3 : Int32)), (.ref b2)])) _
    refine XS.iloadN X9.here hx rfl (hb hby d1_30) rfl ?_
    show Steps p.tables e below (T9.setTop (mkF m 31 #[.val (.ref a0), .val (.int p1), .val (.ref b2)] [(.int p1), (.int (3 : Int32)), (.ref b2)])) _
    refine XS.i2b X9.here hx rfl (hb hby d1_31) rfl ?_
    show Steps p.tables e below (T9.setTop (mkF m 32 #[.val (.ref a0), .val (.int p1), .val (.ref b2)] [(.int (p1.toInt8.toInt32)), (.int (3 : Int32)), (.ref b2)])) _
    refine st13 _ ?_
    show Steps p.tables e below (T13.setTop (mkF m 33 #[.val (.ref a0), .val (.int p1), .val (.ref b2)] [])) _
    refine XS.aloadN X13.here hx rfl (hb hby d1_33) rfl rfl ?_
    exact k)
  obtain ⟨fs, hr, hrun, hended, hW, hsame⟩ := X13.leave (v := some (.ref b2)) (fun h => by rw [Bd.returns] at h; cases h) hlk
  exact ⟨_, _, pre14 _ (by jvm_step X13.here [X13.here.top, hx, (hb hby d1_34), X13.method', Bd.returns, Value.isRef, FieldType.isReference]; (first | (intro acts; rw [hr _ acts rfl rfl rfl]) | rw [hr _ _ rfl rfl rfl]); exact Steps.refl _), hrun, hended, _, _, rfl, (by show Q1_2 Z a0 p1 x0_a0 x1_a0 k_a0 h0 n0 _ T13.heap _; rw [e13]; exact ⟨b2, rfl, N13, sz_b2, g_b2, KC13, ⟨_, V13⟩⟩), ⟨_, rfl⟩, hW, hsame.mono (by decide) (by decide)⟩
theorem ef1_3 (m : MethodId) (x0 : Addr) (x1 : Int32) : entryFrame m #[(.ref x0), (.int x1)] 3 = mkF m 0 #[.val (.ref x0), .val (.int x1), .unset] [] := by first | (simp [entryFrame, mkF, argsToLocals, Value.category]; done) | rfl
def Q1_3 (Z : State) (a0 : Addr) (p1 : Int32) (x0_a0 : Int32) (x1_a0 : Int32) (x2_a0 : Int32) (k_a0 : ClassId) (h0 : Heap) (n0 : Nat) (v : Option Value) (h : Heap) (L : List Loc) : Prop := ∃ b : Addr, v = some (.ref b) ∧ Fr n0 L ∧ h0.size ≤ b ∧ n0 ≤ b ∧ Keep h0 h [] ∧ ∃ kk : ClassId, Arv Z h b kk .byte (5 : Int32) [(.int x0_a0), (.int x1_a0), (.int x2_a0), (.int (((p1 >>> ((8 : Int32) &&& 31)).toInt8.toInt32).toInt8.toInt32)), (.int ((p1.toInt8.toInt32).toInt8.toInt32))] (.int 0)
set_option maxRecDepth 65536 in
set_option maxHeartbeats 40000000 in
theorem rm1_3 (l : Launch) (Z : State) (a0' : Array Value) (hw : ∀ d ∈ tables_1, d.before a0' Z = true) (ws : List Jvm.Cond) (a0 : Addr) (p1 : Int32) (x0_a0 : Int32) (x1_a0 : Int32) (x2_a0 : Int32) (k_a0 : ClassId) (h0 : Heap) (n0 : Nat) (Z0 : n0 ≤ h0.size) (V_a0 : Arv Z h0 a0 k_a0 .byte (3 : Int32) [(.int x0_a0), (.int x1_a0), (.int x2_a0)] (.int 0)) :
    MetFree l (⟨"com/example/cardwarden/cardwarden/core/card/StatusWord", "respond", "([BI)[B"⟩ : MethodName) (head1 (Jvm.Cond.code (⟨"com/example/cardwarden/cardwarden/core/card/StatusWord", "respond", "([BI)[B"⟩ : MethodName) prog_18_method_2_code 3 (some (.array .byte)) :: ws) ({ frames := 1, cells := 1, slots := 5, locals := 18 } : Room)) (fun a U => a = #[(.ref a0), (.int p1)] ∧ Z.Warmed39 U.vm ∧ U.heap = h0) (fun _ _ _ _ _ => True) (fun _ U o U' => ∃ v L, o = .returned v ∧ Q1_3 Z a0 p1 x0_a0 x1_a0 x2_a0 k_a0 h0 n0 v U'.heap L ∧ FrameEnd U o U' L ({ frames := 1, cells := 1, slots := 5, locals := 18 } : Room).cells ({ frames := 1, cells := 1, slots := 5, locals := 18 } : Room).slots) := by
  refine MetFree.of_bodySF (plainFor_of_name pn0) hisR ?_
  intro p e s m args below meth c s₁ Bd hml0 hP hK
  obtain ⟨rfl, hZ, hh⟩ := hP
  have hx := Bd.exec
  have hby := Bd.bytes
  have hml : c.maxLocals = 3 := hml0
  have hown : s.vm.findClass "com/example/cardwarden/cardwarden/core/card/StatusWord" = some m.cls := findClass_of_methodNamed Bd.named
  have hnm := (name_of_methodNamed Bd.named Bd.method).1
  have X0 : Stand p l e ({ frames := 1, cells := 1, slots := 5, locals := 18 } : Room) s m #[(.ref a0), (.int p1)] below meth c s₁ [] 0 0 := Stand.of_body Bd
  have e0 : s₁.heap = h0 := by rw [← hh, Bd.state]; rfl
  have N0 := Fr.nil n0
  have hlk : meth.locks = false := by first | exact BodyLoose.notSynchronized Bd | exact Body.notSynchronized Bd
  have pre0 : ∀ t, Steps p.tables e below (s₁.setTop (mkF m 0 #[.val (.ref a0), .val (.int p1), .unset] [])) t → Steps p.tables e below (s₁.setTop (entryFrame m #[(.ref a0), (.int p1)] 3)) t := fun t k => castTop (ef1_3 m a0 p1) k
  obtain ⟨cl1, Ar1, q1, S1, M1, H1, G1⟩ := id V_a0
  obtain ⟨T2, h2, k2, X2, e2, E2, A2, st2⟩ := newP X0 hx hZ (hw _ (List.mem_of_getElem? (i := 0) rfl)) e0 (g := (mkF m 4 #[.val (.ref a0), .val (.int p1), .unset] [(.int (5 : Int32))])) rfl (hb hby d1_4) rfl (by decide) (cap := 5) (by decide) (by decide) (by decide) (by decide)
  obtain ⟨b2, g2⟩ : ∃ z, z = h0.size := ⟨_, rfl⟩
  rw [← g2] at A2 st2
  have ne_a0_b2 : a0 ≠ b2 := Nat.ne_of_lt (Nat.lt_of_lt_of_le V_a0.lt (Nat.le_of_eq g2.symm))
  have g_b2 : n0 ≤ b2 := Nat.le_trans Z0 (Nat.le_of_eq g2.symm)
  have sz_b2 : h0.size ≤ b2 := Nat.le_trans (Keep.refl h0 []).1 (Nat.le_of_eq g2.symm)
  have Z2 : n0 ≤ h2.size := Nat.le_trans Z0 E2.1
  have KC2 : Keep h0 h2 [] := (Keep.refl h0 []).ext E2
  have V2 : Arv Z h2 b2 k2 .byte (5 : Int32) [(.int (0 : Int32)), (.int (0 : Int32)), (.int (0 : Int32)), (.int (0 : Int32)), (.int (0 : Int32))] (.int (0 : Int32)) := (Arv.new A2 (by decide)).pad (pad_rep [] (.int (0 : Int32)) 5)
  have y3 := (V_a0.ext E2)
  obtain ⟨cl4, Ar4, q4, S4, M4, H4, G4⟩ := id y3
  obtain ⟨T5, h5, L5, X5, e5, N5, K5, V5, st5⟩ := cpA X2 hx hZ hown (hw _ (List.mem_of_getElem? (i := 5) rfl)) (hw _ (List.mem_of_getElem? (i := 8) rfl)) (hw _ (List.mem_of_getElem? (i := 6) rfl)) (hw _ (List.mem_of_getElem? (i := 7) rfl)) e2 y3 V2 (sp := (0 : Int32)) (dp := (0 : Int32)) (nn := (3 : Int32)) (us := [(.int x0_a0), (.int x1_a0), (.int x2_a0)]) (Or.inl ⟨rfl, rfl⟩) (by decide) (by decide) (by decide) (by decide) (by decide) rfl (by decide) N0 g_b2 (g := (mkF m 13 #[.val (.ref a0), .val (.int p1), .val (.ref b2)] [(.int (3 : Int32)), (.int (0 : Int32)), (.ref b2), (.int (0 : Int32)), (.ref a0)])) rfl (by rw [hml]; rfl) rfl (hb hby d1_13) (by decide) (W := 0) (by show 2 * 0 + _ ≤ _; exact Nat.le_of_eq rfl) (by decide)
  have Z5 : n0 ≤ h5.size := Nat.le_trans Z2 K5.1
  have KC5 : Keep h0 h5 [] := KC2.trans K5 (allS (Or.inr sz_b2) all0)
  have V5' : Arv Z h5 b2 k2 .byte (5 : Int32) [(.int x0_a0), (.int x1_a0), (.int x2_a0), (.int (0 : Int32)), (.int (0 : Int32))] (.int (0 : Int32)) := V5
  have y6 := (y3.keep K5 (ninS ne_a0_b2 nin0))
  obtain ⟨cl7, Ar7, q7, S7, M7, H7, G7⟩ := id y6
  obtain ⟨cl8, Ar8, q8, S8, M8, H8, G8⟩ := id V5'
  have hin8 : ¬ ((3 : Int32) < 0 ∨ cl8.slots.size ≤ ((3 : Int32)).toNatClampNeg) := inb_of S8 ⟨by decide, by decide⟩
  obtain ⟨T9, h9, X9, e9, W9, st9⟩ := stB X5 hx hZ e5 Ar8 (j := (3 : Int32)) hin8 (g := (mkF m 24 #[.val (.ref a0), .val (.int p1), .val (.ref b2)] [(.int ((p1 >>> ((8 : Int32) &&& 31)).toInt8.toInt32)), (.int (3 : Int32)), (.ref b2)])) rfl rfl (hb hby d1_24)
  have Z9 : n0 ≤ h9.size := Nat.le_trans Z5 (Keep.of_wr W9).1
  have N9 := Fr.snoc X9 N5 g_b2
  have KC9 : Keep h0 h9 [] := KC5.wr W9 (Or.inr sz_b2)
  have V9 : Arv Z h9 b2 k2 .byte (5 : Int32) [(.int x0_a0), (.int x1_a0), (.int x2_a0), (.int (((p1 >>> ((8 : Int32) &&& 31)).toInt8.toInt32).toInt8.toInt32)), (.int (0 : Int32))] (.int (0 : Int32)) := Arv.set Ar8 q8 S8 M8 H8 G8 (fits_nar_byte _) W9 3 rfl (Nat.le_of_ble_eq_true rfl)
  have y10 := (y6.other W9 ne_a0_b2)
  obtain ⟨cl11, Ar11, q11, S11, M11, H11, G11⟩ := id y10
  obtain ⟨cl12, Ar12, q12, S12, M12, H12, G12⟩ := id V9
  have hin12 : ¬ ((4 : Int32) < 0 ∨ cl12.slots.size ≤ ((4 : Int32)).toNatClampNeg) := inb_of S12 ⟨by decide, by decide⟩
  obtain ⟨T13, h13, X13, e13, W13, st13⟩ := stB X9 hx hZ e9 Ar12 (j := (4 : Int32)) hin12 (g := (mkF m 32 #[.val (.ref a0), .val (.int p1), .val (.ref b2)] [(.int (p1.toInt8.toInt32)), (.int (4 : Int32)), (.ref b2)])) rfl rfl (hb hby d1_32)
  have Z13 : n0 ≤ h13.size := Nat.le_trans Z9 (Keep.of_wr W13).1
  have N13 := Fr.snoc X13 N9 g_b2
  have KC13 : Keep h0 h13 [] := KC9.wr W13 (Or.inr sz_b2)
  have V13 : Arv Z h13 b2 k2 .byte (5 : Int32) [(.int x0_a0), (.int x1_a0), (.int x2_a0), (.int (((p1 >>> ((8 : Int32) &&& 31)).toInt8.toInt32).toInt8.toInt32)), (.int ((p1.toInt8.toInt32).toInt8.toInt32))] (.int (0 : Int32)) := Arv.set Ar12 q12 S12 M12 H12 G12 (fits_nar_byte _) W13 4 rfl (Nat.le_of_ble_eq_true rfl)
  have pre14 : ∀ t, Steps p.tables e below (T13.setTop (mkF m 34 #[.val (.ref a0), .val (.int p1), .val (.ref b2)] [(.ref b2)])) t → Steps p.tables e below (s₁.setTop (entryFrame m #[(.ref a0), (.int p1)] 3)) t := fun t k => pre0 t (by
    show Steps p.tables e below (s₁.setTop (mkF m 0 #[.val (.ref a0), .val (.int p1), .unset] [])) _
    refine XS.aloadN X0.here hx rfl (hb hby d1_0) rfl rfl ?_
    show Steps p.tables e below (s₁.setTop (mkF m 1 #[.val (.ref a0), .val (.int p1), .unset] [(.ref a0)])) _
    refine X0.arraylength hx (by rw [e0]; exact Ar1.1) (State.isArrayOf_alike hZ.alike Ar1.2.1) (g := (mkF m 1 #[.val (.ref a0), .val (.int p1), .unset] [(.ref a0)])) rfl rfl (hb hby d1_1) _ ?_
    rw [len_of S1 M1]
    show Steps p.tables e below (s₁.setTop (mkF m 2 #[.val (.ref a0), .val (.int p1), .unset] [(.int (3 : Int32))])) _
    refine XS.iconst X0.here hx rfl (hb hby d1_2) ?_
    show Steps p.tables e below (s₁.setTop (mkF m 3 #[.val (.ref a0), .val (.int p1), .unset] [(.int (2 : Int32)), (.int (3 : Int32))])) _
    refine XS.iadd X0.here hx rfl (hb hby d1_3) rfl ?_
    show Steps p.tables e below (s₁.setTop (mkF m 4 #[.val (.ref a0), .val (.int p1), .unset] [(.int (5 : Int32))])) _
    refine st2 _ ?_
    show Steps p.tables e below (T2.setTop (mkF m 6 #[.val (.ref a0), .val (.int p1), .unset] [(.ref b2)])) _
    refine XS.astoreN X2.here hx rfl (hb hby d1_6) rfl rfl (l' := #[.val (.ref a0), .val (.int p1), .val (.ref b2)]) rfl ?_
    show Steps p.tables e below (T2.setTop (mkF m 7 #[.val (.ref a0), .val (.int p1), .val (.ref b2)] [])) _
    refine XS.aloadN X2.here hx rfl (hb hby d1_7) rfl rfl ?_
    show Steps p.tables e below (T2.setTop (mkF m 8 #[.val (.ref a0), .val (.int p1), .val (.ref b2)] [(.ref a0)])) _
    refine XS.iconst X2.here hx rfl (hb hby d1_8) ?_
    show Steps p.tables e below (T2.setTop (mkF m 9 #[.val (.ref a0), .val (.int p1), .val (.ref b2)] [(.int (0 : Int32)), (.ref a0)])) _
    refine XS.aloadN X2.here hx rfl (hb hby d1_9) rfl rfl ?_
    show Steps p.tables e below (T2.setTop (mkF m 10 #[.val (.ref a0), .val (.int p1), .val (.ref b2)] [(.ref b2), (.int (0 : Int32)), (.ref a0)])) _
    refine XS.iconst X2.here hx rfl (hb hby d1_10) ?_
    show Steps p.tables e below (T2.setTop (mkF m 11 #[.val (.ref a0), .val (.int p1), .val (.ref b2)] [(.int (0 : Int32)), (.ref b2), (.int (0 : Int32)), (.ref a0)])) _
    refine XS.aloadN X2.here hx rfl (hb hby d1_11) rfl rfl ?_
    show Steps p.tables e below (T2.setTop (mkF m 12 #[.val (.ref a0), .val (.int p1), .val (.ref b2)] [(.ref a0), (.int (0 : Int32)), (.ref b2), (.int (0 : Int32)), (.ref a0)])) _
    refine X2.arraylength hx (by rw [e2]; exact Ar4.1) (State.isArrayOf_alike hZ.alike Ar4.2.1) (g := (mkF m 12 #[.val (.ref a0), .val (.int p1), .val (.ref b2)] [(.ref a0), (.int (0 : Int32)), (.ref b2), (.int (0 : Int32)), (.ref a0)])) rfl rfl (hb hby d1_12) _ ?_
    rw [len_of S4 M4]
    show Steps p.tables e below (T2.setTop (mkF m 13 #[.val (.ref a0), .val (.int p1), .val (.ref b2)] [(.int (3 : Int32)), (.int (0 : Int32)), (.ref b2), (.int (0 : Int32)), (.ref a0)])) _
    refine st5 _ ?_
    show Steps p.tables e below (T5.setTop (mkF m 16 #[.val (.ref a0), .val (.int p1), .val (.ref b2)] [])) _
    refine XS.aloadN X5.here hx rfl (hb hby d1_16) rfl rfl ?_
    show Steps p.tables e below (T5.setTop (mkF m 17 #[.val (.ref a0), .val (.int p1), .val (.ref b2)] [(.ref b2)])) _
    refine XS.aloadN X5.here hx rfl (hb hby d1_17) rfl rfl ?_
    show Steps p.tables e below (T5.setTop (mkF m 18 #[.val (.ref a0), .val (.int p1), .val (.ref b2)] [(.ref a0), (.ref b2)])) _
    refine X5.arraylength hx (by rw [e5]; exact Ar7.1) (State.isArrayOf_alike hZ.alike Ar7.2.1) (g := (mkF m 18 #[.val (.ref a0), .val (.int p1), .val (.ref b2)] [(.ref a0), (.ref b2)])) rfl rfl (hb hby d1_18) _ ?_
    rw [len_of S7 M7]
    show Steps p.tables e below (T5.setTop (mkF m 19 #[.val (.ref a0), .val (.int p1), .val (.ref b2)] [(.int (3 : Int32)), (.ref b2)])) _
    refine XS.iloadN X5.here hx rfl (hb hby d1_19) rfl ?_
    show Steps p.tables e below (T5.setTop (mkF m 20 #[.val (.ref a0), .val (.int p1), .val (.ref b2)] [(.int p1), (.int (3 : Int32)), (.ref b2)])) _
    refine XS.bipush X5.here hx rfl (hb hby d1_20) ?_
    show Steps p.tables e below (T5.setTop (mkF m 22 #[.val (.ref a0), .val (.int p1), .val (.ref b2)] [(.int (8 : Int32)), (.int p1), (.int (3 : Int32)), (.ref b2)])) _
    refine XS.ishr X5.here hx rfl (hb hby d1_22) rfl ?_
    show Steps p.tables e below (T5.setTop (mkF m 23 #[.val (.ref a0), .val (.int p1), .val (.ref b2)] [(.int (p1 >>> ((8 : Int32) &&& 31))), (.int (3 : Int32)), (.ref b2)])) _
    refine XS.i2b X5.here hx rfl (hb hby d1_23) rfl ?_
    show Steps p.tables e below (T5.setTop (mkF m 24 #[.val (.ref a0), .val (.int p1), .val (.ref b2)] [(.int ((p1 >>> ((8 : Int32) &&& 31)).toInt8.toInt32)), (.int (3 : Int32)), (.ref b2)])) _
    refine st9 _ ?_
    show Steps p.tables e below (T9.setTop (mkF m 25 #[.val (.ref a0), .val (.int p1), .val (.ref b2)] [])) _
    refine XS.aloadN X9.here hx rfl (hb hby d1_25) rfl rfl ?_
    show Steps p.tables e below (T9.setTop (mkF m 26 #[.val (.ref a0), .val (.int p1), .val (.ref b2)] [(.ref b2)])) _
    refine XS.aloadN X9.here hx rfl (hb hby d1_26) rfl rfl ?_
    show Steps p.tables e below (T9.setTop (mkF m 27 #[.val (.ref a0), .val (.int p1), .val (.ref b2)] [(.ref a0), (.ref b2)])) _
    refine X9.arraylength hx (by rw [e9]; exact Ar11.1) (State.isArrayOf_alike hZ.alike Ar11.2.1) (g := (mkF m 27 #[.val (.ref a0), .val (.int p1), .val (.ref b2)] [(.ref a0), (.ref b2)])) rfl rfl (hb hby d1_27) _ ?_
    rw [len_of S11 M11]
    show Steps p.tables e below (T9.setTop (mkF m 28 #[.val (.ref a0), .val (.int p1), .val (.ref b2)] [(.int (3 : Int32)), (.ref b2)])) _
    refine XS.iconst X9.here hx rfl (hb hby d1_28) ?_
    show Steps p.tables e below (T9.setTop (mkF m 29 #[.val (.ref a0), .val (.int p1), .val (.ref b2)] [(.int (1 : Int32)), (.int (3 : Int32)), (.ref b2)])) _
    refine XS.iadd X9.here hx rfl (hb hby d1_29) rfl ?_
    show Steps p.tables e below (T9.setTop (mkF m 30 #[.val (.ref a0), .val (.int p1), .val (.ref b2)] [(.int (4 : Int32)), (.ref b2)])) _
    refine XS.iloadN X9.here hx rfl (hb hby d1_30) rfl ?_
    show Steps p.tables e below (T9.setTop (mkF m 31 #[.val (.ref a0), .val (.int p1), .val (.ref b2)] [(.int p1), (.int (4 : Int32)), (.ref b2)])) _
    refine XS.i2b X9.here hx rfl (hb hby d1_31) rfl ?_
    show Steps p.tables e below (T9.setTop (mkF m 32 #[.val (.ref a0), .val (.int p1), .val (.ref b2)] [(.int (p1.toInt8.toInt32)), (.int (4 : Int32)), (.ref b2)])) _
    refine st13 _ ?_
    show Steps p.tables e below (T13.setTop (mkF m 33 #[.val (.ref a0), .val (.int p1), .val (.ref b2)] [])) _
    refine XS.aloadN X13.here hx rfl (hb hby d1_33) rfl rfl ?_
    exact k)
  obtain ⟨fs, hr, hrun, hended, hW, hsame⟩ := X13.leave (v := some (.ref b2)) (fun h => by rw [Bd.returns] at h; cases h) hlk
  exact ⟨_, _, pre14 _ (by jvm_step X13.here [X13.here.top, hx, (hb hby d1_34), X13.method', Bd.returns, Value.isRef, FieldType.isReference]; (first | (intro acts; rw [hr _ acts rfl rfl rfl]) | rw [hr _ _ rfl rfl rfl]); exact Steps.refl _), hrun, hended, _, _, rfl, (by show Q1_3 Z a0 p1 x0_a0 x1_a0 x2_a0 k_a0 h0 n0 _ T13.heap _; rw [e13]; exact ⟨b2, rfl, N13, sz_b2, g_b2, KC13, ⟨_, V13⟩⟩), ⟨_, rfl⟩, hW, hsame.mono (by decide) (by decide)⟩
def f0_m27 (p0 : Int32) (p1 : Int32) (p2 : Int32) (p3 : Int32) (p4 : Int32) : Int32 := (if ((p1.toInt8.toInt32).toInt8.toInt32) = (p1.toInt8.toInt32) then (1 : Int32) else (0 : Int32))
def f0_m53 (p0 : Int32) (p1 : Int32) (p2 : Int32) (p3 : Int32) (p4 : Int32) : Int32 := (if ((p1.toInt8.toInt32).toInt8.toInt32) = (p1.toInt8.toInt32) then (1 : Int32) else (0 : Int32))
def f0_m64 (p0 : Int32) (p1 : Int32) (p2 : Int32) (p3 : Int32) (p4 : Int32) : Int32 := (if (f0_m53 p0 p1 p2 p3 p4) = (0 : Int32) then (0 : Int32) else (if ((p2.toInt8.toInt32).toInt8.toInt32) = (p2.toInt8.toInt32) then (1 : Int32) else (0 : Int32)))
def f0_m92 (p0 : Int32) (p1 : Int32) (p2 : Int32) (p3 : Int32) (p4 : Int32) : Int32 := (if ((p1.toInt8.toInt32).toInt8.toInt32) = (p1.toInt8.toInt32) then (1 : Int32) else (0 : Int32))
def f0_m103 (p0 : Int32) (p1 : Int32) (p2 : Int32) (p3 : Int32) (p4 : Int32) : Int32 := (if (f0_m92 p0 p1 p2 p3 p4) = (0 : Int32) then (0 : Int32) else (if ((p2.toInt8.toInt32).toInt8.toInt32) = (p2.toInt8.toInt32) then (1 : Int32) else (0 : Int32)))
def f0_m114 (p0 : Int32) (p1 : Int32) (p2 : Int32) (p3 : Int32) (p4 : Int32) : Int32 := (if (f0_m103 p0 p1 p2 p3 p4) = (0 : Int32) then (0 : Int32) else (if ((p3.toInt8.toInt32).toInt8.toInt32) = (p3.toInt8.toInt32) then (1 : Int32) else (0 : Int32)))
def F0 (p0 : Int32) (p1 : Int32) (p2 : Int32) (p3 : Int32) (p4 : Int32) : Int32 := (if (p0 &&& (3 : Int32)) = (0 : Int32) then (if ((((((p4 >>> ((8 : Int32) &&& 31)).toInt8.toInt32).toInt8.toInt32) &&& (255 : Int32)) <<< ((8 : Int32) &&& 31)) ||| (((p4.toInt8.toInt32).toInt8.toInt32) &&& (255 : Int32))) = (p4 &&& (65535 : Int32)) then (1 : Int32) else (0 : Int32)) else (if (p0 &&& (3 : Int32)) = (1 : Int32) then (if (f0_m27 p0 p1 p2 p3 p4) = (0 : Int32) then (0 : Int32) else (if ((((((p4 >>> ((8 : Int32) &&& 31)).toInt8.toInt32).toInt8.toInt32) &&& (255 : Int32)) <<< ((8 : Int32) &&& 31)) ||| (((p4.toInt8.toInt32).toInt8.toInt32) &&& (255 : Int32))) = (p4 &&& (65535 : Int32)) then (1 : Int32) else (0 : Int32))) else (if (p0 &&& (3 : Int32)) = (2 : Int32) then (if (f0_m64 p0 p1 p2 p3 p4) = (0 : Int32) then (0 : Int32) else (if ((((((p4 >>> ((8 : Int32) &&& 31)).toInt8.toInt32).toInt8.toInt32) &&& (255 : Int32)) <<< ((8 : Int32) &&& 31)) ||| (((p4.toInt8.toInt32).toInt8.toInt32) &&& (255 : Int32))) = (p4 &&& (65535 : Int32)) then (1 : Int32) else (0 : Int32))) else (if (f0_m114 p0 p1 p2 p3 p4) = (0 : Int32) then (0 : Int32) else (if ((((((p4 >>> ((8 : Int32) &&& 31)).toInt8.toInt32).toInt8.toInt32) &&& (255 : Int32)) <<< ((8 : Int32) &&& 31)) ||| (((p4.toInt8.toInt32).toInt8.toInt32) &&& (255 : Int32))) = (p4 &&& (65535 : Int32)) then (1 : Int32) else (0 : Int32))))))
theorem own_q (x : Int32) : x &&& 3 = 0 ∨ x &&& 3 = 1 ∨ x &&& 3 = 2 ∨ x &&& 3 = 3 := by
  have r : (x &&& (3 : Int32)).toInt = x.toInt % (2 ^ 2 : Nat) := c_mask x 3 2 (by decide) (by decide)
  have q : (x &&& (3 : Int32)).toInt = 0 ∨ (x &&& (3 : Int32)).toInt = 1 ∨ (x &&& (3 : Int32)).toInt = 2 ∨ (x &&& (3 : Int32)).toInt = 3 := by omega
  rcases q with q | q | q | q
  · exact Or.inl (Int32.toInt_inj.mp q)
  · exact Or.inr (Or.inl (Int32.toInt_inj.mp q))
  · exact Or.inr (Or.inr (Or.inl (Int32.toInt_inj.mp q)))
  · exact Or.inr (Or.inr (Or.inr (Int32.toInt_inj.mp q)))
theorem own_q3 (x : Int32) (h0 : ¬ x &&& 3 = 0) (h1 : ¬ x &&& 3 = 1) (h2 : ¬ x &&& 3 = 2) : x &&& 3 = 3 := by
  rcases own_q x with h | h | h | h
  · exact absurd h h0
  · exact absurd h h1
  · exact absurd h h2
  · exact h
theorem ef0 (m : MethodId) (x0 : Int32) (x1 : Int32) (x2 : Int32) (x3 : Int32) (x4 : Int32) : entryFrame m #[(.int x0), (.int x1), (.int x2), (.int x3), (.int x4)] maxLocals = mkF m 0 #[.val (.int x0), .val (.int x1), .val (.int x2), .val (.int x3), .val (.int x4), .unset, .unset, .unset, .unset, .unset] [] := by first | (simp [entryFrame, mkF, argsToLocals, Value.category, maxLocals]; done) | rfl
def Q0 (Z : State) (p0 : Int32) (p1 : Int32) (p2 : Int32) (p3 : Int32) (p4 : Int32) (h0 : Heap) (n0 : Nat) (v : Option Value) (h : Heap) (L : List Loc) : Prop := v = some (.int (F0 p0 p1 p2 p3 p4)) ∧ Fr n0 L
set_option maxRecDepth 65536 in
set_option maxHeartbeats 40000000 in
theorem rm0 (l : Launch) (Z : State) (a0' : Array Value) (hw : ∀ d ∈ tables_1, d.before a0' Z = true) (ws : List Jvm.Cond) (p0 : Int32) (p1 : Int32) (p2 : Int32) (p3 : Int32) (p4 : Int32) (h0 : Heap) (n0 : Nat) (Z0 : n0 ≤ h0.size) :
    MetFree l x (head1 (Jvm.Cond.code x code maxLocals ret :: ws) room_1) (fun a U => a = #[(.int p0), (.int p1), (.int p2), (.int p3), (.int p4)] ∧ Z.Warmed39 U.vm ∧ U.heap = h0) (fun _ _ _ _ _ => True) (fun _ U o U' => ∃ v L, o = .returned v ∧ Q0 Z p0 p1 p2 p3 p4 h0 n0 v U'.heap L ∧ FrameEnd U o U' L 2 8) := by
  refine MetFree.of_bodySF (plainFor_of_name pn1) hisR ?_
  intro p e s m args below meth c s₁ Bd hml0 hP hK
  obtain ⟨rfl, hZ, hh⟩ := hP
  have hx := Bd.exec
  have hby := Bd.bytes
  have hml : c.maxLocals = 10 := hml0
  have hown : s.vm.findClass "com/example/cardwarden/cardwarden/core/card/StatusWordRespondPinLaw" = some m.cls := findClass_of_methodNamed Bd.named
  have hnm := (name_of_methodNamed Bd.named Bd.method).1
  have X0 : Stand p l e room_1 s m #[(.int p0), (.int p1), (.int p2), (.int p3), (.int p4)] below meth c s₁ [] 0 0 := Stand.of_body Bd
  have e0 : s₁.heap = h0 := by rw [← hh, Bd.state]; rfl
  have N0 := Fr.nil n0
  have hlk : meth.locks = false := by first | exact BodyLoose.notSynchronized Bd | exact Body.notSynchronized Bd
  have pre0 : ∀ t, Steps p.tables e below (s₁.setTop (mkF m 0 #[.val (.int p0), .val (.int p1), .val (.int p2), .val (.int p3), .val (.int p4), .unset, .unset, .unset, .unset, .unset] [])) t → Steps p.tables e below (s₁.setTop (entryFrame m #[(.int p0), (.int p1), (.int p2), (.int p3), (.int p4)] maxLocals)) t := fun t k => castTop (ef0 m p0 p1 p2 p3 p4) k
  have pre1 : ∀ t, Steps p.tables e below (s₁.setTop (mkF m 5 #[.val (.int p0), .val (.int p1), .val (.int p2), .val (.int p3), .val (.int p4), .val (.int (p0 &&& (3 : Int32))), .unset, .unset, .unset, .unset] [])) t → Steps p.tables e below (s₁.setTop (entryFrame m #[(.int p0), (.int p1), (.int p2), (.int p3), (.int p4)] maxLocals)) t := fun t k => pre0 t (by
    show Steps p.tables e below (s₁.setTop (mkF m 0 #[.val (.int p0), .val (.int p1), .val (.int p2), .val (.int p3), .val (.int p4), .unset, .unset, .unset, .unset, .unset] [])) _
    refine XS.iloadN X0.here hx rfl (hb hby at_0) rfl ?_
    show Steps p.tables e below (s₁.setTop (mkF m 1 #[.val (.int p0), .val (.int p1), .val (.int p2), .val (.int p3), .val (.int p4), .unset, .unset, .unset, .unset, .unset] [(.int p0)])) _
    refine XS.iconst X0.here hx rfl (hb hby at_1) ?_
    show Steps p.tables e below (s₁.setTop (mkF m 2 #[.val (.int p0), .val (.int p1), .val (.int p2), .val (.int p3), .val (.int p4), .unset, .unset, .unset, .unset, .unset] [(.int (3 : Int32)), (.int p0)])) _
    refine XS.iand X0.here hx rfl (hb hby at_2) rfl ?_
    show Steps p.tables e below (s₁.setTop (mkF m 3 #[.val (.int p0), .val (.int p1), .val (.int p2), .val (.int p3), .val (.int p4), .unset, .unset, .unset, .unset, .unset] [(.int (p0 &&& (3 : Int32)))])) _
    refine XS.istore X0.here hx rfl (hb hby at_3) rfl (l' := #[.val (.int p0), .val (.int p1), .val (.int p2), .val (.int p3), .val (.int p4), .val (.int (p0 &&& (3 : Int32))), .unset, .unset, .unset, .unset]) rfl ?_
    exact k)
  by_cases hv2 : (p0 &&& (3 : Int32)) = (0 : Int32)
  · have pre3 := pre1
    rw [hv2] at pre3
    obtain ⟨T4, h4, k4, X4, e4, E4, A4, st4⟩ := newP X0 hx hZ (hw _ (List.mem_of_getElem? (i := 0) rfl)) e0 (g := (mkF m 7 #[.val (.int p0), .val (.int p1), .val (.int p2), .val (.int p3), .val (.int p4), .val (.int (0 : Int32)), .unset, .unset, .unset, .unset] [(.int (0 : Int32))])) rfl (hb hby at_7) rfl (by decide) (cap := 0) (by decide) (by decide) (by decide) (by decide)
    obtain ⟨b4, g4⟩ : ∃ z, z = h0.size := ⟨_, rfl⟩
    rw [← g4] at A4 st4
    have g_b4 : n0 ≤ b4 := Nat.le_trans Z0 (Nat.le_of_eq g4.symm)
    have Z4 : n0 ≤ h4.size := Nat.le_trans Z0 E4.1
    have V4 : Arv Z h4 b4 k4 .byte (0 : Int32) [] (.int (0 : Int32)) := (Arv.new A4 (by decide)).pad (pad_rep [] (.int (0 : Int32)) 0)
    obtain ⟨_, _, ⟨T5, L5, k5, n5⟩, -, X5, ⟨Lc5, hQ5, l5, y5, z5⟩, st5⟩ := Jvm.LawKit.callS X4 hx (y := (⟨"com/example/cardwarden/cardwarden/core/card/StatusWord", "respond", "([BI)[B"⟩ : MethodName)) hown (mvT hZ (hw _ (List.mem_of_getElem? (i := 1) rfl))) (mvT hZ (hw _ (List.mem_of_getElem? (i := 2) rfl))) (mvT hZ (hw _ (List.mem_of_getElem? (i := 3) rfl))) (mvT hZ (hw _ (List.mem_of_getElem? (i := 4) rfl))) (by decide) (backOf (W := 0) (rm1_0 l Z a0' hw [] b4 p4 k4 h4 n0 Z4 V4) hZ (hw _ (List.mem_of_getElem? (i := 4) rfl)) (hw _ (List.mem_of_getElem? (i := 3) rfl)) (by decide) (by decide)) (g := (mkF m 50 #[.val (.int p0), .val (.int p1), .val (.int p2), .val (.int p3), .val (.int p4), .val (.int (0 : Int32)), .val (.ref b4), .unset, .unset, .unset] [(.int p4), (.ref b4)])) rfl (by rw [hml]; rfl) (argsL := [(.ref b4), (.int p4)]) (rest := []) (lenOf pd0 rfl) rfl (by show 2 * 0 + _ ≤ _; exact Nat.le_of_eq rfl) (hb hby at_50) (fun _ _ => ⟨rfl, e4, (by decide : 1 + 1 ≤ _), (by decide : 0 + 2 ≤ _)⟩)
    dsimp only [Pt.U, Pt.locs, Pt.cells, Pt.slots] at X5 l5 y5 z5 st5 hQ5
    subst l5 y5 z5
    obtain ⟨b5, rfl, N5q, gs5, g_b5, K5, u5_0⟩ := hQ5
    have N5 := Fr.app N0 N5q
    have ne_b4_b5 : b4 ≠ b5 := Nat.ne_of_lt (Nat.lt_of_lt_of_le V4.lt gs5)
    have Z5 : n0 ≤ T5.heap.size := Nat.le_trans Z4 K5.1
    obtain ⟨kk5, u5_0⟩ := u5_0
    obtain ⟨cl6, Ar6, q6, S6, M6, H6, G6⟩ := id u5_0
    obtain ⟨cl7, Ar7, q7, S7, M7, H7, G7⟩ := id u5_0
    have hin7 : ¬ ((0 : Int32) < 0 ∨ cl7.slots.size ≤ ((0 : Int32)).toNatClampNeg) := inb_of S7 ⟨by decide, by decide⟩
    have hat7 : cl7.slots[((0 : Int32)).toNatClampNeg]? = some (.int (((p4 >>> ((8 : Int32) &&& 31)).toInt8.toInt32).toInt8.toInt32)) := H7.at hin7 rfl
    obtain ⟨cl8, Ar8, q8, S8, M8, H8, G8⟩ := id u5_0
    have hin8 : ¬ ((1 : Int32) < 0 ∨ cl8.slots.size ≤ ((1 : Int32)).toNatClampNeg) := inb_of S8 ⟨by decide, by decide⟩
    have hat8 : cl8.slots[((1 : Int32)).toNatClampNeg]? = some (.int ((p4.toInt8.toInt32).toInt8.toInt32)) := H8.at hin8 rfl
    have pre9 : ∀ t, Steps p.tables e below (T5.setTop (mkF m 220 #[.val (.int p0), .val (.int p1), .val (.int p2), .val (.int p3), .val (.int p4), .val (.int (0 : Int32)), .val (.ref b4), .val (.ref b5), .val (.int (1 : Int32)), .val (.int ((((((p4 >>> ((8 : Int32) &&& 31)).toInt8.toInt32).toInt8.toInt32) &&& (255 : Int32)) <<< ((8 : Int32) &&& 31)) ||| (((p4.toInt8.toInt32).toInt8.toInt32) &&& (255 : Int32))))] [(.int (p4 &&& (65535 : Int32))), (.int ((((((p4 >>> ((8 : Int32) &&& 31)).toInt8.toInt32).toInt8.toInt32) &&& (255 : Int32)) <<< ((8 : Int32) &&& 31)) ||| (((p4.toInt8.toInt32).toInt8.toInt32) &&& (255 : Int32))))])) t → Steps p.tables e below (s₁.setTop (entryFrame m #[(.int p0), (.int p1), (.int p2), (.int p3), (.int p4)] maxLocals)) t := fun t k => pre3 t (by
      show Steps p.tables e below (s₁.setTop (mkF m 5 #[.val (.int p0), .val (.int p1), .val (.int p2), .val (.int p3), .val (.int p4), .val (.int (0 : Int32)), .unset, .unset, .unset, .unset] [])) _
      refine XS.iload X0.here hx rfl (hb hby at_5) rfl ?_
      show Steps p.tables e below (s₁.setTop (mkF m 7 #[.val (.int p0), .val (.int p1), .val (.int p2), .val (.int p3), .val (.int p4), .val (.int (0 : Int32)), .unset, .unset, .unset, .unset] [(.int (0 : Int32))])) _
      refine st4 _ ?_
      show Steps p.tables e below (T4.setTop (mkF m 9 #[.val (.int p0), .val (.int p1), .val (.int p2), .val (.int p3), .val (.int p4), .val (.int (0 : Int32)), .unset, .unset, .unset, .unset] [(.ref b4)])) _
      refine XS.astore X4.here hx rfl (hb hby at_9) rfl rfl (l' := #[.val (.int p0), .val (.int p1), .val (.int p2), .val (.int p3), .val (.int p4), .val (.int (0 : Int32)), .val (.ref b4), .unset, .unset, .unset]) rfl ?_
      show Steps p.tables e below (T4.setTop (mkF m 11 #[.val (.int p0), .val (.int p1), .val (.int p2), .val (.int p3), .val (.int p4), .val (.int (0 : Int32)), .val (.ref b4), .unset, .unset, .unset] [])) _
      refine XS.iload X4.here hx rfl (hb hby at_11) rfl ?_
      show Steps p.tables e below (T4.setTop (mkF m 13 #[.val (.int p0), .val (.int p1), .val (.int p2), .val (.int p3), .val (.int p4), .val (.int (0 : Int32)), .val (.ref b4), .unset, .unset, .unset] [(.int (0 : Int32))])) _
      refine XS.ifYes X4.here hx rfl (pc0 := 13) (pc' := 22) rfl (hb hby at_13) rfl ((if0 _ _).trans (flt (by decide : ¬ ((0 : Int32) < (0 : Int32)))).2.2.2) (by decide) (by decide) ?_
      show Steps p.tables e below (T4.setTop (mkF m 22 #[.val (.int p0), .val (.int p1), .val (.int p2), .val (.int p3), .val (.int p4), .val (.int (0 : Int32)), .val (.ref b4), .unset, .unset, .unset] [])) _
      refine XS.iload X4.here hx rfl (hb hby at_22) rfl ?_
      show Steps p.tables e below (T4.setTop (mkF m 24 #[.val (.int p0), .val (.int p1), .val (.int p2), .val (.int p3), .val (.int p4), .val (.int (0 : Int32)), .val (.ref b4), .unset, .unset, .unset] [(.int (0 : Int32))])) _
      refine XS.iconst X4.here hx rfl (hb hby at_24) ?_
      show Steps p.tables e below (T4.setTop (mkF m 25 #[.val (.int p0), .val (.int p1), .val (.int p2), .val (.int p3), .val (.int p4), .val (.int (0 : Int32)), .val (.ref b4), .unset, .unset, .unset] [(.int (1 : Int32)), (.int (0 : Int32))])) _
      refine XS.icmpYes X4.here hx rfl (pc0 := 25) (pc' := 34) rfl (hb hby at_25) rfl (flt (by decide : ¬ ((1 : Int32) < (0 : Int32)))).2.2.2 (by decide) (by decide) ?_
      show Steps p.tables e below (T4.setTop (mkF m 34 #[.val (.int p0), .val (.int p1), .val (.int p2), .val (.int p3), .val (.int p4), .val (.int (0 : Int32)), .val (.ref b4), .unset, .unset, .unset] [])) _
      refine XS.iload X4.here hx rfl (hb hby at_34) rfl ?_
      show Steps p.tables e below (T4.setTop (mkF m 36 #[.val (.int p0), .val (.int p1), .val (.int p2), .val (.int p3), .val (.int p4), .val (.int (0 : Int32)), .val (.ref b4), .unset, .unset, .unset] [(.int (0 : Int32))])) _
      refine XS.iconst X4.here hx rfl (hb hby at_36) ?_
      show Steps p.tables e below (T4.setTop (mkF m 37 #[.val (.int p0), .val (.int p1), .val (.int p2), .val (.int p3), .val (.int p4), .val (.int (0 : Int32)), .val (.ref b4), .unset, .unset, .unset] [(.int (2 : Int32)), (.int (0 : Int32))])) _
      refine XS.icmpYes X4.here hx rfl (pc0 := 37) (pc' := 46) rfl (hb hby at_37) rfl (flt (by decide : ¬ ((2 : Int32) < (0 : Int32)))).2.2.2 (by decide) (by decide) ?_
      show Steps p.tables e below (T4.setTop (mkF m 46 #[.val (.int p0), .val (.int p1), .val (.int p2), .val (.int p3), .val (.int p4), .val (.int (0 : Int32)), .val (.ref b4), .unset, .unset, .unset] [])) _
      refine XS.aload X4.here hx rfl (hb hby at_46) rfl rfl ?_
      show Steps p.tables e below (T4.setTop (mkF m 48 #[.val (.int p0), .val (.int p1), .val (.int p2), .val (.int p3), .val (.int p4), .val (.int (0 : Int32)), .val (.ref b4), .unset, .unset, .unset] [(.ref b4)])) _
      refine XS.iload X4.here hx rfl (hb hby at_48) rfl ?_
      show Steps p.tables e below (T4.setTop (mkF m 50 #[.val (.int p0), .val (.int p1), .val (.int p2), .val (.int p3), .val (.int p4), .val (.int (0 : Int32)), .val (.ref b4), .unset, .unset, .unset] [(.int p4), (.ref b4)])) _
      refine st5 _ ?_
      show Steps p.tables e below (T5.setTop (mkF m 53 #[.val (.int p0), .val (.int p1), .val (.int p2), .val (.int p3), .val (.int p4), .val (.int (0 : Int32)), .val (.ref b4), .unset, .unset, .unset] [(.ref b5)])) _
      refine XS.astore X5.here hx rfl (hb hby at_53) rfl rfl (l' := #[.val (.int p0), .val (.int p1), .val (.int p2), .val (.int p3), .val (.int p4), .val (.int (0 : Int32)), .val (.ref b4), .val (.ref b5), .unset, .unset]) rfl ?_
      show Steps p.tables e below (T5.setTop (mkF m 55 #[.val (.int p0), .val (.int p1), .val (.int p2), .val (.int p3), .val (.int p4), .val (.int (0 : Int32)), .val (.ref b4), .val (.ref b5), .unset, .unset] [])) _
      refine XS.aload X5.here hx rfl (hb hby at_55) rfl rfl ?_
      show Steps p.tables e below (T5.setTop (mkF m 57 #[.val (.int p0), .val (.int p1), .val (.int p2), .val (.int p3), .val (.int p4), .val (.int (0 : Int32)), .val (.ref b4), .val (.ref b5), .unset, .unset] [(.ref b5)])) _
      refine XS.ifnullNo X5.here hx rfl (hb hby at_57) rfl ?_
      show Steps p.tables e below (T5.setTop (mkF m 60 #[.val (.int p0), .val (.int p1), .val (.int p2), .val (.int p3), .val (.int p4), .val (.int (0 : Int32)), .val (.ref b4), .val (.ref b5), .unset, .unset] [])) _
      refine XS.aload X5.here hx rfl (hb hby at_60) rfl rfl ?_
      show Steps p.tables e below (T5.setTop (mkF m 62 #[.val (.int p0), .val (.int p1), .val (.int p2), .val (.int p3), .val (.int p4), .val (.int (0 : Int32)), .val (.ref b4), .val (.ref b5), .unset, .unset] [(.ref b5)])) _
      refine X5.arraylength hx Ar6.1 (State.isArrayOf_alike hZ.alike Ar6.2.1) (g := (mkF m 62 #[.val (.int p0), .val (.int p1), .val (.int p2), .val (.int p3), .val (.int p4), .val (.int (0 : Int32)), .val (.ref b4), .val (.ref b5), .unset, .unset] [(.ref b5)])) rfl rfl (hb hby at_62) _ ?_
      rw [len_of S6 M6]
      show Steps p.tables e below (T5.setTop (mkF m 63 #[.val (.int p0), .val (.int p1), .val (.int p2), .val (.int p3), .val (.int p4), .val (.int (0 : Int32)), .val (.ref b4), .val (.ref b5), .unset, .unset] [(.int (2 : Int32))])) _
      refine XS.iload X5.here hx rfl (hb hby at_63) rfl ?_
      show Steps p.tables e below (T5.setTop (mkF m 65 #[.val (.int p0), .val (.int p1), .val (.int p2), .val (.int p3), .val (.int p4), .val (.int (0 : Int32)), .val (.ref b4), .val (.ref b5), .unset, .unset] [(.int (0 : Int32)), (.int (2 : Int32))])) _
      refine XS.iconst X5.here hx rfl (hb hby at_65) ?_
      show Steps p.tables e below (T5.setTop (mkF m 66 #[.val (.int p0), .val (.int p1), .val (.int p2), .val (.int p3), .val (.int p4), .val (.int (0 : Int32)), .val (.ref b4), .val (.ref b5), .unset, .unset] [(.int (2 : Int32)), (.int (0 : Int32)), (.int (2 : Int32))])) _
      refine XS.iadd X5.here hx rfl (hb hby at_66) rfl ?_
      show Steps p.tables e below (T5.setTop (mkF m 67 #[.val (.int p0), .val (.int p1), .val (.int p2), .val (.int p3), .val (.int p4), .val (.int (0 : Int32)), .val (.ref b4), .val (.ref b5), .unset, .unset] [(.int (2 : Int32)), (.int (2 : Int32))])) _
      refine XS.icmpYes X5.here hx rfl (pc0 := 67) (pc' := 72) rfl (hb hby at_67) rfl (teq (rfl : (2 : Int32) = (2 : Int32))).1 (by decide) (by decide) ?_
      show Steps p.tables e below (T5.setTop (mkF m 72 #[.val (.int p0), .val (.int p1), .val (.int p2), .val (.int p3), .val (.int p4), .val (.int (0 : Int32)), .val (.ref b4), .val (.ref b5), .unset, .unset] [])) _
      refine XS.iconst X5.here hx rfl (hb hby at_72) ?_
      show Steps p.tables e below (T5.setTop (mkF m 73 #[.val (.int p0), .val (.int p1), .val (.int p2), .val (.int p3), .val (.int p4), .val (.int (0 : Int32)), .val (.ref b4), .val (.ref b5), .unset, .unset] [(.int (1 : Int32))])) _
      refine XS.istore X5.here hx rfl (hb hby at_73) rfl (l' := #[.val (.int p0), .val (.int p1), .val (.int p2), .val (.int p3), .val (.int p4), .val (.int (0 : Int32)), .val (.ref b4), .val (.ref b5), .val (.int (1 : Int32)), .unset]) rfl ?_
      show Steps p.tables e below (T5.setTop (mkF m 75 #[.val (.int p0), .val (.int p1), .val (.int p2), .val (.int p3), .val (.int p4), .val (.int (0 : Int32)), .val (.ref b4), .val (.ref b5), .val (.int (1 : Int32)), .unset] [])) _
      refine XS.iload X5.here hx rfl (hb hby at_75) rfl ?_
      show Steps p.tables e below (T5.setTop (mkF m 77 #[.val (.int p0), .val (.int p1), .val (.int p2), .val (.int p3), .val (.int p4), .val (.int (0 : Int32)), .val (.ref b4), .val (.ref b5), .val (.int (1 : Int32)), .unset] [(.int (0 : Int32))])) _
      refine XS.ifYes X5.here hx rfl (pc0 := 77) (pc' := 110) rfl (hb hby at_77) rfl ((if0 _ _).trans (flt (by decide : ¬ ((0 : Int32) < (0 : Int32)))).2.2.2) (by decide) (by decide) ?_
      show Steps p.tables e below (T5.setTop (mkF m 110 #[.val (.int p0), .val (.int p1), .val (.int p2), .val (.int p3), .val (.int p4), .val (.int (0 : Int32)), .val (.ref b4), .val (.ref b5), .val (.int (1 : Int32)), .unset] [])) _
      refine XS.iload X5.here hx rfl (hb hby at_110) rfl ?_
      show Steps p.tables e below (T5.setTop (mkF m 112 #[.val (.int p0), .val (.int p1), .val (.int p2), .val (.int p3), .val (.int p4), .val (.int (0 : Int32)), .val (.ref b4), .val (.ref b5), .val (.int (1 : Int32)), .unset] [(.int (0 : Int32))])) _
      refine XS.iconst X5.here hx rfl (hb hby at_112) ?_
      show Steps p.tables e below (T5.setTop (mkF m 113 #[.val (.int p0), .val (.int p1), .val (.int p2), .val (.int p3), .val (.int p4), .val (.int (0 : Int32)), .val (.ref b4), .val (.ref b5), .val (.int (1 : Int32)), .unset] [(.int (1 : Int32)), (.int (0 : Int32))])) _
      refine XS.icmpYes X5.here hx rfl (pc0 := 113) (pc' := 146) rfl (hb hby at_113) rfl (flt (by decide : ¬ ((1 : Int32) < (0 : Int32)))).2.2.2 (by decide) (by decide) ?_
      show Steps p.tables e below (T5.setTop (mkF m 146 #[.val (.int p0), .val (.int p1), .val (.int p2), .val (.int p3), .val (.int p4), .val (.int (0 : Int32)), .val (.ref b4), .val (.ref b5), .val (.int (1 : Int32)), .unset] [])) _
      refine XS.iload X5.here hx rfl (hb hby at_146) rfl ?_
      show Steps p.tables e below (T5.setTop (mkF m 148 #[.val (.int p0), .val (.int p1), .val (.int p2), .val (.int p3), .val (.int p4), .val (.int (0 : Int32)), .val (.ref b4), .val (.ref b5), .val (.int (1 : Int32)), .unset] [(.int (0 : Int32))])) _
      refine XS.iconst X5.here hx rfl (hb hby at_148) ?_
      show Steps p.tables e below (T5.setTop (mkF m 149 #[.val (.int p0), .val (.int p1), .val (.int p2), .val (.int p3), .val (.int p4), .val (.int (0 : Int32)), .val (.ref b4), .val (.ref b5), .val (.int (1 : Int32)), .unset] [(.int (2 : Int32)), (.int (0 : Int32))])) _
      refine XS.icmpYes X5.here hx rfl (pc0 := 149) (pc' := 182) rfl (hb hby at_149) rfl (flt (by decide : ¬ ((2 : Int32) < (0 : Int32)))).2.2.2 (by decide) (by decide) ?_
      show Steps p.tables e below (T5.setTop (mkF m 182 #[.val (.int p0), .val (.int p1), .val (.int p2), .val (.int p3), .val (.int p4), .val (.int (0 : Int32)), .val (.ref b4), .val (.ref b5), .val (.int (1 : Int32)), .unset] [])) _
      refine XS.aload X5.here hx rfl (hb hby at_182) rfl rfl ?_
      show Steps p.tables e below (T5.setTop (mkF m 184 #[.val (.int p0), .val (.int p1), .val (.int p2), .val (.int p3), .val (.int p4), .val (.int (0 : Int32)), .val (.ref b4), .val (.ref b5), .val (.int (1 : Int32)), .unset] [(.ref b5)])) _
      refine XS.iload X5.here hx rfl (hb hby at_184) rfl ?_
      show Steps p.tables e below (T5.setTop (mkF m 186 #[.val (.int p0), .val (.int p1), .val (.int p2), .val (.int p3), .val (.int p4), .val (.int (0 : Int32)), .val (.ref b4), .val (.ref b5), .val (.int (1 : Int32)), .unset] [(.int (0 : Int32)), (.ref b5)])) _
      refine X5.baloadBytes hx (j := (0 : Int32)) (v := (.int (((p4 >>> ((8 : Int32) &&& 31)).toInt8.toInt32).toInt8.toInt32))) Ar7.1 (State.isArrayOf_alike hZ.alike Ar7.2.1) Ar7.2.2 hin7 hat7 (g := (mkF m 186 #[.val (.int p0), .val (.int p1), .val (.int p2), .val (.int p3), .val (.int p4), .val (.int (0 : Int32)), .val (.ref b4), .val (.ref b5), .val (.int (1 : Int32)), .unset] [(.int (0 : Int32)), (.ref b5)])) rfl rfl (hb hby at_186) _ ?_
      show Steps p.tables e below (T5.setTop (mkF m 187 #[.val (.int p0), .val (.int p1), .val (.int p2), .val (.int p3), .val (.int p4), .val (.int (0 : Int32)), .val (.ref b4), .val (.ref b5), .val (.int (1 : Int32)), .unset] [(.int (((p4 >>> ((8 : Int32) &&& 31)).toInt8.toInt32).toInt8.toInt32))])) _
      refine XS.sipush X5.here hx rfl (hb hby at_187) ?_
      show Steps p.tables e below (T5.setTop (mkF m 190 #[.val (.int p0), .val (.int p1), .val (.int p2), .val (.int p3), .val (.int p4), .val (.int (0 : Int32)), .val (.ref b4), .val (.ref b5), .val (.int (1 : Int32)), .unset] [(.int (255 : Int32)), (.int (((p4 >>> ((8 : Int32) &&& 31)).toInt8.toInt32).toInt8.toInt32))])) _
      refine XS.iand X5.here hx rfl (hb hby at_190) rfl ?_
      show Steps p.tables e below (T5.setTop (mkF m 191 #[.val (.int p0), .val (.int p1), .val (.int p2), .val (.int p3), .val (.int p4), .val (.int (0 : Int32)), .val (.ref b4), .val (.ref b5), .val (.int (1 : Int32)), .unset] [(.int ((((p4 >>> ((8 : Int32) &&& 31)).toInt8.toInt32).toInt8.toInt32) &&& (255 : Int32)))])) _
      refine XS.bipush X5.here hx rfl (hb hby at_191) ?_
      show Steps p.tables e below (T5.setTop (mkF m 193 #[.val (.int p0), .val (.int p1), .val (.int p2), .val (.int p3), .val (.int p4), .val (.int (0 : Int32)), .val (.ref b4), .val (.ref b5), .val (.int (1 : Int32)), .unset] [(.int (8 : Int32)), (.int ((((p4 >>> ((8 : Int32) &&& 31)).toInt8.toInt32).toInt8.toInt32) &&& (255 : Int32)))])) _
      refine XS.ishl X5.here hx rfl (hb hby at_193) rfl ?_
      show Steps p.tables e below (T5.setTop (mkF m 194 #[.val (.int p0), .val (.int p1), .val (.int p2), .val (.int p3), .val (.int p4), .val (.int (0 : Int32)), .val (.ref b4), .val (.ref b5), .val (.int (1 : Int32)), .unset] [(.int (((((p4 >>> ((8 : Int32) &&& 31)).toInt8.toInt32).toInt8.toInt32) &&& (255 : Int32)) <<< ((8 : Int32) &&& 31)))])) _
      refine XS.aload X5.here hx rfl (hb hby at_194) rfl rfl ?_
      show Steps p.tables e below (T5.setTop (mkF m 196 #[.val (.int p0), .val (.int p1), .val (.int p2), .val (.int p3), .val (.int p4), .val (.int (0 : Int32)), .val (.ref b4), .val (.ref b5), .val (.int (1 : Int32)), .unset] [(.ref b5), (.int (((((p4 >>> ((8 : Int32) &&& 31)).toInt8.toInt32).toInt8.toInt32) &&& (255 : Int32)) <<< ((8 : Int32) &&& 31)))])) _
      refine XS.iload X5.here hx rfl (hb hby at_196) rfl ?_
      show Steps p.tables e below (T5.setTop (mkF m 198 #[.val (.int p0), .val (.int p1), .val (.int p2), .val (.int p3), .val (.int p4), .val (.int (0 : Int32)), .val (.ref b4), .val (.ref b5), .val (.int (1 : Int32)), .unset] [(.int (0 : Int32)), (.ref b5), (.int (((((p4 >>> ((8 : Int32) &&& 31)).toInt8.toInt32).toInt8.toInt32) &&& (255 : Int32)) <<< ((8 : Int32) &&& 31)))])) _
      refine XS.iconst X5.here hx rfl (hb hby at_198) ?_
      show Steps p.tables e below (T5.setTop (mkF m 199 #[.val (.int p0), .val (.int p1), .val (.int p2), .val (.int p3), .val (.int p4), .val (.int (0 : Int32)), .val (.ref b4), .val (.ref b5), .val (.int (1 : Int32)), .unset] [(.int (1 : Int32)), (.int (0 : Int32)), (.ref b5), (.int (((((p4 >>> ((8 : Int32) &&& 31)).toInt8.toInt32).toInt8.toInt32) &&& (255 : Int32)) <<< ((8 : Int32) &&& 31)))])) _
      refine XS.iadd X5.here hx rfl (hb hby at_199) rfl ?_
      show Steps p.tables e below (T5.setTop (mkF m 200 #[.val (.int p0), .val (.int p1), .val (.int p2), .val (.int p3), .val (.int p4), .val (.int (0 : Int32)), .val (.ref b4), .val (.ref b5), .val (.int (1 : Int32)), .unset] [(.int (1 : Int32)), (.ref b5), (.int (((((p4 >>> ((8 : Int32) &&& 31)).toInt8.toInt32).toInt8.toInt32) &&& (255 : Int32)) <<< ((8 : Int32) &&& 31)))])) _
      refine X5.baloadBytes hx (j := (1 : Int32)) (v := (.int ((p4.toInt8.toInt32).toInt8.toInt32))) Ar8.1 (State.isArrayOf_alike hZ.alike Ar8.2.1) Ar8.2.2 hin8 hat8 (g := (mkF m 200 #[.val (.int p0), .val (.int p1), .val (.int p2), .val (.int p3), .val (.int p4), .val (.int (0 : Int32)), .val (.ref b4), .val (.ref b5), .val (.int (1 : Int32)), .unset] [(.int (1 : Int32)), (.ref b5), (.int (((((p4 >>> ((8 : Int32) &&& 31)).toInt8.toInt32).toInt8.toInt32) &&& (255 : Int32)) <<< ((8 : Int32) &&& 31)))])) rfl rfl (hb hby at_200) _ ?_
      show Steps p.tables e below (T5.setTop (mkF m 201 #[.val (.int p0), .val (.int p1), .val (.int p2), .val (.int p3), .val (.int p4), .val (.int (0 : Int32)), .val (.ref b4), .val (.ref b5), .val (.int (1 : Int32)), .unset] [(.int ((p4.toInt8.toInt32).toInt8.toInt32)), (.int (((((p4 >>> ((8 : Int32) &&& 31)).toInt8.toInt32).toInt8.toInt32) &&& (255 : Int32)) <<< ((8 : Int32) &&& 31)))])) _
      refine XS.sipush X5.here hx rfl (hb hby at_201) ?_
      show Steps p.tables e below (T5.setTop (mkF m 204 #[.val (.int p0), .val (.int p1), .val (.int p2), .val (.int p3), .val (.int p4), .val (.int (0 : Int32)), .val (.ref b4), .val (.ref b5), .val (.int (1 : Int32)), .unset] [(.int (255 : Int32)), (.int ((p4.toInt8.toInt32).toInt8.toInt32)), (.int (((((p4 >>> ((8 : Int32) &&& 31)).toInt8.toInt32).toInt8.toInt32) &&& (255 : Int32)) <<< ((8 : Int32) &&& 31)))])) _
      refine XS.iand X5.here hx rfl (hb hby at_204) rfl ?_
      show Steps p.tables e below (T5.setTop (mkF m 205 #[.val (.int p0), .val (.int p1), .val (.int p2), .val (.int p3), .val (.int p4), .val (.int (0 : Int32)), .val (.ref b4), .val (.ref b5), .val (.int (1 : Int32)), .unset] [(.int (((p4.toInt8.toInt32).toInt8.toInt32) &&& (255 : Int32))), (.int (((((p4 >>> ((8 : Int32) &&& 31)).toInt8.toInt32).toInt8.toInt32) &&& (255 : Int32)) <<< ((8 : Int32) &&& 31)))])) _
      refine XS.ior X5.here hx rfl (hb hby at_205) rfl ?_
      show Steps p.tables e below (T5.setTop (mkF m 206 #[.val (.int p0), .val (.int p1), .val (.int p2), .val (.int p3), .val (.int p4), .val (.int (0 : Int32)), .val (.ref b4), .val (.ref b5), .val (.int (1 : Int32)), .unset] [(.int ((((((p4 >>> ((8 : Int32) &&& 31)).toInt8.toInt32).toInt8.toInt32) &&& (255 : Int32)) <<< ((8 : Int32) &&& 31)) ||| (((p4.toInt8.toInt32).toInt8.toInt32) &&& (255 : Int32))))])) _
      refine XS.istore X5.here hx rfl (hb hby at_206) rfl (l' := #[.val (.int p0), .val (.int p1), .val (.int p2), .val (.int p3), .val (.int p4), .val (.int (0 : Int32)), .val (.ref b4), .val (.ref b5), .val (.int (1 : Int32)), .val (.int ((((((p4 >>> ((8 : Int32) &&& 31)).toInt8.toInt32).toInt8.toInt32) &&& (255 : Int32)) <<< ((8 : Int32) &&& 31)) ||| (((p4.toInt8.toInt32).toInt8.toInt32) &&& (255 : Int32))))]) rfl ?_
      show Steps p.tables e below (T5.setTop (mkF m 208 #[.val (.int p0), .val (.int p1), .val (.int p2), .val (.int p3), .val (.int p4), .val (.int (0 : Int32)), .val (.ref b4), .val (.ref b5), .val (.int (1 : Int32)), .val (.int ((((((p4 >>> ((8 : Int32) &&& 31)).toInt8.toInt32).toInt8.toInt32) &&& (255 : Int32)) <<< ((8 : Int32) &&& 31)) ||| (((p4.toInt8.toInt32).toInt8.toInt32) &&& (255 : Int32))))] [])) _
      refine XS.iload X5.here hx rfl (hb hby at_208) rfl ?_
      show Steps p.tables e below (T5.setTop (mkF m 210 #[.val (.int p0), .val (.int p1), .val (.int p2), .val (.int p3), .val (.int p4), .val (.int (0 : Int32)), .val (.ref b4), .val (.ref b5), .val (.int (1 : Int32)), .val (.int ((((((p4 >>> ((8 : Int32) &&& 31)).toInt8.toInt32).toInt8.toInt32) &&& (255 : Int32)) <<< ((8 : Int32) &&& 31)) ||| (((p4.toInt8.toInt32).toInt8.toInt32) &&& (255 : Int32))))] [(.int (1 : Int32))])) _
      refine XS.ifNo X5.here hx rfl (hb hby at_210) rfl ((if0 _ _).trans (feq (by decide : ¬ ((1 : Int32) = (0 : Int32)))).1) ?_
      show Steps p.tables e below (T5.setTop (mkF m 213 #[.val (.int p0), .val (.int p1), .val (.int p2), .val (.int p3), .val (.int p4), .val (.int (0 : Int32)), .val (.ref b4), .val (.ref b5), .val (.int (1 : Int32)), .val (.int ((((((p4 >>> ((8 : Int32) &&& 31)).toInt8.toInt32).toInt8.toInt32) &&& (255 : Int32)) <<< ((8 : Int32) &&& 31)) ||| (((p4.toInt8.toInt32).toInt8.toInt32) &&& (255 : Int32))))] [])) _
      refine XS.iload X5.here hx rfl (hb hby at_213) rfl ?_
      show Steps p.tables e below (T5.setTop (mkF m 215 #[.val (.int p0), .val (.int p1), .val (.int p2), .val (.int p3), .val (.int p4), .val (.int (0 : Int32)), .val (.ref b4), .val (.ref b5), .val (.int (1 : Int32)), .val (.int ((((((p4 >>> ((8 : Int32) &&& 31)).toInt8.toInt32).toInt8.toInt32) &&& (255 : Int32)) <<< ((8 : Int32) &&& 31)) ||| (((p4.toInt8.toInt32).toInt8.toInt32) &&& (255 : Int32))))] [(.int ((((((p4 >>> ((8 : Int32) &&& 31)).toInt8.toInt32).toInt8.toInt32) &&& (255 : Int32)) <<< ((8 : Int32) &&& 31)) ||| (((p4.toInt8.toInt32).toInt8.toInt32) &&& (255 : Int32))))])) _
      refine XS.iload X5.here hx rfl (hb hby at_215) rfl ?_
      show Steps p.tables e below (T5.setTop (mkF m 217 #[.val (.int p0), .val (.int p1), .val (.int p2), .val (.int p3), .val (.int p4), .val (.int (0 : Int32)), .val (.ref b4), .val (.ref b5), .val (.int (1 : Int32)), .val (.int ((((((p4 >>> ((8 : Int32) &&& 31)).toInt8.toInt32).toInt8.toInt32) &&& (255 : Int32)) <<< ((8 : Int32) &&& 31)) ||| (((p4.toInt8.toInt32).toInt8.toInt32) &&& (255 : Int32))))] [(.int p4), (.int ((((((p4 >>> ((8 : Int32) &&& 31)).toInt8.toInt32).toInt8.toInt32) &&& (255 : Int32)) <<< ((8 : Int32) &&& 31)) ||| (((p4.toInt8.toInt32).toInt8.toInt32) &&& (255 : Int32))))])) _
      refine X5.ldcInt hx hown (mvT hZ (hw _ (List.mem_of_getElem? (i := 9) rfl))) (g := (mkF m 217 #[.val (.int p0), .val (.int p1), .val (.int p2), .val (.int p3), .val (.int p4), .val (.int (0 : Int32)), .val (.ref b4), .val (.ref b5), .val (.int (1 : Int32)), .val (.int ((((((p4 >>> ((8 : Int32) &&& 31)).toInt8.toInt32).toInt8.toInt32) &&& (255 : Int32)) <<< ((8 : Int32) &&& 31)) ||| (((p4.toInt8.toInt32).toInt8.toInt32) &&& (255 : Int32))))] [(.int p4), (.int ((((((p4 >>> ((8 : Int32) &&& 31)).toInt8.toInt32).toInt8.toInt32) &&& (255 : Int32)) <<< ((8 : Int32) &&& 31)) ||| (((p4.toInt8.toInt32).toInt8.toInt32) &&& (255 : Int32))))])) rfl (hb hby at_217) _ ?_
      show Steps p.tables e below (T5.setTop (mkF m 219 #[.val (.int p0), .val (.int p1), .val (.int p2), .val (.int p3), .val (.int p4), .val (.int (0 : Int32)), .val (.ref b4), .val (.ref b5), .val (.int (1 : Int32)), .val (.int ((((((p4 >>> ((8 : Int32) &&& 31)).toInt8.toInt32).toInt8.toInt32) &&& (255 : Int32)) <<< ((8 : Int32) &&& 31)) ||| (((p4.toInt8.toInt32).toInt8.toInt32) &&& (255 : Int32))))] [(.int (65535 : Int32)), (.int p4), (.int ((((((p4 >>> ((8 : Int32) &&& 31)).toInt8.toInt32).toInt8.toInt32) &&& (255 : Int32)) <<< ((8 : Int32) &&& 31)) ||| (((p4.toInt8.toInt32).toInt8.toInt32) &&& (255 : Int32))))])) _
      refine XS.iand X5.here hx rfl (hb hby at_219) rfl ?_
      exact k)
    by_cases hc220_10 : ((((((p4 >>> ((8 : Int32) &&& 31)).toInt8.toInt32).toInt8.toInt32) &&& (255 : Int32)) <<< ((8 : Int32) &&& 31)) ||| (((p4.toInt8.toInt32).toInt8.toInt32) &&& (255 : Int32))) = (p4 &&& (65535 : Int32))
    · have pre11 : ∀ t, Steps p.tables e below (T5.setTop (mkF m 228 #[.val (.int p0), .val (.int p1), .val (.int p2), .val (.int p3), .val (.int p4), .val (.int (0 : Int32)), .val (.ref b4), .val (.ref b5), .val (.int (1 : Int32)), .val (.int ((((((p4 >>> ((8 : Int32) &&& 31)).toInt8.toInt32).toInt8.toInt32) &&& (255 : Int32)) <<< ((8 : Int32) &&& 31)) ||| (((p4.toInt8.toInt32).toInt8.toInt32) &&& (255 : Int32))))] [(.int (1 : Int32))])) t → Steps p.tables e below (s₁.setTop (entryFrame m #[(.int p0), (.int p1), (.int p2), (.int p3), (.int p4)] maxLocals)) t := fun t k => pre9 t (by
        show Steps p.tables e below (T5.setTop (mkF m 220 #[.val (.int p0), .val (.int p1), .val (.int p2), .val (.int p3), .val (.int p4), .val (.int (0 : Int32)), .val (.ref b4), .val (.ref b5), .val (.int (1 : Int32)), .val (.int ((((((p4 >>> ((8 : Int32) &&& 31)).toInt8.toInt32).toInt8.toInt32) &&& (255 : Int32)) <<< ((8 : Int32) &&& 31)) ||| (((p4.toInt8.toInt32).toInt8.toInt32) &&& (255 : Int32))))] [(.int (p4 &&& (65535 : Int32))), (.int ((((((p4 >>> ((8 : Int32) &&& 31)).toInt8.toInt32).toInt8.toInt32) &&& (255 : Int32)) <<< ((8 : Int32) &&& 31)) ||| (((p4.toInt8.toInt32).toInt8.toInt32) &&& (255 : Int32))))])) _
        refine XS.icmpNo X5.here hx rfl (hb hby at_220) rfl (teq hc220_10).2 ?_
        show Steps p.tables e below (T5.setTop (mkF m 223 #[.val (.int p0), .val (.int p1), .val (.int p2), .val (.int p3), .val (.int p4), .val (.int (0 : Int32)), .val (.ref b4), .val (.ref b5), .val (.int (1 : Int32)), .val (.int ((((((p4 >>> ((8 : Int32) &&& 31)).toInt8.toInt32).toInt8.toInt32) &&& (255 : Int32)) <<< ((8 : Int32) &&& 31)) ||| (((p4.toInt8.toInt32).toInt8.toInt32) &&& (255 : Int32))))] [])) _
        refine XS.iconst X5.here hx rfl (hb hby at_223) ?_
        show Steps p.tables e below (T5.setTop (mkF m 224 #[.val (.int p0), .val (.int p1), .val (.int p2), .val (.int p3), .val (.int p4), .val (.int (0 : Int32)), .val (.ref b4), .val (.ref b5), .val (.int (1 : Int32)), .val (.int ((((((p4 >>> ((8 : Int32) &&& 31)).toInt8.toInt32).toInt8.toInt32) &&& (255 : Int32)) <<< ((8 : Int32) &&& 31)) ||| (((p4.toInt8.toInt32).toInt8.toInt32) &&& (255 : Int32))))] [(.int (1 : Int32))])) _
        refine XS.goto X5.here hx rfl (pc0 := 224) (pc' := 228) rfl (hb hby at_224) (by decide) (by decide) ?_
        exact k)
      obtain ⟨fs, hr, hrun, hended, hW, hsame⟩ := X5.leave (v := some (.int (1 : Int32))) (fun h => by rw [Bd.returns] at h; cases h) hlk
      have hF : (F0 p0 p1 p2 p3 p4) = (1 : Int32) := by unfold F0; rw [if_pos hv2, if_pos hc220_10]
      exact ⟨_, _, pre11 _ (retN X5 hx (t := .boolean) Bd.returns (by simp) (hb hby at_228) hr), hrun, hended, _, _, rfl, ⟨by rw [hF], N5⟩, ⟨_, rfl⟩, hW, hsame.mono (by decide) (by decide)⟩
    have pre12 : ∀ t, Steps p.tables e below (T5.setTop (mkF m 228 #[.val (.int p0), .val (.int p1), .val (.int p2), .val (.int p3), .val (.int p4), .val (.int (0 : Int32)), .val (.ref b4), .val (.ref b5), .val (.int (1 : Int32)), .val (.int ((((((p4 >>> ((8 : Int32) &&& 31)).toInt8.toInt32).toInt8.toInt32) &&& (255 : Int32)) <<< ((8 : Int32) &&& 31)) ||| (((p4.toInt8.toInt32).toInt8.toInt32) &&& (255 : Int32))))] [(.int (0 : Int32))])) t → Steps p.tables e below (s₁.setTop (entryFrame m #[(.int p0), (.int p1), (.int p2), (.int p3), (.int p4)] maxLocals)) t := fun t k => pre9 t (by
      show Steps p.tables e below (T5.setTop (mkF m 220 #[.val (.int p0), .val (.int p1), .val (.int p2), .val (.int p3), .val (.int p4), .val (.int (0 : Int32)), .val (.ref b4), .val (.ref b5), .val (.int (1 : Int32)), .val (.int ((((((p4 >>> ((8 : Int32) &&& 31)).toInt8.toInt32).toInt8.toInt32) &&& (255 : Int32)) <<< ((8 : Int32) &&& 31)) ||| (((p4.toInt8.toInt32).toInt8.toInt32) &&& (255 : Int32))))] [(.int (p4 &&& (65535 : Int32))), (.int ((((((p4 >>> ((8 : Int32) &&& 31)).toInt8.toInt32).toInt8.toInt32) &&& (255 : Int32)) <<< ((8 : Int32) &&& 31)) ||| (((p4.toInt8.toInt32).toInt8.toInt32) &&& (255 : Int32))))])) _
      refine XS.icmpYes X5.here hx rfl (pc0 := 220) (pc' := 227) rfl (hb hby at_220) rfl (feq hc220_10).2 (by decide) (by decide) ?_
      show Steps p.tables e below (T5.setTop (mkF m 227 #[.val (.int p0), .val (.int p1), .val (.int p2), .val (.int p3), .val (.int p4), .val (.int (0 : Int32)), .val (.ref b4), .val (.ref b5), .val (.int (1 : Int32)), .val (.int ((((((p4 >>> ((8 : Int32) &&& 31)).toInt8.toInt32).toInt8.toInt32) &&& (255 : Int32)) <<< ((8 : Int32) &&& 31)) ||| (((p4.toInt8.toInt32).toInt8.toInt32) &&& (255 : Int32))))] [])) _
      refine XS.iconst X5.here hx rfl (hb hby at_227) ?_
      exact k)
    obtain ⟨fs, hr, hrun, hended, hW, hsame⟩ := X5.leave (v := some (.int (0 : Int32))) (fun h => by rw [Bd.returns] at h; cases h) hlk
    have hF : (F0 p0 p1 p2 p3 p4) = (0 : Int32) := by unfold F0; rw [if_pos hv2, if_neg hc220_10]
    exact ⟨_, _, pre12 _ (retN X5 hx (t := .boolean) Bd.returns (by simp) (hb hby at_228) hr), hrun, hended, _, _, rfl, ⟨by rw [hF], N5⟩, ⟨_, rfl⟩, hW, hsame.mono (by decide) (by decide)⟩
  by_cases hv13 : (p0 &&& (3 : Int32)) = (1 : Int32)
  · have pre14 := pre1
    rw [hv13] at pre14
    obtain ⟨T15, h15, k15, X15, e15, E15, A15, st15⟩ := newP X0 hx hZ (hw _ (List.mem_of_getElem? (i := 0) rfl)) e0 (g := (mkF m 7 #[.val (.int p0), .val (.int p1), .val (.int p2), .val (.int p3), .val (.int p4), .val (.int (1 : Int32)), .unset, .unset, .unset, .unset] [(.int (1 : Int32))])) rfl (hb hby at_7) rfl (by decide) (cap := 1) (by decide) (by decide) (by decide) (by decide)
    obtain ⟨b15, g15⟩ : ∃ z, z = h0.size := ⟨_, rfl⟩
    rw [← g15] at A15 st15
    have g_b15 : n0 ≤ b15 := Nat.le_trans Z0 (Nat.le_of_eq g15.symm)
    have Z15 : n0 ≤ h15.size := Nat.le_trans Z0 E15.1
    have V15 : Arv Z h15 b15 k15 .byte (1 : Int32) [(.int (0 : Int32))] (.int (0 : Int32)) := (Arv.new A15 (by decide)).pad (pad_rep [] (.int (0 : Int32)) 1)
    obtain ⟨cl16, Ar16, q16, S16, M16, H16, G16⟩ := id V15
    have hin16 : ¬ ((0 : Int32) < 0 ∨ cl16.slots.size ≤ ((0 : Int32)).toNatClampNeg) := inb_of S16 ⟨by decide, by decide⟩
    obtain ⟨T17, h17, X17, e17, W17, st17⟩ := stB X15 hx hZ e15 Ar16 (j := (0 : Int32)) hin16 (g := (mkF m 21 #[.val (.int p0), .val (.int p1), .val (.int p2), .val (.int p3), .val (.int p4), .val (.int (1 : Int32)), .val (.ref b15), .unset, .unset, .unset] [(.int (p1.toInt8.toInt32)), (.int (0 : Int32)), (.ref b15)])) rfl rfl (hb hby at_21)
    have Z17 : n0 ≤ h17.size := Nat.le_trans Z15 (Keep.of_wr W17).1
    have N17 := Fr.snoc X17 N0 g_b15
    have V17 : Arv Z h17 b15 k15 .byte (1 : Int32) [(.int ((p1.toInt8.toInt32).toInt8.toInt32))] (.int (0 : Int32)) := Arv.set Ar16 q16 S16 M16 H16 G16 (fits_nar_byte _) W17 0 rfl (Nat.le_of_ble_eq_true rfl)
    obtain ⟨_, _, ⟨T18, L18, k18, n18⟩, -, X18, ⟨Lc18, hQ18, l18, y18, z18⟩, st18⟩ := Jvm.LawKit.callS X17 hx (y := (⟨"com/example/cardwarden/cardwarden/core/card/StatusWord", "respond", "([BI)[B"⟩ : MethodName)) hown (mvT hZ (hw _ (List.mem_of_getElem? (i := 1) rfl))) (mvT hZ (hw _ (List.mem_of_getElem? (i := 2) rfl))) (mvT hZ (hw _ (List.mem_of_getElem? (i := 3) rfl))) (mvT hZ (hw _ (List.mem_of_getElem? (i := 4) rfl))) (by decide) (backOf (W := 0) (rm1_1 l Z a0' hw [] b15 p4 ((p1.toInt8.toInt32).toInt8.toInt32) k15 h17 n0 Z17 V17) hZ (hw _ (List.mem_of_getElem? (i := 4) rfl)) (hw _ (List.mem_of_getElem? (i := 3) rfl)) (by decide) (by decide)) (g := (mkF m 50 #[.val (.int p0), .val (.int p1), .val (.int p2), .val (.int p3), .val (.int p4), .val (.int (1 : Int32)), .val (.ref b15), .unset, .unset, .unset] [(.int p4), (.ref b15)])) rfl (by rw [hml]; rfl) (argsL := [(.ref b15), (.int p4)]) (rest := []) (lenOf pd0 rfl) rfl (by show 2 * 0 + _ ≤ _; exact Nat.le_of_eq rfl) (hb hby at_50) (fun _ _ => ⟨rfl, e17, (by decide : 1 + 1 ≤ _), (by decide : 1 + 3 ≤ _)⟩)
    dsimp only [Pt.U, Pt.locs, Pt.cells, Pt.slots] at X18 l18 y18 z18 st18 hQ18
    subst l18 y18 z18
    obtain ⟨b18, rfl, N18q, gs18, g_b18, K18, u18_0⟩ := hQ18
    have N18 := Fr.app N17 N18q
    have ne_b15_b18 : b15 ≠ b18 := Nat.ne_of_lt (Nat.lt_of_lt_of_le V17.lt gs18)
    have Z18 : n0 ≤ T18.heap.size := Nat.le_trans Z17 K18.1
    obtain ⟨kk18, u18_0⟩ := u18_0
    obtain ⟨cl19, Ar19, q19, S19, M19, H19, G19⟩ := id u18_0
    obtain ⟨cl20, Ar20, q20, S20, M20, H20, G20⟩ := id u18_0
    have hin20 : ¬ ((0 : Int32) < 0 ∨ cl20.slots.size ≤ ((0 : Int32)).toNatClampNeg) := inb_of S20 ⟨by decide, by decide⟩
    have hat20 : cl20.slots[((0 : Int32)).toNatClampNeg]? = some (.int ((p1.toInt8.toInt32).toInt8.toInt32)) := H20.at hin20 rfl
    have pre21 : ∀ t, Steps p.tables e below (T18.setTop (mkF m 91 #[.val (.int p0), .val (.int p1), .val (.int p2), .val (.int p3), .val (.int p4), .val (.int (1 : Int32)), .val (.ref b15), .val (.ref b18), .val (.int (1 : Int32)), .unset] [(.int (p1.toInt8.toInt32)), (.int ((p1.toInt8.toInt32).toInt8.toInt32))])) t → Steps p.tables e below (s₁.setTop (entryFrame m #[(.int p0), (.int p1), (.int p2), (.int p3), (.int p4)] maxLocals)) t := fun t k => pre14 t (by
      show Steps p.tables e below (s₁.setTop (mkF m 5 #[.val (.int p0), .val (.int p1), .val (.int p2), .val (.int p3), .val (.int p4), .val (.int (1 : Int32)), .unset, .unset, .unset, .unset] [])) _
      refine XS.iload X0.here hx rfl (hb hby at_5) rfl ?_
      show Steps p.tables e below (s₁.setTop (mkF m 7 #[.val (.int p0), .val (.int p1), .val (.int p2), .val (.int p3), .val (.int p4), .val (.int (1 : Int32)), .unset, .unset, .unset, .unset] [(.int (1 : Int32))])) _
      refine st15 _ ?_
      show Steps p.tables e below (T15.setTop (mkF m 9 #[.val (.int p0), .val (.int p1), .val (.int p2), .val (.int p3), .val (.int p4), .val (.int (1 : Int32)), .unset, .unset, .unset, .unset] [(.ref b15)])) _
      refine XS.astore X15.here hx rfl (hb hby at_9) rfl rfl (l' := #[.val (.int p0), .val (.int p1), .val (.int p2), .val (.int p3), .val (.int p4), .val (.int (1 : Int32)), .val (.ref b15), .unset, .unset, .unset]) rfl ?_
      show Steps p.tables e below (T15.setTop (mkF m 11 #[.val (.int p0), .val (.int p1), .val (.int p2), .val (.int p3), .val (.int p4), .val (.int (1 : Int32)), .val (.ref b15), .unset, .unset, .unset] [])) _
      refine XS.iload X15.here hx rfl (hb hby at_11) rfl ?_
      show Steps p.tables e below (T15.setTop (mkF m 13 #[.val (.int p0), .val (.int p1), .val (.int p2), .val (.int p3), .val (.int p4), .val (.int (1 : Int32)), .val (.ref b15), .unset, .unset, .unset] [(.int (1 : Int32))])) _
      refine XS.ifNo X15.here hx rfl (hb hby at_13) rfl ((if0 _ _).trans (tlt (by decide : (0 : Int32) < (1 : Int32))).2.2.2) ?_
      show Steps p.tables e below (T15.setTop (mkF m 16 #[.val (.int p0), .val (.int p1), .val (.int p2), .val (.int p3), .val (.int p4), .val (.int (1 : Int32)), .val (.ref b15), .unset, .unset, .unset] [])) _
      refine XS.aload X15.here hx rfl (hb hby at_16) rfl rfl ?_
      show Steps p.tables e below (T15.setTop (mkF m 18 #[.val (.int p0), .val (.int p1), .val (.int p2), .val (.int p3), .val (.int p4), .val (.int (1 : Int32)), .val (.ref b15), .unset, .unset, .unset] [(.ref b15)])) _
      refine XS.iconst X15.here hx rfl (hb hby at_18) ?_
      show Steps p.tables e below (T15.setTop (mkF m 19 #[.val (.int p0), .val (.int p1), .val (.int p2), .val (.int p3), .val (.int p4), .val (.int (1 : Int32)), .val (.ref b15), .unset, .unset, .unset] [(.int (0 : Int32)), (.ref b15)])) _
      refine XS.iloadN X15.here hx rfl (hb hby at_19) rfl ?_
      show Steps p.tables e below (T15.setTop (mkF m 20 #[.val (.int p0), .val (.int p1), .val (.int p2), .val (.int p3), .val (.int p4), .val (.int (1 : Int32)), .val (.ref b15), .unset, .unset, .unset] [(.int p1), (.int (0 : Int32)), (.ref b15)])) _
      refine XS.i2b X15.here hx rfl (hb hby at_20) rfl ?_
      show Steps p.tables e below (T15.setTop (mkF m 21 #[.val (.int p0), .val (.int p1), .val (.int p2), .val (.int p3), .val (.int p4), .val (.int (1 : Int32)), .val (.ref b15), .unset, .unset, .unset] [(.int (p1.toInt8.toInt32)), (.int (0 : Int32)), (.ref b15)])) _
      refine st17 _ ?_
      show Steps p.tables e below (T17.setTop (mkF m 22 #[.val (.int p0), .val (.int p1), .val (.int p2), .val (.int p3), .val (.int p4), .val (.int (1 : Int32)), .val (.ref b15), .unset, .unset, .unset] [])) _
      refine XS.iload X17.here hx rfl (hb hby at_22) rfl ?_
      show Steps p.tables e below (T17.setTop (mkF m 24 #[.val (.int p0), .val (.int p1), .val (.int p2), .val (.int p3), .val (.int p4), .val (.int (1 : Int32)), .val (.ref b15), .unset, .unset, .unset] [(.int (1 : Int32))])) _
      refine XS.iconst X17.here hx rfl (hb hby at_24) ?_
      show Steps p.tables e below (T17.setTop (mkF m 25 #[.val (.int p0), .val (.int p1), .val (.int p2), .val (.int p3), .val (.int p4), .val (.int (1 : Int32)), .val (.ref b15), .unset, .unset, .unset] [(.int (1 : Int32)), (.int (1 : Int32))])) _
      refine XS.icmpYes X17.here hx rfl (pc0 := 25) (pc' := 34) rfl (hb hby at_25) rfl (flt (by decide : ¬ ((1 : Int32) < (1 : Int32)))).2.2.2 (by decide) (by decide) ?_
      show Steps p.tables e below (T17.setTop (mkF m 34 #[.val (.int p0), .val (.int p1), .val (.int p2), .val (.int p3), .val (.int p4), .val (.int (1 : Int32)), .val (.ref b15), .unset, .unset, .unset] [])) _
      refine XS.iload X17.here hx rfl (hb hby at_34) rfl ?_
      show Steps p.tables e below (T17.setTop (mkF m 36 #[.val (.int p0), .val (.int p1), .val (.int p2), .val (.int p3), .val (.int p4), .val (.int (1 : Int32)), .val (.ref b15), .unset, .unset, .unset] [(.int (1 : Int32))])) _
      refine XS.iconst X17.here hx rfl (hb hby at_36) ?_
      show Steps p.tables e below (T17.setTop (mkF m 37 #[.val (.int p0), .val (.int p1), .val (.int p2), .val (.int p3), .val (.int p4), .val (.int (1 : Int32)), .val (.ref b15), .unset, .unset, .unset] [(.int (2 : Int32)), (.int (1 : Int32))])) _
      refine XS.icmpYes X17.here hx rfl (pc0 := 37) (pc' := 46) rfl (hb hby at_37) rfl (flt (by decide : ¬ ((2 : Int32) < (1 : Int32)))).2.2.2 (by decide) (by decide) ?_
      show Steps p.tables e below (T17.setTop (mkF m 46 #[.val (.int p0), .val (.int p1), .val (.int p2), .val (.int p3), .val (.int p4), .val (.int (1 : Int32)), .val (.ref b15), .unset, .unset, .unset] [])) _
      refine XS.aload X17.here hx rfl (hb hby at_46) rfl rfl ?_
      show Steps p.tables e below (T17.setTop (mkF m 48 #[.val (.int p0), .val (.int p1), .val (.int p2), .val (.int p3), .val (.int p4), .val (.int (1 : Int32)), .val (.ref b15), .unset, .unset, .unset] [(.ref b15)])) _
      refine XS.iload X17.here hx rfl (hb hby at_48) rfl ?_
      show Steps p.tables e below (T17.setTop (mkF m 50 #[.val (.int p0), .val (.int p1), .val (.int p2), .val (.int p3), .val (.int p4), .val (.int (1 : Int32)), .val (.ref b15), .unset, .unset, .unset] [(.int p4), (.ref b15)])) _
      refine st18 _ ?_
      show Steps p.tables e below (T18.setTop (mkF m 53 #[.val (.int p0), .val (.int p1), .val (.int p2), .val (.int p3), .val (.int p4), .val (.int (1 : Int32)), .val (.ref b15), .unset, .unset, .unset] [(.ref b18)])) _
      refine XS.astore X18.here hx rfl (hb hby at_53) rfl rfl (l' := #[.val (.int p0), .val (.int p1), .val (.int p2), .val (.int p3), .val (.int p4), .val (.int (1 : Int32)), .val (.ref b15), .val (.ref b18), .unset, .unset]) rfl ?_
      show Steps p.tables e below (T18.setTop (mkF m 55 #[.val (.int p0), .val (.int p1), .val (.int p2), .val (.int p3), .val (.int p4), .val (.int (1 : Int32)), .val (.ref b15), .val (.ref b18), .unset, .unset] [])) _
      refine XS.aload X18.here hx rfl (hb hby at_55) rfl rfl ?_
      show Steps p.tables e below (T18.setTop (mkF m 57 #[.val (.int p0), .val (.int p1), .val (.int p2), .val (.int p3), .val (.int p4), .val (.int (1 : Int32)), .val (.ref b15), .val (.ref b18), .unset, .unset] [(.ref b18)])) _
      refine XS.ifnullNo X18.here hx rfl (hb hby at_57) rfl ?_
      show Steps p.tables e below (T18.setTop (mkF m 60 #[.val (.int p0), .val (.int p1), .val (.int p2), .val (.int p3), .val (.int p4), .val (.int (1 : Int32)), .val (.ref b15), .val (.ref b18), .unset, .unset] [])) _
      refine XS.aload X18.here hx rfl (hb hby at_60) rfl rfl ?_
      show Steps p.tables e below (T18.setTop (mkF m 62 #[.val (.int p0), .val (.int p1), .val (.int p2), .val (.int p3), .val (.int p4), .val (.int (1 : Int32)), .val (.ref b15), .val (.ref b18), .unset, .unset] [(.ref b18)])) _
      refine X18.arraylength hx Ar19.1 (State.isArrayOf_alike hZ.alike Ar19.2.1) (g := (mkF m 62 #[.val (.int p0), .val (.int p1), .val (.int p2), .val (.int p3), .val (.int p4), .val (.int (1 : Int32)), .val (.ref b15), .val (.ref b18), .unset, .unset] [(.ref b18)])) rfl rfl (hb hby at_62) _ ?_
      rw [len_of S19 M19]
      show Steps p.tables e below (T18.setTop (mkF m 63 #[.val (.int p0), .val (.int p1), .val (.int p2), .val (.int p3), .val (.int p4), .val (.int (1 : Int32)), .val (.ref b15), .val (.ref b18), .unset, .unset] [(.int (3 : Int32))])) _
      refine XS.iload X18.here hx rfl (hb hby at_63) rfl ?_
      show Steps p.tables e below (T18.setTop (mkF m 65 #[.val (.int p0), .val (.int p1), .val (.int p2), .val (.int p3), .val (.int p4), .val (.int (1 : Int32)), .val (.ref b15), .val (.ref b18), .unset, .unset] [(.int (1 : Int32)), (.int (3 : Int32))])) _
      refine XS.iconst X18.here hx rfl (hb hby at_65) ?_
      show Steps p.tables e below (T18.setTop (mkF m 66 #[.val (.int p0), .val (.int p1), .val (.int p2), .val (.int p3), .val (.int p4), .val (.int (1 : Int32)), .val (.ref b15), .val (.ref b18), .unset, .unset] [(.int (2 : Int32)), (.int (1 : Int32)), (.int (3 : Int32))])) _
      refine XS.iadd X18.here hx rfl (hb hby at_66) rfl ?_
      show Steps p.tables e below (T18.setTop (mkF m 67 #[.val (.int p0), .val (.int p1), .val (.int p2), .val (.int p3), .val (.int p4), .val (.int (1 : Int32)), .val (.ref b15), .val (.ref b18), .unset, .unset] [(.int (3 : Int32)), (.int (3 : Int32))])) _
      refine XS.icmpYes X18.here hx rfl (pc0 := 67) (pc' := 72) rfl (hb hby at_67) rfl (teq (rfl : (3 : Int32) = (3 : Int32))).1 (by decide) (by decide) ?_
      show Steps p.tables e below (T18.setTop (mkF m 72 #[.val (.int p0), .val (.int p1), .val (.int p2), .val (.int p3), .val (.int p4), .val (.int (1 : Int32)), .val (.ref b15), .val (.ref b18), .unset, .unset] [])) _
      refine XS.iconst X18.here hx rfl (hb hby at_72) ?_
      show Steps p.tables e below (T18.setTop (mkF m 73 #[.val (.int p0), .val (.int p1), .val (.int p2), .val (.int p3), .val (.int p4), .val (.int (1 : Int32)), .val (.ref b15), .val (.ref b18), .unset, .unset] [(.int (1 : Int32))])) _
      refine XS.istore X18.here hx rfl (hb hby at_73) rfl (l' := #[.val (.int p0), .val (.int p1), .val (.int p2), .val (.int p3), .val (.int p4), .val (.int (1 : Int32)), .val (.ref b15), .val (.ref b18), .val (.int (1 : Int32)), .unset]) rfl ?_
      show Steps p.tables e below (T18.setTop (mkF m 75 #[.val (.int p0), .val (.int p1), .val (.int p2), .val (.int p3), .val (.int p4), .val (.int (1 : Int32)), .val (.ref b15), .val (.ref b18), .val (.int (1 : Int32)), .unset] [])) _
      refine XS.iload X18.here hx rfl (hb hby at_75) rfl ?_
      show Steps p.tables e below (T18.setTop (mkF m 77 #[.val (.int p0), .val (.int p1), .val (.int p2), .val (.int p3), .val (.int p4), .val (.int (1 : Int32)), .val (.ref b15), .val (.ref b18), .val (.int (1 : Int32)), .unset] [(.int (1 : Int32))])) _
      refine XS.ifNo X18.here hx rfl (hb hby at_77) rfl ((if0 _ _).trans (tlt (by decide : (0 : Int32) < (1 : Int32))).2.2.2) ?_
      show Steps p.tables e below (T18.setTop (mkF m 80 #[.val (.int p0), .val (.int p1), .val (.int p2), .val (.int p3), .val (.int p4), .val (.int (1 : Int32)), .val (.ref b15), .val (.ref b18), .val (.int (1 : Int32)), .unset] [])) _
      refine XS.iload X18.here hx rfl (hb hby at_80) rfl ?_
      show Steps p.tables e below (T18.setTop (mkF m 82 #[.val (.int p0), .val (.int p1), .val (.int p2), .val (.int p3), .val (.int p4), .val (.int (1 : Int32)), .val (.ref b15), .val (.ref b18), .val (.int (1 : Int32)), .unset] [(.int (1 : Int32))])) _
      refine XS.ifNo X18.here hx rfl (hb hby at_82) rfl ((if0 _ _).trans (feq (by decide : ¬ ((1 : Int32) = (0 : Int32)))).1) ?_
      show Steps p.tables e below (T18.setTop (mkF m 85 #[.val (.int p0), .val (.int p1), .val (.int p2), .val (.int p3), .val (.int p4), .val (.int (1 : Int32)), .val (.ref b15), .val (.ref b18), .val (.int (1 : Int32)), .unset] [])) _
      refine XS.aload X18.here hx rfl (hb hby at_85) rfl rfl ?_
      show Steps p.tables e below (T18.setTop (mkF m 87 #[.val (.int p0), .val (.int p1), .val (.int p2), .val (.int p3), .val (.int p4), .val (.int (1 : Int32)), .val (.ref b15), .val (.ref b18), .val (.int (1 : Int32)), .unset] [(.ref b18)])) _
      refine XS.iconst X18.here hx rfl (hb hby at_87) ?_
      show Steps p.tables e below (T18.setTop (mkF m 88 #[.val (.int p0), .val (.int p1), .val (.int p2), .val (.int p3), .val (.int p4), .val (.int (1 : Int32)), .val (.ref b15), .val (.ref b18), .val (.int (1 : Int32)), .unset] [(.int (0 : Int32)), (.ref b18)])) _
      refine X18.baloadBytes hx (j := (0 : Int32)) (v := (.int ((p1.toInt8.toInt32).toInt8.toInt32))) Ar20.1 (State.isArrayOf_alike hZ.alike Ar20.2.1) Ar20.2.2 hin20 hat20 (g := (mkF m 88 #[.val (.int p0), .val (.int p1), .val (.int p2), .val (.int p3), .val (.int p4), .val (.int (1 : Int32)), .val (.ref b15), .val (.ref b18), .val (.int (1 : Int32)), .unset] [(.int (0 : Int32)), (.ref b18)])) rfl rfl (hb hby at_88) _ ?_
      show Steps p.tables e below (T18.setTop (mkF m 89 #[.val (.int p0), .val (.int p1), .val (.int p2), .val (.int p3), .val (.int p4), .val (.int (1 : Int32)), .val (.ref b15), .val (.ref b18), .val (.int (1 : Int32)), .unset] [(.int ((p1.toInt8.toInt32).toInt8.toInt32))])) _
      refine XS.iloadN X18.here hx rfl (hb hby at_89) rfl ?_
      show Steps p.tables e below (T18.setTop (mkF m 90 #[.val (.int p0), .val (.int p1), .val (.int p2), .val (.int p3), .val (.int p4), .val (.int (1 : Int32)), .val (.ref b15), .val (.ref b18), .val (.int (1 : Int32)), .unset] [(.int p1), (.int ((p1.toInt8.toInt32).toInt8.toInt32))])) _
      refine XS.i2b X18.here hx rfl (hb hby at_90) rfl ?_
      exact k)
    obtain ⟨T22, L22, X22, e22, N22, pre22⟩ : ∃ (T' : State) (locs' : List Loc), Stand p l e room_1 s m #[(.int p0), (.int p1), (.int p2), (.int p3), (.int p4)] below meth c T' locs' 2 4 ∧ T'.heap = T18.heap ∧ Fr n0 locs' ∧ ∀ t, Steps p.tables e below (T'.setTop (mkF m 108 #[.val (.int p0), .val (.int p1), .val (.int p2), .val (.int p3), .val (.int p4), .val (.int (1 : Int32)), .val (.ref b15), .val (.ref b18), .val (.int (1 : Int32)), .unset] [(.int (f0_m27 p0 p1 p2 p3 p4))])) t → Steps p.tables e below (s₁.setTop (entryFrame m #[(.int p0), (.int p1), (.int p2), (.int p3), (.int p4)] maxLocals)) t := by
      by_cases hc91_22 : ((p1.toInt8.toInt32).toInt8.toInt32) = (p1.toInt8.toInt32)
      · have y23 := (V17.keep K18 nin0)
        obtain ⟨cl24, Ar24, q24, S24, M24, H24, G24⟩ := id y23
        have hin24 : ¬ ((0 : Int32) < 0 ∨ cl24.slots.size ≤ ((0 : Int32)).toNatClampNeg) := inb_of S24 ⟨by decide, by decide⟩
        have hat24 : cl24.slots[((0 : Int32)).toNatClampNeg]? = some (.int ((p1.toInt8.toInt32).toInt8.toInt32)) := H24.at hin24 rfl
        have pre25 : ∀ t, Steps p.tables e below (T18.setTop (mkF m 108 #[.val (.int p0), .val (.int p1), .val (.int p2), .val (.int p3), .val (.int p4), .val (.int (1 : Int32)), .val (.ref b15), .val (.ref b18), .val (.int (1 : Int32)), .unset] [(.int (1 : Int32))])) t → Steps p.tables e below (s₁.setTop (entryFrame m #[(.int p0), (.int p1), (.int p2), (.int p3), (.int p4)] maxLocals)) t := fun t k => pre21 t (by
          show Steps p.tables e below (T18.setTop (mkF m 91 #[.val (.int p0), .val (.int p1), .val (.int p2), .val (.int p3), .val (.int p4), .val (.int (1 : Int32)), .val (.ref b15), .val (.ref b18), .val (.int (1 : Int32)), .unset] [(.int (p1.toInt8.toInt32)), (.int ((p1.toInt8.toInt32).toInt8.toInt32))])) _
          refine XS.icmpNo X18.here hx rfl (hb hby at_91) rfl (teq hc91_22).2 ?_
          show Steps p.tables e below (T18.setTop (mkF m 94 #[.val (.int p0), .val (.int p1), .val (.int p2), .val (.int p3), .val (.int p4), .val (.int (1 : Int32)), .val (.ref b15), .val (.ref b18), .val (.int (1 : Int32)), .unset] [])) _
          refine XS.aload X18.here hx rfl (hb hby at_94) rfl rfl ?_
          show Steps p.tables e below (T18.setTop (mkF m 96 #[.val (.int p0), .val (.int p1), .val (.int p2), .val (.int p3), .val (.int p4), .val (.int (1 : Int32)), .val (.ref b15), .val (.ref b18), .val (.int (1 : Int32)), .unset] [(.ref b15)])) _
          refine XS.iconst X18.here hx rfl (hb hby at_96) ?_
          show Steps p.tables e below (T18.setTop (mkF m 97 #[.val (.int p0), .val (.int p1), .val (.int p2), .val (.int p3), .val (.int p4), .val (.int (1 : Int32)), .val (.ref b15), .val (.ref b18), .val (.int (1 : Int32)), .unset] [(.int (0 : Int32)), (.ref b15)])) _
          refine X18.baloadBytes hx (j := (0 : Int32)) (v := (.int ((p1.toInt8.toInt32).toInt8.toInt32))) Ar24.1 (State.isArrayOf_alike hZ.alike Ar24.2.1) Ar24.2.2 hin24 hat24 (g := (mkF m 97 #[.val (.int p0), .val (.int p1), .val (.int p2), .val (.int p3), .val (.int p4), .val (.int (1 : Int32)), .val (.ref b15), .val (.ref b18), .val (.int (1 : Int32)), .unset] [(.int (0 : Int32)), (.ref b15)])) rfl rfl (hb hby at_97) _ ?_
          show Steps p.tables e below (T18.setTop (mkF m 98 #[.val (.int p0), .val (.int p1), .val (.int p2), .val (.int p3), .val (.int p4), .val (.int (1 : Int32)), .val (.ref b15), .val (.ref b18), .val (.int (1 : Int32)), .unset] [(.int ((p1.toInt8.toInt32).toInt8.toInt32))])) _
          refine XS.iloadN X18.here hx rfl (hb hby at_98) rfl ?_
          show Steps p.tables e below (T18.setTop (mkF m 99 #[.val (.int p0), .val (.int p1), .val (.int p2), .val (.int p3), .val (.int p4), .val (.int (1 : Int32)), .val (.ref b15), .val (.ref b18), .val (.int (1 : Int32)), .unset] [(.int p1), (.int ((p1.toInt8.toInt32).toInt8.toInt32))])) _
          refine XS.i2b X18.here hx rfl (hb hby at_99) rfl ?_
          show Steps p.tables e below (T18.setTop (mkF m 100 #[.val (.int p0), .val (.int p1), .val (.int p2), .val (.int p3), .val (.int p4), .val (.int (1 : Int32)), .val (.ref b15), .val (.ref b18), .val (.int (1 : Int32)), .unset] [(.int (p1.toInt8.toInt32)), (.int ((p1.toInt8.toInt32).toInt8.toInt32))])) _
          refine XS.icmpNo X18.here hx rfl (hb hby at_100) rfl (teq hc91_22).2 ?_
          show Steps p.tables e below (T18.setTop (mkF m 103 #[.val (.int p0), .val (.int p1), .val (.int p2), .val (.int p3), .val (.int p4), .val (.int (1 : Int32)), .val (.ref b15), .val (.ref b18), .val (.int (1 : Int32)), .unset] [])) _
          refine XS.iconst X18.here hx rfl (hb hby at_103) ?_
          show Steps p.tables e below (T18.setTop (mkF m 104 #[.val (.int p0), .val (.int p1), .val (.int p2), .val (.int p3), .val (.int p4), .val (.int (1 : Int32)), .val (.ref b15), .val (.ref b18), .val (.int (1 : Int32)), .unset] [(.int (1 : Int32))])) _
          refine XS.goto X18.here hx rfl (pc0 := 104) (pc' := 108) rfl (hb hby at_104) (by decide) (by decide) ?_
          exact k)
        have q_f0_m27 : f0_m27 p0 p1 p2 p3 p4 = (1 : Int32) := by unfold f0_m27; rw [if_pos hc91_22]
        rw [q_f0_m27]
        exact ⟨T18, _, X18, rfl, N18, pre25⟩
      have pre26 : ∀ t, Steps p.tables e below (T18.setTop (mkF m 108 #[.val (.int p0), .val (.int p1), .val (.int p2), .val (.int p3), .val (.int p4), .val (.int (1 : Int32)), .val (.ref b15), .val (.ref b18), .val (.int (1 : Int32)), .unset] [(.int (0 : Int32))])) t → Steps p.tables e below (s₁.setTop (entryFrame m #[(.int p0), (.int p1), (.int p2), (.int p3), (.int p4)] maxLocals)) t := fun t k => pre21 t (by
        show Steps p.tables e below (T18.setTop (mkF m 91 #[.val (.int p0), .val (.int p1), .val (.int p2), .val (.int p3), .val (.int p4), .val (.int (1 : Int32)), .val (.ref b15), .val (.ref b18), .val (.int (1 : Int32)), .unset] [(.int (p1.toInt8.toInt32)), (.int ((p1.toInt8.toInt32).toInt8.toInt32))])) _
        refine XS.icmpYes X18.here hx rfl (pc0 := 91) (pc' := 107) rfl (hb hby at_91) rfl (feq hc91_22).2 (by decide) (by decide) ?_
        show Steps p.tables e below (T18.setTop (mkF m 107 #[.val (.int p0), .val (.int p1), .val (.int p2), .val (.int p3), .val (.int p4), .val (.int (1 : Int32)), .val (.ref b15), .val (.ref b18), .val (.int (1 : Int32)), .unset] [])) _
        refine XS.iconst X18.here hx rfl (hb hby at_107) ?_
        exact k)
      have q_f0_m27 : f0_m27 p0 p1 p2 p3 p4 = (0 : Int32) := by unfold f0_m27; rw [if_neg hc91_22]
      rw [q_f0_m27]
      exact ⟨T18, _, X18, rfl, N18, pre26⟩
    obtain ⟨cl28, Ar28, q28, S28, M28, H28, G28⟩ := id u18_0
    have hin28 : ¬ ((1 : Int32) < 0 ∨ cl28.slots.size ≤ ((1 : Int32)).toNatClampNeg) := inb_of S28 ⟨by decide, by decide⟩
    have hat28 : cl28.slots[((1 : Int32)).toNatClampNeg]? = some (.int (((p4 >>> ((8 : Int32) &&& 31)).toInt8.toInt32).toInt8.toInt32)) := H28.at hin28 rfl
    obtain ⟨cl29, Ar29, q29, S29, M29, H29, G29⟩ := id u18_0
    have hin29 : ¬ ((2 : Int32) < 0 ∨ cl29.slots.size ≤ ((2 : Int32)).toNatClampNeg) := inb_of S29 ⟨by decide, by decide⟩
    have hat29 : cl29.slots[((2 : Int32)).toNatClampNeg]? = some (.int ((p4.toInt8.toInt32).toInt8.toInt32)) := H29.at hin29 rfl
    have pre30 : ∀ t, Steps p.tables e below (T22.setTop (mkF m 210 #[.val (.int p0), .val (.int p1), .val (.int p2), .val (.int p3), .val (.int p4), .val (.int (1 : Int32)), .val (.ref b15), .val (.ref b18), .val (.int (f0_m27 p0 p1 p2 p3 p4)), .val (.int ((((((p4 >>> ((8 : Int32) &&& 31)).toInt8.toInt32).toInt8.toInt32) &&& (255 : Int32)) <<< ((8 : Int32) &&& 31)) ||| (((p4.toInt8.toInt32).toInt8.toInt32) &&& (255 : Int32))))] [(.int (f0_m27 p0 p1 p2 p3 p4))])) t → Steps p.tables e below (s₁.setTop (entryFrame m #[(.int p0), (.int p1), (.int p2), (.int p3), (.int p4)] maxLocals)) t := fun t k => pre22 t (by
      show Steps p.tables e below (T22.setTop (mkF m 108 #[.val (.int p0), .val (.int p1), .val (.int p2), .val (.int p3), .val (.int p4), .val (.int (1 : Int32)), .val (.ref b15), .val (.ref b18), .val (.int (1 : Int32)), .unset] [(.int (f0_m27 p0 p1 p2 p3 p4))])) _
      refine XS.istore X22.here hx rfl (hb hby at_108) rfl (l' := #[.val (.int p0), .val (.int p1), .val (.int p2), .val (.int p3), .val (.int p4), .val (.int (1 : Int32)), .val (.ref b15), .val (.ref b18), .val (.int (f0_m27 p0 p1 p2 p3 p4)), .unset]) rfl ?_
      show Steps p.tables e below (T22.setTop (mkF m 110 #[.val (.int p0), .val (.int p1), .val (.int p2), .val (.int p3), .val (.int p4), .val (.int (1 : Int32)), .val (.ref b15), .val (.ref b18), .val (.int (f0_m27 p0 p1 p2 p3 p4)), .unset] [])) _
      refine XS.iload X22.here hx rfl (hb hby at_110) rfl ?_
      show Steps p.tables e below (T22.setTop (mkF m 112 #[.val (.int p0), .val (.int p1), .val (.int p2), .val (.int p3), .val (.int p4), .val (.int (1 : Int32)), .val (.ref b15), .val (.ref b18), .val (.int (f0_m27 p0 p1 p2 p3 p4)), .unset] [(.int (1 : Int32))])) _
      refine XS.iconst X22.here hx rfl (hb hby at_112) ?_
      show Steps p.tables e below (T22.setTop (mkF m 113 #[.val (.int p0), .val (.int p1), .val (.int p2), .val (.int p3), .val (.int p4), .val (.int (1 : Int32)), .val (.ref b15), .val (.ref b18), .val (.int (f0_m27 p0 p1 p2 p3 p4)), .unset] [(.int (1 : Int32)), (.int (1 : Int32))])) _
      refine XS.icmpYes X22.here hx rfl (pc0 := 113) (pc' := 146) rfl (hb hby at_113) rfl (flt (by decide : ¬ ((1 : Int32) < (1 : Int32)))).2.2.2 (by decide) (by decide) ?_
      show Steps p.tables e below (T22.setTop (mkF m 146 #[.val (.int p0), .val (.int p1), .val (.int p2), .val (.int p3), .val (.int p4), .val (.int (1 : Int32)), .val (.ref b15), .val (.ref b18), .val (.int (f0_m27 p0 p1 p2 p3 p4)), .unset] [])) _
      refine XS.iload X22.here hx rfl (hb hby at_146) rfl ?_
      show Steps p.tables e below (T22.setTop (mkF m 148 #[.val (.int p0), .val (.int p1), .val (.int p2), .val (.int p3), .val (.int p4), .val (.int (1 : Int32)), .val (.ref b15), .val (.ref b18), .val (.int (f0_m27 p0 p1 p2 p3 p4)), .unset] [(.int (1 : Int32))])) _
      refine XS.iconst X22.here hx rfl (hb hby at_148) ?_
      show Steps p.tables e below (T22.setTop (mkF m 149 #[.val (.int p0), .val (.int p1), .val (.int p2), .val (.int p3), .val (.int p4), .val (.int (1 : Int32)), .val (.ref b15), .val (.ref b18), .val (.int (f0_m27 p0 p1 p2 p3 p4)), .unset] [(.int (2 : Int32)), (.int (1 : Int32))])) _
      refine XS.icmpYes X22.here hx rfl (pc0 := 149) (pc' := 182) rfl (hb hby at_149) rfl (flt (by decide : ¬ ((2 : Int32) < (1 : Int32)))).2.2.2 (by decide) (by decide) ?_
      show Steps p.tables e below (T22.setTop (mkF m 182 #[.val (.int p0), .val (.int p1), .val (.int p2), .val (.int p3), .val (.int p4), .val (.int (1 : Int32)), .val (.ref b15), .val (.ref b18), .val (.int (f0_m27 p0 p1 p2 p3 p4)), .unset] [])) _
      refine XS.aload X22.here hx rfl (hb hby at_182) rfl rfl ?_
      show Steps p.tables e below (T22.setTop (mkF m 184 #[.val (.int p0), .val (.int p1), .val (.int p2), .val (.int p3), .val (.int p4), .val (.int (1 : Int32)), .val (.ref b15), .val (.ref b18), .val (.int (f0_m27 p0 p1 p2 p3 p4)), .unset] [(.ref b18)])) _
      refine XS.iload X22.here hx rfl (hb hby at_184) rfl ?_
      show Steps p.tables e below (T22.setTop (mkF m 186 #[.val (.int p0), .val (.int p1), .val (.int p2), .val (.int p3), .val (.int p4), .val (.int (1 : Int32)), .val (.ref b15), .val (.ref b18), .val (.int (f0_m27 p0 p1 p2 p3 p4)), .unset] [(.int (1 : Int32)), (.ref b18)])) _
      refine X22.baloadBytes hx (j := (1 : Int32)) (v := (.int (((p4 >>> ((8 : Int32) &&& 31)).toInt8.toInt32).toInt8.toInt32))) (by rw [e22]; exact Ar28.1) (State.isArrayOf_alike hZ.alike Ar28.2.1) Ar28.2.2 hin28 hat28 (g := (mkF m 186 #[.val (.int p0), .val (.int p1), .val (.int p2), .val (.int p3), .val (.int p4), .val (.int (1 : Int32)), .val (.ref b15), .val (.ref b18), .val (.int (f0_m27 p0 p1 p2 p3 p4)), .unset] [(.int (1 : Int32)), (.ref b18)])) rfl rfl (hb hby at_186) _ ?_
      show Steps p.tables e below (T22.setTop (mkF m 187 #[.val (.int p0), .val (.int p1), .val (.int p2), .val (.int p3), .val (.int p4), .val (.int (1 : Int32)), .val (.ref b15), .val (.ref b18), .val (.int (f0_m27 p0 p1 p2 p3 p4)), .unset] [(.int (((p4 >>> ((8 : Int32) &&& 31)).toInt8.toInt32).toInt8.toInt32))])) _
      refine XS.sipush X22.here hx rfl (hb hby at_187) ?_
      show Steps p.tables e below (T22.setTop (mkF m 190 #[.val (.int p0), .val (.int p1), .val (.int p2), .val (.int p3), .val (.int p4), .val (.int (1 : Int32)), .val (.ref b15), .val (.ref b18), .val (.int (f0_m27 p0 p1 p2 p3 p4)), .unset] [(.int (255 : Int32)), (.int (((p4 >>> ((8 : Int32) &&& 31)).toInt8.toInt32).toInt8.toInt32))])) _
      refine XS.iand X22.here hx rfl (hb hby at_190) rfl ?_
      show Steps p.tables e below (T22.setTop (mkF m 191 #[.val (.int p0), .val (.int p1), .val (.int p2), .val (.int p3), .val (.int p4), .val (.int (1 : Int32)), .val (.ref b15), .val (.ref b18), .val (.int (f0_m27 p0 p1 p2 p3 p4)), .unset] [(.int ((((p4 >>> ((8 : Int32) &&& 31)).toInt8.toInt32).toInt8.toInt32) &&& (255 : Int32)))])) _
      refine XS.bipush X22.here hx rfl (hb hby at_191) ?_
      show Steps p.tables e below (T22.setTop (mkF m 193 #[.val (.int p0), .val (.int p1), .val (.int p2), .val (.int p3), .val (.int p4), .val (.int (1 : Int32)), .val (.ref b15), .val (.ref b18), .val (.int (f0_m27 p0 p1 p2 p3 p4)), .unset] [(.int (8 : Int32)), (.int ((((p4 >>> ((8 : Int32) &&& 31)).toInt8.toInt32).toInt8.toInt32) &&& (255 : Int32)))])) _
      refine XS.ishl X22.here hx rfl (hb hby at_193) rfl ?_
      show Steps p.tables e below (T22.setTop (mkF m 194 #[.val (.int p0), .val (.int p1), .val (.int p2), .val (.int p3), .val (.int p4), .val (.int (1 : Int32)), .val (.ref b15), .val (.ref b18), .val (.int (f0_m27 p0 p1 p2 p3 p4)), .unset] [(.int (((((p4 >>> ((8 : Int32) &&& 31)).toInt8.toInt32).toInt8.toInt32) &&& (255 : Int32)) <<< ((8 : Int32) &&& 31)))])) _
      refine XS.aload X22.here hx rfl (hb hby at_194) rfl rfl ?_
      show Steps p.tables e below (T22.setTop (mkF m 196 #[.val (.int p0), .val (.int p1), .val (.int p2), .val (.int p3), .val (.int p4), .val (.int (1 : Int32)), .val (.ref b15), .val (.ref b18), .val (.int (f0_m27 p0 p1 p2 p3 p4)), .unset] [(.ref b18), (.int (((((p4 >>> ((8 : Int32) &&& 31)).toInt8.toInt32).toInt8.toInt32) &&& (255 : Int32)) <<< ((8 : Int32) &&& 31)))])) _
      refine XS.iload X22.here hx rfl (hb hby at_196) rfl ?_
      show Steps p.tables e below (T22.setTop (mkF m 198 #[.val (.int p0), .val (.int p1), .val (.int p2), .val (.int p3), .val (.int p4), .val (.int (1 : Int32)), .val (.ref b15), .val (.ref b18), .val (.int (f0_m27 p0 p1 p2 p3 p4)), .unset] [(.int (1 : Int32)), (.ref b18), (.int (((((p4 >>> ((8 : Int32) &&& 31)).toInt8.toInt32).toInt8.toInt32) &&& (255 : Int32)) <<< ((8 : Int32) &&& 31)))])) _
      refine XS.iconst X22.here hx rfl (hb hby at_198) ?_
      show Steps p.tables e below (T22.setTop (mkF m 199 #[.val (.int p0), .val (.int p1), .val (.int p2), .val (.int p3), .val (.int p4), .val (.int (1 : Int32)), .val (.ref b15), .val (.ref b18), .val (.int (f0_m27 p0 p1 p2 p3 p4)), .unset] [(.int (1 : Int32)), (.int (1 : Int32)), (.ref b18), (.int (((((p4 >>> ((8 : Int32) &&& 31)).toInt8.toInt32).toInt8.toInt32) &&& (255 : Int32)) <<< ((8 : Int32) &&& 31)))])) _
      refine XS.iadd X22.here hx rfl (hb hby at_199) rfl ?_
      show Steps p.tables e below (T22.setTop (mkF m 200 #[.val (.int p0), .val (.int p1), .val (.int p2), .val (.int p3), .val (.int p4), .val (.int (1 : Int32)), .val (.ref b15), .val (.ref b18), .val (.int (f0_m27 p0 p1 p2 p3 p4)), .unset] [(.int (2 : Int32)), (.ref b18), (.int (((((p4 >>> ((8 : Int32) &&& 31)).toInt8.toInt32).toInt8.toInt32) &&& (255 : Int32)) <<< ((8 : Int32) &&& 31)))])) _
      refine X22.baloadBytes hx (j := (2 : Int32)) (v := (.int ((p4.toInt8.toInt32).toInt8.toInt32))) (by rw [e22]; exact Ar29.1) (State.isArrayOf_alike hZ.alike Ar29.2.1) Ar29.2.2 hin29 hat29 (g := (mkF m 200 #[.val (.int p0), .val (.int p1), .val (.int p2), .val (.int p3), .val (.int p4), .val (.int (1 : Int32)), .val (.ref b15), .val (.ref b18), .val (.int (f0_m27 p0 p1 p2 p3 p4)), .unset] [(.int (2 : Int32)), (.ref b18), (.int (((((p4 >>> ((8 : Int32) &&& 31)).toInt8.toInt32).toInt8.toInt32) &&& (255 : Int32)) <<< ((8 : Int32) &&& 31)))])) rfl rfl (hb hby at_200) _ ?_
      show Steps p.tables e below (T22.setTop (mkF m 201 #[.val (.int p0), .val (.int p1), .val (.int p2), .val (.int p3), .val (.int p4), .val (.int (1 : Int32)), .val (.ref b15), .val (.ref b18), .val (.int (f0_m27 p0 p1 p2 p3 p4)), .unset] [(.int ((p4.toInt8.toInt32).toInt8.toInt32)), (.int (((((p4 >>> ((8 : Int32) &&& 31)).toInt8.toInt32).toInt8.toInt32) &&& (255 : Int32)) <<< ((8 : Int32) &&& 31)))])) _
      refine XS.sipush X22.here hx rfl (hb hby at_201) ?_
      show Steps p.tables e below (T22.setTop (mkF m 204 #[.val (.int p0), .val (.int p1), .val (.int p2), .val (.int p3), .val (.int p4), .val (.int (1 : Int32)), .val (.ref b15), .val (.ref b18), .val (.int (f0_m27 p0 p1 p2 p3 p4)), .unset] [(.int (255 : Int32)), (.int ((p4.toInt8.toInt32).toInt8.toInt32)), (.int (((((p4 >>> ((8 : Int32) &&& 31)).toInt8.toInt32).toInt8.toInt32) &&& (255 : Int32)) <<< ((8 : Int32) &&& 31)))])) _
      refine XS.iand X22.here hx rfl (hb hby at_204) rfl ?_
      show Steps p.tables e below (T22.setTop (mkF m 205 #[.val (.int p0), .val (.int p1), .val (.int p2), .val (.int p3), .val (.int p4), .val (.int (1 : Int32)), .val (.ref b15), .val (.ref b18), .val (.int (f0_m27 p0 p1 p2 p3 p4)), .unset] [(.int (((p4.toInt8.toInt32).toInt8.toInt32) &&& (255 : Int32))), (.int (((((p4 >>> ((8 : Int32) &&& 31)).toInt8.toInt32).toInt8.toInt32) &&& (255 : Int32)) <<< ((8 : Int32) &&& 31)))])) _
      refine XS.ior X22.here hx rfl (hb hby at_205) rfl ?_
      show Steps p.tables e below (T22.setTop (mkF m 206 #[.val (.int p0), .val (.int p1), .val (.int p2), .val (.int p3), .val (.int p4), .val (.int (1 : Int32)), .val (.ref b15), .val (.ref b18), .val (.int (f0_m27 p0 p1 p2 p3 p4)), .unset] [(.int ((((((p4 >>> ((8 : Int32) &&& 31)).toInt8.toInt32).toInt8.toInt32) &&& (255 : Int32)) <<< ((8 : Int32) &&& 31)) ||| (((p4.toInt8.toInt32).toInt8.toInt32) &&& (255 : Int32))))])) _
      refine XS.istore X22.here hx rfl (hb hby at_206) rfl (l' := #[.val (.int p0), .val (.int p1), .val (.int p2), .val (.int p3), .val (.int p4), .val (.int (1 : Int32)), .val (.ref b15), .val (.ref b18), .val (.int (f0_m27 p0 p1 p2 p3 p4)), .val (.int ((((((p4 >>> ((8 : Int32) &&& 31)).toInt8.toInt32).toInt8.toInt32) &&& (255 : Int32)) <<< ((8 : Int32) &&& 31)) ||| (((p4.toInt8.toInt32).toInt8.toInt32) &&& (255 : Int32))))]) rfl ?_
      show Steps p.tables e below (T22.setTop (mkF m 208 #[.val (.int p0), .val (.int p1), .val (.int p2), .val (.int p3), .val (.int p4), .val (.int (1 : Int32)), .val (.ref b15), .val (.ref b18), .val (.int (f0_m27 p0 p1 p2 p3 p4)), .val (.int ((((((p4 >>> ((8 : Int32) &&& 31)).toInt8.toInt32).toInt8.toInt32) &&& (255 : Int32)) <<< ((8 : Int32) &&& 31)) ||| (((p4.toInt8.toInt32).toInt8.toInt32) &&& (255 : Int32))))] [])) _
      refine XS.iload X22.here hx rfl (hb hby at_208) rfl ?_
      exact k)
    by_cases hc210_31 : (f0_m27 p0 p1 p2 p3 p4) = (0 : Int32)
    · have pre32 : ∀ t, Steps p.tables e below (T22.setTop (mkF m 228 #[.val (.int p0), .val (.int p1), .val (.int p2), .val (.int p3), .val (.int p4), .val (.int (1 : Int32)), .val (.ref b15), .val (.ref b18), .val (.int (f0_m27 p0 p1 p2 p3 p4)), .val (.int ((((((p4 >>> ((8 : Int32) &&& 31)).toInt8.toInt32).toInt8.toInt32) &&& (255 : Int32)) <<< ((8 : Int32) &&& 31)) ||| (((p4.toInt8.toInt32).toInt8.toInt32) &&& (255 : Int32))))] [(.int (0 : Int32))])) t → Steps p.tables e below (s₁.setTop (entryFrame m #[(.int p0), (.int p1), (.int p2), (.int p3), (.int p4)] maxLocals)) t := fun t k => pre30 t (by
        show Steps p.tables e below (T22.setTop (mkF m 210 #[.val (.int p0), .val (.int p1), .val (.int p2), .val (.int p3), .val (.int p4), .val (.int (1 : Int32)), .val (.ref b15), .val (.ref b18), .val (.int (f0_m27 p0 p1 p2 p3 p4)), .val (.int ((((((p4 >>> ((8 : Int32) &&& 31)).toInt8.toInt32).toInt8.toInt32) &&& (255 : Int32)) <<< ((8 : Int32) &&& 31)) ||| (((p4.toInt8.toInt32).toInt8.toInt32) &&& (255 : Int32))))] [(.int (f0_m27 p0 p1 p2 p3 p4))])) _
        refine XS.ifYes X22.here hx rfl (pc0 := 210) (pc' := 227) rfl (hb hby at_210) rfl ((if0 _ _).trans (teq hc210_31).1) (by decide) (by decide) ?_
        show Steps p.tables e below (T22.setTop (mkF m 227 #[.val (.int p0), .val (.int p1), .val (.int p2), .val (.int p3), .val (.int p4), .val (.int (1 : Int32)), .val (.ref b15), .val (.ref b18), .val (.int (f0_m27 p0 p1 p2 p3 p4)), .val (.int ((((((p4 >>> ((8 : Int32) &&& 31)).toInt8.toInt32).toInt8.toInt32) &&& (255 : Int32)) <<< ((8 : Int32) &&& 31)) ||| (((p4.toInt8.toInt32).toInt8.toInt32) &&& (255 : Int32))))] [])) _
        refine XS.iconst X22.here hx rfl (hb hby at_227) ?_
        exact k)
      obtain ⟨fs, hr, hrun, hended, hW, hsame⟩ := X22.leave (v := some (.int (0 : Int32))) (fun h => by rw [Bd.returns] at h; cases h) hlk
      have hF : (F0 p0 p1 p2 p3 p4) = (0 : Int32) := by unfold F0; rw [if_neg hv2, if_pos hv13, if_pos hc210_31]
      exact ⟨_, _, pre32 _ (retN X22 hx (t := .boolean) Bd.returns (by simp) (hb hby at_228) hr), hrun, hended, _, _, rfl, ⟨by rw [hF], N22⟩, ⟨_, rfl⟩, hW, hsame.mono (by decide) (by decide)⟩
    have pre33 : ∀ t, Steps p.tables e below (T22.setTop (mkF m 220 #[.val (.int p0), .val (.int p1), .val (.int p2), .val (.int p3), .val (.int p4), .val (.int (1 : Int32)), .val (.ref b15), .val (.ref b18), .val (.int (f0_m27 p0 p1 p2 p3 p4)), .val (.int ((((((p4 >>> ((8 : Int32) &&& 31)).toInt8.toInt32).toInt8.toInt32) &&& (255 : Int32)) <<< ((8 : Int32) &&& 31)) ||| (((p4.toInt8.toInt32).toInt8.toInt32) &&& (255 : Int32))))] [(.int (p4 &&& (65535 : Int32))), (.int ((((((p4 >>> ((8 : Int32) &&& 31)).toInt8.toInt32).toInt8.toInt32) &&& (255 : Int32)) <<< ((8 : Int32) &&& 31)) ||| (((p4.toInt8.toInt32).toInt8.toInt32) &&& (255 : Int32))))])) t → Steps p.tables e below (s₁.setTop (entryFrame m #[(.int p0), (.int p1), (.int p2), (.int p3), (.int p4)] maxLocals)) t := fun t k => pre30 t (by
      show Steps p.tables e below (T22.setTop (mkF m 210 #[.val (.int p0), .val (.int p1), .val (.int p2), .val (.int p3), .val (.int p4), .val (.int (1 : Int32)), .val (.ref b15), .val (.ref b18), .val (.int (f0_m27 p0 p1 p2 p3 p4)), .val (.int ((((((p4 >>> ((8 : Int32) &&& 31)).toInt8.toInt32).toInt8.toInt32) &&& (255 : Int32)) <<< ((8 : Int32) &&& 31)) ||| (((p4.toInt8.toInt32).toInt8.toInt32) &&& (255 : Int32))))] [(.int (f0_m27 p0 p1 p2 p3 p4))])) _
      refine XS.ifNo X22.here hx rfl (hb hby at_210) rfl ((if0 _ _).trans (feq hc210_31).1) ?_
      show Steps p.tables e below (T22.setTop (mkF m 213 #[.val (.int p0), .val (.int p1), .val (.int p2), .val (.int p3), .val (.int p4), .val (.int (1 : Int32)), .val (.ref b15), .val (.ref b18), .val (.int (f0_m27 p0 p1 p2 p3 p4)), .val (.int ((((((p4 >>> ((8 : Int32) &&& 31)).toInt8.toInt32).toInt8.toInt32) &&& (255 : Int32)) <<< ((8 : Int32) &&& 31)) ||| (((p4.toInt8.toInt32).toInt8.toInt32) &&& (255 : Int32))))] [])) _
      refine XS.iload X22.here hx rfl (hb hby at_213) rfl ?_
      show Steps p.tables e below (T22.setTop (mkF m 215 #[.val (.int p0), .val (.int p1), .val (.int p2), .val (.int p3), .val (.int p4), .val (.int (1 : Int32)), .val (.ref b15), .val (.ref b18), .val (.int (f0_m27 p0 p1 p2 p3 p4)), .val (.int ((((((p4 >>> ((8 : Int32) &&& 31)).toInt8.toInt32).toInt8.toInt32) &&& (255 : Int32)) <<< ((8 : Int32) &&& 31)) ||| (((p4.toInt8.toInt32).toInt8.toInt32) &&& (255 : Int32))))] [(.int ((((((p4 >>> ((8 : Int32) &&& 31)).toInt8.toInt32).toInt8.toInt32) &&& (255 : Int32)) <<< ((8 : Int32) &&& 31)) ||| (((p4.toInt8.toInt32).toInt8.toInt32) &&& (255 : Int32))))])) _
      refine XS.iload X22.here hx rfl (hb hby at_215) rfl ?_
      show Steps p.tables e below (T22.setTop (mkF m 217 #[.val (.int p0), .val (.int p1), .val (.int p2), .val (.int p3), .val (.int p4), .val (.int (1 : Int32)), .val (.ref b15), .val (.ref b18), .val (.int (f0_m27 p0 p1 p2 p3 p4)), .val (.int ((((((p4 >>> ((8 : Int32) &&& 31)).toInt8.toInt32).toInt8.toInt32) &&& (255 : Int32)) <<< ((8 : Int32) &&& 31)) ||| (((p4.toInt8.toInt32).toInt8.toInt32) &&& (255 : Int32))))] [(.int p4), (.int ((((((p4 >>> ((8 : Int32) &&& 31)).toInt8.toInt32).toInt8.toInt32) &&& (255 : Int32)) <<< ((8 : Int32) &&& 31)) ||| (((p4.toInt8.toInt32).toInt8.toInt32) &&& (255 : Int32))))])) _
      refine X22.ldcInt hx hown (mvT hZ (hw _ (List.mem_of_getElem? (i := 9) rfl))) (g := (mkF m 217 #[.val (.int p0), .val (.int p1), .val (.int p2), .val (.int p3), .val (.int p4), .val (.int (1 : Int32)), .val (.ref b15), .val (.ref b18), .val (.int (f0_m27 p0 p1 p2 p3 p4)), .val (.int ((((((p4 >>> ((8 : Int32) &&& 31)).toInt8.toInt32).toInt8.toInt32) &&& (255 : Int32)) <<< ((8 : Int32) &&& 31)) ||| (((p4.toInt8.toInt32).toInt8.toInt32) &&& (255 : Int32))))] [(.int p4), (.int ((((((p4 >>> ((8 : Int32) &&& 31)).toInt8.toInt32).toInt8.toInt32) &&& (255 : Int32)) <<< ((8 : Int32) &&& 31)) ||| (((p4.toInt8.toInt32).toInt8.toInt32) &&& (255 : Int32))))])) rfl (hb hby at_217) _ ?_
      show Steps p.tables e below (T22.setTop (mkF m 219 #[.val (.int p0), .val (.int p1), .val (.int p2), .val (.int p3), .val (.int p4), .val (.int (1 : Int32)), .val (.ref b15), .val (.ref b18), .val (.int (f0_m27 p0 p1 p2 p3 p4)), .val (.int ((((((p4 >>> ((8 : Int32) &&& 31)).toInt8.toInt32).toInt8.toInt32) &&& (255 : Int32)) <<< ((8 : Int32) &&& 31)) ||| (((p4.toInt8.toInt32).toInt8.toInt32) &&& (255 : Int32))))] [(.int (65535 : Int32)), (.int p4), (.int ((((((p4 >>> ((8 : Int32) &&& 31)).toInt8.toInt32).toInt8.toInt32) &&& (255 : Int32)) <<< ((8 : Int32) &&& 31)) ||| (((p4.toInt8.toInt32).toInt8.toInt32) &&& (255 : Int32))))])) _
      refine XS.iand X22.here hx rfl (hb hby at_219) rfl ?_
      exact k)
    by_cases hc220_34 : ((((((p4 >>> ((8 : Int32) &&& 31)).toInt8.toInt32).toInt8.toInt32) &&& (255 : Int32)) <<< ((8 : Int32) &&& 31)) ||| (((p4.toInt8.toInt32).toInt8.toInt32) &&& (255 : Int32))) = (p4 &&& (65535 : Int32))
    · have pre35 : ∀ t, Steps p.tables e below (T22.setTop (mkF m 228 #[.val (.int p0), .val (.int p1), .val (.int p2), .val (.int p3), .val (.int p4), .val (.int (1 : Int32)), .val (.ref b15), .val (.ref b18), .val (.int (f0_m27 p0 p1 p2 p3 p4)), .val (.int ((((((p4 >>> ((8 : Int32) &&& 31)).toInt8.toInt32).toInt8.toInt32) &&& (255 : Int32)) <<< ((8 : Int32) &&& 31)) ||| (((p4.toInt8.toInt32).toInt8.toInt32) &&& (255 : Int32))))] [(.int (1 : Int32))])) t → Steps p.tables e below (s₁.setTop (entryFrame m #[(.int p0), (.int p1), (.int p2), (.int p3), (.int p4)] maxLocals)) t := fun t k => pre33 t (by
        show Steps p.tables e below (T22.setTop (mkF m 220 #[.val (.int p0), .val (.int p1), .val (.int p2), .val (.int p3), .val (.int p4), .val (.int (1 : Int32)), .val (.ref b15), .val (.ref b18), .val (.int (f0_m27 p0 p1 p2 p3 p4)), .val (.int ((((((p4 >>> ((8 : Int32) &&& 31)).toInt8.toInt32).toInt8.toInt32) &&& (255 : Int32)) <<< ((8 : Int32) &&& 31)) ||| (((p4.toInt8.toInt32).toInt8.toInt32) &&& (255 : Int32))))] [(.int (p4 &&& (65535 : Int32))), (.int ((((((p4 >>> ((8 : Int32) &&& 31)).toInt8.toInt32).toInt8.toInt32) &&& (255 : Int32)) <<< ((8 : Int32) &&& 31)) ||| (((p4.toInt8.toInt32).toInt8.toInt32) &&& (255 : Int32))))])) _
        refine XS.icmpNo X22.here hx rfl (hb hby at_220) rfl (teq hc220_34).2 ?_
        show Steps p.tables e below (T22.setTop (mkF m 223 #[.val (.int p0), .val (.int p1), .val (.int p2), .val (.int p3), .val (.int p4), .val (.int (1 : Int32)), .val (.ref b15), .val (.ref b18), .val (.int (f0_m27 p0 p1 p2 p3 p4)), .val (.int ((((((p4 >>> ((8 : Int32) &&& 31)).toInt8.toInt32).toInt8.toInt32) &&& (255 : Int32)) <<< ((8 : Int32) &&& 31)) ||| (((p4.toInt8.toInt32).toInt8.toInt32) &&& (255 : Int32))))] [])) _
        refine XS.iconst X22.here hx rfl (hb hby at_223) ?_
        show Steps p.tables e below (T22.setTop (mkF m 224 #[.val (.int p0), .val (.int p1), .val (.int p2), .val (.int p3), .val (.int p4), .val (.int (1 : Int32)), .val (.ref b15), .val (.ref b18), .val (.int (f0_m27 p0 p1 p2 p3 p4)), .val (.int ((((((p4 >>> ((8 : Int32) &&& 31)).toInt8.toInt32).toInt8.toInt32) &&& (255 : Int32)) <<< ((8 : Int32) &&& 31)) ||| (((p4.toInt8.toInt32).toInt8.toInt32) &&& (255 : Int32))))] [(.int (1 : Int32))])) _
        refine XS.goto X22.here hx rfl (pc0 := 224) (pc' := 228) rfl (hb hby at_224) (by decide) (by decide) ?_
        exact k)
      obtain ⟨fs, hr, hrun, hended, hW, hsame⟩ := X22.leave (v := some (.int (1 : Int32))) (fun h => by rw [Bd.returns] at h; cases h) hlk
      have hF : (F0 p0 p1 p2 p3 p4) = (1 : Int32) := by unfold F0; rw [if_neg hv2, if_pos hv13, if_neg hc210_31, if_pos hc220_34]
      exact ⟨_, _, pre35 _ (retN X22 hx (t := .boolean) Bd.returns (by simp) (hb hby at_228) hr), hrun, hended, _, _, rfl, ⟨by rw [hF], N22⟩, ⟨_, rfl⟩, hW, hsame.mono (by decide) (by decide)⟩
    have pre36 : ∀ t, Steps p.tables e below (T22.setTop (mkF m 228 #[.val (.int p0), .val (.int p1), .val (.int p2), .val (.int p3), .val (.int p4), .val (.int (1 : Int32)), .val (.ref b15), .val (.ref b18), .val (.int (f0_m27 p0 p1 p2 p3 p4)), .val (.int ((((((p4 >>> ((8 : Int32) &&& 31)).toInt8.toInt32).toInt8.toInt32) &&& (255 : Int32)) <<< ((8 : Int32) &&& 31)) ||| (((p4.toInt8.toInt32).toInt8.toInt32) &&& (255 : Int32))))] [(.int (0 : Int32))])) t → Steps p.tables e below (s₁.setTop (entryFrame m #[(.int p0), (.int p1), (.int p2), (.int p3), (.int p4)] maxLocals)) t := fun t k => pre33 t (by
      show Steps p.tables e below (T22.setTop (mkF m 220 #[.val (.int p0), .val (.int p1), .val (.int p2), .val (.int p3), .val (.int p4), .val (.int (1 : Int32)), .val (.ref b15), .val (.ref b18), .val (.int (f0_m27 p0 p1 p2 p3 p4)), .val (.int ((((((p4 >>> ((8 : Int32) &&& 31)).toInt8.toInt32).toInt8.toInt32) &&& (255 : Int32)) <<< ((8 : Int32) &&& 31)) ||| (((p4.toInt8.toInt32).toInt8.toInt32) &&& (255 : Int32))))] [(.int (p4 &&& (65535 : Int32))), (.int ((((((p4 >>> ((8 : Int32) &&& 31)).toInt8.toInt32).toInt8.toInt32) &&& (255 : Int32)) <<< ((8 : Int32) &&& 31)) ||| (((p4.toInt8.toInt32).toInt8.toInt32) &&& (255 : Int32))))])) _
      refine XS.icmpYes X22.here hx rfl (pc0 := 220) (pc' := 227) rfl (hb hby at_220) rfl (feq hc220_34).2 (by decide) (by decide) ?_
      show Steps p.tables e below (T22.setTop (mkF m 227 #[.val (.int p0), .val (.int p1), .val (.int p2), .val (.int p3), .val (.int p4), .val (.int (1 : Int32)), .val (.ref b15), .val (.ref b18), .val (.int (f0_m27 p0 p1 p2 p3 p4)), .val (.int ((((((p4 >>> ((8 : Int32) &&& 31)).toInt8.toInt32).toInt8.toInt32) &&& (255 : Int32)) <<< ((8 : Int32) &&& 31)) ||| (((p4.toInt8.toInt32).toInt8.toInt32) &&& (255 : Int32))))] [])) _
      refine XS.iconst X22.here hx rfl (hb hby at_227) ?_
      exact k)
    obtain ⟨fs, hr, hrun, hended, hW, hsame⟩ := X22.leave (v := some (.int (0 : Int32))) (fun h => by rw [Bd.returns] at h; cases h) hlk
    have hF : (F0 p0 p1 p2 p3 p4) = (0 : Int32) := by unfold F0; rw [if_neg hv2, if_pos hv13, if_neg hc210_31, if_neg hc220_34]
    exact ⟨_, _, pre36 _ (retN X22 hx (t := .boolean) Bd.returns (by simp) (hb hby at_228) hr), hrun, hended, _, _, rfl, ⟨by rw [hF], N22⟩, ⟨_, rfl⟩, hW, hsame.mono (by decide) (by decide)⟩
  by_cases hv37 : (p0 &&& (3 : Int32)) = (2 : Int32)
  · have pre38 := pre1
    rw [hv37] at pre38
    obtain ⟨T39, h39, k39, X39, e39, E39, A39, st39⟩ := newP X0 hx hZ (hw _ (List.mem_of_getElem? (i := 0) rfl)) e0 (g := (mkF m 7 #[.val (.int p0), .val (.int p1), .val (.int p2), .val (.int p3), .val (.int p4), .val (.int (2 : Int32)), .unset, .unset, .unset, .unset] [(.int (2 : Int32))])) rfl (hb hby at_7) rfl (by decide) (cap := 2) (by decide) (by decide) (by decide) (by decide)
    obtain ⟨b39, g39⟩ : ∃ z, z = h0.size := ⟨_, rfl⟩
    rw [← g39] at A39 st39
    have g_b39 : n0 ≤ b39 := Nat.le_trans Z0 (Nat.le_of_eq g39.symm)
    have Z39 : n0 ≤ h39.size := Nat.le_trans Z0 E39.1
    have V39 : Arv Z h39 b39 k39 .byte (2 : Int32) [(.int (0 : Int32)), (.int (0 : Int32))] (.int (0 : Int32)) := (Arv.new A39 (by decide)).pad (pad_rep [] (.int (0 : Int32)) 2)
    obtain ⟨cl40, Ar40, q40, S40, M40, H40, G40⟩ := id V39
    have hin40 : ¬ ((0 : Int32) < 0 ∨ cl40.slots.size ≤ ((0 : Int32)).toNatClampNeg) := inb_of S40 ⟨by decide, by decide⟩
    obtain ⟨T41, h41, X41, e41, W41, st41⟩ := stB X39 hx hZ e39 Ar40 (j := (0 : Int32)) hin40 (g := (mkF m 21 #[.val (.int p0), .val (.int p1), .val (.int p2), .val (.int p3), .val (.int p4), .val (.int (2 : Int32)), .val (.ref b39), .unset, .unset, .unset] [(.int (p1.toInt8.toInt32)), (.int (0 : Int32)), (.ref b39)])) rfl rfl (hb hby at_21)
    have Z41 : n0 ≤ h41.size := Nat.le_trans Z39 (Keep.of_wr W41).1
    have N41 := Fr.snoc X41 N0 g_b39
    have V41 : Arv Z h41 b39 k39 .byte (2 : Int32) [(.int ((p1.toInt8.toInt32).toInt8.toInt32)), (.int (0 : Int32))] (.int (0 : Int32)) := Arv.set Ar40 q40 S40 M40 H40 G40 (fits_nar_byte _) W41 0 rfl (Nat.le_of_ble_eq_true rfl)
    obtain ⟨cl42, Ar42, q42, S42, M42, H42, G42⟩ := id V41
    have hin42 : ¬ ((1 : Int32) < 0 ∨ cl42.slots.size ≤ ((1 : Int32)).toNatClampNeg) := inb_of S42 ⟨by decide, by decide⟩
    obtain ⟨T43, h43, X43, e43, W43, st43⟩ := stB X41 hx hZ e41 Ar42 (j := (1 : Int32)) hin42 (g := (mkF m 33 #[.val (.int p0), .val (.int p1), .val (.int p2), .val (.int p3), .val (.int p4), .val (.int (2 : Int32)), .val (.ref b39), .unset, .unset, .unset] [(.int (p2.toInt8.toInt32)), (.int (1 : Int32)), (.ref b39)])) rfl rfl (hb hby at_33)
    have Z43 : n0 ≤ h43.size := Nat.le_trans Z41 (Keep.of_wr W43).1
    have N43 := Fr.snoc X43 N41 g_b39
    have V43 : Arv Z h43 b39 k39 .byte (2 : Int32) [(.int ((p1.toInt8.toInt32).toInt8.toInt32)), (.int ((p2.toInt8.toInt32).toInt8.toInt32))] (.int (0 : Int32)) := Arv.set Ar42 q42 S42 M42 H42 G42 (fits_nar_byte _) W43 1 rfl (Nat.le_of_ble_eq_true rfl)
    obtain ⟨_, _, ⟨T44, L44, k44, n44⟩, -, X44, ⟨Lc44, hQ44, l44, y44, z44⟩, st44⟩ := Jvm.LawKit.callS X43 hx (y := (⟨"com/example/cardwarden/cardwarden/core/card/StatusWord", "respond", "([BI)[B"⟩ : MethodName)) hown (mvT hZ (hw _ (List.mem_of_getElem? (i := 1) rfl))) (mvT hZ (hw _ (List.mem_of_getElem? (i := 2) rfl))) (mvT hZ (hw _ (List.mem_of_getElem? (i := 3) rfl))) (mvT hZ (hw _ (List.mem_of_getElem? (i := 4) rfl))) (by decide) (backOf (W := 0) (rm1_2 l Z a0' hw [] b39 p4 ((p1.toInt8.toInt32).toInt8.toInt32) ((p2.toInt8.toInt32).toInt8.toInt32) k39 h43 n0 Z43 V43) hZ (hw _ (List.mem_of_getElem? (i := 4) rfl)) (hw _ (List.mem_of_getElem? (i := 3) rfl)) (by decide) (by decide)) (g := (mkF m 50 #[.val (.int p0), .val (.int p1), .val (.int p2), .val (.int p3), .val (.int p4), .val (.int (2 : Int32)), .val (.ref b39), .unset, .unset, .unset] [(.int p4), (.ref b39)])) rfl (by rw [hml]; rfl) (argsL := [(.ref b39), (.int p4)]) (rest := []) (lenOf pd0 rfl) rfl (by show 2 * 0 + _ ≤ _; exact Nat.le_of_eq rfl) (hb hby at_50) (fun _ _ => ⟨rfl, e43, (by decide : 1 + 1 ≤ _), (by decide : 2 + 4 ≤ _)⟩)
    dsimp only [Pt.U, Pt.locs, Pt.cells, Pt.slots] at X44 l44 y44 z44 st44 hQ44
    subst l44 y44 z44
    obtain ⟨b44, rfl, N44q, gs44, g_b44, K44, u44_0⟩ := hQ44
    have N44 := Fr.app N43 N44q
    have ne_b39_b44 : b39 ≠ b44 := Nat.ne_of_lt (Nat.lt_of_lt_of_le V43.lt gs44)
    have Z44 : n0 ≤ T44.heap.size := Nat.le_trans Z43 K44.1
    obtain ⟨kk44, u44_0⟩ := u44_0
    obtain ⟨cl45, Ar45, q45, S45, M45, H45, G45⟩ := id u44_0
    obtain ⟨cl46, Ar46, q46, S46, M46, H46, G46⟩ := id u44_0
    have hin46 : ¬ ((0 : Int32) < 0 ∨ cl46.slots.size ≤ ((0 : Int32)).toNatClampNeg) := inb_of S46 ⟨by decide, by decide⟩
    have hat46 : cl46.slots[((0 : Int32)).toNatClampNeg]? = some (.int ((p1.toInt8.toInt32).toInt8.toInt32)) := H46.at hin46 rfl
    have pre47 : ∀ t, Steps p.tables e below (T44.setTop (mkF m 91 #[.val (.int p0), .val (.int p1), .val (.int p2), .val (.int p3), .val (.int p4), .val (.int (2 : Int32)), .val (.ref b39), .val (.ref b44), .val (.int (1 : Int32)), .unset] [(.int (p1.toInt8.toInt32)), (.int ((p1.toInt8.toInt32).toInt8.toInt32))])) t → Steps p.tables e below (s₁.setTop (entryFrame m #[(.int p0), (.int p1), (.int p2), (.int p3), (.int p4)] maxLocals)) t := fun t k => pre38 t (by
      show Steps p.tables e below (s₁.setTop (mkF m 5 #[.val (.int p0), .val (.int p1), .val (.int p2), .val (.int p3), .val (.int p4), .val (.int (2 : Int32)), .unset, .unset, .unset, .unset] [])) _
      refine XS.iload X0.here hx rfl (hb hby at_5) rfl ?_
      show Steps p.tables e below (s₁.setTop (mkF m 7 #[.val (.int p0), .val (.int p1), .val (.int p2), .val (.int p3), .val (.int p4), .val (.int (2 : Int32)), .unset, .unset, .unset, .unset] [(.int (2 : Int32))])) _
      refine st39 _ ?_
      show Steps p.tables e below (T39.setTop (mkF m 9 #[.val (.int p0), .val (.int p1), .val (.int p2), .val (.int p3), .val (.int p4), .val (.int (2 : Int32)), .unset, .unset, .unset, .unset] [(.ref b39)])) _
      refine XS.astore X39.here hx rfl (hb hby at_9) rfl rfl (l' := #[.val (.int p0), .val (.int p1), .val (.int p2), .val (.int p3), .val (.int p4), .val (.int (2 : Int32)), .val (.ref b39), .unset, .unset, .unset]) rfl ?_
      show Steps p.tables e below (T39.setTop (mkF m 11 #[.val (.int p0), .val (.int p1), .val (.int p2), .val (.int p3), .val (.int p4), .val (.int (2 : Int32)), .val (.ref b39), .unset, .unset, .unset] [])) _
      refine XS.iload X39.here hx rfl (hb hby at_11) rfl ?_
      show Steps p.tables e below (T39.setTop (mkF m 13 #[.val (.int p0), .val (.int p1), .val (.int p2), .val (.int p3), .val (.int p4), .val (.int (2 : Int32)), .val (.ref b39), .unset, .unset, .unset] [(.int (2 : Int32))])) _
      refine XS.ifNo X39.here hx rfl (hb hby at_13) rfl ((if0 _ _).trans (tlt (by decide : (0 : Int32) < (2 : Int32))).2.2.2) ?_
      show Steps p.tables e below (T39.setTop (mkF m 16 #[.val (.int p0), .val (.int p1), .val (.int p2), .val (.int p3), .val (.int p4), .val (.int (2 : Int32)), .val (.ref b39), .unset, .unset, .unset] [])) _
      refine XS.aload X39.here hx rfl (hb hby at_16) rfl rfl ?_
      show Steps p.tables e below (T39.setTop (mkF m 18 #[.val (.int p0), .val (.int p1), .val (.int p2), .val (.int p3), .val (.int p4), .val (.int (2 : Int32)), .val (.ref b39), .unset, .unset, .unset] [(.ref b39)])) _
      refine XS.iconst X39.here hx rfl (hb hby at_18) ?_
      show Steps p.tables e below (T39.setTop (mkF m 19 #[.val (.int p0), .val (.int p1), .val (.int p2), .val (.int p3), .val (.int p4), .val (.int (2 : Int32)), .val (.ref b39), .unset, .unset, .unset] [(.int (0 : Int32)), (.ref b39)])) _
      refine XS.iloadN X39.here hx rfl (hb hby at_19) rfl ?_
      show Steps p.tables e below (T39.setTop (mkF m 20 #[.val (.int p0), .val (.int p1), .val (.int p2), .val (.int p3), .val (.int p4), .val (.int (2 : Int32)), .val (.ref b39), .unset, .unset, .unset] [(.int p1), (.int (0 : Int32)), (.ref b39)])) _
      refine XS.i2b X39.here hx rfl (hb hby at_20) rfl ?_
      show Steps p.tables e below (T39.setTop (mkF m 21 #[.val (.int p0), .val (.int p1), .val (.int p2), .val (.int p3), .val (.int p4), .val (.int (2 : Int32)), .val (.ref b39), .unset, .unset, .unset] [(.int (p1.toInt8.toInt32)), (.int (0 : Int32)), (.ref b39)])) _
      refine st41 _ ?_
      show Steps p.tables e below (T41.setTop (mkF m 22 #[.val (.int p0), .val (.int p1), .val (.int p2), .val (.int p3), .val (.int p4), .val (.int (2 : Int32)), .val (.ref b39), .unset, .unset, .unset] [])) _
      refine XS.iload X41.here hx rfl (hb hby at_22) rfl ?_
      show Steps p.tables e below (T41.setTop (mkF m 24 #[.val (.int p0), .val (.int p1), .val (.int p2), .val (.int p3), .val (.int p4), .val (.int (2 : Int32)), .val (.ref b39), .unset, .unset, .unset] [(.int (2 : Int32))])) _
      refine XS.iconst X41.here hx rfl (hb hby at_24) ?_
      show Steps p.tables e below (T41.setTop (mkF m 25 #[.val (.int p0), .val (.int p1), .val (.int p2), .val (.int p3), .val (.int p4), .val (.int (2 : Int32)), .val (.ref b39), .unset, .unset, .unset] [(.int (1 : Int32)), (.int (2 : Int32))])) _
      refine XS.icmpNo X41.here hx rfl (hb hby at_25) rfl (tlt (by decide : (1 : Int32) < (2 : Int32))).2.2.2 ?_
      show Steps p.tables e below (T41.setTop (mkF m 28 #[.val (.int p0), .val (.int p1), .val (.int p2), .val (.int p3), .val (.int p4), .val (.int (2 : Int32)), .val (.ref b39), .unset, .unset, .unset] [])) _
      refine XS.aload X41.here hx rfl (hb hby at_28) rfl rfl ?_
      show Steps p.tables e below (T41.setTop (mkF m 30 #[.val (.int p0), .val (.int p1), .val (.int p2), .val (.int p3), .val (.int p4), .val (.int (2 : Int32)), .val (.ref b39), .unset, .unset, .unset] [(.ref b39)])) _
      refine XS.iconst X41.here hx rfl (hb hby at_30) ?_
      show Steps p.tables e below (T41.setTop (mkF m 31 #[.val (.int p0), .val (.int p1), .val (.int p2), .val (.int p3), .val (.int p4), .val (.int (2 : Int32)), .val (.ref b39), .unset, .unset, .unset] [(.int (1 : Int32)), (.ref b39)])) _
      refine XS.iloadN X41.here hx rfl (hb hby at_31) rfl ?_
      show Steps p.tables e below (T41.setTop (mkF m 32 #[.val (.int p0), .val (.int p1), .val (.int p2), .val (.int p3), .val (.int p4), .val (.int (2 : Int32)), .val (.ref b39), .unset, .unset, .unset] [(.int p2), (.int (1 : Int32)), (.ref b39)])) _
      refine XS.i2b X41.here hx rfl (hb hby at_32) rfl ?_
      show Steps p.tables e below (T41.setTop (mkF m 33 #[.val (.int p0), .val (.int p1), .val (.int p2), .val (.int p3), .val (.int p4), .val (.int (2 : Int32)), .val (.ref b39), .unset, .unset, .unset] [(.int (p2.toInt8.toInt32)), (.int (1 : Int32)), (.ref b39)])) _
      refine st43 _ ?_
      show Steps p.tables e below (T43.setTop (mkF m 34 #[.val (.int p0), .val (.int p1), .val (.int p2), .val (.int p3), .val (.int p4), .val (.int (2 : Int32)), .val (.ref b39), .unset, .unset, .unset] [])) _
      refine XS.iload X43.here hx rfl (hb hby at_34) rfl ?_
      show Steps p.tables e below (T43.setTop (mkF m 36 #[.val (.int p0), .val (.int p1), .val (.int p2), .val (.int p3), .val (.int p4), .val (.int (2 : Int32)), .val (.ref b39), .unset, .unset, .unset] [(.int (2 : Int32))])) _
      refine XS.iconst X43.here hx rfl (hb hby at_36) ?_
      show Steps p.tables e below (T43.setTop (mkF m 37 #[.val (.int p0), .val (.int p1), .val (.int p2), .val (.int p3), .val (.int p4), .val (.int (2 : Int32)), .val (.ref b39), .unset, .unset, .unset] [(.int (2 : Int32)), (.int (2 : Int32))])) _
      refine XS.icmpYes X43.here hx rfl (pc0 := 37) (pc' := 46) rfl (hb hby at_37) rfl (flt (by decide : ¬ ((2 : Int32) < (2 : Int32)))).2.2.2 (by decide) (by decide) ?_
      show Steps p.tables e below (T43.setTop (mkF m 46 #[.val (.int p0), .val (.int p1), .val (.int p2), .val (.int p3), .val (.int p4), .val (.int (2 : Int32)), .val (.ref b39), .unset, .unset, .unset] [])) _
      refine XS.aload X43.here hx rfl (hb hby at_46) rfl rfl ?_
      show Steps p.tables e below (T43.setTop (mkF m 48 #[.val (.int p0), .val (.int p1), .val (.int p2), .val (.int p3), .val (.int p4), .val (.int (2 : Int32)), .val (.ref b39), .unset, .unset, .unset] [(.ref b39)])) _
      refine XS.iload X43.here hx rfl (hb hby at_48) rfl ?_
      show Steps p.tables e below (T43.setTop (mkF m 50 #[.val (.int p0), .val (.int p1), .val (.int p2), .val (.int p3), .val (.int p4), .val (.int (2 : Int32)), .val (.ref b39), .unset, .unset, .unset] [(.int p4), (.ref b39)])) _
      refine st44 _ ?_
      show Steps p.tables e below (T44.setTop (mkF m 53 #[.val (.int p0), .val (.int p1), .val (.int p2), .val (.int p3), .val (.int p4), .val (.int (2 : Int32)), .val (.ref b39), .unset, .unset, .unset] [(.ref b44)])) _
      refine XS.astore X44.here hx rfl (hb hby at_53) rfl rfl (l' := #[.val (.int p0), .val (.int p1), .val (.int p2), .val (.int p3), .val (.int p4), .val (.int (2 : Int32)), .val (.ref b39), .val (.ref b44), .unset, .unset]) rfl ?_
      show Steps p.tables e below (T44.setTop (mkF m 55 #[.val (.int p0), .val (.int p1), .val (.int p2), .val (.int p3), .val (.int p4), .val (.int (2 : Int32)), .val (.ref b39), .val (.ref b44), .unset, .unset] [])) _
      refine XS.aload X44.here hx rfl (hb hby at_55) rfl rfl ?_
      show Steps p.tables e below (T44.setTop (mkF m 57 #[.val (.int p0), .val (.int p1), .val (.int p2), .val (.int p3), .val (.int p4), .val (.int (2 : Int32)), .val (.ref b39), .val (.ref b44), .unset, .unset] [(.ref b44)])) _
      refine XS.ifnullNo X44.here hx rfl (hb hby at_57) rfl ?_
      show Steps p.tables e below (T44.setTop (mkF m 60 #[.val (.int p0), .val (.int p1), .val (.int p2), .val (.int p3), .val (.int p4), .val (.int (2 : Int32)), .val (.ref b39), .val (.ref b44), .unset, .unset] [])) _
      refine XS.aload X44.here hx rfl (hb hby at_60) rfl rfl ?_
      show Steps p.tables e below (T44.setTop (mkF m 62 #[.val (.int p0), .val (.int p1), .val (.int p2), .val (.int p3), .val (.int p4), .val (.int (2 : Int32)), .val (.ref b39), .val (.ref b44), .unset, .unset] [(.ref b44)])) _
      refine X44.arraylength hx Ar45.1 (State.isArrayOf_alike hZ.alike Ar45.2.1) (g := (mkF m 62 #[.val (.int p0), .val (.int p1), .val (.int p2), .val (.int p3), .val (.int p4), .val (.int (2 : Int32)), .val (.ref b39), .val (.ref b44), .unset, .unset] [(.ref b44)])) rfl rfl (hb hby at_62) _ ?_
      rw [len_of S45 M45]
      show Steps p.tables e below (T44.setTop (mkF m 63 #[.val (.int p0), .val (.int p1), .val (.int p2), .val (.int p3), .val (.int p4), .val (.int (2 : Int32)), .val (.ref b39), .val (.ref b44), .unset, .unset] [(.int (4 : Int32))])) _
      refine XS.iload X44.here hx rfl (hb hby at_63) rfl ?_
      show Steps p.tables e below (T44.setTop (mkF m 65 #[.val (.int p0), .val (.int p1), .val (.int p2), .val (.int p3), .val (.int p4), .val (.int (2 : Int32)), .val (.ref b39), .val (.ref b44), .unset, .unset] [(.int (2 : Int32)), (.int (4 : Int32))])) _
      refine XS.iconst X44.here hx rfl (hb hby at_65) ?_
      show Steps p.tables e below (T44.setTop (mkF m 66 #[.val (.int p0), .val (.int p1), .val (.int p2), .val (.int p3), .val (.int p4), .val (.int (2 : Int32)), .val (.ref b39), .val (.ref b44), .unset, .unset] [(.int (2 : Int32)), (.int (2 : Int32)), (.int (4 : Int32))])) _
      refine XS.iadd X44.here hx rfl (hb hby at_66) rfl ?_
      show Steps p.tables e below (T44.setTop (mkF m 67 #[.val (.int p0), .val (.int p1), .val (.int p2), .val (.int p3), .val (.int p4), .val (.int (2 : Int32)), .val (.ref b39), .val (.ref b44), .unset, .unset] [(.int (4 : Int32)), (.int (4 : Int32))])) _
      refine XS.icmpYes X44.here hx rfl (pc0 := 67) (pc' := 72) rfl (hb hby at_67) rfl (teq (rfl : (4 : Int32) = (4 : Int32))).1 (by decide) (by decide) ?_
      show Steps p.tables e below (T44.setTop (mkF m 72 #[.val (.int p0), .val (.int p1), .val (.int p2), .val (.int p3), .val (.int p4), .val (.int (2 : Int32)), .val (.ref b39), .val (.ref b44), .unset, .unset] [])) _
      refine XS.iconst X44.here hx rfl (hb hby at_72) ?_
      show Steps p.tables e below (T44.setTop (mkF m 73 #[.val (.int p0), .val (.int p1), .val (.int p2), .val (.int p3), .val (.int p4), .val (.int (2 : Int32)), .val (.ref b39), .val (.ref b44), .unset, .unset] [(.int (1 : Int32))])) _
      refine XS.istore X44.here hx rfl (hb hby at_73) rfl (l' := #[.val (.int p0), .val (.int p1), .val (.int p2), .val (.int p3), .val (.int p4), .val (.int (2 : Int32)), .val (.ref b39), .val (.ref b44), .val (.int (1 : Int32)), .unset]) rfl ?_
      show Steps p.tables e below (T44.setTop (mkF m 75 #[.val (.int p0), .val (.int p1), .val (.int p2), .val (.int p3), .val (.int p4), .val (.int (2 : Int32)), .val (.ref b39), .val (.ref b44), .val (.int (1 : Int32)), .unset] [])) _
      refine XS.iload X44.here hx rfl (hb hby at_75) rfl ?_
      show Steps p.tables e below (T44.setTop (mkF m 77 #[.val (.int p0), .val (.int p1), .val (.int p2), .val (.int p3), .val (.int p4), .val (.int (2 : Int32)), .val (.ref b39), .val (.ref b44), .val (.int (1 : Int32)), .unset] [(.int (2 : Int32))])) _
      refine XS.ifNo X44.here hx rfl (hb hby at_77) rfl ((if0 _ _).trans (tlt (by decide : (0 : Int32) < (2 : Int32))).2.2.2) ?_
      show Steps p.tables e below (T44.setTop (mkF m 80 #[.val (.int p0), .val (.int p1), .val (.int p2), .val (.int p3), .val (.int p4), .val (.int (2 : Int32)), .val (.ref b39), .val (.ref b44), .val (.int (1 : Int32)), .unset] [])) _
      refine XS.iload X44.here hx rfl (hb hby at_80) rfl ?_
      show Steps p.tables e below (T44.setTop (mkF m 82 #[.val (.int p0), .val (.int p1), .val (.int p2), .val (.int p3), .val (.int p4), .val (.int (2 : Int32)), .val (.ref b39), .val (.ref b44), .val (.int (1 : Int32)), .unset] [(.int (1 : Int32))])) _
      refine XS.ifNo X44.here hx rfl (hb hby at_82) rfl ((if0 _ _).trans (feq (by decide : ¬ ((1 : Int32) = (0 : Int32)))).1) ?_
      show Steps p.tables e below (T44.setTop (mkF m 85 #[.val (.int p0), .val (.int p1), .val (.int p2), .val (.int p3), .val (.int p4), .val (.int (2 : Int32)), .val (.ref b39), .val (.ref b44), .val (.int (1 : Int32)), .unset] [])) _
      refine XS.aload X44.here hx rfl (hb hby at_85) rfl rfl ?_
      show Steps p.tables e below (T44.setTop (mkF m 87 #[.val (.int p0), .val (.int p1), .val (.int p2), .val (.int p3), .val (.int p4), .val (.int (2 : Int32)), .val (.ref b39), .val (.ref b44), .val (.int (1 : Int32)), .unset] [(.ref b44)])) _
      refine XS.iconst X44.here hx rfl (hb hby at_87) ?_
      show Steps p.tables e below (T44.setTop (mkF m 88 #[.val (.int p0), .val (.int p1), .val (.int p2), .val (.int p3), .val (.int p4), .val (.int (2 : Int32)), .val (.ref b39), .val (.ref b44), .val (.int (1 : Int32)), .unset] [(.int (0 : Int32)), (.ref b44)])) _
      refine X44.baloadBytes hx (j := (0 : Int32)) (v := (.int ((p1.toInt8.toInt32).toInt8.toInt32))) Ar46.1 (State.isArrayOf_alike hZ.alike Ar46.2.1) Ar46.2.2 hin46 hat46 (g := (mkF m 88 #[.val (.int p0), .val (.int p1), .val (.int p2), .val (.int p3), .val (.int p4), .val (.int (2 : Int32)), .val (.ref b39), .val (.ref b44), .val (.int (1 : Int32)), .unset] [(.int (0 : Int32)), (.ref b44)])) rfl rfl (hb hby at_88) _ ?_
      show Steps p.tables e below (T44.setTop (mkF m 89 #[.val (.int p0), .val (.int p1), .val (.int p2), .val (.int p3), .val (.int p4), .val (.int (2 : Int32)), .val (.ref b39), .val (.ref b44), .val (.int (1 : Int32)), .unset] [(.int ((p1.toInt8.toInt32).toInt8.toInt32))])) _
      refine XS.iloadN X44.here hx rfl (hb hby at_89) rfl ?_
      show Steps p.tables e below (T44.setTop (mkF m 90 #[.val (.int p0), .val (.int p1), .val (.int p2), .val (.int p3), .val (.int p4), .val (.int (2 : Int32)), .val (.ref b39), .val (.ref b44), .val (.int (1 : Int32)), .unset] [(.int p1), (.int ((p1.toInt8.toInt32).toInt8.toInt32))])) _
      refine XS.i2b X44.here hx rfl (hb hby at_90) rfl ?_
      exact k)
    obtain ⟨T48, L48, X48, e48, N48, pre48⟩ : ∃ (T' : State) (locs' : List Loc), Stand p l e room_1 s m #[(.int p0), (.int p1), (.int p2), (.int p3), (.int p4)] below meth c T' locs' 2 6 ∧ T'.heap = T44.heap ∧ Fr n0 locs' ∧ ∀ t, Steps p.tables e below (T'.setTop (mkF m 108 #[.val (.int p0), .val (.int p1), .val (.int p2), .val (.int p3), .val (.int p4), .val (.int (2 : Int32)), .val (.ref b39), .val (.ref b44), .val (.int (1 : Int32)), .unset] [(.int (f0_m53 p0 p1 p2 p3 p4))])) t → Steps p.tables e below (s₁.setTop (entryFrame m #[(.int p0), (.int p1), (.int p2), (.int p3), (.int p4)] maxLocals)) t := by
      by_cases hc91_48 : ((p1.toInt8.toInt32).toInt8.toInt32) = (p1.toInt8.toInt32)
      · have y49 := (V43.keep K44 nin0)
        obtain ⟨cl50, Ar50, q50, S50, M50, H50, G50⟩ := id y49
        have hin50 : ¬ ((0 : Int32) < 0 ∨ cl50.slots.size ≤ ((0 : Int32)).toNatClampNeg) := inb_of S50 ⟨by decide, by decide⟩
        have hat50 : cl50.slots[((0 : Int32)).toNatClampNeg]? = some (.int ((p1.toInt8.toInt32).toInt8.toInt32)) := H50.at hin50 rfl
        have pre51 : ∀ t, Steps p.tables e below (T44.setTop (mkF m 108 #[.val (.int p0), .val (.int p1), .val (.int p2), .val (.int p3), .val (.int p4), .val (.int (2 : Int32)), .val (.ref b39), .val (.ref b44), .val (.int (1 : Int32)), .unset] [(.int (1 : Int32))])) t → Steps p.tables e below (s₁.setTop (entryFrame m #[(.int p0), (.int p1), (.int p2), (.int p3), (.int p4)] maxLocals)) t := fun t k => pre47 t (by
          show Steps p.tables e below (T44.setTop (mkF m 91 #[.val (.int p0), .val (.int p1), .val (.int p2), .val (.int p3), .val (.int p4), .val (.int (2 : Int32)), .val (.ref b39), .val (.ref b44), .val (.int (1 : Int32)), .unset] [(.int (p1.toInt8.toInt32)), (.int ((p1.toInt8.toInt32).toInt8.toInt32))])) _
          refine XS.icmpNo X44.here hx rfl (hb hby at_91) rfl (teq hc91_48).2 ?_
          show Steps p.tables e below (T44.setTop (mkF m 94 #[.val (.int p0), .val (.int p1), .val (.int p2), .val (.int p3), .val (.int p4), .val (.int (2 : Int32)), .val (.ref b39), .val (.ref b44), .val (.int (1 : Int32)), .unset] [])) _
          refine XS.aload X44.here hx rfl (hb hby at_94) rfl rfl ?_
          show Steps p.tables e below (T44.setTop (mkF m 96 #[.val (.int p0), .val (.int p1), .val (.int p2), .val (.int p3), .val (.int p4), .val (.int (2 : Int32)), .val (.ref b39), .val (.ref b44), .val (.int (1 : Int32)), .unset] [(.ref b39)])) _
          refine XS.iconst X44.here hx rfl (hb hby at_96) ?_
          show Steps p.tables e below (T44.setTop (mkF m 97 #[.val (.int p0), .val (.int p1), .val (.int p2), .val (.int p3), .val (.int p4), .val (.int (2 : Int32)), .val (.ref b39), .val (.ref b44), .val (.int (1 : Int32)), .unset] [(.int (0 : Int32)), (.ref b39)])) _
          refine X44.baloadBytes hx (j := (0 : Int32)) (v := (.int ((p1.toInt8.toInt32).toInt8.toInt32))) Ar50.1 (State.isArrayOf_alike hZ.alike Ar50.2.1) Ar50.2.2 hin50 hat50 (g := (mkF m 97 #[.val (.int p0), .val (.int p1), .val (.int p2), .val (.int p3), .val (.int p4), .val (.int (2 : Int32)), .val (.ref b39), .val (.ref b44), .val (.int (1 : Int32)), .unset] [(.int (0 : Int32)), (.ref b39)])) rfl rfl (hb hby at_97) _ ?_
          show Steps p.tables e below (T44.setTop (mkF m 98 #[.val (.int p0), .val (.int p1), .val (.int p2), .val (.int p3), .val (.int p4), .val (.int (2 : Int32)), .val (.ref b39), .val (.ref b44), .val (.int (1 : Int32)), .unset] [(.int ((p1.toInt8.toInt32).toInt8.toInt32))])) _
          refine XS.iloadN X44.here hx rfl (hb hby at_98) rfl ?_
          show Steps p.tables e below (T44.setTop (mkF m 99 #[.val (.int p0), .val (.int p1), .val (.int p2), .val (.int p3), .val (.int p4), .val (.int (2 : Int32)), .val (.ref b39), .val (.ref b44), .val (.int (1 : Int32)), .unset] [(.int p1), (.int ((p1.toInt8.toInt32).toInt8.toInt32))])) _
          refine XS.i2b X44.here hx rfl (hb hby at_99) rfl ?_
          show Steps p.tables e below (T44.setTop (mkF m 100 #[.val (.int p0), .val (.int p1), .val (.int p2), .val (.int p3), .val (.int p4), .val (.int (2 : Int32)), .val (.ref b39), .val (.ref b44), .val (.int (1 : Int32)), .unset] [(.int (p1.toInt8.toInt32)), (.int ((p1.toInt8.toInt32).toInt8.toInt32))])) _
          refine XS.icmpNo X44.here hx rfl (hb hby at_100) rfl (teq hc91_48).2 ?_
          show Steps p.tables e below (T44.setTop (mkF m 103 #[.val (.int p0), .val (.int p1), .val (.int p2), .val (.int p3), .val (.int p4), .val (.int (2 : Int32)), .val (.ref b39), .val (.ref b44), .val (.int (1 : Int32)), .unset] [])) _
          refine XS.iconst X44.here hx rfl (hb hby at_103) ?_
          show Steps p.tables e below (T44.setTop (mkF m 104 #[.val (.int p0), .val (.int p1), .val (.int p2), .val (.int p3), .val (.int p4), .val (.int (2 : Int32)), .val (.ref b39), .val (.ref b44), .val (.int (1 : Int32)), .unset] [(.int (1 : Int32))])) _
          refine XS.goto X44.here hx rfl (pc0 := 104) (pc' := 108) rfl (hb hby at_104) (by decide) (by decide) ?_
          exact k)
        have q_f0_m53 : f0_m53 p0 p1 p2 p3 p4 = (1 : Int32) := by unfold f0_m53; rw [if_pos hc91_48]
        rw [q_f0_m53]
        exact ⟨T44, _, X44, rfl, N44, pre51⟩
      have pre52 : ∀ t, Steps p.tables e below (T44.setTop (mkF m 108 #[.val (.int p0), .val (.int p1), .val (.int p2), .val (.int p3), .val (.int p4), .val (.int (2 : Int32)), .val (.ref b39), .val (.ref b44), .val (.int (1 : Int32)), .unset] [(.int (0 : Int32))])) t → Steps p.tables e below (s₁.setTop (entryFrame m #[(.int p0), (.int p1), (.int p2), (.int p3), (.int p4)] maxLocals)) t := fun t k => pre47 t (by
        show Steps p.tables e below (T44.setTop (mkF m 91 #[.val (.int p0), .val (.int p1), .val (.int p2), .val (.int p3), .val (.int p4), .val (.int (2 : Int32)), .val (.ref b39), .val (.ref b44), .val (.int (1 : Int32)), .unset] [(.int (p1.toInt8.toInt32)), (.int ((p1.toInt8.toInt32).toInt8.toInt32))])) _
        refine XS.icmpYes X44.here hx rfl (pc0 := 91) (pc' := 107) rfl (hb hby at_91) rfl (feq hc91_48).2 (by decide) (by decide) ?_
        show Steps p.tables e below (T44.setTop (mkF m 107 #[.val (.int p0), .val (.int p1), .val (.int p2), .val (.int p3), .val (.int p4), .val (.int (2 : Int32)), .val (.ref b39), .val (.ref b44), .val (.int (1 : Int32)), .unset] [])) _
        refine XS.iconst X44.here hx rfl (hb hby at_107) ?_
        exact k)
      have q_f0_m53 : f0_m53 p0 p1 p2 p3 p4 = (0 : Int32) := by unfold f0_m53; rw [if_neg hc91_48]
      rw [q_f0_m53]
      exact ⟨T44, _, X44, rfl, N44, pre52⟩
    have pre54 : ∀ t, Steps p.tables e below (T48.setTop (mkF m 118 #[.val (.int p0), .val (.int p1), .val (.int p2), .val (.int p3), .val (.int p4), .val (.int (2 : Int32)), .val (.ref b39), .val (.ref b44), .val (.int (f0_m53 p0 p1 p2 p3 p4)), .unset] [(.int (f0_m53 p0 p1 p2 p3 p4))])) t → Steps p.tables e below (s₁.setTop (entryFrame m #[(.int p0), (.int p1), (.int p2), (.int p3), (.int p4)] maxLocals)) t := fun t k => pre48 t (by
      show Steps p.tables e below (T48.setTop (mkF m 108 #[.val (.int p0), .val (.int p1), .val (.int p2), .val (.int p3), .val (.int p4), .val (.int (2 : Int32)), .val (.ref b39), .val (.ref b44), .val (.int (1 : Int32)), .unset] [(.int (f0_m53 p0 p1 p2 p3 p4))])) _
      refine XS.istore X48.here hx rfl (hb hby at_108) rfl (l' := #[.val (.int p0), .val (.int p1), .val (.int p2), .val (.int p3), .val (.int p4), .val (.int (2 : Int32)), .val (.ref b39), .val (.ref b44), .val (.int (f0_m53 p0 p1 p2 p3 p4)), .unset]) rfl ?_
      show Steps p.tables e below (T48.setTop (mkF m 110 #[.val (.int p0), .val (.int p1), .val (.int p2), .val (.int p3), .val (.int p4), .val (.int (2 : Int32)), .val (.ref b39), .val (.ref b44), .val (.int (f0_m53 p0 p1 p2 p3 p4)), .unset] [])) _
      refine XS.iload X48.here hx rfl (hb hby at_110) rfl ?_
      show Steps p.tables e below (T48.setTop (mkF m 112 #[.val (.int p0), .val (.int p1), .val (.int p2), .val (.int p3), .val (.int p4), .val (.int (2 : Int32)), .val (.ref b39), .val (.ref b44), .val (.int (f0_m53 p0 p1 p2 p3 p4)), .unset] [(.int (2 : Int32))])) _
      refine XS.iconst X48.here hx rfl (hb hby at_112) ?_
      show Steps p.tables e below (T48.setTop (mkF m 113 #[.val (.int p0), .val (.int p1), .val (.int p2), .val (.int p3), .val (.int p4), .val (.int (2 : Int32)), .val (.ref b39), .val (.ref b44), .val (.int (f0_m53 p0 p1 p2 p3 p4)), .unset] [(.int (1 : Int32)), (.int (2 : Int32))])) _
      refine XS.icmpNo X48.here hx rfl (hb hby at_113) rfl (tlt (by decide : (1 : Int32) < (2 : Int32))).2.2.2 ?_
      show Steps p.tables e below (T48.setTop (mkF m 116 #[.val (.int p0), .val (.int p1), .val (.int p2), .val (.int p3), .val (.int p4), .val (.int (2 : Int32)), .val (.ref b39), .val (.ref b44), .val (.int (f0_m53 p0 p1 p2 p3 p4)), .unset] [])) _
      refine XS.iload X48.here hx rfl (hb hby at_116) rfl ?_
      exact k)
    obtain ⟨T55, L55, X55, e55, N55, pre55⟩ : ∃ (T' : State) (locs' : List Loc), Stand p l e room_1 s m #[(.int p0), (.int p1), (.int p2), (.int p3), (.int p4)] below meth c T' locs' 2 6 ∧ T'.heap = T44.heap ∧ Fr n0 locs' ∧ ∀ t, Steps p.tables e below (T'.setTop (mkF m 144 #[.val (.int p0), .val (.int p1), .val (.int p2), .val (.int p3), .val (.int p4), .val (.int (2 : Int32)), .val (.ref b39), .val (.ref b44), .val (.int (f0_m53 p0 p1 p2 p3 p4)), .unset] [(.int (f0_m64 p0 p1 p2 p3 p4))])) t → Steps p.tables e below (s₁.setTop (entryFrame m #[(.int p0), (.int p1), (.int p2), (.int p3), (.int p4)] maxLocals)) t := by
      by_cases hc118_55 : (f0_m53 p0 p1 p2 p3 p4) = (0 : Int32)
      · have pre56 : ∀ t, Steps p.tables e below (T48.setTop (mkF m 144 #[.val (.int p0), .val (.int p1), .val (.int p2), .val (.int p3), .val (.int p4), .val (.int (2 : Int32)), .val (.ref b39), .val (.ref b44), .val (.int (f0_m53 p0 p1 p2 p3 p4)), .unset] [(.int (0 : Int32))])) t → Steps p.tables e below (s₁.setTop (entryFrame m #[(.int p0), (.int p1), (.int p2), (.int p3), (.int p4)] maxLocals)) t := fun t k => pre54 t (by
          show Steps p.tables e below (T48.setTop (mkF m 118 #[.val (.int p0), .val (.int p1), .val (.int p2), .val (.int p3), .val (.int p4), .val (.int (2 : Int32)), .val (.ref b39), .val (.ref b44), .val (.int (f0_m53 p0 p1 p2 p3 p4)), .unset] [(.int (f0_m53 p0 p1 p2 p3 p4))])) _
          refine XS.ifYes X48.here hx rfl (pc0 := 118) (pc' := 143) rfl (hb hby at_118) rfl ((if0 _ _).trans (teq hc118_55).1) (by decide) (by decide) ?_
          show Steps p.tables e below (T48.setTop (mkF m 143 #[.val (.int p0), .val (.int p1), .val (.int p2), .val (.int p3), .val (.int p4), .val (.int (2 : Int32)), .val (.ref b39), .val (.ref b44), .val (.int (f0_m53 p0 p1 p2 p3 p4)), .unset] [])) _
          refine XS.iconst X48.here hx rfl (hb hby at_143) ?_
          exact k)
        have q_f0_m64 : f0_m64 p0 p1 p2 p3 p4 = (0 : Int32) := by unfold f0_m64; rw [if_pos hc118_55]
        rw [q_f0_m64]
        exact ⟨T48, _, X48, e48, N48, pre56⟩
      obtain ⟨cl57, Ar57, q57, S57, M57, H57, G57⟩ := id u44_0
      have hin57 : ¬ ((1 : Int32) < 0 ∨ cl57.slots.size ≤ ((1 : Int32)).toNatClampNeg) := inb_of S57 ⟨by decide, by decide⟩
      have hat57 : cl57.slots[((1 : Int32)).toNatClampNeg]? = some (.int ((p2.toInt8.toInt32).toInt8.toInt32)) := H57.at hin57 rfl
      have pre58 : ∀ t, Steps p.tables e below (T48.setTop (mkF m 127 #[.val (.int p0), .val (.int p1), .val (.int p2), .val (.int p3), .val (.int p4), .val (.int (2 : Int32)), .val (.ref b39), .val (.ref b44), .val (.int (f0_m53 p0 p1 p2 p3 p4)), .unset] [(.int (p2.toInt8.toInt32)), (.int ((p2.toInt8.toInt32).toInt8.toInt32))])) t → Steps p.tables e below (s₁.setTop (entryFrame m #[(.int p0), (.int p1), (.int p2), (.int p3), (.int p4)] maxLocals)) t := fun t k => pre54 t (by
        show Steps p.tables e below (T48.setTop (mkF m 118 #[.val (.int p0), .val (.int p1), .val (.int p2), .val (.int p3), .val (.int p4), .val (.int (2 : Int32)), .val (.ref b39), .val (.ref b44), .val (.int (f0_m53 p0 p1 p2 p3 p4)), .unset] [(.int (f0_m53 p0 p1 p2 p3 p4))])) _
        refine XS.ifNo X48.here hx rfl (hb hby at_118) rfl ((if0 _ _).trans (feq hc118_55).1) ?_
        show Steps p.tables e below (T48.setTop (mkF m 121 #[.val (.int p0), .val (.int p1), .val (.int p2), .val (.int p3), .val (.int p4), .val (.int (2 : Int32)), .val (.ref b39), .val (.ref b44), .val (.int (f0_m53 p0 p1 p2 p3 p4)), .unset] [])) _
        refine XS.aload X48.here hx rfl (hb hby at_121) rfl rfl ?_
        show Steps p.tables e below (T48.setTop (mkF m 123 #[.val (.int p0), .val (.int p1), .val (.int p2), .val (.int p3), .val (.int p4), .val (.int (2 : Int32)), .val (.ref b39), .val (.ref b44), .val (.int (f0_m53 p0 p1 p2 p3 p4)), .unset] [(.ref b44)])) _
        refine XS.iconst X48.here hx rfl (hb hby at_123) ?_
        show Steps p.tables e below (T48.setTop (mkF m 124 #[.val (.int p0), .val (.int p1), .val (.int p2), .val (.int p3), .val (.int p4), .val (.int (2 : Int32)), .val (.ref b39), .val (.ref b44), .val (.int (f0_m53 p0 p1 p2 p3 p4)), .unset] [(.int (1 : Int32)), (.ref b44)])) _
        refine X48.baloadBytes hx (j := (1 : Int32)) (v := (.int ((p2.toInt8.toInt32).toInt8.toInt32))) (by rw [e48]; exact Ar57.1) (State.isArrayOf_alike hZ.alike Ar57.2.1) Ar57.2.2 hin57 hat57 (g := (mkF m 124 #[.val (.int p0), .val (.int p1), .val (.int p2), .val (.int p3), .val (.int p4), .val (.int (2 : Int32)), .val (.ref b39), .val (.ref b44), .val (.int (f0_m53 p0 p1 p2 p3 p4)), .unset] [(.int (1 : Int32)), (.ref b44)])) rfl rfl (hb hby at_124) _ ?_
        show Steps p.tables e below (T48.setTop (mkF m 125 #[.val (.int p0), .val (.int p1), .val (.int p2), .val (.int p3), .val (.int p4), .val (.int (2 : Int32)), .val (.ref b39), .val (.ref b44), .val (.int (f0_m53 p0 p1 p2 p3 p4)), .unset] [(.int ((p2.toInt8.toInt32).toInt8.toInt32))])) _
        refine XS.iloadN X48.here hx rfl (hb hby at_125) rfl ?_
        show Steps p.tables e below (T48.setTop (mkF m 126 #[.val (.int p0), .val (.int p1), .val (.int p2), .val (.int p3), .val (.int p4), .val (.int (2 : Int32)), .val (.ref b39), .val (.ref b44), .val (.int (f0_m53 p0 p1 p2 p3 p4)), .unset] [(.int p2), (.int ((p2.toInt8.toInt32).toInt8.toInt32))])) _
        refine XS.i2b X48.here hx rfl (hb hby at_126) rfl ?_
        exact k)
      by_cases hc127_59 : ((p2.toInt8.toInt32).toInt8.toInt32) = (p2.toInt8.toInt32)
      · have y60 := (V43.keep K44 nin0)
        obtain ⟨cl61, Ar61, q61, S61, M61, H61, G61⟩ := id y60
        have hin61 : ¬ ((1 : Int32) < 0 ∨ cl61.slots.size ≤ ((1 : Int32)).toNatClampNeg) := inb_of S61 ⟨by decide, by decide⟩
        have hat61 : cl61.slots[((1 : Int32)).toNatClampNeg]? = some (.int ((p2.toInt8.toInt32).toInt8.toInt32)) := H61.at hin61 rfl
        have pre62 : ∀ t, Steps p.tables e below (T48.setTop (mkF m 144 #[.val (.int p0), .val (.int p1), .val (.int p2), .val (.int p3), .val (.int p4), .val (.int (2 : Int32)), .val (.ref b39), .val (.ref b44), .val (.int (f0_m53 p0 p1 p2 p3 p4)), .unset] [(.int (1 : Int32))])) t → Steps p.tables e below (s₁.setTop (entryFrame m #[(.int p0), (.int p1), (.int p2), (.int p3), (.int p4)] maxLocals)) t := fun t k => pre58 t (by
          show Steps p.tables e below (T48.setTop (mkF m 127 #[.val (.int p0), .val (.int p1), .val (.int p2), .val (.int p3), .val (.int p4), .val (.int (2 : Int32)), .val (.ref b39), .val (.ref b44), .val (.int (f0_m53 p0 p1 p2 p3 p4)), .unset] [(.int (p2.toInt8.toInt32)), (.int ((p2.toInt8.toInt32).toInt8.toInt32))])) _
          refine XS.icmpNo X48.here hx rfl (hb hby at_127) rfl (teq hc127_59).2 ?_
          show Steps p.tables e below (T48.setTop (mkF m 130 #[.val (.int p0), .val (.int p1), .val (.int p2), .val (.int p3), .val (.int p4), .val (.int (2 : Int32)), .val (.ref b39), .val (.ref b44), .val (.int (f0_m53 p0 p1 p2 p3 p4)), .unset] [])) _
          refine XS.aload X48.here hx rfl (hb hby at_130) rfl rfl ?_
          show Steps p.tables e below (T48.setTop (mkF m 132 #[.val (.int p0), .val (.int p1), .val (.int p2), .val (.int p3), .val (.int p4), .val (.int (2 : Int32)), .val (.ref b39), .val (.ref b44), .val (.int (f0_m53 p0 p1 p2 p3 p4)), .unset] [(.ref b39)])) _
          refine XS.iconst X48.here hx rfl (hb hby at_132) ?_
          show Steps p.tables e below (T48.setTop (mkF m 133 #[.val (.int p0), .val (.int p1), .val (.int p2), .val (.int p3), .val (.int p4), .val (.int (2 : Int32)), .val (.ref b39), .val (.ref b44), .val (.int (f0_m53 p0 p1 p2 p3 p4)), .unset] [(.int (1 : Int32)), (.ref b39)])) _
          refine X48.baloadBytes hx (j := (1 : Int32)) (v := (.int ((p2.toInt8.toInt32).toInt8.toInt32))) (by rw [e48]; exact Ar61.1) (State.isArrayOf_alike hZ.alike Ar61.2.1) Ar61.2.2 hin61 hat61 (g := (mkF m 133 #[.val (.int p0), .val (.int p1), .val (.int p2), .val (.int p3), .val (.int p4), .val (.int (2 : Int32)), .val (.ref b39), .val (.ref b44), .val (.int (f0_m53 p0 p1 p2 p3 p4)), .unset] [(.int (1 : Int32)), (.ref b39)])) rfl rfl (hb hby at_133) _ ?_
          show Steps p.tables e below (T48.setTop (mkF m 134 #[.val (.int p0), .val (.int p1), .val (.int p2), .val (.int p3), .val (.int p4), .val (.int (2 : Int32)), .val (.ref b39), .val (.ref b44), .val (.int (f0_m53 p0 p1 p2 p3 p4)), .unset] [(.int ((p2.toInt8.toInt32).toInt8.toInt32))])) _
          refine XS.iloadN X48.here hx rfl (hb hby at_134) rfl ?_
          show Steps p.tables e below (T48.setTop (mkF m 135 #[.val (.int p0), .val (.int p1), .val (.int p2), .val (.int p3), .val (.int p4), .val (.int (2 : Int32)), .val (.ref b39), .val (.ref b44), .val (.int (f0_m53 p0 p1 p2 p3 p4)), .unset] [(.int p2), (.int ((p2.toInt8.toInt32).toInt8.toInt32))])) _
          refine XS.i2b X48.here hx rfl (hb hby at_135) rfl ?_
          show Steps p.tables e below (T48.setTop (mkF m 136 #[.val (.int p0), .val (.int p1), .val (.int p2), .val (.int p3), .val (.int p4), .val (.int (2 : Int32)), .val (.ref b39), .val (.ref b44), .val (.int (f0_m53 p0 p1 p2 p3 p4)), .unset] [(.int (p2.toInt8.toInt32)), (.int ((p2.toInt8.toInt32).toInt8.toInt32))])) _
          refine XS.icmpNo X48.here hx rfl (hb hby at_136) rfl (teq hc127_59).2 ?_
          show Steps p.tables e below (T48.setTop (mkF m 139 #[.val (.int p0), .val (.int p1), .val (.int p2), .val (.int p3), .val (.int p4), .val (.int (2 : Int32)), .val (.ref b39), .val (.ref b44), .val (.int (f0_m53 p0 p1 p2 p3 p4)), .unset] [])) _
          refine XS.iconst X48.here hx rfl (hb hby at_139) ?_
          show Steps p.tables e below (T48.setTop (mkF m 140 #[.val (.int p0), .val (.int p1), .val (.int p2), .val (.int p3), .val (.int p4), .val (.int (2 : Int32)), .val (.ref b39), .val (.ref b44), .val (.int (f0_m53 p0 p1 p2 p3 p4)), .unset] [(.int (1 : Int32))])) _
          refine XS.goto X48.here hx rfl (pc0 := 140) (pc' := 144) rfl (hb hby at_140) (by decide) (by decide) ?_
          exact k)
        have q_f0_m64 : f0_m64 p0 p1 p2 p3 p4 = (1 : Int32) := by unfold f0_m64; rw [if_neg hc118_55, if_pos hc127_59]
        rw [q_f0_m64]
        exact ⟨T48, _, X48, e48, N48, pre62⟩
      have pre63 : ∀ t, Steps p.tables e below (T48.setTop (mkF m 144 #[.val (.int p0), .val (.int p1), .val (.int p2), .val (.int p3), .val (.int p4), .val (.int (2 : Int32)), .val (.ref b39), .val (.ref b44), .val (.int (f0_m53 p0 p1 p2 p3 p4)), .unset] [(.int (0 : Int32))])) t → Steps p.tables e below (s₁.setTop (entryFrame m #[(.int p0), (.int p1), (.int p2), (.int p3), (.int p4)] maxLocals)) t := fun t k => pre58 t (by
        show Steps p.tables e below (T48.setTop (mkF m 127 #[.val (.int p0), .val (.int p1), .val (.int p2), .val (.int p3), .val (.int p4), .val (.int (2 : Int32)), .val (.ref b39), .val (.ref b44), .val (.int (f0_m53 p0 p1 p2 p3 p4)), .unset] [(.int (p2.toInt8.toInt32)), (.int ((p2.toInt8.toInt32).toInt8.toInt32))])) _
        refine XS.icmpYes X48.here hx rfl (pc0 := 127) (pc' := 143) rfl (hb hby at_127) rfl (feq hc127_59).2 (by decide) (by decide) ?_
        show Steps p.tables e below (T48.setTop (mkF m 143 #[.val (.int p0), .val (.int p1), .val (.int p2), .val (.int p3), .val (.int p4), .val (.int (2 : Int32)), .val (.ref b39), .val (.ref b44), .val (.int (f0_m53 p0 p1 p2 p3 p4)), .unset] [])) _
        refine XS.iconst X48.here hx rfl (hb hby at_143) ?_
        exact k)
      have q_f0_m64 : f0_m64 p0 p1 p2 p3 p4 = (0 : Int32) := by unfold f0_m64; rw [if_neg hc118_55, if_neg hc127_59]
      rw [q_f0_m64]
      exact ⟨T48, _, X48, e48, N48, pre63⟩
    obtain ⟨cl65, Ar65, q65, S65, M65, H65, G65⟩ := id u44_0
    have hin65 : ¬ ((2 : Int32) < 0 ∨ cl65.slots.size ≤ ((2 : Int32)).toNatClampNeg) := inb_of S65 ⟨by decide, by decide⟩
    have hat65 : cl65.slots[((2 : Int32)).toNatClampNeg]? = some (.int (((p4 >>> ((8 : Int32) &&& 31)).toInt8.toInt32).toInt8.toInt32)) := H65.at hin65 rfl
    obtain ⟨cl66, Ar66, q66, S66, M66, H66, G66⟩ := id u44_0
    have hin66 : ¬ ((3 : Int32) < 0 ∨ cl66.slots.size ≤ ((3 : Int32)).toNatClampNeg) := inb_of S66 ⟨by decide, by decide⟩
    have hat66 : cl66.slots[((3 : Int32)).toNatClampNeg]? = some (.int ((p4.toInt8.toInt32).toInt8.toInt32)) := H66.at hin66 rfl
    have pre67 : ∀ t, Steps p.tables e below (T55.setTop (mkF m 210 #[.val (.int p0), .val (.int p1), .val (.int p2), .val (.int p3), .val (.int p4), .val (.int (2 : Int32)), .val (.ref b39), .val (.ref b44), .val (.int (f0_m64 p0 p1 p2 p3 p4)), .val (.int ((((((p4 >>> ((8 : Int32) &&& 31)).toInt8.toInt32).toInt8.toInt32) &&& (255 : Int32)) <<< ((8 : Int32) &&& 31)) ||| (((p4.toInt8.toInt32).toInt8.toInt32) &&& (255 : Int32))))] [(.int (f0_m64 p0 p1 p2 p3 p4))])) t → Steps p.tables e below (s₁.setTop (entryFrame m #[(.int p0), (.int p1), (.int p2), (.int p3), (.int p4)] maxLocals)) t := fun t k => pre55 t (by
      show Steps p.tables e below (T55.setTop (mkF m 144 #[.val (.int p0), .val (.int p1), .val (.int p2), .val (.int p3), .val (.int p4), .val (.int (2 : Int32)), .val (.ref b39), .val (.ref b44), .val (.int (f0_m53 p0 p1 p2 p3 p4)), .unset] [(.int (f0_m64 p0 p1 p2 p3 p4))])) _
      refine XS.istore X55.here hx rfl (hb hby at_144) rfl (l' := #[.val (.int p0), .val (.int p1), .val (.int p2), .val (.int p3), .val (.int p4), .val (.int (2 : Int32)), .val (.ref b39), .val (.ref b44), .val (.int (f0_m64 p0 p1 p2 p3 p4)), .unset]) rfl ?_
      show Steps p.tables e below (T55.setTop (mkF m 146 #[.val (.int p0), .val (.int p1), .val (.int p2), .val (.int p3), .val (.int p4), .val (.int (2 : Int32)), .val (.ref b39), .val (.ref b44), .val (.int (f0_m64 p0 p1 p2 p3 p4)), .unset] [])) _
      refine XS.iload X55.here hx rfl (hb hby at_146) rfl ?_
      show Steps p.tables e below (T55.setTop (mkF m 148 #[.val (.int p0), .val (.int p1), .val (.int p2), .val (.int p3), .val (.int p4), .val (.int (2 : Int32)), .val (.ref b39), .val (.ref b44), .val (.int (f0_m64 p0 p1 p2 p3 p4)), .unset] [(.int (2 : Int32))])) _
      refine XS.iconst X55.here hx rfl (hb hby at_148) ?_
      show Steps p.tables e below (T55.setTop (mkF m 149 #[.val (.int p0), .val (.int p1), .val (.int p2), .val (.int p3), .val (.int p4), .val (.int (2 : Int32)), .val (.ref b39), .val (.ref b44), .val (.int (f0_m64 p0 p1 p2 p3 p4)), .unset] [(.int (2 : Int32)), (.int (2 : Int32))])) _
      refine XS.icmpYes X55.here hx rfl (pc0 := 149) (pc' := 182) rfl (hb hby at_149) rfl (flt (by decide : ¬ ((2 : Int32) < (2 : Int32)))).2.2.2 (by decide) (by decide) ?_
      show Steps p.tables e below (T55.setTop (mkF m 182 #[.val (.int p0), .val (.int p1), .val (.int p2), .val (.int p3), .val (.int p4), .val (.int (2 : Int32)), .val (.ref b39), .val (.ref b44), .val (.int (f0_m64 p0 p1 p2 p3 p4)), .unset] [])) _
      refine XS.aload X55.here hx rfl (hb hby at_182) rfl rfl ?_
      show Steps p.tables e below (T55.setTop (mkF m 184 #[.val (.int p0), .val (.int p1), .val (.int p2), .val (.int p3), .val (.int p4), .val (.int (2 : Int32)), .val (.ref b39), .val (.ref b44), .val (.int (f0_m64 p0 p1 p2 p3 p4)), .unset] [(.ref b44)])) _
      refine XS.iload X55.here hx rfl (hb hby at_184) rfl ?_
      show Steps p.tables e below (T55.setTop (mkF m 186 #[.val (.int p0), .val (.int p1), .val (.int p2), .val (.int p3), .val (.int p4), .val (.int (2 : Int32)), .val (.ref b39), .val (.ref b44), .val (.int (f0_m64 p0 p1 p2 p3 p4)), .unset] [(.int (2 : Int32)), (.ref b44)])) _
      refine X55.baloadBytes hx (j := (2 : Int32)) (v := (.int (((p4 >>> ((8 : Int32) &&& 31)).toInt8.toInt32).toInt8.toInt32))) (by rw [e55]; exact Ar65.1) (State.isArrayOf_alike hZ.alike Ar65.2.1) Ar65.2.2 hin65 hat65 (g := (mkF m 186 #[.val (.int p0), .val (.int p1), .val (.int p2), .val (.int p3), .val (.int p4), .val (.int (2 : Int32)), .val (.ref b39), .val (.ref b44), .val (.int (f0_m64 p0 p1 p2 p3 p4)), .unset] [(.int (2 : Int32)), (.ref b44)])) rfl rfl (hb hby at_186) _ ?_
      show Steps p.tables e below (T55.setTop (mkF m 187 #[.val (.int p0), .val (.int p1), .val (.int p2), .val (.int p3), .val (.int p4), .val (.int (2 : Int32)), .val (.ref b39), .val (.ref b44), .val (.int (f0_m64 p0 p1 p2 p3 p4)), .unset] [(.int (((p4 >>> ((8 : Int32) &&& 31)).toInt8.toInt32).toInt8.toInt32))])) _
      refine XS.sipush X55.here hx rfl (hb hby at_187) ?_
      show Steps p.tables e below (T55.setTop (mkF m 190 #[.val (.int p0), .val (.int p1), .val (.int p2), .val (.int p3), .val (.int p4), .val (.int (2 : Int32)), .val (.ref b39), .val (.ref b44), .val (.int (f0_m64 p0 p1 p2 p3 p4)), .unset] [(.int (255 : Int32)), (.int (((p4 >>> ((8 : Int32) &&& 31)).toInt8.toInt32).toInt8.toInt32))])) _
      refine XS.iand X55.here hx rfl (hb hby at_190) rfl ?_
      show Steps p.tables e below (T55.setTop (mkF m 191 #[.val (.int p0), .val (.int p1), .val (.int p2), .val (.int p3), .val (.int p4), .val (.int (2 : Int32)), .val (.ref b39), .val (.ref b44), .val (.int (f0_m64 p0 p1 p2 p3 p4)), .unset] [(.int ((((p4 >>> ((8 : Int32) &&& 31)).toInt8.toInt32).toInt8.toInt32) &&& (255 : Int32)))])) _
      refine XS.bipush X55.here hx rfl (hb hby at_191) ?_
      show Steps p.tables e below (T55.setTop (mkF m 193 #[.val (.int p0), .val (.int p1), .val (.int p2), .val (.int p3), .val (.int p4), .val (.int (2 : Int32)), .val (.ref b39), .val (.ref b44), .val (.int (f0_m64 p0 p1 p2 p3 p4)), .unset] [(.int (8 : Int32)), (.int ((((p4 >>> ((8 : Int32) &&& 31)).toInt8.toInt32).toInt8.toInt32) &&& (255 : Int32)))])) _
      refine XS.ishl X55.here hx rfl (hb hby at_193) rfl ?_
      show Steps p.tables e below (T55.setTop (mkF m 194 #[.val (.int p0), .val (.int p1), .val (.int p2), .val (.int p3), .val (.int p4), .val (.int (2 : Int32)), .val (.ref b39), .val (.ref b44), .val (.int (f0_m64 p0 p1 p2 p3 p4)), .unset] [(.int (((((p4 >>> ((8 : Int32) &&& 31)).toInt8.toInt32).toInt8.toInt32) &&& (255 : Int32)) <<< ((8 : Int32) &&& 31)))])) _
      refine XS.aload X55.here hx rfl (hb hby at_194) rfl rfl ?_
      show Steps p.tables e below (T55.setTop (mkF m 196 #[.val (.int p0), .val (.int p1), .val (.int p2), .val (.int p3), .val (.int p4), .val (.int (2 : Int32)), .val (.ref b39), .val (.ref b44), .val (.int (f0_m64 p0 p1 p2 p3 p4)), .unset] [(.ref b44), (.int (((((p4 >>> ((8 : Int32) &&& 31)).toInt8.toInt32).toInt8.toInt32) &&& (255 : Int32)) <<< ((8 : Int32) &&& 31)))])) _
      refine XS.iload X55.here hx rfl (hb hby at_196) rfl ?_
      show Steps p.tables e below (T55.setTop (mkF m 198 #[.val (.int p0), .val (.int p1), .val (.int p2), .val (.int p3), .val (.int p4), .val (.int (2 : Int32)), .val (.ref b39), .val (.ref b44), .val (.int (f0_m64 p0 p1 p2 p3 p4)), .unset] [(.int (2 : Int32)), (.ref b44), (.int (((((p4 >>> ((8 : Int32) &&& 31)).toInt8.toInt32).toInt8.toInt32) &&& (255 : Int32)) <<< ((8 : Int32) &&& 31)))])) _
      refine XS.iconst X55.here hx rfl (hb hby at_198) ?_
      show Steps p.tables e below (T55.setTop (mkF m 199 #[.val (.int p0), .val (.int p1), .val (.int p2), .val (.int p3), .val (.int p4), .val (.int (2 : Int32)), .val (.ref b39), .val (.ref b44), .val (.int (f0_m64 p0 p1 p2 p3 p4)), .unset] [(.int (1 : Int32)), (.int (2 : Int32)), (.ref b44), (.int (((((p4 >>> ((8 : Int32) &&& 31)).toInt8.toInt32).toInt8.toInt32) &&& (255 : Int32)) <<< ((8 : Int32) &&& 31)))])) _
      refine XS.iadd X55.here hx rfl (hb hby at_199) rfl ?_
      show Steps p.tables e below (T55.setTop (mkF m 200 #[.val (.int p0), .val (.int p1), .val (.int p2), .val (.int p3), .val (.int p4), .val (.int (2 : Int32)), .val (.ref b39), .val (.ref b44), .val (.int (f0_m64 p0 p1 p2 p3 p4)), .unset] [(.int (3 : Int32)), (.ref b44), (.int (((((p4 >>> ((8 : Int32) &&& 31)).toInt8.toInt32).toInt8.toInt32) &&& (255 : Int32)) <<< ((8 : Int32) &&& 31)))])) _
      refine X55.baloadBytes hx (j := (3 : Int32)) (v := (.int ((p4.toInt8.toInt32).toInt8.toInt32))) (by rw [e55]; exact Ar66.1) (State.isArrayOf_alike hZ.alike Ar66.2.1) Ar66.2.2 hin66 hat66 (g := (mkF m 200 #[.val (.int p0), .val (.int p1), .val (.int p2), .val (.int p3), .val (.int p4), .val (.int (2 : Int32)), .val (.ref b39), .val (.ref b44), .val (.int (f0_m64 p0 p1 p2 p3 p4)), .unset] [(.int (3 : Int32)), (.ref b44), (.int (((((p4 >>> ((8 : Int32) &&& 31)).toInt8.toInt32).toInt8.toInt32) &&& (255 : Int32)) <<< ((8 : Int32) &&& 31)))])) rfl rfl (hb hby at_200) _ ?_
      show Steps p.tables e below (T55.setTop (mkF m 201 #[.val (.int p0), .val (.int p1), .val (.int p2), .val (.int p3), .val (.int p4), .val (.int (2 : Int32)), .val (.ref b39), .val (.ref b44), .val (.int (f0_m64 p0 p1 p2 p3 p4)), .unset] [(.int ((p4.toInt8.toInt32).toInt8.toInt32)), (.int (((((p4 >>> ((8 : Int32) &&& 31)).toInt8.toInt32).toInt8.toInt32) &&& (255 : Int32)) <<< ((8 : Int32) &&& 31)))])) _
      refine XS.sipush X55.here hx rfl (hb hby at_201) ?_
      show Steps p.tables e below (T55.setTop (mkF m 204 #[.val (.int p0), .val (.int p1), .val (.int p2), .val (.int p3), .val (.int p4), .val (.int (2 : Int32)), .val (.ref b39), .val (.ref b44), .val (.int (f0_m64 p0 p1 p2 p3 p4)), .unset] [(.int (255 : Int32)), (.int ((p4.toInt8.toInt32).toInt8.toInt32)), (.int (((((p4 >>> ((8 : Int32) &&& 31)).toInt8.toInt32).toInt8.toInt32) &&& (255 : Int32)) <<< ((8 : Int32) &&& 31)))])) _
      refine XS.iand X55.here hx rfl (hb hby at_204) rfl ?_
      show Steps p.tables e below (T55.setTop (mkF m 205 #[.val (.int p0), .val (.int p1), .val (.int p2), .val (.int p3), .val (.int p4), .val (.int (2 : Int32)), .val (.ref b39), .val (.ref b44), .val (.int (f0_m64 p0 p1 p2 p3 p4)), .unset] [(.int (((p4.toInt8.toInt32).toInt8.toInt32) &&& (255 : Int32))), (.int (((((p4 >>> ((8 : Int32) &&& 31)).toInt8.toInt32).toInt8.toInt32) &&& (255 : Int32)) <<< ((8 : Int32) &&& 31)))])) _
      refine XS.ior X55.here hx rfl (hb hby at_205) rfl ?_
      show Steps p.tables e below (T55.setTop (mkF m 206 #[.val (.int p0), .val (.int p1), .val (.int p2), .val (.int p3), .val (.int p4), .val (.int (2 : Int32)), .val (.ref b39), .val (.ref b44), .val (.int (f0_m64 p0 p1 p2 p3 p4)), .unset] [(.int ((((((p4 >>> ((8 : Int32) &&& 31)).toInt8.toInt32).toInt8.toInt32) &&& (255 : Int32)) <<< ((8 : Int32) &&& 31)) ||| (((p4.toInt8.toInt32).toInt8.toInt32) &&& (255 : Int32))))])) _
      refine XS.istore X55.here hx rfl (hb hby at_206) rfl (l' := #[.val (.int p0), .val (.int p1), .val (.int p2), .val (.int p3), .val (.int p4), .val (.int (2 : Int32)), .val (.ref b39), .val (.ref b44), .val (.int (f0_m64 p0 p1 p2 p3 p4)), .val (.int ((((((p4 >>> ((8 : Int32) &&& 31)).toInt8.toInt32).toInt8.toInt32) &&& (255 : Int32)) <<< ((8 : Int32) &&& 31)) ||| (((p4.toInt8.toInt32).toInt8.toInt32) &&& (255 : Int32))))]) rfl ?_
      show Steps p.tables e below (T55.setTop (mkF m 208 #[.val (.int p0), .val (.int p1), .val (.int p2), .val (.int p3), .val (.int p4), .val (.int (2 : Int32)), .val (.ref b39), .val (.ref b44), .val (.int (f0_m64 p0 p1 p2 p3 p4)), .val (.int ((((((p4 >>> ((8 : Int32) &&& 31)).toInt8.toInt32).toInt8.toInt32) &&& (255 : Int32)) <<< ((8 : Int32) &&& 31)) ||| (((p4.toInt8.toInt32).toInt8.toInt32) &&& (255 : Int32))))] [])) _
      refine XS.iload X55.here hx rfl (hb hby at_208) rfl ?_
      exact k)
    by_cases hc210_68 : (f0_m64 p0 p1 p2 p3 p4) = (0 : Int32)
    · have pre69 : ∀ t, Steps p.tables e below (T55.setTop (mkF m 228 #[.val (.int p0), .val (.int p1), .val (.int p2), .val (.int p3), .val (.int p4), .val (.int (2 : Int32)), .val (.ref b39), .val (.ref b44), .val (.int (f0_m64 p0 p1 p2 p3 p4)), .val (.int ((((((p4 >>> ((8 : Int32) &&& 31)).toInt8.toInt32).toInt8.toInt32) &&& (255 : Int32)) <<< ((8 : Int32) &&& 31)) ||| (((p4.toInt8.toInt32).toInt8.toInt32) &&& (255 : Int32))))] [(.int (0 : Int32))])) t → Steps p.tables e below (s₁.setTop (entryFrame m #[(.int p0), (.int p1), (.int p2), (.int p3), (.int p4)] maxLocals)) t := fun t k => pre67 t (by
        show Steps p.tables e below (T55.setTop (mkF m 210 #[.val (.int p0), .val (.int p1), .val (.int p2), .val (.int p3), .val (.int p4), .val (.int (2 : Int32)), .val (.ref b39), .val (.ref b44), .val (.int (f0_m64 p0 p1 p2 p3 p4)), .val (.int ((((((p4 >>> ((8 : Int32) &&& 31)).toInt8.toInt32).toInt8.toInt32) &&& (255 : Int32)) <<< ((8 : Int32) &&& 31)) ||| (((p4.toInt8.toInt32).toInt8.toInt32) &&& (255 : Int32))))] [(.int (f0_m64 p0 p1 p2 p3 p4))])) _
        refine XS.ifYes X55.here hx rfl (pc0 := 210) (pc' := 227) rfl (hb hby at_210) rfl ((if0 _ _).trans (teq hc210_68).1) (by decide) (by decide) ?_
        show Steps p.tables e below (T55.setTop (mkF m 227 #[.val (.int p0), .val (.int p1), .val (.int p2), .val (.int p3), .val (.int p4), .val (.int (2 : Int32)), .val (.ref b39), .val (.ref b44), .val (.int (f0_m64 p0 p1 p2 p3 p4)), .val (.int ((((((p4 >>> ((8 : Int32) &&& 31)).toInt8.toInt32).toInt8.toInt32) &&& (255 : Int32)) <<< ((8 : Int32) &&& 31)) ||| (((p4.toInt8.toInt32).toInt8.toInt32) &&& (255 : Int32))))] [])) _
        refine XS.iconst X55.here hx rfl (hb hby at_227) ?_
        exact k)
      obtain ⟨fs, hr, hrun, hended, hW, hsame⟩ := X55.leave (v := some (.int (0 : Int32))) (fun h => by rw [Bd.returns] at h; cases h) hlk
      have hF : (F0 p0 p1 p2 p3 p4) = (0 : Int32) := by unfold F0; rw [if_neg hv2, if_neg hv13, if_pos hv37, if_pos hc210_68]
      exact ⟨_, _, pre69 _ (retN X55 hx (t := .boolean) Bd.returns (by simp) (hb hby at_228) hr), hrun, hended, _, _, rfl, ⟨by rw [hF], N55⟩, ⟨_, rfl⟩, hW, hsame.mono (by decide) (by decide)⟩
    have pre70 : ∀ t, Steps p.tables e below (T55.setTop (mkF m 220 #[.val (.int p0), .val (.int p1), .val (.int p2), .val (.int p3), .val (.int p4), .val (.int (2 : Int32)), .val (.ref b39), .val (.ref b44), .val (.int (f0_m64 p0 p1 p2 p3 p4)), .val (.int ((((((p4 >>> ((8 : Int32) &&& 31)).toInt8.toInt32).toInt8.toInt32) &&& (255 : Int32)) <<< ((8 : Int32) &&& 31)) ||| (((p4.toInt8.toInt32).toInt8.toInt32) &&& (255 : Int32))))] [(.int (p4 &&& (65535 : Int32))), (.int ((((((p4 >>> ((8 : Int32) &&& 31)).toInt8.toInt32).toInt8.toInt32) &&& (255 : Int32)) <<< ((8 : Int32) &&& 31)) ||| (((p4.toInt8.toInt32).toInt8.toInt32) &&& (255 : Int32))))])) t → Steps p.tables e below (s₁.setTop (entryFrame m #[(.int p0), (.int p1), (.int p2), (.int p3), (.int p4)] maxLocals)) t := fun t k => pre67 t (by
      show Steps p.tables e below (T55.setTop (mkF m 210 #[.val (.int p0), .val (.int p1), .val (.int p2), .val (.int p3), .val (.int p4), .val (.int (2 : Int32)), .val (.ref b39), .val (.ref b44), .val (.int (f0_m64 p0 p1 p2 p3 p4)), .val (.int ((((((p4 >>> ((8 : Int32) &&& 31)).toInt8.toInt32).toInt8.toInt32) &&& (255 : Int32)) <<< ((8 : Int32) &&& 31)) ||| (((p4.toInt8.toInt32).toInt8.toInt32) &&& (255 : Int32))))] [(.int (f0_m64 p0 p1 p2 p3 p4))])) _
      refine XS.ifNo X55.here hx rfl (hb hby at_210) rfl ((if0 _ _).trans (feq hc210_68).1) ?_
      show Steps p.tables e below (T55.setTop (mkF m 213 #[.val (.int p0), .val (.int p1), .val (.int p2), .val (.int p3), .val (.int p4), .val (.int (2 : Int32)), .val (.ref b39), .val (.ref b44), .val (.int (f0_m64 p0 p1 p2 p3 p4)), .val (.int ((((((p4 >>> ((8 : Int32) &&& 31)).toInt8.toInt32).toInt8.toInt32) &&& (255 : Int32)) <<< ((8 : Int32) &&& 31)) ||| (((p4.toInt8.toInt32).toInt8.toInt32) &&& (255 : Int32))))] [])) _
      refine XS.iload X55.here hx rfl (hb hby at_213) rfl ?_
      show Steps p.tables e below (T55.setTop (mkF m 215 #[.val (.int p0), .val (.int p1), .val (.int p2), .val (.int p3), .val (.int p4), .val (.int (2 : Int32)), .val (.ref b39), .val (.ref b44), .val (.int (f0_m64 p0 p1 p2 p3 p4)), .val (.int ((((((p4 >>> ((8 : Int32) &&& 31)).toInt8.toInt32).toInt8.toInt32) &&& (255 : Int32)) <<< ((8 : Int32) &&& 31)) ||| (((p4.toInt8.toInt32).toInt8.toInt32) &&& (255 : Int32))))] [(.int ((((((p4 >>> ((8 : Int32) &&& 31)).toInt8.toInt32).toInt8.toInt32) &&& (255 : Int32)) <<< ((8 : Int32) &&& 31)) ||| (((p4.toInt8.toInt32).toInt8.toInt32) &&& (255 : Int32))))])) _
      refine XS.iload X55.here hx rfl (hb hby at_215) rfl ?_
      show Steps p.tables e below (T55.setTop (mkF m 217 #[.val (.int p0), .val (.int p1), .val (.int p2), .val (.int p3), .val (.int p4), .val (.int (2 : Int32)), .val (.ref b39), .val (.ref b44), .val (.int (f0_m64 p0 p1 p2 p3 p4)), .val (.int ((((((p4 >>> ((8 : Int32) &&& 31)).toInt8.toInt32).toInt8.toInt32) &&& (255 : Int32)) <<< ((8 : Int32) &&& 31)) ||| (((p4.toInt8.toInt32).toInt8.toInt32) &&& (255 : Int32))))] [(.int p4), (.int ((((((p4 >>> ((8 : Int32) &&& 31)).toInt8.toInt32).toInt8.toInt32) &&& (255 : Int32)) <<< ((8 : Int32) &&& 31)) ||| (((p4.toInt8.toInt32).toInt8.toInt32) &&& (255 : Int32))))])) _
      refine X55.ldcInt hx hown (mvT hZ (hw _ (List.mem_of_getElem? (i := 9) rfl))) (g := (mkF m 217 #[.val (.int p0), .val (.int p1), .val (.int p2), .val (.int p3), .val (.int p4), .val (.int (2 : Int32)), .val (.ref b39), .val (.ref b44), .val (.int (f0_m64 p0 p1 p2 p3 p4)), .val (.int ((((((p4 >>> ((8 : Int32) &&& 31)).toInt8.toInt32).toInt8.toInt32) &&& (255 : Int32)) <<< ((8 : Int32) &&& 31)) ||| (((p4.toInt8.toInt32).toInt8.toInt32) &&& (255 : Int32))))] [(.int p4), (.int ((((((p4 >>> ((8 : Int32) &&& 31)).toInt8.toInt32).toInt8.toInt32) &&& (255 : Int32)) <<< ((8 : Int32) &&& 31)) ||| (((p4.toInt8.toInt32).toInt8.toInt32) &&& (255 : Int32))))])) rfl (hb hby at_217) _ ?_
      show Steps p.tables e below (T55.setTop (mkF m 219 #[.val (.int p0), .val (.int p1), .val (.int p2), .val (.int p3), .val (.int p4), .val (.int (2 : Int32)), .val (.ref b39), .val (.ref b44), .val (.int (f0_m64 p0 p1 p2 p3 p4)), .val (.int ((((((p4 >>> ((8 : Int32) &&& 31)).toInt8.toInt32).toInt8.toInt32) &&& (255 : Int32)) <<< ((8 : Int32) &&& 31)) ||| (((p4.toInt8.toInt32).toInt8.toInt32) &&& (255 : Int32))))] [(.int (65535 : Int32)), (.int p4), (.int ((((((p4 >>> ((8 : Int32) &&& 31)).toInt8.toInt32).toInt8.toInt32) &&& (255 : Int32)) <<< ((8 : Int32) &&& 31)) ||| (((p4.toInt8.toInt32).toInt8.toInt32) &&& (255 : Int32))))])) _
      refine XS.iand X55.here hx rfl (hb hby at_219) rfl ?_
      exact k)
    by_cases hc220_71 : ((((((p4 >>> ((8 : Int32) &&& 31)).toInt8.toInt32).toInt8.toInt32) &&& (255 : Int32)) <<< ((8 : Int32) &&& 31)) ||| (((p4.toInt8.toInt32).toInt8.toInt32) &&& (255 : Int32))) = (p4 &&& (65535 : Int32))
    · have pre72 : ∀ t, Steps p.tables e below (T55.setTop (mkF m 228 #[.val (.int p0), .val (.int p1), .val (.int p2), .val (.int p3), .val (.int p4), .val (.int (2 : Int32)), .val (.ref b39), .val (.ref b44), .val (.int (f0_m64 p0 p1 p2 p3 p4)), .val (.int ((((((p4 >>> ((8 : Int32) &&& 31)).toInt8.toInt32).toInt8.toInt32) &&& (255 : Int32)) <<< ((8 : Int32) &&& 31)) ||| (((p4.toInt8.toInt32).toInt8.toInt32) &&& (255 : Int32))))] [(.int (1 : Int32))])) t → Steps p.tables e below (s₁.setTop (entryFrame m #[(.int p0), (.int p1), (.int p2), (.int p3), (.int p4)] maxLocals)) t := fun t k => pre70 t (by
        show Steps p.tables e below (T55.setTop (mkF m 220 #[.val (.int p0), .val (.int p1), .val (.int p2), .val (.int p3), .val (.int p4), .val (.int (2 : Int32)), .val (.ref b39), .val (.ref b44), .val (.int (f0_m64 p0 p1 p2 p3 p4)), .val (.int ((((((p4 >>> ((8 : Int32) &&& 31)).toInt8.toInt32).toInt8.toInt32) &&& (255 : Int32)) <<< ((8 : Int32) &&& 31)) ||| (((p4.toInt8.toInt32).toInt8.toInt32) &&& (255 : Int32))))] [(.int (p4 &&& (65535 : Int32))), (.int ((((((p4 >>> ((8 : Int32) &&& 31)).toInt8.toInt32).toInt8.toInt32) &&& (255 : Int32)) <<< ((8 : Int32) &&& 31)) ||| (((p4.toInt8.toInt32).toInt8.toInt32) &&& (255 : Int32))))])) _
        refine XS.icmpNo X55.here hx rfl (hb hby at_220) rfl (teq hc220_71).2 ?_
        show Steps p.tables e below (T55.setTop (mkF m 223 #[.val (.int p0), .val (.int p1), .val (.int p2), .val (.int p3), .val (.int p4), .val (.int (2 : Int32)), .val (.ref b39), .val (.ref b44), .val (.int (f0_m64 p0 p1 p2 p3 p4)), .val (.int ((((((p4 >>> ((8 : Int32) &&& 31)).toInt8.toInt32).toInt8.toInt32) &&& (255 : Int32)) <<< ((8 : Int32) &&& 31)) ||| (((p4.toInt8.toInt32).toInt8.toInt32) &&& (255 : Int32))))] [])) _
        refine XS.iconst X55.here hx rfl (hb hby at_223) ?_
        show Steps p.tables e below (T55.setTop (mkF m 224 #[.val (.int p0), .val (.int p1), .val (.int p2), .val (.int p3), .val (.int p4), .val (.int (2 : Int32)), .val (.ref b39), .val (.ref b44), .val (.int (f0_m64 p0 p1 p2 p3 p4)), .val (.int ((((((p4 >>> ((8 : Int32) &&& 31)).toInt8.toInt32).toInt8.toInt32) &&& (255 : Int32)) <<< ((8 : Int32) &&& 31)) ||| (((p4.toInt8.toInt32).toInt8.toInt32) &&& (255 : Int32))))] [(.int (1 : Int32))])) _
        refine XS.goto X55.here hx rfl (pc0 := 224) (pc' := 228) rfl (hb hby at_224) (by decide) (by decide) ?_
        exact k)
      obtain ⟨fs, hr, hrun, hended, hW, hsame⟩ := X55.leave (v := some (.int (1 : Int32))) (fun h => by rw [Bd.returns] at h; cases h) hlk
      have hF : (F0 p0 p1 p2 p3 p4) = (1 : Int32) := by unfold F0; rw [if_neg hv2, if_neg hv13, if_pos hv37, if_neg hc210_68, if_pos hc220_71]
      exact ⟨_, _, pre72 _ (retN X55 hx (t := .boolean) Bd.returns (by simp) (hb hby at_228) hr), hrun, hended, _, _, rfl, ⟨by rw [hF], N55⟩, ⟨_, rfl⟩, hW, hsame.mono (by decide) (by decide)⟩
    have pre73 : ∀ t, Steps p.tables e below (T55.setTop (mkF m 228 #[.val (.int p0), .val (.int p1), .val (.int p2), .val (.int p3), .val (.int p4), .val (.int (2 : Int32)), .val (.ref b39), .val (.ref b44), .val (.int (f0_m64 p0 p1 p2 p3 p4)), .val (.int ((((((p4 >>> ((8 : Int32) &&& 31)).toInt8.toInt32).toInt8.toInt32) &&& (255 : Int32)) <<< ((8 : Int32) &&& 31)) ||| (((p4.toInt8.toInt32).toInt8.toInt32) &&& (255 : Int32))))] [(.int (0 : Int32))])) t → Steps p.tables e below (s₁.setTop (entryFrame m #[(.int p0), (.int p1), (.int p2), (.int p3), (.int p4)] maxLocals)) t := fun t k => pre70 t (by
      show Steps p.tables e below (T55.setTop (mkF m 220 #[.val (.int p0), .val (.int p1), .val (.int p2), .val (.int p3), .val (.int p4), .val (.int (2 : Int32)), .val (.ref b39), .val (.ref b44), .val (.int (f0_m64 p0 p1 p2 p3 p4)), .val (.int ((((((p4 >>> ((8 : Int32) &&& 31)).toInt8.toInt32).toInt8.toInt32) &&& (255 : Int32)) <<< ((8 : Int32) &&& 31)) ||| (((p4.toInt8.toInt32).toInt8.toInt32) &&& (255 : Int32))))] [(.int (p4 &&& (65535 : Int32))), (.int ((((((p4 >>> ((8 : Int32) &&& 31)).toInt8.toInt32).toInt8.toInt32) &&& (255 : Int32)) <<< ((8 : Int32) &&& 31)) ||| (((p4.toInt8.toInt32).toInt8.toInt32) &&& (255 : Int32))))])) _
      refine XS.icmpYes X55.here hx rfl (pc0 := 220) (pc' := 227) rfl (hb hby at_220) rfl (feq hc220_71).2 (by decide) (by decide) ?_
      show Steps p.tables e below (T55.setTop (mkF m 227 #[.val (.int p0), .val (.int p1), .val (.int p2), .val (.int p3), .val (.int p4), .val (.int (2 : Int32)), .val (.ref b39), .val (.ref b44), .val (.int (f0_m64 p0 p1 p2 p3 p4)), .val (.int ((((((p4 >>> ((8 : Int32) &&& 31)).toInt8.toInt32).toInt8.toInt32) &&& (255 : Int32)) <<< ((8 : Int32) &&& 31)) ||| (((p4.toInt8.toInt32).toInt8.toInt32) &&& (255 : Int32))))] [])) _
      refine XS.iconst X55.here hx rfl (hb hby at_227) ?_
      exact k)
    obtain ⟨fs, hr, hrun, hended, hW, hsame⟩ := X55.leave (v := some (.int (0 : Int32))) (fun h => by rw [Bd.returns] at h; cases h) hlk
    have hF : (F0 p0 p1 p2 p3 p4) = (0 : Int32) := by unfold F0; rw [if_neg hv2, if_neg hv13, if_pos hv37, if_neg hc210_68, if_neg hc220_71]
    exact ⟨_, _, pre73 _ (retN X55 hx (t := .boolean) Bd.returns (by simp) (hb hby at_228) hr), hrun, hended, _, _, rfl, ⟨by rw [hF], N55⟩, ⟨_, rfl⟩, hW, hsame.mono (by decide) (by decide)⟩
  have hv74 : (p0 &&& (3 : Int32)) = (3 : Int32) := own_q3 p0 hv2 hv13 hv37
  have pre75 := pre1
  rw [hv74] at pre75
  obtain ⟨T76, h76, k76, X76, e76, E76, A76, st76⟩ := newP X0 hx hZ (hw _ (List.mem_of_getElem? (i := 0) rfl)) e0 (g := (mkF m 7 #[.val (.int p0), .val (.int p1), .val (.int p2), .val (.int p3), .val (.int p4), .val (.int (3 : Int32)), .unset, .unset, .unset, .unset] [(.int (3 : Int32))])) rfl (hb hby at_7) rfl (by decide) (cap := 3) (by decide) (by decide) (by decide) (by decide)
  obtain ⟨b76, g76⟩ : ∃ z, z = h0.size := ⟨_, rfl⟩
  rw [← g76] at A76 st76
  have g_b76 : n0 ≤ b76 := Nat.le_trans Z0 (Nat.le_of_eq g76.symm)
  have Z76 : n0 ≤ h76.size := Nat.le_trans Z0 E76.1
  have V76 : Arv Z h76 b76 k76 .byte (3 : Int32) [(.int (0 : Int32)), (.int (0 : Int32)), (.int (0 : Int32))] (.int (0 : Int32)) := (Arv.new A76 (by decide)).pad (pad_rep [] (.int (0 : Int32)) 3)
  obtain ⟨cl77, Ar77, q77, S77, M77, H77, G77⟩ := id V76
  have hin77 : ¬ ((0 : Int32) < 0 ∨ cl77.slots.size ≤ ((0 : Int32)).toNatClampNeg) := inb_of S77 ⟨by decide, by decide⟩
  obtain ⟨T78, h78, X78, e78, W78, st78⟩ := stB X76 hx hZ e76 Ar77 (j := (0 : Int32)) hin77 (g := (mkF m 21 #[.val (.int p0), .val (.int p1), .val (.int p2), .val (.int p3), .val (.int p4), .val (.int (3 : Int32)), .val (.ref b76), .unset, .unset, .unset] [(.int (p1.toInt8.toInt32)), (.int (0 : Int32)), (.ref b76)])) rfl rfl (hb hby at_21)
  have Z78 : n0 ≤ h78.size := Nat.le_trans Z76 (Keep.of_wr W78).1
  have N78 := Fr.snoc X78 N0 g_b76
  have V78 : Arv Z h78 b76 k76 .byte (3 : Int32) [(.int ((p1.toInt8.toInt32).toInt8.toInt32)), (.int (0 : Int32)), (.int (0 : Int32))] (.int (0 : Int32)) := Arv.set Ar77 q77 S77 M77 H77 G77 (fits_nar_byte _) W78 0 rfl (Nat.le_of_ble_eq_true rfl)
  obtain ⟨cl79, Ar79, q79, S79, M79, H79, G79⟩ := id V78
  have hin79 : ¬ ((1 : Int32) < 0 ∨ cl79.slots.size ≤ ((1 : Int32)).toNatClampNeg) := inb_of S79 ⟨by decide, by decide⟩
  obtain ⟨T80, h80, X80, e80, W80, st80⟩ := stB X78 hx hZ e78 Ar79 (j := (1 : Int32)) hin79 (g := (mkF m 33 #[.val (.int p0), .val (.int p1), .val (.int p2), .val (.int p3), .val (.int p4), .val (.int (3 : Int32)), .val (.ref b76), .unset, .unset, .unset] [(.int (p2.toInt8.toInt32)), (.int (1 : Int32)), (.ref b76)])) rfl rfl (hb hby at_33)
  have Z80 : n0 ≤ h80.size := Nat.le_trans Z78 (Keep.of_wr W80).1
  have N80 := Fr.snoc X80 N78 g_b76
  have V80 : Arv Z h80 b76 k76 .byte (3 : Int32) [(.int ((p1.toInt8.toInt32).toInt8.toInt32)), (.int ((p2.toInt8.toInt32).toInt8.toInt32)), (.int (0 : Int32))] (.int (0 : Int32)) := Arv.set Ar79 q79 S79 M79 H79 G79 (fits_nar_byte _) W80 1 rfl (Nat.le_of_ble_eq_true rfl)
  obtain ⟨cl81, Ar81, q81, S81, M81, H81, G81⟩ := id V80
  have hin81 : ¬ ((2 : Int32) < 0 ∨ cl81.slots.size ≤ ((2 : Int32)).toNatClampNeg) := inb_of S81 ⟨by decide, by decide⟩
  obtain ⟨T82, h82, X82, e82, W82, st82⟩ := stB X80 hx hZ e80 Ar81 (j := (2 : Int32)) hin81 (g := (mkF m 45 #[.val (.int p0), .val (.int p1), .val (.int p2), .val (.int p3), .val (.int p4), .val (.int (3 : Int32)), .val (.ref b76), .unset, .unset, .unset] [(.int (p3.toInt8.toInt32)), (.int (2 : Int32)), (.ref b76)])) rfl rfl (hb hby at_45)
  have Z82 : n0 ≤ h82.size := Nat.le_trans Z80 (Keep.of_wr W82).1
  have N82 := Fr.snoc X82 N80 g_b76
  have V82 : Arv Z h82 b76 k76 .byte (3 : Int32) [(.int ((p1.toInt8.toInt32).toInt8.toInt32)), (.int ((p2.toInt8.toInt32).toInt8.toInt32)), (.int ((p3.toInt8.toInt32).toInt8.toInt32))] (.int (0 : Int32)) := Arv.set Ar81 q81 S81 M81 H81 G81 (fits_nar_byte _) W82 2 rfl (Nat.le_of_ble_eq_true rfl)
  obtain ⟨_, _, ⟨T83, L83, k83, n83⟩, -, X83, ⟨Lc83, hQ83, l83, y83, z83⟩, st83⟩ := Jvm.LawKit.callS X82 hx (y := (⟨"com/example/cardwarden/cardwarden/core/card/StatusWord", "respond", "([BI)[B"⟩ : MethodName)) hown (mvT hZ (hw _ (List.mem_of_getElem? (i := 1) rfl))) (mvT hZ (hw _ (List.mem_of_getElem? (i := 2) rfl))) (mvT hZ (hw _ (List.mem_of_getElem? (i := 3) rfl))) (mvT hZ (hw _ (List.mem_of_getElem? (i := 4) rfl))) (by decide) (backOf (W := 0) (rm1_3 l Z a0' hw [] b76 p4 ((p1.toInt8.toInt32).toInt8.toInt32) ((p2.toInt8.toInt32).toInt8.toInt32) ((p3.toInt8.toInt32).toInt8.toInt32) k76 h82 n0 Z82 V82) hZ (hw _ (List.mem_of_getElem? (i := 4) rfl)) (hw _ (List.mem_of_getElem? (i := 3) rfl)) (by decide) (by decide)) (g := (mkF m 50 #[.val (.int p0), .val (.int p1), .val (.int p2), .val (.int p3), .val (.int p4), .val (.int (3 : Int32)), .val (.ref b76), .unset, .unset, .unset] [(.int p4), (.ref b76)])) rfl (by rw [hml]; rfl) (argsL := [(.ref b76), (.int p4)]) (rest := []) (lenOf pd0 rfl) rfl (by show 2 * 0 + _ ≤ _; exact Nat.le_of_eq rfl) (hb hby at_50) (fun _ _ => ⟨rfl, e82, (by decide : 1 + 1 ≤ _), (by decide : 3 + 5 ≤ _)⟩)
  dsimp only [Pt.U, Pt.locs, Pt.cells, Pt.slots] at X83 l83 y83 z83 st83 hQ83
  subst l83 y83 z83
  obtain ⟨b83, rfl, N83q, gs83, g_b83, K83, u83_0⟩ := hQ83
  have N83 := Fr.app N82 N83q
  have ne_b76_b83 : b76 ≠ b83 := Nat.ne_of_lt (Nat.lt_of_lt_of_le V82.lt gs83)
  have Z83 : n0 ≤ T83.heap.size := Nat.le_trans Z82 K83.1
  obtain ⟨kk83, u83_0⟩ := u83_0
  obtain ⟨cl84, Ar84, q84, S84, M84, H84, G84⟩ := id u83_0
  obtain ⟨cl85, Ar85, q85, S85, M85, H85, G85⟩ := id u83_0
  have hin85 : ¬ ((0 : Int32) < 0 ∨ cl85.slots.size ≤ ((0 : Int32)).toNatClampNeg) := inb_of S85 ⟨by decide, by decide⟩
  have hat85 : cl85.slots[((0 : Int32)).toNatClampNeg]? = some (.int ((p1.toInt8.toInt32).toInt8.toInt32)) := H85.at hin85 rfl
  have pre86 : ∀ t, Steps p.tables e below (T83.setTop (mkF m 91 #[.val (.int p0), .val (.int p1), .val (.int p2), .val (.int p3), .val (.int p4), .val (.int (3 : Int32)), .val (.ref b76), .val (.ref b83), .val (.int (1 : Int32)), .unset] [(.int (p1.toInt8.toInt32)), (.int ((p1.toInt8.toInt32).toInt8.toInt32))])) t → Steps p.tables e below (s₁.setTop (entryFrame m #[(.int p0), (.int p1), (.int p2), (.int p3), (.int p4)] maxLocals)) t := fun t k => pre75 t (by
    show Steps p.tables e below (s₁.setTop (mkF m 5 #[.val (.int p0), .val (.int p1), .val (.int p2), .val (.int p3), .val (.int p4), .val (.int (3 : Int32)), .unset, .unset, .unset, .unset] [])) _
    refine XS.iload X0.here hx rfl (hb hby at_5) rfl ?_
    show Steps p.tables e below (s₁.setTop (mkF m 7 #[.val (.int p0), .val (.int p1), .val (.int p2), .val (.int p3), .val (.int p4), .val (.int (3 : Int32)), .unset, .unset, .unset, .unset] [(.int (3 : Int32))])) _
    refine st76 _ ?_
    show Steps p.tables e below (T76.setTop (mkF m 9 #[.val (.int p0), .val (.int p1), .val (.int p2), .val (.int p3), .val (.int p4), .val (.int (3 : Int32)), .unset, .unset, .unset, .unset] [(.ref b76)])) _
    refine XS.astore X76.here hx rfl (hb hby at_9) rfl rfl (l' := #[.val (.int p0), .val (.int p1), .val (.int p2), .val (.int p3), .val (.int p4), .val (.int (3 : Int32)), .val (.ref b76), .unset, .unset, .unset]) rfl ?_
    show Steps p.tables e below (T76.setTop (mkF m 11 #[.val (.int p0), .val (.int p1), .val (.int p2), .val (.int p3), .val (.int p4), .val (.int (3 : Int32)), .val (.ref b76), .unset, .unset, .unset] [])) _
    refine XS.iload X76.here hx rfl (hb hby at_11) rfl ?_
    show Steps p.tables e below (T76.setTop (mkF m 13 #[.val (.int p0), .val (.int p1), .val (.int p2), .val (.int p3), .val (.int p4), .val (.int (3 : Int32)), .val (.ref b76), .unset, .unset, .unset] [(.int (3 : Int32))])) _
    refine XS.ifNo X76.here hx rfl (hb hby at_13) rfl ((if0 _ _).trans (tlt (by decide : (0 : Int32) < (3 : Int32))).2.2.2) ?_
    show Steps p.tables e below (T76.setTop (mkF m 16 #[.val (.int p0), .val (.int p1), .val (.int p2), .val (.int p3), .val (.int p4), .val (.int (3 : Int32)), .val (.ref b76), .unset, .unset, .unset] [])) _
    refine XS.aload X76.here hx rfl (hb hby at_16) rfl rfl ?_
    show Steps p.tables e below (T76.setTop (mkF m 18 #[.val (.int p0), .val (.int p1), .val (.int p2), .val (.int p3), .val (.int p4), .val (.int (3 : Int32)), .val (.ref b76), .unset, .unset, .unset] [(.ref b76)])) _
    refine XS.iconst X76.here hx rfl (hb hby at_18) ?_
    show Steps p.tables e below (T76.setTop (mkF m 19 #[.val (.int p0), .val (.int p1), .val (.int p2), .val (.int p3), .val (.int p4), .val (.int (3 : Int32)), .val (.ref b76), .unset, .unset, .unset] [(.int (0 : Int32)), (.ref b76)])) _
    refine XS.iloadN X76.here hx rfl (hb hby at_19) rfl ?_
    show Steps p.tables e below (T76.setTop (mkF m 20 #[.val (.int p0), .val (.int p1), .val (.int p2), .val (.int p3), .val (.int p4), .val (.int (3 : Int32)), .val (.ref b76), .unset, .unset, .unset] [(.int p1), (.int (0 : Int32)), (.ref b76)])) _
    refine XS.i2b X76.here hx rfl (hb hby at_20) rfl ?_
    show Steps p.tables e below (T76.setTop (mkF m 21 #[.val (.int p0), .val (.int p1), .val (.int p2), .val (.int p3), .val (.int p4), .val (.int (3 : Int32)), .val (.ref b76), .unset, .unset, .unset] [(.int (p1.toInt8.toInt32)), (.int (0 : Int32)), (.ref b76)])) _
    refine st78 _ ?_
    show Steps p.tables e below (T78.setTop (mkF m 22 #[.val (.int p0), .val (.int p1), .val (.int p2), .val (.int p3), .val (.int p4), .val (.int (3 : Int32)), .val (.ref b76), .unset, .unset, .unset] [])) _
    refine XS.iload X78.here hx rfl (hb hby at_22) rfl ?_
    show Steps p.tables e below (T78.setTop (mkF m 24 #[.val (.int p0), .val (.int p1), .val (.int p2), .val (.int p3), .val (.int p4), .val (.int (3 : Int32)), .val (.ref b76), .unset, .unset, .unset] [(.int (3 : Int32))])) _
    refine XS.iconst X78.here hx rfl (hb hby at_24) ?_
    show Steps p.tables e below (T78.setTop (mkF m 25 #[.val (.int p0), .val (.int p1), .val (.int p2), .val (.int p3), .val (.int p4), .val (.int (3 : Int32)), .val (.ref b76), .unset, .unset, .unset] [(.int (1 : Int32)), (.int (3 : Int32))])) _
    refine XS.icmpNo X78.here hx rfl (hb hby at_25) rfl (tlt (by decide : (1 : Int32) < (3 : Int32))).2.2.2 ?_
    show Steps p.tables e below (T78.setTop (mkF m 28 #[.val (.int p0), .val (.int p1), .val (.int p2), .val (.int p3), .val (.int p4), .val (.int (3 : Int32)), .val (.ref b76), .unset, .unset, .unset] [])) _
    refine XS.aload X78.here hx rfl (hb hby at_28) rfl rfl ?_
    show Steps p.tables e below (T78.setTop (mkF m 30 #[.val (.int p0), .val (.int p1), .val (.int p2), .val (.int p3), .val (.int p4), .val (.int (3 : Int32)), .val (.ref b76), .unset, .unset, .unset] [(.ref b76)])) _
    refine XS.iconst X78.here hx rfl (hb hby at_30) ?_
    show Steps p.tables e below (T78.setTop (mkF m 31 #[.val (.int p0), .val (.int p1), .val (.int p2), .val (.int p3), .val (.int p4), .val (.int (3 : Int32)), .val (.ref b76), .unset, .unset, .unset] [(.int (1 : Int32)), (.ref b76)])) _
    refine XS.iloadN X78.here hx rfl (hb hby at_31) rfl ?_
    show Steps p.tables e below (T78.setTop (mkF m 32 #[.val (.int p0), .val (.int p1), .val (.int p2), .val (.int p3), .val (.int p4), .val (.int (3 : Int32)), .val (.ref b76), .unset, .unset, .unset] [(.int p2), (.int (1 : Int32)), (.ref b76)])) _
    refine XS.i2b X78.here hx rfl (hb hby at_32) rfl ?_
    show Steps p.tables e below (T78.setTop (mkF m 33 #[.val (.int p0), .val (.int p1), .val (.int p2), .val (.int p3), .val (.int p4), .val (.int (3 : Int32)), .val (.ref b76), .unset, .unset, .unset] [(.int (p2.toInt8.toInt32)), (.int (1 : Int32)), (.ref b76)])) _
    refine st80 _ ?_
    show Steps p.tables e below (T80.setTop (mkF m 34 #[.val (.int p0), .val (.int p1), .val (.int p2), .val (.int p3), .val (.int p4), .val (.int (3 : Int32)), .val (.ref b76), .unset, .unset, .unset] [])) _
    refine XS.iload X80.here hx rfl (hb hby at_34) rfl ?_
    show Steps p.tables e below (T80.setTop (mkF m 36 #[.val (.int p0), .val (.int p1), .val (.int p2), .val (.int p3), .val (.int p4), .val (.int (3 : Int32)), .val (.ref b76), .unset, .unset, .unset] [(.int (3 : Int32))])) _
    refine XS.iconst X80.here hx rfl (hb hby at_36) ?_
    show Steps p.tables e below (T80.setTop (mkF m 37 #[.val (.int p0), .val (.int p1), .val (.int p2), .val (.int p3), .val (.int p4), .val (.int (3 : Int32)), .val (.ref b76), .unset, .unset, .unset] [(.int (2 : Int32)), (.int (3 : Int32))])) _
    refine XS.icmpNo X80.here hx rfl (hb hby at_37) rfl (tlt (by decide : (2 : Int32) < (3 : Int32))).2.2.2 ?_
    show Steps p.tables e below (T80.setTop (mkF m 40 #[.val (.int p0), .val (.int p1), .val (.int p2), .val (.int p3), .val (.int p4), .val (.int (3 : Int32)), .val (.ref b76), .unset, .unset, .unset] [])) _
    refine XS.aload X80.here hx rfl (hb hby at_40) rfl rfl ?_
    show Steps p.tables e below (T80.setTop (mkF m 42 #[.val (.int p0), .val (.int p1), .val (.int p2), .val (.int p3), .val (.int p4), .val (.int (3 : Int32)), .val (.ref b76), .unset, .unset, .unset] [(.ref b76)])) _
    refine XS.iconst X80.here hx rfl (hb hby at_42) ?_
    show Steps p.tables e below (T80.setTop (mkF m 43 #[.val (.int p0), .val (.int p1), .val (.int p2), .val (.int p3), .val (.int p4), .val (.int (3 : Int32)), .val (.ref b76), .unset, .unset, .unset] [(.int (2 : Int32)), (.ref b76)])) _
    refine XS.iloadN X80.here hx rfl (hb hby at_43) rfl ?_
    show Steps p.tables e below (T80.setTop (mkF m 44 #[.val (.int p0), .val (.int p1), .val (.int p2), .val (.int p3), .val (.int p4), .val (.int (3 : Int32)), .val (.ref b76), .unset, .unset, .unset] [(.int p3), (.int (2 : Int32)), (.ref b76)])) _
    refine XS.i2b X80.here hx rfl (hb hby at_44) rfl ?_
    show Steps p.tables e below (T80.setTop (mkF m 45 #[.val (.int p0), .val (.int p1), .val (.int p2), .val (.int p3), .val (.int p4), .val (.int (3 : Int32)), .val (.ref b76), .unset, .unset, .unset] [(.int (p3.toInt8.toInt32)), (.int (2 : Int32)), (.ref b76)])) _
    refine st82 _ ?_
    show Steps p.tables e below (T82.setTop (mkF m 46 #[.val (.int p0), .val (.int p1), .val (.int p2), .val (.int p3), .val (.int p4), .val (.int (3 : Int32)), .val (.ref b76), .unset, .unset, .unset] [])) _
    refine XS.aload X82.here hx rfl (hb hby at_46) rfl rfl ?_
    show Steps p.tables e below (T82.setTop (mkF m 48 #[.val (.int p0), .val (.int p1), .val (.int p2), .val (.int p3), .val (.int p4), .val (.int (3 : Int32)), .val (.ref b76), .unset, .unset, .unset] [(.ref b76)])) _
    refine XS.iload X82.here hx rfl (hb hby at_48) rfl ?_
    show Steps p.tables e below (T82.setTop (mkF m 50 #[.val (.int p0), .val (.int p1), .val (.int p2), .val (.int p3), .val (.int p4), .val (.int (3 : Int32)), .val (.ref b76), .unset, .unset, .unset] [(.int p4), (.ref b76)])) _
    refine st83 _ ?_
    show Steps p.tables e below (T83.setTop (mkF m 53 #[.val (.int p0), .val (.int p1), .val (.int p2), .val (.int p3), .val (.int p4), .val (.int (3 : Int32)), .val (.ref b76), .unset, .unset, .unset] [(.ref b83)])) _
    refine XS.astore X83.here hx rfl (hb hby at_53) rfl rfl (l' := #[.val (.int p0), .val (.int p1), .val (.int p2), .val (.int p3), .val (.int p4), .val (.int (3 : Int32)), .val (.ref b76), .val (.ref b83), .unset, .unset]) rfl ?_
    show Steps p.tables e below (T83.setTop (mkF m 55 #[.val (.int p0), .val (.int p1), .val (.int p2), .val (.int p3), .val (.int p4), .val (.int (3 : Int32)), .val (.ref b76), .val (.ref b83), .unset, .unset] [])) _
    refine XS.aload X83.here hx rfl (hb hby at_55) rfl rfl ?_
    show Steps p.tables e below (T83.setTop (mkF m 57 #[.val (.int p0), .val (.int p1), .val (.int p2), .val (.int p3), .val (.int p4), .val (.int (3 : Int32)), .val (.ref b76), .val (.ref b83), .unset, .unset] [(.ref b83)])) _
    refine XS.ifnullNo X83.here hx rfl (hb hby at_57) rfl ?_
    show Steps p.tables e below (T83.setTop (mkF m 60 #[.val (.int p0), .val (.int p1), .val (.int p2), .val (.int p3), .val (.int p4), .val (.int (3 : Int32)), .val (.ref b76), .val (.ref b83), .unset, .unset] [])) _
    refine XS.aload X83.here hx rfl (hb hby at_60) rfl rfl ?_
    show Steps p.tables e below (T83.setTop (mkF m 62 #[.val (.int p0), .val (.int p1), .val (.int p2), .val (.int p3), .val (.int p4), .val (.int (3 : Int32)), .val (.ref b76), .val (.ref b83), .unset, .unset] [(.ref b83)])) _
    refine X83.arraylength hx Ar84.1 (State.isArrayOf_alike hZ.alike Ar84.2.1) (g := (mkF m 62 #[.val (.int p0), .val (.int p1), .val (.int p2), .val (.int p3), .val (.int p4), .val (.int (3 : Int32)), .val (.ref b76), .val (.ref b83), .unset, .unset] [(.ref b83)])) rfl rfl (hb hby at_62) _ ?_
    rw [len_of S84 M84]
    show Steps p.tables e below (T83.setTop (mkF m 63 #[.val (.int p0), .val (.int p1), .val (.int p2), .val (.int p3), .val (.int p4), .val (.int (3 : Int32)), .val (.ref b76), .val (.ref b83), .unset, .unset] [(.int (5 : Int32))])) _
    refine XS.iload X83.here hx rfl (hb hby at_63) rfl ?_
    show Steps p.tables e below (T83.setTop (mkF m 65 #[.val (.int p0), .val (.int p1), .val (.int p2), .val (.int p3), .val (.int p4), .val (.int (3 : Int32)), .val (.ref b76), .val (.ref b83), .unset, .unset] [(.int (3 : Int32)), (.int (5 : Int32))])) _
    refine XS.iconst X83.here hx rfl (hb hby at_65) ?_
    show Steps p.tables e below (T83.setTop (mkF m 66 #[.val (.int p0), .val (.int p1), .val (.int p2), .val (.int p3), .val (.int p4), .val (.int (3 : Int32)), .val (.ref b76), .val (.ref b83), .unset, .unset] [(.int (2 : Int32)), (.int (3 : Int32)), (.int (5 : Int32))])) _
    refine XS.iadd X83.here hx rfl (hb hby at_66) rfl ?_
    show Steps p.tables e below (T83.setTop (mkF m 67 #[.val (.int p0), .val (.int p1), .val (.int p2), .val (.int p3), .val (.int p4), .val (.int (3 : Int32)), .val (.ref b76), .val (.ref b83), .unset, .unset] [(.int (5 : Int32)), (.int (5 : Int32))])) _
    refine XS.icmpYes X83.here hx rfl (pc0 := 67) (pc' := 72) rfl (hb hby at_67) rfl (teq (rfl : (5 : Int32) = (5 : Int32))).1 (by decide) (by decide) ?_
    show Steps p.tables e below (T83.setTop (mkF m 72 #[.val (.int p0), .val (.int p1), .val (.int p2), .val (.int p3), .val (.int p4), .val (.int (3 : Int32)), .val (.ref b76), .val (.ref b83), .unset, .unset] [])) _
    refine XS.iconst X83.here hx rfl (hb hby at_72) ?_
    show Steps p.tables e below (T83.setTop (mkF m 73 #[.val (.int p0), .val (.int p1), .val (.int p2), .val (.int p3), .val (.int p4), .val (.int (3 : Int32)), .val (.ref b76), .val (.ref b83), .unset, .unset] [(.int (1 : Int32))])) _
    refine XS.istore X83.here hx rfl (hb hby at_73) rfl (l' := #[.val (.int p0), .val (.int p1), .val (.int p2), .val (.int p3), .val (.int p4), .val (.int (3 : Int32)), .val (.ref b76), .val (.ref b83), .val (.int (1 : Int32)), .unset]) rfl ?_
    show Steps p.tables e below (T83.setTop (mkF m 75 #[.val (.int p0), .val (.int p1), .val (.int p2), .val (.int p3), .val (.int p4), .val (.int (3 : Int32)), .val (.ref b76), .val (.ref b83), .val (.int (1 : Int32)), .unset] [])) _
    refine XS.iload X83.here hx rfl (hb hby at_75) rfl ?_
    show Steps p.tables e below (T83.setTop (mkF m 77 #[.val (.int p0), .val (.int p1), .val (.int p2), .val (.int p3), .val (.int p4), .val (.int (3 : Int32)), .val (.ref b76), .val (.ref b83), .val (.int (1 : Int32)), .unset] [(.int (3 : Int32))])) _
    refine XS.ifNo X83.here hx rfl (hb hby at_77) rfl ((if0 _ _).trans (tlt (by decide : (0 : Int32) < (3 : Int32))).2.2.2) ?_
    show Steps p.tables e below (T83.setTop (mkF m 80 #[.val (.int p0), .val (.int p1), .val (.int p2), .val (.int p3), .val (.int p4), .val (.int (3 : Int32)), .val (.ref b76), .val (.ref b83), .val (.int (1 : Int32)), .unset] [])) _
    refine XS.iload X83.here hx rfl (hb hby at_80) rfl ?_
    show Steps p.tables e below (T83.setTop (mkF m 82 #[.val (.int p0), .val (.int p1), .val (.int p2), .val (.int p3), .val (.int p4), .val (.int (3 : Int32)), .val (.ref b76), .val (.ref b83), .val (.int (1 : Int32)), .unset] [(.int (1 : Int32))])) _
    refine XS.ifNo X83.here hx rfl (hb hby at_82) rfl ((if0 _ _).trans (feq (by decide : ¬ ((1 : Int32) = (0 : Int32)))).1) ?_
    show Steps p.tables e below (T83.setTop (mkF m 85 #[.val (.int p0), .val (.int p1), .val (.int p2), .val (.int p3), .val (.int p4), .val (.int (3 : Int32)), .val (.ref b76), .val (.ref b83), .val (.int (1 : Int32)), .unset] [])) _
    refine XS.aload X83.here hx rfl (hb hby at_85) rfl rfl ?_
    show Steps p.tables e below (T83.setTop (mkF m 87 #[.val (.int p0), .val (.int p1), .val (.int p2), .val (.int p3), .val (.int p4), .val (.int (3 : Int32)), .val (.ref b76), .val (.ref b83), .val (.int (1 : Int32)), .unset] [(.ref b83)])) _
    refine XS.iconst X83.here hx rfl (hb hby at_87) ?_
    show Steps p.tables e below (T83.setTop (mkF m 88 #[.val (.int p0), .val (.int p1), .val (.int p2), .val (.int p3), .val (.int p4), .val (.int (3 : Int32)), .val (.ref b76), .val (.ref b83), .val (.int (1 : Int32)), .unset] [(.int (0 : Int32)), (.ref b83)])) _
    refine X83.baloadBytes hx (j := (0 : Int32)) (v := (.int ((p1.toInt8.toInt32).toInt8.toInt32))) Ar85.1 (State.isArrayOf_alike hZ.alike Ar85.2.1) Ar85.2.2 hin85 hat85 (g := (mkF m 88 #[.val (.int p0), .val (.int p1), .val (.int p2), .val (.int p3), .val (.int p4), .val (.int (3 : Int32)), .val (.ref b76), .val (.ref b83), .val (.int (1 : Int32)), .unset] [(.int (0 : Int32)), (.ref b83)])) rfl rfl (hb hby at_88) _ ?_
    show Steps p.tables e below (T83.setTop (mkF m 89 #[.val (.int p0), .val (.int p1), .val (.int p2), .val (.int p3), .val (.int p4), .val (.int (3 : Int32)), .val (.ref b76), .val (.ref b83), .val (.int (1 : Int32)), .unset] [(.int ((p1.toInt8.toInt32).toInt8.toInt32))])) _
    refine XS.iloadN X83.here hx rfl (hb hby at_89) rfl ?_
    show Steps p.tables e below (T83.setTop (mkF m 90 #[.val (.int p0), .val (.int p1), .val (.int p2), .val (.int p3), .val (.int p4), .val (.int (3 : Int32)), .val (.ref b76), .val (.ref b83), .val (.int (1 : Int32)), .unset] [(.int p1), (.int ((p1.toInt8.toInt32).toInt8.toInt32))])) _
    refine XS.i2b X83.here hx rfl (hb hby at_90) rfl ?_
    exact k)
  obtain ⟨T87, L87, X87, e87, N87, pre87⟩ : ∃ (T' : State) (locs' : List Loc), Stand p l e room_1 s m #[(.int p0), (.int p1), (.int p2), (.int p3), (.int p4)] below meth c T' locs' 2 8 ∧ T'.heap = T83.heap ∧ Fr n0 locs' ∧ ∀ t, Steps p.tables e below (T'.setTop (mkF m 108 #[.val (.int p0), .val (.int p1), .val (.int p2), .val (.int p3), .val (.int p4), .val (.int (3 : Int32)), .val (.ref b76), .val (.ref b83), .val (.int (1 : Int32)), .unset] [(.int (f0_m92 p0 p1 p2 p3 p4))])) t → Steps p.tables e below (s₁.setTop (entryFrame m #[(.int p0), (.int p1), (.int p2), (.int p3), (.int p4)] maxLocals)) t := by
    by_cases hc91_87 : ((p1.toInt8.toInt32).toInt8.toInt32) = (p1.toInt8.toInt32)
    · have y88 := (V82.keep K83 nin0)
      obtain ⟨cl89, Ar89, q89, S89, M89, H89, G89⟩ := id y88
      have hin89 : ¬ ((0 : Int32) < 0 ∨ cl89.slots.size ≤ ((0 : Int32)).toNatClampNeg) := inb_of S89 ⟨by decide, by decide⟩
      have hat89 : cl89.slots[((0 : Int32)).toNatClampNeg]? = some (.int ((p1.toInt8.toInt32).toInt8.toInt32)) := H89.at hin89 rfl
      have pre90 : ∀ t, Steps p.tables e below (T83.setTop (mkF m 108 #[.val (.int p0), .val (.int p1), .val (.int p2), .val (.int p3), .val (.int p4), .val (.int (3 : Int32)), .val (.ref b76), .val (.ref b83), .val (.int (1 : Int32)), .unset] [(.int (1 : Int32))])) t → Steps p.tables e below (s₁.setTop (entryFrame m #[(.int p0), (.int p1), (.int p2), (.int p3), (.int p4)] maxLocals)) t := fun t k => pre86 t (by
        show Steps p.tables e below (T83.setTop (mkF m 91 #[.val (.int p0), .val (.int p1), .val (.int p2), .val (.int p3), .val (.int p4), .val (.int (3 : Int32)), .val (.ref b76), .val (.ref b83), .val (.int (1 : Int32)), .unset] [(.int (p1.toInt8.toInt32)), (.int ((p1.toInt8.toInt32).toInt8.toInt32))])) _
        refine XS.icmpNo X83.here hx rfl (hb hby at_91) rfl (teq hc91_87).2 ?_
        show Steps p.tables e below (T83.setTop (mkF m 94 #[.val (.int p0), .val (.int p1), .val (.int p2), .val (.int p3), .val (.int p4), .val (.int (3 : Int32)), .val (.ref b76), .val (.ref b83), .val (.int (1 : Int32)), .unset] [])) _
        refine XS.aload X83.here hx rfl (hb hby at_94) rfl rfl ?_
        show Steps p.tables e below (T83.setTop (mkF m 96 #[.val (.int p0), .val (.int p1), .val (.int p2), .val (.int p3), .val (.int p4), .val (.int (3 : Int32)), .val (.ref b76), .val (.ref b83), .val (.int (1 : Int32)), .unset] [(.ref b76)])) _
        refine XS.iconst X83.here hx rfl (hb hby at_96) ?_
        show Steps p.tables e below (T83.setTop (mkF m 97 #[.val (.int p0), .val (.int p1), .val (.int p2), .val (.int p3), .val (.int p4), .val (.int (3 : Int32)), .val (.ref b76), .val (.ref b83), .val (.int (1 : Int32)), .unset] [(.int (0 : Int32)), (.ref b76)])) _
        refine X83.baloadBytes hx (j := (0 : Int32)) (v := (.int ((p1.toInt8.toInt32).toInt8.toInt32))) Ar89.1 (State.isArrayOf_alike hZ.alike Ar89.2.1) Ar89.2.2 hin89 hat89 (g := (mkF m 97 #[.val (.int p0), .val (.int p1), .val (.int p2), .val (.int p3), .val (.int p4), .val (.int (3 : Int32)), .val (.ref b76), .val (.ref b83), .val (.int (1 : Int32)), .unset] [(.int (0 : Int32)), (.ref b76)])) rfl rfl (hb hby at_97) _ ?_
        show Steps p.tables e below (T83.setTop (mkF m 98 #[.val (.int p0), .val (.int p1), .val (.int p2), .val (.int p3), .val (.int p4), .val (.int (3 : Int32)), .val (.ref b76), .val (.ref b83), .val (.int (1 : Int32)), .unset] [(.int ((p1.toInt8.toInt32).toInt8.toInt32))])) _
        refine XS.iloadN X83.here hx rfl (hb hby at_98) rfl ?_
        show Steps p.tables e below (T83.setTop (mkF m 99 #[.val (.int p0), .val (.int p1), .val (.int p2), .val (.int p3), .val (.int p4), .val (.int (3 : Int32)), .val (.ref b76), .val (.ref b83), .val (.int (1 : Int32)), .unset] [(.int p1), (.int ((p1.toInt8.toInt32).toInt8.toInt32))])) _
        refine XS.i2b X83.here hx rfl (hb hby at_99) rfl ?_
        show Steps p.tables e below (T83.setTop (mkF m 100 #[.val (.int p0), .val (.int p1), .val (.int p2), .val (.int p3), .val (.int p4), .val (.int (3 : Int32)), .val (.ref b76), .val (.ref b83), .val (.int (1 : Int32)), .unset] [(.int (p1.toInt8.toInt32)), (.int ((p1.toInt8.toInt32).toInt8.toInt32))])) _
        refine XS.icmpNo X83.here hx rfl (hb hby at_100) rfl (teq hc91_87).2 ?_
        show Steps p.tables e below (T83.setTop (mkF m 103 #[.val (.int p0), .val (.int p1), .val (.int p2), .val (.int p3), .val (.int p4), .val (.int (3 : Int32)), .val (.ref b76), .val (.ref b83), .val (.int (1 : Int32)), .unset] [])) _
        refine XS.iconst X83.here hx rfl (hb hby at_103) ?_
        show Steps p.tables e below (T83.setTop (mkF m 104 #[.val (.int p0), .val (.int p1), .val (.int p2), .val (.int p3), .val (.int p4), .val (.int (3 : Int32)), .val (.ref b76), .val (.ref b83), .val (.int (1 : Int32)), .unset] [(.int (1 : Int32))])) _
        refine XS.goto X83.here hx rfl (pc0 := 104) (pc' := 108) rfl (hb hby at_104) (by decide) (by decide) ?_
        exact k)
      have q_f0_m92 : f0_m92 p0 p1 p2 p3 p4 = (1 : Int32) := by unfold f0_m92; rw [if_pos hc91_87]
      rw [q_f0_m92]
      exact ⟨T83, _, X83, rfl, N83, pre90⟩
    have pre91 : ∀ t, Steps p.tables e below (T83.setTop (mkF m 108 #[.val (.int p0), .val (.int p1), .val (.int p2), .val (.int p3), .val (.int p4), .val (.int (3 : Int32)), .val (.ref b76), .val (.ref b83), .val (.int (1 : Int32)), .unset] [(.int (0 : Int32))])) t → Steps p.tables e below (s₁.setTop (entryFrame m #[(.int p0), (.int p1), (.int p2), (.int p3), (.int p4)] maxLocals)) t := fun t k => pre86 t (by
      show Steps p.tables e below (T83.setTop (mkF m 91 #[.val (.int p0), .val (.int p1), .val (.int p2), .val (.int p3), .val (.int p4), .val (.int (3 : Int32)), .val (.ref b76), .val (.ref b83), .val (.int (1 : Int32)), .unset] [(.int (p1.toInt8.toInt32)), (.int ((p1.toInt8.toInt32).toInt8.toInt32))])) _
      refine XS.icmpYes X83.here hx rfl (pc0 := 91) (pc' := 107) rfl (hb hby at_91) rfl (feq hc91_87).2 (by decide) (by decide) ?_
      show Steps p.tables e below (T83.setTop (mkF m 107 #[.val (.int p0), .val (.int p1), .val (.int p2), .val (.int p3), .val (.int p4), .val (.int (3 : Int32)), .val (.ref b76), .val (.ref b83), .val (.int (1 : Int32)), .unset] [])) _
      refine XS.iconst X83.here hx rfl (hb hby at_107) ?_
      exact k)
    have q_f0_m92 : f0_m92 p0 p1 p2 p3 p4 = (0 : Int32) := by unfold f0_m92; rw [if_neg hc91_87]
    rw [q_f0_m92]
    exact ⟨T83, _, X83, rfl, N83, pre91⟩
  have pre93 : ∀ t, Steps p.tables e below (T87.setTop (mkF m 118 #[.val (.int p0), .val (.int p1), .val (.int p2), .val (.int p3), .val (.int p4), .val (.int (3 : Int32)), .val (.ref b76), .val (.ref b83), .val (.int (f0_m92 p0 p1 p2 p3 p4)), .unset] [(.int (f0_m92 p0 p1 p2 p3 p4))])) t → Steps p.tables e below (s₁.setTop (entryFrame m #[(.int p0), (.int p1), (.int p2), (.int p3), (.int p4)] maxLocals)) t := fun t k => pre87 t (by
    show Steps p.tables e below (T87.setTop (mkF m 108 #[.val (.int p0), .val (.int p1), .val (.int p2), .val (.int p3), .val (.int p4), .val (.int (3 : Int32)), .val (.ref b76), .val (.ref b83), .val (.int (1 : Int32)), .unset] [(.int (f0_m92 p0 p1 p2 p3 p4))])) _
    refine XS.istore X87.here hx rfl (hb hby at_108) rfl (l' := #[.val (.int p0), .val (.int p1), .val (.int p2), .val (.int p3), .val (.int p4), .val (.int (3 : Int32)), .val (.ref b76), .val (.ref b83), .val (.int (f0_m92 p0 p1 p2 p3 p4)), .unset]) rfl ?_
    show Steps p.tables e below (T87.setTop (mkF m 110 #[.val (.int p0), .val (.int p1), .val (.int p2), .val (.int p3), .val (.int p4), .val (.int (3 : Int32)), .val (.ref b76), .val (.ref b83), .val (.int (f0_m92 p0 p1 p2 p3 p4)), .unset] [])) _
    refine XS.iload X87.here hx rfl (hb hby at_110) rfl ?_
    show Steps p.tables e below (T87.setTop (mkF m 112 #[.val (.int p0), .val (.int p1), .val (.int p2), .val (.int p3), .val (.int p4), .val (.int (3 : Int32)), .val (.ref b76), .val (.ref b83), .val (.int (f0_m92 p0 p1 p2 p3 p4)), .unset] [(.int (3 : Int32))])) _
    refine XS.iconst X87.here hx rfl (hb hby at_112) ?_
    show Steps p.tables e below (T87.setTop (mkF m 113 #[.val (.int p0), .val (.int p1), .val (.int p2), .val (.int p3), .val (.int p4), .val (.int (3 : Int32)), .val (.ref b76), .val (.ref b83), .val (.int (f0_m92 p0 p1 p2 p3 p4)), .unset] [(.int (1 : Int32)), (.int (3 : Int32))])) _
    refine XS.icmpNo X87.here hx rfl (hb hby at_113) rfl (tlt (by decide : (1 : Int32) < (3 : Int32))).2.2.2 ?_
    show Steps p.tables e below (T87.setTop (mkF m 116 #[.val (.int p0), .val (.int p1), .val (.int p2), .val (.int p3), .val (.int p4), .val (.int (3 : Int32)), .val (.ref b76), .val (.ref b83), .val (.int (f0_m92 p0 p1 p2 p3 p4)), .unset] [])) _
    refine XS.iload X87.here hx rfl (hb hby at_116) rfl ?_
    exact k)
  obtain ⟨T94, L94, X94, e94, N94, pre94⟩ : ∃ (T' : State) (locs' : List Loc), Stand p l e room_1 s m #[(.int p0), (.int p1), (.int p2), (.int p3), (.int p4)] below meth c T' locs' 2 8 ∧ T'.heap = T83.heap ∧ Fr n0 locs' ∧ ∀ t, Steps p.tables e below (T'.setTop (mkF m 144 #[.val (.int p0), .val (.int p1), .val (.int p2), .val (.int p3), .val (.int p4), .val (.int (3 : Int32)), .val (.ref b76), .val (.ref b83), .val (.int (f0_m92 p0 p1 p2 p3 p4)), .unset] [(.int (f0_m103 p0 p1 p2 p3 p4))])) t → Steps p.tables e below (s₁.setTop (entryFrame m #[(.int p0), (.int p1), (.int p2), (.int p3), (.int p4)] maxLocals)) t := by
    by_cases hc118_94 : (f0_m92 p0 p1 p2 p3 p4) = (0 : Int32)
    · have pre95 : ∀ t, Steps p.tables e below (T87.setTop (mkF m 144 #[.val (.int p0), .val (.int p1), .val (.int p2), .val (.int p3), .val (.int p4), .val (.int (3 : Int32)), .val (.ref b76), .val (.ref b83), .val (.int (f0_m92 p0 p1 p2 p3 p4)), .unset] [(.int (0 : Int32))])) t → Steps p.tables e below (s₁.setTop (entryFrame m #[(.int p0), (.int p1), (.int p2), (.int p3), (.int p4)] maxLocals)) t := fun t k => pre93 t (by
        show Steps p.tables e below (T87.setTop (mkF m 118 #[.val (.int p0), .val (.int p1), .val (.int p2), .val (.int p3), .val (.int p4), .val (.int (3 : Int32)), .val (.ref b76), .val (.ref b83), .val (.int (f0_m92 p0 p1 p2 p3 p4)), .unset] [(.int (f0_m92 p0 p1 p2 p3 p4))])) _
        refine XS.ifYes X87.here hx rfl (pc0 := 118) (pc' := 143) rfl (hb hby at_118) rfl ((if0 _ _).trans (teq hc118_94).1) (by decide) (by decide) ?_
        show Steps p.tables e below (T87.setTop (mkF m 143 #[.val (.int p0), .val (.int p1), .val (.int p2), .val (.int p3), .val (.int p4), .val (.int (3 : Int32)), .val (.ref b76), .val (.ref b83), .val (.int (f0_m92 p0 p1 p2 p3 p4)), .unset] [])) _
        refine XS.iconst X87.here hx rfl (hb hby at_143) ?_
        exact k)
      have q_f0_m103 : f0_m103 p0 p1 p2 p3 p4 = (0 : Int32) := by unfold f0_m103; rw [if_pos hc118_94]
      rw [q_f0_m103]
      exact ⟨T87, _, X87, e87, N87, pre95⟩
    obtain ⟨cl96, Ar96, q96, S96, M96, H96, G96⟩ := id u83_0
    have hin96 : ¬ ((1 : Int32) < 0 ∨ cl96.slots.size ≤ ((1 : Int32)).toNatClampNeg) := inb_of S96 ⟨by decide, by decide⟩
    have hat96 : cl96.slots[((1 : Int32)).toNatClampNeg]? = some (.int ((p2.toInt8.toInt32).toInt8.toInt32)) := H96.at hin96 rfl
    have pre97 : ∀ t, Steps p.tables e below (T87.setTop (mkF m 127 #[.val (.int p0), .val (.int p1), .val (.int p2), .val (.int p3), .val (.int p4), .val (.int (3 : Int32)), .val (.ref b76), .val (.ref b83), .val (.int (f0_m92 p0 p1 p2 p3 p4)), .unset] [(.int (p2.toInt8.toInt32)), (.int ((p2.toInt8.toInt32).toInt8.toInt32))])) t → Steps p.tables e below (s₁.setTop (entryFrame m #[(.int p0), (.int p1), (.int p2), (.int p3), (.int p4)] maxLocals)) t := fun t k => pre93 t (by
      show Steps p.tables e below (T87.setTop (mkF m 118 #[.val (.int p0), .val (.int p1), .val (.int p2), .val (.int p3), .val (.int p4), .val (.int (3 : Int32)), .val (.ref b76), .val (.ref b83), .val (.int (f0_m92 p0 p1 p2 p3 p4)), .unset] [(.int (f0_m92 p0 p1 p2 p3 p4))])) _
      refine XS.ifNo X87.here hx rfl (hb hby at_118) rfl ((if0 _ _).trans (feq hc118_94).1) ?_
      show Steps p.tables e below (T87.setTop (mkF m 121 #[.val (.int p0), .val (.int p1), .val (.int p2), .val (.int p3), .val (.int p4), .val (.int (3 : Int32)), .val (.ref b76), .val (.ref b83), .val (.int (f0_m92 p0 p1 p2 p3 p4)), .unset] [])) _
      refine XS.aload X87.here hx rfl (hb hby at_121) rfl rfl ?_
      show Steps p.tables e below (T87.setTop (mkF m 123 #[.val (.int p0), .val (.int p1), .val (.int p2), .val (.int p3), .val (.int p4), .val (.int (3 : Int32)), .val (.ref b76), .val (.ref b83), .val (.int (f0_m92 p0 p1 p2 p3 p4)), .unset] [(.ref b83)])) _
      refine XS.iconst X87.here hx rfl (hb hby at_123) ?_
      show Steps p.tables e below (T87.setTop (mkF m 124 #[.val (.int p0), .val (.int p1), .val (.int p2), .val (.int p3), .val (.int p4), .val (.int (3 : Int32)), .val (.ref b76), .val (.ref b83), .val (.int (f0_m92 p0 p1 p2 p3 p4)), .unset] [(.int (1 : Int32)), (.ref b83)])) _
      refine X87.baloadBytes hx (j := (1 : Int32)) (v := (.int ((p2.toInt8.toInt32).toInt8.toInt32))) (by rw [e87]; exact Ar96.1) (State.isArrayOf_alike hZ.alike Ar96.2.1) Ar96.2.2 hin96 hat96 (g := (mkF m 124 #[.val (.int p0), .val (.int p1), .val (.int p2), .val (.int p3), .val (.int p4), .val (.int (3 : Int32)), .val (.ref b76), .val (.ref b83), .val (.int (f0_m92 p0 p1 p2 p3 p4)), .unset] [(.int (1 : Int32)), (.ref b83)])) rfl rfl (hb hby at_124) _ ?_
      show Steps p.tables e below (T87.setTop (mkF m 125 #[.val (.int p0), .val (.int p1), .val (.int p2), .val (.int p3), .val (.int p4), .val (.int (3 : Int32)), .val (.ref b76), .val (.ref b83), .val (.int (f0_m92 p0 p1 p2 p3 p4)), .unset] [(.int ((p2.toInt8.toInt32).toInt8.toInt32))])) _
      refine XS.iloadN X87.here hx rfl (hb hby at_125) rfl ?_
      show Steps p.tables e below (T87.setTop (mkF m 126 #[.val (.int p0), .val (.int p1), .val (.int p2), .val (.int p3), .val (.int p4), .val (.int (3 : Int32)), .val (.ref b76), .val (.ref b83), .val (.int (f0_m92 p0 p1 p2 p3 p4)), .unset] [(.int p2), (.int ((p2.toInt8.toInt32).toInt8.toInt32))])) _
      refine XS.i2b X87.here hx rfl (hb hby at_126) rfl ?_
      exact k)
    by_cases hc127_98 : ((p2.toInt8.toInt32).toInt8.toInt32) = (p2.toInt8.toInt32)
    · have y99 := (V82.keep K83 nin0)
      obtain ⟨cl100, Ar100, q100, S100, M100, H100, G100⟩ := id y99
      have hin100 : ¬ ((1 : Int32) < 0 ∨ cl100.slots.size ≤ ((1 : Int32)).toNatClampNeg) := inb_of S100 ⟨by decide, by decide⟩
      have hat100 : cl100.slots[((1 : Int32)).toNatClampNeg]? = some (.int ((p2.toInt8.toInt32).toInt8.toInt32)) := H100.at hin100 rfl
      have pre101 : ∀ t, Steps p.tables e below (T87.setTop (mkF m 144 #[.val (.int p0), .val (.int p1), .val (.int p2), .val (.int p3), .val (.int p4), .val (.int (3 : Int32)), .val (.ref b76), .val (.ref b83), .val (.int (f0_m92 p0 p1 p2 p3 p4)), .unset] [(.int (1 : Int32))])) t → Steps p.tables e below (s₁.setTop (entryFrame m #[(.int p0), (.int p1), (.int p2), (.int p3), (.int p4)] maxLocals)) t := fun t k => pre97 t (by
        show Steps p.tables e below (T87.setTop (mkF m 127 #[.val (.int p0), .val (.int p1), .val (.int p2), .val (.int p3), .val (.int p4), .val (.int (3 : Int32)), .val (.ref b76), .val (.ref b83), .val (.int (f0_m92 p0 p1 p2 p3 p4)), .unset] [(.int (p2.toInt8.toInt32)), (.int ((p2.toInt8.toInt32).toInt8.toInt32))])) _
        refine XS.icmpNo X87.here hx rfl (hb hby at_127) rfl (teq hc127_98).2 ?_
        show Steps p.tables e below (T87.setTop (mkF m 130 #[.val (.int p0), .val (.int p1), .val (.int p2), .val (.int p3), .val (.int p4), .val (.int (3 : Int32)), .val (.ref b76), .val (.ref b83), .val (.int (f0_m92 p0 p1 p2 p3 p4)), .unset] [])) _
        refine XS.aload X87.here hx rfl (hb hby at_130) rfl rfl ?_
        show Steps p.tables e below (T87.setTop (mkF m 132 #[.val (.int p0), .val (.int p1), .val (.int p2), .val (.int p3), .val (.int p4), .val (.int (3 : Int32)), .val (.ref b76), .val (.ref b83), .val (.int (f0_m92 p0 p1 p2 p3 p4)), .unset] [(.ref b76)])) _
        refine XS.iconst X87.here hx rfl (hb hby at_132) ?_
        show Steps p.tables e below (T87.setTop (mkF m 133 #[.val (.int p0), .val (.int p1), .val (.int p2), .val (.int p3), .val (.int p4), .val (.int (3 : Int32)), .val (.ref b76), .val (.ref b83), .val (.int (f0_m92 p0 p1 p2 p3 p4)), .unset] [(.int (1 : Int32)), (.ref b76)])) _
        refine X87.baloadBytes hx (j := (1 : Int32)) (v := (.int ((p2.toInt8.toInt32).toInt8.toInt32))) (by rw [e87]; exact Ar100.1) (State.isArrayOf_alike hZ.alike Ar100.2.1) Ar100.2.2 hin100 hat100 (g := (mkF m 133 #[.val (.int p0), .val (.int p1), .val (.int p2), .val (.int p3), .val (.int p4), .val (.int (3 : Int32)), .val (.ref b76), .val (.ref b83), .val (.int (f0_m92 p0 p1 p2 p3 p4)), .unset] [(.int (1 : Int32)), (.ref b76)])) rfl rfl (hb hby at_133) _ ?_
        show Steps p.tables e below (T87.setTop (mkF m 134 #[.val (.int p0), .val (.int p1), .val (.int p2), .val (.int p3), .val (.int p4), .val (.int (3 : Int32)), .val (.ref b76), .val (.ref b83), .val (.int (f0_m92 p0 p1 p2 p3 p4)), .unset] [(.int ((p2.toInt8.toInt32).toInt8.toInt32))])) _
        refine XS.iloadN X87.here hx rfl (hb hby at_134) rfl ?_
        show Steps p.tables e below (T87.setTop (mkF m 135 #[.val (.int p0), .val (.int p1), .val (.int p2), .val (.int p3), .val (.int p4), .val (.int (3 : Int32)), .val (.ref b76), .val (.ref b83), .val (.int (f0_m92 p0 p1 p2 p3 p4)), .unset] [(.int p2), (.int ((p2.toInt8.toInt32).toInt8.toInt32))])) _
        refine XS.i2b X87.here hx rfl (hb hby at_135) rfl ?_
        show Steps p.tables e below (T87.setTop (mkF m 136 #[.val (.int p0), .val (.int p1), .val (.int p2), .val (.int p3), .val (.int p4), .val (.int (3 : Int32)), .val (.ref b76), .val (.ref b83), .val (.int (f0_m92 p0 p1 p2 p3 p4)), .unset] [(.int (p2.toInt8.toInt32)), (.int ((p2.toInt8.toInt32).toInt8.toInt32))])) _
        refine XS.icmpNo X87.here hx rfl (hb hby at_136) rfl (teq hc127_98).2 ?_
        show Steps p.tables e below (T87.setTop (mkF m 139 #[.val (.int p0), .val (.int p1), .val (.int p2), .val (.int p3), .val (.int p4), .val (.int (3 : Int32)), .val (.ref b76), .val (.ref b83), .val (.int (f0_m92 p0 p1 p2 p3 p4)), .unset] [])) _
        refine XS.iconst X87.here hx rfl (hb hby at_139) ?_
        show Steps p.tables e below (T87.setTop (mkF m 140 #[.val (.int p0), .val (.int p1), .val (.int p2), .val (.int p3), .val (.int p4), .val (.int (3 : Int32)), .val (.ref b76), .val (.ref b83), .val (.int (f0_m92 p0 p1 p2 p3 p4)), .unset] [(.int (1 : Int32))])) _
        refine XS.goto X87.here hx rfl (pc0 := 140) (pc' := 144) rfl (hb hby at_140) (by decide) (by decide) ?_
        exact k)
      have q_f0_m103 : f0_m103 p0 p1 p2 p3 p4 = (1 : Int32) := by unfold f0_m103; rw [if_neg hc118_94, if_pos hc127_98]
      rw [q_f0_m103]
      exact ⟨T87, _, X87, e87, N87, pre101⟩
    have pre102 : ∀ t, Steps p.tables e below (T87.setTop (mkF m 144 #[.val (.int p0), .val (.int p1), .val (.int p2), .val (.int p3), .val (.int p4), .val (.int (3 : Int32)), .val (.ref b76), .val (.ref b83), .val (.int (f0_m92 p0 p1 p2 p3 p4)), .unset] [(.int (0 : Int32))])) t → Steps p.tables e below (s₁.setTop (entryFrame m #[(.int p0), (.int p1), (.int p2), (.int p3), (.int p4)] maxLocals)) t := fun t k => pre97 t (by
      show Steps p.tables e below (T87.setTop (mkF m 127 #[.val (.int p0), .val (.int p1), .val (.int p2), .val (.int p3), .val (.int p4), .val (.int (3 : Int32)), .val (.ref b76), .val (.ref b83), .val (.int (f0_m92 p0 p1 p2 p3 p4)), .unset] [(.int (p2.toInt8.toInt32)), (.int ((p2.toInt8.toInt32).toInt8.toInt32))])) _
      refine XS.icmpYes X87.here hx rfl (pc0 := 127) (pc' := 143) rfl (hb hby at_127) rfl (feq hc127_98).2 (by decide) (by decide) ?_
      show Steps p.tables e below (T87.setTop (mkF m 143 #[.val (.int p0), .val (.int p1), .val (.int p2), .val (.int p3), .val (.int p4), .val (.int (3 : Int32)), .val (.ref b76), .val (.ref b83), .val (.int (f0_m92 p0 p1 p2 p3 p4)), .unset] [])) _
      refine XS.iconst X87.here hx rfl (hb hby at_143) ?_
      exact k)
    have q_f0_m103 : f0_m103 p0 p1 p2 p3 p4 = (0 : Int32) := by unfold f0_m103; rw [if_neg hc118_94, if_neg hc127_98]
    rw [q_f0_m103]
    exact ⟨T87, _, X87, e87, N87, pre102⟩
  have pre104 : ∀ t, Steps p.tables e below (T94.setTop (mkF m 154 #[.val (.int p0), .val (.int p1), .val (.int p2), .val (.int p3), .val (.int p4), .val (.int (3 : Int32)), .val (.ref b76), .val (.ref b83), .val (.int (f0_m103 p0 p1 p2 p3 p4)), .unset] [(.int (f0_m103 p0 p1 p2 p3 p4))])) t → Steps p.tables e below (s₁.setTop (entryFrame m #[(.int p0), (.int p1), (.int p2), (.int p3), (.int p4)] maxLocals)) t := fun t k => pre94 t (by
    show Steps p.tables e below (T94.setTop (mkF m 144 #[.val (.int p0), .val (.int p1), .val (.int p2), .val (.int p3), .val (.int p4), .val (.int (3 : Int32)), .val (.ref b76), .val (.ref b83), .val (.int (f0_m92 p0 p1 p2 p3 p4)), .unset] [(.int (f0_m103 p0 p1 p2 p3 p4))])) _
    refine XS.istore X94.here hx rfl (hb hby at_144) rfl (l' := #[.val (.int p0), .val (.int p1), .val (.int p2), .val (.int p3), .val (.int p4), .val (.int (3 : Int32)), .val (.ref b76), .val (.ref b83), .val (.int (f0_m103 p0 p1 p2 p3 p4)), .unset]) rfl ?_
    show Steps p.tables e below (T94.setTop (mkF m 146 #[.val (.int p0), .val (.int p1), .val (.int p2), .val (.int p3), .val (.int p4), .val (.int (3 : Int32)), .val (.ref b76), .val (.ref b83), .val (.int (f0_m103 p0 p1 p2 p3 p4)), .unset] [])) _
    refine XS.iload X94.here hx rfl (hb hby at_146) rfl ?_
    show Steps p.tables e below (T94.setTop (mkF m 148 #[.val (.int p0), .val (.int p1), .val (.int p2), .val (.int p3), .val (.int p4), .val (.int (3 : Int32)), .val (.ref b76), .val (.ref b83), .val (.int (f0_m103 p0 p1 p2 p3 p4)), .unset] [(.int (3 : Int32))])) _
    refine XS.iconst X94.here hx rfl (hb hby at_148) ?_
    show Steps p.tables e below (T94.setTop (mkF m 149 #[.val (.int p0), .val (.int p1), .val (.int p2), .val (.int p3), .val (.int p4), .val (.int (3 : Int32)), .val (.ref b76), .val (.ref b83), .val (.int (f0_m103 p0 p1 p2 p3 p4)), .unset] [(.int (2 : Int32)), (.int (3 : Int32))])) _
    refine XS.icmpNo X94.here hx rfl (hb hby at_149) rfl (tlt (by decide : (2 : Int32) < (3 : Int32))).2.2.2 ?_
    show Steps p.tables e below (T94.setTop (mkF m 152 #[.val (.int p0), .val (.int p1), .val (.int p2), .val (.int p3), .val (.int p4), .val (.int (3 : Int32)), .val (.ref b76), .val (.ref b83), .val (.int (f0_m103 p0 p1 p2 p3 p4)), .unset] [])) _
    refine XS.iload X94.here hx rfl (hb hby at_152) rfl ?_
    exact k)
  obtain ⟨T105, L105, X105, e105, N105, pre105⟩ : ∃ (T' : State) (locs' : List Loc), Stand p l e room_1 s m #[(.int p0), (.int p1), (.int p2), (.int p3), (.int p4)] below meth c T' locs' 2 8 ∧ T'.heap = T83.heap ∧ Fr n0 locs' ∧ ∀ t, Steps p.tables e below (T'.setTop (mkF m 180 #[.val (.int p0), .val (.int p1), .val (.int p2), .val (.int p3), .val (.int p4), .val (.int (3 : Int32)), .val (.ref b76), .val (.ref b83), .val (.int (f0_m103 p0 p1 p2 p3 p4)), .unset] [(.int (f0_m114 p0 p1 p2 p3 p4))])) t → Steps p.tables e below (s₁.setTop (entryFrame m #[(.int p0), (.int p1), (.int p2), (.int p3), (.int p4)] maxLocals)) t := by
    by_cases hc154_105 : (f0_m103 p0 p1 p2 p3 p4) = (0 : Int32)
    · have pre106 : ∀ t, Steps p.tables e below (T94.setTop (mkF m 180 #[.val (.int p0), .val (.int p1), .val (.int p2), .val (.int p3), .val (.int p4), .val (.int (3 : Int32)), .val (.ref b76), .val (.ref b83), .val (.int (f0_m103 p0 p1 p2 p3 p4)), .unset] [(.int (0 : Int32))])) t → Steps p.tables e below (s₁.setTop (entryFrame m #[(.int p0), (.int p1), (.int p2), (.int p3), (.int p4)] maxLocals)) t := fun t k => pre104 t (by
        show Steps p.tables e below (T94.setTop (mkF m 154 #[.val (.int p0), .val (.int p1), .val (.int p2), .val (.int p3), .val (.int p4), .val (.int (3 : Int32)), .val (.ref b76), .val (.ref b83), .val (.int (f0_m103 p0 p1 p2 p3 p4)), .unset] [(.int (f0_m103 p0 p1 p2 p3 p4))])) _
        refine XS.ifYes X94.here hx rfl (pc0 := 154) (pc' := 179) rfl (hb hby at_154) rfl ((if0 _ _).trans (teq hc154_105).1) (by decide) (by decide) ?_
        show Steps p.tables e below (T94.setTop (mkF m 179 #[.val (.int p0), .val (.int p1), .val (.int p2), .val (.int p3), .val (.int p4), .val (.int (3 : Int32)), .val (.ref b76), .val (.ref b83), .val (.int (f0_m103 p0 p1 p2 p3 p4)), .unset] [])) _
        refine XS.iconst X94.here hx rfl (hb hby at_179) ?_
        exact k)
      have q_f0_m114 : f0_m114 p0 p1 p2 p3 p4 = (0 : Int32) := by unfold f0_m114; rw [if_pos hc154_105]
      rw [q_f0_m114]
      exact ⟨T94, _, X94, e94, N94, pre106⟩
    obtain ⟨cl107, Ar107, q107, S107, M107, H107, G107⟩ := id u83_0
    have hin107 : ¬ ((2 : Int32) < 0 ∨ cl107.slots.size ≤ ((2 : Int32)).toNatClampNeg) := inb_of S107 ⟨by decide, by decide⟩
    have hat107 : cl107.slots[((2 : Int32)).toNatClampNeg]? = some (.int ((p3.toInt8.toInt32).toInt8.toInt32)) := H107.at hin107 rfl
    have pre108 : ∀ t, Steps p.tables e below (T94.setTop (mkF m 163 #[.val (.int p0), .val (.int p1), .val (.int p2), .val (.int p3), .val (.int p4), .val (.int (3 : Int32)), .val (.ref b76), .val (.ref b83), .val (.int (f0_m103 p0 p1 p2 p3 p4)), .unset] [(.int (p3.toInt8.toInt32)), (.int ((p3.toInt8.toInt32).toInt8.toInt32))])) t → Steps p.tables e below (s₁.setTop (entryFrame m #[(.int p0), (.int p1), (.int p2), (.int p3), (.int p4)] maxLocals)) t := fun t k => pre104 t (by
      show Steps p.tables e below (T94.setTop (mkF m 154 #[.val (.int p0), .val (.int p1), .val (.int p2), .val (.int p3), .val (.int p4), .val (.int (3 : Int32)), .val (.ref b76), .val (.ref b83), .val (.int (f0_m103 p0 p1 p2 p3 p4)), .unset] [(.int (f0_m103 p0 p1 p2 p3 p4))])) _
      refine XS.ifNo X94.here hx rfl (hb hby at_154) rfl ((if0 _ _).trans (feq hc154_105).1) ?_
      show Steps p.tables e below (T94.setTop (mkF m 157 #[.val (.int p0), .val (.int p1), .val (.int p2), .val (.int p3), .val (.int p4), .val (.int (3 : Int32)), .val (.ref b76), .val (.ref b83), .val (.int (f0_m103 p0 p1 p2 p3 p4)), .unset] [])) _
      refine XS.aload X94.here hx rfl (hb hby at_157) rfl rfl ?_
      show Steps p.tables e below (T94.setTop (mkF m 159 #[.val (.int p0), .val (.int p1), .val (.int p2), .val (.int p3), .val (.int p4), .val (.int (3 : Int32)), .val (.ref b76), .val (.ref b83), .val (.int (f0_m103 p0 p1 p2 p3 p4)), .unset] [(.ref b83)])) _
      refine XS.iconst X94.here hx rfl (hb hby at_159) ?_
      show Steps p.tables e below (T94.setTop (mkF m 160 #[.val (.int p0), .val (.int p1), .val (.int p2), .val (.int p3), .val (.int p4), .val (.int (3 : Int32)), .val (.ref b76), .val (.ref b83), .val (.int (f0_m103 p0 p1 p2 p3 p4)), .unset] [(.int (2 : Int32)), (.ref b83)])) _
      refine X94.baloadBytes hx (j := (2 : Int32)) (v := (.int ((p3.toInt8.toInt32).toInt8.toInt32))) (by rw [e94]; exact Ar107.1) (State.isArrayOf_alike hZ.alike Ar107.2.1) Ar107.2.2 hin107 hat107 (g := (mkF m 160 #[.val (.int p0), .val (.int p1), .val (.int p2), .val (.int p3), .val (.int p4), .val (.int (3 : Int32)), .val (.ref b76), .val (.ref b83), .val (.int (f0_m103 p0 p1 p2 p3 p4)), .unset] [(.int (2 : Int32)), (.ref b83)])) rfl rfl (hb hby at_160) _ ?_
      show Steps p.tables e below (T94.setTop (mkF m 161 #[.val (.int p0), .val (.int p1), .val (.int p2), .val (.int p3), .val (.int p4), .val (.int (3 : Int32)), .val (.ref b76), .val (.ref b83), .val (.int (f0_m103 p0 p1 p2 p3 p4)), .unset] [(.int ((p3.toInt8.toInt32).toInt8.toInt32))])) _
      refine XS.iloadN X94.here hx rfl (hb hby at_161) rfl ?_
      show Steps p.tables e below (T94.setTop (mkF m 162 #[.val (.int p0), .val (.int p1), .val (.int p2), .val (.int p3), .val (.int p4), .val (.int (3 : Int32)), .val (.ref b76), .val (.ref b83), .val (.int (f0_m103 p0 p1 p2 p3 p4)), .unset] [(.int p3), (.int ((p3.toInt8.toInt32).toInt8.toInt32))])) _
      refine XS.i2b X94.here hx rfl (hb hby at_162) rfl ?_
      exact k)
    by_cases hc163_109 : ((p3.toInt8.toInt32).toInt8.toInt32) = (p3.toInt8.toInt32)
    · have y110 := (V82.keep K83 nin0)
      obtain ⟨cl111, Ar111, q111, S111, M111, H111, G111⟩ := id y110
      have hin111 : ¬ ((2 : Int32) < 0 ∨ cl111.slots.size ≤ ((2 : Int32)).toNatClampNeg) := inb_of S111 ⟨by decide, by decide⟩
      have hat111 : cl111.slots[((2 : Int32)).toNatClampNeg]? = some (.int ((p3.toInt8.toInt32).toInt8.toInt32)) := H111.at hin111 rfl
      have pre112 : ∀ t, Steps p.tables e below (T94.setTop (mkF m 180 #[.val (.int p0), .val (.int p1), .val (.int p2), .val (.int p3), .val (.int p4), .val (.int (3 : Int32)), .val (.ref b76), .val (.ref b83), .val (.int (f0_m103 p0 p1 p2 p3 p4)), .unset] [(.int (1 : Int32))])) t → Steps p.tables e below (s₁.setTop (entryFrame m #[(.int p0), (.int p1), (.int p2), (.int p3), (.int p4)] maxLocals)) t := fun t k => pre108 t (by
        show Steps p.tables e below (T94.setTop (mkF m 163 #[.val (.int p0), .val (.int p1), .val (.int p2), .val (.int p3), .val (.int p4), .val (.int (3 : Int32)), .val (.ref b76), .val (.ref b83), .val (.int (f0_m103 p0 p1 p2 p3 p4)), .unset] [(.int (p3.toInt8.toInt32)), (.int ((p3.toInt8.toInt32).toInt8.toInt32))])) _
        refine XS.icmpNo X94.here hx rfl (hb hby at_163) rfl (teq hc163_109).2 ?_
        show Steps p.tables e below (T94.setTop (mkF m 166 #[.val (.int p0), .val (.int p1), .val (.int p2), .val (.int p3), .val (.int p4), .val (.int (3 : Int32)), .val (.ref b76), .val (.ref b83), .val (.int (f0_m103 p0 p1 p2 p3 p4)), .unset] [])) _
        refine XS.aload X94.here hx rfl (hb hby at_166) rfl rfl ?_
        show Steps p.tables e below (T94.setTop (mkF m 168 #[.val (.int p0), .val (.int p1), .val (.int p2), .val (.int p3), .val (.int p4), .val (.int (3 : Int32)), .val (.ref b76), .val (.ref b83), .val (.int (f0_m103 p0 p1 p2 p3 p4)), .unset] [(.ref b76)])) _
        refine XS.iconst X94.here hx rfl (hb hby at_168) ?_
        show Steps p.tables e below (T94.setTop (mkF m 169 #[.val (.int p0), .val (.int p1), .val (.int p2), .val (.int p3), .val (.int p4), .val (.int (3 : Int32)), .val (.ref b76), .val (.ref b83), .val (.int (f0_m103 p0 p1 p2 p3 p4)), .unset] [(.int (2 : Int32)), (.ref b76)])) _
        refine X94.baloadBytes hx (j := (2 : Int32)) (v := (.int ((p3.toInt8.toInt32).toInt8.toInt32))) (by rw [e94]; exact Ar111.1) (State.isArrayOf_alike hZ.alike Ar111.2.1) Ar111.2.2 hin111 hat111 (g := (mkF m 169 #[.val (.int p0), .val (.int p1), .val (.int p2), .val (.int p3), .val (.int p4), .val (.int (3 : Int32)), .val (.ref b76), .val (.ref b83), .val (.int (f0_m103 p0 p1 p2 p3 p4)), .unset] [(.int (2 : Int32)), (.ref b76)])) rfl rfl (hb hby at_169) _ ?_
        show Steps p.tables e below (T94.setTop (mkF m 170 #[.val (.int p0), .val (.int p1), .val (.int p2), .val (.int p3), .val (.int p4), .val (.int (3 : Int32)), .val (.ref b76), .val (.ref b83), .val (.int (f0_m103 p0 p1 p2 p3 p4)), .unset] [(.int ((p3.toInt8.toInt32).toInt8.toInt32))])) _
        refine XS.iloadN X94.here hx rfl (hb hby at_170) rfl ?_
        show Steps p.tables e below (T94.setTop (mkF m 171 #[.val (.int p0), .val (.int p1), .val (.int p2), .val (.int p3), .val (.int p4), .val (.int (3 : Int32)), .val (.ref b76), .val (.ref b83), .val (.int (f0_m103 p0 p1 p2 p3 p4)), .unset] [(.int p3), (.int ((p3.toInt8.toInt32).toInt8.toInt32))])) _
        refine XS.i2b X94.here hx rfl (hb hby at_171) rfl ?_
        show Steps p.tables e below (T94.setTop (mkF m 172 #[.val (.int p0), .val (.int p1), .val (.int p2), .val (.int p3), .val (.int p4), .val (.int (3 : Int32)), .val (.ref b76), .val (.ref b83), .val (.int (f0_m103 p0 p1 p2 p3 p4)), .unset] [(.int (p3.toInt8.toInt32)), (.int ((p3.toInt8.toInt32).toInt8.toInt32))])) _
        refine XS.icmpNo X94.here hx rfl (hb hby at_172) rfl (teq hc163_109).2 ?_
        show Steps p.tables e below (T94.setTop (mkF m 175 #[.val (.int p0), .val (.int p1), .val (.int p2), .val (.int p3), .val (.int p4), .val (.int (3 : Int32)), .val (.ref b76), .val (.ref b83), .val (.int (f0_m103 p0 p1 p2 p3 p4)), .unset] [])) _
        refine XS.iconst X94.here hx rfl (hb hby at_175) ?_
        show Steps p.tables e below (T94.setTop (mkF m 176 #[.val (.int p0), .val (.int p1), .val (.int p2), .val (.int p3), .val (.int p4), .val (.int (3 : Int32)), .val (.ref b76), .val (.ref b83), .val (.int (f0_m103 p0 p1 p2 p3 p4)), .unset] [(.int (1 : Int32))])) _
        refine XS.goto X94.here hx rfl (pc0 := 176) (pc' := 180) rfl (hb hby at_176) (by decide) (by decide) ?_
        exact k)
      have q_f0_m114 : f0_m114 p0 p1 p2 p3 p4 = (1 : Int32) := by unfold f0_m114; rw [if_neg hc154_105, if_pos hc163_109]
      rw [q_f0_m114]
      exact ⟨T94, _, X94, e94, N94, pre112⟩
    have pre113 : ∀ t, Steps p.tables e below (T94.setTop (mkF m 180 #[.val (.int p0), .val (.int p1), .val (.int p2), .val (.int p3), .val (.int p4), .val (.int (3 : Int32)), .val (.ref b76), .val (.ref b83), .val (.int (f0_m103 p0 p1 p2 p3 p4)), .unset] [(.int (0 : Int32))])) t → Steps p.tables e below (s₁.setTop (entryFrame m #[(.int p0), (.int p1), (.int p2), (.int p3), (.int p4)] maxLocals)) t := fun t k => pre108 t (by
      show Steps p.tables e below (T94.setTop (mkF m 163 #[.val (.int p0), .val (.int p1), .val (.int p2), .val (.int p3), .val (.int p4), .val (.int (3 : Int32)), .val (.ref b76), .val (.ref b83), .val (.int (f0_m103 p0 p1 p2 p3 p4)), .unset] [(.int (p3.toInt8.toInt32)), (.int ((p3.toInt8.toInt32).toInt8.toInt32))])) _
      refine XS.icmpYes X94.here hx rfl (pc0 := 163) (pc' := 179) rfl (hb hby at_163) rfl (feq hc163_109).2 (by decide) (by decide) ?_
      show Steps p.tables e below (T94.setTop (mkF m 179 #[.val (.int p0), .val (.int p1), .val (.int p2), .val (.int p3), .val (.int p4), .val (.int (3 : Int32)), .val (.ref b76), .val (.ref b83), .val (.int (f0_m103 p0 p1 p2 p3 p4)), .unset] [])) _
      refine XS.iconst X94.here hx rfl (hb hby at_179) ?_
      exact k)
    have q_f0_m114 : f0_m114 p0 p1 p2 p3 p4 = (0 : Int32) := by unfold f0_m114; rw [if_neg hc154_105, if_neg hc163_109]
    rw [q_f0_m114]
    exact ⟨T94, _, X94, e94, N94, pre113⟩
  obtain ⟨cl115, Ar115, q115, S115, M115, H115, G115⟩ := id u83_0
  have hin115 : ¬ ((3 : Int32) < 0 ∨ cl115.slots.size ≤ ((3 : Int32)).toNatClampNeg) := inb_of S115 ⟨by decide, by decide⟩
  have hat115 : cl115.slots[((3 : Int32)).toNatClampNeg]? = some (.int (((p4 >>> ((8 : Int32) &&& 31)).toInt8.toInt32).toInt8.toInt32)) := H115.at hin115 rfl
  obtain ⟨cl116, Ar116, q116, S116, M116, H116, G116⟩ := id u83_0
  have hin116 : ¬ ((4 : Int32) < 0 ∨ cl116.slots.size ≤ ((4 : Int32)).toNatClampNeg) := inb_of S116 ⟨by decide, by decide⟩
  have hat116 : cl116.slots[((4 : Int32)).toNatClampNeg]? = some (.int ((p4.toInt8.toInt32).toInt8.toInt32)) := H116.at hin116 rfl
  have pre117 : ∀ t, Steps p.tables e below (T105.setTop (mkF m 210 #[.val (.int p0), .val (.int p1), .val (.int p2), .val (.int p3), .val (.int p4), .val (.int (3 : Int32)), .val (.ref b76), .val (.ref b83), .val (.int (f0_m114 p0 p1 p2 p3 p4)), .val (.int ((((((p4 >>> ((8 : Int32) &&& 31)).toInt8.toInt32).toInt8.toInt32) &&& (255 : Int32)) <<< ((8 : Int32) &&& 31)) ||| (((p4.toInt8.toInt32).toInt8.toInt32) &&& (255 : Int32))))] [(.int (f0_m114 p0 p1 p2 p3 p4))])) t → Steps p.tables e below (s₁.setTop (entryFrame m #[(.int p0), (.int p1), (.int p2), (.int p3), (.int p4)] maxLocals)) t := fun t k => pre105 t (by
    show Steps p.tables e below (T105.setTop (mkF m 180 #[.val (.int p0), .val (.int p1), .val (.int p2), .val (.int p3), .val (.int p4), .val (.int (3 : Int32)), .val (.ref b76), .val (.ref b83), .val (.int (f0_m103 p0 p1 p2 p3 p4)), .unset] [(.int (f0_m114 p0 p1 p2 p3 p4))])) _
    refine XS.istore X105.here hx rfl (hb hby at_180) rfl (l' := #[.val (.int p0), .val (.int p1), .val (.int p2), .val (.int p3), .val (.int p4), .val (.int (3 : Int32)), .val (.ref b76), .val (.ref b83), .val (.int (f0_m114 p0 p1 p2 p3 p4)), .unset]) rfl ?_
    show Steps p.tables e below (T105.setTop (mkF m 182 #[.val (.int p0), .val (.int p1), .val (.int p2), .val (.int p3), .val (.int p4), .val (.int (3 : Int32)), .val (.ref b76), .val (.ref b83), .val (.int (f0_m114 p0 p1 p2 p3 p4)), .unset] [])) _
    refine XS.aload X105.here hx rfl (hb hby at_182) rfl rfl ?_
    show Steps p.tables e below (T105.setTop (mkF m 184 #[.val (.int p0), .val (.int p1), .val (.int p2), .val (.int p3), .val (.int p4), .val (.int (3 : Int32)), .val (.ref b76), .val (.ref b83), .val (.int (f0_m114 p0 p1 p2 p3 p4)), .unset] [(.ref b83)])) _
    refine XS.iload X105.here hx rfl (hb hby at_184) rfl ?_
    show Steps p.tables e below (T105.setTop (mkF m 186 #[.val (.int p0), .val (.int p1), .val (.int p2), .val (.int p3), .val (.int p4), .val (.int (3 : Int32)), .val (.ref b76), .val (.ref b83), .val (.int (f0_m114 p0 p1 p2 p3 p4)), .unset] [(.int (3 : Int32)), (.ref b83)])) _
    refine X105.baloadBytes hx (j := (3 : Int32)) (v := (.int (((p4 >>> ((8 : Int32) &&& 31)).toInt8.toInt32).toInt8.toInt32))) (by rw [e105]; exact Ar115.1) (State.isArrayOf_alike hZ.alike Ar115.2.1) Ar115.2.2 hin115 hat115 (g := (mkF m 186 #[.val (.int p0), .val (.int p1), .val (.int p2), .val (.int p3), .val (.int p4), .val (.int (3 : Int32)), .val (.ref b76), .val (.ref b83), .val (.int (f0_m114 p0 p1 p2 p3 p4)), .unset] [(.int (3 : Int32)), (.ref b83)])) rfl rfl (hb hby at_186) _ ?_
    show Steps p.tables e below (T105.setTop (mkF m 187 #[.val (.int p0), .val (.int p1), .val (.int p2), .val (.int p3), .val (.int p4), .val (.int (3 : Int32)), .val (.ref b76), .val (.ref b83), .val (.int (f0_m114 p0 p1 p2 p3 p4)), .unset] [(.int (((p4 >>> ((8 : Int32) &&& 31)).toInt8.toInt32).toInt8.toInt32))])) _
    refine XS.sipush X105.here hx rfl (hb hby at_187) ?_
    show Steps p.tables e below (T105.setTop (mkF m 190 #[.val (.int p0), .val (.int p1), .val (.int p2), .val (.int p3), .val (.int p4), .val (.int (3 : Int32)), .val (.ref b76), .val (.ref b83), .val (.int (f0_m114 p0 p1 p2 p3 p4)), .unset] [(.int (255 : Int32)), (.int (((p4 >>> ((8 : Int32) &&& 31)).toInt8.toInt32).toInt8.toInt32))])) _
    refine XS.iand X105.here hx rfl (hb hby at_190) rfl ?_
    show Steps p.tables e below (T105.setTop (mkF m 191 #[.val (.int p0), .val (.int p1), .val (.int p2), .val (.int p3), .val (.int p4), .val (.int (3 : Int32)), .val (.ref b76), .val (.ref b83), .val (.int (f0_m114 p0 p1 p2 p3 p4)), .unset] [(.int ((((p4 >>> ((8 : Int32) &&& 31)).toInt8.toInt32).toInt8.toInt32) &&& (255 : Int32)))])) _
    refine XS.bipush X105.here hx rfl (hb hby at_191) ?_
    show Steps p.tables e below (T105.setTop (mkF m 193 #[.val (.int p0), .val (.int p1), .val (.int p2), .val (.int p3), .val (.int p4), .val (.int (3 : Int32)), .val (.ref b76), .val (.ref b83), .val (.int (f0_m114 p0 p1 p2 p3 p4)), .unset] [(.int (8 : Int32)), (.int ((((p4 >>> ((8 : Int32) &&& 31)).toInt8.toInt32).toInt8.toInt32) &&& (255 : Int32)))])) _
    refine XS.ishl X105.here hx rfl (hb hby at_193) rfl ?_
    show Steps p.tables e below (T105.setTop (mkF m 194 #[.val (.int p0), .val (.int p1), .val (.int p2), .val (.int p3), .val (.int p4), .val (.int (3 : Int32)), .val (.ref b76), .val (.ref b83), .val (.int (f0_m114 p0 p1 p2 p3 p4)), .unset] [(.int (((((p4 >>> ((8 : Int32) &&& 31)).toInt8.toInt32).toInt8.toInt32) &&& (255 : Int32)) <<< ((8 : Int32) &&& 31)))])) _
    refine XS.aload X105.here hx rfl (hb hby at_194) rfl rfl ?_
    show Steps p.tables e below (T105.setTop (mkF m 196 #[.val (.int p0), .val (.int p1), .val (.int p2), .val (.int p3), .val (.int p4), .val (.int (3 : Int32)), .val (.ref b76), .val (.ref b83), .val (.int (f0_m114 p0 p1 p2 p3 p4)), .unset] [(.ref b83), (.int (((((p4 >>> ((8 : Int32) &&& 31)).toInt8.toInt32).toInt8.toInt32) &&& (255 : Int32)) <<< ((8 : Int32) &&& 31)))])) _
    refine XS.iload X105.here hx rfl (hb hby at_196) rfl ?_
    show Steps p.tables e below (T105.setTop (mkF m 198 #[.val (.int p0), .val (.int p1), .val (.int p2), .val (.int p3), .val (.int p4), .val (.int (3 : Int32)), .val (.ref b76), .val (.ref b83), .val (.int (f0_m114 p0 p1 p2 p3 p4)), .unset] [(.int (3 : Int32)), (.ref b83), (.int (((((p4 >>> ((8 : Int32) &&& 31)).toInt8.toInt32).toInt8.toInt32) &&& (255 : Int32)) <<< ((8 : Int32) &&& 31)))])) _
    refine XS.iconst X105.here hx rfl (hb hby at_198) ?_
    show Steps p.tables e below (T105.setTop (mkF m 199 #[.val (.int p0), .val (.int p1), .val (.int p2), .val (.int p3), .val (.int p4), .val (.int (3 : Int32)), .val (.ref b76), .val (.ref b83), .val (.int (f0_m114 p0 p1 p2 p3 p4)), .unset] [(.int (1 : Int32)), (.int (3 : Int32)), (.ref b83), (.int (((((p4 >>> ((8 : Int32) &&& 31)).toInt8.toInt32).toInt8.toInt32) &&& (255 : Int32)) <<< ((8 : Int32) &&& 31)))])) _
    refine XS.iadd X105.here hx rfl (hb hby at_199) rfl ?_
    show Steps p.tables e below (T105.setTop (mkF m 200 #[.val (.int p0), .val (.int p1), .val (.int p2), .val (.int p3), .val (.int p4), .val (.int (3 : Int32)), .val (.ref b76), .val (.ref b83), .val (.int (f0_m114 p0 p1 p2 p3 p4)), .unset] [(.int (4 : Int32)), (.ref b83), (.int (((((p4 >>> ((8 : Int32) &&& 31)).toInt8.toInt32).toInt8.toInt32) &&& (255 : Int32)) <<< ((8 : Int32) &&& 31)))])) _
    refine X105.baloadBytes hx (j := (4 : Int32)) (v := (.int ((p4.toInt8.toInt32).toInt8.toInt32))) (by rw [e105]; exact Ar116.1) (State.isArrayOf_alike hZ.alike Ar116.2.1) Ar116.2.2 hin116 hat116 (g := (mkF m 200 #[.val (.int p0), .val (.int p1), .val (.int p2), .val (.int p3), .val (.int p4), .val (.int (3 : Int32)), .val (.ref b76), .val (.ref b83), .val (.int (f0_m114 p0 p1 p2 p3 p4)), .unset] [(.int (4 : Int32)), (.ref b83), (.int (((((p4 >>> ((8 : Int32) &&& 31)).toInt8.toInt32).toInt8.toInt32) &&& (255 : Int32)) <<< ((8 : Int32) &&& 31)))])) rfl rfl (hb hby at_200) _ ?_
    show Steps p.tables e below (T105.setTop (mkF m 201 #[.val (.int p0), .val (.int p1), .val (.int p2), .val (.int p3), .val (.int p4), .val (.int (3 : Int32)), .val (.ref b76), .val (.ref b83), .val (.int (f0_m114 p0 p1 p2 p3 p4)), .unset] [(.int ((p4.toInt8.toInt32).toInt8.toInt32)), (.int (((((p4 >>> ((8 : Int32) &&& 31)).toInt8.toInt32).toInt8.toInt32) &&& (255 : Int32)) <<< ((8 : Int32) &&& 31)))])) _
    refine XS.sipush X105.here hx rfl (hb hby at_201) ?_
    show Steps p.tables e below (T105.setTop (mkF m 204 #[.val (.int p0), .val (.int p1), .val (.int p2), .val (.int p3), .val (.int p4), .val (.int (3 : Int32)), .val (.ref b76), .val (.ref b83), .val (.int (f0_m114 p0 p1 p2 p3 p4)), .unset] [(.int (255 : Int32)), (.int ((p4.toInt8.toInt32).toInt8.toInt32)), (.int (((((p4 >>> ((8 : Int32) &&& 31)).toInt8.toInt32).toInt8.toInt32) &&& (255 : Int32)) <<< ((8 : Int32) &&& 31)))])) _
    refine XS.iand X105.here hx rfl (hb hby at_204) rfl ?_
    show Steps p.tables e below (T105.setTop (mkF m 205 #[.val (.int p0), .val (.int p1), .val (.int p2), .val (.int p3), .val (.int p4), .val (.int (3 : Int32)), .val (.ref b76), .val (.ref b83), .val (.int (f0_m114 p0 p1 p2 p3 p4)), .unset] [(.int (((p4.toInt8.toInt32).toInt8.toInt32) &&& (255 : Int32))), (.int (((((p4 >>> ((8 : Int32) &&& 31)).toInt8.toInt32).toInt8.toInt32) &&& (255 : Int32)) <<< ((8 : Int32) &&& 31)))])) _
    refine XS.ior X105.here hx rfl (hb hby at_205) rfl ?_
    show Steps p.tables e below (T105.setTop (mkF m 206 #[.val (.int p0), .val (.int p1), .val (.int p2), .val (.int p3), .val (.int p4), .val (.int (3 : Int32)), .val (.ref b76), .val (.ref b83), .val (.int (f0_m114 p0 p1 p2 p3 p4)), .unset] [(.int ((((((p4 >>> ((8 : Int32) &&& 31)).toInt8.toInt32).toInt8.toInt32) &&& (255 : Int32)) <<< ((8 : Int32) &&& 31)) ||| (((p4.toInt8.toInt32).toInt8.toInt32) &&& (255 : Int32))))])) _
    refine XS.istore X105.here hx rfl (hb hby at_206) rfl (l' := #[.val (.int p0), .val (.int p1), .val (.int p2), .val (.int p3), .val (.int p4), .val (.int (3 : Int32)), .val (.ref b76), .val (.ref b83), .val (.int (f0_m114 p0 p1 p2 p3 p4)), .val (.int ((((((p4 >>> ((8 : Int32) &&& 31)).toInt8.toInt32).toInt8.toInt32) &&& (255 : Int32)) <<< ((8 : Int32) &&& 31)) ||| (((p4.toInt8.toInt32).toInt8.toInt32) &&& (255 : Int32))))]) rfl ?_
    show Steps p.tables e below (T105.setTop (mkF m 208 #[.val (.int p0), .val (.int p1), .val (.int p2), .val (.int p3), .val (.int p4), .val (.int (3 : Int32)), .val (.ref b76), .val (.ref b83), .val (.int (f0_m114 p0 p1 p2 p3 p4)), .val (.int ((((((p4 >>> ((8 : Int32) &&& 31)).toInt8.toInt32).toInt8.toInt32) &&& (255 : Int32)) <<< ((8 : Int32) &&& 31)) ||| (((p4.toInt8.toInt32).toInt8.toInt32) &&& (255 : Int32))))] [])) _
    refine XS.iload X105.here hx rfl (hb hby at_208) rfl ?_
    exact k)
  by_cases hc210_118 : (f0_m114 p0 p1 p2 p3 p4) = (0 : Int32)
  · have pre119 : ∀ t, Steps p.tables e below (T105.setTop (mkF m 228 #[.val (.int p0), .val (.int p1), .val (.int p2), .val (.int p3), .val (.int p4), .val (.int (3 : Int32)), .val (.ref b76), .val (.ref b83), .val (.int (f0_m114 p0 p1 p2 p3 p4)), .val (.int ((((((p4 >>> ((8 : Int32) &&& 31)).toInt8.toInt32).toInt8.toInt32) &&& (255 : Int32)) <<< ((8 : Int32) &&& 31)) ||| (((p4.toInt8.toInt32).toInt8.toInt32) &&& (255 : Int32))))] [(.int (0 : Int32))])) t → Steps p.tables e below (s₁.setTop (entryFrame m #[(.int p0), (.int p1), (.int p2), (.int p3), (.int p4)] maxLocals)) t := fun t k => pre117 t (by
      show Steps p.tables e below (T105.setTop (mkF m 210 #[.val (.int p0), .val (.int p1), .val (.int p2), .val (.int p3), .val (.int p4), .val (.int (3 : Int32)), .val (.ref b76), .val (.ref b83), .val (.int (f0_m114 p0 p1 p2 p3 p4)), .val (.int ((((((p4 >>> ((8 : Int32) &&& 31)).toInt8.toInt32).toInt8.toInt32) &&& (255 : Int32)) <<< ((8 : Int32) &&& 31)) ||| (((p4.toInt8.toInt32).toInt8.toInt32) &&& (255 : Int32))))] [(.int (f0_m114 p0 p1 p2 p3 p4))])) _
      refine XS.ifYes X105.here hx rfl (pc0 := 210) (pc' := 227) rfl (hb hby at_210) rfl ((if0 _ _).trans (teq hc210_118).1) (by decide) (by decide) ?_
      show Steps p.tables e below (T105.setTop (mkF m 227 #[.val (.int p0), .val (.int p1), .val (.int p2), .val (.int p3), .val (.int p4), .val (.int (3 : Int32)), .val (.ref b76), .val (.ref b83), .val (.int (f0_m114 p0 p1 p2 p3 p4)), .val (.int ((((((p4 >>> ((8 : Int32) &&& 31)).toInt8.toInt32).toInt8.toInt32) &&& (255 : Int32)) <<< ((8 : Int32) &&& 31)) ||| (((p4.toInt8.toInt32).toInt8.toInt32) &&& (255 : Int32))))] [])) _
      refine XS.iconst X105.here hx rfl (hb hby at_227) ?_
      exact k)
    obtain ⟨fs, hr, hrun, hended, hW, hsame⟩ := X105.leave (v := some (.int (0 : Int32))) (fun h => by rw [Bd.returns] at h; cases h) hlk
    have hF : (F0 p0 p1 p2 p3 p4) = (0 : Int32) := by unfold F0; rw [if_neg hv2, if_neg hv13, if_neg hv37, if_pos hc210_118]
    exact ⟨_, _, pre119 _ (retN X105 hx (t := .boolean) Bd.returns (by simp) (hb hby at_228) hr), hrun, hended, _, _, rfl, ⟨by rw [hF], N105⟩, ⟨_, rfl⟩, hW, hsame.mono (by decide) (by decide)⟩
  have pre120 : ∀ t, Steps p.tables e below (T105.setTop (mkF m 220 #[.val (.int p0), .val (.int p1), .val (.int p2), .val (.int p3), .val (.int p4), .val (.int (3 : Int32)), .val (.ref b76), .val (.ref b83), .val (.int (f0_m114 p0 p1 p2 p3 p4)), .val (.int ((((((p4 >>> ((8 : Int32) &&& 31)).toInt8.toInt32).toInt8.toInt32) &&& (255 : Int32)) <<< ((8 : Int32) &&& 31)) ||| (((p4.toInt8.toInt32).toInt8.toInt32) &&& (255 : Int32))))] [(.int (p4 &&& (65535 : Int32))), (.int ((((((p4 >>> ((8 : Int32) &&& 31)).toInt8.toInt32).toInt8.toInt32) &&& (255 : Int32)) <<< ((8 : Int32) &&& 31)) ||| (((p4.toInt8.toInt32).toInt8.toInt32) &&& (255 : Int32))))])) t → Steps p.tables e below (s₁.setTop (entryFrame m #[(.int p0), (.int p1), (.int p2), (.int p3), (.int p4)] maxLocals)) t := fun t k => pre117 t (by
    show Steps p.tables e below (T105.setTop (mkF m 210 #[.val (.int p0), .val (.int p1), .val (.int p2), .val (.int p3), .val (.int p4), .val (.int (3 : Int32)), .val (.ref b76), .val (.ref b83), .val (.int (f0_m114 p0 p1 p2 p3 p4)), .val (.int ((((((p4 >>> ((8 : Int32) &&& 31)).toInt8.toInt32).toInt8.toInt32) &&& (255 : Int32)) <<< ((8 : Int32) &&& 31)) ||| (((p4.toInt8.toInt32).toInt8.toInt32) &&& (255 : Int32))))] [(.int (f0_m114 p0 p1 p2 p3 p4))])) _
    refine XS.ifNo X105.here hx rfl (hb hby at_210) rfl ((if0 _ _).trans (feq hc210_118).1) ?_
    show Steps p.tables e below (T105.setTop (mkF m 213 #[.val (.int p0), .val (.int p1), .val (.int p2), .val (.int p3), .val (.int p4), .val (.int (3 : Int32)), .val (.ref b76), .val (.ref b83), .val (.int (f0_m114 p0 p1 p2 p3 p4)), .val (.int ((((((p4 >>> ((8 : Int32) &&& 31)).toInt8.toInt32).toInt8.toInt32) &&& (255 : Int32)) <<< ((8 : Int32) &&& 31)) ||| (((p4.toInt8.toInt32).toInt8.toInt32) &&& (255 : Int32))))] [])) _
    refine XS.iload X105.here hx rfl (hb hby at_213) rfl ?_
    show Steps p.tables e below (T105.setTop (mkF m 215 #[.val (.int p0), .val (.int p1), .val (.int p2), .val (.int p3), .val (.int p4), .val (.int (3 : Int32)), .val (.ref b76), .val (.ref b83), .val (.int (f0_m114 p0 p1 p2 p3 p4)), .val (.int ((((((p4 >>> ((8 : Int32) &&& 31)).toInt8.toInt32).toInt8.toInt32) &&& (255 : Int32)) <<< ((8 : Int32) &&& 31)) ||| (((p4.toInt8.toInt32).toInt8.toInt32) &&& (255 : Int32))))] [(.int ((((((p4 >>> ((8 : Int32) &&& 31)).toInt8.toInt32).toInt8.toInt32) &&& (255 : Int32)) <<< ((8 : Int32) &&& 31)) ||| (((p4.toInt8.toInt32).toInt8.toInt32) &&& (255 : Int32))))])) _
    refine XS.iload X105.here hx rfl (hb hby at_215) rfl ?_
    show Steps p.tables e below (T105.setTop (mkF m 217 #[.val (.int p0), .val (.int p1), .val (.int p2), .val (.int p3), .val (.int p4), .val (.int (3 : Int32)), .val (.ref b76), .val (.ref b83), .val (.int (f0_m114 p0 p1 p2 p3 p4)), .val (.int ((((((p4 >>> ((8 : Int32) &&& 31)).toInt8.toInt32).toInt8.toInt32) &&& (255 : Int32)) <<< ((8 : Int32) &&& 31)) ||| (((p4.toInt8.toInt32).toInt8.toInt32) &&& (255 : Int32))))] [(.int p4), (.int ((((((p4 >>> ((8 : Int32) &&& 31)).toInt8.toInt32).toInt8.toInt32) &&& (255 : Int32)) <<< ((8 : Int32) &&& 31)) ||| (((p4.toInt8.toInt32).toInt8.toInt32) &&& (255 : Int32))))])) _
    refine X105.ldcInt hx hown (mvT hZ (hw _ (List.mem_of_getElem? (i := 9) rfl))) (g := (mkF m 217 #[.val (.int p0), .val (.int p1), .val (.int p2), .val (.int p3), .val (.int p4), .val (.int (3 : Int32)), .val (.ref b76), .val (.ref b83), .val (.int (f0_m114 p0 p1 p2 p3 p4)), .val (.int ((((((p4 >>> ((8 : Int32) &&& 31)).toInt8.toInt32).toInt8.toInt32) &&& (255 : Int32)) <<< ((8 : Int32) &&& 31)) ||| (((p4.toInt8.toInt32).toInt8.toInt32) &&& (255 : Int32))))] [(.int p4), (.int ((((((p4 >>> ((8 : Int32) &&& 31)).toInt8.toInt32).toInt8.toInt32) &&& (255 : Int32)) <<< ((8 : Int32) &&& 31)) ||| (((p4.toInt8.toInt32).toInt8.toInt32) &&& (255 : Int32))))])) rfl (hb hby at_217) _ ?_
    show Steps p.tables e below (T105.setTop (mkF m 219 #[.val (.int p0), .val (.int p1), .val (.int p2), .val (.int p3), .val (.int p4), .val (.int (3 : Int32)), .val (.ref b76), .val (.ref b83), .val (.int (f0_m114 p0 p1 p2 p3 p4)), .val (.int ((((((p4 >>> ((8 : Int32) &&& 31)).toInt8.toInt32).toInt8.toInt32) &&& (255 : Int32)) <<< ((8 : Int32) &&& 31)) ||| (((p4.toInt8.toInt32).toInt8.toInt32) &&& (255 : Int32))))] [(.int (65535 : Int32)), (.int p4), (.int ((((((p4 >>> ((8 : Int32) &&& 31)).toInt8.toInt32).toInt8.toInt32) &&& (255 : Int32)) <<< ((8 : Int32) &&& 31)) ||| (((p4.toInt8.toInt32).toInt8.toInt32) &&& (255 : Int32))))])) _
    refine XS.iand X105.here hx rfl (hb hby at_219) rfl ?_
    exact k)
  by_cases hc220_121 : ((((((p4 >>> ((8 : Int32) &&& 31)).toInt8.toInt32).toInt8.toInt32) &&& (255 : Int32)) <<< ((8 : Int32) &&& 31)) ||| (((p4.toInt8.toInt32).toInt8.toInt32) &&& (255 : Int32))) = (p4 &&& (65535 : Int32))
  · have pre122 : ∀ t, Steps p.tables e below (T105.setTop (mkF m 228 #[.val (.int p0), .val (.int p1), .val (.int p2), .val (.int p3), .val (.int p4), .val (.int (3 : Int32)), .val (.ref b76), .val (.ref b83), .val (.int (f0_m114 p0 p1 p2 p3 p4)), .val (.int ((((((p4 >>> ((8 : Int32) &&& 31)).toInt8.toInt32).toInt8.toInt32) &&& (255 : Int32)) <<< ((8 : Int32) &&& 31)) ||| (((p4.toInt8.toInt32).toInt8.toInt32) &&& (255 : Int32))))] [(.int (1 : Int32))])) t → Steps p.tables e below (s₁.setTop (entryFrame m #[(.int p0), (.int p1), (.int p2), (.int p3), (.int p4)] maxLocals)) t := fun t k => pre120 t (by
      show Steps p.tables e below (T105.setTop (mkF m 220 #[.val (.int p0), .val (.int p1), .val (.int p2), .val (.int p3), .val (.int p4), .val (.int (3 : Int32)), .val (.ref b76), .val (.ref b83), .val (.int (f0_m114 p0 p1 p2 p3 p4)), .val (.int ((((((p4 >>> ((8 : Int32) &&& 31)).toInt8.toInt32).toInt8.toInt32) &&& (255 : Int32)) <<< ((8 : Int32) &&& 31)) ||| (((p4.toInt8.toInt32).toInt8.toInt32) &&& (255 : Int32))))] [(.int (p4 &&& (65535 : Int32))), (.int ((((((p4 >>> ((8 : Int32) &&& 31)).toInt8.toInt32).toInt8.toInt32) &&& (255 : Int32)) <<< ((8 : Int32) &&& 31)) ||| (((p4.toInt8.toInt32).toInt8.toInt32) &&& (255 : Int32))))])) _
      refine XS.icmpNo X105.here hx rfl (hb hby at_220) rfl (teq hc220_121).2 ?_
      show Steps p.tables e below (T105.setTop (mkF m 223 #[.val (.int p0), .val (.int p1), .val (.int p2), .val (.int p3), .val (.int p4), .val (.int (3 : Int32)), .val (.ref b76), .val (.ref b83), .val (.int (f0_m114 p0 p1 p2 p3 p4)), .val (.int ((((((p4 >>> ((8 : Int32) &&& 31)).toInt8.toInt32).toInt8.toInt32) &&& (255 : Int32)) <<< ((8 : Int32) &&& 31)) ||| (((p4.toInt8.toInt32).toInt8.toInt32) &&& (255 : Int32))))] [])) _
      refine XS.iconst X105.here hx rfl (hb hby at_223) ?_
      show Steps p.tables e below (T105.setTop (mkF m 224 #[.val (.int p0), .val (.int p1), .val (.int p2), .val (.int p3), .val (.int p4), .val (.int (3 : Int32)), .val (.ref b76), .val (.ref b83), .val (.int (f0_m114 p0 p1 p2 p3 p4)), .val (.int ((((((p4 >>> ((8 : Int32) &&& 31)).toInt8.toInt32).toInt8.toInt32) &&& (255 : Int32)) <<< ((8 : Int32) &&& 31)) ||| (((p4.toInt8.toInt32).toInt8.toInt32) &&& (255 : Int32))))] [(.int (1 : Int32))])) _
      refine XS.goto X105.here hx rfl (pc0 := 224) (pc' := 228) rfl (hb hby at_224) (by decide) (by decide) ?_
      exact k)
    obtain ⟨fs, hr, hrun, hended, hW, hsame⟩ := X105.leave (v := some (.int (1 : Int32))) (fun h => by rw [Bd.returns] at h; cases h) hlk
    have hF : (F0 p0 p1 p2 p3 p4) = (1 : Int32) := by unfold F0; rw [if_neg hv2, if_neg hv13, if_neg hv37, if_neg hc210_118, if_pos hc220_121]
    exact ⟨_, _, pre122 _ (retN X105 hx (t := .boolean) Bd.returns (by simp) (hb hby at_228) hr), hrun, hended, _, _, rfl, ⟨by rw [hF], N105⟩, ⟨_, rfl⟩, hW, hsame.mono (by decide) (by decide)⟩
  have pre123 : ∀ t, Steps p.tables e below (T105.setTop (mkF m 228 #[.val (.int p0), .val (.int p1), .val (.int p2), .val (.int p3), .val (.int p4), .val (.int (3 : Int32)), .val (.ref b76), .val (.ref b83), .val (.int (f0_m114 p0 p1 p2 p3 p4)), .val (.int ((((((p4 >>> ((8 : Int32) &&& 31)).toInt8.toInt32).toInt8.toInt32) &&& (255 : Int32)) <<< ((8 : Int32) &&& 31)) ||| (((p4.toInt8.toInt32).toInt8.toInt32) &&& (255 : Int32))))] [(.int (0 : Int32))])) t → Steps p.tables e below (s₁.setTop (entryFrame m #[(.int p0), (.int p1), (.int p2), (.int p3), (.int p4)] maxLocals)) t := fun t k => pre120 t (by
    show Steps p.tables e below (T105.setTop (mkF m 220 #[.val (.int p0), .val (.int p1), .val (.int p2), .val (.int p3), .val (.int p4), .val (.int (3 : Int32)), .val (.ref b76), .val (.ref b83), .val (.int (f0_m114 p0 p1 p2 p3 p4)), .val (.int ((((((p4 >>> ((8 : Int32) &&& 31)).toInt8.toInt32).toInt8.toInt32) &&& (255 : Int32)) <<< ((8 : Int32) &&& 31)) ||| (((p4.toInt8.toInt32).toInt8.toInt32) &&& (255 : Int32))))] [(.int (p4 &&& (65535 : Int32))), (.int ((((((p4 >>> ((8 : Int32) &&& 31)).toInt8.toInt32).toInt8.toInt32) &&& (255 : Int32)) <<< ((8 : Int32) &&& 31)) ||| (((p4.toInt8.toInt32).toInt8.toInt32) &&& (255 : Int32))))])) _
    refine XS.icmpYes X105.here hx rfl (pc0 := 220) (pc' := 227) rfl (hb hby at_220) rfl (feq hc220_121).2 (by decide) (by decide) ?_
    show Steps p.tables e below (T105.setTop (mkF m 227 #[.val (.int p0), .val (.int p1), .val (.int p2), .val (.int p3), .val (.int p4), .val (.int (3 : Int32)), .val (.ref b76), .val (.ref b83), .val (.int (f0_m114 p0 p1 p2 p3 p4)), .val (.int ((((((p4 >>> ((8 : Int32) &&& 31)).toInt8.toInt32).toInt8.toInt32) &&& (255 : Int32)) <<< ((8 : Int32) &&& 31)) ||| (((p4.toInt8.toInt32).toInt8.toInt32) &&& (255 : Int32))))] [])) _
    refine XS.iconst X105.here hx rfl (hb hby at_227) ?_
    exact k)
  obtain ⟨fs, hr, hrun, hended, hW, hsame⟩ := X105.leave (v := some (.int (0 : Int32))) (fun h => by rw [Bd.returns] at h; cases h) hlk
  have hF : (F0 p0 p1 p2 p3 p4) = (0 : Int32) := by unfold F0; rw [if_neg hv2, if_neg hv13, if_neg hv37, if_neg hc210_118, if_neg hc220_121]
  exact ⟨_, _, pre123 _ (retN X105 hx (t := .boolean) Bd.returns (by simp) (hb hby at_228) hr), hrun, hended, _, _, rfl, ⟨by rw [hF], N105⟩, ⟨_, rfl⟩, hW, hsame.mono (by decide) (by decide)⟩
theorem own_b2 (x : Int32) : x.toInt8.toInt32.toInt8.toInt32 = x.toInt8.toInt32 := by rw [Int8.toInt8_toInt32]
/-- two bytes: the upper one of y, whose low byte is x's second one, and x's low byte -/
theorem own_word (x y : Int32) (hy : (y.toInt - x.toInt / 256) % 256 = 0) : (((y.toInt8.toInt32 &&& (255 : Int32)) <<< ((8 : Int32) &&& 31)) ||| (x.toInt8.toInt32 &&& (255 : Int32))) = (x &&& (65535 : Int32)) := by
  apply Int32.toInt_inj.mp
  have e1 : (y.toInt8.toInt32 &&& (255 : Int32)).toInt = y.toInt8.toInt32.toInt % (2 ^ 8 : Nat) := c_mask _ 255 8 (by decide) (by decide)
  have e2 : (x.toInt8.toInt32 &&& (255 : Int32)).toInt = x.toInt8.toInt32.toInt % (2 ^ 8 : Nat) := c_mask _ 255 8 (by decide) (by decide)
  have e3 : (x &&& (65535 : Int32)).toInt = x.toInt % (2 ^ 16 : Nat) := c_mask _ 65535 16 (by decide) (by decide)
  have b1 := c_i2b y; have b2 := c_i2b x
  generalize y.toInt8.toInt32 &&& (255 : Int32) = u at *
  generalize x.toInt8.toInt32 &&& (255 : Int32) = v at *
  have s := c_ishl u 8 8 (by decide); have rs := rng32 (u <<< ((8 : Int32) &&& 31))
  have s' : (u <<< ((8 : Int32) &&& 31)).toInt = u.toInt * 256 := by omega
  have o := c_or (u <<< ((8 : Int32) &&& 31)) v 8 (by decide) 256 (by decide) (by omega) (by omega) (by omega)
  have ro := rng32 ((u <<< ((8 : Int32) &&& 31)) ||| v); have rx := rng32 x
  omega
theorem own_law (p0 p1 p2 p3 p4 : Int32) : F0 p0 p1 p2 p3 p4 = 1 := by
  have w := own_word p4 (p4 >>> ((8 : Int32) &&& 31)) (by rw [c_ishr p4 8 8 (by decide)]; omega)
  unfold F0 f0_m114 f0_m103 f0_m92 f0_m64 f0_m53 f0_m27 
  simp only [own_b2]
  rw [if_pos w]
  rcases own_q p0 with h | h | h | h <;> rw [h] <;> simp
set_option maxRecDepth 65536 in
set_option maxHeartbeats 40000000 in
theorem comes_1 {Post : Tables → Env → Array Value → State → Outcome → State → Prop} (hpost : ∀ tb e args s v u, (limb_1_1.after args s (.returned v) u = true ∧ limb_1_2.after args s (.returned v) u = true ∧ True) → FrameEnd s (.returned v) u (Jvm.fieldLocs frame_1_writes args s ++ Jvm.arrayLocs frame_1_arrays args s ++ Jvm.staticLocs frame_1_statics s) 16 128 → Post tb e args s (.returned v) u) :
    ArmFor flags0 classFile x code maxLocals ret World_1 tables_1 room_1 Calls_1 rest_1 Pre_1 Post := by
  intro l hfl _ _ p e ha hc hk s m args below hf hA hF happ hP
  obtain ⟨hcalls, hrest, hpre⟩ := hP
  obtain ⟨-, -, -, hnamed, -, -, -, hat⟩ := (Spec.applies_iff hf).mp happ
  obtain ⟨hg, hn⟩ := and_e (Cond.before_iff.mp (show (Jvm.Cond.and given_1 narrow_1).before args s = true from hpre))
  obtain ⟨hcount, g0⟩ := and_e hg
  obtain ⟨ga0, g1⟩ := and_e g0
  obtain ⟨ga1, g2⟩ := and_e g1
  obtain ⟨ga2, g3⟩ := and_e g2
  obtain ⟨ga3, g4⟩ := and_e g3
  obtain ⟨w0, w1, w2, w3, w4, rfl⟩ : ∃ w0 w1 w2 w3 w4 : Value, args = #[w0, w1, w2, w3, w4] := by
    have hs : args.size = 5 := by simpa [Cond.value, given_1] using hcount
    obtain ⟨L⟩ := args
    match L, hs with
    | [w0, w1, w2, w3, w4], _ => exact ⟨w0, w1, w2, w3, w4, rfl⟩
  have hw := fun d (hd : d ∈ tables_1) => atoms_spec (ws := Jvm.Cond.code x code maxLocals ret :: tables_1) hat d (List.mem_cons_of_mem _ hd)
  obtain ⟨i0, ei0⟩ := is_v ga0
  obtain rfl : w0 = (.int i0) := Option.some.inj ei0
  obtain ⟨i1, ei1⟩ := is_v ga1
  obtain rfl : w1 = (.int i1) := Option.some.inj ei1
  obtain ⟨i2, ei2⟩ := is_v ga2
  obtain rfl : w2 = (.int i2) := Option.some.inj ei2
  obtain ⟨i3, ei3⟩ := is_v ga3
  obtain rfl : w3 = (.int i3) := Option.some.inj ei3
  obtain ⟨i4, ei4⟩ := is_v g4
  obtain rfl : w4 = (.int i4) := Option.some.inj ei4
  obtain ⟨n, o, h1, h2, h3, _, L, rfl, ⟨rfl, N⟩, hq⟩ := rm0 l s _ hw tables_1 i0 i1 i2 i3 i4 s.heap s.heap.size (Nat.le_refl _) p e ha hc hk s m _ below hf ((Spec.applies_iff_loose hf).mp happ).1 ⟨rfl, State.Warmed39.refl s, rfl⟩ trivial
  have hlaw := own_law i0 i1 i2 i3 i4
  refine ⟨n, _, h1, h2, h3, hpost _ _ _ _ _ _ ⟨Cond.after_iff.mpr rfl, Cond.after_iff.mpr (eq_i res_at (Term.int_eval (1)) (congrArg Value.int hlaw)), trivial⟩ ⟨hq.1, hq.2.1, (hq.2.2.sift fun y hy => Or.inr (N y hy)).mono (by decide) (by decide)⟩⟩
theorem main_1_1 : Claimed_1_1 := comes_1 fun _ _ _ _ _ _ h hF => ⟨h.1, hF⟩
theorem main_1_2 : Claimed_1_2 := comes_1 fun _ _ _ _ _ _ h hF => ⟨h.2.1, hF⟩
end Jvm.Pilot.@@N@@
namespace Jvm.Pilot.@@N@@
open Jvm Jvm.ClassFile Sem Op Lib Jvm.Free Jvm.Stand Jvm.Pilot.@@N@@.Jvm.D
/-! MADE BY PROGRAM (witnessworld.py) out of the Statement's table words and the real class files: 10 classes; the members and pool entries that the words name. The judged class is class 1, her method 1. -/
namespace start1
open Jvm.ClassFile
def u (s : String) : CpInfo := .utf8 (stringToUtf16 s)
/-- a pool by its gaps: so many unusable entries, then the entry; so many at the end -/
def gap : Nat → List CpInfo → List CpInfo
  | 0, r => r
  | n + 1, r => .unusable :: gap n r
def poolList (es : List (Nat × CpInfo)) (last : Nat) : List CpInfo := es.foldr (fun e r => gap e.1 (e.2 :: r)) (gap last [])
def pool (es : List (Nat × CpInfo)) (last : Nat) : Array CpInfo := ⟨poolList es last⟩
def fileOf (pool : Array CpInfo) (this : Nat) (attrs : Array Attribute := #[]) (ms : Array MethodInfo := #[]) (fl : Nat := 33) (sup : Nat := 0) (ifs : Array Nat := #[]) (fds : Array FieldInfo := #[]) : ClassFile where
  minorVersion := 0
  majorVersion := 65
  constantPool := pool
  accessFlags := fl
  thisClass := this
  superClass := sup
  interfaces := ifs
  fields := fds
  methods := ms
  attributes := attrs
def plain (name : String) (sup : Option ClassId) : Class where
  name := name
  kind := .ordinary
  loader := none
  accessFlags := 33
  super := sup
  interfaces := #[]
  cf := none
  fields := #[]
  methods := #[]
  instanceTypes := #[]
  staticTypes := #[]
  resolved := #[]
  callSites := []
  init := .initialized
  statics := none
  mirror := none

def pool0 : Array CpInfo := pool [(5, u "<init>"), (0, u "()V"), (1, .class_ 10), (1, u "java/lang/Object")] 113

def k0m0 : Method := { name := "<init>", desc := "()V", sig := { parameters := [], returnType := none }, accessFlags := 1, code := none }
/-- java/lang/Object -/
def k0 : Class := { plain "java/lang/Object" none with
  accessFlags := 33
  interfaces := #[]
  cf := some (fileOf pool0 8 #[] #[{ accessFlags := 1, nameIndex := 5, descriptorIndex := 6, attributes := #[] }] 33 0 #[] #[])
  fields := #[]
  methods := #[k0m0]
  instanceTypes := #[]
  staticTypes := #[]
  resolved := Array.replicate 124 none
  statics := none }

def pool1 : Array CpInfo := pool [(2, .class_ 4), (1, u "java/lang/Object"), (0, u "<init>"), (0, u "()V"), (0, .methodref 8 9), (0, .class_ 10), (0, .nameAndType 11 12), (0, u "com/example/cardwarden/cardwarden/core/card/StatusWord"), (0, u "respond"), (0, u "([BI)[B"), (0, .integer 65535), (0, .class_ 15), (0, u "com/example/cardwarden/cardwarden/core/card/StatusWordRespondPinLaw"), (2, u "law"), (0, u "(IIIII)Z")] 5

def k1m0 : Method := { name := "<init>", desc := "()V", sig := { parameters := [], returnType := none }, accessFlags := 2, code := none }
def k1c1 : Code := { maxStack := 4, maxLocals := 10, code := code, exceptionTable := #[], attributes := #[] }
def k1m1 : Method := { name := "law", desc := "(IIIII)Z", sig := { parameters := [.int, .int, .int, .int, .int], returnType := some .boolean }, accessFlags := 9, code := some k1c1 }
/-- com/example/cardwarden/cardwarden/core/card/StatusWordRespondPinLaw -/
def k1 : Class := { plain "com/example/cardwarden/cardwarden/core/card/StatusWordRespondPinLaw" (some 0) with
  accessFlags := 49
  interfaces := #[]
  cf := some (fileOf pool1 14 #[] #[{ accessFlags := 2, nameIndex := 5, descriptorIndex := 6, attributes := #[] }, { accessFlags := 9, nameIndex := 18, descriptorIndex := 19, attributes := #[] }] 49 2 #[] #[])
  fields := #[]
  methods := #[k1m0, k1m1]
  instanceTypes := #[]
  staticTypes := #[]
  resolved := Array.replicate 25 none
  statics := none }

def pool2 : Array CpInfo := pool [(2, .class_ 4), (1, u "java/lang/Object"), (0, u "<init>"), (0, u "()V"), (0, .methodref 8 9), (0, .class_ 10), (0, .nameAndType 11 12), (0, u "java/lang/System"), (0, u "arraycopy"), (0, u "(Ljava/lang/Object;ILjava/lang/Object;II)V"), (1, .class_ 16), (1, u "com/example/cardwarden/cardwarden/core/card/StatusWord"), (0, u "respond"), (0, u "([BI)[B"), (0, u "OK"), (0, u "I"), (2, u "RESPONSE_AVAILABLE"), (1, u "END_OF_FILE"), (1, u "VERIFICATION_FAILED"), (1, u "TRIES_LEFT"), (1, u "SECURITY_ISSUE"), (1, u "WRONG_LENGTH"), (1, u "LOGICAL_CHANNEL_NOT_SUPPORTED"), (1, u "SECURITY_NOT_SATISFIED"), (1, u "PIN_BLOCKED"), (1, u "CONDITIONS_NOT_SATISFIED"), (1, u "NO_CURRENT_EF"), (1, u "WRONG_DATA"), (1, u "FILE_NOT_FOUND"), (1, u "REFERENCE_NOT_FOUND"), (1, u "WRONG_PARAMETERS"), (1, u "WRONG_LE"), (1, u "INS_NOT_SUPPORTED"), (1, u "CLA_NOT_SUPPORTED")] 6

def k2m0 : Method := { name := "<init>", desc := "()V", sig := { parameters := [], returnType := none }, accessFlags := 2, code := none }
def k2c1 : Code := { maxStack := 5, maxLocals := 3, code := prog_18_method_2_code, exceptionTable := #[], attributes := #[] }
def k2m1 : Method := { name := "respond", desc := "([BI)[B", sig := { parameters := [(.array .byte), .int], returnType := some (.array .byte) }, accessFlags := 9, code := some k2c1 }
/-- com/example/cardwarden/cardwarden/core/card/StatusWord -/
def k2 : Class := { plain "com/example/cardwarden/cardwarden/core/card/StatusWord" (some 0) with
  accessFlags := 49
  interfaces := #[]
  cf := some (fileOf pool2 14 #[] #[{ accessFlags := 2, nameIndex := 5, descriptorIndex := 6, attributes := #[] }, { accessFlags := 9, nameIndex := 17, descriptorIndex := 18, attributes := #[] }] 49 2 #[] #[{ accessFlags := 25, nameIndex := 19, descriptorIndex := 20, attributes := #[] }, { accessFlags := 25, nameIndex := 23, descriptorIndex := 20, attributes := #[] }, { accessFlags := 25, nameIndex := 25, descriptorIndex := 20, attributes := #[] }, { accessFlags := 25, nameIndex := 27, descriptorIndex := 20, attributes := #[] }, { accessFlags := 25, nameIndex := 29, descriptorIndex := 20, attributes := #[] }, { accessFlags := 25, nameIndex := 31, descriptorIndex := 20, attributes := #[] }, { accessFlags := 25, nameIndex := 33, descriptorIndex := 20, attributes := #[] }, { accessFlags := 25, nameIndex := 35, descriptorIndex := 20, attributes := #[] }, { accessFlags := 25, nameIndex := 37, descriptorIndex := 20, attributes := #[] }, { accessFlags := 25, nameIndex := 39, descriptorIndex := 20, attributes := #[] }, { accessFlags := 25, nameIndex := 41, descriptorIndex := 20, attributes := #[] }, { accessFlags := 25, nameIndex := 43, descriptorIndex := 20, attributes := #[] }, { accessFlags := 25, nameIndex := 45, descriptorIndex := 20, attributes := #[] }, { accessFlags := 25, nameIndex := 47, descriptorIndex := 20, attributes := #[] }, { accessFlags := 25, nameIndex := 49, descriptorIndex := 20, attributes := #[] }, { accessFlags := 25, nameIndex := 51, descriptorIndex := 20, attributes := #[] }, { accessFlags := 25, nameIndex := 53, descriptorIndex := 20, attributes := #[] }, { accessFlags := 25, nameIndex := 55, descriptorIndex := 20, attributes := #[] }, { accessFlags := 25, nameIndex := 57, descriptorIndex := 20, attributes := #[] }])
  fields := #[{ name := "OK", type := .int, accessFlags := 25, slot := 0, constantValue := 0 }, { name := "RESPONSE_AVAILABLE", type := .int, accessFlags := 25, slot := 1, constantValue := 0 }, { name := "END_OF_FILE", type := .int, accessFlags := 25, slot := 2, constantValue := 0 }, { name := "VERIFICATION_FAILED", type := .int, accessFlags := 25, slot := 3, constantValue := 0 }, { name := "TRIES_LEFT", type := .int, accessFlags := 25, slot := 4, constantValue := 0 }, { name := "SECURITY_ISSUE", type := .int, accessFlags := 25, slot := 5, constantValue := 0 }, { name := "WRONG_LENGTH", type := .int, accessFlags := 25, slot := 6, constantValue := 0 }, { name := "LOGICAL_CHANNEL_NOT_SUPPORTED", type := .int, accessFlags := 25, slot := 7, constantValue := 0 }, { name := "SECURITY_NOT_SATISFIED", type := .int, accessFlags := 25, slot := 8, constantValue := 0 }, { name := "PIN_BLOCKED", type := .int, accessFlags := 25, slot := 9, constantValue := 0 }, { name := "CONDITIONS_NOT_SATISFIED", type := .int, accessFlags := 25, slot := 10, constantValue := 0 }, { name := "NO_CURRENT_EF", type := .int, accessFlags := 25, slot := 11, constantValue := 0 }, { name := "WRONG_DATA", type := .int, accessFlags := 25, slot := 12, constantValue := 0 }, { name := "FILE_NOT_FOUND", type := .int, accessFlags := 25, slot := 13, constantValue := 0 }, { name := "REFERENCE_NOT_FOUND", type := .int, accessFlags := 25, slot := 14, constantValue := 0 }, { name := "WRONG_PARAMETERS", type := .int, accessFlags := 25, slot := 15, constantValue := 0 }, { name := "WRONG_LE", type := .int, accessFlags := 25, slot := 16, constantValue := 0 }, { name := "INS_NOT_SUPPORTED", type := .int, accessFlags := 25, slot := 17, constantValue := 0 }, { name := "CLA_NOT_SUPPORTED", type := .int, accessFlags := 25, slot := 18, constantValue := 0 }]
  methods := #[k2m0, k2m1]
  instanceTypes := #[]
  staticTypes := #[.int, .int, .int, .int, .int, .int, .int, .int, .int, .int, .int, .int, .int, .int, .int, .int, .int, .int, .int]
  resolved := Array.replicate 64 none
  statics := none }

def pool3 : Array CpInfo := pool [(2, .class_ 4), (1, u "java/lang/Object"), (0, u "<init>"), (0, u "()V"), (1, .class_ 10), (1, u "java/lang/System"), (0, u "allowSecurityManager"), (0, u "I"), (16, u "cons"), (0, u "Ljava/io/Console;"), (77, .class_ 110), (1, u "java/lang/System$CallersHolder"), (43, u "initialErrStream"), (0, u "Ljava/io/PrintStream;"), (19, u "security"), (0, u "Ljava/lang/SecurityManager;"), (31, .class_ 209), (0, u "java/lang/System$1"), (7, u "props"), (0, u "Ljava/util/Properties;"), (2, u "lineSeparator"), (0, u "Ljava/lang/String;"), (96, .class_ 321), (1, u "java/lang/System$LoggerFinder"), (5, .class_ 328), (0, u "java/lang/System$Logger"), (67, u "err"), (2, u "out"), (91, u "notSupportedJnuEncoding"), (15, u "in"), (17, u "initialIn"), (0, u "Ljava/io/InputStream;"), (35, u "bootLayer"), (0, u "Ljava/lang/ModuleLayer;"), (99, .class_ 664), (0, u "java/lang/System$2"), (9, u "NEVER"), (2, u "MAYBE"), (49, u "arraycopy"), (0, u "(Ljava/lang/Object;ILjava/lang/Object;II)V"), (72, .class_ 802), (0, u "java/lang/System$Logger$Level")] 31

def k3m0 : Method := { name := "<init>", desc := "()V", sig := { parameters := [], returnType := none }, accessFlags := 2, code := none }
def k3m1 : Method := { name := "arraycopy", desc := "(Ljava/lang/Object;ILjava/lang/Object;II)V", sig := { parameters := [(.object "java/lang/Object"), .int, (.object "java/lang/Object"), .int, .int], returnType := none }, accessFlags := 265, code := none }
/-- java/lang/System -/
def k3 : Class := { plain "java/lang/System" (some 0) with
  accessFlags := 49
  interfaces := #[]
  cf := some (fileOf pool3 8 #[.nestMembers #[319, 327, 801, 108, 663, 208]] #[{ accessFlags := 2, nameIndex := 5, descriptorIndex := 6, attributes := #[] }, { accessFlags := 265, nameIndex := 727, descriptorIndex := 728, attributes := #[] }] 49 2 #[] #[{ accessFlags := 25, nameIndex := 507, descriptorIndex := 526, attributes := #[] }, { accessFlags := 25, nameIndex := 399, descriptorIndex := 155, attributes := #[] }, { accessFlags := 25, nameIndex := 396, descriptorIndex := 155, attributes := #[] }, { accessFlags := 10, nameIndex := 525, descriptorIndex := 526, attributes := #[] }, { accessFlags := 26, nameIndex := 674, descriptorIndex := 12, attributes := #[] }, { accessFlags := 26, nameIndex := 677, descriptorIndex := 12, attributes := #[] }, { accessFlags := 10, nameIndex := 11, descriptorIndex := 12, attributes := #[] }, { accessFlags := 74, nameIndex := 175, descriptorIndex := 176, attributes := #[] }, { accessFlags := 10, nameIndex := 491, descriptorIndex := 222, attributes := #[] }, { accessFlags := 74, nameIndex := 29, descriptorIndex := 30, attributes := #[] }, { accessFlags := 74, nameIndex := 154, descriptorIndex := 155, attributes := #[] }, { accessFlags := 10, nameIndex := 217, descriptorIndex := 218, attributes := #[] }, { accessFlags := 10, nameIndex := 221, descriptorIndex := 222, attributes := #[] }, { accessFlags := 8, nameIndex := 562, descriptorIndex := 563, attributes := #[] }])
  fields := #[{ name := "in", type := (.object "java/io/InputStream"), accessFlags := 25, slot := 0, constantValue := 0 }, { name := "out", type := (.object "java/io/PrintStream"), accessFlags := 25, slot := 1, constantValue := 0 }, { name := "err", type := (.object "java/io/PrintStream"), accessFlags := 25, slot := 2, constantValue := 0 }, { name := "initialIn", type := (.object "java/io/InputStream"), accessFlags := 10, slot := 3, constantValue := 0 }, { name := "NEVER", type := .int, accessFlags := 26, slot := 4, constantValue := 0 }, { name := "MAYBE", type := .int, accessFlags := 26, slot := 5, constantValue := 0 }, { name := "allowSecurityManager", type := .int, accessFlags := 10, slot := 6, constantValue := 0 }, { name := "security", type := (.object "java/lang/SecurityManager"), accessFlags := 74, slot := 7, constantValue := 0 }, { name := "notSupportedJnuEncoding", type := (.object "java/lang/String"), accessFlags := 10, slot := 8, constantValue := 0 }, { name := "cons", type := (.object "java/io/Console"), accessFlags := 74, slot := 9, constantValue := 0 }, { name := "initialErrStream", type := (.object "java/io/PrintStream"), accessFlags := 74, slot := 10, constantValue := 0 }, { name := "props", type := (.object "java/util/Properties"), accessFlags := 10, slot := 11, constantValue := 0 }, { name := "lineSeparator", type := (.object "java/lang/String"), accessFlags := 10, slot := 12, constantValue := 0 }, { name := "bootLayer", type := (.object "java/lang/ModuleLayer"), accessFlags := 8, slot := 13, constantValue := 0 }]
  methods := #[k3m0, k3m1]
  instanceTypes := #[]
  staticTypes := #[(.object "java/io/InputStream"), (.object "java/io/PrintStream"), (.object "java/io/PrintStream"), (.object "java/io/InputStream"), .int, .int, .int, (.object "java/lang/SecurityManager"), (.object "java/lang/String"), (.object "java/io/Console"), (.object "java/io/PrintStream"), (.object "java/util/Properties"), (.object "java/lang/String"), (.object "java/lang/ModuleLayer")]
  resolved := Array.replicate 834 none
  statics := none }

def pool4 : Array CpInfo := pool [(1, u "java/lang/Cloneable"), (0, .class_ 1), (0, u "java/lang/Object"), (0, .class_ 3)] 3

/-- java/lang/Cloneable -/
def k4 : Class := { plain "java/lang/Cloneable" (some 0) with
  accessFlags := 1537
  interfaces := #[]
  cf := some (fileOf pool4 2 #[] #[] 1537 4 #[] #[])
  fields := #[]
  methods := #[]
  instanceTypes := #[]
  staticTypes := #[]
  resolved := Array.replicate 8 none
  statics := none }

def pool5 : Array CpInfo := pool [(1, u "java/io/Serializable"), (0, .class_ 1), (0, u "java/lang/Object"), (0, .class_ 3)] 3

/-- java/io/Serializable -/
def k5 : Class := { plain "java/io/Serializable" (some 0) with
  accessFlags := 1537
  interfaces := #[]
  cf := some (fileOf pool5 2 #[] #[] 1537 4 #[] #[])
  fields := #[]
  methods := #[]
  instanceTypes := #[]
  staticTypes := #[]
  resolved := Array.replicate 8 none
  statics := none }

/-- the primitive byte -/
def k6 : Class := { plain "byte" none with kind := .primitive 'B', accessFlags := 0x411 }
/-- [B -/
def k7 : Class := { plain "[B" (some 0) with kind := .array 6 .byte, interfaces := #[4, 5], accessFlags := 1041 }

/-- the primitive int -/
def k8 : Class := { plain "int" none with kind := .primitive 'I', accessFlags := 0x411 }
/-- [I -/
def k9 : Class := { plain "[I" (some 0) with kind := .array 8 .int, interfaces := #[4, 5], accessFlags := 1041 }

def heap : Heap := #[]
def classes : Array Class := #[k0, k1, k2, k3, k4, k5, k6, k7, k8, k9]
def interned : List (Array UInt16 × Addr) := []
def slotsUsed : Nat := 0
def theMethod : MethodId := ⟨1, 1⟩
def args0 : Array Value := #[.int 7, .int 7, .int 7, .int 7, .int 7]
def aboutOver (below : List Frame) : State where
  vm := { classes := classes, interned := interned.toArray }
  heap := heap
  slotsUsed := slotsUsed
  threads := #[{ frames := .invoking theMethod args0 :: below }]
def below0 : List Frame := [.native { method := ⟨0, 0⟩, args := #[] }]
def about1 : State := aboutOver below0
def p0 : Program := .bare "" "" ""
def e0 : Env := launch0.env 0 0 0
theorem w_frames : about1.frames = Frame.invoking theMethod args0 :: below0 := rfl
set_option maxRecDepth 65536 in
theorem w_args : argsFit about1.vm theMethod args0 = true := by decide +kernel
set_option maxRecDepth 65536 in
theorem w_heap : heapFits about1 = true := by decide +kernel
set_option maxRecDepth 65536 in
theorem w_runnable : about1.curStatus? = some .runnable := by decide +kernel
set_option maxRecDepth 65536 in
theorem w_alone : about1.alone = true := by decide +kernel
set_option maxRecDepth 65536 in
theorem w_named : about1.methodNamed? x = some theMethod := by decide +kernel
set_option maxRecDepth 65536 in
theorem w_hears : about1.hears theMethod below0 = true := by decide +kernel
set_option maxRecDepth 65536 in
theorem w_ripe : about1.ripe theMethod args0 below0 = true := by decide +kernel
theorem w_running : about1.status = .running := rfl
set_option maxRecDepth 65536 in
theorem w_room : about1.hasRoom e0.platform room_1 = true :=
  launch0.hasRoom_least _ room_1 (by decide +kernel) (by decide +kernel) (by decide +kernel) (by decide +kernel) (by decide +kernel) (by decide +kernel)
theorem allAtoms_all (ts : List Jvm.Cond) (a : Array Jvm.Value) (st : Jvm.State) : (allAtoms ts).before a st = ts.all (fun c => c.before a st) := by
  induction ts with
  | nil => rfl
  | cons c t ih =>
    show (Jvm.Cond.and c (allAtoms t)).before a st = _
    rw [Jvm.Cond.before_and, ih, List.all_cons]
def words1 : List Jvm.Cond := Jvm.Cond.code x code maxLocals ret :: tables_1
/-- a 'code' word, met by the world's own term for the bytes: nothing is compared byte by byte -/
theorem code_word {y : MethodName} {bytes : ByteArray} {mx : Nat} {rt : Option FieldType} {a : Array Value} {s : State} {m : MethodId} {meth : Method} {c : Code} (h1 : s.methodNamed? y = some m) (h2 : s.vm.method? m = some meth) (h3 : meth.code = some c) (h4 : c.code = bytes)
    (h5 : (c.maxLocals == mx && c.exceptionTable.isEmpty && decide (c.maxStack ≤ mostOperands) && decide (meth.sig.returnType = rt) && !meth.locks && decide (parseMethodDescriptor y.desc = some meth.sig)) = true) : (Jvm.Cond.code y bytes mx rt).before a s = true := by
  simp only [Bool.and_eq_true, beq_iff_eq, Bool.not_eq_true', decide_eq_true_eq] at h5
  obtain ⟨⟨⟨⟨⟨g1, g2⟩, g3⟩, g4⟩, g5⟩, g6⟩ := h5
  simp [Cond.before, Cond.holds, Cond.value, h1, h2, h3, h4, g1, g2, g3, g4, g5, g6]
def isCode : Jvm.Cond → Bool
  | .code _ _ _ _ => true
  | _ => false
theorem all_split {L : List Jvm.Cond} {P : Jvm.Cond → Bool} (h1 : L.all (fun c => isCode c || P c) = true) (h2 : ∀ c ∈ L.filter isCode, P c = true) : L.all P = true := by
  refine List.all_eq_true.mpr fun c hc => ?_
  have h := List.all_eq_true.mp h1 c hc
  rcases Bool.eq_false_or_eq_true (isCode c) with hi | hi
  · exact h2 c (List.mem_filter.mpr ⟨hc, hi⟩)
  · simpa [hi] using h
set_option maxRecDepth 65536 in
theorem w_c0 : (Jvm.Cond.code x code maxLocals ret).before args0 about1 = true := code_word (m := ⟨1, 1⟩) (meth := k1m1) (c := k1c1) (by decide +kernel) rfl rfl rfl (by decide +kernel)
set_option maxRecDepth 65536 in
theorem w_c1 : (Jvm.Cond.code ({ cls := "com/example/cardwarden/cardwarden/core/card/StatusWord", name := "respond", desc := "([BI)[B" } : Jvm.MethodName) prog_18_method_2_code (3 : Nat) (Option.some (Jvm.ClassFile.FieldType.array Jvm.ClassFile.FieldType.byte))).before args0 about1 = true := code_word (m := ⟨2, 1⟩) (meth := k2m1) (c := k2c1) (by decide +kernel) rfl rfl rfl (by decide +kernel)
def codes1 : List Jvm.Cond := [Jvm.Cond.code x code maxLocals ret, Jvm.Cond.code ({ cls := "com/example/cardwarden/cardwarden/core/card/StatusWord", name := "respond", desc := "([BI)[B" } : Jvm.MethodName) prog_18_method_2_code (3 : Nat) (Option.some (Jvm.ClassFile.FieldType.array Jvm.ClassFile.FieldType.byte))]
set_option maxRecDepth 65536 in
theorem codes_eq : words1.filter isCode = codes1 := rfl
theorem w_codes : ∀ c ∈ words1.filter isCode, c.before args0 about1 = true := by
  rw [codes_eq]
  intro c hc
  simp only [codes1, List.mem_cons, List.not_mem_nil, or_false] at hc
  rcases hc with rfl | rfl
  · exact w_c0
  · exact w_c1
set_option maxRecDepth 65536 in
theorem w_t1 : words1.all (fun c => isCode c || c.before args0 about1) = true := by decide +kernel
theorem w_tables : (allAtoms (Jvm.Cond.code x code maxLocals ret :: tables_1)).before args0 about1 = true := by
  rw [allAtoms_all]
  show words1.all (fun c => c.before args0 about1) = true
  refine all_split ?_ w_codes
  rw [w_t1]
set_option maxRecDepth 65536 in
theorem w_case : (Jvm.Cond.and given_1 narrow_1).before args0 about1 = true := by decide +kernel
theorem w_applies : (headSpec (Jvm.Cond.code x code maxLocals ret :: tables_1) room_1).applies x e0.platform about1 = true :=
  (Spec.applies_iff w_frames).mpr ⟨w_running, w_runnable, w_alone, w_named, w_hears, w_ripe, w_room, w_tables⟩
theorem atStart : AtStart classFile x code maxLocals ret World_1 tables_1 room_1 Calls_1 rest_1 Pre_1 launch0 p0 e0 about1 theMethod args0 below0 :=
  ⟨lists_1, trivial, launch0.admits_env _ _ _, launch0.least_env, fairChoices_fair.cas, fairChoices_fair.clock, w_frames, w_args, w_heap, w_applies, trivial, trivial, w_case⟩
end start1
theorem witness_1 : WitnessClaimed_1 := ⟨start1.p0, start1.e0, start1.about1, start1.theMethod, start1.args0, start1.below0, start1.atStart⟩
end Jvm.Pilot.@@N@@
