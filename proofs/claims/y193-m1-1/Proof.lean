import JvmDerived
import JvmDerived.Pilot.@@N@@Statement
import JvmDerived.Pilot.@@N@@Code
set_option linter.unusedVariables false
set_option linter.unusedSimpArgs false
namespace Jvm.RoadKit
open Sem ClassFile Op Lib Jvm.Stand Jvm.Free Jvm.LawKit
section New
variable {p : Program} {l : Launch} {e : Env} {R : Room} {s : State} {m : MethodId} {args : Array Value} {below : List Frame} {meth : Method} {c : Code} {T : State} {locs : List Loc} {cells slots : Nat}
theorem retI (X : Stand p l e R s m args below meth c T locs cells slots) (hx : p.tables.exec = Jvm.exec) {pc : Nat} {Ls : Array Slot} {z : Int32} {rest : List Value} (hret : meth.sig.returnType = some .int) (hd : decode c.code pc = .ok (.ireturn, 1)) {fs : List Frame}
    (hl : ∀ (f : JFrame) (acts : List Action), f.method = m → f.locked = none → f.entered = [] → (doReturn e (T.setTop f) acts (some (.int z))).1 = T.setFrames fs) : Steps p.tables e below (T.setTop (mkF m pc Ls (.int z :: rest))) (T.setFrames fs) := by
  have hm' : T.vm.method? m = some meth := X.method'
  have hn : narrow .int (.int z) = .int z := rfl
  show Steps p.tables e below (T.setTop { method := m, pc := pc, locals := Ls, stack := _ :: rest, locked := none }) _
  jvm_step X.here [X.here.top, hx, hd, hm', hret, hn]
  first | (intro acts; rw [hl _ acts rfl rfl rfl]) | rw [hl _ _ rfl rfl rfl]
  exact Steps.refl _
end New
end Jvm.RoadKit
namespace Jvm.Pilot.@@N@@
open Jvm Jvm.ClassFile Sem Op Lib Jvm.Free Jvm.Stand Jvm.LawKit Jvm.RoadKit Bundle Jvm.Pilot.@@N@@.Jvm.D
theorem own_hi1 {x n : Int32} (h : x < n) : x.toInt ≤ n.toInt - 1 := by rw [Int32.lt_iff_toInt_lt] at h; omega
theorem own_hi2 {x n : Int32} (h : ¬ n < x) : x.toInt ≤ n.toInt := by rw [Int32.lt_iff_toInt_lt] at h; omega
theorem own_hi3 {x n : Int32} (h : x = n) : x.toInt ≤ n.toInt := by rw [h]; exact Int.le_refl _
theorem own_lo1 {x n : Int32} (h : ¬ x < n) : n.toInt ≤ x.toInt := by rw [Int32.lt_iff_toInt_lt] at h; omega
theorem own_lo2 {x n : Int32} (h : n < x) : n.toInt + 1 ≤ x.toInt := by rw [Int32.lt_iff_toInt_lt] at h; omega
theorem own_lo3 {x n : Int32} (h : x = n) : n.toInt ≤ x.toInt := by rw [h]; exact Int.le_refl _
theorem own_xlT {x n : Int32} {k : Int} (h : x.toInt ≤ k) (q : k < n.toInt) : x < n := by rw [Int32.lt_iff_toInt_lt]; omega
theorem own_xlF {x n : Int32} {k : Int} (h : k ≤ x.toInt) (q : n.toInt ≤ k) : ¬ x < n := by rw [Int32.lt_iff_toInt_lt]; omega
theorem own_lxT {x n : Int32} {k : Int} (h : k ≤ x.toInt) (q : n.toInt < k) : n < x := by rw [Int32.lt_iff_toInt_lt]; omega
theorem own_lxF {x n : Int32} {k : Int} (h : x.toInt ≤ k) (q : k ≤ n.toInt) : ¬ n < x := by rw [Int32.lt_iff_toInt_lt]; omega
theorem own_eqF1 {x n : Int32} {k : Int} (h : x.toInt ≤ k) (q : k < n.toInt) : ¬ x = n := fun z => by rw [z] at h; omega
theorem own_eqF2 {x n : Int32} {k : Int} (h : k ≤ x.toInt) (q : n.toInt < k) : ¬ x = n := fun z => by rw [z] at h; omega
theorem d2_0 : decode method_2_code 0 = .ok (.iload_n 0, 1) := by decide +kernel
theorem d2_1 : decode method_2_code 1 = .ok (.sipush 192, 3) := by decide +kernel
theorem d2_4 : decode method_2_code 4 = .ok (.iand, 1) := by decide +kernel
theorem d2_5 : decode method_2_code 5 = .ok (.sipush 128, 3) := by decide +kernel
theorem d2_8 : decode method_2_code 8 = .ok (.if_icmp .ne 7, 3) := by decide +kernel
theorem d2_11 : decode method_2_code 11 = .ok (.iconst 1, 1) := by decide +kernel
theorem d2_12 : decode method_2_code 12 = .ok (.goto 4, 3) := by decide +kernel
theorem d2_16 : decode method_2_code 16 = .ok (.ireturn, 1) := by decide +kernel
theorem d2_15 : decode method_2_code 15 = .ok (.iconst 0, 1) := by decide +kernel
theorem d1_0 : decode prog_110_method_3_code 0 = .ok (.iload_n 1, 1) := by decide +kernel
theorem d1_1 : decode prog_110_method_3_code 1 = .ok (.istore_n 3, 1) := by decide +kernel
theorem d1_2 : decode prog_110_method_3_code 2 = .ok (.iconst 0, 1) := by decide +kernel
theorem d1_3 : decode prog_110_method_3_code 3 = .ok (.istore 4, 2) := by decide +kernel
theorem d1_5 : decode prog_110_method_3_code 5 = .ok (.iload 4, 2) := by decide +kernel
theorem d1_7 : decode prog_110_method_3_code 7 = .ok (.iconst 3, 1) := by decide +kernel
theorem d1_8 : decode prog_110_method_3_code 8 = .ok (.if_icmp .ge 30, 3) := by decide +kernel
theorem d1_11 : decode prog_110_method_3_code 11 = .ok (.iload_n 3, 1) := by decide +kernel
theorem d1_12 : decode prog_110_method_3_code 12 = .ok (.iload_n 2, 1) := by decide +kernel
theorem d1_13 : decode prog_110_method_3_code 13 = .ok (.if_icmp .ge 25, 3) := by decide +kernel
theorem d1_16 : decode prog_110_method_3_code 16 = .ok (.aload_n 0, 1) := by decide +kernel
theorem d1_17 : decode prog_110_method_3_code 17 = .ok (.iload_n 3, 1) := by decide +kernel
theorem d1_18 : decode prog_110_method_3_code 18 = .ok (.baload, 1) := by decide +kernel
theorem d1_19 : decode prog_110_method_3_code 19 = .ok (.sipush 192, 3) := by decide +kernel
theorem d1_22 : decode prog_110_method_3_code 22 = .ok (.iand, 1) := by decide +kernel
theorem d1_23 : decode prog_110_method_3_code 23 = .ok (.sipush 128, 3) := by decide +kernel
theorem d1_26 : decode prog_110_method_3_code 26 = .ok (.if_icmp .ne 12, 3) := by decide +kernel
theorem d1_29 : decode prog_110_method_3_code 29 = .ok (.iinc 3 (-1), 3) := by decide +kernel
theorem d1_32 : decode prog_110_method_3_code 32 = .ok (.iinc 4 1, 3) := by decide +kernel
theorem d1_35 : decode prog_110_method_3_code 35 = .ok (.goto (-30), 3) := by decide +kernel
theorem d1_38 : decode prog_110_method_3_code 38 = .ok (.iload_n 3, 1) := by decide +kernel
theorem d1_39 : decode prog_110_method_3_code 39 = .ok (.ireturn, 1) := by decide +kernel
theorem pd0 : parseMethodDescriptor "([BII)I" = some ⟨[(.array .byte), .int, .int], some .int⟩ := by decide +kernel
theorem pd1 : parseMethodDescriptor "(B)Z" = some ⟨[.byte], some .boolean⟩ := by decide +kernel
theorem pn0 : plainName "com/example/tenon/tenon/Utf8CutPinLaw" = true := by first | (simp [plainName, overriddenIn]; done) | decide +kernel
theorem pn1 : plainName "com/example/tenon/tenon/Utf8" = true := by first | (simp [plainName, overriddenIn]; done) | decide +kernel
def F2 (p0 : Int32) : Int32 := (if (p0 &&& (192 : Int32)) = (128 : Int32) then (1 : Int32) else (0 : Int32))
theorem ef2 (m : MethodId) (x0 : Int32) : entryFrame m #[(.int x0)] 1 = mkF m 0 #[.val (.int x0)] [] := by first | (simp [entryFrame, mkF, argsToLocals, Value.category]; done) | rfl
def Q2 (Z : State) (p0 : Int32) (h0 : Heap) (n0 : Nat) (v : Option Value) (h : Heap) (L : List Loc) : Prop := v = some (.int (F2 p0)) ∧ Fr n0 L ∧ h = h0
set_option maxRecDepth 65536 in
set_option maxHeartbeats 40000000 in
theorem rm2 (l : Launch) (Z : State) (a0' : Array Value) (hw : ∀ d ∈ tables_1, d.before a0' Z = true) (ws : List Jvm.Cond) (p0 : Int32) (h0 : Heap) (n0 : Nat) (Z0 : n0 ≤ h0.size) :
    MetFree l (⟨"com/example/tenon/tenon/Utf8CutPinLaw", "cont", "(B)Z"⟩ : MethodName) (head1 (Jvm.Cond.code (⟨"com/example/tenon/tenon/Utf8CutPinLaw", "cont", "(B)Z"⟩ : MethodName) method_2_code 1 (some .boolean) :: ws) ({ frames := 0, cells := 0, slots := 0, locals := 0 } : Room)) (fun a U => a = #[(.int p0)] ∧ Z.Warmed39 U.vm ∧ U.heap = h0) (fun _ _ _ _ _ => True) (fun _ U o U' => ∃ v L, o = .returned v ∧ Q2 Z p0 h0 n0 v U'.heap L ∧ FrameEnd U o U' L ({ frames := 0, cells := 0, slots := 0, locals := 0 } : Room).cells ({ frames := 0, cells := 0, slots := 0, locals := 0 } : Room).slots) := by
  refine MetFree.of_bodySF (plainFor_of_name pn0) hisR ?_
  intro p e s m args below meth c s₁ Bd hml0 hP hK
  obtain ⟨rfl, hZ, hh⟩ := hP
  have hx := Bd.exec
  have hby := Bd.bytes
  have hml : c.maxLocals = 1 := hml0
  have hown : s.vm.findClass "com/example/tenon/tenon/Utf8CutPinLaw" = some m.cls := findClass_of_methodNamed Bd.named
  have hnm := (name_of_methodNamed Bd.named Bd.method).1
  have X0 : Stand p l e ({ frames := 0, cells := 0, slots := 0, locals := 0 } : Room) s m #[(.int p0)] below meth c s₁ [] 0 0 := Stand.of_body Bd
  have e0 : s₁.heap = h0 := by rw [← hh, Bd.state]; rfl
  have N0 := Fr.nil n0
  have hlk : meth.locks = false := by first | exact BodyLoose.notSynchronized Bd | exact Body.notSynchronized Bd
  have pre0 : ∀ t, Steps p.tables e below (s₁.setTop (mkF m 0 #[.val (.int p0)] [])) t → Steps p.tables e below (s₁.setTop (entryFrame m #[(.int p0)] 1)) t := fun t k => castTop (ef2 m p0) k
  have pre1 : ∀ t, Steps p.tables e below (s₁.setTop (mkF m 8 #[.val (.int p0)] [(.int (128 : Int32)), (.int (p0 &&& (192 : Int32)))])) t → Steps p.tables e below (s₁.setTop (entryFrame m #[(.int p0)] 1)) t := fun t k => pre0 t (by
    show Steps p.tables e below (s₁.setTop (mkF m 0 #[.val (.int p0)] [])) _
    refine XS.iloadN X0.here hx rfl (hb hby d2_0) rfl ?_
    show Steps p.tables e below (s₁.setTop (mkF m 1 #[.val (.int p0)] [(.int p0)])) _
    refine XS.sipush X0.here hx rfl (hb hby d2_1) ?_
    show Steps p.tables e below (s₁.setTop (mkF m 4 #[.val (.int p0)] [(.int (192 : Int32)), (.int p0)])) _
    refine XS.iand X0.here hx rfl (hb hby d2_4) rfl ?_
    show Steps p.tables e below (s₁.setTop (mkF m 5 #[.val (.int p0)] [(.int (p0 &&& (192 : Int32)))])) _
    refine XS.sipush X0.here hx rfl (hb hby d2_5) ?_
    exact k)
  by_cases hc8_2 : (p0 &&& (192 : Int32)) = (128 : Int32)
  · have pre3 : ∀ t, Steps p.tables e below (s₁.setTop (mkF m 16 #[.val (.int p0)] [(.int (1 : Int32))])) t → Steps p.tables e below (s₁.setTop (entryFrame m #[(.int p0)] 1)) t := fun t k => pre1 t (by
      show Steps p.tables e below (s₁.setTop (mkF m 8 #[.val (.int p0)] [(.int (128 : Int32)), (.int (p0 &&& (192 : Int32)))])) _
      refine XS.icmpNo X0.here hx rfl (hb hby d2_8) rfl (teq hc8_2).2 ?_
      show Steps p.tables e below (s₁.setTop (mkF m 11 #[.val (.int p0)] [])) _
      refine XS.iconst X0.here hx rfl (hb hby d2_11) ?_
      show Steps p.tables e below (s₁.setTop (mkF m 12 #[.val (.int p0)] [(.int (1 : Int32))])) _
      refine XS.goto X0.here hx rfl (pc0 := 12) (pc' := 16) rfl (hb hby d2_12) (by decide) (by decide) ?_
      exact k)
    obtain ⟨fs, hr, hrun, hended, hW, hsame⟩ := X0.leave (v := some (.int (1 : Int32))) (fun h => by rw [Bd.returns] at h; cases h) hlk
    have hF : (F2 p0) = (1 : Int32) := by unfold F2; rw [if_pos hc8_2]
    exact ⟨_, _, pre3 _ (retN X0 hx (t := .boolean) Bd.returns (by simp) (hb hby d2_16) hr), hrun, hended, _, _, rfl, ⟨by rw [hF], N0, e0⟩, ⟨_, rfl⟩, hW, hsame.mono (by decide) (by decide)⟩
  have pre4 : ∀ t, Steps p.tables e below (s₁.setTop (mkF m 16 #[.val (.int p0)] [(.int (0 : Int32))])) t → Steps p.tables e below (s₁.setTop (entryFrame m #[(.int p0)] 1)) t := fun t k => pre1 t (by
    show Steps p.tables e below (s₁.setTop (mkF m 8 #[.val (.int p0)] [(.int (128 : Int32)), (.int (p0 &&& (192 : Int32)))])) _
    refine XS.icmpYes X0.here hx rfl (pc0 := 8) (pc' := 15) rfl (hb hby d2_8) rfl (feq hc8_2).2 (by decide) (by decide) ?_
    show Steps p.tables e below (s₁.setTop (mkF m 15 #[.val (.int p0)] [])) _
    refine XS.iconst X0.here hx rfl (hb hby d2_15) ?_
    exact k)
  obtain ⟨fs, hr, hrun, hended, hW, hsame⟩ := X0.leave (v := some (.int (0 : Int32))) (fun h => by rw [Bd.returns] at h; cases h) hlk
  have hF : (F2 p0) = (0 : Int32) := by unfold F2; rw [if_neg hc8_2]
  exact ⟨_, _, pre4 _ (retN X0 hx (t := .boolean) Bd.returns (by simp) (hb hby d2_16) hr), hrun, hended, _, _, rfl, ⟨by rw [hF], N0, e0⟩, ⟨_, rfl⟩, hW, hsame.mono (by decide) (by decide)⟩
def F1_3 (p2 : Int32) (x0_a0 : Int32) (x1_a0 : Int32) (x2_a0 : Int32) (x3_a0 : Int32) (x4_a0 : Int32) (x5_a0 : Int32) (x6_a0 : Int32) (x7_a0 : Int32) : Int32 := (if (3 : Int32) < p2 then (if (x3_a0 &&& (192 : Int32)) = (128 : Int32) then (if (x2_a0 &&& (192 : Int32)) = (128 : Int32) then (if (x1_a0 &&& (192 : Int32)) = (128 : Int32) then (0 : Int32) else (1 : Int32)) else (2 : Int32)) else (3 : Int32)) else (3 : Int32))
theorem ef1_3 (m : MethodId) (x0 : Addr) (x2 : Int32) : entryFrame m #[(.ref x0), (.int (3 : Int32)), (.int x2)] 5 = mkF m 0 #[.val (.ref x0), .val (.int (3 : Int32)), .val (.int x2), .unset, .unset] [] := by first | (simp [entryFrame, mkF, argsToLocals, Value.category]; done) | rfl
def Q1_3 (Z : State) (a0 : Addr) (p2 : Int32) (x0_a0 : Int32) (x1_a0 : Int32) (x2_a0 : Int32) (x3_a0 : Int32) (x4_a0 : Int32) (x5_a0 : Int32) (x6_a0 : Int32) (x7_a0 : Int32) (k_a0 : ClassId) (h0 : Heap) (n0 : Nat) (v : Option Value) (h : Heap) (L : List Loc) : Prop := v = some (.int (F1_3 p2 x0_a0 x1_a0 x2_a0 x3_a0 x4_a0 x5_a0 x6_a0 x7_a0)) ∧ Fr n0 L ∧ h = h0
set_option maxRecDepth 65536 in
set_option maxHeartbeats 40000000 in
theorem rm1_3 (l : Launch) (Z : State) (a0' : Array Value) (hw : ∀ d ∈ tables_1, d.before a0' Z = true) (ws : List Jvm.Cond) (a0 : Addr) (p2 : Int32) (x0_a0 : Int32) (x1_a0 : Int32) (x2_a0 : Int32) (x3_a0 : Int32) (x4_a0 : Int32) (x5_a0 : Int32) (x6_a0 : Int32) (x7_a0 : Int32) (k_a0 : ClassId) (h0 : Heap) (n0 : Nat) (Z0 : n0 ≤ h0.size) (V_a0 : Arv Z h0 a0 k_a0 .byte (8 : Int32) [(.int x0_a0), (.int x1_a0), (.int x2_a0), (.int x3_a0), (.int x4_a0), (.int x5_a0), (.int x6_a0), (.int x7_a0)] (.int 0)) :
    MetFree l (⟨"com/example/tenon/tenon/Utf8", "cut", "([BII)I"⟩ : MethodName) (head1 (Jvm.Cond.code (⟨"com/example/tenon/tenon/Utf8", "cut", "([BII)I"⟩ : MethodName) prog_110_method_3_code 5 (some .int) :: ws) ({ frames := 0, cells := 0, slots := 0, locals := 0 } : Room)) (fun a U => a = #[(.ref a0), (.int (3 : Int32)), (.int p2)] ∧ Z.Warmed39 U.vm ∧ U.heap = h0) (fun _ _ _ _ _ => True) (fun _ U o U' => ∃ v L, o = .returned v ∧ Q1_3 Z a0 p2 x0_a0 x1_a0 x2_a0 x3_a0 x4_a0 x5_a0 x6_a0 x7_a0 k_a0 h0 n0 v U'.heap L ∧ FrameEnd U o U' L ({ frames := 0, cells := 0, slots := 0, locals := 0 } : Room).cells ({ frames := 0, cells := 0, slots := 0, locals := 0 } : Room).slots) := by
  refine MetFree.of_bodySF (plainFor_of_name pn1) hisR ?_
  intro p e s m args below meth c s₁ Bd hml0 hP hK
  obtain ⟨rfl, hZ, hh⟩ := hP
  have hx := Bd.exec
  have hby := Bd.bytes
  have hml : c.maxLocals = 5 := hml0
  have hown : s.vm.findClass "com/example/tenon/tenon/Utf8" = some m.cls := findClass_of_methodNamed Bd.named
  have hnm := (name_of_methodNamed Bd.named Bd.method).1
  have X0 : Stand p l e ({ frames := 0, cells := 0, slots := 0, locals := 0 } : Room) s m #[(.ref a0), (.int (3 : Int32)), (.int p2)] below meth c s₁ [] 0 0 := Stand.of_body Bd
  have e0 : s₁.heap = h0 := by rw [← hh, Bd.state]; rfl
  have N0 := Fr.nil n0
  have hlk : meth.locks = false := by first | exact BodyLoose.notSynchronized Bd | exact Body.notSynchronized Bd
  have pre0 : ∀ t, Steps p.tables e below (s₁.setTop (mkF m 0 #[.val (.ref a0), .val (.int (3 : Int32)), .val (.int p2), .unset, .unset] [])) t → Steps p.tables e below (s₁.setTop (entryFrame m #[(.ref a0), (.int (3 : Int32)), (.int p2)] 5)) t := fun t k => castTop (ef1_3 m a0 p2) k
  have pre1 : ∀ t, Steps p.tables e below (s₁.setTop (mkF m 13 #[.val (.ref a0), .val (.int (3 : Int32)), .val (.int p2), .val (.int (3 : Int32)), .val (.int (0 : Int32))] [(.int p2), (.int (3 : Int32))])) t → Steps p.tables e below (s₁.setTop (entryFrame m #[(.ref a0), (.int (3 : Int32)), (.int p2)] 5)) t := fun t k => pre0 t (by
    show Steps p.tables e below (s₁.setTop (mkF m 0 #[.val (.ref a0), .val (.int (3 : Int32)), .val (.int p2), .unset, .unset] [])) _
    refine XS.iloadN X0.here hx rfl (hb hby d1_0) rfl ?_
    show Steps p.tables e below (s₁.setTop (mkF m 1 #[.val (.ref a0), .val (.int (3 : Int32)), .val (.int p2), .unset, .unset] [(.int (3 : Int32))])) _
    refine XS.istoreN X0.here hx rfl (hb hby d1_1) rfl (l' := #[.val (.ref a0), .val (.int (3 : Int32)), .val (.int p2), .val (.int (3 : Int32)), .unset]) rfl ?_
    show Steps p.tables e below (s₁.setTop (mkF m 2 #[.val (.ref a0), .val (.int (3 : Int32)), .val (.int p2), .val (.int (3 : Int32)), .unset] [])) _
    refine XS.iconst X0.here hx rfl (hb hby d1_2) ?_
    show Steps p.tables e below (s₁.setTop (mkF m 3 #[.val (.ref a0), .val (.int (3 : Int32)), .val (.int p2), .val (.int (3 : Int32)), .unset] [(.int (0 : Int32))])) _
    refine XS.istore X0.here hx rfl (hb hby d1_3) rfl (l' := #[.val (.ref a0), .val (.int (3 : Int32)), .val (.int p2), .val (.int (3 : Int32)), .val (.int (0 : Int32))]) rfl ?_
    show Steps p.tables e below (s₁.setTop (mkF m 5 #[.val (.ref a0), .val (.int (3 : Int32)), .val (.int p2), .val (.int (3 : Int32)), .val (.int (0 : Int32))] [])) _
    refine XS.iload X0.here hx rfl (hb hby d1_5) rfl ?_
    show Steps p.tables e below (s₁.setTop (mkF m 7 #[.val (.ref a0), .val (.int (3 : Int32)), .val (.int p2), .val (.int (3 : Int32)), .val (.int (0 : Int32))] [(.int (0 : Int32))])) _
    refine XS.iconst X0.here hx rfl (hb hby d1_7) ?_
    show Steps p.tables e below (s₁.setTop (mkF m 8 #[.val (.ref a0), .val (.int (3 : Int32)), .val (.int p2), .val (.int (3 : Int32)), .val (.int (0 : Int32))] [(.int (3 : Int32)), (.int (0 : Int32))])) _
    refine XS.icmpNo X0.here hx rfl (hb hby d1_8) rfl (tlt (by decide : (0 : Int32) < (3 : Int32))).2.1 ?_
    show Steps p.tables e below (s₁.setTop (mkF m 11 #[.val (.ref a0), .val (.int (3 : Int32)), .val (.int p2), .val (.int (3 : Int32)), .val (.int (0 : Int32))] [])) _
    refine XS.iloadN X0.here hx rfl (hb hby d1_11) rfl ?_
    show Steps p.tables e below (s₁.setTop (mkF m 12 #[.val (.ref a0), .val (.int (3 : Int32)), .val (.int p2), .val (.int (3 : Int32)), .val (.int (0 : Int32))] [(.int (3 : Int32))])) _
    refine XS.iloadN X0.here hx rfl (hb hby d1_12) rfl ?_
    exact k)
  by_cases hc13_2 : (3 : Int32) < p2
  · obtain ⟨cl3, Ar3, q3, S3, M3, H3, G3⟩ := id V_a0
    have hin3 : ¬ ((3 : Int32) < 0 ∨ cl3.slots.size ≤ ((3 : Int32)).toNatClampNeg) := inb_of S3 ⟨by decide, by decide⟩
    have hat3 : cl3.slots[((3 : Int32)).toNatClampNeg]? = some (.int x3_a0) := H3.at hin3 rfl
    have pre4 : ∀ t, Steps p.tables e below (s₁.setTop (mkF m 26 #[.val (.ref a0), .val (.int (3 : Int32)), .val (.int p2), .val (.int (3 : Int32)), .val (.int (0 : Int32))] [(.int (128 : Int32)), (.int (x3_a0 &&& (192 : Int32)))])) t → Steps p.tables e below (s₁.setTop (entryFrame m #[(.ref a0), (.int (3 : Int32)), (.int p2)] 5)) t := fun t k => pre1 t (by
      show Steps p.tables e below (s₁.setTop (mkF m 13 #[.val (.ref a0), .val (.int (3 : Int32)), .val (.int p2), .val (.int (3 : Int32)), .val (.int (0 : Int32))] [(.int p2), (.int (3 : Int32))])) _
      refine XS.icmpNo X0.here hx rfl (hb hby d1_13) rfl (tlt hc13_2).2.1 ?_
      show Steps p.tables e below (s₁.setTop (mkF m 16 #[.val (.ref a0), .val (.int (3 : Int32)), .val (.int p2), .val (.int (3 : Int32)), .val (.int (0 : Int32))] [])) _
      refine XS.aloadN X0.here hx rfl (hb hby d1_16) rfl rfl ?_
      show Steps p.tables e below (s₁.setTop (mkF m 17 #[.val (.ref a0), .val (.int (3 : Int32)), .val (.int p2), .val (.int (3 : Int32)), .val (.int (0 : Int32))] [(.ref a0)])) _
      refine XS.iloadN X0.here hx rfl (hb hby d1_17) rfl ?_
      show Steps p.tables e below (s₁.setTop (mkF m 18 #[.val (.ref a0), .val (.int (3 : Int32)), .val (.int p2), .val (.int (3 : Int32)), .val (.int (0 : Int32))] [(.int (3 : Int32)), (.ref a0)])) _
      refine X0.baloadBytes hx (j := (3 : Int32)) (v := (.int x3_a0)) (by rw [e0]; exact Ar3.1) (State.isArrayOf_alike hZ.alike Ar3.2.1) Ar3.2.2 hin3 hat3 (g := (mkF m 18 #[.val (.ref a0), .val (.int (3 : Int32)), .val (.int p2), .val (.int (3 : Int32)), .val (.int (0 : Int32))] [(.int (3 : Int32)), (.ref a0)])) rfl rfl (hb hby d1_18) _ ?_
      show Steps p.tables e below (s₁.setTop (mkF m 19 #[.val (.ref a0), .val (.int (3 : Int32)), .val (.int p2), .val (.int (3 : Int32)), .val (.int (0 : Int32))] [(.int x3_a0)])) _
      refine XS.sipush X0.here hx rfl (hb hby d1_19) ?_
      show Steps p.tables e below (s₁.setTop (mkF m 22 #[.val (.ref a0), .val (.int (3 : Int32)), .val (.int p2), .val (.int (3 : Int32)), .val (.int (0 : Int32))] [(.int (192 : Int32)), (.int x3_a0)])) _
      refine XS.iand X0.here hx rfl (hb hby d1_22) rfl ?_
      show Steps p.tables e below (s₁.setTop (mkF m 23 #[.val (.ref a0), .val (.int (3 : Int32)), .val (.int p2), .val (.int (3 : Int32)), .val (.int (0 : Int32))] [(.int (x3_a0 &&& (192 : Int32)))])) _
      refine XS.sipush X0.here hx rfl (hb hby d1_23) ?_
      exact k)
    by_cases hc26_5 : (x3_a0 &&& (192 : Int32)) = (128 : Int32)
    · obtain ⟨cl6, Ar6, q6, S6, M6, H6, G6⟩ := id V_a0
      have hin6 : ¬ ((2 : Int32) < 0 ∨ cl6.slots.size ≤ ((2 : Int32)).toNatClampNeg) := inb_of S6 ⟨by decide, by decide⟩
      have hat6 : cl6.slots[((2 : Int32)).toNatClampNeg]? = some (.int x2_a0) := H6.at hin6 rfl
      have pre7 : ∀ t, Steps p.tables e below (s₁.setTop (mkF m 26 #[.val (.ref a0), .val (.int (3 : Int32)), .val (.int p2), .val (.int (2 : Int32)), .val (.int (1 : Int32))] [(.int (128 : Int32)), (.int (x2_a0 &&& (192 : Int32)))])) t → Steps p.tables e below (s₁.setTop (entryFrame m #[(.ref a0), (.int (3 : Int32)), (.int p2)] 5)) t := fun t k => pre4 t (by
        show Steps p.tables e below (s₁.setTop (mkF m 26 #[.val (.ref a0), .val (.int (3 : Int32)), .val (.int p2), .val (.int (3 : Int32)), .val (.int (0 : Int32))] [(.int (128 : Int32)), (.int (x3_a0 &&& (192 : Int32)))])) _
        refine XS.icmpNo X0.here hx rfl (hb hby d1_26) rfl (teq hc26_5).2 ?_
        show Steps p.tables e below (s₁.setTop (mkF m 29 #[.val (.ref a0), .val (.int (3 : Int32)), .val (.int p2), .val (.int (3 : Int32)), .val (.int (0 : Int32))] [])) _
        refine XS.iinc X0.here hx rfl (hb hby d1_29) rfl (l' := #[.val (.ref a0), .val (.int (3 : Int32)), .val (.int p2), .val (.int ((3 : Int32) + (-1 : Int32))), .val (.int (0 : Int32))]) rfl ?_
        show Steps p.tables e below (s₁.setTop (mkF m 32 #[.val (.ref a0), .val (.int (3 : Int32)), .val (.int p2), .val (.int (2 : Int32)), .val (.int (0 : Int32))] [])) _
        refine XS.iinc X0.here hx rfl (hb hby d1_32) rfl (l' := #[.val (.ref a0), .val (.int (3 : Int32)), .val (.int p2), .val (.int (2 : Int32)), .val (.int ((0 : Int32) + (1 : Int32)))]) rfl ?_
        show Steps p.tables e below (s₁.setTop (mkF m 35 #[.val (.ref a0), .val (.int (3 : Int32)), .val (.int p2), .val (.int (2 : Int32)), .val (.int (1 : Int32))] [])) _
        refine XS.goto X0.here hx rfl (pc0 := 35) (pc' := 5) rfl (hb hby d1_35) (by decide) (by decide) ?_
        show Steps p.tables e below (s₁.setTop (mkF m 5 #[.val (.ref a0), .val (.int (3 : Int32)), .val (.int p2), .val (.int (2 : Int32)), .val (.int (1 : Int32))] [])) _
        refine XS.iload X0.here hx rfl (hb hby d1_5) rfl ?_
        show Steps p.tables e below (s₁.setTop (mkF m 7 #[.val (.ref a0), .val (.int (3 : Int32)), .val (.int p2), .val (.int (2 : Int32)), .val (.int (1 : Int32))] [(.int (1 : Int32))])) _
        refine XS.iconst X0.here hx rfl (hb hby d1_7) ?_
        show Steps p.tables e below (s₁.setTop (mkF m 8 #[.val (.ref a0), .val (.int (3 : Int32)), .val (.int p2), .val (.int (2 : Int32)), .val (.int (1 : Int32))] [(.int (3 : Int32)), (.int (1 : Int32))])) _
        refine XS.icmpNo X0.here hx rfl (hb hby d1_8) rfl (tlt (by decide : (1 : Int32) < (3 : Int32))).2.1 ?_
        show Steps p.tables e below (s₁.setTop (mkF m 11 #[.val (.ref a0), .val (.int (3 : Int32)), .val (.int p2), .val (.int (2 : Int32)), .val (.int (1 : Int32))] [])) _
        refine XS.iloadN X0.here hx rfl (hb hby d1_11) rfl ?_
        show Steps p.tables e below (s₁.setTop (mkF m 12 #[.val (.ref a0), .val (.int (3 : Int32)), .val (.int p2), .val (.int (2 : Int32)), .val (.int (1 : Int32))] [(.int (2 : Int32))])) _
        refine XS.iloadN X0.here hx rfl (hb hby d1_12) rfl ?_
        show Steps p.tables e below (s₁.setTop (mkF m 13 #[.val (.ref a0), .val (.int (3 : Int32)), .val (.int p2), .val (.int (2 : Int32)), .val (.int (1 : Int32))] [(.int p2), (.int (2 : Int32))])) _
        refine XS.icmpNo X0.here hx rfl (hb hby d1_13) rfl (tlt (own_lxT (own_lo2 hc13_2) (by decide))).2.1 ?_
        show Steps p.tables e below (s₁.setTop (mkF m 16 #[.val (.ref a0), .val (.int (3 : Int32)), .val (.int p2), .val (.int (2 : Int32)), .val (.int (1 : Int32))] [])) _
        refine XS.aloadN X0.here hx rfl (hb hby d1_16) rfl rfl ?_
        show Steps p.tables e below (s₁.setTop (mkF m 17 #[.val (.ref a0), .val (.int (3 : Int32)), .val (.int p2), .val (.int (2 : Int32)), .val (.int (1 : Int32))] [(.ref a0)])) _
        refine XS.iloadN X0.here hx rfl (hb hby d1_17) rfl ?_
        show Steps p.tables e below (s₁.setTop (mkF m 18 #[.val (.ref a0), .val (.int (3 : Int32)), .val (.int p2), .val (.int (2 : Int32)), .val (.int (1 : Int32))] [(.int (2 : Int32)), (.ref a0)])) _
        refine X0.baloadBytes hx (j := (2 : Int32)) (v := (.int x2_a0)) (by rw [e0]; exact Ar6.1) (State.isArrayOf_alike hZ.alike Ar6.2.1) Ar6.2.2 hin6 hat6 (g := (mkF m 18 #[.val (.ref a0), .val (.int (3 : Int32)), .val (.int p2), .val (.int (2 : Int32)), .val (.int (1 : Int32))] [(.int (2 : Int32)), (.ref a0)])) rfl rfl (hb hby d1_18) _ ?_
        show Steps p.tables e below (s₁.setTop (mkF m 19 #[.val (.ref a0), .val (.int (3 : Int32)), .val (.int p2), .val (.int (2 : Int32)), .val (.int (1 : Int32))] [(.int x2_a0)])) _
        refine XS.sipush X0.here hx rfl (hb hby d1_19) ?_
        show Steps p.tables e below (s₁.setTop (mkF m 22 #[.val (.ref a0), .val (.int (3 : Int32)), .val (.int p2), .val (.int (2 : Int32)), .val (.int (1 : Int32))] [(.int (192 : Int32)), (.int x2_a0)])) _
        refine XS.iand X0.here hx rfl (hb hby d1_22) rfl ?_
        show Steps p.tables e below (s₁.setTop (mkF m 23 #[.val (.ref a0), .val (.int (3 : Int32)), .val (.int p2), .val (.int (2 : Int32)), .val (.int (1 : Int32))] [(.int (x2_a0 &&& (192 : Int32)))])) _
        refine XS.sipush X0.here hx rfl (hb hby d1_23) ?_
        exact k)
      by_cases hc26_8 : (x2_a0 &&& (192 : Int32)) = (128 : Int32)
      · obtain ⟨cl9, Ar9, q9, S9, M9, H9, G9⟩ := id V_a0
        have hin9 : ¬ ((1 : Int32) < 0 ∨ cl9.slots.size ≤ ((1 : Int32)).toNatClampNeg) := inb_of S9 ⟨by decide, by decide⟩
        have hat9 : cl9.slots[((1 : Int32)).toNatClampNeg]? = some (.int x1_a0) := H9.at hin9 rfl
        have pre10 : ∀ t, Steps p.tables e below (s₁.setTop (mkF m 26 #[.val (.ref a0), .val (.int (3 : Int32)), .val (.int p2), .val (.int (1 : Int32)), .val (.int (2 : Int32))] [(.int (128 : Int32)), (.int (x1_a0 &&& (192 : Int32)))])) t → Steps p.tables e below (s₁.setTop (entryFrame m #[(.ref a0), (.int (3 : Int32)), (.int p2)] 5)) t := fun t k => pre7 t (by
          show Steps p.tables e below (s₁.setTop (mkF m 26 #[.val (.ref a0), .val (.int (3 : Int32)), .val (.int p2), .val (.int (2 : Int32)), .val (.int (1 : Int32))] [(.int (128 : Int32)), (.int (x2_a0 &&& (192 : Int32)))])) _
          refine XS.icmpNo X0.here hx rfl (hb hby d1_26) rfl (teq hc26_8).2 ?_
          show Steps p.tables e below (s₁.setTop (mkF m 29 #[.val (.ref a0), .val (.int (3 : Int32)), .val (.int p2), .val (.int (2 : Int32)), .val (.int (1 : Int32))] [])) _
          refine XS.iinc X0.here hx rfl (hb hby d1_29) rfl (l' := #[.val (.ref a0), .val (.int (3 : Int32)), .val (.int p2), .val (.int ((2 : Int32) + (-1 : Int32))), .val (.int (1 : Int32))]) rfl ?_
          show Steps p.tables e below (s₁.setTop (mkF m 32 #[.val (.ref a0), .val (.int (3 : Int32)), .val (.int p2), .val (.int (1 : Int32)), .val (.int (1 : Int32))] [])) _
          refine XS.iinc X0.here hx rfl (hb hby d1_32) rfl (l' := #[.val (.ref a0), .val (.int (3 : Int32)), .val (.int p2), .val (.int (1 : Int32)), .val (.int ((1 : Int32) + (1 : Int32)))]) rfl ?_
          show Steps p.tables e below (s₁.setTop (mkF m 35 #[.val (.ref a0), .val (.int (3 : Int32)), .val (.int p2), .val (.int (1 : Int32)), .val (.int (2 : Int32))] [])) _
          refine XS.goto X0.here hx rfl (pc0 := 35) (pc' := 5) rfl (hb hby d1_35) (by decide) (by decide) ?_
          show Steps p.tables e below (s₁.setTop (mkF m 5 #[.val (.ref a0), .val (.int (3 : Int32)), .val (.int p2), .val (.int (1 : Int32)), .val (.int (2 : Int32))] [])) _
          refine XS.iload X0.here hx rfl (hb hby d1_5) rfl ?_
          show Steps p.tables e below (s₁.setTop (mkF m 7 #[.val (.ref a0), .val (.int (3 : Int32)), .val (.int p2), .val (.int (1 : Int32)), .val (.int (2 : Int32))] [(.int (2 : Int32))])) _
          refine XS.iconst X0.here hx rfl (hb hby d1_7) ?_
          show Steps p.tables e below (s₁.setTop (mkF m 8 #[.val (.ref a0), .val (.int (3 : Int32)), .val (.int p2), .val (.int (1 : Int32)), .val (.int (2 : Int32))] [(.int (3 : Int32)), (.int (2 : Int32))])) _
          refine XS.icmpNo X0.here hx rfl (hb hby d1_8) rfl (tlt (by decide : (2 : Int32) < (3 : Int32))).2.1 ?_
          show Steps p.tables e below (s₁.setTop (mkF m 11 #[.val (.ref a0), .val (.int (3 : Int32)), .val (.int p2), .val (.int (1 : Int32)), .val (.int (2 : Int32))] [])) _
          refine XS.iloadN X0.here hx rfl (hb hby d1_11) rfl ?_
          show Steps p.tables e below (s₁.setTop (mkF m 12 #[.val (.ref a0), .val (.int (3 : Int32)), .val (.int p2), .val (.int (1 : Int32)), .val (.int (2 : Int32))] [(.int (1 : Int32))])) _
          refine XS.iloadN X0.here hx rfl (hb hby d1_12) rfl ?_
          show Steps p.tables e below (s₁.setTop (mkF m 13 #[.val (.ref a0), .val (.int (3 : Int32)), .val (.int p2), .val (.int (1 : Int32)), .val (.int (2 : Int32))] [(.int p2), (.int (1 : Int32))])) _
          refine XS.icmpNo X0.here hx rfl (hb hby d1_13) rfl (tlt (own_lxT (own_lo2 hc13_2) (by decide))).2.1 ?_
          show Steps p.tables e below (s₁.setTop (mkF m 16 #[.val (.ref a0), .val (.int (3 : Int32)), .val (.int p2), .val (.int (1 : Int32)), .val (.int (2 : Int32))] [])) _
          refine XS.aloadN X0.here hx rfl (hb hby d1_16) rfl rfl ?_
          show Steps p.tables e below (s₁.setTop (mkF m 17 #[.val (.ref a0), .val (.int (3 : Int32)), .val (.int p2), .val (.int (1 : Int32)), .val (.int (2 : Int32))] [(.ref a0)])) _
          refine XS.iloadN X0.here hx rfl (hb hby d1_17) rfl ?_
          show Steps p.tables e below (s₁.setTop (mkF m 18 #[.val (.ref a0), .val (.int (3 : Int32)), .val (.int p2), .val (.int (1 : Int32)), .val (.int (2 : Int32))] [(.int (1 : Int32)), (.ref a0)])) _
          refine X0.baloadBytes hx (j := (1 : Int32)) (v := (.int x1_a0)) (by rw [e0]; exact Ar9.1) (State.isArrayOf_alike hZ.alike Ar9.2.1) Ar9.2.2 hin9 hat9 (g := (mkF m 18 #[.val (.ref a0), .val (.int (3 : Int32)), .val (.int p2), .val (.int (1 : Int32)), .val (.int (2 : Int32))] [(.int (1 : Int32)), (.ref a0)])) rfl rfl (hb hby d1_18) _ ?_
          show Steps p.tables e below (s₁.setTop (mkF m 19 #[.val (.ref a0), .val (.int (3 : Int32)), .val (.int p2), .val (.int (1 : Int32)), .val (.int (2 : Int32))] [(.int x1_a0)])) _
          refine XS.sipush X0.here hx rfl (hb hby d1_19) ?_
          show Steps p.tables e below (s₁.setTop (mkF m 22 #[.val (.ref a0), .val (.int (3 : Int32)), .val (.int p2), .val (.int (1 : Int32)), .val (.int (2 : Int32))] [(.int (192 : Int32)), (.int x1_a0)])) _
          refine XS.iand X0.here hx rfl (hb hby d1_22) rfl ?_
          show Steps p.tables e below (s₁.setTop (mkF m 23 #[.val (.ref a0), .val (.int (3 : Int32)), .val (.int p2), .val (.int (1 : Int32)), .val (.int (2 : Int32))] [(.int (x1_a0 &&& (192 : Int32)))])) _
          refine XS.sipush X0.here hx rfl (hb hby d1_23) ?_
          exact k)
        by_cases hc26_11 : (x1_a0 &&& (192 : Int32)) = (128 : Int32)
        · have pre12 : ∀ t, Steps p.tables e below (s₁.setTop (mkF m 39 #[.val (.ref a0), .val (.int (3 : Int32)), .val (.int p2), .val (.int (0 : Int32)), .val (.int (3 : Int32))] [(.int (0 : Int32))])) t → Steps p.tables e below (s₁.setTop (entryFrame m #[(.ref a0), (.int (3 : Int32)), (.int p2)] 5)) t := fun t k => pre10 t (by
            show Steps p.tables e below (s₁.setTop (mkF m 26 #[.val (.ref a0), .val (.int (3 : Int32)), .val (.int p2), .val (.int (1 : Int32)), .val (.int (2 : Int32))] [(.int (128 : Int32)), (.int (x1_a0 &&& (192 : Int32)))])) _
            refine XS.icmpNo X0.here hx rfl (hb hby d1_26) rfl (teq hc26_11).2 ?_
            show Steps p.tables e below (s₁.setTop (mkF m 29 #[.val (.ref a0), .val (.int (3 : Int32)), .val (.int p2), .val (.int (1 : Int32)), .val (.int (2 : Int32))] [])) _
            refine XS.iinc X0.here hx rfl (hb hby d1_29) rfl (l' := #[.val (.ref a0), .val (.int (3 : Int32)), .val (.int p2), .val (.int ((1 : Int32) + (-1 : Int32))), .val (.int (2 : Int32))]) rfl ?_
            show Steps p.tables e below (s₁.setTop (mkF m 32 #[.val (.ref a0), .val (.int (3 : Int32)), .val (.int p2), .val (.int (0 : Int32)), .val (.int (2 : Int32))] [])) _
            refine XS.iinc X0.here hx rfl (hb hby d1_32) rfl (l' := #[.val (.ref a0), .val (.int (3 : Int32)), .val (.int p2), .val (.int (0 : Int32)), .val (.int ((2 : Int32) + (1 : Int32)))]) rfl ?_
            show Steps p.tables e below (s₁.setTop (mkF m 35 #[.val (.ref a0), .val (.int (3 : Int32)), .val (.int p2), .val (.int (0 : Int32)), .val (.int (3 : Int32))] [])) _
            refine XS.goto X0.here hx rfl (pc0 := 35) (pc' := 5) rfl (hb hby d1_35) (by decide) (by decide) ?_
            show Steps p.tables e below (s₁.setTop (mkF m 5 #[.val (.ref a0), .val (.int (3 : Int32)), .val (.int p2), .val (.int (0 : Int32)), .val (.int (3 : Int32))] [])) _
            refine XS.iload X0.here hx rfl (hb hby d1_5) rfl ?_
            show Steps p.tables e below (s₁.setTop (mkF m 7 #[.val (.ref a0), .val (.int (3 : Int32)), .val (.int p2), .val (.int (0 : Int32)), .val (.int (3 : Int32))] [(.int (3 : Int32))])) _
            refine XS.iconst X0.here hx rfl (hb hby d1_7) ?_
            show Steps p.tables e below (s₁.setTop (mkF m 8 #[.val (.ref a0), .val (.int (3 : Int32)), .val (.int p2), .val (.int (0 : Int32)), .val (.int (3 : Int32))] [(.int (3 : Int32)), (.int (3 : Int32))])) _
            refine XS.icmpYes X0.here hx rfl (pc0 := 8) (pc' := 38) rfl (hb hby d1_8) rfl (flt (by decide : ¬ ((3 : Int32) < (3 : Int32)))).2.1 (by decide) (by decide) ?_
            show Steps p.tables e below (s₁.setTop (mkF m 38 #[.val (.ref a0), .val (.int (3 : Int32)), .val (.int p2), .val (.int (0 : Int32)), .val (.int (3 : Int32))] [])) _
            refine XS.iloadN X0.here hx rfl (hb hby d1_38) rfl ?_
            exact k)
          obtain ⟨fs, hr, hrun, hended, hW, hsame⟩ := X0.leave (v := some (.int (0 : Int32))) (fun h => by rw [Bd.returns] at h; cases h) hlk
          have hF : (F1_3 p2 x0_a0 x1_a0 x2_a0 x3_a0 x4_a0 x5_a0 x6_a0 x7_a0) = (0 : Int32) := by unfold F1_3; rw [if_pos hc13_2, if_pos hc26_5, if_pos hc26_8, if_pos hc26_11]
          exact ⟨_, _, pre12 _ (retI X0 hx Bd.returns (hb hby d1_39) hr), hrun, hended, _, _, rfl, ⟨by rw [hF], N0, e0⟩, ⟨_, rfl⟩, hW, hsame.mono (by decide) (by decide)⟩
        have pre13 : ∀ t, Steps p.tables e below (s₁.setTop (mkF m 39 #[.val (.ref a0), .val (.int (3 : Int32)), .val (.int p2), .val (.int (1 : Int32)), .val (.int (2 : Int32))] [(.int (1 : Int32))])) t → Steps p.tables e below (s₁.setTop (entryFrame m #[(.ref a0), (.int (3 : Int32)), (.int p2)] 5)) t := fun t k => pre10 t (by
          show Steps p.tables e below (s₁.setTop (mkF m 26 #[.val (.ref a0), .val (.int (3 : Int32)), .val (.int p2), .val (.int (1 : Int32)), .val (.int (2 : Int32))] [(.int (128 : Int32)), (.int (x1_a0 &&& (192 : Int32)))])) _
          refine XS.icmpYes X0.here hx rfl (pc0 := 26) (pc' := 38) rfl (hb hby d1_26) rfl (feq hc26_11).2 (by decide) (by decide) ?_
          show Steps p.tables e below (s₁.setTop (mkF m 38 #[.val (.ref a0), .val (.int (3 : Int32)), .val (.int p2), .val (.int (1 : Int32)), .val (.int (2 : Int32))] [])) _
          refine XS.iloadN X0.here hx rfl (hb hby d1_38) rfl ?_
          exact k)
        obtain ⟨fs, hr, hrun, hended, hW, hsame⟩ := X0.leave (v := some (.int (1 : Int32))) (fun h => by rw [Bd.returns] at h; cases h) hlk
        have hF : (F1_3 p2 x0_a0 x1_a0 x2_a0 x3_a0 x4_a0 x5_a0 x6_a0 x7_a0) = (1 : Int32) := by unfold F1_3; rw [if_pos hc13_2, if_pos hc26_5, if_pos hc26_8, if_neg hc26_11]
        exact ⟨_, _, pre13 _ (retI X0 hx Bd.returns (hb hby d1_39) hr), hrun, hended, _, _, rfl, ⟨by rw [hF], N0, e0⟩, ⟨_, rfl⟩, hW, hsame.mono (by decide) (by decide)⟩
      have pre14 : ∀ t, Steps p.tables e below (s₁.setTop (mkF m 39 #[.val (.ref a0), .val (.int (3 : Int32)), .val (.int p2), .val (.int (2 : Int32)), .val (.int (1 : Int32))] [(.int (2 : Int32))])) t → Steps p.tables e below (s₁.setTop (entryFrame m #[(.ref a0), (.int (3 : Int32)), (.int p2)] 5)) t := fun t k => pre7 t (by
        show Steps p.tables e below (s₁.setTop (mkF m 26 #[.val (.ref a0), .val (.int (3 : Int32)), .val (.int p2), .val (.int (2 : Int32)), .val (.int (1 : Int32))] [(.int (128 : Int32)), (.int (x2_a0 &&& (192 : Int32)))])) _
        refine XS.icmpYes X0.here hx rfl (pc0 := 26) (pc' := 38) rfl (hb hby d1_26) rfl (feq hc26_8).2 (by decide) (by decide) ?_
        show Steps p.tables e below (s₁.setTop (mkF m 38 #[.val (.ref a0), .val (.int (3 : Int32)), .val (.int p2), .val (.int (2 : Int32)), .val (.int (1 : Int32))] [])) _
        refine XS.iloadN X0.here hx rfl (hb hby d1_38) rfl ?_
        exact k)
      obtain ⟨fs, hr, hrun, hended, hW, hsame⟩ := X0.leave (v := some (.int (2 : Int32))) (fun h => by rw [Bd.returns] at h; cases h) hlk
      have hF : (F1_3 p2 x0_a0 x1_a0 x2_a0 x3_a0 x4_a0 x5_a0 x6_a0 x7_a0) = (2 : Int32) := by unfold F1_3; rw [if_pos hc13_2, if_pos hc26_5, if_neg hc26_8]
      exact ⟨_, _, pre14 _ (retI X0 hx Bd.returns (hb hby d1_39) hr), hrun, hended, _, _, rfl, ⟨by rw [hF], N0, e0⟩, ⟨_, rfl⟩, hW, hsame.mono (by decide) (by decide)⟩
    have pre15 : ∀ t, Steps p.tables e below (s₁.setTop (mkF m 39 #[.val (.ref a0), .val (.int (3 : Int32)), .val (.int p2), .val (.int (3 : Int32)), .val (.int (0 : Int32))] [(.int (3 : Int32))])) t → Steps p.tables e below (s₁.setTop (entryFrame m #[(.ref a0), (.int (3 : Int32)), (.int p2)] 5)) t := fun t k => pre4 t (by
      show Steps p.tables e below (s₁.setTop (mkF m 26 #[.val (.ref a0), .val (.int (3 : Int32)), .val (.int p2), .val (.int (3 : Int32)), .val (.int (0 : Int32))] [(.int (128 : Int32)), (.int (x3_a0 &&& (192 : Int32)))])) _
      refine XS.icmpYes X0.here hx rfl (pc0 := 26) (pc' := 38) rfl (hb hby d1_26) rfl (feq hc26_5).2 (by decide) (by decide) ?_
      show Steps p.tables e below (s₁.setTop (mkF m 38 #[.val (.ref a0), .val (.int (3 : Int32)), .val (.int p2), .val (.int (3 : Int32)), .val (.int (0 : Int32))] [])) _
      refine XS.iloadN X0.here hx rfl (hb hby d1_38) rfl ?_
      exact k)
    obtain ⟨fs, hr, hrun, hended, hW, hsame⟩ := X0.leave (v := some (.int (3 : Int32))) (fun h => by rw [Bd.returns] at h; cases h) hlk
    have hF : (F1_3 p2 x0_a0 x1_a0 x2_a0 x3_a0 x4_a0 x5_a0 x6_a0 x7_a0) = (3 : Int32) := by unfold F1_3; rw [if_pos hc13_2, if_neg hc26_5]
    exact ⟨_, _, pre15 _ (retI X0 hx Bd.returns (hb hby d1_39) hr), hrun, hended, _, _, rfl, ⟨by rw [hF], N0, e0⟩, ⟨_, rfl⟩, hW, hsame.mono (by decide) (by decide)⟩
  have pre16 : ∀ t, Steps p.tables e below (s₁.setTop (mkF m 39 #[.val (.ref a0), .val (.int (3 : Int32)), .val (.int p2), .val (.int (3 : Int32)), .val (.int (0 : Int32))] [(.int (3 : Int32))])) t → Steps p.tables e below (s₁.setTop (entryFrame m #[(.ref a0), (.int (3 : Int32)), (.int p2)] 5)) t := fun t k => pre1 t (by
    show Steps p.tables e below (s₁.setTop (mkF m 13 #[.val (.ref a0), .val (.int (3 : Int32)), .val (.int p2), .val (.int (3 : Int32)), .val (.int (0 : Int32))] [(.int p2), (.int (3 : Int32))])) _
    refine XS.icmpYes X0.here hx rfl (pc0 := 13) (pc' := 38) rfl (hb hby d1_13) rfl (flt hc13_2).2.1 (by decide) (by decide) ?_
    show Steps p.tables e below (s₁.setTop (mkF m 38 #[.val (.ref a0), .val (.int (3 : Int32)), .val (.int p2), .val (.int (3 : Int32)), .val (.int (0 : Int32))] [])) _
    refine XS.iloadN X0.here hx rfl (hb hby d1_38) rfl ?_
    exact k)
  obtain ⟨fs, hr, hrun, hended, hW, hsame⟩ := X0.leave (v := some (.int (3 : Int32))) (fun h => by rw [Bd.returns] at h; cases h) hlk
  have hF : (F1_3 p2 x0_a0 x1_a0 x2_a0 x3_a0 x4_a0 x5_a0 x6_a0 x7_a0) = (3 : Int32) := by unfold F1_3; rw [if_neg hc13_2]
  exact ⟨_, _, pre16 _ (retI X0 hx Bd.returns (hb hby d1_39) hr), hrun, hended, _, _, rfl, ⟨by rw [hF], N0, e0⟩, ⟨_, rfl⟩, hW, hsame.mono (by decide) (by decide)⟩
def F1_4 (p2 : Int32) (x0_a0 : Int32) (x1_a0 : Int32) (x2_a0 : Int32) (x3_a0 : Int32) (x4_a0 : Int32) (x5_a0 : Int32) (x6_a0 : Int32) (x7_a0 : Int32) : Int32 := (if (4 : Int32) < p2 then (if (x4_a0 &&& (192 : Int32)) = (128 : Int32) then (if (x3_a0 &&& (192 : Int32)) = (128 : Int32) then (if (x2_a0 &&& (192 : Int32)) = (128 : Int32) then (1 : Int32) else (2 : Int32)) else (3 : Int32)) else (4 : Int32)) else (4 : Int32))
theorem ef1_4 (m : MethodId) (x0 : Addr) (x2 : Int32) : entryFrame m #[(.ref x0), (.int (4 : Int32)), (.int x2)] 5 = mkF m 0 #[.val (.ref x0), .val (.int (4 : Int32)), .val (.int x2), .unset, .unset] [] := by first | (simp [entryFrame, mkF, argsToLocals, Value.category]; done) | rfl
def Q1_4 (Z : State) (a0 : Addr) (p2 : Int32) (x0_a0 : Int32) (x1_a0 : Int32) (x2_a0 : Int32) (x3_a0 : Int32) (x4_a0 : Int32) (x5_a0 : Int32) (x6_a0 : Int32) (x7_a0 : Int32) (k_a0 : ClassId) (h0 : Heap) (n0 : Nat) (v : Option Value) (h : Heap) (L : List Loc) : Prop := v = some (.int (F1_4 p2 x0_a0 x1_a0 x2_a0 x3_a0 x4_a0 x5_a0 x6_a0 x7_a0)) ∧ Fr n0 L ∧ h = h0
set_option maxRecDepth 65536 in
set_option maxHeartbeats 40000000 in
theorem rm1_4 (l : Launch) (Z : State) (a0' : Array Value) (hw : ∀ d ∈ tables_1, d.before a0' Z = true) (ws : List Jvm.Cond) (a0 : Addr) (p2 : Int32) (x0_a0 : Int32) (x1_a0 : Int32) (x2_a0 : Int32) (x3_a0 : Int32) (x4_a0 : Int32) (x5_a0 : Int32) (x6_a0 : Int32) (x7_a0 : Int32) (k_a0 : ClassId) (h0 : Heap) (n0 : Nat) (Z0 : n0 ≤ h0.size) (V_a0 : Arv Z h0 a0 k_a0 .byte (8 : Int32) [(.int x0_a0), (.int x1_a0), (.int x2_a0), (.int x3_a0), (.int x4_a0), (.int x5_a0), (.int x6_a0), (.int x7_a0)] (.int 0)) :
    MetFree l (⟨"com/example/tenon/tenon/Utf8", "cut", "([BII)I"⟩ : MethodName) (head1 (Jvm.Cond.code (⟨"com/example/tenon/tenon/Utf8", "cut", "([BII)I"⟩ : MethodName) prog_110_method_3_code 5 (some .int) :: ws) ({ frames := 0, cells := 0, slots := 0, locals := 0 } : Room)) (fun a U => a = #[(.ref a0), (.int (4 : Int32)), (.int p2)] ∧ Z.Warmed39 U.vm ∧ U.heap = h0) (fun _ _ _ _ _ => True) (fun _ U o U' => ∃ v L, o = .returned v ∧ Q1_4 Z a0 p2 x0_a0 x1_a0 x2_a0 x3_a0 x4_a0 x5_a0 x6_a0 x7_a0 k_a0 h0 n0 v U'.heap L ∧ FrameEnd U o U' L ({ frames := 0, cells := 0, slots := 0, locals := 0 } : Room).cells ({ frames := 0, cells := 0, slots := 0, locals := 0 } : Room).slots) := by
  refine MetFree.of_bodySF (plainFor_of_name pn1) hisR ?_
  intro p e s m args below meth c s₁ Bd hml0 hP hK
  obtain ⟨rfl, hZ, hh⟩ := hP
  have hx := Bd.exec
  have hby := Bd.bytes
  have hml : c.maxLocals = 5 := hml0
  have hown : s.vm.findClass "com/example/tenon/tenon/Utf8" = some m.cls := findClass_of_methodNamed Bd.named
  have hnm := (name_of_methodNamed Bd.named Bd.method).1
  have X0 : Stand p l e ({ frames := 0, cells := 0, slots := 0, locals := 0 } : Room) s m #[(.ref a0), (.int (4 : Int32)), (.int p2)] below meth c s₁ [] 0 0 := Stand.of_body Bd
  have e0 : s₁.heap = h0 := by rw [← hh, Bd.state]; rfl
  have N0 := Fr.nil n0
  have hlk : meth.locks = false := by first | exact BodyLoose.notSynchronized Bd | exact Body.notSynchronized Bd
  have pre0 : ∀ t, Steps p.tables e below (s₁.setTop (mkF m 0 #[.val (.ref a0), .val (.int (4 : Int32)), .val (.int p2), .unset, .unset] [])) t → Steps p.tables e below (s₁.setTop (entryFrame m #[(.ref a0), (.int (4 : Int32)), (.int p2)] 5)) t := fun t k => castTop (ef1_4 m a0 p2) k
  have pre1 : ∀ t, Steps p.tables e below (s₁.setTop (mkF m 13 #[.val (.ref a0), .val (.int (4 : Int32)), .val (.int p2), .val (.int (4 : Int32)), .val (.int (0 : Int32))] [(.int p2), (.int (4 : Int32))])) t → Steps p.tables e below (s₁.setTop (entryFrame m #[(.ref a0), (.int (4 : Int32)), (.int p2)] 5)) t := fun t k => pre0 t (by
    show Steps p.tables e below (s₁.setTop (mkF m 0 #[.val (.ref a0), .val (.int (4 : Int32)), .val (.int p2), .unset, .unset] [])) _
    refine XS.iloadN X0.here hx rfl (hb hby d1_0) rfl ?_
    show Steps p.tables e below (s₁.setTop (mkF m 1 #[.val (.ref a0), .val (.int (4 : Int32)), .val (.int p2), .unset, .unset] [(.int (4 : Int32))])) _
    refine XS.istoreN X0.here hx rfl (hb hby d1_1) rfl (l' := #[.val (.ref a0), .val (.int (4 : Int32)), .val (.int p2), .val (.int (4 : Int32)), .unset]) rfl ?_
    show Steps p.tables e below (s₁.setTop (mkF m 2 #[.val (.ref a0), .val (.int (4 : Int32)), .val (.int p2), .val (.int (4 : Int32)), .unset] [])) _
    refine XS.iconst X0.here hx rfl (hb hby d1_2) ?_
    show Steps p.tables e below (s₁.setTop (mkF m 3 #[.val (.ref a0), .val (.int (4 : Int32)), .val (.int p2), .val (.int (4 : Int32)), .unset] [(.int (0 : Int32))])) _
    refine XS.istore X0.here hx rfl (hb hby d1_3) rfl (l' := #[.val (.ref a0), .val (.int (4 : Int32)), .val (.int p2), .val (.int (4 : Int32)), .val (.int (0 : Int32))]) rfl ?_
    show Steps p.tables e below (s₁.setTop (mkF m 5 #[.val (.ref a0), .val (.int (4 : Int32)), .val (.int p2), .val (.int (4 : Int32)), .val (.int (0 : Int32))] [])) _
    refine XS.iload X0.here hx rfl (hb hby d1_5) rfl ?_
    show Steps p.tables e below (s₁.setTop (mkF m 7 #[.val (.ref a0), .val (.int (4 : Int32)), .val (.int p2), .val (.int (4 : Int32)), .val (.int (0 : Int32))] [(.int (0 : Int32))])) _
    refine XS.iconst X0.here hx rfl (hb hby d1_7) ?_
    show Steps p.tables e below (s₁.setTop (mkF m 8 #[.val (.ref a0), .val (.int (4 : Int32)), .val (.int p2), .val (.int (4 : Int32)), .val (.int (0 : Int32))] [(.int (3 : Int32)), (.int (0 : Int32))])) _
    refine XS.icmpNo X0.here hx rfl (hb hby d1_8) rfl (tlt (by decide : (0 : Int32) < (3 : Int32))).2.1 ?_
    show Steps p.tables e below (s₁.setTop (mkF m 11 #[.val (.ref a0), .val (.int (4 : Int32)), .val (.int p2), .val (.int (4 : Int32)), .val (.int (0 : Int32))] [])) _
    refine XS.iloadN X0.here hx rfl (hb hby d1_11) rfl ?_
    show Steps p.tables e below (s₁.setTop (mkF m 12 #[.val (.ref a0), .val (.int (4 : Int32)), .val (.int p2), .val (.int (4 : Int32)), .val (.int (0 : Int32))] [(.int (4 : Int32))])) _
    refine XS.iloadN X0.here hx rfl (hb hby d1_12) rfl ?_
    exact k)
  by_cases hc13_2 : (4 : Int32) < p2
  · obtain ⟨cl3, Ar3, q3, S3, M3, H3, G3⟩ := id V_a0
    have hin3 : ¬ ((4 : Int32) < 0 ∨ cl3.slots.size ≤ ((4 : Int32)).toNatClampNeg) := inb_of S3 ⟨by decide, by decide⟩
    have hat3 : cl3.slots[((4 : Int32)).toNatClampNeg]? = some (.int x4_a0) := H3.at hin3 rfl
    have pre4 : ∀ t, Steps p.tables e below (s₁.setTop (mkF m 26 #[.val (.ref a0), .val (.int (4 : Int32)), .val (.int p2), .val (.int (4 : Int32)), .val (.int (0 : Int32))] [(.int (128 : Int32)), (.int (x4_a0 &&& (192 : Int32)))])) t → Steps p.tables e below (s₁.setTop (entryFrame m #[(.ref a0), (.int (4 : Int32)), (.int p2)] 5)) t := fun t k => pre1 t (by
      show Steps p.tables e below (s₁.setTop (mkF m 13 #[.val (.ref a0), .val (.int (4 : Int32)), .val (.int p2), .val (.int (4 : Int32)), .val (.int (0 : Int32))] [(.int p2), (.int (4 : Int32))])) _
      refine XS.icmpNo X0.here hx rfl (hb hby d1_13) rfl (tlt hc13_2).2.1 ?_
      show Steps p.tables e below (s₁.setTop (mkF m 16 #[.val (.ref a0), .val (.int (4 : Int32)), .val (.int p2), .val (.int (4 : Int32)), .val (.int (0 : Int32))] [])) _
      refine XS.aloadN X0.here hx rfl (hb hby d1_16) rfl rfl ?_
      show Steps p.tables e below (s₁.setTop (mkF m 17 #[.val (.ref a0), .val (.int (4 : Int32)), .val (.int p2), .val (.int (4 : Int32)), .val (.int (0 : Int32))] [(.ref a0)])) _
      refine XS.iloadN X0.here hx rfl (hb hby d1_17) rfl ?_
      show Steps p.tables e below (s₁.setTop (mkF m 18 #[.val (.ref a0), .val (.int (4 : Int32)), .val (.int p2), .val (.int (4 : Int32)), .val (.int (0 : Int32))] [(.int (4 : Int32)), (.ref a0)])) _
      refine X0.baloadBytes hx (j := (4 : Int32)) (v := (.int x4_a0)) (by rw [e0]; exact Ar3.1) (State.isArrayOf_alike hZ.alike Ar3.2.1) Ar3.2.2 hin3 hat3 (g := (mkF m 18 #[.val (.ref a0), .val (.int (4 : Int32)), .val (.int p2), .val (.int (4 : Int32)), .val (.int (0 : Int32))] [(.int (4 : Int32)), (.ref a0)])) rfl rfl (hb hby d1_18) _ ?_
      show Steps p.tables e below (s₁.setTop (mkF m 19 #[.val (.ref a0), .val (.int (4 : Int32)), .val (.int p2), .val (.int (4 : Int32)), .val (.int (0 : Int32))] [(.int x4_a0)])) _
      refine XS.sipush X0.here hx rfl (hb hby d1_19) ?_
      show Steps p.tables e below (s₁.setTop (mkF m 22 #[.val (.ref a0), .val (.int (4 : Int32)), .val (.int p2), .val (.int (4 : Int32)), .val (.int (0 : Int32))] [(.int (192 : Int32)), (.int x4_a0)])) _
      refine XS.iand X0.here hx rfl (hb hby d1_22) rfl ?_
      show Steps p.tables e below (s₁.setTop (mkF m 23 #[.val (.ref a0), .val (.int (4 : Int32)), .val (.int p2), .val (.int (4 : Int32)), .val (.int (0 : Int32))] [(.int (x4_a0 &&& (192 : Int32)))])) _
      refine XS.sipush X0.here hx rfl (hb hby d1_23) ?_
      exact k)
    by_cases hc26_5 : (x4_a0 &&& (192 : Int32)) = (128 : Int32)
    · obtain ⟨cl6, Ar6, q6, S6, M6, H6, G6⟩ := id V_a0
      have hin6 : ¬ ((3 : Int32) < 0 ∨ cl6.slots.size ≤ ((3 : Int32)).toNatClampNeg) := inb_of S6 ⟨by decide, by decide⟩
      have hat6 : cl6.slots[((3 : Int32)).toNatClampNeg]? = some (.int x3_a0) := H6.at hin6 rfl
      have pre7 : ∀ t, Steps p.tables e below (s₁.setTop (mkF m 26 #[.val (.ref a0), .val (.int (4 : Int32)), .val (.int p2), .val (.int (3 : Int32)), .val (.int (1 : Int32))] [(.int (128 : Int32)), (.int (x3_a0 &&& (192 : Int32)))])) t → Steps p.tables e below (s₁.setTop (entryFrame m #[(.ref a0), (.int (4 : Int32)), (.int p2)] 5)) t := fun t k => pre4 t (by
        show Steps p.tables e below (s₁.setTop (mkF m 26 #[.val (.ref a0), .val (.int (4 : Int32)), .val (.int p2), .val (.int (4 : Int32)), .val (.int (0 : Int32))] [(.int (128 : Int32)), (.int (x4_a0 &&& (192 : Int32)))])) _
        refine XS.icmpNo X0.here hx rfl (hb hby d1_26) rfl (teq hc26_5).2 ?_
        show Steps p.tables e below (s₁.setTop (mkF m 29 #[.val (.ref a0), .val (.int (4 : Int32)), .val (.int p2), .val (.int (4 : Int32)), .val (.int (0 : Int32))] [])) _
        refine XS.iinc X0.here hx rfl (hb hby d1_29) rfl (l' := #[.val (.ref a0), .val (.int (4 : Int32)), .val (.int p2), .val (.int ((4 : Int32) + (-1 : Int32))), .val (.int (0 : Int32))]) rfl ?_
        show Steps p.tables e below (s₁.setTop (mkF m 32 #[.val (.ref a0), .val (.int (4 : Int32)), .val (.int p2), .val (.int (3 : Int32)), .val (.int (0 : Int32))] [])) _
        refine XS.iinc X0.here hx rfl (hb hby d1_32) rfl (l' := #[.val (.ref a0), .val (.int (4 : Int32)), .val (.int p2), .val (.int (3 : Int32)), .val (.int ((0 : Int32) + (1 : Int32)))]) rfl ?_
        show Steps p.tables e below (s₁.setTop (mkF m 35 #[.val (.ref a0), .val (.int (4 : Int32)), .val (.int p2), .val (.int (3 : Int32)), .val (.int (1 : Int32))] [])) _
        refine XS.goto X0.here hx rfl (pc0 := 35) (pc' := 5) rfl (hb hby d1_35) (by decide) (by decide) ?_
        show Steps p.tables e below (s₁.setTop (mkF m 5 #[.val (.ref a0), .val (.int (4 : Int32)), .val (.int p2), .val (.int (3 : Int32)), .val (.int (1 : Int32))] [])) _
        refine XS.iload X0.here hx rfl (hb hby d1_5) rfl ?_
        show Steps p.tables e below (s₁.setTop (mkF m 7 #[.val (.ref a0), .val (.int (4 : Int32)), .val (.int p2), .val (.int (3 : Int32)), .val (.int (1 : Int32))] [(.int (1 : Int32))])) _
        refine XS.iconst X0.here hx rfl (hb hby d1_7) ?_
        show Steps p.tables e below (s₁.setTop (mkF m 8 #[.val (.ref a0), .val (.int (4 : Int32)), .val (.int p2), .val (.int (3 : Int32)), .val (.int (1 : Int32))] [(.int (3 : Int32)), (.int (1 : Int32))])) _
        refine XS.icmpNo X0.here hx rfl (hb hby d1_8) rfl (tlt (by decide : (1 : Int32) < (3 : Int32))).2.1 ?_
        show Steps p.tables e below (s₁.setTop (mkF m 11 #[.val (.ref a0), .val (.int (4 : Int32)), .val (.int p2), .val (.int (3 : Int32)), .val (.int (1 : Int32))] [])) _
        refine XS.iloadN X0.here hx rfl (hb hby d1_11) rfl ?_
        show Steps p.tables e below (s₁.setTop (mkF m 12 #[.val (.ref a0), .val (.int (4 : Int32)), .val (.int p2), .val (.int (3 : Int32)), .val (.int (1 : Int32))] [(.int (3 : Int32))])) _
        refine XS.iloadN X0.here hx rfl (hb hby d1_12) rfl ?_
        show Steps p.tables e below (s₁.setTop (mkF m 13 #[.val (.ref a0), .val (.int (4 : Int32)), .val (.int p2), .val (.int (3 : Int32)), .val (.int (1 : Int32))] [(.int p2), (.int (3 : Int32))])) _
        refine XS.icmpNo X0.here hx rfl (hb hby d1_13) rfl (tlt (own_lxT (own_lo2 hc13_2) (by decide))).2.1 ?_
        show Steps p.tables e below (s₁.setTop (mkF m 16 #[.val (.ref a0), .val (.int (4 : Int32)), .val (.int p2), .val (.int (3 : Int32)), .val (.int (1 : Int32))] [])) _
        refine XS.aloadN X0.here hx rfl (hb hby d1_16) rfl rfl ?_
        show Steps p.tables e below (s₁.setTop (mkF m 17 #[.val (.ref a0), .val (.int (4 : Int32)), .val (.int p2), .val (.int (3 : Int32)), .val (.int (1 : Int32))] [(.ref a0)])) _
        refine XS.iloadN X0.here hx rfl (hb hby d1_17) rfl ?_
        show Steps p.tables e below (s₁.setTop (mkF m 18 #[.val (.ref a0), .val (.int (4 : Int32)), .val (.int p2), .val (.int (3 : Int32)), .val (.int (1 : Int32))] [(.int (3 : Int32)), (.ref a0)])) _
        refine X0.baloadBytes hx (j := (3 : Int32)) (v := (.int x3_a0)) (by rw [e0]; exact Ar6.1) (State.isArrayOf_alike hZ.alike Ar6.2.1) Ar6.2.2 hin6 hat6 (g := (mkF m 18 #[.val (.ref a0), .val (.int (4 : Int32)), .val (.int p2), .val (.int (3 : Int32)), .val (.int (1 : Int32))] [(.int (3 : Int32)), (.ref a0)])) rfl rfl (hb hby d1_18) _ ?_
        show Steps p.tables e below (s₁.setTop (mkF m 19 #[.val (.ref a0), .val (.int (4 : Int32)), .val (.int p2), .val (.int (3 : Int32)), .val (.int (1 : Int32))] [(.int x3_a0)])) _
        refine XS.sipush X0.here hx rfl (hb hby d1_19) ?_
        show Steps p.tables e below (s₁.setTop (mkF m 22 #[.val (.ref a0), .val (.int (4 : Int32)), .val (.int p2), .val (.int (3 : Int32)), .val (.int (1 : Int32))] [(.int (192 : Int32)), (.int x3_a0)])) _
        refine XS.iand X0.here hx rfl (hb hby d1_22) rfl ?_
        show Steps p.tables e below (s₁.setTop (mkF m 23 #[.val (.ref a0), .val (.int (4 : Int32)), .val (.int p2), .val (.int (3 : Int32)), .val (.int (1 : Int32))] [(.int (x3_a0 &&& (192 : Int32)))])) _
        refine XS.sipush X0.here hx rfl (hb hby d1_23) ?_
        exact k)
      by_cases hc26_8 : (x3_a0 &&& (192 : Int32)) = (128 : Int32)
      · obtain ⟨cl9, Ar9, q9, S9, M9, H9, G9⟩ := id V_a0
        have hin9 : ¬ ((2 : Int32) < 0 ∨ cl9.slots.size ≤ ((2 : Int32)).toNatClampNeg) := inb_of S9 ⟨by decide, by decide⟩
        have hat9 : cl9.slots[((2 : Int32)).toNatClampNeg]? = some (.int x2_a0) := H9.at hin9 rfl
        have pre10 : ∀ t, Steps p.tables e below (s₁.setTop (mkF m 26 #[.val (.ref a0), .val (.int (4 : Int32)), .val (.int p2), .val (.int (2 : Int32)), .val (.int (2 : Int32))] [(.int (128 : Int32)), (.int (x2_a0 &&& (192 : Int32)))])) t → Steps p.tables e below (s₁.setTop (entryFrame m #[(.ref a0), (.int (4 : Int32)), (.int p2)] 5)) t := fun t k => pre7 t (by
          show Steps p.tables e below (s₁.setTop (mkF m 26 #[.val (.ref a0), .val (.int (4 : Int32)), .val (.int p2), .val (.int (3 : Int32)), .val (.int (1 : Int32))] [(.int (128 : Int32)), (.int (x3_a0 &&& (192 : Int32)))])) _
          refine XS.icmpNo X0.here hx rfl (hb hby d1_26) rfl (teq hc26_8).2 ?_
          show Steps p.tables e below (s₁.setTop (mkF m 29 #[.val (.ref a0), .val (.int (4 : Int32)), .val (.int p2), .val (.int (3 : Int32)), .val (.int (1 : Int32))] [])) _
          refine XS.iinc X0.here hx rfl (hb hby d1_29) rfl (l' := #[.val (.ref a0), .val (.int (4 : Int32)), .val (.int p2), .val (.int ((3 : Int32) + (-1 : Int32))), .val (.int (1 : Int32))]) rfl ?_
          show Steps p.tables e below (s₁.setTop (mkF m 32 #[.val (.ref a0), .val (.int (4 : Int32)), .val (.int p2), .val (.int (2 : Int32)), .val (.int (1 : Int32))] [])) _
          refine XS.iinc X0.here hx rfl (hb hby d1_32) rfl (l' := #[.val (.ref a0), .val (.int (4 : Int32)), .val (.int p2), .val (.int (2 : Int32)), .val (.int ((1 : Int32) + (1 : Int32)))]) rfl ?_
          show Steps p.tables e below (s₁.setTop (mkF m 35 #[.val (.ref a0), .val (.int (4 : Int32)), .val (.int p2), .val (.int (2 : Int32)), .val (.int (2 : Int32))] [])) _
          refine XS.goto X0.here hx rfl (pc0 := 35) (pc' := 5) rfl (hb hby d1_35) (by decide) (by decide) ?_
          show Steps p.tables e below (s₁.setTop (mkF m 5 #[.val (.ref a0), .val (.int (4 : Int32)), .val (.int p2), .val (.int (2 : Int32)), .val (.int (2 : Int32))] [])) _
          refine XS.iload X0.here hx rfl (hb hby d1_5) rfl ?_
          show Steps p.tables e below (s₁.setTop (mkF m 7 #[.val (.ref a0), .val (.int (4 : Int32)), .val (.int p2), .val (.int (2 : Int32)), .val (.int (2 : Int32))] [(.int (2 : Int32))])) _
          refine XS.iconst X0.here hx rfl (hb hby d1_7) ?_
          show Steps p.tables e below (s₁.setTop (mkF m 8 #[.val (.ref a0), .val (.int (4 : Int32)), .val (.int p2), .val (.int (2 : Int32)), .val (.int (2 : Int32))] [(.int (3 : Int32)), (.int (2 : Int32))])) _
          refine XS.icmpNo X0.here hx rfl (hb hby d1_8) rfl (tlt (by decide : (2 : Int32) < (3 : Int32))).2.1 ?_
          show Steps p.tables e below (s₁.setTop (mkF m 11 #[.val (.ref a0), .val (.int (4 : Int32)), .val (.int p2), .val (.int (2 : Int32)), .val (.int (2 : Int32))] [])) _
          refine XS.iloadN X0.here hx rfl (hb hby d1_11) rfl ?_
          show Steps p.tables e below (s₁.setTop (mkF m 12 #[.val (.ref a0), .val (.int (4 : Int32)), .val (.int p2), .val (.int (2 : Int32)), .val (.int (2 : Int32))] [(.int (2 : Int32))])) _
          refine XS.iloadN X0.here hx rfl (hb hby d1_12) rfl ?_
          show Steps p.tables e below (s₁.setTop (mkF m 13 #[.val (.ref a0), .val (.int (4 : Int32)), .val (.int p2), .val (.int (2 : Int32)), .val (.int (2 : Int32))] [(.int p2), (.int (2 : Int32))])) _
          refine XS.icmpNo X0.here hx rfl (hb hby d1_13) rfl (tlt (own_lxT (own_lo2 hc13_2) (by decide))).2.1 ?_
          show Steps p.tables e below (s₁.setTop (mkF m 16 #[.val (.ref a0), .val (.int (4 : Int32)), .val (.int p2), .val (.int (2 : Int32)), .val (.int (2 : Int32))] [])) _
          refine XS.aloadN X0.here hx rfl (hb hby d1_16) rfl rfl ?_
          show Steps p.tables e below (s₁.setTop (mkF m 17 #[.val (.ref a0), .val (.int (4 : Int32)), .val (.int p2), .val (.int (2 : Int32)), .val (.int (2 : Int32))] [(.ref a0)])) _
          refine XS.iloadN X0.here hx rfl (hb hby d1_17) rfl ?_
          show Steps p.tables e below (s₁.setTop (mkF m 18 #[.val (.ref a0), .val (.int (4 : Int32)), .val (.int p2), .val (.int (2 : Int32)), .val (.int (2 : Int32))] [(.int (2 : Int32)), (.ref a0)])) _
          refine X0.baloadBytes hx (j := (2 : Int32)) (v := (.int x2_a0)) (by rw [e0]; exact Ar9.1) (State.isArrayOf_alike hZ.alike Ar9.2.1) Ar9.2.2 hin9 hat9 (g := (mkF m 18 #[.val (.ref a0), .val (.int (4 : Int32)), .val (.int p2), .val (.int (2 : Int32)), .val (.int (2 : Int32))] [(.int (2 : Int32)), (.ref a0)])) rfl rfl (hb hby d1_18) _ ?_
          show Steps p.tables e below (s₁.setTop (mkF m 19 #[.val (.ref a0), .val (.int (4 : Int32)), .val (.int p2), .val (.int (2 : Int32)), .val (.int (2 : Int32))] [(.int x2_a0)])) _
          refine XS.sipush X0.here hx rfl (hb hby d1_19) ?_
          show Steps p.tables e below (s₁.setTop (mkF m 22 #[.val (.ref a0), .val (.int (4 : Int32)), .val (.int p2), .val (.int (2 : Int32)), .val (.int (2 : Int32))] [(.int (192 : Int32)), (.int x2_a0)])) _
          refine XS.iand X0.here hx rfl (hb hby d1_22) rfl ?_
          show Steps p.tables e below (s₁.setTop (mkF m 23 #[.val (.ref a0), .val (.int (4 : Int32)), .val (.int p2), .val (.int (2 : Int32)), .val (.int (2 : Int32))] [(.int (x2_a0 &&& (192 : Int32)))])) _
          refine XS.sipush X0.here hx rfl (hb hby d1_23) ?_
          exact k)
        by_cases hc26_11 : (x2_a0 &&& (192 : Int32)) = (128 : Int32)
        · have pre12 : ∀ t, Steps p.tables e below (s₁.setTop (mkF m 39 #[.val (.ref a0), .val (.int (4 : Int32)), .val (.int p2), .val (.int (1 : Int32)), .val (.int (3 : Int32))] [(.int (1 : Int32))])) t → Steps p.tables e below (s₁.setTop (entryFrame m #[(.ref a0), (.int (4 : Int32)), (.int p2)] 5)) t := fun t k => pre10 t (by
            show Steps p.tables e below (s₁.setTop (mkF m 26 #[.val (.ref a0), .val (.int (4 : Int32)), .val (.int p2), .val (.int (2 : Int32)), .val (.int (2 : Int32))] [(.int (128 : Int32)), (.int (x2_a0 &&& (192 : Int32)))])) _
            refine XS.icmpNo X0.here hx rfl (hb hby d1_26) rfl (teq hc26_11).2 ?_
            show Steps p.tables e below (s₁.setTop (mkF m 29 #[.val (.ref a0), .val (.int (4 : Int32)), .val (.int p2), .val (.int (2 : Int32)), .val (.int (2 : Int32))] [])) _
            refine XS.iinc X0.here hx rfl (hb hby d1_29) rfl (l' := #[.val (.ref a0), .val (.int (4 : Int32)), .val (.int p2), .val (.int ((2 : Int32) + (-1 : Int32))), .val (.int (2 : Int32))]) rfl ?_
            show Steps p.tables e below (s₁.setTop (mkF m 32 #[.val (.ref a0), .val (.int (4 : Int32)), .val (.int p2), .val (.int (1 : Int32)), .val (.int (2 : Int32))] [])) _
            refine XS.iinc X0.here hx rfl (hb hby d1_32) rfl (l' := #[.val (.ref a0), .val (.int (4 : Int32)), .val (.int p2), .val (.int (1 : Int32)), .val (.int ((2 : Int32) + (1 : Int32)))]) rfl ?_
            show Steps p.tables e below (s₁.setTop (mkF m 35 #[.val (.ref a0), .val (.int (4 : Int32)), .val (.int p2), .val (.int (1 : Int32)), .val (.int (3 : Int32))] [])) _
            refine XS.goto X0.here hx rfl (pc0 := 35) (pc' := 5) rfl (hb hby d1_35) (by decide) (by decide) ?_
            show Steps p.tables e below (s₁.setTop (mkF m 5 #[.val (.ref a0), .val (.int (4 : Int32)), .val (.int p2), .val (.int (1 : Int32)), .val (.int (3 : Int32))] [])) _
            refine XS.iload X0.here hx rfl (hb hby d1_5) rfl ?_
            show Steps p.tables e below (s₁.setTop (mkF m 7 #[.val (.ref a0), .val (.int (4 : Int32)), .val (.int p2), .val (.int (1 : Int32)), .val (.int (3 : Int32))] [(.int (3 : Int32))])) _
            refine XS.iconst X0.here hx rfl (hb hby d1_7) ?_
            show Steps p.tables e below (s₁.setTop (mkF m 8 #[.val (.ref a0), .val (.int (4 : Int32)), .val (.int p2), .val (.int (1 : Int32)), .val (.int (3 : Int32))] [(.int (3 : Int32)), (.int (3 : Int32))])) _
            refine XS.icmpYes X0.here hx rfl (pc0 := 8) (pc' := 38) rfl (hb hby d1_8) rfl (flt (by decide : ¬ ((3 : Int32) < (3 : Int32)))).2.1 (by decide) (by decide) ?_
            show Steps p.tables e below (s₁.setTop (mkF m 38 #[.val (.ref a0), .val (.int (4 : Int32)), .val (.int p2), .val (.int (1 : Int32)), .val (.int (3 : Int32))] [])) _
            refine XS.iloadN X0.here hx rfl (hb hby d1_38) rfl ?_
            exact k)
          obtain ⟨fs, hr, hrun, hended, hW, hsame⟩ := X0.leave (v := some (.int (1 : Int32))) (fun h => by rw [Bd.returns] at h; cases h) hlk
          have hF : (F1_4 p2 x0_a0 x1_a0 x2_a0 x3_a0 x4_a0 x5_a0 x6_a0 x7_a0) = (1 : Int32) := by unfold F1_4; rw [if_pos hc13_2, if_pos hc26_5, if_pos hc26_8, if_pos hc26_11]
          exact ⟨_, _, pre12 _ (retI X0 hx Bd.returns (hb hby d1_39) hr), hrun, hended, _, _, rfl, ⟨by rw [hF], N0, e0⟩, ⟨_, rfl⟩, hW, hsame.mono (by decide) (by decide)⟩
        have pre13 : ∀ t, Steps p.tables e below (s₁.setTop (mkF m 39 #[.val (.ref a0), .val (.int (4 : Int32)), .val (.int p2), .val (.int (2 : Int32)), .val (.int (2 : Int32))] [(.int (2 : Int32))])) t → Steps p.tables e below (s₁.setTop (entryFrame m #[(.ref a0), (.int (4 : Int32)), (.int p2)] 5)) t := fun t k => pre10 t (by
          show Steps p.tables e below (s₁.setTop (mkF m 26 #[.val (.ref a0), .val (.int (4 : Int32)), .val (.int p2), .val (.int (2 : Int32)), .val (.int (2 : Int32))] [(.int (128 : Int32)), (.int (x2_a0 &&& (192 : Int32)))])) _
          refine XS.icmpYes X0.here hx rfl (pc0 := 26) (pc' := 38) rfl (hb hby d1_26) rfl (feq hc26_11).2 (by decide) (by decide) ?_
          show Steps p.tables e below (s₁.setTop (mkF m 38 #[.val (.ref a0), .val (.int (4 : Int32)), .val (.int p2), .val (.int (2 : Int32)), .val (.int (2 : Int32))] [])) _
          refine XS.iloadN X0.here hx rfl (hb hby d1_38) rfl ?_
          exact k)
        obtain ⟨fs, hr, hrun, hended, hW, hsame⟩ := X0.leave (v := some (.int (2 : Int32))) (fun h => by rw [Bd.returns] at h; cases h) hlk
        have hF : (F1_4 p2 x0_a0 x1_a0 x2_a0 x3_a0 x4_a0 x5_a0 x6_a0 x7_a0) = (2 : Int32) := by unfold F1_4; rw [if_pos hc13_2, if_pos hc26_5, if_pos hc26_8, if_neg hc26_11]
        exact ⟨_, _, pre13 _ (retI X0 hx Bd.returns (hb hby d1_39) hr), hrun, hended, _, _, rfl, ⟨by rw [hF], N0, e0⟩, ⟨_, rfl⟩, hW, hsame.mono (by decide) (by decide)⟩
      have pre14 : ∀ t, Steps p.tables e below (s₁.setTop (mkF m 39 #[.val (.ref a0), .val (.int (4 : Int32)), .val (.int p2), .val (.int (3 : Int32)), .val (.int (1 : Int32))] [(.int (3 : Int32))])) t → Steps p.tables e below (s₁.setTop (entryFrame m #[(.ref a0), (.int (4 : Int32)), (.int p2)] 5)) t := fun t k => pre7 t (by
        show Steps p.tables e below (s₁.setTop (mkF m 26 #[.val (.ref a0), .val (.int (4 : Int32)), .val (.int p2), .val (.int (3 : Int32)), .val (.int (1 : Int32))] [(.int (128 : Int32)), (.int (x3_a0 &&& (192 : Int32)))])) _
        refine XS.icmpYes X0.here hx rfl (pc0 := 26) (pc' := 38) rfl (hb hby d1_26) rfl (feq hc26_8).2 (by decide) (by decide) ?_
        show Steps p.tables e below (s₁.setTop (mkF m 38 #[.val (.ref a0), .val (.int (4 : Int32)), .val (.int p2), .val (.int (3 : Int32)), .val (.int (1 : Int32))] [])) _
        refine XS.iloadN X0.here hx rfl (hb hby d1_38) rfl ?_
        exact k)
      obtain ⟨fs, hr, hrun, hended, hW, hsame⟩ := X0.leave (v := some (.int (3 : Int32))) (fun h => by rw [Bd.returns] at h; cases h) hlk
      have hF : (F1_4 p2 x0_a0 x1_a0 x2_a0 x3_a0 x4_a0 x5_a0 x6_a0 x7_a0) = (3 : Int32) := by unfold F1_4; rw [if_pos hc13_2, if_pos hc26_5, if_neg hc26_8]
      exact ⟨_, _, pre14 _ (retI X0 hx Bd.returns (hb hby d1_39) hr), hrun, hended, _, _, rfl, ⟨by rw [hF], N0, e0⟩, ⟨_, rfl⟩, hW, hsame.mono (by decide) (by decide)⟩
    have pre15 : ∀ t, Steps p.tables e below (s₁.setTop (mkF m 39 #[.val (.ref a0), .val (.int (4 : Int32)), .val (.int p2), .val (.int (4 : Int32)), .val (.int (0 : Int32))] [(.int (4 : Int32))])) t → Steps p.tables e below (s₁.setTop (entryFrame m #[(.ref a0), (.int (4 : Int32)), (.int p2)] 5)) t := fun t k => pre4 t (by
      show Steps p.tables e below (s₁.setTop (mkF m 26 #[.val (.ref a0), .val (.int (4 : Int32)), .val (.int p2), .val (.int (4 : Int32)), .val (.int (0 : Int32))] [(.int (128 : Int32)), (.int (x4_a0 &&& (192 : Int32)))])) _
      refine XS.icmpYes X0.here hx rfl (pc0 := 26) (pc' := 38) rfl (hb hby d1_26) rfl (feq hc26_5).2 (by decide) (by decide) ?_
      show Steps p.tables e below (s₁.setTop (mkF m 38 #[.val (.ref a0), .val (.int (4 : Int32)), .val (.int p2), .val (.int (4 : Int32)), .val (.int (0 : Int32))] [])) _
      refine XS.iloadN X0.here hx rfl (hb hby d1_38) rfl ?_
      exact k)
    obtain ⟨fs, hr, hrun, hended, hW, hsame⟩ := X0.leave (v := some (.int (4 : Int32))) (fun h => by rw [Bd.returns] at h; cases h) hlk
    have hF : (F1_4 p2 x0_a0 x1_a0 x2_a0 x3_a0 x4_a0 x5_a0 x6_a0 x7_a0) = (4 : Int32) := by unfold F1_4; rw [if_pos hc13_2, if_neg hc26_5]
    exact ⟨_, _, pre15 _ (retI X0 hx Bd.returns (hb hby d1_39) hr), hrun, hended, _, _, rfl, ⟨by rw [hF], N0, e0⟩, ⟨_, rfl⟩, hW, hsame.mono (by decide) (by decide)⟩
  have pre16 : ∀ t, Steps p.tables e below (s₁.setTop (mkF m 39 #[.val (.ref a0), .val (.int (4 : Int32)), .val (.int p2), .val (.int (4 : Int32)), .val (.int (0 : Int32))] [(.int (4 : Int32))])) t → Steps p.tables e below (s₁.setTop (entryFrame m #[(.ref a0), (.int (4 : Int32)), (.int p2)] 5)) t := fun t k => pre1 t (by
    show Steps p.tables e below (s₁.setTop (mkF m 13 #[.val (.ref a0), .val (.int (4 : Int32)), .val (.int p2), .val (.int (4 : Int32)), .val (.int (0 : Int32))] [(.int p2), (.int (4 : Int32))])) _
    refine XS.icmpYes X0.here hx rfl (pc0 := 13) (pc' := 38) rfl (hb hby d1_13) rfl (flt hc13_2).2.1 (by decide) (by decide) ?_
    show Steps p.tables e below (s₁.setTop (mkF m 38 #[.val (.ref a0), .val (.int (4 : Int32)), .val (.int p2), .val (.int (4 : Int32)), .val (.int (0 : Int32))] [])) _
    refine XS.iloadN X0.here hx rfl (hb hby d1_38) rfl ?_
    exact k)
  obtain ⟨fs, hr, hrun, hended, hW, hsame⟩ := X0.leave (v := some (.int (4 : Int32))) (fun h => by rw [Bd.returns] at h; cases h) hlk
  have hF : (F1_4 p2 x0_a0 x1_a0 x2_a0 x3_a0 x4_a0 x5_a0 x6_a0 x7_a0) = (4 : Int32) := by unfold F1_4; rw [if_neg hc13_2]
  exact ⟨_, _, pre16 _ (retI X0 hx Bd.returns (hb hby d1_39) hr), hrun, hended, _, _, rfl, ⟨by rw [hF], N0, e0⟩, ⟨_, rfl⟩, hW, hsame.mono (by decide) (by decide)⟩
def F1_5 (p2 : Int32) (x0_a0 : Int32) (x1_a0 : Int32) (x2_a0 : Int32) (x3_a0 : Int32) (x4_a0 : Int32) (x5_a0 : Int32) (x6_a0 : Int32) (x7_a0 : Int32) : Int32 := (if (5 : Int32) < p2 then (if (x5_a0 &&& (192 : Int32)) = (128 : Int32) then (if (x4_a0 &&& (192 : Int32)) = (128 : Int32) then (if (x3_a0 &&& (192 : Int32)) = (128 : Int32) then (2 : Int32) else (3 : Int32)) else (4 : Int32)) else (5 : Int32)) else (5 : Int32))
theorem ef1_5 (m : MethodId) (x0 : Addr) (x2 : Int32) : entryFrame m #[(.ref x0), (.int (5 : Int32)), (.int x2)] 5 = mkF m 0 #[.val (.ref x0), .val (.int (5 : Int32)), .val (.int x2), .unset, .unset] [] := by first | (simp [entryFrame, mkF, argsToLocals, Value.category]; done) | rfl
def Q1_5 (Z : State) (a0 : Addr) (p2 : Int32) (x0_a0 : Int32) (x1_a0 : Int32) (x2_a0 : Int32) (x3_a0 : Int32) (x4_a0 : Int32) (x5_a0 : Int32) (x6_a0 : Int32) (x7_a0 : Int32) (k_a0 : ClassId) (h0 : Heap) (n0 : Nat) (v : Option Value) (h : Heap) (L : List Loc) : Prop := v = some (.int (F1_5 p2 x0_a0 x1_a0 x2_a0 x3_a0 x4_a0 x5_a0 x6_a0 x7_a0)) ∧ Fr n0 L ∧ h = h0
set_option maxRecDepth 65536 in
set_option maxHeartbeats 40000000 in
theorem rm1_5 (l : Launch) (Z : State) (a0' : Array Value) (hw : ∀ d ∈ tables_1, d.before a0' Z = true) (ws : List Jvm.Cond) (a0 : Addr) (p2 : Int32) (x0_a0 : Int32) (x1_a0 : Int32) (x2_a0 : Int32) (x3_a0 : Int32) (x4_a0 : Int32) (x5_a0 : Int32) (x6_a0 : Int32) (x7_a0 : Int32) (k_a0 : ClassId) (h0 : Heap) (n0 : Nat) (Z0 : n0 ≤ h0.size) (V_a0 : Arv Z h0 a0 k_a0 .byte (8 : Int32) [(.int x0_a0), (.int x1_a0), (.int x2_a0), (.int x3_a0), (.int x4_a0), (.int x5_a0), (.int x6_a0), (.int x7_a0)] (.int 0)) :
    MetFree l (⟨"com/example/tenon/tenon/Utf8", "cut", "([BII)I"⟩ : MethodName) (head1 (Jvm.Cond.code (⟨"com/example/tenon/tenon/Utf8", "cut", "([BII)I"⟩ : MethodName) prog_110_method_3_code 5 (some .int) :: ws) ({ frames := 0, cells := 0, slots := 0, locals := 0 } : Room)) (fun a U => a = #[(.ref a0), (.int (5 : Int32)), (.int p2)] ∧ Z.Warmed39 U.vm ∧ U.heap = h0) (fun _ _ _ _ _ => True) (fun _ U o U' => ∃ v L, o = .returned v ∧ Q1_5 Z a0 p2 x0_a0 x1_a0 x2_a0 x3_a0 x4_a0 x5_a0 x6_a0 x7_a0 k_a0 h0 n0 v U'.heap L ∧ FrameEnd U o U' L ({ frames := 0, cells := 0, slots := 0, locals := 0 } : Room).cells ({ frames := 0, cells := 0, slots := 0, locals := 0 } : Room).slots) := by
  refine MetFree.of_bodySF (plainFor_of_name pn1) hisR ?_
  intro p e s m args below meth c s₁ Bd hml0 hP hK
  obtain ⟨rfl, hZ, hh⟩ := hP
  have hx := Bd.exec
  have hby := Bd.bytes
  have hml : c.maxLocals = 5 := hml0
  have hown : s.vm.findClass "com/example/tenon/tenon/Utf8" = some m.cls := findClass_of_methodNamed Bd.named
  have hnm := (name_of_methodNamed Bd.named Bd.method).1
  have X0 : Stand p l e ({ frames := 0, cells := 0, slots := 0, locals := 0 } : Room) s m #[(.ref a0), (.int (5 : Int32)), (.int p2)] below meth c s₁ [] 0 0 := Stand.of_body Bd
  have e0 : s₁.heap = h0 := by rw [← hh, Bd.state]; rfl
  have N0 := Fr.nil n0
  have hlk : meth.locks = false := by first | exact BodyLoose.notSynchronized Bd | exact Body.notSynchronized Bd
  have pre0 : ∀ t, Steps p.tables e below (s₁.setTop (mkF m 0 #[.val (.ref a0), .val (.int (5 : Int32)), .val (.int p2), .unset, .unset] [])) t → Steps p.tables e below (s₁.setTop (entryFrame m #[(.ref a0), (.int (5 : Int32)), (.int p2)] 5)) t := fun t k => castTop (ef1_5 m a0 p2) k
  have pre1 : ∀ t, Steps p.tables e below (s₁.setTop (mkF m 13 #[.val (.ref a0), .val (.int (5 : Int32)), .val (.int p2), .val (.int (5 : Int32)), .val (.int (0 : Int32))] [(.int p2), (.int (5 : Int32))])) t → Steps p.tables e below (s₁.setTop (entryFrame m #[(.ref a0), (.int (5 : Int32)), (.int p2)] 5)) t := fun t k => pre0 t (by
    show Steps p.tables e below (s₁.setTop (mkF m 0 #[.val (.ref a0), .val (.int (5 : Int32)), .val (.int p2), .unset, .unset] [])) _
    refine XS.iloadN X0.here hx rfl (hb hby d1_0) rfl ?_
    show Steps p.tables e below (s₁.setTop (mkF m 1 #[.val (.ref a0), .val (.int (5 : Int32)), .val (.int p2), .unset, .unset] [(.int (5 : Int32))])) _
    refine XS.istoreN X0.here hx rfl (hb hby d1_1) rfl (l' := #[.val (.ref a0), .val (.int (5 : Int32)), .val (.int p2), .val (.int (5 : Int32)), .unset]) rfl ?_
    show Steps p.tables e below (s₁.setTop (mkF m 2 #[.val (.ref a0), .val (.int (5 : Int32)), .val (.int p2), .val (.int (5 : Int32)), .unset] [])) _
    refine XS.iconst X0.here hx rfl (hb hby d1_2) ?_
    show Steps p.tables e below (s₁.setTop (mkF m 3 #[.val (.ref a0), .val (.int (5 : Int32)), .val (.int p2), .val (.int (5 : Int32)), .unset] [(.int (0 : Int32))])) _
    refine XS.istore X0.here hx rfl (hb hby d1_3) rfl (l' := #[.val (.ref a0), .val (.int (5 : Int32)), .val (.int p2), .val (.int (5 : Int32)), .val (.int (0 : Int32))]) rfl ?_
    show Steps p.tables e below (s₁.setTop (mkF m 5 #[.val (.ref a0), .val (.int (5 : Int32)), .val (.int p2), .val (.int (5 : Int32)), .val (.int (0 : Int32))] [])) _
    refine XS.iload X0.here hx rfl (hb hby d1_5) rfl ?_
    show Steps p.tables e below (s₁.setTop (mkF m 7 #[.val (.ref a0), .val (.int (5 : Int32)), .val (.int p2), .val (.int (5 : Int32)), .val (.int (0 : Int32))] [(.int (0 : Int32))])) _
    refine XS.iconst X0.here hx rfl (hb hby d1_7) ?_
    show Steps p.tables e below (s₁.setTop (mkF m 8 #[.val (.ref a0), .val (.int (5 : Int32)), .val (.int p2), .val (.int (5 : Int32)), .val (.int (0 : Int32))] [(.int (3 : Int32)), (.int (0 : Int32))])) _
    refine XS.icmpNo X0.here hx rfl (hb hby d1_8) rfl (tlt (by decide : (0 : Int32) < (3 : Int32))).2.1 ?_
    show Steps p.tables e below (s₁.setTop (mkF m 11 #[.val (.ref a0), .val (.int (5 : Int32)), .val (.int p2), .val (.int (5 : Int32)), .val (.int (0 : Int32))] [])) _
    refine XS.iloadN X0.here hx rfl (hb hby d1_11) rfl ?_
    show Steps p.tables e below (s₁.setTop (mkF m 12 #[.val (.ref a0), .val (.int (5 : Int32)), .val (.int p2), .val (.int (5 : Int32)), .val (.int (0 : Int32))] [(.int (5 : Int32))])) _
    refine XS.iloadN X0.here hx rfl (hb hby d1_12) rfl ?_
    exact k)
  by_cases hc13_2 : (5 : Int32) < p2
  · obtain ⟨cl3, Ar3, q3, S3, M3, H3, G3⟩ := id V_a0
    have hin3 : ¬ ((5 : Int32) < 0 ∨ cl3.slots.size ≤ ((5 : Int32)).toNatClampNeg) := inb_of S3 ⟨by decide, by decide⟩
    have hat3 : cl3.slots[((5 : Int32)).toNatClampNeg]? = some (.int x5_a0) := H3.at hin3 rfl
    have pre4 : ∀ t, Steps p.tables e below (s₁.setTop (mkF m 26 #[.val (.ref a0), .val (.int (5 : Int32)), .val (.int p2), .val (.int (5 : Int32)), .val (.int (0 : Int32))] [(.int (128 : Int32)), (.int (x5_a0 &&& (192 : Int32)))])) t → Steps p.tables e below (s₁.setTop (entryFrame m #[(.ref a0), (.int (5 : Int32)), (.int p2)] 5)) t := fun t k => pre1 t (by
      show Steps p.tables e below (s₁.setTop (mkF m 13 #[.val (.ref a0), .val (.int (5 : Int32)), .val (.int p2), .val (.int (5 : Int32)), .val (.int (0 : Int32))] [(.int p2), (.int (5 : Int32))])) _
      refine XS.icmpNo X0.here hx rfl (hb hby d1_13) rfl (tlt hc13_2).2.1 ?_
      show Steps p.tables e below (s₁.setTop (mkF m 16 #[.val (.ref a0), .val (.int (5 : Int32)), .val (.int p2), .val (.int (5 : Int32)), .val (.int (0 : Int32))] [])) _
      refine XS.aloadN X0.here hx rfl (hb hby d1_16) rfl rfl ?_
      show Steps p.tables e below (s₁.setTop (mkF m 17 #[.val (.ref a0), .val (.int (5 : Int32)), .val (.int p2), .val (.int (5 : Int32)), .val (.int (0 : Int32))] [(.ref a0)])) _
      refine XS.iloadN X0.here hx rfl (hb hby d1_17) rfl ?_
      show Steps p.tables e below (s₁.setTop (mkF m 18 #[.val (.ref a0), .val (.int (5 : Int32)), .val (.int p2), .val (.int (5 : Int32)), .val (.int (0 : Int32))] [(.int (5 : Int32)), (.ref a0)])) _
      refine X0.baloadBytes hx (j := (5 : Int32)) (v := (.int x5_a0)) (by rw [e0]; exact Ar3.1) (State.isArrayOf_alike hZ.alike Ar3.2.1) Ar3.2.2 hin3 hat3 (g := (mkF m 18 #[.val (.ref a0), .val (.int (5 : Int32)), .val (.int p2), .val (.int (5 : Int32)), .val (.int (0 : Int32))] [(.int (5 : Int32)), (.ref a0)])) rfl rfl (hb hby d1_18) _ ?_
      show Steps p.tables e below (s₁.setTop (mkF m 19 #[.val (.ref a0), .val (.int (5 : Int32)), .val (.int p2), .val (.int (5 : Int32)), .val (.int (0 : Int32))] [(.int x5_a0)])) _
      refine XS.sipush X0.here hx rfl (hb hby d1_19) ?_
      show Steps p.tables e below (s₁.setTop (mkF m 22 #[.val (.ref a0), .val (.int (5 : Int32)), .val (.int p2), .val (.int (5 : Int32)), .val (.int (0 : Int32))] [(.int (192 : Int32)), (.int x5_a0)])) _
      refine XS.iand X0.here hx rfl (hb hby d1_22) rfl ?_
      show Steps p.tables e below (s₁.setTop (mkF m 23 #[.val (.ref a0), .val (.int (5 : Int32)), .val (.int p2), .val (.int (5 : Int32)), .val (.int (0 : Int32))] [(.int (x5_a0 &&& (192 : Int32)))])) _
      refine XS.sipush X0.here hx rfl (hb hby d1_23) ?_
      exact k)
    by_cases hc26_5 : (x5_a0 &&& (192 : Int32)) = (128 : Int32)
    · obtain ⟨cl6, Ar6, q6, S6, M6, H6, G6⟩ := id V_a0
      have hin6 : ¬ ((4 : Int32) < 0 ∨ cl6.slots.size ≤ ((4 : Int32)).toNatClampNeg) := inb_of S6 ⟨by decide, by decide⟩
      have hat6 : cl6.slots[((4 : Int32)).toNatClampNeg]? = some (.int x4_a0) := H6.at hin6 rfl
      have pre7 : ∀ t, Steps p.tables e below (s₁.setTop (mkF m 26 #[.val (.ref a0), .val (.int (5 : Int32)), .val (.int p2), .val (.int (4 : Int32)), .val (.int (1 : Int32))] [(.int (128 : Int32)), (.int (x4_a0 &&& (192 : Int32)))])) t → Steps p.tables e below (s₁.setTop (entryFrame m #[(.ref a0), (.int (5 : Int32)), (.int p2)] 5)) t := fun t k => pre4 t (by
        show Steps p.tables e below (s₁.setTop (mkF m 26 #[.val (.ref a0), .val (.int (5 : Int32)), .val (.int p2), .val (.int (5 : Int32)), .val (.int (0 : Int32))] [(.int (128 : Int32)), (.int (x5_a0 &&& (192 : Int32)))])) _
        refine XS.icmpNo X0.here hx rfl (hb hby d1_26) rfl (teq hc26_5).2 ?_
        show Steps p.tables e below (s₁.setTop (mkF m 29 #[.val (.ref a0), .val (.int (5 : Int32)), .val (.int p2), .val (.int (5 : Int32)), .val (.int (0 : Int32))] [])) _
        refine XS.iinc X0.here hx rfl (hb hby d1_29) rfl (l' := #[.val (.ref a0), .val (.int (5 : Int32)), .val (.int p2), .val (.int ((5 : Int32) + (-1 : Int32))), .val (.int (0 : Int32))]) rfl ?_
        show Steps p.tables e below (s₁.setTop (mkF m 32 #[.val (.ref a0), .val (.int (5 : Int32)), .val (.int p2), .val (.int (4 : Int32)), .val (.int (0 : Int32))] [])) _
        refine XS.iinc X0.here hx rfl (hb hby d1_32) rfl (l' := #[.val (.ref a0), .val (.int (5 : Int32)), .val (.int p2), .val (.int (4 : Int32)), .val (.int ((0 : Int32) + (1 : Int32)))]) rfl ?_
        show Steps p.tables e below (s₁.setTop (mkF m 35 #[.val (.ref a0), .val (.int (5 : Int32)), .val (.int p2), .val (.int (4 : Int32)), .val (.int (1 : Int32))] [])) _
        refine XS.goto X0.here hx rfl (pc0 := 35) (pc' := 5) rfl (hb hby d1_35) (by decide) (by decide) ?_
        show Steps p.tables e below (s₁.setTop (mkF m 5 #[.val (.ref a0), .val (.int (5 : Int32)), .val (.int p2), .val (.int (4 : Int32)), .val (.int (1 : Int32))] [])) _
        refine XS.iload X0.here hx rfl (hb hby d1_5) rfl ?_
        show Steps p.tables e below (s₁.setTop (mkF m 7 #[.val (.ref a0), .val (.int (5 : Int32)), .val (.int p2), .val (.int (4 : Int32)), .val (.int (1 : Int32))] [(.int (1 : Int32))])) _
        refine XS.iconst X0.here hx rfl (hb hby d1_7) ?_
        show Steps p.tables e below (s₁.setTop (mkF m 8 #[.val (.ref a0), .val (.int (5 : Int32)), .val (.int p2), .val (.int (4 : Int32)), .val (.int (1 : Int32))] [(.int (3 : Int32)), (.int (1 : Int32))])) _
        refine XS.icmpNo X0.here hx rfl (hb hby d1_8) rfl (tlt (by decide : (1 : Int32) < (3 : Int32))).2.1 ?_
        show Steps p.tables e below (s₁.setTop (mkF m 11 #[.val (.ref a0), .val (.int (5 : Int32)), .val (.int p2), .val (.int (4 : Int32)), .val (.int (1 : Int32))] [])) _
        refine XS.iloadN X0.here hx rfl (hb hby d1_11) rfl ?_
        show Steps p.tables e below (s₁.setTop (mkF m 12 #[.val (.ref a0), .val (.int (5 : Int32)), .val (.int p2), .val (.int (4 : Int32)), .val (.int (1 : Int32))] [(.int (4 : Int32))])) _
        refine XS.iloadN X0.here hx rfl (hb hby d1_12) rfl ?_
        show Steps p.tables e below (s₁.setTop (mkF m 13 #[.val (.ref a0), .val (.int (5 : Int32)), .val (.int p2), .val (.int (4 : Int32)), .val (.int (1 : Int32))] [(.int p2), (.int (4 : Int32))])) _
        refine XS.icmpNo X0.here hx rfl (hb hby d1_13) rfl (tlt (own_lxT (own_lo2 hc13_2) (by decide))).2.1 ?_
        show Steps p.tables e below (s₁.setTop (mkF m 16 #[.val (.ref a0), .val (.int (5 : Int32)), .val (.int p2), .val (.int (4 : Int32)), .val (.int (1 : Int32))] [])) _
        refine XS.aloadN X0.here hx rfl (hb hby d1_16) rfl rfl ?_
        show Steps p.tables e below (s₁.setTop (mkF m 17 #[.val (.ref a0), .val (.int (5 : Int32)), .val (.int p2), .val (.int (4 : Int32)), .val (.int (1 : Int32))] [(.ref a0)])) _
        refine XS.iloadN X0.here hx rfl (hb hby d1_17) rfl ?_
        show Steps p.tables e below (s₁.setTop (mkF m 18 #[.val (.ref a0), .val (.int (5 : Int32)), .val (.int p2), .val (.int (4 : Int32)), .val (.int (1 : Int32))] [(.int (4 : Int32)), (.ref a0)])) _
        refine X0.baloadBytes hx (j := (4 : Int32)) (v := (.int x4_a0)) (by rw [e0]; exact Ar6.1) (State.isArrayOf_alike hZ.alike Ar6.2.1) Ar6.2.2 hin6 hat6 (g := (mkF m 18 #[.val (.ref a0), .val (.int (5 : Int32)), .val (.int p2), .val (.int (4 : Int32)), .val (.int (1 : Int32))] [(.int (4 : Int32)), (.ref a0)])) rfl rfl (hb hby d1_18) _ ?_
        show Steps p.tables e below (s₁.setTop (mkF m 19 #[.val (.ref a0), .val (.int (5 : Int32)), .val (.int p2), .val (.int (4 : Int32)), .val (.int (1 : Int32))] [(.int x4_a0)])) _
        refine XS.sipush X0.here hx rfl (hb hby d1_19) ?_
        show Steps p.tables e below (s₁.setTop (mkF m 22 #[.val (.ref a0), .val (.int (5 : Int32)), .val (.int p2), .val (.int (4 : Int32)), .val (.int (1 : Int32))] [(.int (192 : Int32)), (.int x4_a0)])) _
        refine XS.iand X0.here hx rfl (hb hby d1_22) rfl ?_
        show Steps p.tables e below (s₁.setTop (mkF m 23 #[.val (.ref a0), .val (.int (5 : Int32)), .val (.int p2), .val (.int (4 : Int32)), .val (.int (1 : Int32))] [(.int (x4_a0 &&& (192 : Int32)))])) _
        refine XS.sipush X0.here hx rfl (hb hby d1_23) ?_
        exact k)
      by_cases hc26_8 : (x4_a0 &&& (192 : Int32)) = (128 : Int32)
      · obtain ⟨cl9, Ar9, q9, S9, M9, H9, G9⟩ := id V_a0
        have hin9 : ¬ ((3 : Int32) < 0 ∨ cl9.slots.size ≤ ((3 : Int32)).toNatClampNeg) := inb_of S9 ⟨by decide, by decide⟩
        have hat9 : cl9.slots[((3 : Int32)).toNatClampNeg]? = some (.int x3_a0) := H9.at hin9 rfl
        have pre10 : ∀ t, Steps p.tables e below (s₁.setTop (mkF m 26 #[.val (.ref a0), .val (.int (5 : Int32)), .val (.int p2), .val (.int (3 : Int32)), .val (.int (2 : Int32))] [(.int (128 : Int32)), (.int (x3_a0 &&& (192 : Int32)))])) t → Steps p.tables e below (s₁.setTop (entryFrame m #[(.ref a0), (.int (5 : Int32)), (.int p2)] 5)) t := fun t k => pre7 t (by
          show Steps p.tables e below (s₁.setTop (mkF m 26 #[.val (.ref a0), .val (.int (5 : Int32)), .val (.int p2), .val (.int (4 : Int32)), .val (.int (1 : Int32))] [(.int (128 : Int32)), (.int (x4_a0 &&& (192 : Int32)))])) _
          refine XS.icmpNo X0.here hx rfl (hb hby d1_26) rfl (teq hc26_8).2 ?_
          show Steps p.tables e below (s₁.setTop (mkF m 29 #[.val (.ref a0), .val (.int (5 : Int32)), .val (.int p2), .val (.int (4 : Int32)), .val (.int (1 : Int32))] [])) _
          refine XS.iinc X0.here hx rfl (hb hby d1_29) rfl (l' := #[.val (.ref a0), .val (.int (5 : Int32)), .val (.int p2), .val (.int ((4 : Int32) + (-1 : Int32))), .val (.int (1 : Int32))]) rfl ?_
          show Steps p.tables e below (s₁.setTop (mkF m 32 #[.val (.ref a0), .val (.int (5 : Int32)), .val (.int p2), .val (.int (3 : Int32)), .val (.int (1 : Int32))] [])) _
          refine XS.iinc X0.here hx rfl (hb hby d1_32) rfl (l' := #[.val (.ref a0), .val (.int (5 : Int32)), .val (.int p2), .val (.int (3 : Int32)), .val (.int ((1 : Int32) + (1 : Int32)))]) rfl ?_
          show Steps p.tables e below (s₁.setTop (mkF m 35 #[.val (.ref a0), .val (.int (5 : Int32)), .val (.int p2), .val (.int (3 : Int32)), .val (.int (2 : Int32))] [])) _
          refine XS.goto X0.here hx rfl (pc0 := 35) (pc' := 5) rfl (hb hby d1_35) (by decide) (by decide) ?_
          show Steps p.tables e below (s₁.setTop (mkF m 5 #[.val (.ref a0), .val (.int (5 : Int32)), .val (.int p2), .val (.int (3 : Int32)), .val (.int (2 : Int32))] [])) _
          refine XS.iload X0.here hx rfl (hb hby d1_5) rfl ?_
          show Steps p.tables e below (s₁.setTop (mkF m 7 #[.val (.ref a0), .val (.int (5 : Int32)), .val (.int p2), .val (.int (3 : Int32)), .val (.int (2 : Int32))] [(.int (2 : Int32))])) _
          refine XS.iconst X0.here hx rfl (hb hby d1_7) ?_
          show Steps p.tables e below (s₁.setTop (mkF m 8 #[.val (.ref a0), .val (.int (5 : Int32)), .val (.int p2), .val (.int (3 : Int32)), .val (.int (2 : Int32))] [(.int (3 : Int32)), (.int (2 : Int32))])) _
          refine XS.icmpNo X0.here hx rfl (hb hby d1_8) rfl (tlt (by decide : (2 : Int32) < (3 : Int32))).2.1 ?_
          show Steps p.tables e below (s₁.setTop (mkF m 11 #[.val (.ref a0), .val (.int (5 : Int32)), .val (.int p2), .val (.int (3 : Int32)), .val (.int (2 : Int32))] [])) _
          refine XS.iloadN X0.here hx rfl (hb hby d1_11) rfl ?_
          show Steps p.tables e below (s₁.setTop (mkF m 12 #[.val (.ref a0), .val (.int (5 : Int32)), .val (.int p2), .val (.int (3 : Int32)), .val (.int (2 : Int32))] [(.int (3 : Int32))])) _
          refine XS.iloadN X0.here hx rfl (hb hby d1_12) rfl ?_
          show Steps p.tables e below (s₁.setTop (mkF m 13 #[.val (.ref a0), .val (.int (5 : Int32)), .val (.int p2), .val (.int (3 : Int32)), .val (.int (2 : Int32))] [(.int p2), (.int (3 : Int32))])) _
          refine XS.icmpNo X0.here hx rfl (hb hby d1_13) rfl (tlt (own_lxT (own_lo2 hc13_2) (by decide))).2.1 ?_
          show Steps p.tables e below (s₁.setTop (mkF m 16 #[.val (.ref a0), .val (.int (5 : Int32)), .val (.int p2), .val (.int (3 : Int32)), .val (.int (2 : Int32))] [])) _
          refine XS.aloadN X0.here hx rfl (hb hby d1_16) rfl rfl ?_
          show Steps p.tables e below (s₁.setTop (mkF m 17 #[.val (.ref a0), .val (.int (5 : Int32)), .val (.int p2), .val (.int (3 : Int32)), .val (.int (2 : Int32))] [(.ref a0)])) _
          refine XS.iloadN X0.here hx rfl (hb hby d1_17) rfl ?_
          show Steps p.tables e below (s₁.setTop (mkF m 18 #[.val (.ref a0), .val (.int (5 : Int32)), .val (.int p2), .val (.int (3 : Int32)), .val (.int (2 : Int32))] [(.int (3 : Int32)), (.ref a0)])) _
          refine X0.baloadBytes hx (j := (3 : Int32)) (v := (.int x3_a0)) (by rw [e0]; exact Ar9.1) (State.isArrayOf_alike hZ.alike Ar9.2.1) Ar9.2.2 hin9 hat9 (g := (mkF m 18 #[.val (.ref a0), .val (.int (5 : Int32)), .val (.int p2), .val (.int (3 : Int32)), .val (.int (2 : Int32))] [(.int (3 : Int32)), (.ref a0)])) rfl rfl (hb hby d1_18) _ ?_
          show Steps p.tables e below (s₁.setTop (mkF m 19 #[.val (.ref a0), .val (.int (5 : Int32)), .val (.int p2), .val (.int (3 : Int32)), .val (.int (2 : Int32))] [(.int x3_a0)])) _
          refine XS.sipush X0.here hx rfl (hb hby d1_19) ?_
          show Steps p.tables e below (s₁.setTop (mkF m 22 #[.val (.ref a0), .val (.int (5 : Int32)), .val (.int p2), .val (.int (3 : Int32)), .val (.int (2 : Int32))] [(.int (192 : Int32)), (.int x3_a0)])) _
          refine XS.iand X0.here hx rfl (hb hby d1_22) rfl ?_
          show Steps p.tables e below (s₁.setTop (mkF m 23 #[.val (.ref a0), .val (.int (5 : Int32)), .val (.int p2), .val (.int (3 : Int32)), .val (.int (2 : Int32))] [(.int (x3_a0 &&& (192 : Int32)))])) _
          refine XS.sipush X0.here hx rfl (hb hby d1_23) ?_
          exact k)
        by_cases hc26_11 : (x3_a0 &&& (192 : Int32)) = (128 : Int32)
        · have pre12 : ∀ t, Steps p.tables e below (s₁.setTop (mkF m 39 #[.val (.ref a0), .val (.int (5 : Int32)), .val (.int p2), .val (.int (2 : Int32)), .val (.int (3 : Int32))] [(.int (2 : Int32))])) t → Steps p.tables e below (s₁.setTop (entryFrame m #[(.ref a0), (.int (5 : Int32)), (.int p2)] 5)) t := fun t k => pre10 t (by
            show Steps p.tables e below (s₁.setTop (mkF m 26 #[.val (.ref a0), .val (.int (5 : Int32)), .val (.int p2), .val (.int (3 : Int32)), .val (.int (2 : Int32))] [(.int (128 : Int32)), (.int (x3_a0 &&& (192 : Int32)))])) _
            refine XS.icmpNo X0.here hx rfl (hb hby d1_26) rfl (teq hc26_11).2 ?_
            show Steps p.tables e below (s₁.setTop (mkF m 29 #[.val (.ref a0), .val (.int (5 : Int32)), .val (.int p2), .val (.int (3 : Int32)), .val (.int (2 : Int32))] [])) _
            refine XS.iinc X0.here hx rfl (hb hby d1_29) rfl (l' := #[.val (.ref a0), .val (.int (5 : Int32)), .val (.int p2), .val (.int ((3 : Int32) + (-1 : Int32))), .val (.int (2 : Int32))]) rfl ?_
            show Steps p.tables e below (s₁.setTop (mkF m 32 #[.val (.ref a0), .val (.int (5 : Int32)), .val (.int p2), .val (.int (2 : Int32)), .val (.int (2 : Int32))] [])) _
            refine XS.iinc X0.here hx rfl (hb hby d1_32) rfl (l' := #[.val (.ref a0), .val (.int (5 : Int32)), .val (.int p2), .val (.int (2 : Int32)), .val (.int ((2 : Int32) + (1 : Int32)))]) rfl ?_
            show Steps p.tables e below (s₁.setTop (mkF m 35 #[.val (.ref a0), .val (.int (5 : Int32)), .val (.int p2), .val (.int (2 : Int32)), .val (.int (3 : Int32))] [])) _
            refine XS.goto X0.here hx rfl (pc0 := 35) (pc' := 5) rfl (hb hby d1_35) (by decide) (by decide) ?_
            show Steps p.tables e below (s₁.setTop (mkF m 5 #[.val (.ref a0), .val (.int (5 : Int32)), .val (.int p2), .val (.int (2 : Int32)), .val (.int (3 : Int32))] [])) _
            refine XS.iload X0.here hx rfl (hb hby d1_5) rfl ?_
            show Steps p.tables e below (s₁.setTop (mkF m 7 #[.val (.ref a0), .val (.int (5 : Int32)), .val (.int p2), .val (.int (2 : Int32)), .val (.int (3 : Int32))] [(.int (3 : Int32))])) _
            refine XS.iconst X0.here hx rfl (hb hby d1_7) ?_
            show Steps p.tables e below (s₁.setTop (mkF m 8 #[.val (.ref a0), .val (.int (5 : Int32)), .val (.int p2), .val (.int (2 : Int32)), .val (.int (3 : Int32))] [(.int (3 : Int32)), (.int (3 : Int32))])) _
            refine XS.icmpYes X0.here hx rfl (pc0 := 8) (pc' := 38) rfl (hb hby d1_8) rfl (flt (by decide : ¬ ((3 : Int32) < (3 : Int32)))).2.1 (by decide) (by decide) ?_
            show Steps p.tables e below (s₁.setTop (mkF m 38 #[.val (.ref a0), .val (.int (5 : Int32)), .val (.int p2), .val (.int (2 : Int32)), .val (.int (3 : Int32))] [])) _
            refine XS.iloadN X0.here hx rfl (hb hby d1_38) rfl ?_
            exact k)
          obtain ⟨fs, hr, hrun, hended, hW, hsame⟩ := X0.leave (v := some (.int (2 : Int32))) (fun h => by rw [Bd.returns] at h; cases h) hlk
          have hF : (F1_5 p2 x0_a0 x1_a0 x2_a0 x3_a0 x4_a0 x5_a0 x6_a0 x7_a0) = (2 : Int32) := by unfold F1_5; rw [if_pos hc13_2, if_pos hc26_5, if_pos hc26_8, if_pos hc26_11]
          exact ⟨_, _, pre12 _ (retI X0 hx Bd.returns (hb hby d1_39) hr), hrun, hended, _, _, rfl, ⟨by rw [hF], N0, e0⟩, ⟨_, rfl⟩, hW, hsame.mono (by decide) (by decide)⟩
        have pre13 : ∀ t, Steps p.tables e below (s₁.setTop (mkF m 39 #[.val (.ref a0), .val (.int (5 : Int32)), .val (.int p2), .val (.int (3 : Int32)), .val (.int (2 : Int32))] [(.int (3 : Int32))])) t → Steps p.tables e below (s₁.setTop (entryFrame m #[(.ref a0), (.int (5 : Int32)), (.int p2)] 5)) t := fun t k => pre10 t (by
          show Steps p.tables e below (s₁.setTop (mkF m 26 #[.val (.ref a0), .val (.int (5 : Int32)), .val (.int p2), .val (.int (3 : Int32)), .val (.int (2 : Int32))] [(.int (128 : Int32)), (.int (x3_a0 &&& (192 : Int32)))])) _
          refine XS.icmpYes X0.here hx rfl (pc0 := 26) (pc' := 38) rfl (hb hby d1_26) rfl (feq hc26_11).2 (by decide) (by decide) ?_
          show Steps p.tables e below (s₁.setTop (mkF m 38 #[.val (.ref a0), .val (.int (5 : Int32)), .val (.int p2), .val (.int (3 : Int32)), .val (.int (2 : Int32))] [])) _
          refine XS.iloadN X0.here hx rfl (hb hby d1_38) rfl ?_
          exact k)
        obtain ⟨fs, hr, hrun, hended, hW, hsame⟩ := X0.leave (v := some (.int (3 : Int32))) (fun h => by rw [Bd.returns] at h; cases h) hlk
        have hF : (F1_5 p2 x0_a0 x1_a0 x2_a0 x3_a0 x4_a0 x5_a0 x6_a0 x7_a0) = (3 : Int32) := by unfold F1_5; rw [if_pos hc13_2, if_pos hc26_5, if_pos hc26_8, if_neg hc26_11]
        exact ⟨_, _, pre13 _ (retI X0 hx Bd.returns (hb hby d1_39) hr), hrun, hended, _, _, rfl, ⟨by rw [hF], N0, e0⟩, ⟨_, rfl⟩, hW, hsame.mono (by decide) (by decide)⟩
      have pre14 : ∀ t, Steps p.tables e below (s₁.setTop (mkF m 39 #[.val (.ref a0), .val (.int (5 : Int32)), .val (.int p2), .val (.int (4 : Int32)), .val (.int (1 : Int32))] [(.int (4 : Int32))])) t → Steps p.tables e below (s₁.setTop (entryFrame m #[(.ref a0), (.int (5 : Int32)), (.int p2)] 5)) t := fun t k => pre7 t (by
        show Steps p.tables e below (s₁.setTop (mkF m 26 #[.val (.ref a0), .val (.int (5 : Int32)), .val (.int p2), .val (.int (4 : Int32)), .val (.int (1 : Int32))] [(.int (128 : Int32)), (.int (x4_a0 &&& (192 : Int32)))])) _
        refine XS.icmpYes X0.here hx rfl (pc0 := 26) (pc' := 38) rfl (hb hby d1_26) rfl (feq hc26_8).2 (by decide) (by decide) ?_
        show Steps p.tables e below (s₁.setTop (mkF m 38 #[.val (.ref a0), .val (.int (5 : Int32)), .val (.int p2), .val (.int (4 : Int32)), .val (.int (1 : Int32))] [])) _
        refine XS.iloadN X0.here hx rfl (hb hby d1_38) rfl ?_
        exact k)
      obtain ⟨fs, hr, hrun, hended, hW, hsame⟩ := X0.leave (v := some (.int (4 : Int32))) (fun h => by rw [Bd.returns] at h; cases h) hlk
      have hF : (F1_5 p2 x0_a0 x1_a0 x2_a0 x3_a0 x4_a0 x5_a0 x6_a0 x7_a0) = (4 : Int32) := by unfold F1_5; rw [if_pos hc13_2, if_pos hc26_5, if_neg hc26_8]
      exact ⟨_, _, pre14 _ (retI X0 hx Bd.returns (hb hby d1_39) hr), hrun, hended, _, _, rfl, ⟨by rw [hF], N0, e0⟩, ⟨_, rfl⟩, hW, hsame.mono (by decide) (by decide)⟩
    have pre15 : ∀ t, Steps p.tables e below (s₁.setTop (mkF m 39 #[.val (.ref a0), .val (.int (5 : Int32)), .val (.int p2), .val (.int (5 : Int32)), .val (.int (0 : Int32))] [(.int (5 : Int32))])) t → Steps p.tables e below (s₁.setTop (entryFrame m #[(.ref a0), (.int (5 : Int32)), (.int p2)] 5)) t := fun t k => pre4 t (by
      show Steps p.tables e below (s₁.setTop (mkF m 26 #[.val (.ref a0), .val (.int (5 : Int32)), .val (.int p2), .val (.int (5 : Int32)), .val (.int (0 : Int32))] [(.int (128 : Int32)), (.int (x5_a0 &&& (192 : Int32)))])) _
      refine XS.icmpYes X0.here hx rfl (pc0 := 26) (pc' := 38) rfl (hb hby d1_26) rfl (feq hc26_5).2 (by decide) (by decide) ?_
      show Steps p.tables e below (s₁.setTop (mkF m 38 #[.val (.ref a0), .val (.int (5 : Int32)), .val (.int p2), .val (.int (5 : Int32)), .val (.int (0 : Int32))] [])) _
      refine XS.iloadN X0.here hx rfl (hb hby d1_38) rfl ?_
      exact k)
    obtain ⟨fs, hr, hrun, hended, hW, hsame⟩ := X0.leave (v := some (.int (5 : Int32))) (fun h => by rw [Bd.returns] at h; cases h) hlk
    have hF : (F1_5 p2 x0_a0 x1_a0 x2_a0 x3_a0 x4_a0 x5_a0 x6_a0 x7_a0) = (5 : Int32) := by unfold F1_5; rw [if_pos hc13_2, if_neg hc26_5]
    exact ⟨_, _, pre15 _ (retI X0 hx Bd.returns (hb hby d1_39) hr), hrun, hended, _, _, rfl, ⟨by rw [hF], N0, e0⟩, ⟨_, rfl⟩, hW, hsame.mono (by decide) (by decide)⟩
  have pre16 : ∀ t, Steps p.tables e below (s₁.setTop (mkF m 39 #[.val (.ref a0), .val (.int (5 : Int32)), .val (.int p2), .val (.int (5 : Int32)), .val (.int (0 : Int32))] [(.int (5 : Int32))])) t → Steps p.tables e below (s₁.setTop (entryFrame m #[(.ref a0), (.int (5 : Int32)), (.int p2)] 5)) t := fun t k => pre1 t (by
    show Steps p.tables e below (s₁.setTop (mkF m 13 #[.val (.ref a0), .val (.int (5 : Int32)), .val (.int p2), .val (.int (5 : Int32)), .val (.int (0 : Int32))] [(.int p2), (.int (5 : Int32))])) _
    refine XS.icmpYes X0.here hx rfl (pc0 := 13) (pc' := 38) rfl (hb hby d1_13) rfl (flt hc13_2).2.1 (by decide) (by decide) ?_
    show Steps p.tables e below (s₁.setTop (mkF m 38 #[.val (.ref a0), .val (.int (5 : Int32)), .val (.int p2), .val (.int (5 : Int32)), .val (.int (0 : Int32))] [])) _
    refine XS.iloadN X0.here hx rfl (hb hby d1_38) rfl ?_
    exact k)
  obtain ⟨fs, hr, hrun, hended, hW, hsame⟩ := X0.leave (v := some (.int (5 : Int32))) (fun h => by rw [Bd.returns] at h; cases h) hlk
  have hF : (F1_5 p2 x0_a0 x1_a0 x2_a0 x3_a0 x4_a0 x5_a0 x6_a0 x7_a0) = (5 : Int32) := by unfold F1_5; rw [if_neg hc13_2]
  exact ⟨_, _, pre16 _ (retI X0 hx Bd.returns (hb hby d1_39) hr), hrun, hended, _, _, rfl, ⟨by rw [hF], N0, e0⟩, ⟨_, rfl⟩, hW, hsame.mono (by decide) (by decide)⟩
def F1_6 (p2 : Int32) (x0_a0 : Int32) (x1_a0 : Int32) (x2_a0 : Int32) (x3_a0 : Int32) (x4_a0 : Int32) (x5_a0 : Int32) (x6_a0 : Int32) (x7_a0 : Int32) : Int32 := (if (6 : Int32) < p2 then (if (x6_a0 &&& (192 : Int32)) = (128 : Int32) then (if (x5_a0 &&& (192 : Int32)) = (128 : Int32) then (if (x4_a0 &&& (192 : Int32)) = (128 : Int32) then (3 : Int32) else (4 : Int32)) else (5 : Int32)) else (6 : Int32)) else (6 : Int32))
theorem ef1_6 (m : MethodId) (x0 : Addr) (x2 : Int32) : entryFrame m #[(.ref x0), (.int (6 : Int32)), (.int x2)] 5 = mkF m 0 #[.val (.ref x0), .val (.int (6 : Int32)), .val (.int x2), .unset, .unset] [] := by first | (simp [entryFrame, mkF, argsToLocals, Value.category]; done) | rfl
def Q1_6 (Z : State) (a0 : Addr) (p2 : Int32) (x0_a0 : Int32) (x1_a0 : Int32) (x2_a0 : Int32) (x3_a0 : Int32) (x4_a0 : Int32) (x5_a0 : Int32) (x6_a0 : Int32) (x7_a0 : Int32) (k_a0 : ClassId) (h0 : Heap) (n0 : Nat) (v : Option Value) (h : Heap) (L : List Loc) : Prop := v = some (.int (F1_6 p2 x0_a0 x1_a0 x2_a0 x3_a0 x4_a0 x5_a0 x6_a0 x7_a0)) ∧ Fr n0 L ∧ h = h0
set_option maxRecDepth 65536 in
set_option maxHeartbeats 40000000 in
theorem rm1_6 (l : Launch) (Z : State) (a0' : Array Value) (hw : ∀ d ∈ tables_1, d.before a0' Z = true) (ws : List Jvm.Cond) (a0 : Addr) (p2 : Int32) (x0_a0 : Int32) (x1_a0 : Int32) (x2_a0 : Int32) (x3_a0 : Int32) (x4_a0 : Int32) (x5_a0 : Int32) (x6_a0 : Int32) (x7_a0 : Int32) (k_a0 : ClassId) (h0 : Heap) (n0 : Nat) (Z0 : n0 ≤ h0.size) (V_a0 : Arv Z h0 a0 k_a0 .byte (8 : Int32) [(.int x0_a0), (.int x1_a0), (.int x2_a0), (.int x3_a0), (.int x4_a0), (.int x5_a0), (.int x6_a0), (.int x7_a0)] (.int 0)) :
    MetFree l (⟨"com/example/tenon/tenon/Utf8", "cut", "([BII)I"⟩ : MethodName) (head1 (Jvm.Cond.code (⟨"com/example/tenon/tenon/Utf8", "cut", "([BII)I"⟩ : MethodName) prog_110_method_3_code 5 (some .int) :: ws) ({ frames := 0, cells := 0, slots := 0, locals := 0 } : Room)) (fun a U => a = #[(.ref a0), (.int (6 : Int32)), (.int p2)] ∧ Z.Warmed39 U.vm ∧ U.heap = h0) (fun _ _ _ _ _ => True) (fun _ U o U' => ∃ v L, o = .returned v ∧ Q1_6 Z a0 p2 x0_a0 x1_a0 x2_a0 x3_a0 x4_a0 x5_a0 x6_a0 x7_a0 k_a0 h0 n0 v U'.heap L ∧ FrameEnd U o U' L ({ frames := 0, cells := 0, slots := 0, locals := 0 } : Room).cells ({ frames := 0, cells := 0, slots := 0, locals := 0 } : Room).slots) := by
  refine MetFree.of_bodySF (plainFor_of_name pn1) hisR ?_
  intro p e s m args below meth c s₁ Bd hml0 hP hK
  obtain ⟨rfl, hZ, hh⟩ := hP
  have hx := Bd.exec
  have hby := Bd.bytes
  have hml : c.maxLocals = 5 := hml0
  have hown : s.vm.findClass "com/example/tenon/tenon/Utf8" = some m.cls := findClass_of_methodNamed Bd.named
  have hnm := (name_of_methodNamed Bd.named Bd.method).1
  have X0 : Stand p l e ({ frames := 0, cells := 0, slots := 0, locals := 0 } : Room) s m #[(.ref a0), (.int (6 : Int32)), (.int p2)] below meth c s₁ [] 0 0 := Stand.of_body Bd
  have e0 : s₁.heap = h0 := by rw [← hh, Bd.state]; rfl
  have N0 := Fr.nil n0
  have hlk : meth.locks = false := by first | exact BodyLoose.notSynchronized Bd | exact Body.notSynchronized Bd
  have pre0 : ∀ t, Steps p.tables e below (s₁.setTop (mkF m 0 #[.val (.ref a0), .val (.int (6 : Int32)), .val (.int p2), .unset, .unset] [])) t → Steps p.tables e below (s₁.setTop (entryFrame m #[(.ref a0), (.int (6 : Int32)), (.int p2)] 5)) t := fun t k => castTop (ef1_6 m a0 p2) k
  have pre1 : ∀ t, Steps p.tables e below (s₁.setTop (mkF m 13 #[.val (.ref a0), .val (.int (6 : Int32)), .val (.int p2), .val (.int (6 : Int32)), .val (.int (0 : Int32))] [(.int p2), (.int (6 : Int32))])) t → Steps p.tables e below (s₁.setTop (entryFrame m #[(.ref a0), (.int (6 : Int32)), (.int p2)] 5)) t := fun t k => pre0 t (by
    show Steps p.tables e below (s₁.setTop (mkF m 0 #[.val (.ref a0), .val (.int (6 : Int32)), .val (.int p2), .unset, .unset] [])) _
    refine XS.iloadN X0.here hx rfl (hb hby d1_0) rfl ?_
    show Steps p.tables e below (s₁.setTop (mkF m 1 #[.val (.ref a0), .val (.int (6 : Int32)), .val (.int p2), .unset, .unset] [(.int (6 : Int32))])) _
    refine XS.istoreN X0.here hx rfl (hb hby d1_1) rfl (l' := #[.val (.ref a0), .val (.int (6 : Int32)), .val (.int p2), .val (.int (6 : Int32)), .unset]) rfl ?_
    show Steps p.tables e below (s₁.setTop (mkF m 2 #[.val (.ref a0), .val (.int (6 : Int32)), .val (.int p2), .val (.int (6 : Int32)), .unset] [])) _
    refine XS.iconst X0.here hx rfl (hb hby d1_2) ?_
    show Steps p.tables e below (s₁.setTop (mkF m 3 #[.val (.ref a0), .val (.int (6 : Int32)), .val (.int p2), .val (.int (6 : Int32)), .unset] [(.int (0 : Int32))])) _
    refine XS.istore X0.here hx rfl (hb hby d1_3) rfl (l' := #[.val (.ref a0), .val (.int (6 : Int32)), .val (.int p2), .val (.int (6 : Int32)), .val (.int (0 : Int32))]) rfl ?_
    show Steps p.tables e below (s₁.setTop (mkF m 5 #[.val (.ref a0), .val (.int (6 : Int32)), .val (.int p2), .val (.int (6 : Int32)), .val (.int (0 : Int32))] [])) _
    refine XS.iload X0.here hx rfl (hb hby d1_5) rfl ?_
    show Steps p.tables e below (s₁.setTop (mkF m 7 #[.val (.ref a0), .val (.int (6 : Int32)), .val (.int p2), .val (.int (6 : Int32)), .val (.int (0 : Int32))] [(.int (0 : Int32))])) _
    refine XS.iconst X0.here hx rfl (hb hby d1_7) ?_
    show Steps p.tables e below (s₁.setTop (mkF m 8 #[.val (.ref a0), .val (.int (6 : Int32)), .val (.int p2), .val (.int (6 : Int32)), .val (.int (0 : Int32))] [(.int (3 : Int32)), (.int (0 : Int32))])) _
    refine XS.icmpNo X0.here hx rfl (hb hby d1_8) rfl (tlt (by decide : (0 : Int32) < (3 : Int32))).2.1 ?_
    show Steps p.tables e below (s₁.setTop (mkF m 11 #[.val (.ref a0), .val (.int (6 : Int32)), .val (.int p2), .val (.int (6 : Int32)), .val (.int (0 : Int32))] [])) _
    refine XS.iloadN X0.here hx rfl (hb hby d1_11) rfl ?_
    show Steps p.tables e below (s₁.setTop (mkF m 12 #[.val (.ref a0), .val (.int (6 : Int32)), .val (.int p2), .val (.int (6 : Int32)), .val (.int (0 : Int32))] [(.int (6 : Int32))])) _
    refine XS.iloadN X0.here hx rfl (hb hby d1_12) rfl ?_
    exact k)
  by_cases hc13_2 : (6 : Int32) < p2
  · obtain ⟨cl3, Ar3, q3, S3, M3, H3, G3⟩ := id V_a0
    have hin3 : ¬ ((6 : Int32) < 0 ∨ cl3.slots.size ≤ ((6 : Int32)).toNatClampNeg) := inb_of S3 ⟨by decide, by decide⟩
    have hat3 : cl3.slots[((6 : Int32)).toNatClampNeg]? = some (.int x6_a0) := H3.at hin3 rfl
    have pre4 : ∀ t, Steps p.tables e below (s₁.setTop (mkF m 26 #[.val (.ref a0), .val (.int (6 : Int32)), .val (.int p2), .val (.int (6 : Int32)), .val (.int (0 : Int32))] [(.int (128 : Int32)), (.int (x6_a0 &&& (192 : Int32)))])) t → Steps p.tables e below (s₁.setTop (entryFrame m #[(.ref a0), (.int (6 : Int32)), (.int p2)] 5)) t := fun t k => pre1 t (by
      show Steps p.tables e below (s₁.setTop (mkF m 13 #[.val (.ref a0), .val (.int (6 : Int32)), .val (.int p2), .val (.int (6 : Int32)), .val (.int (0 : Int32))] [(.int p2), (.int (6 : Int32))])) _
      refine XS.icmpNo X0.here hx rfl (hb hby d1_13) rfl (tlt hc13_2).2.1 ?_
      show Steps p.tables e below (s₁.setTop (mkF m 16 #[.val (.ref a0), .val (.int (6 : Int32)), .val (.int p2), .val (.int (6 : Int32)), .val (.int (0 : Int32))] [])) _
      refine XS.aloadN X0.here hx rfl (hb hby d1_16) rfl rfl ?_
      show Steps p.tables e below (s₁.setTop (mkF m 17 #[.val (.ref a0), .val (.int (6 : Int32)), .val (.int p2), .val (.int (6 : Int32)), .val (.int (0 : Int32))] [(.ref a0)])) _
      refine XS.iloadN X0.here hx rfl (hb hby d1_17) rfl ?_
      show Steps p.tables e below (s₁.setTop (mkF m 18 #[.val (.ref a0), .val (.int (6 : Int32)), .val (.int p2), .val (.int (6 : Int32)), .val (.int (0 : Int32))] [(.int (6 : Int32)), (.ref a0)])) _
      refine X0.baloadBytes hx (j := (6 : Int32)) (v := (.int x6_a0)) (by rw [e0]; exact Ar3.1) (State.isArrayOf_alike hZ.alike Ar3.2.1) Ar3.2.2 hin3 hat3 (g := (mkF m 18 #[.val (.ref a0), .val (.int (6 : Int32)), .val (.int p2), .val (.int (6 : Int32)), .val (.int (0 : Int32))] [(.int (6 : Int32)), (.ref a0)])) rfl rfl (hb hby d1_18) _ ?_
      show Steps p.tables e below (s₁.setTop (mkF m 19 #[.val (.ref a0), .val (.int (6 : Int32)), .val (.int p2), .val (.int (6 : Int32)), .val (.int (0 : Int32))] [(.int x6_a0)])) _
      refine XS.sipush X0.here hx rfl (hb hby d1_19) ?_
      show Steps p.tables e below (s₁.setTop (mkF m 22 #[.val (.ref a0), .val (.int (6 : Int32)), .val (.int p2), .val (.int (6 : Int32)), .val (.int (0 : Int32))] [(.int (192 : Int32)), (.int x6_a0)])) _
      refine XS.iand X0.here hx rfl (hb hby d1_22) rfl ?_
      show Steps p.tables e below (s₁.setTop (mkF m 23 #[.val (.ref a0), .val (.int (6 : Int32)), .val (.int p2), .val (.int (6 : Int32)), .val (.int (0 : Int32))] [(.int (x6_a0 &&& (192 : Int32)))])) _
      refine XS.sipush X0.here hx rfl (hb hby d1_23) ?_
      exact k)
    by_cases hc26_5 : (x6_a0 &&& (192 : Int32)) = (128 : Int32)
    · obtain ⟨cl6, Ar6, q6, S6, M6, H6, G6⟩ := id V_a0
      have hin6 : ¬ ((5 : Int32) < 0 ∨ cl6.slots.size ≤ ((5 : Int32)).toNatClampNeg) := inb_of S6 ⟨by decide, by decide⟩
      have hat6 : cl6.slots[((5 : Int32)).toNatClampNeg]? = some (.int x5_a0) := H6.at hin6 rfl
      have pre7 : ∀ t, Steps p.tables e below (s₁.setTop (mkF m 26 #[.val (.ref a0), .val (.int (6 : Int32)), .val (.int p2), .val (.int (5 : Int32)), .val (.int (1 : Int32))] [(.int (128 : Int32)), (.int (x5_a0 &&& (192 : Int32)))])) t → Steps p.tables e below (s₁.setTop (entryFrame m #[(.ref a0), (.int (6 : Int32)), (.int p2)] 5)) t := fun t k => pre4 t (by
        show Steps p.tables e below (s₁.setTop (mkF m 26 #[.val (.ref a0), .val (.int (6 : Int32)), .val (.int p2), .val (.int (6 : Int32)), .val (.int (0 : Int32))] [(.int (128 : Int32)), (.int (x6_a0 &&& (192 : Int32)))])) _
        refine XS.icmpNo X0.here hx rfl (hb hby d1_26) rfl (teq hc26_5).2 ?_
        show Steps p.tables e below (s₁.setTop (mkF m 29 #[.val (.ref a0), .val (.int (6 : Int32)), .val (.int p2), .val (.int (6 : Int32)), .val (.int (0 : Int32))] [])) _
        refine XS.iinc X0.here hx rfl (hb hby d1_29) rfl (l' := #[.val (.ref a0), .val (.int (6 : Int32)), .val (.int p2), .val (.int ((6 : Int32) + (-1 : Int32))), .val (.int (0 : Int32))]) rfl ?_
        show Steps p.tables e below (s₁.setTop (mkF m 32 #[.val (.ref a0), .val (.int (6 : Int32)), .val (.int p2), .val (.int (5 : Int32)), .val (.int (0 : Int32))] [])) _
        refine XS.iinc X0.here hx rfl (hb hby d1_32) rfl (l' := #[.val (.ref a0), .val (.int (6 : Int32)), .val (.int p2), .val (.int (5 : Int32)), .val (.int ((0 : Int32) + (1 : Int32)))]) rfl ?_
        show Steps p.tables e below (s₁.setTop (mkF m 35 #[.val (.ref a0), .val (.int (6 : Int32)), .val (.int p2), .val (.int (5 : Int32)), .val (.int (1 : Int32))] [])) _
        refine XS.goto X0.here hx rfl (pc0 := 35) (pc' := 5) rfl (hb hby d1_35) (by decide) (by decide) ?_
        show Steps p.tables e below (s₁.setTop (mkF m 5 #[.val (.ref a0), .val (.int (6 : Int32)), .val (.int p2), .val (.int (5 : Int32)), .val (.int (1 : Int32))] [])) _
        refine XS.iload X0.here hx rfl (hb hby d1_5) rfl ?_
        show Steps p.tables e below (s₁.setTop (mkF m 7 #[.val (.ref a0), .val (.int (6 : Int32)), .val (.int p2), .val (.int (5 : Int32)), .val (.int (1 : Int32))] [(.int (1 : Int32))])) _
        refine XS.iconst X0.here hx rfl (hb hby d1_7) ?_
        show Steps p.tables e below (s₁.setTop (mkF m 8 #[.val (.ref a0), .val (.int (6 : Int32)), .val (.int p2), .val (.int (5 : Int32)), .val (.int (1 : Int32))] [(.int (3 : Int32)), (.int (1 : Int32))])) _
        refine XS.icmpNo X0.here hx rfl (hb hby d1_8) rfl (tlt (by decide : (1 : Int32) < (3 : Int32))).2.1 ?_
        show Steps p.tables e below (s₁.setTop (mkF m 11 #[.val (.ref a0), .val (.int (6 : Int32)), .val (.int p2), .val (.int (5 : Int32)), .val (.int (1 : Int32))] [])) _
        refine XS.iloadN X0.here hx rfl (hb hby d1_11) rfl ?_
        show Steps p.tables e below (s₁.setTop (mkF m 12 #[.val (.ref a0), .val (.int (6 : Int32)), .val (.int p2), .val (.int (5 : Int32)), .val (.int (1 : Int32))] [(.int (5 : Int32))])) _
        refine XS.iloadN X0.here hx rfl (hb hby d1_12) rfl ?_
        show Steps p.tables e below (s₁.setTop (mkF m 13 #[.val (.ref a0), .val (.int (6 : Int32)), .val (.int p2), .val (.int (5 : Int32)), .val (.int (1 : Int32))] [(.int p2), (.int (5 : Int32))])) _
        refine XS.icmpNo X0.here hx rfl (hb hby d1_13) rfl (tlt (own_lxT (own_lo2 hc13_2) (by decide))).2.1 ?_
        show Steps p.tables e below (s₁.setTop (mkF m 16 #[.val (.ref a0), .val (.int (6 : Int32)), .val (.int p2), .val (.int (5 : Int32)), .val (.int (1 : Int32))] [])) _
        refine XS.aloadN X0.here hx rfl (hb hby d1_16) rfl rfl ?_
        show Steps p.tables e below (s₁.setTop (mkF m 17 #[.val (.ref a0), .val (.int (6 : Int32)), .val (.int p2), .val (.int (5 : Int32)), .val (.int (1 : Int32))] [(.ref a0)])) _
        refine XS.iloadN X0.here hx rfl (hb hby d1_17) rfl ?_
        show Steps p.tables e below (s₁.setTop (mkF m 18 #[.val (.ref a0), .val (.int (6 : Int32)), .val (.int p2), .val (.int (5 : Int32)), .val (.int (1 : Int32))] [(.int (5 : Int32)), (.ref a0)])) _
        refine X0.baloadBytes hx (j := (5 : Int32)) (v := (.int x5_a0)) (by rw [e0]; exact Ar6.1) (State.isArrayOf_alike hZ.alike Ar6.2.1) Ar6.2.2 hin6 hat6 (g := (mkF m 18 #[.val (.ref a0), .val (.int (6 : Int32)), .val (.int p2), .val (.int (5 : Int32)), .val (.int (1 : Int32))] [(.int (5 : Int32)), (.ref a0)])) rfl rfl (hb hby d1_18) _ ?_
        show Steps p.tables e below (s₁.setTop (mkF m 19 #[.val (.ref a0), .val (.int (6 : Int32)), .val (.int p2), .val (.int (5 : Int32)), .val (.int (1 : Int32))] [(.int x5_a0)])) _
        refine XS.sipush X0.here hx rfl (hb hby d1_19) ?_
        show Steps p.tables e below (s₁.setTop (mkF m 22 #[.val (.ref a0), .val (.int (6 : Int32)), .val (.int p2), .val (.int (5 : Int32)), .val (.int (1 : Int32))] [(.int (192 : Int32)), (.int x5_a0)])) _
        refine XS.iand X0.here hx rfl (hb hby d1_22) rfl ?_
        show Steps p.tables e below (s₁.setTop (mkF m 23 #[.val (.ref a0), .val (.int (6 : Int32)), .val (.int p2), .val (.int (5 : Int32)), .val (.int (1 : Int32))] [(.int (x5_a0 &&& (192 : Int32)))])) _
        refine XS.sipush X0.here hx rfl (hb hby d1_23) ?_
        exact k)
      by_cases hc26_8 : (x5_a0 &&& (192 : Int32)) = (128 : Int32)
      · obtain ⟨cl9, Ar9, q9, S9, M9, H9, G9⟩ := id V_a0
        have hin9 : ¬ ((4 : Int32) < 0 ∨ cl9.slots.size ≤ ((4 : Int32)).toNatClampNeg) := inb_of S9 ⟨by decide, by decide⟩
        have hat9 : cl9.slots[((4 : Int32)).toNatClampNeg]? = some (.int x4_a0) := H9.at hin9 rfl
        have pre10 : ∀ t, Steps p.tables e below (s₁.setTop (mkF m 26 #[.val (.ref a0), .val (.int (6 : Int32)), .val (.int p2), .val (.int (4 : Int32)), .val (.int (2 : Int32))] [(.int (128 : Int32)), (.int (x4_a0 &&& (192 : Int32)))])) t → Steps p.tables e below (s₁.setTop (entryFrame m #[(.ref a0), (.int (6 : Int32)), (.int p2)] 5)) t := fun t k => pre7 t (by
          show Steps p.tables e below (s₁.setTop (mkF m 26 #[.val (.ref a0), .val (.int (6 : Int32)), .val (.int p2), .val (.int (5 : Int32)), .val (.int (1 : Int32))] [(.int (128 : Int32)), (.int (x5_a0 &&& (192 : Int32)))])) _
          refine XS.icmpNo X0.here hx rfl (hb hby d1_26) rfl (teq hc26_8).2 ?_
          show Steps p.tables e below (s₁.setTop (mkF m 29 #[.val (.ref a0), .val (.int (6 : Int32)), .val (.int p2), .val (.int (5 : Int32)), .val (.int (1 : Int32))] [])) _
          refine XS.iinc X0.here hx rfl (hb hby d1_29) rfl (l' := #[.val (.ref a0), .val (.int (6 : Int32)), .val (.int p2), .val (.int ((5 : Int32) + (-1 : Int32))), .val (.int (1 : Int32))]) rfl ?_
          show Steps p.tables e below (s₁.setTop (mkF m 32 #[.val (.ref a0), .val (.int (6 : Int32)), .val (.int p2), .val (.int (4 : Int32)), .val (.int (1 : Int32))] [])) _
          refine XS.iinc X0.here hx rfl (hb hby d1_32) rfl (l' := #[.val (.ref a0), .val (.int (6 : Int32)), .val (.int p2), .val (.int (4 : Int32)), .val (.int ((1 : Int32) + (1 : Int32)))]) rfl ?_
          show Steps p.tables e below (s₁.setTop (mkF m 35 #[.val (.ref a0), .val (.int (6 : Int32)), .val (.int p2), .val (.int (4 : Int32)), .val (.int (2 : Int32))] [])) _
          refine XS.goto X0.here hx rfl (pc0 := 35) (pc' := 5) rfl (hb hby d1_35) (by decide) (by decide) ?_
          show Steps p.tables e below (s₁.setTop (mkF m 5 #[.val (.ref a0), .val (.int (6 : Int32)), .val (.int p2), .val (.int (4 : Int32)), .val (.int (2 : Int32))] [])) _
          refine XS.iload X0.here hx rfl (hb hby d1_5) rfl ?_
          show Steps p.tables e below (s₁.setTop (mkF m 7 #[.val (.ref a0), .val (.int (6 : Int32)), .val (.int p2), .val (.int (4 : Int32)), .val (.int (2 : Int32))] [(.int (2 : Int32))])) _
          refine XS.iconst X0.here hx rfl (hb hby d1_7) ?_
          show Steps p.tables e below (s₁.setTop (mkF m 8 #[.val (.ref a0), .val (.int (6 : Int32)), .val (.int p2), .val (.int (4 : Int32)), .val (.int (2 : Int32))] [(.int (3 : Int32)), (.int (2 : Int32))])) _
          refine XS.icmpNo X0.here hx rfl (hb hby d1_8) rfl (tlt (by decide : (2 : Int32) < (3 : Int32))).2.1 ?_
          show Steps p.tables e below (s₁.setTop (mkF m 11 #[.val (.ref a0), .val (.int (6 : Int32)), .val (.int p2), .val (.int (4 : Int32)), .val (.int (2 : Int32))] [])) _
          refine XS.iloadN X0.here hx rfl (hb hby d1_11) rfl ?_
          show Steps p.tables e below (s₁.setTop (mkF m 12 #[.val (.ref a0), .val (.int (6 : Int32)), .val (.int p2), .val (.int (4 : Int32)), .val (.int (2 : Int32))] [(.int (4 : Int32))])) _
          refine XS.iloadN X0.here hx rfl (hb hby d1_12) rfl ?_
          show Steps p.tables e below (s₁.setTop (mkF m 13 #[.val (.ref a0), .val (.int (6 : Int32)), .val (.int p2), .val (.int (4 : Int32)), .val (.int (2 : Int32))] [(.int p2), (.int (4 : Int32))])) _
          refine XS.icmpNo X0.here hx rfl (hb hby d1_13) rfl (tlt (own_lxT (own_lo2 hc13_2) (by decide))).2.1 ?_
          show Steps p.tables e below (s₁.setTop (mkF m 16 #[.val (.ref a0), .val (.int (6 : Int32)), .val (.int p2), .val (.int (4 : Int32)), .val (.int (2 : Int32))] [])) _
          refine XS.aloadN X0.here hx rfl (hb hby d1_16) rfl rfl ?_
          show Steps p.tables e below (s₁.setTop (mkF m 17 #[.val (.ref a0), .val (.int (6 : Int32)), .val (.int p2), .val (.int (4 : Int32)), .val (.int (2 : Int32))] [(.ref a0)])) _
          refine XS.iloadN X0.here hx rfl (hb hby d1_17) rfl ?_
          show Steps p.tables e below (s₁.setTop (mkF m 18 #[.val (.ref a0), .val (.int (6 : Int32)), .val (.int p2), .val (.int (4 : Int32)), .val (.int (2 : Int32))] [(.int (4 : Int32)), (.ref a0)])) _
          refine X0.baloadBytes hx (j := (4 : Int32)) (v := (.int x4_a0)) (by rw [e0]; exact Ar9.1) (State.isArrayOf_alike hZ.alike Ar9.2.1) Ar9.2.2 hin9 hat9 (g := (mkF m 18 #[.val (.ref a0), .val (.int (6 : Int32)), .val (.int p2), .val (.int (4 : Int32)), .val (.int (2 : Int32))] [(.int (4 : Int32)), (.ref a0)])) rfl rfl (hb hby d1_18) _ ?_
          show Steps p.tables e below (s₁.setTop (mkF m 19 #[.val (.ref a0), .val (.int (6 : Int32)), .val (.int p2), .val (.int (4 : Int32)), .val (.int (2 : Int32))] [(.int x4_a0)])) _
          refine XS.sipush X0.here hx rfl (hb hby d1_19) ?_
          show Steps p.tables e below (s₁.setTop (mkF m 22 #[.val (.ref a0), .val (.int (6 : Int32)), .val (.int p2), .val (.int (4 : Int32)), .val (.int (2 : Int32))] [(.int (192 : Int32)), (.int x4_a0)])) _
          refine XS.iand X0.here hx rfl (hb hby d1_22) rfl ?_
          show Steps p.tables e below (s₁.setTop (mkF m 23 #[.val (.ref a0), .val (.int (6 : Int32)), .val (.int p2), .val (.int (4 : Int32)), .val (.int (2 : Int32))] [(.int (x4_a0 &&& (192 : Int32)))])) _
          refine XS.sipush X0.here hx rfl (hb hby d1_23) ?_
          exact k)
        by_cases hc26_11 : (x4_a0 &&& (192 : Int32)) = (128 : Int32)
        · have pre12 : ∀ t, Steps p.tables e below (s₁.setTop (mkF m 39 #[.val (.ref a0), .val (.int (6 : Int32)), .val (.int p2), .val (.int (3 : Int32)), .val (.int (3 : Int32))] [(.int (3 : Int32))])) t → Steps p.tables e below (s₁.setTop (entryFrame m #[(.ref a0), (.int (6 : Int32)), (.int p2)] 5)) t := fun t k => pre10 t (by
            show Steps p.tables e below (s₁.setTop (mkF m 26 #[.val (.ref a0), .val (.int (6 : Int32)), .val (.int p2), .val (.int (4 : Int32)), .val (.int (2 : Int32))] [(.int (128 : Int32)), (.int (x4_a0 &&& (192 : Int32)))])) _
            refine XS.icmpNo X0.here hx rfl (hb hby d1_26) rfl (teq hc26_11).2 ?_
            show Steps p.tables e below (s₁.setTop (mkF m 29 #[.val (.ref a0), .val (.int (6 : Int32)), .val (.int p2), .val (.int (4 : Int32)), .val (.int (2 : Int32))] [])) _
            refine XS.iinc X0.here hx rfl (hb hby d1_29) rfl (l' := #[.val (.ref a0), .val (.int (6 : Int32)), .val (.int p2), .val (.int ((4 : Int32) + (-1 : Int32))), .val (.int (2 : Int32))]) rfl ?_
            show Steps p.tables e below (s₁.setTop (mkF m 32 #[.val (.ref a0), .val (.int (6 : Int32)), .val (.int p2), .val (.int (3 : Int32)), .val (.int (2 : Int32))] [])) _
            refine XS.iinc X0.here hx rfl (hb hby d1_32) rfl (l' := #[.val (.ref a0), .val (.int (6 : Int32)), .val (.int p2), .val (.int (3 : Int32)), .val (.int ((2 : Int32) + (1 : Int32)))]) rfl ?_
            show Steps p.tables e below (s₁.setTop (mkF m 35 #[.val (.ref a0), .val (.int (6 : Int32)), .val (.int p2), .val (.int (3 : Int32)), .val (.int (3 : Int32))] [])) _
            refine XS.goto X0.here hx rfl (pc0 := 35) (pc' := 5) rfl (hb hby d1_35) (by decide) (by decide) ?_
            show Steps p.tables e below (s₁.setTop (mkF m 5 #[.val (.ref a0), .val (.int (6 : Int32)), .val (.int p2), .val (.int (3 : Int32)), .val (.int (3 : Int32))] [])) _
            refine XS.iload X0.here hx rfl (hb hby d1_5) rfl ?_
            show Steps p.tables e below (s₁.setTop (mkF m 7 #[.val (.ref a0), .val (.int (6 : Int32)), .val (.int p2), .val (.int (3 : Int32)), .val (.int (3 : Int32))] [(.int (3 : Int32))])) _
            refine XS.iconst X0.here hx rfl (hb hby d1_7) ?_
            show Steps p.tables e below (s₁.setTop (mkF m 8 #[.val (.ref a0), .val (.int (6 : Int32)), .val (.int p2), .val (.int (3 : Int32)), .val (.int (3 : Int32))] [(.int (3 : Int32)), (.int (3 : Int32))])) _
            refine XS.icmpYes X0.here hx rfl (pc0 := 8) (pc' := 38) rfl (hb hby d1_8) rfl (flt (by decide : ¬ ((3 : Int32) < (3 : Int32)))).2.1 (by decide) (by decide) ?_
            show Steps p.tables e below (s₁.setTop (mkF m 38 #[.val (.ref a0), .val (.int (6 : Int32)), .val (.int p2), .val (.int (3 : Int32)), .val (.int (3 : Int32))] [])) _
            refine XS.iloadN X0.here hx rfl (hb hby d1_38) rfl ?_
            exact k)
          obtain ⟨fs, hr, hrun, hended, hW, hsame⟩ := X0.leave (v := some (.int (3 : Int32))) (fun h => by rw [Bd.returns] at h; cases h) hlk
          have hF : (F1_6 p2 x0_a0 x1_a0 x2_a0 x3_a0 x4_a0 x5_a0 x6_a0 x7_a0) = (3 : Int32) := by unfold F1_6; rw [if_pos hc13_2, if_pos hc26_5, if_pos hc26_8, if_pos hc26_11]
          exact ⟨_, _, pre12 _ (retI X0 hx Bd.returns (hb hby d1_39) hr), hrun, hended, _, _, rfl, ⟨by rw [hF], N0, e0⟩, ⟨_, rfl⟩, hW, hsame.mono (by decide) (by decide)⟩
        have pre13 : ∀ t, Steps p.tables e below (s₁.setTop (mkF m 39 #[.val (.ref a0), .val (.int (6 : Int32)), .val (.int p2), .val (.int (4 : Int32)), .val (.int (2 : Int32))] [(.int (4 : Int32))])) t → Steps p.tables e below (s₁.setTop (entryFrame m #[(.ref a0), (.int (6 : Int32)), (.int p2)] 5)) t := fun t k => pre10 t (by
          show Steps p.tables e below (s₁.setTop (mkF m 26 #[.val (.ref a0), .val (.int (6 : Int32)), .val (.int p2), .val (.int (4 : Int32)), .val (.int (2 : Int32))] [(.int (128 : Int32)), (.int (x4_a0 &&& (192 : Int32)))])) _
          refine XS.icmpYes X0.here hx rfl (pc0 := 26) (pc' := 38) rfl (hb hby d1_26) rfl (feq hc26_11).2 (by decide) (by decide) ?_
          show Steps p.tables e below (s₁.setTop (mkF m 38 #[.val (.ref a0), .val (.int (6 : Int32)), .val (.int p2), .val (.int (4 : Int32)), .val (.int (2 : Int32))] [])) _
          refine XS.iloadN X0.here hx rfl (hb hby d1_38) rfl ?_
          exact k)
        obtain ⟨fs, hr, hrun, hended, hW, hsame⟩ := X0.leave (v := some (.int (4 : Int32))) (fun h => by rw [Bd.returns] at h; cases h) hlk
        have hF : (F1_6 p2 x0_a0 x1_a0 x2_a0 x3_a0 x4_a0 x5_a0 x6_a0 x7_a0) = (4 : Int32) := by unfold F1_6; rw [if_pos hc13_2, if_pos hc26_5, if_pos hc26_8, if_neg hc26_11]
        exact ⟨_, _, pre13 _ (retI X0 hx Bd.returns (hb hby d1_39) hr), hrun, hended, _, _, rfl, ⟨by rw [hF], N0, e0⟩, ⟨_, rfl⟩, hW, hsame.mono (by decide) (by decide)⟩
      have pre14 : ∀ t, Steps p.tables e below (s₁.setTop (mkF m 39 #[.val (.ref a0), .val (.int (6 : Int32)), .val (.int p2), .val (.int (5 : Int32)), .val (.int (1 : Int32))] [(.int (5 : Int32))])) t → Steps p.tables e below (s₁.setTop (entryFrame m #[(.ref a0), (.int (6 : Int32)), (.int p2)] 5)) t := fun t k => pre7 t (by
        show Steps p.tables e below (s₁.setTop (mkF m 26 #[.val (.ref a0), .val (.int (6 : Int32)), .val (.int p2), .val (.int (5 : Int32)), .val (.int (1 : Int32))] [(.int (128 : Int32)), (.int (x5_a0 &&& (192 : Int32)))])) _
        refine XS.icmpYes X0.here hx rfl (pc0 := 26) (pc' := 38) rfl (hb hby d1_26) rfl (feq hc26_8).2 (by decide) (by decide) ?_
        show Steps p.tables e below (s₁.setTop (mkF m 38 #[.val (.ref a0), .val (.int (6 : Int32)), .val (.int p2), .val (.int (5 : Int32)), .val (.int (1 : Int32))] [])) _
        refine XS.iloadN X0.here hx rfl (hb hby d1_38) rfl ?_
        exact k)
      obtain ⟨fs, hr, hrun, hended, hW, hsame⟩ := X0.leave (v := some (.int (5 : Int32))) (fun h => by rw [Bd.returns] at h; cases h) hlk
      have hF : (F1_6 p2 x0_a0 x1_a0 x2_a0 x3_a0 x4_a0 x5_a0 x6_a0 x7_a0) = (5 : Int32) := by unfold F1_6; rw [if_pos hc13_2, if_pos hc26_5, if_neg hc26_8]
      exact ⟨_, _, pre14 _ (retI X0 hx Bd.returns (hb hby d1_39) hr), hrun, hended, _, _, rfl, ⟨by rw [hF], N0, e0⟩, ⟨_, rfl⟩, hW, hsame.mono (by decide) (by decide)⟩
    have pre15 : ∀ t, Steps p.tables e below (s₁.setTop (mkF m 39 #[.val (.ref a0), .val (.int (6 : Int32)), .val (.int p2), .val (.int (6 : Int32)), .val (.int (0 : Int32))] [(.int (6 : Int32))])) t → Steps p.tables e below (s₁.setTop (entryFrame m #[(.ref a0), (.int (6 : Int32)), (.int p2)] 5)) t := fun t k => pre4 t (by
      show Steps p.tables e below (s₁.setTop (mkF m 26 #[.val (.ref a0), .val (.int (6 : Int32)), .val (.int p2), .val (.int (6 : Int32)), .val (.int (0 : Int32))] [(.int (128 : Int32)), (.int (x6_a0 &&& (192 : Int32)))])) _
      refine XS.icmpYes X0.here hx rfl (pc0 := 26) (pc' := 38) rfl (hb hby d1_26) rfl (feq hc26_5).2 (by decide) (by decide) ?_
      show Steps p.tables e below (s₁.setTop (mkF m 38 #[.val (.ref a0), .val (.int (6 : Int32)), .val (.int p2), .val (.int (6 : Int32)), .val (.int (0 : Int32))] [])) _
      refine XS.iloadN X0.here hx rfl (hb hby d1_38) rfl ?_
      exact k)
    obtain ⟨fs, hr, hrun, hended, hW, hsame⟩ := X0.leave (v := some (.int (6 : Int32))) (fun h => by rw [Bd.returns] at h; cases h) hlk
    have hF : (F1_6 p2 x0_a0 x1_a0 x2_a0 x3_a0 x4_a0 x5_a0 x6_a0 x7_a0) = (6 : Int32) := by unfold F1_6; rw [if_pos hc13_2, if_neg hc26_5]
    exact ⟨_, _, pre15 _ (retI X0 hx Bd.returns (hb hby d1_39) hr), hrun, hended, _, _, rfl, ⟨by rw [hF], N0, e0⟩, ⟨_, rfl⟩, hW, hsame.mono (by decide) (by decide)⟩
  have pre16 : ∀ t, Steps p.tables e below (s₁.setTop (mkF m 39 #[.val (.ref a0), .val (.int (6 : Int32)), .val (.int p2), .val (.int (6 : Int32)), .val (.int (0 : Int32))] [(.int (6 : Int32))])) t → Steps p.tables e below (s₁.setTop (entryFrame m #[(.ref a0), (.int (6 : Int32)), (.int p2)] 5)) t := fun t k => pre1 t (by
    show Steps p.tables e below (s₁.setTop (mkF m 13 #[.val (.ref a0), .val (.int (6 : Int32)), .val (.int p2), .val (.int (6 : Int32)), .val (.int (0 : Int32))] [(.int p2), (.int (6 : Int32))])) _
    refine XS.icmpYes X0.here hx rfl (pc0 := 13) (pc' := 38) rfl (hb hby d1_13) rfl (flt hc13_2).2.1 (by decide) (by decide) ?_
    show Steps p.tables e below (s₁.setTop (mkF m 38 #[.val (.ref a0), .val (.int (6 : Int32)), .val (.int p2), .val (.int (6 : Int32)), .val (.int (0 : Int32))] [])) _
    refine XS.iloadN X0.here hx rfl (hb hby d1_38) rfl ?_
    exact k)
  obtain ⟨fs, hr, hrun, hended, hW, hsame⟩ := X0.leave (v := some (.int (6 : Int32))) (fun h => by rw [Bd.returns] at h; cases h) hlk
  have hF : (F1_6 p2 x0_a0 x1_a0 x2_a0 x3_a0 x4_a0 x5_a0 x6_a0 x7_a0) = (6 : Int32) := by unfold F1_6; rw [if_neg hc13_2]
  exact ⟨_, _, pre16 _ (retI X0 hx Bd.returns (hb hby d1_39) hr), hrun, hended, _, _, rfl, ⟨by rw [hF], N0, e0⟩, ⟨_, rfl⟩, hW, hsame.mono (by decide) (by decide)⟩
def f0_v0 (q0 : Int64) (p1 : Int32) (p2 : Int32) : Int64 := ((q0.toUInt64 >>> ((8 : Int32) &&& 0x3f).toInt64.toUInt64).toInt64)
def f0_v1 (q0 : Int64) (p1 : Int32) (p2 : Int32) : Int32 := (((f0_v0 q0 p1 p2).toInt32).toInt8.toInt32)
def f0_v2 (q0 : Int64) (p1 : Int32) (p2 : Int32) : Int64 := ((q0.toUInt64 >>> ((16 : Int32) &&& 0x3f).toInt64.toUInt64).toInt64)
def f0_v3 (q0 : Int64) (p1 : Int32) (p2 : Int32) : Int32 := (((f0_v2 q0 p1 p2).toInt32).toInt8.toInt32)
def f0_v4 (q0 : Int64) (p1 : Int32) (p2 : Int32) : Int64 := ((q0.toUInt64 >>> ((24 : Int32) &&& 0x3f).toInt64.toUInt64).toInt64)
def f0_v5 (q0 : Int64) (p1 : Int32) (p2 : Int32) : Int32 := (((f0_v4 q0 p1 p2).toInt32).toInt8.toInt32)
def f0_v6 (q0 : Int64) (p1 : Int32) (p2 : Int32) : Int64 := ((q0.toUInt64 >>> ((32 : Int32) &&& 0x3f).toInt64.toUInt64).toInt64)
def f0_v7 (q0 : Int64) (p1 : Int32) (p2 : Int32) : Int32 := (((f0_v6 q0 p1 p2).toInt32).toInt8.toInt32)
def f0_v8 (q0 : Int64) (p1 : Int32) (p2 : Int32) : Int64 := ((q0.toUInt64 >>> ((40 : Int32) &&& 0x3f).toInt64.toUInt64).toInt64)
def f0_v9 (q0 : Int64) (p1 : Int32) (p2 : Int32) : Int32 := (((f0_v8 q0 p1 p2).toInt32).toInt8.toInt32)
def f0_v10 (q0 : Int64) (p1 : Int32) (p2 : Int32) : Int64 := ((q0.toUInt64 >>> ((48 : Int32) &&& 0x3f).toInt64.toUInt64).toInt64)
def f0_v11 (q0 : Int64) (p1 : Int32) (p2 : Int32) : Int32 := (((f0_v10 q0 p1 p2).toInt32).toInt8.toInt32)
def f0_v12 (q0 : Int64) (p1 : Int32) (p2 : Int32) : Int64 := ((q0.toUInt64 >>> ((56 : Int32) &&& 0x3f).toInt64.toUInt64).toInt64)
def f0_v13 (q0 : Int64) (p1 : Int32) (p2 : Int32) : Int32 := (((f0_v12 q0 p1 p2).toInt32).toInt8.toInt32)
def f0_v14 (q0 : Int64) (p1 : Int32) (p2 : Int32) : Int32 := ((p2 &&& (2147483647 : Int32)) % (6 : Int32))
def f0_v15 (q0 : Int64) (p1 : Int32) (p2 : Int32) : Int32 := (F1_3 ((3 : Int32) + (f0_v14 q0 p1 p2)) (((q0.toInt32).toInt8.toInt32).toInt8.toInt32) ((f0_v1 q0 p1 p2).toInt8.toInt32) ((f0_v3 q0 p1 p2).toInt8.toInt32) ((f0_v5 q0 p1 p2).toInt8.toInt32) ((f0_v7 q0 p1 p2).toInt8.toInt32) ((f0_v9 q0 p1 p2).toInt8.toInt32) ((f0_v11 q0 p1 p2).toInt8.toInt32) ((f0_v13 q0 p1 p2).toInt8.toInt32))
def f0_m41 (q0 : Int64) (p1 : Int32) (p2 : Int32) : Int32 := (if (3 : Int32) = ((3 : Int32) + (f0_v14 q0 p1 p2)) then (3 : Int32) else (if (F2 ((f0_v5 q0 p1 p2).toInt8.toInt32)) = (0 : Int32) then (3 : Int32) else (if (F2 ((f0_v3 q0 p1 p2).toInt8.toInt32)) = (0 : Int32) then (2 : Int32) else (if (F2 ((f0_v1 q0 p1 p2).toInt8.toInt32)) = (0 : Int32) then (1 : Int32) else (0 : Int32)))))
def f0_v16 (q0 : Int64) (p1 : Int32) (p2 : Int32) : Int32 := ((p2 &&& (2147483647 : Int32)) % (5 : Int32))
def f0_v17 (q0 : Int64) (p1 : Int32) (p2 : Int32) : Int32 := (F1_4 ((4 : Int32) + (f0_v16 q0 p1 p2)) (((q0.toInt32).toInt8.toInt32).toInt8.toInt32) ((f0_v1 q0 p1 p2).toInt8.toInt32) ((f0_v3 q0 p1 p2).toInt8.toInt32) ((f0_v5 q0 p1 p2).toInt8.toInt32) ((f0_v7 q0 p1 p2).toInt8.toInt32) ((f0_v9 q0 p1 p2).toInt8.toInt32) ((f0_v11 q0 p1 p2).toInt8.toInt32) ((f0_v13 q0 p1 p2).toInt8.toInt32))
def f0_m68 (q0 : Int64) (p1 : Int32) (p2 : Int32) : Int32 := (if (4 : Int32) = ((4 : Int32) + (f0_v16 q0 p1 p2)) then (4 : Int32) else (if (F2 ((f0_v7 q0 p1 p2).toInt8.toInt32)) = (0 : Int32) then (4 : Int32) else (if (F2 ((f0_v5 q0 p1 p2).toInt8.toInt32)) = (0 : Int32) then (3 : Int32) else (if (F2 ((f0_v3 q0 p1 p2).toInt8.toInt32)) = (0 : Int32) then (2 : Int32) else (1 : Int32)))))
def f0_v18 (q0 : Int64) (p1 : Int32) (p2 : Int32) : Int32 := ((p2 &&& (2147483647 : Int32)) % (4 : Int32))
def f0_v19 (q0 : Int64) (p1 : Int32) (p2 : Int32) : Int32 := (F1_5 ((5 : Int32) + (f0_v18 q0 p1 p2)) (((q0.toInt32).toInt8.toInt32).toInt8.toInt32) ((f0_v1 q0 p1 p2).toInt8.toInt32) ((f0_v3 q0 p1 p2).toInt8.toInt32) ((f0_v5 q0 p1 p2).toInt8.toInt32) ((f0_v7 q0 p1 p2).toInt8.toInt32) ((f0_v9 q0 p1 p2).toInt8.toInt32) ((f0_v11 q0 p1 p2).toInt8.toInt32) ((f0_v13 q0 p1 p2).toInt8.toInt32))
def f0_m95 (q0 : Int64) (p1 : Int32) (p2 : Int32) : Int32 := (if (5 : Int32) = ((5 : Int32) + (f0_v18 q0 p1 p2)) then (5 : Int32) else (if (F2 ((f0_v9 q0 p1 p2).toInt8.toInt32)) = (0 : Int32) then (5 : Int32) else (if (F2 ((f0_v7 q0 p1 p2).toInt8.toInt32)) = (0 : Int32) then (4 : Int32) else (if (F2 ((f0_v5 q0 p1 p2).toInt8.toInt32)) = (0 : Int32) then (3 : Int32) else (2 : Int32)))))
def f0_v20 (q0 : Int64) (p1 : Int32) (p2 : Int32) : Int32 := ((p2 &&& (2147483647 : Int32)) % (3 : Int32))
def f0_v21 (q0 : Int64) (p1 : Int32) (p2 : Int32) : Int32 := (F1_6 ((6 : Int32) + (f0_v20 q0 p1 p2)) (((q0.toInt32).toInt8.toInt32).toInt8.toInt32) ((f0_v1 q0 p1 p2).toInt8.toInt32) ((f0_v3 q0 p1 p2).toInt8.toInt32) ((f0_v5 q0 p1 p2).toInt8.toInt32) ((f0_v7 q0 p1 p2).toInt8.toInt32) ((f0_v9 q0 p1 p2).toInt8.toInt32) ((f0_v11 q0 p1 p2).toInt8.toInt32) ((f0_v13 q0 p1 p2).toInt8.toInt32))
def f0_m122 (q0 : Int64) (p1 : Int32) (p2 : Int32) : Int32 := (if (6 : Int32) = ((6 : Int32) + (f0_v20 q0 p1 p2)) then (6 : Int32) else (if (F2 ((f0_v11 q0 p1 p2).toInt8.toInt32)) = (0 : Int32) then (6 : Int32) else (if (F2 ((f0_v9 q0 p1 p2).toInt8.toInt32)) = (0 : Int32) then (5 : Int32) else (if (F2 ((f0_v7 q0 p1 p2).toInt8.toInt32)) = (0 : Int32) then (4 : Int32) else (3 : Int32)))))
def F0 (q0 : Int64) (p1 : Int32) (p2 : Int32) : Int32 := (if ((3 : Int32) + (p1 &&& (3 : Int32))) = (3 : Int32) then (if (f0_v15 q0 p1 p2) = (f0_m41 q0 p1 p2) then (1 : Int32) else (0 : Int32)) else (if ((3 : Int32) + (p1 &&& (3 : Int32))) = (4 : Int32) then (if (f0_v17 q0 p1 p2) = (f0_m68 q0 p1 p2) then (1 : Int32) else (0 : Int32)) else (if ((3 : Int32) + (p1 &&& (3 : Int32))) = (5 : Int32) then (if (f0_v19 q0 p1 p2) = (f0_m95 q0 p1 p2) then (1 : Int32) else (0 : Int32)) else (if (f0_v21 q0 p1 p2) = (f0_m122 q0 p1 p2) then (1 : Int32) else (0 : Int32)))))
theorem own_q (x : Int32) : (3 : Int32) + (x &&& 3) = 3 ∨ (3 : Int32) + (x &&& 3) = 4 ∨ (3 : Int32) + (x &&& 3) = 5 ∨ (3 : Int32) + (x &&& 3) = 6 := by
  have r : (x &&& (3 : Int32)).toInt = x.toInt % (2 ^ 2 : Nat) := c_mask x 3 2 (by decide) (by decide)
  have q : (x &&& (3 : Int32)).toInt = 0 ∨ (x &&& (3 : Int32)).toInt = 1 ∨ (x &&& (3 : Int32)).toInt = 2 ∨ (x &&& (3 : Int32)).toInt = 3 := by omega
  rcases q with q | q | q | q
  · rw [show x &&& 3 = 0 from Int32.toInt_inj.mp q]; decide
  · rw [show x &&& 3 = 1 from Int32.toInt_inj.mp q]; decide
  · rw [show x &&& 3 = 2 from Int32.toInt_inj.mp q]; decide
  · rw [show x &&& 3 = 3 from Int32.toInt_inj.mp q]; decide
theorem own_q3 (x : Int32) (h0 : ¬ (3 : Int32) + (x &&& 3) = 3) (h1 : ¬ (3 : Int32) + (x &&& 3) = 4) (h2 : ¬ (3 : Int32) + (x &&& 3) = 5) : (3 : Int32) + (x &&& 3) = 6 := by
  rcases own_q x with h | h | h | h
  · exact absurd h h0
  · exact absurd h h1
  · exact absurd h h2
  · exact h
theorem ef0 (m : MethodId) (x0 : Int64) (x1 : Int32) (x2 : Int32) : entryFrame m #[(.long x0), (.int x1), (.int x2)] maxLocals = mkF m 0 #[.val (.long x0), .second, .val (.int x1), .val (.int x2), .unset, .unset, .unset, .unset, .unset] [] := by first | (simp [entryFrame, mkF, argsToLocals, Value.category, maxLocals]; done) | rfl
def Q0 (Z : State) (q0 : Int64) (p1 : Int32) (p2 : Int32) (h0 : Heap) (n0 : Nat) (v : Option Value) (h : Heap) (L : List Loc) : Prop := v = some (.int (F0 q0 p1 p2)) ∧ Fr n0 L
set_option maxRecDepth 65536 in
set_option maxHeartbeats 40000000 in
theorem rm0 (l : Launch) (Z : State) (a0' : Array Value) (hw : ∀ d ∈ tables_1, d.before a0' Z = true) (ws : List Jvm.Cond) (q0 : Int64) (p1 : Int32) (p2 : Int32) (h0 : Heap) (n0 : Nat) (Z0 : n0 ≤ h0.size) :
    MetFree l x (head1 (Jvm.Cond.code x code maxLocals ret :: ws) room_1) (fun a U => a = #[(.long q0), (.int p1), (.int p2)] ∧ Z.Warmed39 U.vm ∧ U.heap = h0) (fun _ _ _ _ _ => True) (fun _ U o U' => ∃ v L, o = .returned v ∧ Q0 Z q0 p1 p2 h0 n0 v U'.heap L ∧ FrameEnd U o U' L 1 8) := by
  refine MetFree.of_bodySF (plainFor_of_name pn0) hisR ?_
  intro p e s m args below meth c s₁ Bd hml0 hP hK
  obtain ⟨rfl, hZ, hh⟩ := hP
  have hx := Bd.exec
  have hby := Bd.bytes
  have hml : c.maxLocals = 9 := hml0
  have hown : s.vm.findClass "com/example/tenon/tenon/Utf8CutPinLaw" = some m.cls := findClass_of_methodNamed Bd.named
  have hnm := (name_of_methodNamed Bd.named Bd.method).1
  have X0 : Stand p l e room_1 s m #[(.long q0), (.int p1), (.int p2)] below meth c s₁ [] 0 0 := Stand.of_body Bd
  have e0 : s₁.heap = h0 := by rw [← hh, Bd.state]; rfl
  have N0 := Fr.nil n0
  have hlk : meth.locks = false := by first | exact BodyLoose.notSynchronized Bd | exact Body.notSynchronized Bd
  have pre0 : ∀ t, Steps p.tables e below (s₁.setTop (mkF m 0 #[.val (.long q0), .second, .val (.int p1), .val (.int p2), .unset, .unset, .unset, .unset, .unset] [])) t → Steps p.tables e below (s₁.setTop (entryFrame m #[(.long q0), (.int p1), (.int p2)] maxLocals)) t := fun t k => castTop (ef0 m q0 p1 p2) k
  obtain ⟨T1, h1, k1, X1, e1, E1, A1, st1⟩ := newP X0 hx hZ (hw _ (List.mem_of_getElem? (i := 0) rfl)) e0 (g := (mkF m 2 #[.val (.long q0), .second, .val (.int p1), .val (.int p2), .unset, .unset, .unset, .unset, .unset] [(.int (8 : Int32))])) rfl (hb hby at_2) rfl (by decide) (cap := 8) (by decide) (by decide) (by decide) (by decide)
  obtain ⟨b1, g1⟩ : ∃ z, z = h0.size := ⟨_, rfl⟩
  rw [← g1] at A1 st1
  have g_b1 : n0 ≤ b1 := Nat.le_trans Z0 (Nat.le_of_eq g1.symm)
  have Z1 : n0 ≤ h1.size := Nat.le_trans Z0 E1.1
  have V1 : Arv Z h1 b1 k1 .byte (8 : Int32) [(.int (0 : Int32)), (.int (0 : Int32)), (.int (0 : Int32)), (.int (0 : Int32)), (.int (0 : Int32)), (.int (0 : Int32)), (.int (0 : Int32)), (.int (0 : Int32))] (.int (0 : Int32)) := (Arv.new A1 (by decide)).pad (pad_rep [] (.int (0 : Int32)) 8)
  obtain ⟨cl2, Ar2, q2, S2, M2, H2, G2⟩ := id V1
  have hin2 : ¬ ((0 : Int32) < 0 ∨ cl2.slots.size ≤ ((0 : Int32)).toNatClampNeg) := inb_of S2 ⟨by decide, by decide⟩
  obtain ⟨T3, h3, X3, e3, W3, st3⟩ := stB X1 hx hZ e1 Ar2 (j := (0 : Int32)) hin2 (g := (mkF m 12 #[.val (.long q0), .second, .val (.int p1), .val (.int p2), .val (.ref b1), .unset, .unset, .unset, .unset] [(.int ((q0.toInt32).toInt8.toInt32)), (.int (0 : Int32)), (.ref b1)])) rfl rfl (hb hby at_12)
  have Z3 : n0 ≤ h3.size := Nat.le_trans Z1 (Keep.of_wr W3).1
  have N3 := Fr.snoc X3 N0 g_b1
  have V3 : Arv Z h3 b1 k1 .byte (8 : Int32) [(.int (((q0.toInt32).toInt8.toInt32).toInt8.toInt32)), (.int (0 : Int32)), (.int (0 : Int32)), (.int (0 : Int32)), (.int (0 : Int32)), (.int (0 : Int32)), (.int (0 : Int32)), (.int (0 : Int32))] (.int (0 : Int32)) := Arv.set Ar2 q2 S2 M2 H2 G2 (fits_nar_byte _) W3 0 rfl (Nat.le_of_ble_eq_true rfl)
  obtain ⟨cl4, Ar4, q4, S4, M4, H4, G4⟩ := id V3
  have hin4 : ¬ ((1 : Int32) < 0 ∨ cl4.slots.size ≤ ((1 : Int32)).toNatClampNeg) := inb_of S4 ⟨by decide, by decide⟩
  obtain ⟨T5, h5, X5, e5, W5, st5⟩ := stB X3 hx hZ e3 Ar4 (j := (1 : Int32)) hin4 (g := (mkF m 22 #[.val (.long q0), .second, .val (.int p1), .val (.int p2), .val (.ref b1), .unset, .unset, .unset, .unset] [(.int (f0_v1 q0 p1 p2)), (.int (1 : Int32)), (.ref b1)])) rfl rfl (hb hby at_22)
  have Z5 : n0 ≤ h5.size := Nat.le_trans Z3 (Keep.of_wr W5).1
  have N5 := Fr.snoc X5 N3 g_b1
  have V5 : Arv Z h5 b1 k1 .byte (8 : Int32) [(.int (((q0.toInt32).toInt8.toInt32).toInt8.toInt32)), (.int ((f0_v1 q0 p1 p2).toInt8.toInt32)), (.int (0 : Int32)), (.int (0 : Int32)), (.int (0 : Int32)), (.int (0 : Int32)), (.int (0 : Int32)), (.int (0 : Int32))] (.int (0 : Int32)) := Arv.set Ar4 q4 S4 M4 H4 G4 (fits_nar_byte _) W5 1 rfl (Nat.le_of_ble_eq_true rfl)
  obtain ⟨cl6, Ar6, q6, S6, M6, H6, G6⟩ := id V5
  have hin6 : ¬ ((2 : Int32) < 0 ∨ cl6.slots.size ≤ ((2 : Int32)).toNatClampNeg) := inb_of S6 ⟨by decide, by decide⟩
  obtain ⟨T7, h7, X7, e7, W7, st7⟩ := stB X5 hx hZ e5 Ar6 (j := (2 : Int32)) hin6 (g := (mkF m 32 #[.val (.long q0), .second, .val (.int p1), .val (.int p2), .val (.ref b1), .unset, .unset, .unset, .unset] [(.int (f0_v3 q0 p1 p2)), (.int (2 : Int32)), (.ref b1)])) rfl rfl (hb hby at_32)
  have Z7 : n0 ≤ h7.size := Nat.le_trans Z5 (Keep.of_wr W7).1
  have N7 := Fr.snoc X7 N5 g_b1
  have V7 : Arv Z h7 b1 k1 .byte (8 : Int32) [(.int (((q0.toInt32).toInt8.toInt32).toInt8.toInt32)), (.int ((f0_v1 q0 p1 p2).toInt8.toInt32)), (.int ((f0_v3 q0 p1 p2).toInt8.toInt32)), (.int (0 : Int32)), (.int (0 : Int32)), (.int (0 : Int32)), (.int (0 : Int32)), (.int (0 : Int32))] (.int (0 : Int32)) := Arv.set Ar6 q6 S6 M6 H6 G6 (fits_nar_byte _) W7 2 rfl (Nat.le_of_ble_eq_true rfl)
  obtain ⟨cl8, Ar8, q8, S8, M8, H8, G8⟩ := id V7
  have hin8 : ¬ ((3 : Int32) < 0 ∨ cl8.slots.size ≤ ((3 : Int32)).toNatClampNeg) := inb_of S8 ⟨by decide, by decide⟩
  obtain ⟨T9, h9, X9, e9, W9, st9⟩ := stB X7 hx hZ e7 Ar8 (j := (3 : Int32)) hin8 (g := (mkF m 42 #[.val (.long q0), .second, .val (.int p1), .val (.int p2), .val (.ref b1), .unset, .unset, .unset, .unset] [(.int (f0_v5 q0 p1 p2)), (.int (3 : Int32)), (.ref b1)])) rfl rfl (hb hby at_42)
  have Z9 : n0 ≤ h9.size := Nat.le_trans Z7 (Keep.of_wr W9).1
  have N9 := Fr.snoc X9 N7 g_b1
  have V9 : Arv Z h9 b1 k1 .byte (8 : Int32) [(.int (((q0.toInt32).toInt8.toInt32).toInt8.toInt32)), (.int ((f0_v1 q0 p1 p2).toInt8.toInt32)), (.int ((f0_v3 q0 p1 p2).toInt8.toInt32)), (.int ((f0_v5 q0 p1 p2).toInt8.toInt32)), (.int (0 : Int32)), (.int (0 : Int32)), (.int (0 : Int32)), (.int (0 : Int32))] (.int (0 : Int32)) := Arv.set Ar8 q8 S8 M8 H8 G8 (fits_nar_byte _) W9 3 rfl (Nat.le_of_ble_eq_true rfl)
  obtain ⟨cl10, Ar10, q10, S10, M10, H10, G10⟩ := id V9
  have hin10 : ¬ ((4 : Int32) < 0 ∨ cl10.slots.size ≤ ((4 : Int32)).toNatClampNeg) := inb_of S10 ⟨by decide, by decide⟩
  obtain ⟨T11, h11, X11, e11, W11, st11⟩ := stB X9 hx hZ e9 Ar10 (j := (4 : Int32)) hin10 (g := (mkF m 52 #[.val (.long q0), .second, .val (.int p1), .val (.int p2), .val (.ref b1), .unset, .unset, .unset, .unset] [(.int (f0_v7 q0 p1 p2)), (.int (4 : Int32)), (.ref b1)])) rfl rfl (hb hby at_52)
  have Z11 : n0 ≤ h11.size := Nat.le_trans Z9 (Keep.of_wr W11).1
  have N11 := Fr.snoc X11 N9 g_b1
  have V11 : Arv Z h11 b1 k1 .byte (8 : Int32) [(.int (((q0.toInt32).toInt8.toInt32).toInt8.toInt32)), (.int ((f0_v1 q0 p1 p2).toInt8.toInt32)), (.int ((f0_v3 q0 p1 p2).toInt8.toInt32)), (.int ((f0_v5 q0 p1 p2).toInt8.toInt32)), (.int ((f0_v7 q0 p1 p2).toInt8.toInt32)), (.int (0 : Int32)), (.int (0 : Int32)), (.int (0 : Int32))] (.int (0 : Int32)) := Arv.set Ar10 q10 S10 M10 H10 G10 (fits_nar_byte _) W11 4 rfl (Nat.le_of_ble_eq_true rfl)
  obtain ⟨cl12, Ar12, q12, S12, M12, H12, G12⟩ := id V11
  have hin12 : ¬ ((5 : Int32) < 0 ∨ cl12.slots.size ≤ ((5 : Int32)).toNatClampNeg) := inb_of S12 ⟨by decide, by decide⟩
  obtain ⟨T13, h13, X13, e13, W13, st13⟩ := stB X11 hx hZ e11 Ar12 (j := (5 : Int32)) hin12 (g := (mkF m 62 #[.val (.long q0), .second, .val (.int p1), .val (.int p2), .val (.ref b1), .unset, .unset, .unset, .unset] [(.int (f0_v9 q0 p1 p2)), (.int (5 : Int32)), (.ref b1)])) rfl rfl (hb hby at_62)
  have Z13 : n0 ≤ h13.size := Nat.le_trans Z11 (Keep.of_wr W13).1
  have N13 := Fr.snoc X13 N11 g_b1
  have V13 : Arv Z h13 b1 k1 .byte (8 : Int32) [(.int (((q0.toInt32).toInt8.toInt32).toInt8.toInt32)), (.int ((f0_v1 q0 p1 p2).toInt8.toInt32)), (.int ((f0_v3 q0 p1 p2).toInt8.toInt32)), (.int ((f0_v5 q0 p1 p2).toInt8.toInt32)), (.int ((f0_v7 q0 p1 p2).toInt8.toInt32)), (.int ((f0_v9 q0 p1 p2).toInt8.toInt32)), (.int (0 : Int32)), (.int (0 : Int32))] (.int (0 : Int32)) := Arv.set Ar12 q12 S12 M12 H12 G12 (fits_nar_byte _) W13 5 rfl (Nat.le_of_ble_eq_true rfl)
  obtain ⟨cl14, Ar14, q14, S14, M14, H14, G14⟩ := id V13
  have hin14 : ¬ ((6 : Int32) < 0 ∨ cl14.slots.size ≤ ((6 : Int32)).toNatClampNeg) := inb_of S14 ⟨by decide, by decide⟩
  obtain ⟨T15, h15, X15, e15, W15, st15⟩ := stB X13 hx hZ e13 Ar14 (j := (6 : Int32)) hin14 (g := (mkF m 73 #[.val (.long q0), .second, .val (.int p1), .val (.int p2), .val (.ref b1), .unset, .unset, .unset, .unset] [(.int (f0_v11 q0 p1 p2)), (.int (6 : Int32)), (.ref b1)])) rfl rfl (hb hby at_73)
  have Z15 : n0 ≤ h15.size := Nat.le_trans Z13 (Keep.of_wr W15).1
  have N15 := Fr.snoc X15 N13 g_b1
  have V15 : Arv Z h15 b1 k1 .byte (8 : Int32) [(.int (((q0.toInt32).toInt8.toInt32).toInt8.toInt32)), (.int ((f0_v1 q0 p1 p2).toInt8.toInt32)), (.int ((f0_v3 q0 p1 p2).toInt8.toInt32)), (.int ((f0_v5 q0 p1 p2).toInt8.toInt32)), (.int ((f0_v7 q0 p1 p2).toInt8.toInt32)), (.int ((f0_v9 q0 p1 p2).toInt8.toInt32)), (.int ((f0_v11 q0 p1 p2).toInt8.toInt32)), (.int (0 : Int32))] (.int (0 : Int32)) := Arv.set Ar14 q14 S14 M14 H14 G14 (fits_nar_byte _) W15 6 rfl (Nat.le_of_ble_eq_true rfl)
  obtain ⟨cl16, Ar16, q16, S16, M16, H16, G16⟩ := id V15
  have hin16 : ¬ ((7 : Int32) < 0 ∨ cl16.slots.size ≤ ((7 : Int32)).toNatClampNeg) := inb_of S16 ⟨by decide, by decide⟩
  obtain ⟨T17, h17, X17, e17, W17, st17⟩ := stB X15 hx hZ e15 Ar16 (j := (7 : Int32)) hin16 (g := (mkF m 84 #[.val (.long q0), .second, .val (.int p1), .val (.int p2), .val (.ref b1), .unset, .unset, .unset, .unset] [(.int (f0_v13 q0 p1 p2)), (.int (7 : Int32)), (.ref b1)])) rfl rfl (hb hby at_84)
  have Z17 : n0 ≤ h17.size := Nat.le_trans Z15 (Keep.of_wr W17).1
  have N17 := Fr.snoc X17 N15 g_b1
  have V17 : Arv Z h17 b1 k1 .byte (8 : Int32) [(.int (((q0.toInt32).toInt8.toInt32).toInt8.toInt32)), (.int ((f0_v1 q0 p1 p2).toInt8.toInt32)), (.int ((f0_v3 q0 p1 p2).toInt8.toInt32)), (.int ((f0_v5 q0 p1 p2).toInt8.toInt32)), (.int ((f0_v7 q0 p1 p2).toInt8.toInt32)), (.int ((f0_v9 q0 p1 p2).toInt8.toInt32)), (.int ((f0_v11 q0 p1 p2).toInt8.toInt32)), (.int ((f0_v13 q0 p1 p2).toInt8.toInt32))] (.int (0 : Int32)) := Arv.set Ar16 q16 S16 M16 H16 G16 (fits_nar_byte _) W17 7 rfl (Nat.le_of_ble_eq_true rfl)
  have pre18 : ∀ t, Steps p.tables e below (T17.setTop (mkF m 92 #[.val (.long q0), .second, .val (.int p1), .val (.int p2), .val (.ref b1), .val (.int ((3 : Int32) + (p1 &&& (3 : Int32)))), .unset, .unset, .unset] [])) t → Steps p.tables e below (s₁.setTop (entryFrame m #[(.long q0), (.int p1), (.int p2)] maxLocals)) t := fun t k => pre0 t (by
    show Steps p.tables e below (s₁.setTop (mkF m 0 #[.val (.long q0), .second, .val (.int p1), .val (.int p2), .unset, .unset, .unset, .unset, .unset] [])) _
    refine XS.bipush X0.here hx rfl (hb hby at_0) ?_
    show Steps p.tables e below (s₁.setTop (mkF m 2 #[.val (.long q0), .second, .val (.int p1), .val (.int p2), .unset, .unset, .unset, .unset, .unset] [(.int (8 : Int32))])) _
    refine st1 _ ?_
    show Steps p.tables e below (T1.setTop (mkF m 4 #[.val (.long q0), .second, .val (.int p1), .val (.int p2), .unset, .unset, .unset, .unset, .unset] [(.ref b1)])) _
    refine XS.astore X1.here hx rfl (hb hby at_4) rfl rfl (l' := #[.val (.long q0), .second, .val (.int p1), .val (.int p2), .val (.ref b1), .unset, .unset, .unset, .unset]) rfl ?_
    show Steps p.tables e below (T1.setTop (mkF m 6 #[.val (.long q0), .second, .val (.int p1), .val (.int p2), .val (.ref b1), .unset, .unset, .unset, .unset] [])) _
    refine XS.aload X1.here hx rfl (hb hby at_6) rfl rfl ?_
    show Steps p.tables e below (T1.setTop (mkF m 8 #[.val (.long q0), .second, .val (.int p1), .val (.int p2), .val (.ref b1), .unset, .unset, .unset, .unset] [(.ref b1)])) _
    refine XS.iconst X1.here hx rfl (hb hby at_8) ?_
    show Steps p.tables e below (T1.setTop (mkF m 9 #[.val (.long q0), .second, .val (.int p1), .val (.int p2), .val (.ref b1), .unset, .unset, .unset, .unset] [(.int (0 : Int32)), (.ref b1)])) _
    refine XS.lloadN X1.here hx rfl (hb hby at_9) rfl ?_
    show Steps p.tables e below (T1.setTop (mkF m 10 #[.val (.long q0), .second, .val (.int p1), .val (.int p2), .val (.ref b1), .unset, .unset, .unset, .unset] [(.long q0), (.int (0 : Int32)), (.ref b1)])) _
    refine XS.l2i X1.here hx rfl (hb hby at_10) rfl ?_
    show Steps p.tables e below (T1.setTop (mkF m 11 #[.val (.long q0), .second, .val (.int p1), .val (.int p2), .val (.ref b1), .unset, .unset, .unset, .unset] [(.int (q0.toInt32)), (.int (0 : Int32)), (.ref b1)])) _
    refine XS.i2b X1.here hx rfl (hb hby at_11) rfl ?_
    show Steps p.tables e below (T1.setTop (mkF m 12 #[.val (.long q0), .second, .val (.int p1), .val (.int p2), .val (.ref b1), .unset, .unset, .unset, .unset] [(.int ((q0.toInt32).toInt8.toInt32)), (.int (0 : Int32)), (.ref b1)])) _
    refine st3 _ ?_
    show Steps p.tables e below (T3.setTop (mkF m 13 #[.val (.long q0), .second, .val (.int p1), .val (.int p2), .val (.ref b1), .unset, .unset, .unset, .unset] [])) _
    refine XS.aload X3.here hx rfl (hb hby at_13) rfl rfl ?_
    show Steps p.tables e below (T3.setTop (mkF m 15 #[.val (.long q0), .second, .val (.int p1), .val (.int p2), .val (.ref b1), .unset, .unset, .unset, .unset] [(.ref b1)])) _
    refine XS.iconst X3.here hx rfl (hb hby at_15) ?_
    show Steps p.tables e below (T3.setTop (mkF m 16 #[.val (.long q0), .second, .val (.int p1), .val (.int p2), .val (.ref b1), .unset, .unset, .unset, .unset] [(.int (1 : Int32)), (.ref b1)])) _
    refine XS.lloadN X3.here hx rfl (hb hby at_16) rfl ?_
    show Steps p.tables e below (T3.setTop (mkF m 17 #[.val (.long q0), .second, .val (.int p1), .val (.int p2), .val (.ref b1), .unset, .unset, .unset, .unset] [(.long q0), (.int (1 : Int32)), (.ref b1)])) _
    refine XS.bipush X3.here hx rfl (hb hby at_17) ?_
    show Steps p.tables e below (T3.setTop (mkF m 19 #[.val (.long q0), .second, .val (.int p1), .val (.int p2), .val (.ref b1), .unset, .unset, .unset, .unset] [(.int (8 : Int32)), (.long q0), (.int (1 : Int32)), (.ref b1)])) _
    refine XS.lushr X3.here hx rfl (hb hby at_19) rfl ?_
    show Steps p.tables e below (T3.setTop (mkF m 20 #[.val (.long q0), .second, .val (.int p1), .val (.int p2), .val (.ref b1), .unset, .unset, .unset, .unset] [(.long (f0_v0 q0 p1 p2)), (.int (1 : Int32)), (.ref b1)])) _
    refine XS.l2i X3.here hx rfl (hb hby at_20) rfl ?_
    show Steps p.tables e below (T3.setTop (mkF m 21 #[.val (.long q0), .second, .val (.int p1), .val (.int p2), .val (.ref b1), .unset, .unset, .unset, .unset] [(.int ((f0_v0 q0 p1 p2).toInt32)), (.int (1 : Int32)), (.ref b1)])) _
    refine XS.i2b X3.here hx rfl (hb hby at_21) rfl ?_
    show Steps p.tables e below (T3.setTop (mkF m 22 #[.val (.long q0), .second, .val (.int p1), .val (.int p2), .val (.ref b1), .unset, .unset, .unset, .unset] [(.int (f0_v1 q0 p1 p2)), (.int (1 : Int32)), (.ref b1)])) _
    refine st5 _ ?_
    show Steps p.tables e below (T5.setTop (mkF m 23 #[.val (.long q0), .second, .val (.int p1), .val (.int p2), .val (.ref b1), .unset, .unset, .unset, .unset] [])) _
    refine XS.aload X5.here hx rfl (hb hby at_23) rfl rfl ?_
    show Steps p.tables e below (T5.setTop (mkF m 25 #[.val (.long q0), .second, .val (.int p1), .val (.int p2), .val (.ref b1), .unset, .unset, .unset, .unset] [(.ref b1)])) _
    refine XS.iconst X5.here hx rfl (hb hby at_25) ?_
    show Steps p.tables e below (T5.setTop (mkF m 26 #[.val (.long q0), .second, .val (.int p1), .val (.int p2), .val (.ref b1), .unset, .unset, .unset, .unset] [(.int (2 : Int32)), (.ref b1)])) _
    refine XS.lloadN X5.here hx rfl (hb hby at_26) rfl ?_
    show Steps p.tables e below (T5.setTop (mkF m 27 #[.val (.long q0), .second, .val (.int p1), .val (.int p2), .val (.ref b1), .unset, .unset, .unset, .unset] [(.long q0), (.int (2 : Int32)), (.ref b1)])) _
    refine XS.bipush X5.here hx rfl (hb hby at_27) ?_
    show Steps p.tables e below (T5.setTop (mkF m 29 #[.val (.long q0), .second, .val (.int p1), .val (.int p2), .val (.ref b1), .unset, .unset, .unset, .unset] [(.int (16 : Int32)), (.long q0), (.int (2 : Int32)), (.ref b1)])) _
    refine XS.lushr X5.here hx rfl (hb hby at_29) rfl ?_
    show Steps p.tables e below (T5.setTop (mkF m 30 #[.val (.long q0), .second, .val (.int p1), .val (.int p2), .val (.ref b1), .unset, .unset, .unset, .unset] [(.long (f0_v2 q0 p1 p2)), (.int (2 : Int32)), (.ref b1)])) _
    refine XS.l2i X5.here hx rfl (hb hby at_30) rfl ?_
    show Steps p.tables e below (T5.setTop (mkF m 31 #[.val (.long q0), .second, .val (.int p1), .val (.int p2), .val (.ref b1), .unset, .unset, .unset, .unset] [(.int ((f0_v2 q0 p1 p2).toInt32)), (.int (2 : Int32)), (.ref b1)])) _
    refine XS.i2b X5.here hx rfl (hb hby at_31) rfl ?_
    show Steps p.tables e below (T5.setTop (mkF m 32 #[.val (.long q0), .second, .val (.int p1), .val (.int p2), .val (.ref b1), .unset, .unset, .unset, .unset] [(.int (f0_v3 q0 p1 p2)), (.int (2 : Int32)), (.ref b1)])) _
    refine st7 _ ?_
    show Steps p.tables e below (T7.setTop (mkF m 33 #[.val (.long q0), .second, .val (.int p1), .val (.int p2), .val (.ref b1), .unset, .unset, .unset, .unset] [])) _
    refine XS.aload X7.here hx rfl (hb hby at_33) rfl rfl ?_
    show Steps p.tables e below (T7.setTop (mkF m 35 #[.val (.long q0), .second, .val (.int p1), .val (.int p2), .val (.ref b1), .unset, .unset, .unset, .unset] [(.ref b1)])) _
    refine XS.iconst X7.here hx rfl (hb hby at_35) ?_
    show Steps p.tables e below (T7.setTop (mkF m 36 #[.val (.long q0), .second, .val (.int p1), .val (.int p2), .val (.ref b1), .unset, .unset, .unset, .unset] [(.int (3 : Int32)), (.ref b1)])) _
    refine XS.lloadN X7.here hx rfl (hb hby at_36) rfl ?_
    show Steps p.tables e below (T7.setTop (mkF m 37 #[.val (.long q0), .second, .val (.int p1), .val (.int p2), .val (.ref b1), .unset, .unset, .unset, .unset] [(.long q0), (.int (3 : Int32)), (.ref b1)])) _
    refine XS.bipush X7.here hx rfl (hb hby at_37) ?_
    show Steps p.tables e below (T7.setTop (mkF m 39 #[.val (.long q0), .second, .val (.int p1), .val (.int p2), .val (.ref b1), .unset, .unset, .unset, .unset] [(.int (24 : Int32)), (.long q0), (.int (3 : Int32)), (.ref b1)])) _
    refine XS.lushr X7.here hx rfl (hb hby at_39) rfl ?_
    show Steps p.tables e below (T7.setTop (mkF m 40 #[.val (.long q0), .second, .val (.int p1), .val (.int p2), .val (.ref b1), .unset, .unset, .unset, .unset] [(.long (f0_v4 q0 p1 p2)), (.int (3 : Int32)), (.ref b1)])) _
    refine XS.l2i X7.here hx rfl (hb hby at_40) rfl ?_
    show Steps p.tables e below (T7.setTop (mkF m 41 #[.val (.long q0), .second, .val (.int p1), .val (.int p2), .val (.ref b1), .unset, .unset, .unset, .unset] [(.int ((f0_v4 q0 p1 p2).toInt32)), (.int (3 : Int32)), (.ref b1)])) _
    refine XS.i2b X7.here hx rfl (hb hby at_41) rfl ?_
    show Steps p.tables e below (T7.setTop (mkF m 42 #[.val (.long q0), .second, .val (.int p1), .val (.int p2), .val (.ref b1), .unset, .unset, .unset, .unset] [(.int (f0_v5 q0 p1 p2)), (.int (3 : Int32)), (.ref b1)])) _
    refine st9 _ ?_
    show Steps p.tables e below (T9.setTop (mkF m 43 #[.val (.long q0), .second, .val (.int p1), .val (.int p2), .val (.ref b1), .unset, .unset, .unset, .unset] [])) _
    refine XS.aload X9.here hx rfl (hb hby at_43) rfl rfl ?_
    show Steps p.tables e below (T9.setTop (mkF m 45 #[.val (.long q0), .second, .val (.int p1), .val (.int p2), .val (.ref b1), .unset, .unset, .unset, .unset] [(.ref b1)])) _
    refine XS.iconst X9.here hx rfl (hb hby at_45) ?_
    show Steps p.tables e below (T9.setTop (mkF m 46 #[.val (.long q0), .second, .val (.int p1), .val (.int p2), .val (.ref b1), .unset, .unset, .unset, .unset] [(.int (4 : Int32)), (.ref b1)])) _
    refine XS.lloadN X9.here hx rfl (hb hby at_46) rfl ?_
    show Steps p.tables e below (T9.setTop (mkF m 47 #[.val (.long q0), .second, .val (.int p1), .val (.int p2), .val (.ref b1), .unset, .unset, .unset, .unset] [(.long q0), (.int (4 : Int32)), (.ref b1)])) _
    refine XS.bipush X9.here hx rfl (hb hby at_47) ?_
    show Steps p.tables e below (T9.setTop (mkF m 49 #[.val (.long q0), .second, .val (.int p1), .val (.int p2), .val (.ref b1), .unset, .unset, .unset, .unset] [(.int (32 : Int32)), (.long q0), (.int (4 : Int32)), (.ref b1)])) _
    refine XS.lushr X9.here hx rfl (hb hby at_49) rfl ?_
    show Steps p.tables e below (T9.setTop (mkF m 50 #[.val (.long q0), .second, .val (.int p1), .val (.int p2), .val (.ref b1), .unset, .unset, .unset, .unset] [(.long (f0_v6 q0 p1 p2)), (.int (4 : Int32)), (.ref b1)])) _
    refine XS.l2i X9.here hx rfl (hb hby at_50) rfl ?_
    show Steps p.tables e below (T9.setTop (mkF m 51 #[.val (.long q0), .second, .val (.int p1), .val (.int p2), .val (.ref b1), .unset, .unset, .unset, .unset] [(.int ((f0_v6 q0 p1 p2).toInt32)), (.int (4 : Int32)), (.ref b1)])) _
    refine XS.i2b X9.here hx rfl (hb hby at_51) rfl ?_
    show Steps p.tables e below (T9.setTop (mkF m 52 #[.val (.long q0), .second, .val (.int p1), .val (.int p2), .val (.ref b1), .unset, .unset, .unset, .unset] [(.int (f0_v7 q0 p1 p2)), (.int (4 : Int32)), (.ref b1)])) _
    refine st11 _ ?_
    show Steps p.tables e below (T11.setTop (mkF m 53 #[.val (.long q0), .second, .val (.int p1), .val (.int p2), .val (.ref b1), .unset, .unset, .unset, .unset] [])) _
    refine XS.aload X11.here hx rfl (hb hby at_53) rfl rfl ?_
    show Steps p.tables e below (T11.setTop (mkF m 55 #[.val (.long q0), .second, .val (.int p1), .val (.int p2), .val (.ref b1), .unset, .unset, .unset, .unset] [(.ref b1)])) _
    refine XS.iconst X11.here hx rfl (hb hby at_55) ?_
    show Steps p.tables e below (T11.setTop (mkF m 56 #[.val (.long q0), .second, .val (.int p1), .val (.int p2), .val (.ref b1), .unset, .unset, .unset, .unset] [(.int (5 : Int32)), (.ref b1)])) _
    refine XS.lloadN X11.here hx rfl (hb hby at_56) rfl ?_
    show Steps p.tables e below (T11.setTop (mkF m 57 #[.val (.long q0), .second, .val (.int p1), .val (.int p2), .val (.ref b1), .unset, .unset, .unset, .unset] [(.long q0), (.int (5 : Int32)), (.ref b1)])) _
    refine XS.bipush X11.here hx rfl (hb hby at_57) ?_
    show Steps p.tables e below (T11.setTop (mkF m 59 #[.val (.long q0), .second, .val (.int p1), .val (.int p2), .val (.ref b1), .unset, .unset, .unset, .unset] [(.int (40 : Int32)), (.long q0), (.int (5 : Int32)), (.ref b1)])) _
    refine XS.lushr X11.here hx rfl (hb hby at_59) rfl ?_
    show Steps p.tables e below (T11.setTop (mkF m 60 #[.val (.long q0), .second, .val (.int p1), .val (.int p2), .val (.ref b1), .unset, .unset, .unset, .unset] [(.long (f0_v8 q0 p1 p2)), (.int (5 : Int32)), (.ref b1)])) _
    refine XS.l2i X11.here hx rfl (hb hby at_60) rfl ?_
    show Steps p.tables e below (T11.setTop (mkF m 61 #[.val (.long q0), .second, .val (.int p1), .val (.int p2), .val (.ref b1), .unset, .unset, .unset, .unset] [(.int ((f0_v8 q0 p1 p2).toInt32)), (.int (5 : Int32)), (.ref b1)])) _
    refine XS.i2b X11.here hx rfl (hb hby at_61) rfl ?_
    show Steps p.tables e below (T11.setTop (mkF m 62 #[.val (.long q0), .second, .val (.int p1), .val (.int p2), .val (.ref b1), .unset, .unset, .unset, .unset] [(.int (f0_v9 q0 p1 p2)), (.int (5 : Int32)), (.ref b1)])) _
    refine st13 _ ?_
    show Steps p.tables e below (T13.setTop (mkF m 63 #[.val (.long q0), .second, .val (.int p1), .val (.int p2), .val (.ref b1), .unset, .unset, .unset, .unset] [])) _
    refine XS.aload X13.here hx rfl (hb hby at_63) rfl rfl ?_
    show Steps p.tables e below (T13.setTop (mkF m 65 #[.val (.long q0), .second, .val (.int p1), .val (.int p2), .val (.ref b1), .unset, .unset, .unset, .unset] [(.ref b1)])) _
    refine XS.bipush X13.here hx rfl (hb hby at_65) ?_
    show Steps p.tables e below (T13.setTop (mkF m 67 #[.val (.long q0), .second, .val (.int p1), .val (.int p2), .val (.ref b1), .unset, .unset, .unset, .unset] [(.int (6 : Int32)), (.ref b1)])) _
    refine XS.lloadN X13.here hx rfl (hb hby at_67) rfl ?_
    show Steps p.tables e below (T13.setTop (mkF m 68 #[.val (.long q0), .second, .val (.int p1), .val (.int p2), .val (.ref b1), .unset, .unset, .unset, .unset] [(.long q0), (.int (6 : Int32)), (.ref b1)])) _
    refine XS.bipush X13.here hx rfl (hb hby at_68) ?_
    show Steps p.tables e below (T13.setTop (mkF m 70 #[.val (.long q0), .second, .val (.int p1), .val (.int p2), .val (.ref b1), .unset, .unset, .unset, .unset] [(.int (48 : Int32)), (.long q0), (.int (6 : Int32)), (.ref b1)])) _
    refine XS.lushr X13.here hx rfl (hb hby at_70) rfl ?_
    show Steps p.tables e below (T13.setTop (mkF m 71 #[.val (.long q0), .second, .val (.int p1), .val (.int p2), .val (.ref b1), .unset, .unset, .unset, .unset] [(.long (f0_v10 q0 p1 p2)), (.int (6 : Int32)), (.ref b1)])) _
    refine XS.l2i X13.here hx rfl (hb hby at_71) rfl ?_
    show Steps p.tables e below (T13.setTop (mkF m 72 #[.val (.long q0), .second, .val (.int p1), .val (.int p2), .val (.ref b1), .unset, .unset, .unset, .unset] [(.int ((f0_v10 q0 p1 p2).toInt32)), (.int (6 : Int32)), (.ref b1)])) _
    refine XS.i2b X13.here hx rfl (hb hby at_72) rfl ?_
    show Steps p.tables e below (T13.setTop (mkF m 73 #[.val (.long q0), .second, .val (.int p1), .val (.int p2), .val (.ref b1), .unset, .unset, .unset, .unset] [(.int (f0_v11 q0 p1 p2)), (.int (6 : Int32)), (.ref b1)])) _
    refine st15 _ ?_
    show Steps p.tables e below (T15.setTop (mkF m 74 #[.val (.long q0), .second, .val (.int p1), .val (.int p2), .val (.ref b1), .unset, .unset, .unset, .unset] [])) _
    refine XS.aload X15.here hx rfl (hb hby at_74) rfl rfl ?_
    show Steps p.tables e below (T15.setTop (mkF m 76 #[.val (.long q0), .second, .val (.int p1), .val (.int p2), .val (.ref b1), .unset, .unset, .unset, .unset] [(.ref b1)])) _
    refine XS.bipush X15.here hx rfl (hb hby at_76) ?_
    show Steps p.tables e below (T15.setTop (mkF m 78 #[.val (.long q0), .second, .val (.int p1), .val (.int p2), .val (.ref b1), .unset, .unset, .unset, .unset] [(.int (7 : Int32)), (.ref b1)])) _
    refine XS.lloadN X15.here hx rfl (hb hby at_78) rfl ?_
    show Steps p.tables e below (T15.setTop (mkF m 79 #[.val (.long q0), .second, .val (.int p1), .val (.int p2), .val (.ref b1), .unset, .unset, .unset, .unset] [(.long q0), (.int (7 : Int32)), (.ref b1)])) _
    refine XS.bipush X15.here hx rfl (hb hby at_79) ?_
    show Steps p.tables e below (T15.setTop (mkF m 81 #[.val (.long q0), .second, .val (.int p1), .val (.int p2), .val (.ref b1), .unset, .unset, .unset, .unset] [(.int (56 : Int32)), (.long q0), (.int (7 : Int32)), (.ref b1)])) _
    refine XS.lushr X15.here hx rfl (hb hby at_81) rfl ?_
    show Steps p.tables e below (T15.setTop (mkF m 82 #[.val (.long q0), .second, .val (.int p1), .val (.int p2), .val (.ref b1), .unset, .unset, .unset, .unset] [(.long (f0_v12 q0 p1 p2)), (.int (7 : Int32)), (.ref b1)])) _
    refine XS.l2i X15.here hx rfl (hb hby at_82) rfl ?_
    show Steps p.tables e below (T15.setTop (mkF m 83 #[.val (.long q0), .second, .val (.int p1), .val (.int p2), .val (.ref b1), .unset, .unset, .unset, .unset] [(.int ((f0_v12 q0 p1 p2).toInt32)), (.int (7 : Int32)), (.ref b1)])) _
    refine XS.i2b X15.here hx rfl (hb hby at_83) rfl ?_
    show Steps p.tables e below (T15.setTop (mkF m 84 #[.val (.long q0), .second, .val (.int p1), .val (.int p2), .val (.ref b1), .unset, .unset, .unset, .unset] [(.int (f0_v13 q0 p1 p2)), (.int (7 : Int32)), (.ref b1)])) _
    refine st17 _ ?_
    show Steps p.tables e below (T17.setTop (mkF m 85 #[.val (.long q0), .second, .val (.int p1), .val (.int p2), .val (.ref b1), .unset, .unset, .unset, .unset] [])) _
    refine XS.iconst X17.here hx rfl (hb hby at_85) ?_
    show Steps p.tables e below (T17.setTop (mkF m 86 #[.val (.long q0), .second, .val (.int p1), .val (.int p2), .val (.ref b1), .unset, .unset, .unset, .unset] [(.int (3 : Int32))])) _
    refine XS.iloadN X17.here hx rfl (hb hby at_86) rfl ?_
    show Steps p.tables e below (T17.setTop (mkF m 87 #[.val (.long q0), .second, .val (.int p1), .val (.int p2), .val (.ref b1), .unset, .unset, .unset, .unset] [(.int p1), (.int (3 : Int32))])) _
    refine XS.iconst X17.here hx rfl (hb hby at_87) ?_
    show Steps p.tables e below (T17.setTop (mkF m 88 #[.val (.long q0), .second, .val (.int p1), .val (.int p2), .val (.ref b1), .unset, .unset, .unset, .unset] [(.int (3 : Int32)), (.int p1), (.int (3 : Int32))])) _
    refine XS.iand X17.here hx rfl (hb hby at_88) rfl ?_
    show Steps p.tables e below (T17.setTop (mkF m 89 #[.val (.long q0), .second, .val (.int p1), .val (.int p2), .val (.ref b1), .unset, .unset, .unset, .unset] [(.int (p1 &&& (3 : Int32))), (.int (3 : Int32))])) _
    refine XS.iadd X17.here hx rfl (hb hby at_89) rfl ?_
    show Steps p.tables e below (T17.setTop (mkF m 90 #[.val (.long q0), .second, .val (.int p1), .val (.int p2), .val (.ref b1), .unset, .unset, .unset, .unset] [(.int ((3 : Int32) + (p1 &&& (3 : Int32))))])) _
    refine XS.istore X17.here hx rfl (hb hby at_90) rfl (l' := #[.val (.long q0), .second, .val (.int p1), .val (.int p2), .val (.ref b1), .val (.int ((3 : Int32) + (p1 &&& (3 : Int32)))), .unset, .unset, .unset]) rfl ?_
    exact k)
  by_cases hv19 : ((3 : Int32) + (p1 &&& (3 : Int32))) = (3 : Int32)
  · have pre20 := pre18
    rw [hv19] at pre20
    obtain ⟨_, _, ⟨T21, L21, k21, n21⟩, -, X21, ⟨Lc21, hQ21, l21, y21, z21⟩, st21⟩ := Jvm.LawKit.callS X17 hx (y := (⟨"com/example/tenon/tenon/Utf8", "cut", "([BII)I"⟩ : MethodName)) hown (mvT hZ (hw _ (List.mem_of_getElem? (i := 2) rfl))) (mvT hZ (hw _ (List.mem_of_getElem? (i := 3) rfl))) (mvT hZ (hw _ (List.mem_of_getElem? (i := 4) rfl))) (mvT hZ (hw _ (List.mem_of_getElem? (i := 5) rfl))) (by decide) (backOf (W := 0) (rm1_3 l Z a0' hw [] b1 ((3 : Int32) + (f0_v14 q0 p1 p2)) (((q0.toInt32).toInt8.toInt32).toInt8.toInt32) ((f0_v1 q0 p1 p2).toInt8.toInt32) ((f0_v3 q0 p1 p2).toInt8.toInt32) ((f0_v5 q0 p1 p2).toInt8.toInt32) ((f0_v7 q0 p1 p2).toInt8.toInt32) ((f0_v9 q0 p1 p2).toInt8.toInt32) ((f0_v11 q0 p1 p2).toInt8.toInt32) ((f0_v13 q0 p1 p2).toInt8.toInt32) k1 h17 n0 Z17 V17) hZ (hw _ (List.mem_of_getElem? (i := 5) rfl)) (hw _ (List.mem_of_getElem? (i := 4) rfl)) (by decide) (by decide)) (g := (mkF m 113 #[.val (.long q0), .second, .val (.int p1), .val (.int p2), .val (.ref b1), .val (.int (3 : Int32)), .val (.int ((3 : Int32) + (f0_v14 q0 p1 p2))), .unset, .unset] [(.int ((3 : Int32) + (f0_v14 q0 p1 p2))), (.int (3 : Int32)), (.ref b1)])) rfl (by rw [hml]; rfl) (argsL := [(.ref b1), (.int (3 : Int32)), (.int ((3 : Int32) + (f0_v14 q0 p1 p2)))]) (rest := []) (lenOf pd0 rfl) rfl (by show 2 * 0 + _ ≤ _; exact Nat.le_of_eq rfl) (hb hby at_113) (fun _ _ => ⟨rfl, e17, (by decide : 1 + 0 ≤ _), (by decide : 8 + 0 ≤ _)⟩)
    dsimp only [Pt.U, Pt.locs, Pt.cells, Pt.slots] at X21 l21 y21 z21 st21 hQ21
    subst l21 y21 z21
    obtain ⟨rfl, N21q, e21⟩ := hQ21
    have N21 := Fr.app N17 N21q
    have pre22 : ∀ t, Steps p.tables e below (T21.setTop (mkF m 122 #[.val (.long q0), .second, .val (.int p1), .val (.int p2), .val (.ref b1), .val (.int (3 : Int32)), .val (.int ((3 : Int32) + (f0_v14 q0 p1 p2))), .val (.int (f0_v15 q0 p1 p2)), .unset] [(.int ((3 : Int32) + (f0_v14 q0 p1 p2))), (.int (3 : Int32))])) t → Steps p.tables e below (s₁.setTop (entryFrame m #[(.long q0), (.int p1), (.int p2)] maxLocals)) t := fun t k => pre20 t (by
      show Steps p.tables e below (T17.setTop (mkF m 92 #[.val (.long q0), .second, .val (.int p1), .val (.int p2), .val (.ref b1), .val (.int (3 : Int32)), .unset, .unset, .unset] [])) _
      refine XS.iload X17.here hx rfl (hb hby at_92) rfl ?_
      show Steps p.tables e below (T17.setTop (mkF m 94 #[.val (.long q0), .second, .val (.int p1), .val (.int p2), .val (.ref b1), .val (.int (3 : Int32)), .unset, .unset, .unset] [(.int (3 : Int32))])) _
      refine XS.iloadN X17.here hx rfl (hb hby at_94) rfl ?_
      show Steps p.tables e below (T17.setTop (mkF m 95 #[.val (.long q0), .second, .val (.int p1), .val (.int p2), .val (.ref b1), .val (.int (3 : Int32)), .unset, .unset, .unset] [(.int p2), (.int (3 : Int32))])) _
      refine X17.ldcInt hx hown (mvT hZ (hw _ (List.mem_of_getElem? (i := 1) rfl))) (g := (mkF m 95 #[.val (.long q0), .second, .val (.int p1), .val (.int p2), .val (.ref b1), .val (.int (3 : Int32)), .unset, .unset, .unset] [(.int p2), (.int (3 : Int32))])) rfl (hb hby at_95) _ ?_
      show Steps p.tables e below (T17.setTop (mkF m 97 #[.val (.long q0), .second, .val (.int p1), .val (.int p2), .val (.ref b1), .val (.int (3 : Int32)), .unset, .unset, .unset] [(.int (2147483647 : Int32)), (.int p2), (.int (3 : Int32))])) _
      refine XS.iand X17.here hx rfl (hb hby at_97) rfl ?_
      show Steps p.tables e below (T17.setTop (mkF m 98 #[.val (.long q0), .second, .val (.int p1), .val (.int p2), .val (.ref b1), .val (.int (3 : Int32)), .unset, .unset, .unset] [(.int (p2 &&& (2147483647 : Int32))), (.int (3 : Int32))])) _
      refine XS.bipush X17.here hx rfl (hb hby at_98) ?_
      show Steps p.tables e below (T17.setTop (mkF m 100 #[.val (.long q0), .second, .val (.int p1), .val (.int p2), .val (.ref b1), .val (.int (3 : Int32)), .unset, .unset, .unset] [(.int (9 : Int32)), (.int (p2 &&& (2147483647 : Int32))), (.int (3 : Int32))])) _
      refine XS.iload X17.here hx rfl (hb hby at_100) rfl ?_
      show Steps p.tables e below (T17.setTop (mkF m 102 #[.val (.long q0), .second, .val (.int p1), .val (.int p2), .val (.ref b1), .val (.int (3 : Int32)), .unset, .unset, .unset] [(.int (3 : Int32)), (.int (9 : Int32)), (.int (p2 &&& (2147483647 : Int32))), (.int (3 : Int32))])) _
      refine XS.isub X17.here hx rfl (hb hby at_102) rfl ?_
      show Steps p.tables e below (T17.setTop (mkF m 103 #[.val (.long q0), .second, .val (.int p1), .val (.int p2), .val (.ref b1), .val (.int (3 : Int32)), .unset, .unset, .unset] [(.int (6 : Int32)), (.int (p2 &&& (2147483647 : Int32))), (.int (3 : Int32))])) _
      refine Jvm.RoadKit.iremM X17 hx rfl (hb hby at_103) rfl (by decide) ?_
      show Steps p.tables e below (T17.setTop (mkF m 104 #[.val (.long q0), .second, .val (.int p1), .val (.int p2), .val (.ref b1), .val (.int (3 : Int32)), .unset, .unset, .unset] [(.int (f0_v14 q0 p1 p2)), (.int (3 : Int32))])) _
      refine XS.iadd X17.here hx rfl (hb hby at_104) rfl ?_
      show Steps p.tables e below (T17.setTop (mkF m 105 #[.val (.long q0), .second, .val (.int p1), .val (.int p2), .val (.ref b1), .val (.int (3 : Int32)), .unset, .unset, .unset] [(.int ((3 : Int32) + (f0_v14 q0 p1 p2)))])) _
      refine XS.istore X17.here hx rfl (hb hby at_105) rfl (l' := #[.val (.long q0), .second, .val (.int p1), .val (.int p2), .val (.ref b1), .val (.int (3 : Int32)), .val (.int ((3 : Int32) + (f0_v14 q0 p1 p2))), .unset, .unset]) rfl ?_
      show Steps p.tables e below (T17.setTop (mkF m 107 #[.val (.long q0), .second, .val (.int p1), .val (.int p2), .val (.ref b1), .val (.int (3 : Int32)), .val (.int ((3 : Int32) + (f0_v14 q0 p1 p2))), .unset, .unset] [])) _
      refine XS.aload X17.here hx rfl (hb hby at_107) rfl rfl ?_
      show Steps p.tables e below (T17.setTop (mkF m 109 #[.val (.long q0), .second, .val (.int p1), .val (.int p2), .val (.ref b1), .val (.int (3 : Int32)), .val (.int ((3 : Int32) + (f0_v14 q0 p1 p2))), .unset, .unset] [(.ref b1)])) _
      refine XS.iload X17.here hx rfl (hb hby at_109) rfl ?_
      show Steps p.tables e below (T17.setTop (mkF m 111 #[.val (.long q0), .second, .val (.int p1), .val (.int p2), .val (.ref b1), .val (.int (3 : Int32)), .val (.int ((3 : Int32) + (f0_v14 q0 p1 p2))), .unset, .unset] [(.int (3 : Int32)), (.ref b1)])) _
      refine XS.iload X17.here hx rfl (hb hby at_111) rfl ?_
      show Steps p.tables e below (T17.setTop (mkF m 113 #[.val (.long q0), .second, .val (.int p1), .val (.int p2), .val (.ref b1), .val (.int (3 : Int32)), .val (.int ((3 : Int32) + (f0_v14 q0 p1 p2))), .unset, .unset] [(.int ((3 : Int32) + (f0_v14 q0 p1 p2))), (.int (3 : Int32)), (.ref b1)])) _
      refine st21 _ ?_
      show Steps p.tables e below (T21.setTop (mkF m 116 #[.val (.long q0), .second, .val (.int p1), .val (.int p2), .val (.ref b1), .val (.int (3 : Int32)), .val (.int ((3 : Int32) + (f0_v14 q0 p1 p2))), .unset, .unset] [(.int (f0_v15 q0 p1 p2))])) _
      refine XS.istore X21.here hx rfl (hb hby at_116) rfl (l' := #[.val (.long q0), .second, .val (.int p1), .val (.int p2), .val (.ref b1), .val (.int (3 : Int32)), .val (.int ((3 : Int32) + (f0_v14 q0 p1 p2))), .val (.int (f0_v15 q0 p1 p2)), .unset]) rfl ?_
      show Steps p.tables e below (T21.setTop (mkF m 118 #[.val (.long q0), .second, .val (.int p1), .val (.int p2), .val (.ref b1), .val (.int (3 : Int32)), .val (.int ((3 : Int32) + (f0_v14 q0 p1 p2))), .val (.int (f0_v15 q0 p1 p2)), .unset] [])) _
      refine XS.iload X21.here hx rfl (hb hby at_118) rfl ?_
      show Steps p.tables e below (T21.setTop (mkF m 120 #[.val (.long q0), .second, .val (.int p1), .val (.int p2), .val (.ref b1), .val (.int (3 : Int32)), .val (.int ((3 : Int32) + (f0_v14 q0 p1 p2))), .val (.int (f0_v15 q0 p1 p2)), .unset] [(.int (3 : Int32))])) _
      refine XS.iload X21.here hx rfl (hb hby at_120) rfl ?_
      exact k)
    obtain ⟨T23, L23, X23, e23, N23, pre23⟩ : ∃ (T' : State) (locs' : List Loc), Stand p l e room_1 s m #[(.long q0), (.int p1), (.int p2)] below meth c T' locs' 1 8 ∧ T'.heap = h17 ∧ Fr n0 locs' ∧ ∀ t, Steps p.tables e below (T'.setTop (mkF m 193 #[.val (.long q0), .second, .val (.int p1), .val (.int p2), .val (.ref b1), .val (.int (3 : Int32)), .val (.int ((3 : Int32) + (f0_v14 q0 p1 p2))), .val (.int (f0_v15 q0 p1 p2)), .val (.int (f0_m41 q0 p1 p2))] [])) t → Steps p.tables e below (s₁.setTop (entryFrame m #[(.long q0), (.int p1), (.int p2)] maxLocals)) t := by
      by_cases hc122_23 : (3 : Int32) = ((3 : Int32) + (f0_v14 q0 p1 p2))
      · have pre24 : ∀ t, Steps p.tables e below (T21.setTop (mkF m 193 #[.val (.long q0), .second, .val (.int p1), .val (.int p2), .val (.ref b1), .val (.int (3 : Int32)), .val (.int ((3 : Int32) + (f0_v14 q0 p1 p2))), .val (.int (f0_v15 q0 p1 p2)), .val (.int (3 : Int32))] [])) t → Steps p.tables e below (s₁.setTop (entryFrame m #[(.long q0), (.int p1), (.int p2)] maxLocals)) t := fun t k => pre22 t (by
          show Steps p.tables e below (T21.setTop (mkF m 122 #[.val (.long q0), .second, .val (.int p1), .val (.int p2), .val (.ref b1), .val (.int (3 : Int32)), .val (.int ((3 : Int32) + (f0_v14 q0 p1 p2))), .val (.int (f0_v15 q0 p1 p2)), .unset] [(.int ((3 : Int32) + (f0_v14 q0 p1 p2))), (.int (3 : Int32))])) _
          refine XS.icmpYes X21.here hx rfl (pc0 := 122) (pc' := 136) rfl (hb hby at_122) rfl (teq hc122_23).1 (by decide) (by decide) ?_
          show Steps p.tables e below (T21.setTop (mkF m 136 #[.val (.long q0), .second, .val (.int p1), .val (.int p2), .val (.ref b1), .val (.int (3 : Int32)), .val (.int ((3 : Int32) + (f0_v14 q0 p1 p2))), .val (.int (f0_v15 q0 p1 p2)), .unset] [])) _
          refine XS.iload X21.here hx rfl (hb hby at_136) rfl ?_
          show Steps p.tables e below (T21.setTop (mkF m 138 #[.val (.long q0), .second, .val (.int p1), .val (.int p2), .val (.ref b1), .val (.int (3 : Int32)), .val (.int ((3 : Int32) + (f0_v14 q0 p1 p2))), .val (.int (f0_v15 q0 p1 p2)), .unset] [(.int (3 : Int32))])) _
          refine XS.istore X21.here hx rfl (hb hby at_138) rfl (l' := #[.val (.long q0), .second, .val (.int p1), .val (.int p2), .val (.ref b1), .val (.int (3 : Int32)), .val (.int ((3 : Int32) + (f0_v14 q0 p1 p2))), .val (.int (f0_v15 q0 p1 p2)), .val (.int (3 : Int32))]) rfl ?_
          show Steps p.tables e below (T21.setTop (mkF m 140 #[.val (.long q0), .second, .val (.int p1), .val (.int p2), .val (.ref b1), .val (.int (3 : Int32)), .val (.int ((3 : Int32) + (f0_v14 q0 p1 p2))), .val (.int (f0_v15 q0 p1 p2)), .val (.int (3 : Int32))] [])) _
          refine XS.goto X21.here hx rfl (pc0 := 140) (pc' := 193) rfl (hb hby at_140) (by decide) (by decide) ?_
          exact k)
        have q_f0_m41 : f0_m41 q0 p1 p2 = (3 : Int32) := by unfold f0_m41; rw [if_pos hc122_23]
        rw [q_f0_m41]
        exact ⟨T21, _, X21, e21, N21, pre24⟩
      obtain ⟨cl25, Ar25, q25, S25, M25, H25, G25⟩ := id V17
      have hin25 : ¬ ((3 : Int32) < 0 ∨ cl25.slots.size ≤ ((3 : Int32)).toNatClampNeg) := inb_of S25 ⟨by decide, by decide⟩
      have hat25 : cl25.slots[((3 : Int32)).toNatClampNeg]? = some (.int ((f0_v5 q0 p1 p2).toInt8.toInt32)) := H25.at hin25 rfl
      obtain ⟨_, _, ⟨T26, L26, k26, n26⟩, -, X26, ⟨Lc26, hQ26, l26, y26, z26⟩, st26⟩ := Jvm.LawKit.callS X21 hx (y := (⟨"com/example/tenon/tenon/Utf8CutPinLaw", "cont", "(B)Z"⟩ : MethodName)) hown (mvT hZ (hw _ (List.mem_of_getElem? (i := 6) rfl))) (mvT hZ (hw _ (List.mem_of_getElem? (i := 7) rfl))) (mvT hZ (hw _ (List.mem_of_getElem? (i := 8) rfl))) (mvT hZ (hw _ (List.mem_of_getElem? (i := 9) rfl))) (by decide) (backOf (W := 0) (rm2 l Z a0' hw [] ((f0_v5 q0 p1 p2).toInt8.toInt32) h17 n0 Z17) hZ (hw _ (List.mem_of_getElem? (i := 9) rfl)) (hw _ (List.mem_of_getElem? (i := 8) rfl)) (by decide) (by decide)) (g := (mkF m 130 #[.val (.long q0), .second, .val (.int p1), .val (.int p2), .val (.ref b1), .val (.int (3 : Int32)), .val (.int ((3 : Int32) + (f0_v14 q0 p1 p2))), .val (.int (f0_v15 q0 p1 p2)), .unset] [(.int ((f0_v5 q0 p1 p2).toInt8.toInt32))])) rfl (by rw [hml]; rfl) (argsL := [(.int ((f0_v5 q0 p1 p2).toInt8.toInt32))]) (rest := []) (lenOf pd1 rfl) rfl (by show 2 * 0 + _ ≤ _; exact Nat.le_of_eq rfl) (hb hby at_130) (fun _ _ => ⟨rfl, e21, (by decide : 1 + 0 ≤ _), (by decide : 8 + 0 ≤ _)⟩)
      dsimp only [Pt.U, Pt.locs, Pt.cells, Pt.slots] at X26 l26 y26 z26 st26 hQ26
      subst l26 y26 z26
      obtain ⟨rfl, N26q, e26⟩ := hQ26
      have N26 := Fr.app N21 N26q
      have pre27 : ∀ t, Steps p.tables e below (T26.setTop (mkF m 133 #[.val (.long q0), .second, .val (.int p1), .val (.int p2), .val (.ref b1), .val (.int (3 : Int32)), .val (.int ((3 : Int32) + (f0_v14 q0 p1 p2))), .val (.int (f0_v15 q0 p1 p2)), .unset] [(.int (F2 ((f0_v5 q0 p1 p2).toInt8.toInt32)))])) t → Steps p.tables e below (s₁.setTop (entryFrame m #[(.long q0), (.int p1), (.int p2)] maxLocals)) t := fun t k => pre22 t (by
        show Steps p.tables e below (T21.setTop (mkF m 122 #[.val (.long q0), .second, .val (.int p1), .val (.int p2), .val (.ref b1), .val (.int (3 : Int32)), .val (.int ((3 : Int32) + (f0_v14 q0 p1 p2))), .val (.int (f0_v15 q0 p1 p2)), .unset] [(.int ((3 : Int32) + (f0_v14 q0 p1 p2))), (.int (3 : Int32))])) _
        refine XS.icmpNo X21.here hx rfl (hb hby at_122) rfl (feq hc122_23).1 ?_
        show Steps p.tables e below (T21.setTop (mkF m 125 #[.val (.long q0), .second, .val (.int p1), .val (.int p2), .val (.ref b1), .val (.int (3 : Int32)), .val (.int ((3 : Int32) + (f0_v14 q0 p1 p2))), .val (.int (f0_v15 q0 p1 p2)), .unset] [])) _
        refine XS.aload X21.here hx rfl (hb hby at_125) rfl rfl ?_
        show Steps p.tables e below (T21.setTop (mkF m 127 #[.val (.long q0), .second, .val (.int p1), .val (.int p2), .val (.ref b1), .val (.int (3 : Int32)), .val (.int ((3 : Int32) + (f0_v14 q0 p1 p2))), .val (.int (f0_v15 q0 p1 p2)), .unset] [(.ref b1)])) _
        refine XS.iload X21.here hx rfl (hb hby at_127) rfl ?_
        show Steps p.tables e below (T21.setTop (mkF m 129 #[.val (.long q0), .second, .val (.int p1), .val (.int p2), .val (.ref b1), .val (.int (3 : Int32)), .val (.int ((3 : Int32) + (f0_v14 q0 p1 p2))), .val (.int (f0_v15 q0 p1 p2)), .unset] [(.int (3 : Int32)), (.ref b1)])) _
        refine X21.baloadBytes hx (j := (3 : Int32)) (v := (.int ((f0_v5 q0 p1 p2).toInt8.toInt32))) (by rw [e21]; exact Ar25.1) (State.isArrayOf_alike hZ.alike Ar25.2.1) Ar25.2.2 hin25 hat25 (g := (mkF m 129 #[.val (.long q0), .second, .val (.int p1), .val (.int p2), .val (.ref b1), .val (.int (3 : Int32)), .val (.int ((3 : Int32) + (f0_v14 q0 p1 p2))), .val (.int (f0_v15 q0 p1 p2)), .unset] [(.int (3 : Int32)), (.ref b1)])) rfl rfl (hb hby at_129) _ ?_
        show Steps p.tables e below (T21.setTop (mkF m 130 #[.val (.long q0), .second, .val (.int p1), .val (.int p2), .val (.ref b1), .val (.int (3 : Int32)), .val (.int ((3 : Int32) + (f0_v14 q0 p1 p2))), .val (.int (f0_v15 q0 p1 p2)), .unset] [(.int ((f0_v5 q0 p1 p2).toInt8.toInt32))])) _
        refine st26 _ ?_
        exact k)
      by_cases hc133_28 : (F2 ((f0_v5 q0 p1 p2).toInt8.toInt32)) = (0 : Int32)
      · have pre29 : ∀ t, Steps p.tables e below (T26.setTop (mkF m 193 #[.val (.long q0), .second, .val (.int p1), .val (.int p2), .val (.ref b1), .val (.int (3 : Int32)), .val (.int ((3 : Int32) + (f0_v14 q0 p1 p2))), .val (.int (f0_v15 q0 p1 p2)), .val (.int (3 : Int32))] [])) t → Steps p.tables e below (s₁.setTop (entryFrame m #[(.long q0), (.int p1), (.int p2)] maxLocals)) t := fun t k => pre27 t (by
          show Steps p.tables e below (T26.setTop (mkF m 133 #[.val (.long q0), .second, .val (.int p1), .val (.int p2), .val (.ref b1), .val (.int (3 : Int32)), .val (.int ((3 : Int32) + (f0_v14 q0 p1 p2))), .val (.int (f0_v15 q0 p1 p2)), .unset] [(.int (F2 ((f0_v5 q0 p1 p2).toInt8.toInt32)))])) _
          refine XS.ifNo X26.here hx rfl (hb hby at_133) rfl ((if0 _ _).trans (teq hc133_28).2) ?_
          show Steps p.tables e below (T26.setTop (mkF m 136 #[.val (.long q0), .second, .val (.int p1), .val (.int p2), .val (.ref b1), .val (.int (3 : Int32)), .val (.int ((3 : Int32) + (f0_v14 q0 p1 p2))), .val (.int (f0_v15 q0 p1 p2)), .unset] [])) _
          refine XS.iload X26.here hx rfl (hb hby at_136) rfl ?_
          show Steps p.tables e below (T26.setTop (mkF m 138 #[.val (.long q0), .second, .val (.int p1), .val (.int p2), .val (.ref b1), .val (.int (3 : Int32)), .val (.int ((3 : Int32) + (f0_v14 q0 p1 p2))), .val (.int (f0_v15 q0 p1 p2)), .unset] [(.int (3 : Int32))])) _
          refine XS.istore X26.here hx rfl (hb hby at_138) rfl (l' := #[.val (.long q0), .second, .val (.int p1), .val (.int p2), .val (.ref b1), .val (.int (3 : Int32)), .val (.int ((3 : Int32) + (f0_v14 q0 p1 p2))), .val (.int (f0_v15 q0 p1 p2)), .val (.int (3 : Int32))]) rfl ?_
          show Steps p.tables e below (T26.setTop (mkF m 140 #[.val (.long q0), .second, .val (.int p1), .val (.int p2), .val (.ref b1), .val (.int (3 : Int32)), .val (.int ((3 : Int32) + (f0_v14 q0 p1 p2))), .val (.int (f0_v15 q0 p1 p2)), .val (.int (3 : Int32))] [])) _
          refine XS.goto X26.here hx rfl (pc0 := 140) (pc' := 193) rfl (hb hby at_140) (by decide) (by decide) ?_
          exact k)
        have q_f0_m41 : f0_m41 q0 p1 p2 = (3 : Int32) := by unfold f0_m41; rw [if_neg hc122_23, if_pos hc133_28]
        rw [q_f0_m41]
        exact ⟨T26, _, X26, e26, N26, pre29⟩
      obtain ⟨cl30, Ar30, q30, S30, M30, H30, G30⟩ := id V17
      have hin30 : ¬ ((2 : Int32) < 0 ∨ cl30.slots.size ≤ ((2 : Int32)).toNatClampNeg) := inb_of S30 ⟨by decide, by decide⟩
      have hat30 : cl30.slots[((2 : Int32)).toNatClampNeg]? = some (.int ((f0_v3 q0 p1 p2).toInt8.toInt32)) := H30.at hin30 rfl
      obtain ⟨_, _, ⟨T31, L31, k31, n31⟩, -, X31, ⟨Lc31, hQ31, l31, y31, z31⟩, st31⟩ := Jvm.LawKit.callS X26 hx (y := (⟨"com/example/tenon/tenon/Utf8CutPinLaw", "cont", "(B)Z"⟩ : MethodName)) hown (mvT hZ (hw _ (List.mem_of_getElem? (i := 6) rfl))) (mvT hZ (hw _ (List.mem_of_getElem? (i := 7) rfl))) (mvT hZ (hw _ (List.mem_of_getElem? (i := 8) rfl))) (mvT hZ (hw _ (List.mem_of_getElem? (i := 9) rfl))) (by decide) (backOf (W := 0) (rm2 l Z a0' hw [] ((f0_v3 q0 p1 p2).toInt8.toInt32) h17 n0 Z17) hZ (hw _ (List.mem_of_getElem? (i := 9) rfl)) (hw _ (List.mem_of_getElem? (i := 8) rfl)) (by decide) (by decide)) (g := (mkF m 150 #[.val (.long q0), .second, .val (.int p1), .val (.int p2), .val (.ref b1), .val (.int (3 : Int32)), .val (.int ((3 : Int32) + (f0_v14 q0 p1 p2))), .val (.int (f0_v15 q0 p1 p2)), .unset] [(.int ((f0_v3 q0 p1 p2).toInt8.toInt32))])) rfl (by rw [hml]; rfl) (argsL := [(.int ((f0_v3 q0 p1 p2).toInt8.toInt32))]) (rest := []) (lenOf pd1 rfl) rfl (by show 2 * 0 + _ ≤ _; exact Nat.le_of_eq rfl) (hb hby at_150) (fun _ _ => ⟨rfl, e26, (by decide : 1 + 0 ≤ _), (by decide : 8 + 0 ≤ _)⟩)
      dsimp only [Pt.U, Pt.locs, Pt.cells, Pt.slots] at X31 l31 y31 z31 st31 hQ31
      subst l31 y31 z31
      obtain ⟨rfl, N31q, e31⟩ := hQ31
      have N31 := Fr.app N26 N31q
      have pre32 : ∀ t, Steps p.tables e below (T31.setTop (mkF m 153 #[.val (.long q0), .second, .val (.int p1), .val (.int p2), .val (.ref b1), .val (.int (3 : Int32)), .val (.int ((3 : Int32) + (f0_v14 q0 p1 p2))), .val (.int (f0_v15 q0 p1 p2)), .unset] [(.int (F2 ((f0_v3 q0 p1 p2).toInt8.toInt32)))])) t → Steps p.tables e below (s₁.setTop (entryFrame m #[(.long q0), (.int p1), (.int p2)] maxLocals)) t := fun t k => pre27 t (by
        show Steps p.tables e below (T26.setTop (mkF m 133 #[.val (.long q0), .second, .val (.int p1), .val (.int p2), .val (.ref b1), .val (.int (3 : Int32)), .val (.int ((3 : Int32) + (f0_v14 q0 p1 p2))), .val (.int (f0_v15 q0 p1 p2)), .unset] [(.int (F2 ((f0_v5 q0 p1 p2).toInt8.toInt32)))])) _
        refine XS.ifYes X26.here hx rfl (pc0 := 133) (pc' := 143) rfl (hb hby at_133) rfl ((if0 _ _).trans (feq hc133_28).2) (by decide) (by decide) ?_
        show Steps p.tables e below (T26.setTop (mkF m 143 #[.val (.long q0), .second, .val (.int p1), .val (.int p2), .val (.ref b1), .val (.int (3 : Int32)), .val (.int ((3 : Int32) + (f0_v14 q0 p1 p2))), .val (.int (f0_v15 q0 p1 p2)), .unset] [])) _
        refine XS.aload X26.here hx rfl (hb hby at_143) rfl rfl ?_
        show Steps p.tables e below (T26.setTop (mkF m 145 #[.val (.long q0), .second, .val (.int p1), .val (.int p2), .val (.ref b1), .val (.int (3 : Int32)), .val (.int ((3 : Int32) + (f0_v14 q0 p1 p2))), .val (.int (f0_v15 q0 p1 p2)), .unset] [(.ref b1)])) _
        refine XS.iload X26.here hx rfl (hb hby at_145) rfl ?_
        show Steps p.tables e below (T26.setTop (mkF m 147 #[.val (.long q0), .second, .val (.int p1), .val (.int p2), .val (.ref b1), .val (.int (3 : Int32)), .val (.int ((3 : Int32) + (f0_v14 q0 p1 p2))), .val (.int (f0_v15 q0 p1 p2)), .unset] [(.int (3 : Int32)), (.ref b1)])) _
        refine XS.iconst X26.here hx rfl (hb hby at_147) ?_
        show Steps p.tables e below (T26.setTop (mkF m 148 #[.val (.long q0), .second, .val (.int p1), .val (.int p2), .val (.ref b1), .val (.int (3 : Int32)), .val (.int ((3 : Int32) + (f0_v14 q0 p1 p2))), .val (.int (f0_v15 q0 p1 p2)), .unset] [(.int (1 : Int32)), (.int (3 : Int32)), (.ref b1)])) _
        refine XS.isub X26.here hx rfl (hb hby at_148) rfl ?_
        show Steps p.tables e below (T26.setTop (mkF m 149 #[.val (.long q0), .second, .val (.int p1), .val (.int p2), .val (.ref b1), .val (.int (3 : Int32)), .val (.int ((3 : Int32) + (f0_v14 q0 p1 p2))), .val (.int (f0_v15 q0 p1 p2)), .unset] [(.int (2 : Int32)), (.ref b1)])) _
        refine X26.baloadBytes hx (j := (2 : Int32)) (v := (.int ((f0_v3 q0 p1 p2).toInt8.toInt32))) (by rw [e26]; exact Ar30.1) (State.isArrayOf_alike hZ.alike Ar30.2.1) Ar30.2.2 hin30 hat30 (g := (mkF m 149 #[.val (.long q0), .second, .val (.int p1), .val (.int p2), .val (.ref b1), .val (.int (3 : Int32)), .val (.int ((3 : Int32) + (f0_v14 q0 p1 p2))), .val (.int (f0_v15 q0 p1 p2)), .unset] [(.int (2 : Int32)), (.ref b1)])) rfl rfl (hb hby at_149) _ ?_
        show Steps p.tables e below (T26.setTop (mkF m 150 #[.val (.long q0), .second, .val (.int p1), .val (.int p2), .val (.ref b1), .val (.int (3 : Int32)), .val (.int ((3 : Int32) + (f0_v14 q0 p1 p2))), .val (.int (f0_v15 q0 p1 p2)), .unset] [(.int ((f0_v3 q0 p1 p2).toInt8.toInt32))])) _
        refine st31 _ ?_
        exact k)
      by_cases hc153_33 : (F2 ((f0_v3 q0 p1 p2).toInt8.toInt32)) = (0 : Int32)
      · have pre34 : ∀ t, Steps p.tables e below (T31.setTop (mkF m 193 #[.val (.long q0), .second, .val (.int p1), .val (.int p2), .val (.ref b1), .val (.int (3 : Int32)), .val (.int ((3 : Int32) + (f0_v14 q0 p1 p2))), .val (.int (f0_v15 q0 p1 p2)), .val (.int (2 : Int32))] [])) t → Steps p.tables e below (s₁.setTop (entryFrame m #[(.long q0), (.int p1), (.int p2)] maxLocals)) t := fun t k => pre32 t (by
          show Steps p.tables e below (T31.setTop (mkF m 153 #[.val (.long q0), .second, .val (.int p1), .val (.int p2), .val (.ref b1), .val (.int (3 : Int32)), .val (.int ((3 : Int32) + (f0_v14 q0 p1 p2))), .val (.int (f0_v15 q0 p1 p2)), .unset] [(.int (F2 ((f0_v3 q0 p1 p2).toInt8.toInt32)))])) _
          refine XS.ifNo X31.here hx rfl (hb hby at_153) rfl ((if0 _ _).trans (teq hc153_33).2) ?_
          show Steps p.tables e below (T31.setTop (mkF m 156 #[.val (.long q0), .second, .val (.int p1), .val (.int p2), .val (.ref b1), .val (.int (3 : Int32)), .val (.int ((3 : Int32) + (f0_v14 q0 p1 p2))), .val (.int (f0_v15 q0 p1 p2)), .unset] [])) _
          refine XS.iload X31.here hx rfl (hb hby at_156) rfl ?_
          show Steps p.tables e below (T31.setTop (mkF m 158 #[.val (.long q0), .second, .val (.int p1), .val (.int p2), .val (.ref b1), .val (.int (3 : Int32)), .val (.int ((3 : Int32) + (f0_v14 q0 p1 p2))), .val (.int (f0_v15 q0 p1 p2)), .unset] [(.int (3 : Int32))])) _
          refine XS.iconst X31.here hx rfl (hb hby at_158) ?_
          show Steps p.tables e below (T31.setTop (mkF m 159 #[.val (.long q0), .second, .val (.int p1), .val (.int p2), .val (.ref b1), .val (.int (3 : Int32)), .val (.int ((3 : Int32) + (f0_v14 q0 p1 p2))), .val (.int (f0_v15 q0 p1 p2)), .unset] [(.int (1 : Int32)), (.int (3 : Int32))])) _
          refine XS.isub X31.here hx rfl (hb hby at_159) rfl ?_
          show Steps p.tables e below (T31.setTop (mkF m 160 #[.val (.long q0), .second, .val (.int p1), .val (.int p2), .val (.ref b1), .val (.int (3 : Int32)), .val (.int ((3 : Int32) + (f0_v14 q0 p1 p2))), .val (.int (f0_v15 q0 p1 p2)), .unset] [(.int (2 : Int32))])) _
          refine XS.istore X31.here hx rfl (hb hby at_160) rfl (l' := #[.val (.long q0), .second, .val (.int p1), .val (.int p2), .val (.ref b1), .val (.int (3 : Int32)), .val (.int ((3 : Int32) + (f0_v14 q0 p1 p2))), .val (.int (f0_v15 q0 p1 p2)), .val (.int (2 : Int32))]) rfl ?_
          show Steps p.tables e below (T31.setTop (mkF m 162 #[.val (.long q0), .second, .val (.int p1), .val (.int p2), .val (.ref b1), .val (.int (3 : Int32)), .val (.int ((3 : Int32) + (f0_v14 q0 p1 p2))), .val (.int (f0_v15 q0 p1 p2)), .val (.int (2 : Int32))] [])) _
          refine XS.goto X31.here hx rfl (pc0 := 162) (pc' := 193) rfl (hb hby at_162) (by decide) (by decide) ?_
          exact k)
        have q_f0_m41 : f0_m41 q0 p1 p2 = (2 : Int32) := by unfold f0_m41; rw [if_neg hc122_23, if_neg hc133_28, if_pos hc153_33]
        rw [q_f0_m41]
        exact ⟨T31, _, X31, e31, N31, pre34⟩
      obtain ⟨cl35, Ar35, q35, S35, M35, H35, G35⟩ := id V17
      have hin35 : ¬ ((1 : Int32) < 0 ∨ cl35.slots.size ≤ ((1 : Int32)).toNatClampNeg) := inb_of S35 ⟨by decide, by decide⟩
      have hat35 : cl35.slots[((1 : Int32)).toNatClampNeg]? = some (.int ((f0_v1 q0 p1 p2).toInt8.toInt32)) := H35.at hin35 rfl
      obtain ⟨_, _, ⟨T36, L36, k36, n36⟩, -, X36, ⟨Lc36, hQ36, l36, y36, z36⟩, st36⟩ := Jvm.LawKit.callS X31 hx (y := (⟨"com/example/tenon/tenon/Utf8CutPinLaw", "cont", "(B)Z"⟩ : MethodName)) hown (mvT hZ (hw _ (List.mem_of_getElem? (i := 6) rfl))) (mvT hZ (hw _ (List.mem_of_getElem? (i := 7) rfl))) (mvT hZ (hw _ (List.mem_of_getElem? (i := 8) rfl))) (mvT hZ (hw _ (List.mem_of_getElem? (i := 9) rfl))) (by decide) (backOf (W := 0) (rm2 l Z a0' hw [] ((f0_v1 q0 p1 p2).toInt8.toInt32) h17 n0 Z17) hZ (hw _ (List.mem_of_getElem? (i := 9) rfl)) (hw _ (List.mem_of_getElem? (i := 8) rfl)) (by decide) (by decide)) (g := (mkF m 172 #[.val (.long q0), .second, .val (.int p1), .val (.int p2), .val (.ref b1), .val (.int (3 : Int32)), .val (.int ((3 : Int32) + (f0_v14 q0 p1 p2))), .val (.int (f0_v15 q0 p1 p2)), .unset] [(.int ((f0_v1 q0 p1 p2).toInt8.toInt32))])) rfl (by rw [hml]; rfl) (argsL := [(.int ((f0_v1 q0 p1 p2).toInt8.toInt32))]) (rest := []) (lenOf pd1 rfl) rfl (by show 2 * 0 + _ ≤ _; exact Nat.le_of_eq rfl) (hb hby at_172) (fun _ _ => ⟨rfl, e31, (by decide : 1 + 0 ≤ _), (by decide : 8 + 0 ≤ _)⟩)
      dsimp only [Pt.U, Pt.locs, Pt.cells, Pt.slots] at X36 l36 y36 z36 st36 hQ36
      subst l36 y36 z36
      obtain ⟨rfl, N36q, e36⟩ := hQ36
      have N36 := Fr.app N31 N36q
      have pre37 : ∀ t, Steps p.tables e below (T36.setTop (mkF m 175 #[.val (.long q0), .second, .val (.int p1), .val (.int p2), .val (.ref b1), .val (.int (3 : Int32)), .val (.int ((3 : Int32) + (f0_v14 q0 p1 p2))), .val (.int (f0_v15 q0 p1 p2)), .unset] [(.int (F2 ((f0_v1 q0 p1 p2).toInt8.toInt32)))])) t → Steps p.tables e below (s₁.setTop (entryFrame m #[(.long q0), (.int p1), (.int p2)] maxLocals)) t := fun t k => pre32 t (by
        show Steps p.tables e below (T31.setTop (mkF m 153 #[.val (.long q0), .second, .val (.int p1), .val (.int p2), .val (.ref b1), .val (.int (3 : Int32)), .val (.int ((3 : Int32) + (f0_v14 q0 p1 p2))), .val (.int (f0_v15 q0 p1 p2)), .unset] [(.int (F2 ((f0_v3 q0 p1 p2).toInt8.toInt32)))])) _
        refine XS.ifYes X31.here hx rfl (pc0 := 153) (pc' := 165) rfl (hb hby at_153) rfl ((if0 _ _).trans (feq hc153_33).2) (by decide) (by decide) ?_
        show Steps p.tables e below (T31.setTop (mkF m 165 #[.val (.long q0), .second, .val (.int p1), .val (.int p2), .val (.ref b1), .val (.int (3 : Int32)), .val (.int ((3 : Int32) + (f0_v14 q0 p1 p2))), .val (.int (f0_v15 q0 p1 p2)), .unset] [])) _
        refine XS.aload X31.here hx rfl (hb hby at_165) rfl rfl ?_
        show Steps p.tables e below (T31.setTop (mkF m 167 #[.val (.long q0), .second, .val (.int p1), .val (.int p2), .val (.ref b1), .val (.int (3 : Int32)), .val (.int ((3 : Int32) + (f0_v14 q0 p1 p2))), .val (.int (f0_v15 q0 p1 p2)), .unset] [(.ref b1)])) _
        refine XS.iload X31.here hx rfl (hb hby at_167) rfl ?_
        show Steps p.tables e below (T31.setTop (mkF m 169 #[.val (.long q0), .second, .val (.int p1), .val (.int p2), .val (.ref b1), .val (.int (3 : Int32)), .val (.int ((3 : Int32) + (f0_v14 q0 p1 p2))), .val (.int (f0_v15 q0 p1 p2)), .unset] [(.int (3 : Int32)), (.ref b1)])) _
        refine XS.iconst X31.here hx rfl (hb hby at_169) ?_
        show Steps p.tables e below (T31.setTop (mkF m 170 #[.val (.long q0), .second, .val (.int p1), .val (.int p2), .val (.ref b1), .val (.int (3 : Int32)), .val (.int ((3 : Int32) + (f0_v14 q0 p1 p2))), .val (.int (f0_v15 q0 p1 p2)), .unset] [(.int (2 : Int32)), (.int (3 : Int32)), (.ref b1)])) _
        refine XS.isub X31.here hx rfl (hb hby at_170) rfl ?_
        show Steps p.tables e below (T31.setTop (mkF m 171 #[.val (.long q0), .second, .val (.int p1), .val (.int p2), .val (.ref b1), .val (.int (3 : Int32)), .val (.int ((3 : Int32) + (f0_v14 q0 p1 p2))), .val (.int (f0_v15 q0 p1 p2)), .unset] [(.int (1 : Int32)), (.ref b1)])) _
        refine X31.baloadBytes hx (j := (1 : Int32)) (v := (.int ((f0_v1 q0 p1 p2).toInt8.toInt32))) (by rw [e31]; exact Ar35.1) (State.isArrayOf_alike hZ.alike Ar35.2.1) Ar35.2.2 hin35 hat35 (g := (mkF m 171 #[.val (.long q0), .second, .val (.int p1), .val (.int p2), .val (.ref b1), .val (.int (3 : Int32)), .val (.int ((3 : Int32) + (f0_v14 q0 p1 p2))), .val (.int (f0_v15 q0 p1 p2)), .unset] [(.int (1 : Int32)), (.ref b1)])) rfl rfl (hb hby at_171) _ ?_
        show Steps p.tables e below (T31.setTop (mkF m 172 #[.val (.long q0), .second, .val (.int p1), .val (.int p2), .val (.ref b1), .val (.int (3 : Int32)), .val (.int ((3 : Int32) + (f0_v14 q0 p1 p2))), .val (.int (f0_v15 q0 p1 p2)), .unset] [(.int ((f0_v1 q0 p1 p2).toInt8.toInt32))])) _
        refine st36 _ ?_
        exact k)
      by_cases hc175_38 : (F2 ((f0_v1 q0 p1 p2).toInt8.toInt32)) = (0 : Int32)
      · have pre39 : ∀ t, Steps p.tables e below (T36.setTop (mkF m 193 #[.val (.long q0), .second, .val (.int p1), .val (.int p2), .val (.ref b1), .val (.int (3 : Int32)), .val (.int ((3 : Int32) + (f0_v14 q0 p1 p2))), .val (.int (f0_v15 q0 p1 p2)), .val (.int (1 : Int32))] [])) t → Steps p.tables e below (s₁.setTop (entryFrame m #[(.long q0), (.int p1), (.int p2)] maxLocals)) t := fun t k => pre37 t (by
          show Steps p.tables e below (T36.setTop (mkF m 175 #[.val (.long q0), .second, .val (.int p1), .val (.int p2), .val (.ref b1), .val (.int (3 : Int32)), .val (.int ((3 : Int32) + (f0_v14 q0 p1 p2))), .val (.int (f0_v15 q0 p1 p2)), .unset] [(.int (F2 ((f0_v1 q0 p1 p2).toInt8.toInt32)))])) _
          refine XS.ifNo X36.here hx rfl (hb hby at_175) rfl ((if0 _ _).trans (teq hc175_38).2) ?_
          show Steps p.tables e below (T36.setTop (mkF m 178 #[.val (.long q0), .second, .val (.int p1), .val (.int p2), .val (.ref b1), .val (.int (3 : Int32)), .val (.int ((3 : Int32) + (f0_v14 q0 p1 p2))), .val (.int (f0_v15 q0 p1 p2)), .unset] [])) _
          refine XS.iload X36.here hx rfl (hb hby at_178) rfl ?_
          show Steps p.tables e below (T36.setTop (mkF m 180 #[.val (.long q0), .second, .val (.int p1), .val (.int p2), .val (.ref b1), .val (.int (3 : Int32)), .val (.int ((3 : Int32) + (f0_v14 q0 p1 p2))), .val (.int (f0_v15 q0 p1 p2)), .unset] [(.int (3 : Int32))])) _
          refine XS.iconst X36.here hx rfl (hb hby at_180) ?_
          show Steps p.tables e below (T36.setTop (mkF m 181 #[.val (.long q0), .second, .val (.int p1), .val (.int p2), .val (.ref b1), .val (.int (3 : Int32)), .val (.int ((3 : Int32) + (f0_v14 q0 p1 p2))), .val (.int (f0_v15 q0 p1 p2)), .unset] [(.int (2 : Int32)), (.int (3 : Int32))])) _
          refine XS.isub X36.here hx rfl (hb hby at_181) rfl ?_
          show Steps p.tables e below (T36.setTop (mkF m 182 #[.val (.long q0), .second, .val (.int p1), .val (.int p2), .val (.ref b1), .val (.int (3 : Int32)), .val (.int ((3 : Int32) + (f0_v14 q0 p1 p2))), .val (.int (f0_v15 q0 p1 p2)), .unset] [(.int (1 : Int32))])) _
          refine XS.istore X36.here hx rfl (hb hby at_182) rfl (l' := #[.val (.long q0), .second, .val (.int p1), .val (.int p2), .val (.ref b1), .val (.int (3 : Int32)), .val (.int ((3 : Int32) + (f0_v14 q0 p1 p2))), .val (.int (f0_v15 q0 p1 p2)), .val (.int (1 : Int32))]) rfl ?_
          show Steps p.tables e below (T36.setTop (mkF m 184 #[.val (.long q0), .second, .val (.int p1), .val (.int p2), .val (.ref b1), .val (.int (3 : Int32)), .val (.int ((3 : Int32) + (f0_v14 q0 p1 p2))), .val (.int (f0_v15 q0 p1 p2)), .val (.int (1 : Int32))] [])) _
          refine XS.goto X36.here hx rfl (pc0 := 184) (pc' := 193) rfl (hb hby at_184) (by decide) (by decide) ?_
          exact k)
        have q_f0_m41 : f0_m41 q0 p1 p2 = (1 : Int32) := by unfold f0_m41; rw [if_neg hc122_23, if_neg hc133_28, if_neg hc153_33, if_pos hc175_38]
        rw [q_f0_m41]
        exact ⟨T36, _, X36, e36, N36, pre39⟩
      have pre40 : ∀ t, Steps p.tables e below (T36.setTop (mkF m 193 #[.val (.long q0), .second, .val (.int p1), .val (.int p2), .val (.ref b1), .val (.int (3 : Int32)), .val (.int ((3 : Int32) + (f0_v14 q0 p1 p2))), .val (.int (f0_v15 q0 p1 p2)), .val (.int (0 : Int32))] [])) t → Steps p.tables e below (s₁.setTop (entryFrame m #[(.long q0), (.int p1), (.int p2)] maxLocals)) t := fun t k => pre37 t (by
        show Steps p.tables e below (T36.setTop (mkF m 175 #[.val (.long q0), .second, .val (.int p1), .val (.int p2), .val (.ref b1), .val (.int (3 : Int32)), .val (.int ((3 : Int32) + (f0_v14 q0 p1 p2))), .val (.int (f0_v15 q0 p1 p2)), .unset] [(.int (F2 ((f0_v1 q0 p1 p2).toInt8.toInt32)))])) _
        refine XS.ifYes X36.here hx rfl (pc0 := 175) (pc' := 187) rfl (hb hby at_175) rfl ((if0 _ _).trans (feq hc175_38).2) (by decide) (by decide) ?_
        show Steps p.tables e below (T36.setTop (mkF m 187 #[.val (.long q0), .second, .val (.int p1), .val (.int p2), .val (.ref b1), .val (.int (3 : Int32)), .val (.int ((3 : Int32) + (f0_v14 q0 p1 p2))), .val (.int (f0_v15 q0 p1 p2)), .unset] [])) _
        refine XS.iload X36.here hx rfl (hb hby at_187) rfl ?_
        show Steps p.tables e below (T36.setTop (mkF m 189 #[.val (.long q0), .second, .val (.int p1), .val (.int p2), .val (.ref b1), .val (.int (3 : Int32)), .val (.int ((3 : Int32) + (f0_v14 q0 p1 p2))), .val (.int (f0_v15 q0 p1 p2)), .unset] [(.int (3 : Int32))])) _
        refine XS.iconst X36.here hx rfl (hb hby at_189) ?_
        show Steps p.tables e below (T36.setTop (mkF m 190 #[.val (.long q0), .second, .val (.int p1), .val (.int p2), .val (.ref b1), .val (.int (3 : Int32)), .val (.int ((3 : Int32) + (f0_v14 q0 p1 p2))), .val (.int (f0_v15 q0 p1 p2)), .unset] [(.int (3 : Int32)), (.int (3 : Int32))])) _
        refine XS.isub X36.here hx rfl (hb hby at_190) rfl ?_
        show Steps p.tables e below (T36.setTop (mkF m 191 #[.val (.long q0), .second, .val (.int p1), .val (.int p2), .val (.ref b1), .val (.int (3 : Int32)), .val (.int ((3 : Int32) + (f0_v14 q0 p1 p2))), .val (.int (f0_v15 q0 p1 p2)), .unset] [(.int (0 : Int32))])) _
        refine XS.istore X36.here hx rfl (hb hby at_191) rfl (l' := #[.val (.long q0), .second, .val (.int p1), .val (.int p2), .val (.ref b1), .val (.int (3 : Int32)), .val (.int ((3 : Int32) + (f0_v14 q0 p1 p2))), .val (.int (f0_v15 q0 p1 p2)), .val (.int (0 : Int32))]) rfl ?_
        exact k)
      have q_f0_m41 : f0_m41 q0 p1 p2 = (0 : Int32) := by unfold f0_m41; rw [if_neg hc122_23, if_neg hc133_28, if_neg hc153_33, if_neg hc175_38]
      rw [q_f0_m41]
      exact ⟨T36, _, X36, e36, N36, pre40⟩
    have pre42 : ∀ t, Steps p.tables e below (T23.setTop (mkF m 197 #[.val (.long q0), .second, .val (.int p1), .val (.int p2), .val (.ref b1), .val (.int (3 : Int32)), .val (.int ((3 : Int32) + (f0_v14 q0 p1 p2))), .val (.int (f0_v15 q0 p1 p2)), .val (.int (f0_m41 q0 p1 p2))] [(.int (f0_m41 q0 p1 p2)), (.int (f0_v15 q0 p1 p2))])) t → Steps p.tables e below (s₁.setTop (entryFrame m #[(.long q0), (.int p1), (.int p2)] maxLocals)) t := fun t k => pre23 t (by
      show Steps p.tables e below (T23.setTop (mkF m 193 #[.val (.long q0), .second, .val (.int p1), .val (.int p2), .val (.ref b1), .val (.int (3 : Int32)), .val (.int ((3 : Int32) + (f0_v14 q0 p1 p2))), .val (.int (f0_v15 q0 p1 p2)), .val (.int (f0_m41 q0 p1 p2))] [])) _
      refine XS.iload X23.here hx rfl (hb hby at_193) rfl ?_
      show Steps p.tables e below (T23.setTop (mkF m 195 #[.val (.long q0), .second, .val (.int p1), .val (.int p2), .val (.ref b1), .val (.int (3 : Int32)), .val (.int ((3 : Int32) + (f0_v14 q0 p1 p2))), .val (.int (f0_v15 q0 p1 p2)), .val (.int (f0_m41 q0 p1 p2))] [(.int (f0_v15 q0 p1 p2))])) _
      refine XS.iload X23.here hx rfl (hb hby at_195) rfl ?_
      exact k)
    by_cases hc197_43 : (f0_v15 q0 p1 p2) = (f0_m41 q0 p1 p2)
    · have pre44 : ∀ t, Steps p.tables e below (T23.setTop (mkF m 205 #[.val (.long q0), .second, .val (.int p1), .val (.int p2), .val (.ref b1), .val (.int (3 : Int32)), .val (.int ((3 : Int32) + (f0_v14 q0 p1 p2))), .val (.int (f0_v15 q0 p1 p2)), .val (.int (f0_m41 q0 p1 p2))] [(.int (1 : Int32))])) t → Steps p.tables e below (s₁.setTop (entryFrame m #[(.long q0), (.int p1), (.int p2)] maxLocals)) t := fun t k => pre42 t (by
        show Steps p.tables e below (T23.setTop (mkF m 197 #[.val (.long q0), .second, .val (.int p1), .val (.int p2), .val (.ref b1), .val (.int (3 : Int32)), .val (.int ((3 : Int32) + (f0_v14 q0 p1 p2))), .val (.int (f0_v15 q0 p1 p2)), .val (.int (f0_m41 q0 p1 p2))] [(.int (f0_m41 q0 p1 p2)), (.int (f0_v15 q0 p1 p2))])) _
        refine XS.icmpNo X23.here hx rfl (hb hby at_197) rfl (teq hc197_43).2 ?_
        show Steps p.tables e below (T23.setTop (mkF m 200 #[.val (.long q0), .second, .val (.int p1), .val (.int p2), .val (.ref b1), .val (.int (3 : Int32)), .val (.int ((3 : Int32) + (f0_v14 q0 p1 p2))), .val (.int (f0_v15 q0 p1 p2)), .val (.int (f0_m41 q0 p1 p2))] [])) _
        refine XS.iconst X23.here hx rfl (hb hby at_200) ?_
        show Steps p.tables e below (T23.setTop (mkF m 201 #[.val (.long q0), .second, .val (.int p1), .val (.int p2), .val (.ref b1), .val (.int (3 : Int32)), .val (.int ((3 : Int32) + (f0_v14 q0 p1 p2))), .val (.int (f0_v15 q0 p1 p2)), .val (.int (f0_m41 q0 p1 p2))] [(.int (1 : Int32))])) _
        refine XS.goto X23.here hx rfl (pc0 := 201) (pc' := 205) rfl (hb hby at_201) (by decide) (by decide) ?_
        exact k)
      obtain ⟨fs, hr, hrun, hended, hW, hsame⟩ := X23.leave (v := some (.int (1 : Int32))) (fun h => by rw [Bd.returns] at h; cases h) hlk
      have hF : (F0 q0 p1 p2) = (1 : Int32) := by unfold F0; rw [if_pos hv19, if_pos hc197_43]
      exact ⟨_, _, pre44 _ (retN X23 hx (t := .boolean) Bd.returns (by simp) (hb hby at_205) hr), hrun, hended, _, _, rfl, ⟨by rw [hF], N23⟩, ⟨_, rfl⟩, hW, hsame.mono (by decide) (by decide)⟩
    have pre45 : ∀ t, Steps p.tables e below (T23.setTop (mkF m 205 #[.val (.long q0), .second, .val (.int p1), .val (.int p2), .val (.ref b1), .val (.int (3 : Int32)), .val (.int ((3 : Int32) + (f0_v14 q0 p1 p2))), .val (.int (f0_v15 q0 p1 p2)), .val (.int (f0_m41 q0 p1 p2))] [(.int (0 : Int32))])) t → Steps p.tables e below (s₁.setTop (entryFrame m #[(.long q0), (.int p1), (.int p2)] maxLocals)) t := fun t k => pre42 t (by
      show Steps p.tables e below (T23.setTop (mkF m 197 #[.val (.long q0), .second, .val (.int p1), .val (.int p2), .val (.ref b1), .val (.int (3 : Int32)), .val (.int ((3 : Int32) + (f0_v14 q0 p1 p2))), .val (.int (f0_v15 q0 p1 p2)), .val (.int (f0_m41 q0 p1 p2))] [(.int (f0_m41 q0 p1 p2)), (.int (f0_v15 q0 p1 p2))])) _
      refine XS.icmpYes X23.here hx rfl (pc0 := 197) (pc' := 204) rfl (hb hby at_197) rfl (feq hc197_43).2 (by decide) (by decide) ?_
      show Steps p.tables e below (T23.setTop (mkF m 204 #[.val (.long q0), .second, .val (.int p1), .val (.int p2), .val (.ref b1), .val (.int (3 : Int32)), .val (.int ((3 : Int32) + (f0_v14 q0 p1 p2))), .val (.int (f0_v15 q0 p1 p2)), .val (.int (f0_m41 q0 p1 p2))] [])) _
      refine XS.iconst X23.here hx rfl (hb hby at_204) ?_
      exact k)
    obtain ⟨fs, hr, hrun, hended, hW, hsame⟩ := X23.leave (v := some (.int (0 : Int32))) (fun h => by rw [Bd.returns] at h; cases h) hlk
    have hF : (F0 q0 p1 p2) = (0 : Int32) := by unfold F0; rw [if_pos hv19, if_neg hc197_43]
    exact ⟨_, _, pre45 _ (retN X23 hx (t := .boolean) Bd.returns (by simp) (hb hby at_205) hr), hrun, hended, _, _, rfl, ⟨by rw [hF], N23⟩, ⟨_, rfl⟩, hW, hsame.mono (by decide) (by decide)⟩
  by_cases hv46 : ((3 : Int32) + (p1 &&& (3 : Int32))) = (4 : Int32)
  · have pre47 := pre18
    rw [hv46] at pre47
    obtain ⟨_, _, ⟨T48, L48, k48, n48⟩, -, X48, ⟨Lc48, hQ48, l48, y48, z48⟩, st48⟩ := Jvm.LawKit.callS X17 hx (y := (⟨"com/example/tenon/tenon/Utf8", "cut", "([BII)I"⟩ : MethodName)) hown (mvT hZ (hw _ (List.mem_of_getElem? (i := 2) rfl))) (mvT hZ (hw _ (List.mem_of_getElem? (i := 3) rfl))) (mvT hZ (hw _ (List.mem_of_getElem? (i := 4) rfl))) (mvT hZ (hw _ (List.mem_of_getElem? (i := 5) rfl))) (by decide) (backOf (W := 0) (rm1_4 l Z a0' hw [] b1 ((4 : Int32) + (f0_v16 q0 p1 p2)) (((q0.toInt32).toInt8.toInt32).toInt8.toInt32) ((f0_v1 q0 p1 p2).toInt8.toInt32) ((f0_v3 q0 p1 p2).toInt8.toInt32) ((f0_v5 q0 p1 p2).toInt8.toInt32) ((f0_v7 q0 p1 p2).toInt8.toInt32) ((f0_v9 q0 p1 p2).toInt8.toInt32) ((f0_v11 q0 p1 p2).toInt8.toInt32) ((f0_v13 q0 p1 p2).toInt8.toInt32) k1 h17 n0 Z17 V17) hZ (hw _ (List.mem_of_getElem? (i := 5) rfl)) (hw _ (List.mem_of_getElem? (i := 4) rfl)) (by decide) (by decide)) (g := (mkF m 113 #[.val (.long q0), .second, .val (.int p1), .val (.int p2), .val (.ref b1), .val (.int (4 : Int32)), .val (.int ((4 : Int32) + (f0_v16 q0 p1 p2))), .unset, .unset] [(.int ((4 : Int32) + (f0_v16 q0 p1 p2))), (.int (4 : Int32)), (.ref b1)])) rfl (by rw [hml]; rfl) (argsL := [(.ref b1), (.int (4 : Int32)), (.int ((4 : Int32) + (f0_v16 q0 p1 p2)))]) (rest := []) (lenOf pd0 rfl) rfl (by show 2 * 0 + _ ≤ _; exact Nat.le_of_eq rfl) (hb hby at_113) (fun _ _ => ⟨rfl, e17, (by decide : 1 + 0 ≤ _), (by decide : 8 + 0 ≤ _)⟩)
    dsimp only [Pt.U, Pt.locs, Pt.cells, Pt.slots] at X48 l48 y48 z48 st48 hQ48
    subst l48 y48 z48
    obtain ⟨rfl, N48q, e48⟩ := hQ48
    have N48 := Fr.app N17 N48q
    have pre49 : ∀ t, Steps p.tables e below (T48.setTop (mkF m 122 #[.val (.long q0), .second, .val (.int p1), .val (.int p2), .val (.ref b1), .val (.int (4 : Int32)), .val (.int ((4 : Int32) + (f0_v16 q0 p1 p2))), .val (.int (f0_v17 q0 p1 p2)), .unset] [(.int ((4 : Int32) + (f0_v16 q0 p1 p2))), (.int (4 : Int32))])) t → Steps p.tables e below (s₁.setTop (entryFrame m #[(.long q0), (.int p1), (.int p2)] maxLocals)) t := fun t k => pre47 t (by
      show Steps p.tables e below (T17.setTop (mkF m 92 #[.val (.long q0), .second, .val (.int p1), .val (.int p2), .val (.ref b1), .val (.int (4 : Int32)), .unset, .unset, .unset] [])) _
      refine XS.iload X17.here hx rfl (hb hby at_92) rfl ?_
      show Steps p.tables e below (T17.setTop (mkF m 94 #[.val (.long q0), .second, .val (.int p1), .val (.int p2), .val (.ref b1), .val (.int (4 : Int32)), .unset, .unset, .unset] [(.int (4 : Int32))])) _
      refine XS.iloadN X17.here hx rfl (hb hby at_94) rfl ?_
      show Steps p.tables e below (T17.setTop (mkF m 95 #[.val (.long q0), .second, .val (.int p1), .val (.int p2), .val (.ref b1), .val (.int (4 : Int32)), .unset, .unset, .unset] [(.int p2), (.int (4 : Int32))])) _
      refine X17.ldcInt hx hown (mvT hZ (hw _ (List.mem_of_getElem? (i := 1) rfl))) (g := (mkF m 95 #[.val (.long q0), .second, .val (.int p1), .val (.int p2), .val (.ref b1), .val (.int (4 : Int32)), .unset, .unset, .unset] [(.int p2), (.int (4 : Int32))])) rfl (hb hby at_95) _ ?_
      show Steps p.tables e below (T17.setTop (mkF m 97 #[.val (.long q0), .second, .val (.int p1), .val (.int p2), .val (.ref b1), .val (.int (4 : Int32)), .unset, .unset, .unset] [(.int (2147483647 : Int32)), (.int p2), (.int (4 : Int32))])) _
      refine XS.iand X17.here hx rfl (hb hby at_97) rfl ?_
      show Steps p.tables e below (T17.setTop (mkF m 98 #[.val (.long q0), .second, .val (.int p1), .val (.int p2), .val (.ref b1), .val (.int (4 : Int32)), .unset, .unset, .unset] [(.int (p2 &&& (2147483647 : Int32))), (.int (4 : Int32))])) _
      refine XS.bipush X17.here hx rfl (hb hby at_98) ?_
      show Steps p.tables e below (T17.setTop (mkF m 100 #[.val (.long q0), .second, .val (.int p1), .val (.int p2), .val (.ref b1), .val (.int (4 : Int32)), .unset, .unset, .unset] [(.int (9 : Int32)), (.int (p2 &&& (2147483647 : Int32))), (.int (4 : Int32))])) _
      refine XS.iload X17.here hx rfl (hb hby at_100) rfl ?_
      show Steps p.tables e below (T17.setTop (mkF m 102 #[.val (.long q0), .second, .val (.int p1), .val (.int p2), .val (.ref b1), .val (.int (4 : Int32)), .unset, .unset, .unset] [(.int (4 : Int32)), (.int (9 : Int32)), (.int (p2 &&& (2147483647 : Int32))), (.int (4 : Int32))])) _
      refine XS.isub X17.here hx rfl (hb hby at_102) rfl ?_
      show Steps p.tables e below (T17.setTop (mkF m 103 #[.val (.long q0), .second, .val (.int p1), .val (.int p2), .val (.ref b1), .val (.int (4 : Int32)), .unset, .unset, .unset] [(.int (5 : Int32)), (.int (p2 &&& (2147483647 : Int32))), (.int (4 : Int32))])) _
      refine Jvm.RoadKit.iremM X17 hx rfl (hb hby at_103) rfl (by decide) ?_
      show Steps p.tables e below (T17.setTop (mkF m 104 #[.val (.long q0), .second, .val (.int p1), .val (.int p2), .val (.ref b1), .val (.int (4 : Int32)), .unset, .unset, .unset] [(.int (f0_v16 q0 p1 p2)), (.int (4 : Int32))])) _
      refine XS.iadd X17.here hx rfl (hb hby at_104) rfl ?_
      show Steps p.tables e below (T17.setTop (mkF m 105 #[.val (.long q0), .second, .val (.int p1), .val (.int p2), .val (.ref b1), .val (.int (4 : Int32)), .unset, .unset, .unset] [(.int ((4 : Int32) + (f0_v16 q0 p1 p2)))])) _
      refine XS.istore X17.here hx rfl (hb hby at_105) rfl (l' := #[.val (.long q0), .second, .val (.int p1), .val (.int p2), .val (.ref b1), .val (.int (4 : Int32)), .val (.int ((4 : Int32) + (f0_v16 q0 p1 p2))), .unset, .unset]) rfl ?_
      show Steps p.tables e below (T17.setTop (mkF m 107 #[.val (.long q0), .second, .val (.int p1), .val (.int p2), .val (.ref b1), .val (.int (4 : Int32)), .val (.int ((4 : Int32) + (f0_v16 q0 p1 p2))), .unset, .unset] [])) _
      refine XS.aload X17.here hx rfl (hb hby at_107) rfl rfl ?_
      show Steps p.tables e below (T17.setTop (mkF m 109 #[.val (.long q0), .second, .val (.int p1), .val (.int p2), .val (.ref b1), .val (.int (4 : Int32)), .val (.int ((4 : Int32) + (f0_v16 q0 p1 p2))), .unset, .unset] [(.ref b1)])) _
      refine XS.iload X17.here hx rfl (hb hby at_109) rfl ?_
      show Steps p.tables e below (T17.setTop (mkF m 111 #[.val (.long q0), .second, .val (.int p1), .val (.int p2), .val (.ref b1), .val (.int (4 : Int32)), .val (.int ((4 : Int32) + (f0_v16 q0 p1 p2))), .unset, .unset] [(.int (4 : Int32)), (.ref b1)])) _
      refine XS.iload X17.here hx rfl (hb hby at_111) rfl ?_
      show Steps p.tables e below (T17.setTop (mkF m 113 #[.val (.long q0), .second, .val (.int p1), .val (.int p2), .val (.ref b1), .val (.int (4 : Int32)), .val (.int ((4 : Int32) + (f0_v16 q0 p1 p2))), .unset, .unset] [(.int ((4 : Int32) + (f0_v16 q0 p1 p2))), (.int (4 : Int32)), (.ref b1)])) _
      refine st48 _ ?_
      show Steps p.tables e below (T48.setTop (mkF m 116 #[.val (.long q0), .second, .val (.int p1), .val (.int p2), .val (.ref b1), .val (.int (4 : Int32)), .val (.int ((4 : Int32) + (f0_v16 q0 p1 p2))), .unset, .unset] [(.int (f0_v17 q0 p1 p2))])) _
      refine XS.istore X48.here hx rfl (hb hby at_116) rfl (l' := #[.val (.long q0), .second, .val (.int p1), .val (.int p2), .val (.ref b1), .val (.int (4 : Int32)), .val (.int ((4 : Int32) + (f0_v16 q0 p1 p2))), .val (.int (f0_v17 q0 p1 p2)), .unset]) rfl ?_
      show Steps p.tables e below (T48.setTop (mkF m 118 #[.val (.long q0), .second, .val (.int p1), .val (.int p2), .val (.ref b1), .val (.int (4 : Int32)), .val (.int ((4 : Int32) + (f0_v16 q0 p1 p2))), .val (.int (f0_v17 q0 p1 p2)), .unset] [])) _
      refine XS.iload X48.here hx rfl (hb hby at_118) rfl ?_
      show Steps p.tables e below (T48.setTop (mkF m 120 #[.val (.long q0), .second, .val (.int p1), .val (.int p2), .val (.ref b1), .val (.int (4 : Int32)), .val (.int ((4 : Int32) + (f0_v16 q0 p1 p2))), .val (.int (f0_v17 q0 p1 p2)), .unset] [(.int (4 : Int32))])) _
      refine XS.iload X48.here hx rfl (hb hby at_120) rfl ?_
      exact k)
    obtain ⟨T50, L50, X50, e50, N50, pre50⟩ : ∃ (T' : State) (locs' : List Loc), Stand p l e room_1 s m #[(.long q0), (.int p1), (.int p2)] below meth c T' locs' 1 8 ∧ T'.heap = h17 ∧ Fr n0 locs' ∧ ∀ t, Steps p.tables e below (T'.setTop (mkF m 193 #[.val (.long q0), .second, .val (.int p1), .val (.int p2), .val (.ref b1), .val (.int (4 : Int32)), .val (.int ((4 : Int32) + (f0_v16 q0 p1 p2))), .val (.int (f0_v17 q0 p1 p2)), .val (.int (f0_m68 q0 p1 p2))] [])) t → Steps p.tables e below (s₁.setTop (entryFrame m #[(.long q0), (.int p1), (.int p2)] maxLocals)) t := by
      by_cases hc122_50 : (4 : Int32) = ((4 : Int32) + (f0_v16 q0 p1 p2))
      · have pre51 : ∀ t, Steps p.tables e below (T48.setTop (mkF m 193 #[.val (.long q0), .second, .val (.int p1), .val (.int p2), .val (.ref b1), .val (.int (4 : Int32)), .val (.int ((4 : Int32) + (f0_v16 q0 p1 p2))), .val (.int (f0_v17 q0 p1 p2)), .val (.int (4 : Int32))] [])) t → Steps p.tables e below (s₁.setTop (entryFrame m #[(.long q0), (.int p1), (.int p2)] maxLocals)) t := fun t k => pre49 t (by
          show Steps p.tables e below (T48.setTop (mkF m 122 #[.val (.long q0), .second, .val (.int p1), .val (.int p2), .val (.ref b1), .val (.int (4 : Int32)), .val (.int ((4 : Int32) + (f0_v16 q0 p1 p2))), .val (.int (f0_v17 q0 p1 p2)), .unset] [(.int ((4 : Int32) + (f0_v16 q0 p1 p2))), (.int (4 : Int32))])) _
          refine XS.icmpYes X48.here hx rfl (pc0 := 122) (pc' := 136) rfl (hb hby at_122) rfl (teq hc122_50).1 (by decide) (by decide) ?_
          show Steps p.tables e below (T48.setTop (mkF m 136 #[.val (.long q0), .second, .val (.int p1), .val (.int p2), .val (.ref b1), .val (.int (4 : Int32)), .val (.int ((4 : Int32) + (f0_v16 q0 p1 p2))), .val (.int (f0_v17 q0 p1 p2)), .unset] [])) _
          refine XS.iload X48.here hx rfl (hb hby at_136) rfl ?_
          show Steps p.tables e below (T48.setTop (mkF m 138 #[.val (.long q0), .second, .val (.int p1), .val (.int p2), .val (.ref b1), .val (.int (4 : Int32)), .val (.int ((4 : Int32) + (f0_v16 q0 p1 p2))), .val (.int (f0_v17 q0 p1 p2)), .unset] [(.int (4 : Int32))])) _
          refine XS.istore X48.here hx rfl (hb hby at_138) rfl (l' := #[.val (.long q0), .second, .val (.int p1), .val (.int p2), .val (.ref b1), .val (.int (4 : Int32)), .val (.int ((4 : Int32) + (f0_v16 q0 p1 p2))), .val (.int (f0_v17 q0 p1 p2)), .val (.int (4 : Int32))]) rfl ?_
          show Steps p.tables e below (T48.setTop (mkF m 140 #[.val (.long q0), .second, .val (.int p1), .val (.int p2), .val (.ref b1), .val (.int (4 : Int32)), .val (.int ((4 : Int32) + (f0_v16 q0 p1 p2))), .val (.int (f0_v17 q0 p1 p2)), .val (.int (4 : Int32))] [])) _
          refine XS.goto X48.here hx rfl (pc0 := 140) (pc' := 193) rfl (hb hby at_140) (by decide) (by decide) ?_
          exact k)
        have q_f0_m68 : f0_m68 q0 p1 p2 = (4 : Int32) := by unfold f0_m68; rw [if_pos hc122_50]
        rw [q_f0_m68]
        exact ⟨T48, _, X48, e48, N48, pre51⟩
      obtain ⟨cl52, Ar52, q52, S52, M52, H52, G52⟩ := id V17
      have hin52 : ¬ ((4 : Int32) < 0 ∨ cl52.slots.size ≤ ((4 : Int32)).toNatClampNeg) := inb_of S52 ⟨by decide, by decide⟩
      have hat52 : cl52.slots[((4 : Int32)).toNatClampNeg]? = some (.int ((f0_v7 q0 p1 p2).toInt8.toInt32)) := H52.at hin52 rfl
      obtain ⟨_, _, ⟨T53, L53, k53, n53⟩, -, X53, ⟨Lc53, hQ53, l53, y53, z53⟩, st53⟩ := Jvm.LawKit.callS X48 hx (y := (⟨"com/example/tenon/tenon/Utf8CutPinLaw", "cont", "(B)Z"⟩ : MethodName)) hown (mvT hZ (hw _ (List.mem_of_getElem? (i := 6) rfl))) (mvT hZ (hw _ (List.mem_of_getElem? (i := 7) rfl))) (mvT hZ (hw _ (List.mem_of_getElem? (i := 8) rfl))) (mvT hZ (hw _ (List.mem_of_getElem? (i := 9) rfl))) (by decide) (backOf (W := 0) (rm2 l Z a0' hw [] ((f0_v7 q0 p1 p2).toInt8.toInt32) h17 n0 Z17) hZ (hw _ (List.mem_of_getElem? (i := 9) rfl)) (hw _ (List.mem_of_getElem? (i := 8) rfl)) (by decide) (by decide)) (g := (mkF m 130 #[.val (.long q0), .second, .val (.int p1), .val (.int p2), .val (.ref b1), .val (.int (4 : Int32)), .val (.int ((4 : Int32) + (f0_v16 q0 p1 p2))), .val (.int (f0_v17 q0 p1 p2)), .unset] [(.int ((f0_v7 q0 p1 p2).toInt8.toInt32))])) rfl (by rw [hml]; rfl) (argsL := [(.int ((f0_v7 q0 p1 p2).toInt8.toInt32))]) (rest := []) (lenOf pd1 rfl) rfl (by show 2 * 0 + _ ≤ _; exact Nat.le_of_eq rfl) (hb hby at_130) (fun _ _ => ⟨rfl, e48, (by decide : 1 + 0 ≤ _), (by decide : 8 + 0 ≤ _)⟩)
      dsimp only [Pt.U, Pt.locs, Pt.cells, Pt.slots] at X53 l53 y53 z53 st53 hQ53
      subst l53 y53 z53
      obtain ⟨rfl, N53q, e53⟩ := hQ53
      have N53 := Fr.app N48 N53q
      have pre54 : ∀ t, Steps p.tables e below (T53.setTop (mkF m 133 #[.val (.long q0), .second, .val (.int p1), .val (.int p2), .val (.ref b1), .val (.int (4 : Int32)), .val (.int ((4 : Int32) + (f0_v16 q0 p1 p2))), .val (.int (f0_v17 q0 p1 p2)), .unset] [(.int (F2 ((f0_v7 q0 p1 p2).toInt8.toInt32)))])) t → Steps p.tables e below (s₁.setTop (entryFrame m #[(.long q0), (.int p1), (.int p2)] maxLocals)) t := fun t k => pre49 t (by
        show Steps p.tables e below (T48.setTop (mkF m 122 #[.val (.long q0), .second, .val (.int p1), .val (.int p2), .val (.ref b1), .val (.int (4 : Int32)), .val (.int ((4 : Int32) + (f0_v16 q0 p1 p2))), .val (.int (f0_v17 q0 p1 p2)), .unset] [(.int ((4 : Int32) + (f0_v16 q0 p1 p2))), (.int (4 : Int32))])) _
        refine XS.icmpNo X48.here hx rfl (hb hby at_122) rfl (feq hc122_50).1 ?_
        show Steps p.tables e below (T48.setTop (mkF m 125 #[.val (.long q0), .second, .val (.int p1), .val (.int p2), .val (.ref b1), .val (.int (4 : Int32)), .val (.int ((4 : Int32) + (f0_v16 q0 p1 p2))), .val (.int (f0_v17 q0 p1 p2)), .unset] [])) _
        refine XS.aload X48.here hx rfl (hb hby at_125) rfl rfl ?_
        show Steps p.tables e below (T48.setTop (mkF m 127 #[.val (.long q0), .second, .val (.int p1), .val (.int p2), .val (.ref b1), .val (.int (4 : Int32)), .val (.int ((4 : Int32) + (f0_v16 q0 p1 p2))), .val (.int (f0_v17 q0 p1 p2)), .unset] [(.ref b1)])) _
        refine XS.iload X48.here hx rfl (hb hby at_127) rfl ?_
        show Steps p.tables e below (T48.setTop (mkF m 129 #[.val (.long q0), .second, .val (.int p1), .val (.int p2), .val (.ref b1), .val (.int (4 : Int32)), .val (.int ((4 : Int32) + (f0_v16 q0 p1 p2))), .val (.int (f0_v17 q0 p1 p2)), .unset] [(.int (4 : Int32)), (.ref b1)])) _
        refine X48.baloadBytes hx (j := (4 : Int32)) (v := (.int ((f0_v7 q0 p1 p2).toInt8.toInt32))) (by rw [e48]; exact Ar52.1) (State.isArrayOf_alike hZ.alike Ar52.2.1) Ar52.2.2 hin52 hat52 (g := (mkF m 129 #[.val (.long q0), .second, .val (.int p1), .val (.int p2), .val (.ref b1), .val (.int (4 : Int32)), .val (.int ((4 : Int32) + (f0_v16 q0 p1 p2))), .val (.int (f0_v17 q0 p1 p2)), .unset] [(.int (4 : Int32)), (.ref b1)])) rfl rfl (hb hby at_129) _ ?_
        show Steps p.tables e below (T48.setTop (mkF m 130 #[.val (.long q0), .second, .val (.int p1), .val (.int p2), .val (.ref b1), .val (.int (4 : Int32)), .val (.int ((4 : Int32) + (f0_v16 q0 p1 p2))), .val (.int (f0_v17 q0 p1 p2)), .unset] [(.int ((f0_v7 q0 p1 p2).toInt8.toInt32))])) _
        refine st53 _ ?_
        exact k)
      by_cases hc133_55 : (F2 ((f0_v7 q0 p1 p2).toInt8.toInt32)) = (0 : Int32)
      · have pre56 : ∀ t, Steps p.tables e below (T53.setTop (mkF m 193 #[.val (.long q0), .second, .val (.int p1), .val (.int p2), .val (.ref b1), .val (.int (4 : Int32)), .val (.int ((4 : Int32) + (f0_v16 q0 p1 p2))), .val (.int (f0_v17 q0 p1 p2)), .val (.int (4 : Int32))] [])) t → Steps p.tables e below (s₁.setTop (entryFrame m #[(.long q0), (.int p1), (.int p2)] maxLocals)) t := fun t k => pre54 t (by
          show Steps p.tables e below (T53.setTop (mkF m 133 #[.val (.long q0), .second, .val (.int p1), .val (.int p2), .val (.ref b1), .val (.int (4 : Int32)), .val (.int ((4 : Int32) + (f0_v16 q0 p1 p2))), .val (.int (f0_v17 q0 p1 p2)), .unset] [(.int (F2 ((f0_v7 q0 p1 p2).toInt8.toInt32)))])) _
          refine XS.ifNo X53.here hx rfl (hb hby at_133) rfl ((if0 _ _).trans (teq hc133_55).2) ?_
          show Steps p.tables e below (T53.setTop (mkF m 136 #[.val (.long q0), .second, .val (.int p1), .val (.int p2), .val (.ref b1), .val (.int (4 : Int32)), .val (.int ((4 : Int32) + (f0_v16 q0 p1 p2))), .val (.int (f0_v17 q0 p1 p2)), .unset] [])) _
          refine XS.iload X53.here hx rfl (hb hby at_136) rfl ?_
          show Steps p.tables e below (T53.setTop (mkF m 138 #[.val (.long q0), .second, .val (.int p1), .val (.int p2), .val (.ref b1), .val (.int (4 : Int32)), .val (.int ((4 : Int32) + (f0_v16 q0 p1 p2))), .val (.int (f0_v17 q0 p1 p2)), .unset] [(.int (4 : Int32))])) _
          refine XS.istore X53.here hx rfl (hb hby at_138) rfl (l' := #[.val (.long q0), .second, .val (.int p1), .val (.int p2), .val (.ref b1), .val (.int (4 : Int32)), .val (.int ((4 : Int32) + (f0_v16 q0 p1 p2))), .val (.int (f0_v17 q0 p1 p2)), .val (.int (4 : Int32))]) rfl ?_
          show Steps p.tables e below (T53.setTop (mkF m 140 #[.val (.long q0), .second, .val (.int p1), .val (.int p2), .val (.ref b1), .val (.int (4 : Int32)), .val (.int ((4 : Int32) + (f0_v16 q0 p1 p2))), .val (.int (f0_v17 q0 p1 p2)), .val (.int (4 : Int32))] [])) _
          refine XS.goto X53.here hx rfl (pc0 := 140) (pc' := 193) rfl (hb hby at_140) (by decide) (by decide) ?_
          exact k)
        have q_f0_m68 : f0_m68 q0 p1 p2 = (4 : Int32) := by unfold f0_m68; rw [if_neg hc122_50, if_pos hc133_55]
        rw [q_f0_m68]
        exact ⟨T53, _, X53, e53, N53, pre56⟩
      obtain ⟨cl57, Ar57, q57, S57, M57, H57, G57⟩ := id V17
      have hin57 : ¬ ((3 : Int32) < 0 ∨ cl57.slots.size ≤ ((3 : Int32)).toNatClampNeg) := inb_of S57 ⟨by decide, by decide⟩
      have hat57 : cl57.slots[((3 : Int32)).toNatClampNeg]? = some (.int ((f0_v5 q0 p1 p2).toInt8.toInt32)) := H57.at hin57 rfl
      obtain ⟨_, _, ⟨T58, L58, k58, n58⟩, -, X58, ⟨Lc58, hQ58, l58, y58, z58⟩, st58⟩ := Jvm.LawKit.callS X53 hx (y := (⟨"com/example/tenon/tenon/Utf8CutPinLaw", "cont", "(B)Z"⟩ : MethodName)) hown (mvT hZ (hw _ (List.mem_of_getElem? (i := 6) rfl))) (mvT hZ (hw _ (List.mem_of_getElem? (i := 7) rfl))) (mvT hZ (hw _ (List.mem_of_getElem? (i := 8) rfl))) (mvT hZ (hw _ (List.mem_of_getElem? (i := 9) rfl))) (by decide) (backOf (W := 0) (rm2 l Z a0' hw [] ((f0_v5 q0 p1 p2).toInt8.toInt32) h17 n0 Z17) hZ (hw _ (List.mem_of_getElem? (i := 9) rfl)) (hw _ (List.mem_of_getElem? (i := 8) rfl)) (by decide) (by decide)) (g := (mkF m 150 #[.val (.long q0), .second, .val (.int p1), .val (.int p2), .val (.ref b1), .val (.int (4 : Int32)), .val (.int ((4 : Int32) + (f0_v16 q0 p1 p2))), .val (.int (f0_v17 q0 p1 p2)), .unset] [(.int ((f0_v5 q0 p1 p2).toInt8.toInt32))])) rfl (by rw [hml]; rfl) (argsL := [(.int ((f0_v5 q0 p1 p2).toInt8.toInt32))]) (rest := []) (lenOf pd1 rfl) rfl (by show 2 * 0 + _ ≤ _; exact Nat.le_of_eq rfl) (hb hby at_150) (fun _ _ => ⟨rfl, e53, (by decide : 1 + 0 ≤ _), (by decide : 8 + 0 ≤ _)⟩)
      dsimp only [Pt.U, Pt.locs, Pt.cells, Pt.slots] at X58 l58 y58 z58 st58 hQ58
      subst l58 y58 z58
      obtain ⟨rfl, N58q, e58⟩ := hQ58
      have N58 := Fr.app N53 N58q
      have pre59 : ∀ t, Steps p.tables e below (T58.setTop (mkF m 153 #[.val (.long q0), .second, .val (.int p1), .val (.int p2), .val (.ref b1), .val (.int (4 : Int32)), .val (.int ((4 : Int32) + (f0_v16 q0 p1 p2))), .val (.int (f0_v17 q0 p1 p2)), .unset] [(.int (F2 ((f0_v5 q0 p1 p2).toInt8.toInt32)))])) t → Steps p.tables e below (s₁.setTop (entryFrame m #[(.long q0), (.int p1), (.int p2)] maxLocals)) t := fun t k => pre54 t (by
        show Steps p.tables e below (T53.setTop (mkF m 133 #[.val (.long q0), .second, .val (.int p1), .val (.int p2), .val (.ref b1), .val (.int (4 : Int32)), .val (.int ((4 : Int32) + (f0_v16 q0 p1 p2))), .val (.int (f0_v17 q0 p1 p2)), .unset] [(.int (F2 ((f0_v7 q0 p1 p2).toInt8.toInt32)))])) _
        refine XS.ifYes X53.here hx rfl (pc0 := 133) (pc' := 143) rfl (hb hby at_133) rfl ((if0 _ _).trans (feq hc133_55).2) (by decide) (by decide) ?_
        show Steps p.tables e below (T53.setTop (mkF m 143 #[.val (.long q0), .second, .val (.int p1), .val (.int p2), .val (.ref b1), .val (.int (4 : Int32)), .val (.int ((4 : Int32) + (f0_v16 q0 p1 p2))), .val (.int (f0_v17 q0 p1 p2)), .unset] [])) _
        refine XS.aload X53.here hx rfl (hb hby at_143) rfl rfl ?_
        show Steps p.tables e below (T53.setTop (mkF m 145 #[.val (.long q0), .second, .val (.int p1), .val (.int p2), .val (.ref b1), .val (.int (4 : Int32)), .val (.int ((4 : Int32) + (f0_v16 q0 p1 p2))), .val (.int (f0_v17 q0 p1 p2)), .unset] [(.ref b1)])) _
        refine XS.iload X53.here hx rfl (hb hby at_145) rfl ?_
        show Steps p.tables e below (T53.setTop (mkF m 147 #[.val (.long q0), .second, .val (.int p1), .val (.int p2), .val (.ref b1), .val (.int (4 : Int32)), .val (.int ((4 : Int32) + (f0_v16 q0 p1 p2))), .val (.int (f0_v17 q0 p1 p2)), .unset] [(.int (4 : Int32)), (.ref b1)])) _
        refine XS.iconst X53.here hx rfl (hb hby at_147) ?_
        show Steps p.tables e below (T53.setTop (mkF m 148 #[.val (.long q0), .second, .val (.int p1), .val (.int p2), .val (.ref b1), .val (.int (4 : Int32)), .val (.int ((4 : Int32) + (f0_v16 q0 p1 p2))), .val (.int (f0_v17 q0 p1 p2)), .unset] [(.int (1 : Int32)), (.int (4 : Int32)), (.ref b1)])) _
        refine XS.isub X53.here hx rfl (hb hby at_148) rfl ?_
        show Steps p.tables e below (T53.setTop (mkF m 149 #[.val (.long q0), .second, .val (.int p1), .val (.int p2), .val (.ref b1), .val (.int (4 : Int32)), .val (.int ((4 : Int32) + (f0_v16 q0 p1 p2))), .val (.int (f0_v17 q0 p1 p2)), .unset] [(.int (3 : Int32)), (.ref b1)])) _
        refine X53.baloadBytes hx (j := (3 : Int32)) (v := (.int ((f0_v5 q0 p1 p2).toInt8.toInt32))) (by rw [e53]; exact Ar57.1) (State.isArrayOf_alike hZ.alike Ar57.2.1) Ar57.2.2 hin57 hat57 (g := (mkF m 149 #[.val (.long q0), .second, .val (.int p1), .val (.int p2), .val (.ref b1), .val (.int (4 : Int32)), .val (.int ((4 : Int32) + (f0_v16 q0 p1 p2))), .val (.int (f0_v17 q0 p1 p2)), .unset] [(.int (3 : Int32)), (.ref b1)])) rfl rfl (hb hby at_149) _ ?_
        show Steps p.tables e below (T53.setTop (mkF m 150 #[.val (.long q0), .second, .val (.int p1), .val (.int p2), .val (.ref b1), .val (.int (4 : Int32)), .val (.int ((4 : Int32) + (f0_v16 q0 p1 p2))), .val (.int (f0_v17 q0 p1 p2)), .unset] [(.int ((f0_v5 q0 p1 p2).toInt8.toInt32))])) _
        refine st58 _ ?_
        exact k)
      by_cases hc153_60 : (F2 ((f0_v5 q0 p1 p2).toInt8.toInt32)) = (0 : Int32)
      · have pre61 : ∀ t, Steps p.tables e below (T58.setTop (mkF m 193 #[.val (.long q0), .second, .val (.int p1), .val (.int p2), .val (.ref b1), .val (.int (4 : Int32)), .val (.int ((4 : Int32) + (f0_v16 q0 p1 p2))), .val (.int (f0_v17 q0 p1 p2)), .val (.int (3 : Int32))] [])) t → Steps p.tables e below (s₁.setTop (entryFrame m #[(.long q0), (.int p1), (.int p2)] maxLocals)) t := fun t k => pre59 t (by
          show Steps p.tables e below (T58.setTop (mkF m 153 #[.val (.long q0), .second, .val (.int p1), .val (.int p2), .val (.ref b1), .val (.int (4 : Int32)), .val (.int ((4 : Int32) + (f0_v16 q0 p1 p2))), .val (.int (f0_v17 q0 p1 p2)), .unset] [(.int (F2 ((f0_v5 q0 p1 p2).toInt8.toInt32)))])) _
          refine XS.ifNo X58.here hx rfl (hb hby at_153) rfl ((if0 _ _).trans (teq hc153_60).2) ?_
          show Steps p.tables e below (T58.setTop (mkF m 156 #[.val (.long q0), .second, .val (.int p1), .val (.int p2), .val (.ref b1), .val (.int (4 : Int32)), .val (.int ((4 : Int32) + (f0_v16 q0 p1 p2))), .val (.int (f0_v17 q0 p1 p2)), .unset] [])) _
          refine XS.iload X58.here hx rfl (hb hby at_156) rfl ?_
          show Steps p.tables e below (T58.setTop (mkF m 158 #[.val (.long q0), .second, .val (.int p1), .val (.int p2), .val (.ref b1), .val (.int (4 : Int32)), .val (.int ((4 : Int32) + (f0_v16 q0 p1 p2))), .val (.int (f0_v17 q0 p1 p2)), .unset] [(.int (4 : Int32))])) _
          refine XS.iconst X58.here hx rfl (hb hby at_158) ?_
          show Steps p.tables e below (T58.setTop (mkF m 159 #[.val (.long q0), .second, .val (.int p1), .val (.int p2), .val (.ref b1), .val (.int (4 : Int32)), .val (.int ((4 : Int32) + (f0_v16 q0 p1 p2))), .val (.int (f0_v17 q0 p1 p2)), .unset] [(.int (1 : Int32)), (.int (4 : Int32))])) _
          refine XS.isub X58.here hx rfl (hb hby at_159) rfl ?_
          show Steps p.tables e below (T58.setTop (mkF m 160 #[.val (.long q0), .second, .val (.int p1), .val (.int p2), .val (.ref b1), .val (.int (4 : Int32)), .val (.int ((4 : Int32) + (f0_v16 q0 p1 p2))), .val (.int (f0_v17 q0 p1 p2)), .unset] [(.int (3 : Int32))])) _
          refine XS.istore X58.here hx rfl (hb hby at_160) rfl (l' := #[.val (.long q0), .second, .val (.int p1), .val (.int p2), .val (.ref b1), .val (.int (4 : Int32)), .val (.int ((4 : Int32) + (f0_v16 q0 p1 p2))), .val (.int (f0_v17 q0 p1 p2)), .val (.int (3 : Int32))]) rfl ?_
          show Steps p.tables e below (T58.setTop (mkF m 162 #[.val (.long q0), .second, .val (.int p1), .val (.int p2), .val (.ref b1), .val (.int (4 : Int32)), .val (.int ((4 : Int32) + (f0_v16 q0 p1 p2))), .val (.int (f0_v17 q0 p1 p2)), .val (.int (3 : Int32))] [])) _
          refine XS.goto X58.here hx rfl (pc0 := 162) (pc' := 193) rfl (hb hby at_162) (by decide) (by decide) ?_
          exact k)
        have q_f0_m68 : f0_m68 q0 p1 p2 = (3 : Int32) := by unfold f0_m68; rw [if_neg hc122_50, if_neg hc133_55, if_pos hc153_60]
        rw [q_f0_m68]
        exact ⟨T58, _, X58, e58, N58, pre61⟩
      obtain ⟨cl62, Ar62, q62, S62, M62, H62, G62⟩ := id V17
      have hin62 : ¬ ((2 : Int32) < 0 ∨ cl62.slots.size ≤ ((2 : Int32)).toNatClampNeg) := inb_of S62 ⟨by decide, by decide⟩
      have hat62 : cl62.slots[((2 : Int32)).toNatClampNeg]? = some (.int ((f0_v3 q0 p1 p2).toInt8.toInt32)) := H62.at hin62 rfl
      obtain ⟨_, _, ⟨T63, L63, k63, n63⟩, -, X63, ⟨Lc63, hQ63, l63, y63, z63⟩, st63⟩ := Jvm.LawKit.callS X58 hx (y := (⟨"com/example/tenon/tenon/Utf8CutPinLaw", "cont", "(B)Z"⟩ : MethodName)) hown (mvT hZ (hw _ (List.mem_of_getElem? (i := 6) rfl))) (mvT hZ (hw _ (List.mem_of_getElem? (i := 7) rfl))) (mvT hZ (hw _ (List.mem_of_getElem? (i := 8) rfl))) (mvT hZ (hw _ (List.mem_of_getElem? (i := 9) rfl))) (by decide) (backOf (W := 0) (rm2 l Z a0' hw [] ((f0_v3 q0 p1 p2).toInt8.toInt32) h17 n0 Z17) hZ (hw _ (List.mem_of_getElem? (i := 9) rfl)) (hw _ (List.mem_of_getElem? (i := 8) rfl)) (by decide) (by decide)) (g := (mkF m 172 #[.val (.long q0), .second, .val (.int p1), .val (.int p2), .val (.ref b1), .val (.int (4 : Int32)), .val (.int ((4 : Int32) + (f0_v16 q0 p1 p2))), .val (.int (f0_v17 q0 p1 p2)), .unset] [(.int ((f0_v3 q0 p1 p2).toInt8.toInt32))])) rfl (by rw [hml]; rfl) (argsL := [(.int ((f0_v3 q0 p1 p2).toInt8.toInt32))]) (rest := []) (lenOf pd1 rfl) rfl (by show 2 * 0 + _ ≤ _; exact Nat.le_of_eq rfl) (hb hby at_172) (fun _ _ => ⟨rfl, e58, (by decide : 1 + 0 ≤ _), (by decide : 8 + 0 ≤ _)⟩)
      dsimp only [Pt.U, Pt.locs, Pt.cells, Pt.slots] at X63 l63 y63 z63 st63 hQ63
      subst l63 y63 z63
      obtain ⟨rfl, N63q, e63⟩ := hQ63
      have N63 := Fr.app N58 N63q
      have pre64 : ∀ t, Steps p.tables e below (T63.setTop (mkF m 175 #[.val (.long q0), .second, .val (.int p1), .val (.int p2), .val (.ref b1), .val (.int (4 : Int32)), .val (.int ((4 : Int32) + (f0_v16 q0 p1 p2))), .val (.int (f0_v17 q0 p1 p2)), .unset] [(.int (F2 ((f0_v3 q0 p1 p2).toInt8.toInt32)))])) t → Steps p.tables e below (s₁.setTop (entryFrame m #[(.long q0), (.int p1), (.int p2)] maxLocals)) t := fun t k => pre59 t (by
        show Steps p.tables e below (T58.setTop (mkF m 153 #[.val (.long q0), .second, .val (.int p1), .val (.int p2), .val (.ref b1), .val (.int (4 : Int32)), .val (.int ((4 : Int32) + (f0_v16 q0 p1 p2))), .val (.int (f0_v17 q0 p1 p2)), .unset] [(.int (F2 ((f0_v5 q0 p1 p2).toInt8.toInt32)))])) _
        refine XS.ifYes X58.here hx rfl (pc0 := 153) (pc' := 165) rfl (hb hby at_153) rfl ((if0 _ _).trans (feq hc153_60).2) (by decide) (by decide) ?_
        show Steps p.tables e below (T58.setTop (mkF m 165 #[.val (.long q0), .second, .val (.int p1), .val (.int p2), .val (.ref b1), .val (.int (4 : Int32)), .val (.int ((4 : Int32) + (f0_v16 q0 p1 p2))), .val (.int (f0_v17 q0 p1 p2)), .unset] [])) _
        refine XS.aload X58.here hx rfl (hb hby at_165) rfl rfl ?_
        show Steps p.tables e below (T58.setTop (mkF m 167 #[.val (.long q0), .second, .val (.int p1), .val (.int p2), .val (.ref b1), .val (.int (4 : Int32)), .val (.int ((4 : Int32) + (f0_v16 q0 p1 p2))), .val (.int (f0_v17 q0 p1 p2)), .unset] [(.ref b1)])) _
        refine XS.iload X58.here hx rfl (hb hby at_167) rfl ?_
        show Steps p.tables e below (T58.setTop (mkF m 169 #[.val (.long q0), .second, .val (.int p1), .val (.int p2), .val (.ref b1), .val (.int (4 : Int32)), .val (.int ((4 : Int32) + (f0_v16 q0 p1 p2))), .val (.int (f0_v17 q0 p1 p2)), .unset] [(.int (4 : Int32)), (.ref b1)])) _
        refine XS.iconst X58.here hx rfl (hb hby at_169) ?_
        show Steps p.tables e below (T58.setTop (mkF m 170 #[.val (.long q0), .second, .val (.int p1), .val (.int p2), .val (.ref b1), .val (.int (4 : Int32)), .val (.int ((4 : Int32) + (f0_v16 q0 p1 p2))), .val (.int (f0_v17 q0 p1 p2)), .unset] [(.int (2 : Int32)), (.int (4 : Int32)), (.ref b1)])) _
        refine XS.isub X58.here hx rfl (hb hby at_170) rfl ?_
        show Steps p.tables e below (T58.setTop (mkF m 171 #[.val (.long q0), .second, .val (.int p1), .val (.int p2), .val (.ref b1), .val (.int (4 : Int32)), .val (.int ((4 : Int32) + (f0_v16 q0 p1 p2))), .val (.int (f0_v17 q0 p1 p2)), .unset] [(.int (2 : Int32)), (.ref b1)])) _
        refine X58.baloadBytes hx (j := (2 : Int32)) (v := (.int ((f0_v3 q0 p1 p2).toInt8.toInt32))) (by rw [e58]; exact Ar62.1) (State.isArrayOf_alike hZ.alike Ar62.2.1) Ar62.2.2 hin62 hat62 (g := (mkF m 171 #[.val (.long q0), .second, .val (.int p1), .val (.int p2), .val (.ref b1), .val (.int (4 : Int32)), .val (.int ((4 : Int32) + (f0_v16 q0 p1 p2))), .val (.int (f0_v17 q0 p1 p2)), .unset] [(.int (2 : Int32)), (.ref b1)])) rfl rfl (hb hby at_171) _ ?_
        show Steps p.tables e below (T58.setTop (mkF m 172 #[.val (.long q0), .second, .val (.int p1), .val (.int p2), .val (.ref b1), .val (.int (4 : Int32)), .val (.int ((4 : Int32) + (f0_v16 q0 p1 p2))), .val (.int (f0_v17 q0 p1 p2)), .unset] [(.int ((f0_v3 q0 p1 p2).toInt8.toInt32))])) _
        refine st63 _ ?_
        exact k)
      by_cases hc175_65 : (F2 ((f0_v3 q0 p1 p2).toInt8.toInt32)) = (0 : Int32)
      · have pre66 : ∀ t, Steps p.tables e below (T63.setTop (mkF m 193 #[.val (.long q0), .second, .val (.int p1), .val (.int p2), .val (.ref b1), .val (.int (4 : Int32)), .val (.int ((4 : Int32) + (f0_v16 q0 p1 p2))), .val (.int (f0_v17 q0 p1 p2)), .val (.int (2 : Int32))] [])) t → Steps p.tables e below (s₁.setTop (entryFrame m #[(.long q0), (.int p1), (.int p2)] maxLocals)) t := fun t k => pre64 t (by
          show Steps p.tables e below (T63.setTop (mkF m 175 #[.val (.long q0), .second, .val (.int p1), .val (.int p2), .val (.ref b1), .val (.int (4 : Int32)), .val (.int ((4 : Int32) + (f0_v16 q0 p1 p2))), .val (.int (f0_v17 q0 p1 p2)), .unset] [(.int (F2 ((f0_v3 q0 p1 p2).toInt8.toInt32)))])) _
          refine XS.ifNo X63.here hx rfl (hb hby at_175) rfl ((if0 _ _).trans (teq hc175_65).2) ?_
          show Steps p.tables e below (T63.setTop (mkF m 178 #[.val (.long q0), .second, .val (.int p1), .val (.int p2), .val (.ref b1), .val (.int (4 : Int32)), .val (.int ((4 : Int32) + (f0_v16 q0 p1 p2))), .val (.int (f0_v17 q0 p1 p2)), .unset] [])) _
          refine XS.iload X63.here hx rfl (hb hby at_178) rfl ?_
          show Steps p.tables e below (T63.setTop (mkF m 180 #[.val (.long q0), .second, .val (.int p1), .val (.int p2), .val (.ref b1), .val (.int (4 : Int32)), .val (.int ((4 : Int32) + (f0_v16 q0 p1 p2))), .val (.int (f0_v17 q0 p1 p2)), .unset] [(.int (4 : Int32))])) _
          refine XS.iconst X63.here hx rfl (hb hby at_180) ?_
          show Steps p.tables e below (T63.setTop (mkF m 181 #[.val (.long q0), .second, .val (.int p1), .val (.int p2), .val (.ref b1), .val (.int (4 : Int32)), .val (.int ((4 : Int32) + (f0_v16 q0 p1 p2))), .val (.int (f0_v17 q0 p1 p2)), .unset] [(.int (2 : Int32)), (.int (4 : Int32))])) _
          refine XS.isub X63.here hx rfl (hb hby at_181) rfl ?_
          show Steps p.tables e below (T63.setTop (mkF m 182 #[.val (.long q0), .second, .val (.int p1), .val (.int p2), .val (.ref b1), .val (.int (4 : Int32)), .val (.int ((4 : Int32) + (f0_v16 q0 p1 p2))), .val (.int (f0_v17 q0 p1 p2)), .unset] [(.int (2 : Int32))])) _
          refine XS.istore X63.here hx rfl (hb hby at_182) rfl (l' := #[.val (.long q0), .second, .val (.int p1), .val (.int p2), .val (.ref b1), .val (.int (4 : Int32)), .val (.int ((4 : Int32) + (f0_v16 q0 p1 p2))), .val (.int (f0_v17 q0 p1 p2)), .val (.int (2 : Int32))]) rfl ?_
          show Steps p.tables e below (T63.setTop (mkF m 184 #[.val (.long q0), .second, .val (.int p1), .val (.int p2), .val (.ref b1), .val (.int (4 : Int32)), .val (.int ((4 : Int32) + (f0_v16 q0 p1 p2))), .val (.int (f0_v17 q0 p1 p2)), .val (.int (2 : Int32))] [])) _
          refine XS.goto X63.here hx rfl (pc0 := 184) (pc' := 193) rfl (hb hby at_184) (by decide) (by decide) ?_
          exact k)
        have q_f0_m68 : f0_m68 q0 p1 p2 = (2 : Int32) := by unfold f0_m68; rw [if_neg hc122_50, if_neg hc133_55, if_neg hc153_60, if_pos hc175_65]
        rw [q_f0_m68]
        exact ⟨T63, _, X63, e63, N63, pre66⟩
      have pre67 : ∀ t, Steps p.tables e below (T63.setTop (mkF m 193 #[.val (.long q0), .second, .val (.int p1), .val (.int p2), .val (.ref b1), .val (.int (4 : Int32)), .val (.int ((4 : Int32) + (f0_v16 q0 p1 p2))), .val (.int (f0_v17 q0 p1 p2)), .val (.int (1 : Int32))] [])) t → Steps p.tables e below (s₁.setTop (entryFrame m #[(.long q0), (.int p1), (.int p2)] maxLocals)) t := fun t k => pre64 t (by
        show Steps p.tables e below (T63.setTop (mkF m 175 #[.val (.long q0), .second, .val (.int p1), .val (.int p2), .val (.ref b1), .val (.int (4 : Int32)), .val (.int ((4 : Int32) + (f0_v16 q0 p1 p2))), .val (.int (f0_v17 q0 p1 p2)), .unset] [(.int (F2 ((f0_v3 q0 p1 p2).toInt8.toInt32)))])) _
        refine XS.ifYes X63.here hx rfl (pc0 := 175) (pc' := 187) rfl (hb hby at_175) rfl ((if0 _ _).trans (feq hc175_65).2) (by decide) (by decide) ?_
        show Steps p.tables e below (T63.setTop (mkF m 187 #[.val (.long q0), .second, .val (.int p1), .val (.int p2), .val (.ref b1), .val (.int (4 : Int32)), .val (.int ((4 : Int32) + (f0_v16 q0 p1 p2))), .val (.int (f0_v17 q0 p1 p2)), .unset] [])) _
        refine XS.iload X63.here hx rfl (hb hby at_187) rfl ?_
        show Steps p.tables e below (T63.setTop (mkF m 189 #[.val (.long q0), .second, .val (.int p1), .val (.int p2), .val (.ref b1), .val (.int (4 : Int32)), .val (.int ((4 : Int32) + (f0_v16 q0 p1 p2))), .val (.int (f0_v17 q0 p1 p2)), .unset] [(.int (4 : Int32))])) _
        refine XS.iconst X63.here hx rfl (hb hby at_189) ?_
        show Steps p.tables e below (T63.setTop (mkF m 190 #[.val (.long q0), .second, .val (.int p1), .val (.int p2), .val (.ref b1), .val (.int (4 : Int32)), .val (.int ((4 : Int32) + (f0_v16 q0 p1 p2))), .val (.int (f0_v17 q0 p1 p2)), .unset] [(.int (3 : Int32)), (.int (4 : Int32))])) _
        refine XS.isub X63.here hx rfl (hb hby at_190) rfl ?_
        show Steps p.tables e below (T63.setTop (mkF m 191 #[.val (.long q0), .second, .val (.int p1), .val (.int p2), .val (.ref b1), .val (.int (4 : Int32)), .val (.int ((4 : Int32) + (f0_v16 q0 p1 p2))), .val (.int (f0_v17 q0 p1 p2)), .unset] [(.int (1 : Int32))])) _
        refine XS.istore X63.here hx rfl (hb hby at_191) rfl (l' := #[.val (.long q0), .second, .val (.int p1), .val (.int p2), .val (.ref b1), .val (.int (4 : Int32)), .val (.int ((4 : Int32) + (f0_v16 q0 p1 p2))), .val (.int (f0_v17 q0 p1 p2)), .val (.int (1 : Int32))]) rfl ?_
        exact k)
      have q_f0_m68 : f0_m68 q0 p1 p2 = (1 : Int32) := by unfold f0_m68; rw [if_neg hc122_50, if_neg hc133_55, if_neg hc153_60, if_neg hc175_65]
      rw [q_f0_m68]
      exact ⟨T63, _, X63, e63, N63, pre67⟩
    have pre69 : ∀ t, Steps p.tables e below (T50.setTop (mkF m 197 #[.val (.long q0), .second, .val (.int p1), .val (.int p2), .val (.ref b1), .val (.int (4 : Int32)), .val (.int ((4 : Int32) + (f0_v16 q0 p1 p2))), .val (.int (f0_v17 q0 p1 p2)), .val (.int (f0_m68 q0 p1 p2))] [(.int (f0_m68 q0 p1 p2)), (.int (f0_v17 q0 p1 p2))])) t → Steps p.tables e below (s₁.setTop (entryFrame m #[(.long q0), (.int p1), (.int p2)] maxLocals)) t := fun t k => pre50 t (by
      show Steps p.tables e below (T50.setTop (mkF m 193 #[.val (.long q0), .second, .val (.int p1), .val (.int p2), .val (.ref b1), .val (.int (4 : Int32)), .val (.int ((4 : Int32) + (f0_v16 q0 p1 p2))), .val (.int (f0_v17 q0 p1 p2)), .val (.int (f0_m68 q0 p1 p2))] [])) _
      refine XS.iload X50.here hx rfl (hb hby at_193) rfl ?_
      show Steps p.tables e below (T50.setTop (mkF m 195 #[.val (.long q0), .second, .val (.int p1), .val (.int p2), .val (.ref b1), .val (.int (4 : Int32)), .val (.int ((4 : Int32) + (f0_v16 q0 p1 p2))), .val (.int (f0_v17 q0 p1 p2)), .val (.int (f0_m68 q0 p1 p2))] [(.int (f0_v17 q0 p1 p2))])) _
      refine XS.iload X50.here hx rfl (hb hby at_195) rfl ?_
      exact k)
    by_cases hc197_70 : (f0_v17 q0 p1 p2) = (f0_m68 q0 p1 p2)
    · have pre71 : ∀ t, Steps p.tables e below (T50.setTop (mkF m 205 #[.val (.long q0), .second, .val (.int p1), .val (.int p2), .val (.ref b1), .val (.int (4 : Int32)), .val (.int ((4 : Int32) + (f0_v16 q0 p1 p2))), .val (.int (f0_v17 q0 p1 p2)), .val (.int (f0_m68 q0 p1 p2))] [(.int (1 : Int32))])) t → Steps p.tables e below (s₁.setTop (entryFrame m #[(.long q0), (.int p1), (.int p2)] maxLocals)) t := fun t k => pre69 t (by
        show Steps p.tables e below (T50.setTop (mkF m 197 #[.val (.long q0), .second, .val (.int p1), .val (.int p2), .val (.ref b1), .val (.int (4 : Int32)), .val (.int ((4 : Int32) + (f0_v16 q0 p1 p2))), .val (.int (f0_v17 q0 p1 p2)), .val (.int (f0_m68 q0 p1 p2))] [(.int (f0_m68 q0 p1 p2)), (.int (f0_v17 q0 p1 p2))])) _
        refine XS.icmpNo X50.here hx rfl (hb hby at_197) rfl (teq hc197_70).2 ?_
        show Steps p.tables e below (T50.setTop (mkF m 200 #[.val (.long q0), .second, .val (.int p1), .val (.int p2), .val (.ref b1), .val (.int (4 : Int32)), .val (.int ((4 : Int32) + (f0_v16 q0 p1 p2))), .val (.int (f0_v17 q0 p1 p2)), .val (.int (f0_m68 q0 p1 p2))] [])) _
        refine XS.iconst X50.here hx rfl (hb hby at_200) ?_
        show Steps p.tables e below (T50.setTop (mkF m 201 #[.val (.long q0), .second, .val (.int p1), .val (.int p2), .val (.ref b1), .val (.int (4 : Int32)), .val (.int ((4 : Int32) + (f0_v16 q0 p1 p2))), .val (.int (f0_v17 q0 p1 p2)), .val (.int (f0_m68 q0 p1 p2))] [(.int (1 : Int32))])) _
        refine XS.goto X50.here hx rfl (pc0 := 201) (pc' := 205) rfl (hb hby at_201) (by decide) (by decide) ?_
        exact k)
      obtain ⟨fs, hr, hrun, hended, hW, hsame⟩ := X50.leave (v := some (.int (1 : Int32))) (fun h => by rw [Bd.returns] at h; cases h) hlk
      have hF : (F0 q0 p1 p2) = (1 : Int32) := by unfold F0; rw [if_neg hv19, if_pos hv46, if_pos hc197_70]
      exact ⟨_, _, pre71 _ (retN X50 hx (t := .boolean) Bd.returns (by simp) (hb hby at_205) hr), hrun, hended, _, _, rfl, ⟨by rw [hF], N50⟩, ⟨_, rfl⟩, hW, hsame.mono (by decide) (by decide)⟩
    have pre72 : ∀ t, Steps p.tables e below (T50.setTop (mkF m 205 #[.val (.long q0), .second, .val (.int p1), .val (.int p2), .val (.ref b1), .val (.int (4 : Int32)), .val (.int ((4 : Int32) + (f0_v16 q0 p1 p2))), .val (.int (f0_v17 q0 p1 p2)), .val (.int (f0_m68 q0 p1 p2))] [(.int (0 : Int32))])) t → Steps p.tables e below (s₁.setTop (entryFrame m #[(.long q0), (.int p1), (.int p2)] maxLocals)) t := fun t k => pre69 t (by
      show Steps p.tables e below (T50.setTop (mkF m 197 #[.val (.long q0), .second, .val (.int p1), .val (.int p2), .val (.ref b1), .val (.int (4 : Int32)), .val (.int ((4 : Int32) + (f0_v16 q0 p1 p2))), .val (.int (f0_v17 q0 p1 p2)), .val (.int (f0_m68 q0 p1 p2))] [(.int (f0_m68 q0 p1 p2)), (.int (f0_v17 q0 p1 p2))])) _
      refine XS.icmpYes X50.here hx rfl (pc0 := 197) (pc' := 204) rfl (hb hby at_197) rfl (feq hc197_70).2 (by decide) (by decide) ?_
      show Steps p.tables e below (T50.setTop (mkF m 204 #[.val (.long q0), .second, .val (.int p1), .val (.int p2), .val (.ref b1), .val (.int (4 : Int32)), .val (.int ((4 : Int32) + (f0_v16 q0 p1 p2))), .val (.int (f0_v17 q0 p1 p2)), .val (.int (f0_m68 q0 p1 p2))] [])) _
      refine XS.iconst X50.here hx rfl (hb hby at_204) ?_
      exact k)
    obtain ⟨fs, hr, hrun, hended, hW, hsame⟩ := X50.leave (v := some (.int (0 : Int32))) (fun h => by rw [Bd.returns] at h; cases h) hlk
    have hF : (F0 q0 p1 p2) = (0 : Int32) := by unfold F0; rw [if_neg hv19, if_pos hv46, if_neg hc197_70]
    exact ⟨_, _, pre72 _ (retN X50 hx (t := .boolean) Bd.returns (by simp) (hb hby at_205) hr), hrun, hended, _, _, rfl, ⟨by rw [hF], N50⟩, ⟨_, rfl⟩, hW, hsame.mono (by decide) (by decide)⟩
  by_cases hv73 : ((3 : Int32) + (p1 &&& (3 : Int32))) = (5 : Int32)
  · have pre74 := pre18
    rw [hv73] at pre74
    obtain ⟨_, _, ⟨T75, L75, k75, n75⟩, -, X75, ⟨Lc75, hQ75, l75, y75, z75⟩, st75⟩ := Jvm.LawKit.callS X17 hx (y := (⟨"com/example/tenon/tenon/Utf8", "cut", "([BII)I"⟩ : MethodName)) hown (mvT hZ (hw _ (List.mem_of_getElem? (i := 2) rfl))) (mvT hZ (hw _ (List.mem_of_getElem? (i := 3) rfl))) (mvT hZ (hw _ (List.mem_of_getElem? (i := 4) rfl))) (mvT hZ (hw _ (List.mem_of_getElem? (i := 5) rfl))) (by decide) (backOf (W := 0) (rm1_5 l Z a0' hw [] b1 ((5 : Int32) + (f0_v18 q0 p1 p2)) (((q0.toInt32).toInt8.toInt32).toInt8.toInt32) ((f0_v1 q0 p1 p2).toInt8.toInt32) ((f0_v3 q0 p1 p2).toInt8.toInt32) ((f0_v5 q0 p1 p2).toInt8.toInt32) ((f0_v7 q0 p1 p2).toInt8.toInt32) ((f0_v9 q0 p1 p2).toInt8.toInt32) ((f0_v11 q0 p1 p2).toInt8.toInt32) ((f0_v13 q0 p1 p2).toInt8.toInt32) k1 h17 n0 Z17 V17) hZ (hw _ (List.mem_of_getElem? (i := 5) rfl)) (hw _ (List.mem_of_getElem? (i := 4) rfl)) (by decide) (by decide)) (g := (mkF m 113 #[.val (.long q0), .second, .val (.int p1), .val (.int p2), .val (.ref b1), .val (.int (5 : Int32)), .val (.int ((5 : Int32) + (f0_v18 q0 p1 p2))), .unset, .unset] [(.int ((5 : Int32) + (f0_v18 q0 p1 p2))), (.int (5 : Int32)), (.ref b1)])) rfl (by rw [hml]; rfl) (argsL := [(.ref b1), (.int (5 : Int32)), (.int ((5 : Int32) + (f0_v18 q0 p1 p2)))]) (rest := []) (lenOf pd0 rfl) rfl (by show 2 * 0 + _ ≤ _; exact Nat.le_of_eq rfl) (hb hby at_113) (fun _ _ => ⟨rfl, e17, (by decide : 1 + 0 ≤ _), (by decide : 8 + 0 ≤ _)⟩)
    dsimp only [Pt.U, Pt.locs, Pt.cells, Pt.slots] at X75 l75 y75 z75 st75 hQ75
    subst l75 y75 z75
    obtain ⟨rfl, N75q, e75⟩ := hQ75
    have N75 := Fr.app N17 N75q
    have pre76 : ∀ t, Steps p.tables e below (T75.setTop (mkF m 122 #[.val (.long q0), .second, .val (.int p1), .val (.int p2), .val (.ref b1), .val (.int (5 : Int32)), .val (.int ((5 : Int32) + (f0_v18 q0 p1 p2))), .val (.int (f0_v19 q0 p1 p2)), .unset] [(.int ((5 : Int32) + (f0_v18 q0 p1 p2))), (.int (5 : Int32))])) t → Steps p.tables e below (s₁.setTop (entryFrame m #[(.long q0), (.int p1), (.int p2)] maxLocals)) t := fun t k => pre74 t (by
      show Steps p.tables e below (T17.setTop (mkF m 92 #[.val (.long q0), .second, .val (.int p1), .val (.int p2), .val (.ref b1), .val (.int (5 : Int32)), .unset, .unset, .unset] [])) _
      refine XS.iload X17.here hx rfl (hb hby at_92) rfl ?_
      show Steps p.tables e below (T17.setTop (mkF m 94 #[.val (.long q0), .second, .val (.int p1), .val (.int p2), .val (.ref b1), .val (.int (5 : Int32)), .unset, .unset, .unset] [(.int (5 : Int32))])) _
      refine XS.iloadN X17.here hx rfl (hb hby at_94) rfl ?_
      show Steps p.tables e below (T17.setTop (mkF m 95 #[.val (.long q0), .second, .val (.int p1), .val (.int p2), .val (.ref b1), .val (.int (5 : Int32)), .unset, .unset, .unset] [(.int p2), (.int (5 : Int32))])) _
      refine X17.ldcInt hx hown (mvT hZ (hw _ (List.mem_of_getElem? (i := 1) rfl))) (g := (mkF m 95 #[.val (.long q0), .second, .val (.int p1), .val (.int p2), .val (.ref b1), .val (.int (5 : Int32)), .unset, .unset, .unset] [(.int p2), (.int (5 : Int32))])) rfl (hb hby at_95) _ ?_
      show Steps p.tables e below (T17.setTop (mkF m 97 #[.val (.long q0), .second, .val (.int p1), .val (.int p2), .val (.ref b1), .val (.int (5 : Int32)), .unset, .unset, .unset] [(.int (2147483647 : Int32)), (.int p2), (.int (5 : Int32))])) _
      refine XS.iand X17.here hx rfl (hb hby at_97) rfl ?_
      show Steps p.tables e below (T17.setTop (mkF m 98 #[.val (.long q0), .second, .val (.int p1), .val (.int p2), .val (.ref b1), .val (.int (5 : Int32)), .unset, .unset, .unset] [(.int (p2 &&& (2147483647 : Int32))), (.int (5 : Int32))])) _
      refine XS.bipush X17.here hx rfl (hb hby at_98) ?_
      show Steps p.tables e below (T17.setTop (mkF m 100 #[.val (.long q0), .second, .val (.int p1), .val (.int p2), .val (.ref b1), .val (.int (5 : Int32)), .unset, .unset, .unset] [(.int (9 : Int32)), (.int (p2 &&& (2147483647 : Int32))), (.int (5 : Int32))])) _
      refine XS.iload X17.here hx rfl (hb hby at_100) rfl ?_
      show Steps p.tables e below (T17.setTop (mkF m 102 #[.val (.long q0), .second, .val (.int p1), .val (.int p2), .val (.ref b1), .val (.int (5 : Int32)), .unset, .unset, .unset] [(.int (5 : Int32)), (.int (9 : Int32)), (.int (p2 &&& (2147483647 : Int32))), (.int (5 : Int32))])) _
      refine XS.isub X17.here hx rfl (hb hby at_102) rfl ?_
      show Steps p.tables e below (T17.setTop (mkF m 103 #[.val (.long q0), .second, .val (.int p1), .val (.int p2), .val (.ref b1), .val (.int (5 : Int32)), .unset, .unset, .unset] [(.int (4 : Int32)), (.int (p2 &&& (2147483647 : Int32))), (.int (5 : Int32))])) _
      refine Jvm.RoadKit.iremM X17 hx rfl (hb hby at_103) rfl (by decide) ?_
      show Steps p.tables e below (T17.setTop (mkF m 104 #[.val (.long q0), .second, .val (.int p1), .val (.int p2), .val (.ref b1), .val (.int (5 : Int32)), .unset, .unset, .unset] [(.int (f0_v18 q0 p1 p2)), (.int (5 : Int32))])) _
      refine XS.iadd X17.here hx rfl (hb hby at_104) rfl ?_
      show Steps p.tables e below (T17.setTop (mkF m 105 #[.val (.long q0), .second, .val (.int p1), .val (.int p2), .val (.ref b1), .val (.int (5 : Int32)), .unset, .unset, .unset] [(.int ((5 : Int32) + (f0_v18 q0 p1 p2)))])) _
      refine XS.istore X17.here hx rfl (hb hby at_105) rfl (l' := #[.val (.long q0), .second, .val (.int p1), .val (.int p2), .val (.ref b1), .val (.int (5 : Int32)), .val (.int ((5 : Int32) + (f0_v18 q0 p1 p2))), .unset, .unset]) rfl ?_
      show Steps p.tables e below (T17.setTop (mkF m 107 #[.val (.long q0), .second, .val (.int p1), .val (.int p2), .val (.ref b1), .val (.int (5 : Int32)), .val (.int ((5 : Int32) + (f0_v18 q0 p1 p2))), .unset, .unset] [])) _
      refine XS.aload X17.here hx rfl (hb hby at_107) rfl rfl ?_
      show Steps p.tables e below (T17.setTop (mkF m 109 #[.val (.long q0), .second, .val (.int p1), .val (.int p2), .val (.ref b1), .val (.int (5 : Int32)), .val (.int ((5 : Int32) + (f0_v18 q0 p1 p2))), .unset, .unset] [(.ref b1)])) _
      refine XS.iload X17.here hx rfl (hb hby at_109) rfl ?_
      show Steps p.tables e below (T17.setTop (mkF m 111 #[.val (.long q0), .second, .val (.int p1), .val (.int p2), .val (.ref b1), .val (.int (5 : Int32)), .val (.int ((5 : Int32) + (f0_v18 q0 p1 p2))), .unset, .unset] [(.int (5 : Int32)), (.ref b1)])) _
      refine XS.iload X17.here hx rfl (hb hby at_111) rfl ?_
      show Steps p.tables e below (T17.setTop (mkF m 113 #[.val (.long q0), .second, .val (.int p1), .val (.int p2), .val (.ref b1), .val (.int (5 : Int32)), .val (.int ((5 : Int32) + (f0_v18 q0 p1 p2))), .unset, .unset] [(.int ((5 : Int32) + (f0_v18 q0 p1 p2))), (.int (5 : Int32)), (.ref b1)])) _
      refine st75 _ ?_
      show Steps p.tables e below (T75.setTop (mkF m 116 #[.val (.long q0), .second, .val (.int p1), .val (.int p2), .val (.ref b1), .val (.int (5 : Int32)), .val (.int ((5 : Int32) + (f0_v18 q0 p1 p2))), .unset, .unset] [(.int (f0_v19 q0 p1 p2))])) _
      refine XS.istore X75.here hx rfl (hb hby at_116) rfl (l' := #[.val (.long q0), .second, .val (.int p1), .val (.int p2), .val (.ref b1), .val (.int (5 : Int32)), .val (.int ((5 : Int32) + (f0_v18 q0 p1 p2))), .val (.int (f0_v19 q0 p1 p2)), .unset]) rfl ?_
      show Steps p.tables e below (T75.setTop (mkF m 118 #[.val (.long q0), .second, .val (.int p1), .val (.int p2), .val (.ref b1), .val (.int (5 : Int32)), .val (.int ((5 : Int32) + (f0_v18 q0 p1 p2))), .val (.int (f0_v19 q0 p1 p2)), .unset] [])) _
      refine XS.iload X75.here hx rfl (hb hby at_118) rfl ?_
      show Steps p.tables e below (T75.setTop (mkF m 120 #[.val (.long q0), .second, .val (.int p1), .val (.int p2), .val (.ref b1), .val (.int (5 : Int32)), .val (.int ((5 : Int32) + (f0_v18 q0 p1 p2))), .val (.int (f0_v19 q0 p1 p2)), .unset] [(.int (5 : Int32))])) _
      refine XS.iload X75.here hx rfl (hb hby at_120) rfl ?_
      exact k)
    obtain ⟨T77, L77, X77, e77, N77, pre77⟩ : ∃ (T' : State) (locs' : List Loc), Stand p l e room_1 s m #[(.long q0), (.int p1), (.int p2)] below meth c T' locs' 1 8 ∧ T'.heap = h17 ∧ Fr n0 locs' ∧ ∀ t, Steps p.tables e below (T'.setTop (mkF m 193 #[.val (.long q0), .second, .val (.int p1), .val (.int p2), .val (.ref b1), .val (.int (5 : Int32)), .val (.int ((5 : Int32) + (f0_v18 q0 p1 p2))), .val (.int (f0_v19 q0 p1 p2)), .val (.int (f0_m95 q0 p1 p2))] [])) t → Steps p.tables e below (s₁.setTop (entryFrame m #[(.long q0), (.int p1), (.int p2)] maxLocals)) t := by
      by_cases hc122_77 : (5 : Int32) = ((5 : Int32) + (f0_v18 q0 p1 p2))
      · have pre78 : ∀ t, Steps p.tables e below (T75.setTop (mkF m 193 #[.val (.long q0), .second, .val (.int p1), .val (.int p2), .val (.ref b1), .val (.int (5 : Int32)), .val (.int ((5 : Int32) + (f0_v18 q0 p1 p2))), .val (.int (f0_v19 q0 p1 p2)), .val (.int (5 : Int32))] [])) t → Steps p.tables e below (s₁.setTop (entryFrame m #[(.long q0), (.int p1), (.int p2)] maxLocals)) t := fun t k => pre76 t (by
          show Steps p.tables e below (T75.setTop (mkF m 122 #[.val (.long q0), .second, .val (.int p1), .val (.int p2), .val (.ref b1), .val (.int (5 : Int32)), .val (.int ((5 : Int32) + (f0_v18 q0 p1 p2))), .val (.int (f0_v19 q0 p1 p2)), .unset] [(.int ((5 : Int32) + (f0_v18 q0 p1 p2))), (.int (5 : Int32))])) _
          refine XS.icmpYes X75.here hx rfl (pc0 := 122) (pc' := 136) rfl (hb hby at_122) rfl (teq hc122_77).1 (by decide) (by decide) ?_
          show Steps p.tables e below (T75.setTop (mkF m 136 #[.val (.long q0), .second, .val (.int p1), .val (.int p2), .val (.ref b1), .val (.int (5 : Int32)), .val (.int ((5 : Int32) + (f0_v18 q0 p1 p2))), .val (.int (f0_v19 q0 p1 p2)), .unset] [])) _
          refine XS.iload X75.here hx rfl (hb hby at_136) rfl ?_
          show Steps p.tables e below (T75.setTop (mkF m 138 #[.val (.long q0), .second, .val (.int p1), .val (.int p2), .val (.ref b1), .val (.int (5 : Int32)), .val (.int ((5 : Int32) + (f0_v18 q0 p1 p2))), .val (.int (f0_v19 q0 p1 p2)), .unset] [(.int (5 : Int32))])) _
          refine XS.istore X75.here hx rfl (hb hby at_138) rfl (l' := #[.val (.long q0), .second, .val (.int p1), .val (.int p2), .val (.ref b1), .val (.int (5 : Int32)), .val (.int ((5 : Int32) + (f0_v18 q0 p1 p2))), .val (.int (f0_v19 q0 p1 p2)), .val (.int (5 : Int32))]) rfl ?_
          show Steps p.tables e below (T75.setTop (mkF m 140 #[.val (.long q0), .second, .val (.int p1), .val (.int p2), .val (.ref b1), .val (.int (5 : Int32)), .val (.int ((5 : Int32) + (f0_v18 q0 p1 p2))), .val (.int (f0_v19 q0 p1 p2)), .val (.int (5 : Int32))] [])) _
          refine XS.goto X75.here hx rfl (pc0 := 140) (pc' := 193) rfl (hb hby at_140) (by decide) (by decide) ?_
          exact k)
        have q_f0_m95 : f0_m95 q0 p1 p2 = (5 : Int32) := by unfold f0_m95; rw [if_pos hc122_77]
        rw [q_f0_m95]
        exact ⟨T75, _, X75, e75, N75, pre78⟩
      obtain ⟨cl79, Ar79, q79, S79, M79, H79, G79⟩ := id V17
      have hin79 : ¬ ((5 : Int32) < 0 ∨ cl79.slots.size ≤ ((5 : Int32)).toNatClampNeg) := inb_of S79 ⟨by decide, by decide⟩
      have hat79 : cl79.slots[((5 : Int32)).toNatClampNeg]? = some (.int ((f0_v9 q0 p1 p2).toInt8.toInt32)) := H79.at hin79 rfl
      obtain ⟨_, _, ⟨T80, L80, k80, n80⟩, -, X80, ⟨Lc80, hQ80, l80, y80, z80⟩, st80⟩ := Jvm.LawKit.callS X75 hx (y := (⟨"com/example/tenon/tenon/Utf8CutPinLaw", "cont", "(B)Z"⟩ : MethodName)) hown (mvT hZ (hw _ (List.mem_of_getElem? (i := 6) rfl))) (mvT hZ (hw _ (List.mem_of_getElem? (i := 7) rfl))) (mvT hZ (hw _ (List.mem_of_getElem? (i := 8) rfl))) (mvT hZ (hw _ (List.mem_of_getElem? (i := 9) rfl))) (by decide) (backOf (W := 0) (rm2 l Z a0' hw [] ((f0_v9 q0 p1 p2).toInt8.toInt32) h17 n0 Z17) hZ (hw _ (List.mem_of_getElem? (i := 9) rfl)) (hw _ (List.mem_of_getElem? (i := 8) rfl)) (by decide) (by decide)) (g := (mkF m 130 #[.val (.long q0), .second, .val (.int p1), .val (.int p2), .val (.ref b1), .val (.int (5 : Int32)), .val (.int ((5 : Int32) + (f0_v18 q0 p1 p2))), .val (.int (f0_v19 q0 p1 p2)), .unset] [(.int ((f0_v9 q0 p1 p2).toInt8.toInt32))])) rfl (by rw [hml]; rfl) (argsL := [(.int ((f0_v9 q0 p1 p2).toInt8.toInt32))]) (rest := []) (lenOf pd1 rfl) rfl (by show 2 * 0 + _ ≤ _; exact Nat.le_of_eq rfl) (hb hby at_130) (fun _ _ => ⟨rfl, e75, (by decide : 1 + 0 ≤ _), (by decide : 8 + 0 ≤ _)⟩)
      dsimp only [Pt.U, Pt.locs, Pt.cells, Pt.slots] at X80 l80 y80 z80 st80 hQ80
      subst l80 y80 z80
      obtain ⟨rfl, N80q, e80⟩ := hQ80
      have N80 := Fr.app N75 N80q
      have pre81 : ∀ t, Steps p.tables e below (T80.setTop (mkF m 133 #[.val (.long q0), .second, .val (.int p1), .val (.int p2), .val (.ref b1), .val (.int (5 : Int32)), .val (.int ((5 : Int32) + (f0_v18 q0 p1 p2))), .val (.int (f0_v19 q0 p1 p2)), .unset] [(.int (F2 ((f0_v9 q0 p1 p2).toInt8.toInt32)))])) t → Steps p.tables e below (s₁.setTop (entryFrame m #[(.long q0), (.int p1), (.int p2)] maxLocals)) t := fun t k => pre76 t (by
        show Steps p.tables e below (T75.setTop (mkF m 122 #[.val (.long q0), .second, .val (.int p1), .val (.int p2), .val (.ref b1), .val (.int (5 : Int32)), .val (.int ((5 : Int32) + (f0_v18 q0 p1 p2))), .val (.int (f0_v19 q0 p1 p2)), .unset] [(.int ((5 : Int32) + (f0_v18 q0 p1 p2))), (.int (5 : Int32))])) _
        refine XS.icmpNo X75.here hx rfl (hb hby at_122) rfl (feq hc122_77).1 ?_
        show Steps p.tables e below (T75.setTop (mkF m 125 #[.val (.long q0), .second, .val (.int p1), .val (.int p2), .val (.ref b1), .val (.int (5 : Int32)), .val (.int ((5 : Int32) + (f0_v18 q0 p1 p2))), .val (.int (f0_v19 q0 p1 p2)), .unset] [])) _
        refine XS.aload X75.here hx rfl (hb hby at_125) rfl rfl ?_
        show Steps p.tables e below (T75.setTop (mkF m 127 #[.val (.long q0), .second, .val (.int p1), .val (.int p2), .val (.ref b1), .val (.int (5 : Int32)), .val (.int ((5 : Int32) + (f0_v18 q0 p1 p2))), .val (.int (f0_v19 q0 p1 p2)), .unset] [(.ref b1)])) _
        refine XS.iload X75.here hx rfl (hb hby at_127) rfl ?_
        show Steps p.tables e below (T75.setTop (mkF m 129 #[.val (.long q0), .second, .val (.int p1), .val (.int p2), .val (.ref b1), .val (.int (5 : Int32)), .val (.int ((5 : Int32) + (f0_v18 q0 p1 p2))), .val (.int (f0_v19 q0 p1 p2)), .unset] [(.int (5 : Int32)), (.ref b1)])) _
        refine X75.baloadBytes hx (j := (5 : Int32)) (v := (.int ((f0_v9 q0 p1 p2).toInt8.toInt32))) (by rw [e75]; exact Ar79.1) (State.isArrayOf_alike hZ.alike Ar79.2.1) Ar79.2.2 hin79 hat79 (g := (mkF m 129 #[.val (.long q0), .second, .val (.int p1), .val (.int p2), .val (.ref b1), .val (.int (5 : Int32)), .val (.int ((5 : Int32) + (f0_v18 q0 p1 p2))), .val (.int (f0_v19 q0 p1 p2)), .unset] [(.int (5 : Int32)), (.ref b1)])) rfl rfl (hb hby at_129) _ ?_
        show Steps p.tables e below (T75.setTop (mkF m 130 #[.val (.long q0), .second, .val (.int p1), .val (.int p2), .val (.ref b1), .val (.int (5 : Int32)), .val (.int ((5 : Int32) + (f0_v18 q0 p1 p2))), .val (.int (f0_v19 q0 p1 p2)), .unset] [(.int ((f0_v9 q0 p1 p2).toInt8.toInt32))])) _
        refine st80 _ ?_
        exact k)
      by_cases hc133_82 : (F2 ((f0_v9 q0 p1 p2).toInt8.toInt32)) = (0 : Int32)
      · have pre83 : ∀ t, Steps p.tables e below (T80.setTop (mkF m 193 #[.val (.long q0), .second, .val (.int p1), .val (.int p2), .val (.ref b1), .val (.int (5 : Int32)), .val (.int ((5 : Int32) + (f0_v18 q0 p1 p2))), .val (.int (f0_v19 q0 p1 p2)), .val (.int (5 : Int32))] [])) t → Steps p.tables e below (s₁.setTop (entryFrame m #[(.long q0), (.int p1), (.int p2)] maxLocals)) t := fun t k => pre81 t (by
          show Steps p.tables e below (T80.setTop (mkF m 133 #[.val (.long q0), .second, .val (.int p1), .val (.int p2), .val (.ref b1), .val (.int (5 : Int32)), .val (.int ((5 : Int32) + (f0_v18 q0 p1 p2))), .val (.int (f0_v19 q0 p1 p2)), .unset] [(.int (F2 ((f0_v9 q0 p1 p2).toInt8.toInt32)))])) _
          refine XS.ifNo X80.here hx rfl (hb hby at_133) rfl ((if0 _ _).trans (teq hc133_82).2) ?_
          show Steps p.tables e below (T80.setTop (mkF m 136 #[.val (.long q0), .second, .val (.int p1), .val (.int p2), .val (.ref b1), .val (.int (5 : Int32)), .val (.int ((5 : Int32) + (f0_v18 q0 p1 p2))), .val (.int (f0_v19 q0 p1 p2)), .unset] [])) _
          refine XS.iload X80.here hx rfl (hb hby at_136) rfl ?_
          show Steps p.tables e below (T80.setTop (mkF m 138 #[.val (.long q0), .second, .val (.int p1), .val (.int p2), .val (.ref b1), .val (.int (5 : Int32)), .val (.int ((5 : Int32) + (f0_v18 q0 p1 p2))), .val (.int (f0_v19 q0 p1 p2)), .unset] [(.int (5 : Int32))])) _
          refine XS.istore X80.here hx rfl (hb hby at_138) rfl (l' := #[.val (.long q0), .second, .val (.int p1), .val (.int p2), .val (.ref b1), .val (.int (5 : Int32)), .val (.int ((5 : Int32) + (f0_v18 q0 p1 p2))), .val (.int (f0_v19 q0 p1 p2)), .val (.int (5 : Int32))]) rfl ?_
          show Steps p.tables e below (T80.setTop (mkF m 140 #[.val (.long q0), .second, .val (.int p1), .val (.int p2), .val (.ref b1), .val (.int (5 : Int32)), .val (.int ((5 : Int32) + (f0_v18 q0 p1 p2))), .val (.int (f0_v19 q0 p1 p2)), .val (.int (5 : Int32))] [])) _
          refine XS.goto X80.here hx rfl (pc0 := 140) (pc' := 193) rfl (hb hby at_140) (by decide) (by decide) ?_
          exact k)
        have q_f0_m95 : f0_m95 q0 p1 p2 = (5 : Int32) := by unfold f0_m95; rw [if_neg hc122_77, if_pos hc133_82]
        rw [q_f0_m95]
        exact ⟨T80, _, X80, e80, N80, pre83⟩
      obtain ⟨cl84, Ar84, q84, S84, M84, H84, G84⟩ := id V17
      have hin84 : ¬ ((4 : Int32) < 0 ∨ cl84.slots.size ≤ ((4 : Int32)).toNatClampNeg) := inb_of S84 ⟨by decide, by decide⟩
      have hat84 : cl84.slots[((4 : Int32)).toNatClampNeg]? = some (.int ((f0_v7 q0 p1 p2).toInt8.toInt32)) := H84.at hin84 rfl
      obtain ⟨_, _, ⟨T85, L85, k85, n85⟩, -, X85, ⟨Lc85, hQ85, l85, y85, z85⟩, st85⟩ := Jvm.LawKit.callS X80 hx (y := (⟨"com/example/tenon/tenon/Utf8CutPinLaw", "cont", "(B)Z"⟩ : MethodName)) hown (mvT hZ (hw _ (List.mem_of_getElem? (i := 6) rfl))) (mvT hZ (hw _ (List.mem_of_getElem? (i := 7) rfl))) (mvT hZ (hw _ (List.mem_of_getElem? (i := 8) rfl))) (mvT hZ (hw _ (List.mem_of_getElem? (i := 9) rfl))) (by decide) (backOf (W := 0) (rm2 l Z a0' hw [] ((f0_v7 q0 p1 p2).toInt8.toInt32) h17 n0 Z17) hZ (hw _ (List.mem_of_getElem? (i := 9) rfl)) (hw _ (List.mem_of_getElem? (i := 8) rfl)) (by decide) (by decide)) (g := (mkF m 150 #[.val (.long q0), .second, .val (.int p1), .val (.int p2), .val (.ref b1), .val (.int (5 : Int32)), .val (.int ((5 : Int32) + (f0_v18 q0 p1 p2))), .val (.int (f0_v19 q0 p1 p2)), .unset] [(.int ((f0_v7 q0 p1 p2).toInt8.toInt32))])) rfl (by rw [hml]; rfl) (argsL := [(.int ((f0_v7 q0 p1 p2).toInt8.toInt32))]) (rest := []) (lenOf pd1 rfl) rfl (by show 2 * 0 + _ ≤ _; exact Nat.le_of_eq rfl) (hb hby at_150) (fun _ _ => ⟨rfl, e80, (by decide : 1 + 0 ≤ _), (by decide : 8 + 0 ≤ _)⟩)
      dsimp only [Pt.U, Pt.locs, Pt.cells, Pt.slots] at X85 l85 y85 z85 st85 hQ85
      subst l85 y85 z85
      obtain ⟨rfl, N85q, e85⟩ := hQ85
      have N85 := Fr.app N80 N85q
      have pre86 : ∀ t, Steps p.tables e below (T85.setTop (mkF m 153 #[.val (.long q0), .second, .val (.int p1), .val (.int p2), .val (.ref b1), .val (.int (5 : Int32)), .val (.int ((5 : Int32) + (f0_v18 q0 p1 p2))), .val (.int (f0_v19 q0 p1 p2)), .unset] [(.int (F2 ((f0_v7 q0 p1 p2).toInt8.toInt32)))])) t → Steps p.tables e below (s₁.setTop (entryFrame m #[(.long q0), (.int p1), (.int p2)] maxLocals)) t := fun t k => pre81 t (by
        show Steps p.tables e below (T80.setTop (mkF m 133 #[.val (.long q0), .second, .val (.int p1), .val (.int p2), .val (.ref b1), .val (.int (5 : Int32)), .val (.int ((5 : Int32) + (f0_v18 q0 p1 p2))), .val (.int (f0_v19 q0 p1 p2)), .unset] [(.int (F2 ((f0_v9 q0 p1 p2).toInt8.toInt32)))])) _
        refine XS.ifYes X80.here hx rfl (pc0 := 133) (pc' := 143) rfl (hb hby at_133) rfl ((if0 _ _).trans (feq hc133_82).2) (by decide) (by decide) ?_
        show Steps p.tables e below (T80.setTop (mkF m 143 #[.val (.long q0), .second, .val (.int p1), .val (.int p2), .val (.ref b1), .val (.int (5 : Int32)), .val (.int ((5 : Int32) + (f0_v18 q0 p1 p2))), .val (.int (f0_v19 q0 p1 p2)), .unset] [])) _
        refine XS.aload X80.here hx rfl (hb hby at_143) rfl rfl ?_
        show Steps p.tables e below (T80.setTop (mkF m 145 #[.val (.long q0), .second, .val (.int p1), .val (.int p2), .val (.ref b1), .val (.int (5 : Int32)), .val (.int ((5 : Int32) + (f0_v18 q0 p1 p2))), .val (.int (f0_v19 q0 p1 p2)), .unset] [(.ref b1)])) _
        refine XS.iload X80.here hx rfl (hb hby at_145) rfl ?_
        show Steps p.tables e below (T80.setTop (mkF m 147 #[.val (.long q0), .second, .val (.int p1), .val (.int p2), .val (.ref b1), .val (.int (5 : Int32)), .val (.int ((5 : Int32) + (f0_v18 q0 p1 p2))), .val (.int (f0_v19 q0 p1 p2)), .unset] [(.int (5 : Int32)), (.ref b1)])) _
        refine XS.iconst X80.here hx rfl (hb hby at_147) ?_
        show Steps p.tables e below (T80.setTop (mkF m 148 #[.val (.long q0), .second, .val (.int p1), .val (.int p2), .val (.ref b1), .val (.int (5 : Int32)), .val (.int ((5 : Int32) + (f0_v18 q0 p1 p2))), .val (.int (f0_v19 q0 p1 p2)), .unset] [(.int (1 : Int32)), (.int (5 : Int32)), (.ref b1)])) _
        refine XS.isub X80.here hx rfl (hb hby at_148) rfl ?_
        show Steps p.tables e below (T80.setTop (mkF m 149 #[.val (.long q0), .second, .val (.int p1), .val (.int p2), .val (.ref b1), .val (.int (5 : Int32)), .val (.int ((5 : Int32) + (f0_v18 q0 p1 p2))), .val (.int (f0_v19 q0 p1 p2)), .unset] [(.int (4 : Int32)), (.ref b1)])) _
        refine X80.baloadBytes hx (j := (4 : Int32)) (v := (.int ((f0_v7 q0 p1 p2).toInt8.toInt32))) (by rw [e80]; exact Ar84.1) (State.isArrayOf_alike hZ.alike Ar84.2.1) Ar84.2.2 hin84 hat84 (g := (mkF m 149 #[.val (.long q0), .second, .val (.int p1), .val (.int p2), .val (.ref b1), .val (.int (5 : Int32)), .val (.int ((5 : Int32) + (f0_v18 q0 p1 p2))), .val (.int (f0_v19 q0 p1 p2)), .unset] [(.int (4 : Int32)), (.ref b1)])) rfl rfl (hb hby at_149) _ ?_
        show Steps p.tables e below (T80.setTop (mkF m 150 #[.val (.long q0), .second, .val (.int p1), .val (.int p2), .val (.ref b1), .val (.int (5 : Int32)), .val (.int ((5 : Int32) + (f0_v18 q0 p1 p2))), .val (.int (f0_v19 q0 p1 p2)), .unset] [(.int ((f0_v7 q0 p1 p2).toInt8.toInt32))])) _
        refine st85 _ ?_
        exact k)
      by_cases hc153_87 : (F2 ((f0_v7 q0 p1 p2).toInt8.toInt32)) = (0 : Int32)
      · have pre88 : ∀ t, Steps p.tables e below (T85.setTop (mkF m 193 #[.val (.long q0), .second, .val (.int p1), .val (.int p2), .val (.ref b1), .val (.int (5 : Int32)), .val (.int ((5 : Int32) + (f0_v18 q0 p1 p2))), .val (.int (f0_v19 q0 p1 p2)), .val (.int (4 : Int32))] [])) t → Steps p.tables e below (s₁.setTop (entryFrame m #[(.long q0), (.int p1), (.int p2)] maxLocals)) t := fun t k => pre86 t (by
          show Steps p.tables e below (T85.setTop (mkF m 153 #[.val (.long q0), .second, .val (.int p1), .val (.int p2), .val (.ref b1), .val (.int (5 : Int32)), .val (.int ((5 : Int32) + (f0_v18 q0 p1 p2))), .val (.int (f0_v19 q0 p1 p2)), .unset] [(.int (F2 ((f0_v7 q0 p1 p2).toInt8.toInt32)))])) _
          refine XS.ifNo X85.here hx rfl (hb hby at_153) rfl ((if0 _ _).trans (teq hc153_87).2) ?_
          show Steps p.tables e below (T85.setTop (mkF m 156 #[.val (.long q0), .second, .val (.int p1), .val (.int p2), .val (.ref b1), .val (.int (5 : Int32)), .val (.int ((5 : Int32) + (f0_v18 q0 p1 p2))), .val (.int (f0_v19 q0 p1 p2)), .unset] [])) _
          refine XS.iload X85.here hx rfl (hb hby at_156) rfl ?_
          show Steps p.tables e below (T85.setTop (mkF m 158 #[.val (.long q0), .second, .val (.int p1), .val (.int p2), .val (.ref b1), .val (.int (5 : Int32)), .val (.int ((5 : Int32) + (f0_v18 q0 p1 p2))), .val (.int (f0_v19 q0 p1 p2)), .unset] [(.int (5 : Int32))])) _
          refine XS.iconst X85.here hx rfl (hb hby at_158) ?_
          show Steps p.tables e below (T85.setTop (mkF m 159 #[.val (.long q0), .second, .val (.int p1), .val (.int p2), .val (.ref b1), .val (.int (5 : Int32)), .val (.int ((5 : Int32) + (f0_v18 q0 p1 p2))), .val (.int (f0_v19 q0 p1 p2)), .unset] [(.int (1 : Int32)), (.int (5 : Int32))])) _
          refine XS.isub X85.here hx rfl (hb hby at_159) rfl ?_
          show Steps p.tables e below (T85.setTop (mkF m 160 #[.val (.long q0), .second, .val (.int p1), .val (.int p2), .val (.ref b1), .val (.int (5 : Int32)), .val (.int ((5 : Int32) + (f0_v18 q0 p1 p2))), .val (.int (f0_v19 q0 p1 p2)), .unset] [(.int (4 : Int32))])) _
          refine XS.istore X85.here hx rfl (hb hby at_160) rfl (l' := #[.val (.long q0), .second, .val (.int p1), .val (.int p2), .val (.ref b1), .val (.int (5 : Int32)), .val (.int ((5 : Int32) + (f0_v18 q0 p1 p2))), .val (.int (f0_v19 q0 p1 p2)), .val (.int (4 : Int32))]) rfl ?_
          show Steps p.tables e below (T85.setTop (mkF m 162 #[.val (.long q0), .second, .val (.int p1), .val (.int p2), .val (.ref b1), .val (.int (5 : Int32)), .val (.int ((5 : Int32) + (f0_v18 q0 p1 p2))), .val (.int (f0_v19 q0 p1 p2)), .val (.int (4 : Int32))] [])) _
          refine XS.goto X85.here hx rfl (pc0 := 162) (pc' := 193) rfl (hb hby at_162) (by decide) (by decide) ?_
          exact k)
        have q_f0_m95 : f0_m95 q0 p1 p2 = (4 : Int32) := by unfold f0_m95; rw [if_neg hc122_77, if_neg hc133_82, if_pos hc153_87]
        rw [q_f0_m95]
        exact ⟨T85, _, X85, e85, N85, pre88⟩
      obtain ⟨cl89, Ar89, q89, S89, M89, H89, G89⟩ := id V17
      have hin89 : ¬ ((3 : Int32) < 0 ∨ cl89.slots.size ≤ ((3 : Int32)).toNatClampNeg) := inb_of S89 ⟨by decide, by decide⟩
      have hat89 : cl89.slots[((3 : Int32)).toNatClampNeg]? = some (.int ((f0_v5 q0 p1 p2).toInt8.toInt32)) := H89.at hin89 rfl
      obtain ⟨_, _, ⟨T90, L90, k90, n90⟩, -, X90, ⟨Lc90, hQ90, l90, y90, z90⟩, st90⟩ := Jvm.LawKit.callS X85 hx (y := (⟨"com/example/tenon/tenon/Utf8CutPinLaw", "cont", "(B)Z"⟩ : MethodName)) hown (mvT hZ (hw _ (List.mem_of_getElem? (i := 6) rfl))) (mvT hZ (hw _ (List.mem_of_getElem? (i := 7) rfl))) (mvT hZ (hw _ (List.mem_of_getElem? (i := 8) rfl))) (mvT hZ (hw _ (List.mem_of_getElem? (i := 9) rfl))) (by decide) (backOf (W := 0) (rm2 l Z a0' hw [] ((f0_v5 q0 p1 p2).toInt8.toInt32) h17 n0 Z17) hZ (hw _ (List.mem_of_getElem? (i := 9) rfl)) (hw _ (List.mem_of_getElem? (i := 8) rfl)) (by decide) (by decide)) (g := (mkF m 172 #[.val (.long q0), .second, .val (.int p1), .val (.int p2), .val (.ref b1), .val (.int (5 : Int32)), .val (.int ((5 : Int32) + (f0_v18 q0 p1 p2))), .val (.int (f0_v19 q0 p1 p2)), .unset] [(.int ((f0_v5 q0 p1 p2).toInt8.toInt32))])) rfl (by rw [hml]; rfl) (argsL := [(.int ((f0_v5 q0 p1 p2).toInt8.toInt32))]) (rest := []) (lenOf pd1 rfl) rfl (by show 2 * 0 + _ ≤ _; exact Nat.le_of_eq rfl) (hb hby at_172) (fun _ _ => ⟨rfl, e85, (by decide : 1 + 0 ≤ _), (by decide : 8 + 0 ≤ _)⟩)
      dsimp only [Pt.U, Pt.locs, Pt.cells, Pt.slots] at X90 l90 y90 z90 st90 hQ90
      subst l90 y90 z90
      obtain ⟨rfl, N90q, e90⟩ := hQ90
      have N90 := Fr.app N85 N90q
      have pre91 : ∀ t, Steps p.tables e below (T90.setTop (mkF m 175 #[.val (.long q0), .second, .val (.int p1), .val (.int p2), .val (.ref b1), .val (.int (5 : Int32)), .val (.int ((5 : Int32) + (f0_v18 q0 p1 p2))), .val (.int (f0_v19 q0 p1 p2)), .unset] [(.int (F2 ((f0_v5 q0 p1 p2).toInt8.toInt32)))])) t → Steps p.tables e below (s₁.setTop (entryFrame m #[(.long q0), (.int p1), (.int p2)] maxLocals)) t := fun t k => pre86 t (by
        show Steps p.tables e below (T85.setTop (mkF m 153 #[.val (.long q0), .second, .val (.int p1), .val (.int p2), .val (.ref b1), .val (.int (5 : Int32)), .val (.int ((5 : Int32) + (f0_v18 q0 p1 p2))), .val (.int (f0_v19 q0 p1 p2)), .unset] [(.int (F2 ((f0_v7 q0 p1 p2).toInt8.toInt32)))])) _
        refine XS.ifYes X85.here hx rfl (pc0 := 153) (pc' := 165) rfl (hb hby at_153) rfl ((if0 _ _).trans (feq hc153_87).2) (by decide) (by decide) ?_
        show Steps p.tables e below (T85.setTop (mkF m 165 #[.val (.long q0), .second, .val (.int p1), .val (.int p2), .val (.ref b1), .val (.int (5 : Int32)), .val (.int ((5 : Int32) + (f0_v18 q0 p1 p2))), .val (.int (f0_v19 q0 p1 p2)), .unset] [])) _
        refine XS.aload X85.here hx rfl (hb hby at_165) rfl rfl ?_
        show Steps p.tables e below (T85.setTop (mkF m 167 #[.val (.long q0), .second, .val (.int p1), .val (.int p2), .val (.ref b1), .val (.int (5 : Int32)), .val (.int ((5 : Int32) + (f0_v18 q0 p1 p2))), .val (.int (f0_v19 q0 p1 p2)), .unset] [(.ref b1)])) _
        refine XS.iload X85.here hx rfl (hb hby at_167) rfl ?_
        show Steps p.tables e below (T85.setTop (mkF m 169 #[.val (.long q0), .second, .val (.int p1), .val (.int p2), .val (.ref b1), .val (.int (5 : Int32)), .val (.int ((5 : Int32) + (f0_v18 q0 p1 p2))), .val (.int (f0_v19 q0 p1 p2)), .unset] [(.int (5 : Int32)), (.ref b1)])) _
        refine XS.iconst X85.here hx rfl (hb hby at_169) ?_
        show Steps p.tables e below (T85.setTop (mkF m 170 #[.val (.long q0), .second, .val (.int p1), .val (.int p2), .val (.ref b1), .val (.int (5 : Int32)), .val (.int ((5 : Int32) + (f0_v18 q0 p1 p2))), .val (.int (f0_v19 q0 p1 p2)), .unset] [(.int (2 : Int32)), (.int (5 : Int32)), (.ref b1)])) _
        refine XS.isub X85.here hx rfl (hb hby at_170) rfl ?_
        show Steps p.tables e below (T85.setTop (mkF m 171 #[.val (.long q0), .second, .val (.int p1), .val (.int p2), .val (.ref b1), .val (.int (5 : Int32)), .val (.int ((5 : Int32) + (f0_v18 q0 p1 p2))), .val (.int (f0_v19 q0 p1 p2)), .unset] [(.int (3 : Int32)), (.ref b1)])) _
        refine X85.baloadBytes hx (j := (3 : Int32)) (v := (.int ((f0_v5 q0 p1 p2).toInt8.toInt32))) (by rw [e85]; exact Ar89.1) (State.isArrayOf_alike hZ.alike Ar89.2.1) Ar89.2.2 hin89 hat89 (g := (mkF m 171 #[.val (.long q0), .second, .val (.int p1), .val (.int p2), .val (.ref b1), .val (.int (5 : Int32)), .val (.int ((5 : Int32) + (f0_v18 q0 p1 p2))), .val (.int (f0_v19 q0 p1 p2)), .unset] [(.int (3 : Int32)), (.ref b1)])) rfl rfl (hb hby at_171) _ ?_
        show Steps p.tables e below (T85.setTop (mkF m 172 #[.val (.long q0), .second, .val (.int p1), .val (.int p2), .val (.ref b1), .val (.int (5 : Int32)), .val (.int ((5 : Int32) + (f0_v18 q0 p1 p2))), .val (.int (f0_v19 q0 p1 p2)), .unset] [(.int ((f0_v5 q0 p1 p2).toInt8.toInt32))])) _
        refine st90 _ ?_
        exact k)
      by_cases hc175_92 : (F2 ((f0_v5 q0 p1 p2).toInt8.toInt32)) = (0 : Int32)
      · have pre93 : ∀ t, Steps p.tables e below (T90.setTop (mkF m 193 #[.val (.long q0), .second, .val (.int p1), .val (.int p2), .val (.ref b1), .val (.int (5 : Int32)), .val (.int ((5 : Int32) + (f0_v18 q0 p1 p2))), .val (.int (f0_v19 q0 p1 p2)), .val (.int (3 : Int32))] [])) t → Steps p.tables e below (s₁.setTop (entryFrame m #[(.long q0), (.int p1), (.int p2)] maxLocals)) t := fun t k => pre91 t (by
          show Steps p.tables e below (T90.setTop (mkF m 175 #[.val (.long q0), .second, .val (.int p1), .val (.int p2), .val (.ref b1), .val (.int (5 : Int32)), .val (.int ((5 : Int32) + (f0_v18 q0 p1 p2))), .val (.int (f0_v19 q0 p1 p2)), .unset] [(.int (F2 ((f0_v5 q0 p1 p2).toInt8.toInt32)))])) _
          refine XS.ifNo X90.here hx rfl (hb hby at_175) rfl ((if0 _ _).trans (teq hc175_92).2) ?_
          show Steps p.tables e below (T90.setTop (mkF m 178 #[.val (.long q0), .second, .val (.int p1), .val (.int p2), .val (.ref b1), .val (.int (5 : Int32)), .val (.int ((5 : Int32) + (f0_v18 q0 p1 p2))), .val (.int (f0_v19 q0 p1 p2)), .unset] [])) _
          refine XS.iload X90.here hx rfl (hb hby at_178) rfl ?_
          show Steps p.tables e below (T90.setTop (mkF m 180 #[.val (.long q0), .second, .val (.int p1), .val (.int p2), .val (.ref b1), .val (.int (5 : Int32)), .val (.int ((5 : Int32) + (f0_v18 q0 p1 p2))), .val (.int (f0_v19 q0 p1 p2)), .unset] [(.int (5 : Int32))])) _
          refine XS.iconst X90.here hx rfl (hb hby at_180) ?_
          show Steps p.tables e below (T90.setTop (mkF m 181 #[.val (.long q0), .second, .val (.int p1), .val (.int p2), .val (.ref b1), .val (.int (5 : Int32)), .val (.int ((5 : Int32) + (f0_v18 q0 p1 p2))), .val (.int (f0_v19 q0 p1 p2)), .unset] [(.int (2 : Int32)), (.int (5 : Int32))])) _
          refine XS.isub X90.here hx rfl (hb hby at_181) rfl ?_
          show Steps p.tables e below (T90.setTop (mkF m 182 #[.val (.long q0), .second, .val (.int p1), .val (.int p2), .val (.ref b1), .val (.int (5 : Int32)), .val (.int ((5 : Int32) + (f0_v18 q0 p1 p2))), .val (.int (f0_v19 q0 p1 p2)), .unset] [(.int (3 : Int32))])) _
          refine XS.istore X90.here hx rfl (hb hby at_182) rfl (l' := #[.val (.long q0), .second, .val (.int p1), .val (.int p2), .val (.ref b1), .val (.int (5 : Int32)), .val (.int ((5 : Int32) + (f0_v18 q0 p1 p2))), .val (.int (f0_v19 q0 p1 p2)), .val (.int (3 : Int32))]) rfl ?_
          show Steps p.tables e below (T90.setTop (mkF m 184 #[.val (.long q0), .second, .val (.int p1), .val (.int p2), .val (.ref b1), .val (.int (5 : Int32)), .val (.int ((5 : Int32) + (f0_v18 q0 p1 p2))), .val (.int (f0_v19 q0 p1 p2)), .val (.int (3 : Int32))] [])) _
          refine XS.goto X90.here hx rfl (pc0 := 184) (pc' := 193) rfl (hb hby at_184) (by decide) (by decide) ?_
          exact k)
        have q_f0_m95 : f0_m95 q0 p1 p2 = (3 : Int32) := by unfold f0_m95; rw [if_neg hc122_77, if_neg hc133_82, if_neg hc153_87, if_pos hc175_92]
        rw [q_f0_m95]
        exact ⟨T90, _, X90, e90, N90, pre93⟩
      have pre94 : ∀ t, Steps p.tables e below (T90.setTop (mkF m 193 #[.val (.long q0), .second, .val (.int p1), .val (.int p2), .val (.ref b1), .val (.int (5 : Int32)), .val (.int ((5 : Int32) + (f0_v18 q0 p1 p2))), .val (.int (f0_v19 q0 p1 p2)), .val (.int (2 : Int32))] [])) t → Steps p.tables e below (s₁.setTop (entryFrame m #[(.long q0), (.int p1), (.int p2)] maxLocals)) t := fun t k => pre91 t (by
        show Steps p.tables e below (T90.setTop (mkF m 175 #[.val (.long q0), .second, .val (.int p1), .val (.int p2), .val (.ref b1), .val (.int (5 : Int32)), .val (.int ((5 : Int32) + (f0_v18 q0 p1 p2))), .val (.int (f0_v19 q0 p1 p2)), .unset] [(.int (F2 ((f0_v5 q0 p1 p2).toInt8.toInt32)))])) _
        refine XS.ifYes X90.here hx rfl (pc0 := 175) (pc' := 187) rfl (hb hby at_175) rfl ((if0 _ _).trans (feq hc175_92).2) (by decide) (by decide) ?_
        show Steps p.tables e below (T90.setTop (mkF m 187 #[.val (.long q0), .second, .val (.int p1), .val (.int p2), .val (.ref b1), .val (.int (5 : Int32)), .val (.int ((5 : Int32) + (f0_v18 q0 p1 p2))), .val (.int (f0_v19 q0 p1 p2)), .unset] [])) _
        refine XS.iload X90.here hx rfl (hb hby at_187) rfl ?_
        show Steps p.tables e below (T90.setTop (mkF m 189 #[.val (.long q0), .second, .val (.int p1), .val (.int p2), .val (.ref b1), .val (.int (5 : Int32)), .val (.int ((5 : Int32) + (f0_v18 q0 p1 p2))), .val (.int (f0_v19 q0 p1 p2)), .unset] [(.int (5 : Int32))])) _
        refine XS.iconst X90.here hx rfl (hb hby at_189) ?_
        show Steps p.tables e below (T90.setTop (mkF m 190 #[.val (.long q0), .second, .val (.int p1), .val (.int p2), .val (.ref b1), .val (.int (5 : Int32)), .val (.int ((5 : Int32) + (f0_v18 q0 p1 p2))), .val (.int (f0_v19 q0 p1 p2)), .unset] [(.int (3 : Int32)), (.int (5 : Int32))])) _
        refine XS.isub X90.here hx rfl (hb hby at_190) rfl ?_
        show Steps p.tables e below (T90.setTop (mkF m 191 #[.val (.long q0), .second, .val (.int p1), .val (.int p2), .val (.ref b1), .val (.int (5 : Int32)), .val (.int ((5 : Int32) + (f0_v18 q0 p1 p2))), .val (.int (f0_v19 q0 p1 p2)), .unset] [(.int (2 : Int32))])) _
        refine XS.istore X90.here hx rfl (hb hby at_191) rfl (l' := #[.val (.long q0), .second, .val (.int p1), .val (.int p2), .val (.ref b1), .val (.int (5 : Int32)), .val (.int ((5 : Int32) + (f0_v18 q0 p1 p2))), .val (.int (f0_v19 q0 p1 p2)), .val (.int (2 : Int32))]) rfl ?_
        exact k)
      have q_f0_m95 : f0_m95 q0 p1 p2 = (2 : Int32) := by unfold f0_m95; rw [if_neg hc122_77, if_neg hc133_82, if_neg hc153_87, if_neg hc175_92]
      rw [q_f0_m95]
      exact ⟨T90, _, X90, e90, N90, pre94⟩
    have pre96 : ∀ t, Steps p.tables e below (T77.setTop (mkF m 197 #[.val (.long q0), .second, .val (.int p1), .val (.int p2), .val (.ref b1), .val (.int (5 : Int32)), .val (.int ((5 : Int32) + (f0_v18 q0 p1 p2))), .val (.int (f0_v19 q0 p1 p2)), .val (.int (f0_m95 q0 p1 p2))] [(.int (f0_m95 q0 p1 p2)), (.int (f0_v19 q0 p1 p2))])) t → Steps p.tables e below (s₁.setTop (entryFrame m #[(.long q0), (.int p1), (.int p2)] maxLocals)) t := fun t k => pre77 t (by
      show Steps p.tables e below (T77.setTop (mkF m 193 #[.val (.long q0), .second, .val (.int p1), .val (.int p2), .val (.ref b1), .val (.int (5 : Int32)), .val (.int ((5 : Int32) + (f0_v18 q0 p1 p2))), .val (.int (f0_v19 q0 p1 p2)), .val (.int (f0_m95 q0 p1 p2))] [])) _
      refine XS.iload X77.here hx rfl (hb hby at_193) rfl ?_
      show Steps p.tables e below (T77.setTop (mkF m 195 #[.val (.long q0), .second, .val (.int p1), .val (.int p2), .val (.ref b1), .val (.int (5 : Int32)), .val (.int ((5 : Int32) + (f0_v18 q0 p1 p2))), .val (.int (f0_v19 q0 p1 p2)), .val (.int (f0_m95 q0 p1 p2))] [(.int (f0_v19 q0 p1 p2))])) _
      refine XS.iload X77.here hx rfl (hb hby at_195) rfl ?_
      exact k)
    by_cases hc197_97 : (f0_v19 q0 p1 p2) = (f0_m95 q0 p1 p2)
    · have pre98 : ∀ t, Steps p.tables e below (T77.setTop (mkF m 205 #[.val (.long q0), .second, .val (.int p1), .val (.int p2), .val (.ref b1), .val (.int (5 : Int32)), .val (.int ((5 : Int32) + (f0_v18 q0 p1 p2))), .val (.int (f0_v19 q0 p1 p2)), .val (.int (f0_m95 q0 p1 p2))] [(.int (1 : Int32))])) t → Steps p.tables e below (s₁.setTop (entryFrame m #[(.long q0), (.int p1), (.int p2)] maxLocals)) t := fun t k => pre96 t (by
        show Steps p.tables e below (T77.setTop (mkF m 197 #[.val (.long q0), .second, .val (.int p1), .val (.int p2), .val (.ref b1), .val (.int (5 : Int32)), .val (.int ((5 : Int32) + (f0_v18 q0 p1 p2))), .val (.int (f0_v19 q0 p1 p2)), .val (.int (f0_m95 q0 p1 p2))] [(.int (f0_m95 q0 p1 p2)), (.int (f0_v19 q0 p1 p2))])) _
        refine XS.icmpNo X77.here hx rfl (hb hby at_197) rfl (teq hc197_97).2 ?_
        show Steps p.tables e below (T77.setTop (mkF m 200 #[.val (.long q0), .second, .val (.int p1), .val (.int p2), .val (.ref b1), .val (.int (5 : Int32)), .val (.int ((5 : Int32) + (f0_v18 q0 p1 p2))), .val (.int (f0_v19 q0 p1 p2)), .val (.int (f0_m95 q0 p1 p2))] [])) _
        refine XS.iconst X77.here hx rfl (hb hby at_200) ?_
        show Steps p.tables e below (T77.setTop (mkF m 201 #[.val (.long q0), .second, .val (.int p1), .val (.int p2), .val (.ref b1), .val (.int (5 : Int32)), .val (.int ((5 : Int32) + (f0_v18 q0 p1 p2))), .val (.int (f0_v19 q0 p1 p2)), .val (.int (f0_m95 q0 p1 p2))] [(.int (1 : Int32))])) _
        refine XS.goto X77.here hx rfl (pc0 := 201) (pc' := 205) rfl (hb hby at_201) (by decide) (by decide) ?_
        exact k)
      obtain ⟨fs, hr, hrun, hended, hW, hsame⟩ := X77.leave (v := some (.int (1 : Int32))) (fun h => by rw [Bd.returns] at h; cases h) hlk
      have hF : (F0 q0 p1 p2) = (1 : Int32) := by unfold F0; rw [if_neg hv19, if_neg hv46, if_pos hv73, if_pos hc197_97]
      exact ⟨_, _, pre98 _ (retN X77 hx (t := .boolean) Bd.returns (by simp) (hb hby at_205) hr), hrun, hended, _, _, rfl, ⟨by rw [hF], N77⟩, ⟨_, rfl⟩, hW, hsame.mono (by decide) (by decide)⟩
    have pre99 : ∀ t, Steps p.tables e below (T77.setTop (mkF m 205 #[.val (.long q0), .second, .val (.int p1), .val (.int p2), .val (.ref b1), .val (.int (5 : Int32)), .val (.int ((5 : Int32) + (f0_v18 q0 p1 p2))), .val (.int (f0_v19 q0 p1 p2)), .val (.int (f0_m95 q0 p1 p2))] [(.int (0 : Int32))])) t → Steps p.tables e below (s₁.setTop (entryFrame m #[(.long q0), (.int p1), (.int p2)] maxLocals)) t := fun t k => pre96 t (by
      show Steps p.tables e below (T77.setTop (mkF m 197 #[.val (.long q0), .second, .val (.int p1), .val (.int p2), .val (.ref b1), .val (.int (5 : Int32)), .val (.int ((5 : Int32) + (f0_v18 q0 p1 p2))), .val (.int (f0_v19 q0 p1 p2)), .val (.int (f0_m95 q0 p1 p2))] [(.int (f0_m95 q0 p1 p2)), (.int (f0_v19 q0 p1 p2))])) _
      refine XS.icmpYes X77.here hx rfl (pc0 := 197) (pc' := 204) rfl (hb hby at_197) rfl (feq hc197_97).2 (by decide) (by decide) ?_
      show Steps p.tables e below (T77.setTop (mkF m 204 #[.val (.long q0), .second, .val (.int p1), .val (.int p2), .val (.ref b1), .val (.int (5 : Int32)), .val (.int ((5 : Int32) + (f0_v18 q0 p1 p2))), .val (.int (f0_v19 q0 p1 p2)), .val (.int (f0_m95 q0 p1 p2))] [])) _
      refine XS.iconst X77.here hx rfl (hb hby at_204) ?_
      exact k)
    obtain ⟨fs, hr, hrun, hended, hW, hsame⟩ := X77.leave (v := some (.int (0 : Int32))) (fun h => by rw [Bd.returns] at h; cases h) hlk
    have hF : (F0 q0 p1 p2) = (0 : Int32) := by unfold F0; rw [if_neg hv19, if_neg hv46, if_pos hv73, if_neg hc197_97]
    exact ⟨_, _, pre99 _ (retN X77 hx (t := .boolean) Bd.returns (by simp) (hb hby at_205) hr), hrun, hended, _, _, rfl, ⟨by rw [hF], N77⟩, ⟨_, rfl⟩, hW, hsame.mono (by decide) (by decide)⟩
  have hv100 : ((3 : Int32) + (p1 &&& (3 : Int32))) = (6 : Int32) := own_q3 p1 hv19 hv46 hv73
  have pre101 := pre18
  rw [hv100] at pre101
  obtain ⟨_, _, ⟨T102, L102, k102, n102⟩, -, X102, ⟨Lc102, hQ102, l102, y102, z102⟩, st102⟩ := Jvm.LawKit.callS X17 hx (y := (⟨"com/example/tenon/tenon/Utf8", "cut", "([BII)I"⟩ : MethodName)) hown (mvT hZ (hw _ (List.mem_of_getElem? (i := 2) rfl))) (mvT hZ (hw _ (List.mem_of_getElem? (i := 3) rfl))) (mvT hZ (hw _ (List.mem_of_getElem? (i := 4) rfl))) (mvT hZ (hw _ (List.mem_of_getElem? (i := 5) rfl))) (by decide) (backOf (W := 0) (rm1_6 l Z a0' hw [] b1 ((6 : Int32) + (f0_v20 q0 p1 p2)) (((q0.toInt32).toInt8.toInt32).toInt8.toInt32) ((f0_v1 q0 p1 p2).toInt8.toInt32) ((f0_v3 q0 p1 p2).toInt8.toInt32) ((f0_v5 q0 p1 p2).toInt8.toInt32) ((f0_v7 q0 p1 p2).toInt8.toInt32) ((f0_v9 q0 p1 p2).toInt8.toInt32) ((f0_v11 q0 p1 p2).toInt8.toInt32) ((f0_v13 q0 p1 p2).toInt8.toInt32) k1 h17 n0 Z17 V17) hZ (hw _ (List.mem_of_getElem? (i := 5) rfl)) (hw _ (List.mem_of_getElem? (i := 4) rfl)) (by decide) (by decide)) (g := (mkF m 113 #[.val (.long q0), .second, .val (.int p1), .val (.int p2), .val (.ref b1), .val (.int (6 : Int32)), .val (.int ((6 : Int32) + (f0_v20 q0 p1 p2))), .unset, .unset] [(.int ((6 : Int32) + (f0_v20 q0 p1 p2))), (.int (6 : Int32)), (.ref b1)])) rfl (by rw [hml]; rfl) (argsL := [(.ref b1), (.int (6 : Int32)), (.int ((6 : Int32) + (f0_v20 q0 p1 p2)))]) (rest := []) (lenOf pd0 rfl) rfl (by show 2 * 0 + _ ≤ _; exact Nat.le_of_eq rfl) (hb hby at_113) (fun _ _ => ⟨rfl, e17, (by decide : 1 + 0 ≤ _), (by decide : 8 + 0 ≤ _)⟩)
  dsimp only [Pt.U, Pt.locs, Pt.cells, Pt.slots] at X102 l102 y102 z102 st102 hQ102
  subst l102 y102 z102
  obtain ⟨rfl, N102q, e102⟩ := hQ102
  have N102 := Fr.app N17 N102q
  have pre103 : ∀ t, Steps p.tables e below (T102.setTop (mkF m 122 #[.val (.long q0), .second, .val (.int p1), .val (.int p2), .val (.ref b1), .val (.int (6 : Int32)), .val (.int ((6 : Int32) + (f0_v20 q0 p1 p2))), .val (.int (f0_v21 q0 p1 p2)), .unset] [(.int ((6 : Int32) + (f0_v20 q0 p1 p2))), (.int (6 : Int32))])) t → Steps p.tables e below (s₁.setTop (entryFrame m #[(.long q0), (.int p1), (.int p2)] maxLocals)) t := fun t k => pre101 t (by
    show Steps p.tables e below (T17.setTop (mkF m 92 #[.val (.long q0), .second, .val (.int p1), .val (.int p2), .val (.ref b1), .val (.int (6 : Int32)), .unset, .unset, .unset] [])) _
    refine XS.iload X17.here hx rfl (hb hby at_92) rfl ?_
    show Steps p.tables e below (T17.setTop (mkF m 94 #[.val (.long q0), .second, .val (.int p1), .val (.int p2), .val (.ref b1), .val (.int (6 : Int32)), .unset, .unset, .unset] [(.int (6 : Int32))])) _
    refine XS.iloadN X17.here hx rfl (hb hby at_94) rfl ?_
    show Steps p.tables e below (T17.setTop (mkF m 95 #[.val (.long q0), .second, .val (.int p1), .val (.int p2), .val (.ref b1), .val (.int (6 : Int32)), .unset, .unset, .unset] [(.int p2), (.int (6 : Int32))])) _
    refine X17.ldcInt hx hown (mvT hZ (hw _ (List.mem_of_getElem? (i := 1) rfl))) (g := (mkF m 95 #[.val (.long q0), .second, .val (.int p1), .val (.int p2), .val (.ref b1), .val (.int (6 : Int32)), .unset, .unset, .unset] [(.int p2), (.int (6 : Int32))])) rfl (hb hby at_95) _ ?_
    show Steps p.tables e below (T17.setTop (mkF m 97 #[.val (.long q0), .second, .val (.int p1), .val (.int p2), .val (.ref b1), .val (.int (6 : Int32)), .unset, .unset, .unset] [(.int (2147483647 : Int32)), (.int p2), (.int (6 : Int32))])) _
    refine XS.iand X17.here hx rfl (hb hby at_97) rfl ?_
    show Steps p.tables e below (T17.setTop (mkF m 98 #[.val (.long q0), .second, .val (.int p1), .val (.int p2), .val (.ref b1), .val (.int (6 : Int32)), .unset, .unset, .unset] [(.int (p2 &&& (2147483647 : Int32))), (.int (6 : Int32))])) _
    refine XS.bipush X17.here hx rfl (hb hby at_98) ?_
    show Steps p.tables e below (T17.setTop (mkF m 100 #[.val (.long q0), .second, .val (.int p1), .val (.int p2), .val (.ref b1), .val (.int (6 : Int32)), .unset, .unset, .unset] [(.int (9 : Int32)), (.int (p2 &&& (2147483647 : Int32))), (.int (6 : Int32))])) _
    refine XS.iload X17.here hx rfl (hb hby at_100) rfl ?_
    show Steps p.tables e below (T17.setTop (mkF m 102 #[.val (.long q0), .second, .val (.int p1), .val (.int p2), .val (.ref b1), .val (.int (6 : Int32)), .unset, .unset, .unset] [(.int (6 : Int32)), (.int (9 : Int32)), (.int (p2 &&& (2147483647 : Int32))), (.int (6 : Int32))])) _
    refine XS.isub X17.here hx rfl (hb hby at_102) rfl ?_
    show Steps p.tables e below (T17.setTop (mkF m 103 #[.val (.long q0), .second, .val (.int p1), .val (.int p2), .val (.ref b1), .val (.int (6 : Int32)), .unset, .unset, .unset] [(.int (3 : Int32)), (.int (p2 &&& (2147483647 : Int32))), (.int (6 : Int32))])) _
    refine Jvm.RoadKit.iremM X17 hx rfl (hb hby at_103) rfl (by decide) ?_
    show Steps p.tables e below (T17.setTop (mkF m 104 #[.val (.long q0), .second, .val (.int p1), .val (.int p2), .val (.ref b1), .val (.int (6 : Int32)), .unset, .unset, .unset] [(.int (f0_v20 q0 p1 p2)), (.int (6 : Int32))])) _
    refine XS.iadd X17.here hx rfl (hb hby at_104) rfl ?_
    show Steps p.tables e below (T17.setTop (mkF m 105 #[.val (.long q0), .second, .val (.int p1), .val (.int p2), .val (.ref b1), .val (.int (6 : Int32)), .unset, .unset, .unset] [(.int ((6 : Int32) + (f0_v20 q0 p1 p2)))])) _
    refine XS.istore X17.here hx rfl (hb hby at_105) rfl (l' := #[.val (.long q0), .second, .val (.int p1), .val (.int p2), .val (.ref b1), .val (.int (6 : Int32)), .val (.int ((6 : Int32) + (f0_v20 q0 p1 p2))), .unset, .unset]) rfl ?_
    show Steps p.tables e below (T17.setTop (mkF m 107 #[.val (.long q0), .second, .val (.int p1), .val (.int p2), .val (.ref b1), .val (.int (6 : Int32)), .val (.int ((6 : Int32) + (f0_v20 q0 p1 p2))), .unset, .unset] [])) _
    refine XS.aload X17.here hx rfl (hb hby at_107) rfl rfl ?_
    show Steps p.tables e below (T17.setTop (mkF m 109 #[.val (.long q0), .second, .val (.int p1), .val (.int p2), .val (.ref b1), .val (.int (6 : Int32)), .val (.int ((6 : Int32) + (f0_v20 q0 p1 p2))), .unset, .unset] [(.ref b1)])) _
    refine XS.iload X17.here hx rfl (hb hby at_109) rfl ?_
    show Steps p.tables e below (T17.setTop (mkF m 111 #[.val (.long q0), .second, .val (.int p1), .val (.int p2), .val (.ref b1), .val (.int (6 : Int32)), .val (.int ((6 : Int32) + (f0_v20 q0 p1 p2))), .unset, .unset] [(.int (6 : Int32)), (.ref b1)])) _
    refine XS.iload X17.here hx rfl (hb hby at_111) rfl ?_
    show Steps p.tables e below (T17.setTop (mkF m 113 #[.val (.long q0), .second, .val (.int p1), .val (.int p2), .val (.ref b1), .val (.int (6 : Int32)), .val (.int ((6 : Int32) + (f0_v20 q0 p1 p2))), .unset, .unset] [(.int ((6 : Int32) + (f0_v20 q0 p1 p2))), (.int (6 : Int32)), (.ref b1)])) _
    refine st102 _ ?_
    show Steps p.tables e below (T102.setTop (mkF m 116 #[.val (.long q0), .second, .val (.int p1), .val (.int p2), .val (.ref b1), .val (.int (6 : Int32)), .val (.int ((6 : Int32) + (f0_v20 q0 p1 p2))), .unset, .unset] [(.int (f0_v21 q0 p1 p2))])) _
    refine XS.istore X102.here hx rfl (hb hby at_116) rfl (l' := #[.val (.long q0), .second, .val (.int p1), .val (.int p2), .val (.ref b1), .val (.int (6 : Int32)), .val (.int ((6 : Int32) + (f0_v20 q0 p1 p2))), .val (.int (f0_v21 q0 p1 p2)), .unset]) rfl ?_
    show Steps p.tables e below (T102.setTop (mkF m 118 #[.val (.long q0), .second, .val (.int p1), .val (.int p2), .val (.ref b1), .val (.int (6 : Int32)), .val (.int ((6 : Int32) + (f0_v20 q0 p1 p2))), .val (.int (f0_v21 q0 p1 p2)), .unset] [])) _
    refine XS.iload X102.here hx rfl (hb hby at_118) rfl ?_
    show Steps p.tables e below (T102.setTop (mkF m 120 #[.val (.long q0), .second, .val (.int p1), .val (.int p2), .val (.ref b1), .val (.int (6 : Int32)), .val (.int ((6 : Int32) + (f0_v20 q0 p1 p2))), .val (.int (f0_v21 q0 p1 p2)), .unset] [(.int (6 : Int32))])) _
    refine XS.iload X102.here hx rfl (hb hby at_120) rfl ?_
    exact k)
  obtain ⟨T104, L104, X104, e104, N104, pre104⟩ : ∃ (T' : State) (locs' : List Loc), Stand p l e room_1 s m #[(.long q0), (.int p1), (.int p2)] below meth c T' locs' 1 8 ∧ T'.heap = h17 ∧ Fr n0 locs' ∧ ∀ t, Steps p.tables e below (T'.setTop (mkF m 193 #[.val (.long q0), .second, .val (.int p1), .val (.int p2), .val (.ref b1), .val (.int (6 : Int32)), .val (.int ((6 : Int32) + (f0_v20 q0 p1 p2))), .val (.int (f0_v21 q0 p1 p2)), .val (.int (f0_m122 q0 p1 p2))] [])) t → Steps p.tables e below (s₁.setTop (entryFrame m #[(.long q0), (.int p1), (.int p2)] maxLocals)) t := by
    by_cases hc122_104 : (6 : Int32) = ((6 : Int32) + (f0_v20 q0 p1 p2))
    · have pre105 : ∀ t, Steps p.tables e below (T102.setTop (mkF m 193 #[.val (.long q0), .second, .val (.int p1), .val (.int p2), .val (.ref b1), .val (.int (6 : Int32)), .val (.int ((6 : Int32) + (f0_v20 q0 p1 p2))), .val (.int (f0_v21 q0 p1 p2)), .val (.int (6 : Int32))] [])) t → Steps p.tables e below (s₁.setTop (entryFrame m #[(.long q0), (.int p1), (.int p2)] maxLocals)) t := fun t k => pre103 t (by
        show Steps p.tables e below (T102.setTop (mkF m 122 #[.val (.long q0), .second, .val (.int p1), .val (.int p2), .val (.ref b1), .val (.int (6 : Int32)), .val (.int ((6 : Int32) + (f0_v20 q0 p1 p2))), .val (.int (f0_v21 q0 p1 p2)), .unset] [(.int ((6 : Int32) + (f0_v20 q0 p1 p2))), (.int (6 : Int32))])) _
        refine XS.icmpYes X102.here hx rfl (pc0 := 122) (pc' := 136) rfl (hb hby at_122) rfl (teq hc122_104).1 (by decide) (by decide) ?_
        show Steps p.tables e below (T102.setTop (mkF m 136 #[.val (.long q0), .second, .val (.int p1), .val (.int p2), .val (.ref b1), .val (.int (6 : Int32)), .val (.int ((6 : Int32) + (f0_v20 q0 p1 p2))), .val (.int (f0_v21 q0 p1 p2)), .unset] [])) _
        refine XS.iload X102.here hx rfl (hb hby at_136) rfl ?_
        show Steps p.tables e below (T102.setTop (mkF m 138 #[.val (.long q0), .second, .val (.int p1), .val (.int p2), .val (.ref b1), .val (.int (6 : Int32)), .val (.int ((6 : Int32) + (f0_v20 q0 p1 p2))), .val (.int (f0_v21 q0 p1 p2)), .unset] [(.int (6 : Int32))])) _
        refine XS.istore X102.here hx rfl (hb hby at_138) rfl (l' := #[.val (.long q0), .second, .val (.int p1), .val (.int p2), .val (.ref b1), .val (.int (6 : Int32)), .val (.int ((6 : Int32) + (f0_v20 q0 p1 p2))), .val (.int (f0_v21 q0 p1 p2)), .val (.int (6 : Int32))]) rfl ?_
        show Steps p.tables e below (T102.setTop (mkF m 140 #[.val (.long q0), .second, .val (.int p1), .val (.int p2), .val (.ref b1), .val (.int (6 : Int32)), .val (.int ((6 : Int32) + (f0_v20 q0 p1 p2))), .val (.int (f0_v21 q0 p1 p2)), .val (.int (6 : Int32))] [])) _
        refine XS.goto X102.here hx rfl (pc0 := 140) (pc' := 193) rfl (hb hby at_140) (by decide) (by decide) ?_
        exact k)
      have q_f0_m122 : f0_m122 q0 p1 p2 = (6 : Int32) := by unfold f0_m122; rw [if_pos hc122_104]
      rw [q_f0_m122]
      exact ⟨T102, _, X102, e102, N102, pre105⟩
    obtain ⟨cl106, Ar106, q106, S106, M106, H106, G106⟩ := id V17
    have hin106 : ¬ ((6 : Int32) < 0 ∨ cl106.slots.size ≤ ((6 : Int32)).toNatClampNeg) := inb_of S106 ⟨by decide, by decide⟩
    have hat106 : cl106.slots[((6 : Int32)).toNatClampNeg]? = some (.int ((f0_v11 q0 p1 p2).toInt8.toInt32)) := H106.at hin106 rfl
    obtain ⟨_, _, ⟨T107, L107, k107, n107⟩, -, X107, ⟨Lc107, hQ107, l107, y107, z107⟩, st107⟩ := Jvm.LawKit.callS X102 hx (y := (⟨"com/example/tenon/tenon/Utf8CutPinLaw", "cont", "(B)Z"⟩ : MethodName)) hown (mvT hZ (hw _ (List.mem_of_getElem? (i := 6) rfl))) (mvT hZ (hw _ (List.mem_of_getElem? (i := 7) rfl))) (mvT hZ (hw _ (List.mem_of_getElem? (i := 8) rfl))) (mvT hZ (hw _ (List.mem_of_getElem? (i := 9) rfl))) (by decide) (backOf (W := 0) (rm2 l Z a0' hw [] ((f0_v11 q0 p1 p2).toInt8.toInt32) h17 n0 Z17) hZ (hw _ (List.mem_of_getElem? (i := 9) rfl)) (hw _ (List.mem_of_getElem? (i := 8) rfl)) (by decide) (by decide)) (g := (mkF m 130 #[.val (.long q0), .second, .val (.int p1), .val (.int p2), .val (.ref b1), .val (.int (6 : Int32)), .val (.int ((6 : Int32) + (f0_v20 q0 p1 p2))), .val (.int (f0_v21 q0 p1 p2)), .unset] [(.int ((f0_v11 q0 p1 p2).toInt8.toInt32))])) rfl (by rw [hml]; rfl) (argsL := [(.int ((f0_v11 q0 p1 p2).toInt8.toInt32))]) (rest := []) (lenOf pd1 rfl) rfl (by show 2 * 0 + _ ≤ _; exact Nat.le_of_eq rfl) (hb hby at_130) (fun _ _ => ⟨rfl, e102, (by decide : 1 + 0 ≤ _), (by decide : 8 + 0 ≤ _)⟩)
    dsimp only [Pt.U, Pt.locs, Pt.cells, Pt.slots] at X107 l107 y107 z107 st107 hQ107
    subst l107 y107 z107
    obtain ⟨rfl, N107q, e107⟩ := hQ107
    have N107 := Fr.app N102 N107q
    have pre108 : ∀ t, Steps p.tables e below (T107.setTop (mkF m 133 #[.val (.long q0), .second, .val (.int p1), .val (.int p2), .val (.ref b1), .val (.int (6 : Int32)), .val (.int ((6 : Int32) + (f0_v20 q0 p1 p2))), .val (.int (f0_v21 q0 p1 p2)), .unset] [(.int (F2 ((f0_v11 q0 p1 p2).toInt8.toInt32)))])) t → Steps p.tables e below (s₁.setTop (entryFrame m #[(.long q0), (.int p1), (.int p2)] maxLocals)) t := fun t k => pre103 t (by
      show Steps p.tables e below (T102.setTop (mkF m 122 #[.val (.long q0), .second, .val (.int p1), .val (.int p2), .val (.ref b1), .val (.int (6 : Int32)), .val (.int ((6 : Int32) + (f0_v20 q0 p1 p2))), .val (.int (f0_v21 q0 p1 p2)), .unset] [(.int ((6 : Int32) + (f0_v20 q0 p1 p2))), (.int (6 : Int32))])) _
      refine XS.icmpNo X102.here hx rfl (hb hby at_122) rfl (feq hc122_104).1 ?_
      show Steps p.tables e below (T102.setTop (mkF m 125 #[.val (.long q0), .second, .val (.int p1), .val (.int p2), .val (.ref b1), .val (.int (6 : Int32)), .val (.int ((6 : Int32) + (f0_v20 q0 p1 p2))), .val (.int (f0_v21 q0 p1 p2)), .unset] [])) _
      refine XS.aload X102.here hx rfl (hb hby at_125) rfl rfl ?_
      show Steps p.tables e below (T102.setTop (mkF m 127 #[.val (.long q0), .second, .val (.int p1), .val (.int p2), .val (.ref b1), .val (.int (6 : Int32)), .val (.int ((6 : Int32) + (f0_v20 q0 p1 p2))), .val (.int (f0_v21 q0 p1 p2)), .unset] [(.ref b1)])) _
      refine XS.iload X102.here hx rfl (hb hby at_127) rfl ?_
      show Steps p.tables e below (T102.setTop (mkF m 129 #[.val (.long q0), .second, .val (.int p1), .val (.int p2), .val (.ref b1), .val (.int (6 : Int32)), .val (.int ((6 : Int32) + (f0_v20 q0 p1 p2))), .val (.int (f0_v21 q0 p1 p2)), .unset] [(.int (6 : Int32)), (.ref b1)])) _
      refine X102.baloadBytes hx (j := (6 : Int32)) (v := (.int ((f0_v11 q0 p1 p2).toInt8.toInt32))) (by rw [e102]; exact Ar106.1) (State.isArrayOf_alike hZ.alike Ar106.2.1) Ar106.2.2 hin106 hat106 (g := (mkF m 129 #[.val (.long q0), .second, .val (.int p1), .val (.int p2), .val (.ref b1), .val (.int (6 : Int32)), .val (.int ((6 : Int32) + (f0_v20 q0 p1 p2))), .val (.int (f0_v21 q0 p1 p2)), .unset] [(.int (6 : Int32)), (.ref b1)])) rfl rfl (hb hby at_129) _ ?_
      show Steps p.tables e below (T102.setTop (mkF m 130 #[.val (.long q0), .second, .val (.int p1), .val (.int p2), .val (.ref b1), .val (.int (6 : Int32)), .val (.int ((6 : Int32) + (f0_v20 q0 p1 p2))), .val (.int (f0_v21 q0 p1 p2)), .unset] [(.int ((f0_v11 q0 p1 p2).toInt8.toInt32))])) _
      refine st107 _ ?_
      exact k)
    by_cases hc133_109 : (F2 ((f0_v11 q0 p1 p2).toInt8.toInt32)) = (0 : Int32)
    · have pre110 : ∀ t, Steps p.tables e below (T107.setTop (mkF m 193 #[.val (.long q0), .second, .val (.int p1), .val (.int p2), .val (.ref b1), .val (.int (6 : Int32)), .val (.int ((6 : Int32) + (f0_v20 q0 p1 p2))), .val (.int (f0_v21 q0 p1 p2)), .val (.int (6 : Int32))] [])) t → Steps p.tables e below (s₁.setTop (entryFrame m #[(.long q0), (.int p1), (.int p2)] maxLocals)) t := fun t k => pre108 t (by
        show Steps p.tables e below (T107.setTop (mkF m 133 #[.val (.long q0), .second, .val (.int p1), .val (.int p2), .val (.ref b1), .val (.int (6 : Int32)), .val (.int ((6 : Int32) + (f0_v20 q0 p1 p2))), .val (.int (f0_v21 q0 p1 p2)), .unset] [(.int (F2 ((f0_v11 q0 p1 p2).toInt8.toInt32)))])) _
        refine XS.ifNo X107.here hx rfl (hb hby at_133) rfl ((if0 _ _).trans (teq hc133_109).2) ?_
        show Steps p.tables e below (T107.setTop (mkF m 136 #[.val (.long q0), .second, .val (.int p1), .val (.int p2), .val (.ref b1), .val (.int (6 : Int32)), .val (.int ((6 : Int32) + (f0_v20 q0 p1 p2))), .val (.int (f0_v21 q0 p1 p2)), .unset] [])) _
        refine XS.iload X107.here hx rfl (hb hby at_136) rfl ?_
        show Steps p.tables e below (T107.setTop (mkF m 138 #[.val (.long q0), .second, .val (.int p1), .val (.int p2), .val (.ref b1), .val (.int (6 : Int32)), .val (.int ((6 : Int32) + (f0_v20 q0 p1 p2))), .val (.int (f0_v21 q0 p1 p2)), .unset] [(.int (6 : Int32))])) _
        refine XS.istore X107.here hx rfl (hb hby at_138) rfl (l' := #[.val (.long q0), .second, .val (.int p1), .val (.int p2), .val (.ref b1), .val (.int (6 : Int32)), .val (.int ((6 : Int32) + (f0_v20 q0 p1 p2))), .val (.int (f0_v21 q0 p1 p2)), .val (.int (6 : Int32))]) rfl ?_
        show Steps p.tables e below (T107.setTop (mkF m 140 #[.val (.long q0), .second, .val (.int p1), .val (.int p2), .val (.ref b1), .val (.int (6 : Int32)), .val (.int ((6 : Int32) + (f0_v20 q0 p1 p2))), .val (.int (f0_v21 q0 p1 p2)), .val (.int (6 : Int32))] [])) _
        refine XS.goto X107.here hx rfl (pc0 := 140) (pc' := 193) rfl (hb hby at_140) (by decide) (by decide) ?_
        exact k)
      have q_f0_m122 : f0_m122 q0 p1 p2 = (6 : Int32) := by unfold f0_m122; rw [if_neg hc122_104, if_pos hc133_109]
      rw [q_f0_m122]
      exact ⟨T107, _, X107, e107, N107, pre110⟩
    obtain ⟨cl111, Ar111, q111, S111, M111, H111, G111⟩ := id V17
    have hin111 : ¬ ((5 : Int32) < 0 ∨ cl111.slots.size ≤ ((5 : Int32)).toNatClampNeg) := inb_of S111 ⟨by decide, by decide⟩
    have hat111 : cl111.slots[((5 : Int32)).toNatClampNeg]? = some (.int ((f0_v9 q0 p1 p2).toInt8.toInt32)) := H111.at hin111 rfl
    obtain ⟨_, _, ⟨T112, L112, k112, n112⟩, -, X112, ⟨Lc112, hQ112, l112, y112, z112⟩, st112⟩ := Jvm.LawKit.callS X107 hx (y := (⟨"com/example/tenon/tenon/Utf8CutPinLaw", "cont", "(B)Z"⟩ : MethodName)) hown (mvT hZ (hw _ (List.mem_of_getElem? (i := 6) rfl))) (mvT hZ (hw _ (List.mem_of_getElem? (i := 7) rfl))) (mvT hZ (hw _ (List.mem_of_getElem? (i := 8) rfl))) (mvT hZ (hw _ (List.mem_of_getElem? (i := 9) rfl))) (by decide) (backOf (W := 0) (rm2 l Z a0' hw [] ((f0_v9 q0 p1 p2).toInt8.toInt32) h17 n0 Z17) hZ (hw _ (List.mem_of_getElem? (i := 9) rfl)) (hw _ (List.mem_of_getElem? (i := 8) rfl)) (by decide) (by decide)) (g := (mkF m 150 #[.val (.long q0), .second, .val (.int p1), .val (.int p2), .val (.ref b1), .val (.int (6 : Int32)), .val (.int ((6 : Int32) + (f0_v20 q0 p1 p2))), .val (.int (f0_v21 q0 p1 p2)), .unset] [(.int ((f0_v9 q0 p1 p2).toInt8.toInt32))])) rfl (by rw [hml]; rfl) (argsL := [(.int ((f0_v9 q0 p1 p2).toInt8.toInt32))]) (rest := []) (lenOf pd1 rfl) rfl (by show 2 * 0 + _ ≤ _; exact Nat.le_of_eq rfl) (hb hby at_150) (fun _ _ => ⟨rfl, e107, (by decide : 1 + 0 ≤ _), (by decide : 8 + 0 ≤ _)⟩)
    dsimp only [Pt.U, Pt.locs, Pt.cells, Pt.slots] at X112 l112 y112 z112 st112 hQ112
    subst l112 y112 z112
    obtain ⟨rfl, N112q, e112⟩ := hQ112
    have N112 := Fr.app N107 N112q
    have pre113 : ∀ t, Steps p.tables e below (T112.setTop (mkF m 153 #[.val (.long q0), .second, .val (.int p1), .val (.int p2), .val (.ref b1), .val (.int (6 : Int32)), .val (.int ((6 : Int32) + (f0_v20 q0 p1 p2))), .val (.int (f0_v21 q0 p1 p2)), .unset] [(.int (F2 ((f0_v9 q0 p1 p2).toInt8.toInt32)))])) t → Steps p.tables e below (s₁.setTop (entryFrame m #[(.long q0), (.int p1), (.int p2)] maxLocals)) t := fun t k => pre108 t (by
      show Steps p.tables e below (T107.setTop (mkF m 133 #[.val (.long q0), .second, .val (.int p1), .val (.int p2), .val (.ref b1), .val (.int (6 : Int32)), .val (.int ((6 : Int32) + (f0_v20 q0 p1 p2))), .val (.int (f0_v21 q0 p1 p2)), .unset] [(.int (F2 ((f0_v11 q0 p1 p2).toInt8.toInt32)))])) _
      refine XS.ifYes X107.here hx rfl (pc0 := 133) (pc' := 143) rfl (hb hby at_133) rfl ((if0 _ _).trans (feq hc133_109).2) (by decide) (by decide) ?_
      show Steps p.tables e below (T107.setTop (mkF m 143 #[.val (.long q0), .second, .val (.int p1), .val (.int p2), .val (.ref b1), .val (.int (6 : Int32)), .val (.int ((6 : Int32) + (f0_v20 q0 p1 p2))), .val (.int (f0_v21 q0 p1 p2)), .unset] [])) _
      refine XS.aload X107.here hx rfl (hb hby at_143) rfl rfl ?_
      show Steps p.tables e below (T107.setTop (mkF m 145 #[.val (.long q0), .second, .val (.int p1), .val (.int p2), .val (.ref b1), .val (.int (6 : Int32)), .val (.int ((6 : Int32) + (f0_v20 q0 p1 p2))), .val (.int (f0_v21 q0 p1 p2)), .unset] [(.ref b1)])) _
      refine XS.iload X107.here hx rfl (hb hby at_145) rfl ?_
      show Steps p.tables e below (T107.setTop (mkF m 147 #[.val (.long q0), .second, .val (.int p1), .val (.int p2), .val (.ref b1), .val (.int (6 : Int32)), .val (.int ((6 : Int32) + (f0_v20 q0 p1 p2))), .val (.int (f0_v21 q0 p1 p2)), .unset] [(.int (6 : Int32)), (.ref b1)])) _
      refine XS.iconst X107.here hx rfl (hb hby at_147) ?_
      show Steps p.tables e below (T107.setTop (mkF m 148 #[.val (.long q0), .second, .val (.int p1), .val (.int p2), .val (.ref b1), .val (.int (6 : Int32)), .val (.int ((6 : Int32) + (f0_v20 q0 p1 p2))), .val (.int (f0_v21 q0 p1 p2)), .unset] [(.int (1 : Int32)), (.int (6 : Int32)), (.ref b1)])) _
      refine XS.isub X107.here hx rfl (hb hby at_148) rfl ?_
      show Steps p.tables e below (T107.setTop (mkF m 149 #[.val (.long q0), .second, .val (.int p1), .val (.int p2), .val (.ref b1), .val (.int (6 : Int32)), .val (.int ((6 : Int32) + (f0_v20 q0 p1 p2))), .val (.int (f0_v21 q0 p1 p2)), .unset] [(.int (5 : Int32)), (.ref b1)])) _
      refine X107.baloadBytes hx (j := (5 : Int32)) (v := (.int ((f0_v9 q0 p1 p2).toInt8.toInt32))) (by rw [e107]; exact Ar111.1) (State.isArrayOf_alike hZ.alike Ar111.2.1) Ar111.2.2 hin111 hat111 (g := (mkF m 149 #[.val (.long q0), .second, .val (.int p1), .val (.int p2), .val (.ref b1), .val (.int (6 : Int32)), .val (.int ((6 : Int32) + (f0_v20 q0 p1 p2))), .val (.int (f0_v21 q0 p1 p2)), .unset] [(.int (5 : Int32)), (.ref b1)])) rfl rfl (hb hby at_149) _ ?_
      show Steps p.tables e below (T107.setTop (mkF m 150 #[.val (.long q0), .second, .val (.int p1), .val (.int p2), .val (.ref b1), .val (.int (6 : Int32)), .val (.int ((6 : Int32) + (f0_v20 q0 p1 p2))), .val (.int (f0_v21 q0 p1 p2)), .unset] [(.int ((f0_v9 q0 p1 p2).toInt8.toInt32))])) _
      refine st112 _ ?_
      exact k)
    by_cases hc153_114 : (F2 ((f0_v9 q0 p1 p2).toInt8.toInt32)) = (0 : Int32)
    · have pre115 : ∀ t, Steps p.tables e below (T112.setTop (mkF m 193 #[.val (.long q0), .second, .val (.int p1), .val (.int p2), .val (.ref b1), .val (.int (6 : Int32)), .val (.int ((6 : Int32) + (f0_v20 q0 p1 p2))), .val (.int (f0_v21 q0 p1 p2)), .val (.int (5 : Int32))] [])) t → Steps p.tables e below (s₁.setTop (entryFrame m #[(.long q0), (.int p1), (.int p2)] maxLocals)) t := fun t k => pre113 t (by
        show Steps p.tables e below (T112.setTop (mkF m 153 #[.val (.long q0), .second, .val (.int p1), .val (.int p2), .val (.ref b1), .val (.int (6 : Int32)), .val (.int ((6 : Int32) + (f0_v20 q0 p1 p2))), .val (.int (f0_v21 q0 p1 p2)), .unset] [(.int (F2 ((f0_v9 q0 p1 p2).toInt8.toInt32)))])) _
        refine XS.ifNo X112.here hx rfl (hb hby at_153) rfl ((if0 _ _).trans (teq hc153_114).2) ?_
        show Steps p.tables e below (T112.setTop (mkF m 156 #[.val (.long q0), .second, .val (.int p1), .val (.int p2), .val (.ref b1), .val (.int (6 : Int32)), .val (.int ((6 : Int32) + (f0_v20 q0 p1 p2))), .val (.int (f0_v21 q0 p1 p2)), .unset] [])) _
        refine XS.iload X112.here hx rfl (hb hby at_156) rfl ?_
        show Steps p.tables e below (T112.setTop (mkF m 158 #[.val (.long q0), .second, .val (.int p1), .val (.int p2), .val (.ref b1), .val (.int (6 : Int32)), .val (.int ((6 : Int32) + (f0_v20 q0 p1 p2))), .val (.int (f0_v21 q0 p1 p2)), .unset] [(.int (6 : Int32))])) _
        refine XS.iconst X112.here hx rfl (hb hby at_158) ?_
        show Steps p.tables e below (T112.setTop (mkF m 159 #[.val (.long q0), .second, .val (.int p1), .val (.int p2), .val (.ref b1), .val (.int (6 : Int32)), .val (.int ((6 : Int32) + (f0_v20 q0 p1 p2))), .val (.int (f0_v21 q0 p1 p2)), .unset] [(.int (1 : Int32)), (.int (6 : Int32))])) _
        refine XS.isub X112.here hx rfl (hb hby at_159) rfl ?_
        show Steps p.tables e below (T112.setTop (mkF m 160 #[.val (.long q0), .second, .val (.int p1), .val (.int p2), .val (.ref b1), .val (.int (6 : Int32)), .val (.int ((6 : Int32) + (f0_v20 q0 p1 p2))), .val (.int (f0_v21 q0 p1 p2)), .unset] [(.int (5 : Int32))])) _
        refine XS.istore X112.here hx rfl (hb hby at_160) rfl (l' := #[.val (.long q0), .second, .val (.int p1), .val (.int p2), .val (.ref b1), .val (.int (6 : Int32)), .val (.int ((6 : Int32) + (f0_v20 q0 p1 p2))), .val (.int (f0_v21 q0 p1 p2)), .val (.int (5 : Int32))]) rfl ?_
        show Steps p.tables e below (T112.setTop (mkF m 162 #[.val (.long q0), .second, .val (.int p1), .val (.int p2), .val (.ref b1), .val (.int (6 : Int32)), .val (.int ((6 : Int32) + (f0_v20 q0 p1 p2))), .val (.int (f0_v21 q0 p1 p2)), .val (.int (5 : Int32))] [])) _
        refine XS.goto X112.here hx rfl (pc0 := 162) (pc' := 193) rfl (hb hby at_162) (by decide) (by decide) ?_
        exact k)
      have q_f0_m122 : f0_m122 q0 p1 p2 = (5 : Int32) := by unfold f0_m122; rw [if_neg hc122_104, if_neg hc133_109, if_pos hc153_114]
      rw [q_f0_m122]
      exact ⟨T112, _, X112, e112, N112, pre115⟩
    obtain ⟨cl116, Ar116, q116, S116, M116, H116, G116⟩ := id V17
    have hin116 : ¬ ((4 : Int32) < 0 ∨ cl116.slots.size ≤ ((4 : Int32)).toNatClampNeg) := inb_of S116 ⟨by decide, by decide⟩
    have hat116 : cl116.slots[((4 : Int32)).toNatClampNeg]? = some (.int ((f0_v7 q0 p1 p2).toInt8.toInt32)) := H116.at hin116 rfl
    obtain ⟨_, _, ⟨T117, L117, k117, n117⟩, -, X117, ⟨Lc117, hQ117, l117, y117, z117⟩, st117⟩ := Jvm.LawKit.callS X112 hx (y := (⟨"com/example/tenon/tenon/Utf8CutPinLaw", "cont", "(B)Z"⟩ : MethodName)) hown (mvT hZ (hw _ (List.mem_of_getElem? (i := 6) rfl))) (mvT hZ (hw _ (List.mem_of_getElem? (i := 7) rfl))) (mvT hZ (hw _ (List.mem_of_getElem? (i := 8) rfl))) (mvT hZ (hw _ (List.mem_of_getElem? (i := 9) rfl))) (by decide) (backOf (W := 0) (rm2 l Z a0' hw [] ((f0_v7 q0 p1 p2).toInt8.toInt32) h17 n0 Z17) hZ (hw _ (List.mem_of_getElem? (i := 9) rfl)) (hw _ (List.mem_of_getElem? (i := 8) rfl)) (by decide) (by decide)) (g := (mkF m 172 #[.val (.long q0), .second, .val (.int p1), .val (.int p2), .val (.ref b1), .val (.int (6 : Int32)), .val (.int ((6 : Int32) + (f0_v20 q0 p1 p2))), .val (.int (f0_v21 q0 p1 p2)), .unset] [(.int ((f0_v7 q0 p1 p2).toInt8.toInt32))])) rfl (by rw [hml]; rfl) (argsL := [(.int ((f0_v7 q0 p1 p2).toInt8.toInt32))]) (rest := []) (lenOf pd1 rfl) rfl (by show 2 * 0 + _ ≤ _; exact Nat.le_of_eq rfl) (hb hby at_172) (fun _ _ => ⟨rfl, e112, (by decide : 1 + 0 ≤ _), (by decide : 8 + 0 ≤ _)⟩)
    dsimp only [Pt.U, Pt.locs, Pt.cells, Pt.slots] at X117 l117 y117 z117 st117 hQ117
    subst l117 y117 z117
    obtain ⟨rfl, N117q, e117⟩ := hQ117
    have N117 := Fr.app N112 N117q
    have pre118 : ∀ t, Steps p.tables e below (T117.setTop (mkF m 175 #[.val (.long q0), .second, .val (.int p1), .val (.int p2), .val (.ref b1), .val (.int (6 : Int32)), .val (.int ((6 : Int32) + (f0_v20 q0 p1 p2))), .val (.int (f0_v21 q0 p1 p2)), .unset] [(.int (F2 ((f0_v7 q0 p1 p2).toInt8.toInt32)))])) t → Steps p.tables e below (s₁.setTop (entryFrame m #[(.long q0), (.int p1), (.int p2)] maxLocals)) t := fun t k => pre113 t (by
      show Steps p.tables e below (T112.setTop (mkF m 153 #[.val (.long q0), .second, .val (.int p1), .val (.int p2), .val (.ref b1), .val (.int (6 : Int32)), .val (.int ((6 : Int32) + (f0_v20 q0 p1 p2))), .val (.int (f0_v21 q0 p1 p2)), .unset] [(.int (F2 ((f0_v9 q0 p1 p2).toInt8.toInt32)))])) _
      refine XS.ifYes X112.here hx rfl (pc0 := 153) (pc' := 165) rfl (hb hby at_153) rfl ((if0 _ _).trans (feq hc153_114).2) (by decide) (by decide) ?_
      show Steps p.tables e below (T112.setTop (mkF m 165 #[.val (.long q0), .second, .val (.int p1), .val (.int p2), .val (.ref b1), .val (.int (6 : Int32)), .val (.int ((6 : Int32) + (f0_v20 q0 p1 p2))), .val (.int (f0_v21 q0 p1 p2)), .unset] [])) _
      refine XS.aload X112.here hx rfl (hb hby at_165) rfl rfl ?_
      show Steps p.tables e below (T112.setTop (mkF m 167 #[.val (.long q0), .second, .val (.int p1), .val (.int p2), .val (.ref b1), .val (.int (6 : Int32)), .val (.int ((6 : Int32) + (f0_v20 q0 p1 p2))), .val (.int (f0_v21 q0 p1 p2)), .unset] [(.ref b1)])) _
      refine XS.iload X112.here hx rfl (hb hby at_167) rfl ?_
      show Steps p.tables e below (T112.setTop (mkF m 169 #[.val (.long q0), .second, .val (.int p1), .val (.int p2), .val (.ref b1), .val (.int (6 : Int32)), .val (.int ((6 : Int32) + (f0_v20 q0 p1 p2))), .val (.int (f0_v21 q0 p1 p2)), .unset] [(.int (6 : Int32)), (.ref b1)])) _
      refine XS.iconst X112.here hx rfl (hb hby at_169) ?_
      show Steps p.tables e below (T112.setTop (mkF m 170 #[.val (.long q0), .second, .val (.int p1), .val (.int p2), .val (.ref b1), .val (.int (6 : Int32)), .val (.int ((6 : Int32) + (f0_v20 q0 p1 p2))), .val (.int (f0_v21 q0 p1 p2)), .unset] [(.int (2 : Int32)), (.int (6 : Int32)), (.ref b1)])) _
      refine XS.isub X112.here hx rfl (hb hby at_170) rfl ?_
      show Steps p.tables e below (T112.setTop (mkF m 171 #[.val (.long q0), .second, .val (.int p1), .val (.int p2), .val (.ref b1), .val (.int (6 : Int32)), .val (.int ((6 : Int32) + (f0_v20 q0 p1 p2))), .val (.int (f0_v21 q0 p1 p2)), .unset] [(.int (4 : Int32)), (.ref b1)])) _
      refine X112.baloadBytes hx (j := (4 : Int32)) (v := (.int ((f0_v7 q0 p1 p2).toInt8.toInt32))) (by rw [e112]; exact Ar116.1) (State.isArrayOf_alike hZ.alike Ar116.2.1) Ar116.2.2 hin116 hat116 (g := (mkF m 171 #[.val (.long q0), .second, .val (.int p1), .val (.int p2), .val (.ref b1), .val (.int (6 : Int32)), .val (.int ((6 : Int32) + (f0_v20 q0 p1 p2))), .val (.int (f0_v21 q0 p1 p2)), .unset] [(.int (4 : Int32)), (.ref b1)])) rfl rfl (hb hby at_171) _ ?_
      show Steps p.tables e below (T112.setTop (mkF m 172 #[.val (.long q0), .second, .val (.int p1), .val (.int p2), .val (.ref b1), .val (.int (6 : Int32)), .val (.int ((6 : Int32) + (f0_v20 q0 p1 p2))), .val (.int (f0_v21 q0 p1 p2)), .unset] [(.int ((f0_v7 q0 p1 p2).toInt8.toInt32))])) _
      refine st117 _ ?_
      exact k)
    by_cases hc175_119 : (F2 ((f0_v7 q0 p1 p2).toInt8.toInt32)) = (0 : Int32)
    · have pre120 : ∀ t, Steps p.tables e below (T117.setTop (mkF m 193 #[.val (.long q0), .second, .val (.int p1), .val (.int p2), .val (.ref b1), .val (.int (6 : Int32)), .val (.int ((6 : Int32) + (f0_v20 q0 p1 p2))), .val (.int (f0_v21 q0 p1 p2)), .val (.int (4 : Int32))] [])) t → Steps p.tables e below (s₁.setTop (entryFrame m #[(.long q0), (.int p1), (.int p2)] maxLocals)) t := fun t k => pre118 t (by
        show Steps p.tables e below (T117.setTop (mkF m 175 #[.val (.long q0), .second, .val (.int p1), .val (.int p2), .val (.ref b1), .val (.int (6 : Int32)), .val (.int ((6 : Int32) + (f0_v20 q0 p1 p2))), .val (.int (f0_v21 q0 p1 p2)), .unset] [(.int (F2 ((f0_v7 q0 p1 p2).toInt8.toInt32)))])) _
        refine XS.ifNo X117.here hx rfl (hb hby at_175) rfl ((if0 _ _).trans (teq hc175_119).2) ?_
        show Steps p.tables e below (T117.setTop (mkF m 178 #[.val (.long q0), .second, .val (.int p1), .val (.int p2), .val (.ref b1), .val (.int (6 : Int32)), .val (.int ((6 : Int32) + (f0_v20 q0 p1 p2))), .val (.int (f0_v21 q0 p1 p2)), .unset] [])) _
        refine XS.iload X117.here hx rfl (hb hby at_178) rfl ?_
        show Steps p.tables e below (T117.setTop (mkF m 180 #[.val (.long q0), .second, .val (.int p1), .val (.int p2), .val (.ref b1), .val (.int (6 : Int32)), .val (.int ((6 : Int32) + (f0_v20 q0 p1 p2))), .val (.int (f0_v21 q0 p1 p2)), .unset] [(.int (6 : Int32))])) _
        refine XS.iconst X117.here hx rfl (hb hby at_180) ?_
        show Steps p.tables e below (T117.setTop (mkF m 181 #[.val (.long q0), .second, .val (.int p1), .val (.int p2), .val (.ref b1), .val (.int (6 : Int32)), .val (.int ((6 : Int32) + (f0_v20 q0 p1 p2))), .val (.int (f0_v21 q0 p1 p2)), .unset] [(.int (2 : Int32)), (.int (6 : Int32))])) _
        refine XS.isub X117.here hx rfl (hb hby at_181) rfl ?_
        show Steps p.tables e below (T117.setTop (mkF m 182 #[.val (.long q0), .second, .val (.int p1), .val (.int p2), .val (.ref b1), .val (.int (6 : Int32)), .val (.int ((6 : Int32) + (f0_v20 q0 p1 p2))), .val (.int (f0_v21 q0 p1 p2)), .unset] [(.int (4 : Int32))])) _
        refine XS.istore X117.here hx rfl (hb hby at_182) rfl (l' := #[.val (.long q0), .second, .val (.int p1), .val (.int p2), .val (.ref b1), .val (.int (6 : Int32)), .val (.int ((6 : Int32) + (f0_v20 q0 p1 p2))), .val (.int (f0_v21 q0 p1 p2)), .val (.int (4 : Int32))]) rfl ?_
        show Steps p.tables e below (T117.setTop (mkF m 184 #[.val (.long q0), .second, .val (.int p1), .val (.int p2), .val (.ref b1), .val (.int (6 : Int32)), .val (.int ((6 : Int32) + (f0_v20 q0 p1 p2))), .val (.int (f0_v21 q0 p1 p2)), .val (.int (4 : Int32))] [])) _
        refine XS.goto X117.here hx rfl (pc0 := 184) (pc' := 193) rfl (hb hby at_184) (by decide) (by decide) ?_
        exact k)
      have q_f0_m122 : f0_m122 q0 p1 p2 = (4 : Int32) := by unfold f0_m122; rw [if_neg hc122_104, if_neg hc133_109, if_neg hc153_114, if_pos hc175_119]
      rw [q_f0_m122]
      exact ⟨T117, _, X117, e117, N117, pre120⟩
    have pre121 : ∀ t, Steps p.tables e below (T117.setTop (mkF m 193 #[.val (.long q0), .second, .val (.int p1), .val (.int p2), .val (.ref b1), .val (.int (6 : Int32)), .val (.int ((6 : Int32) + (f0_v20 q0 p1 p2))), .val (.int (f0_v21 q0 p1 p2)), .val (.int (3 : Int32))] [])) t → Steps p.tables e below (s₁.setTop (entryFrame m #[(.long q0), (.int p1), (.int p2)] maxLocals)) t := fun t k => pre118 t (by
      show Steps p.tables e below (T117.setTop (mkF m 175 #[.val (.long q0), .second, .val (.int p1), .val (.int p2), .val (.ref b1), .val (.int (6 : Int32)), .val (.int ((6 : Int32) + (f0_v20 q0 p1 p2))), .val (.int (f0_v21 q0 p1 p2)), .unset] [(.int (F2 ((f0_v7 q0 p1 p2).toInt8.toInt32)))])) _
      refine XS.ifYes X117.here hx rfl (pc0 := 175) (pc' := 187) rfl (hb hby at_175) rfl ((if0 _ _).trans (feq hc175_119).2) (by decide) (by decide) ?_
      show Steps p.tables e below (T117.setTop (mkF m 187 #[.val (.long q0), .second, .val (.int p1), .val (.int p2), .val (.ref b1), .val (.int (6 : Int32)), .val (.int ((6 : Int32) + (f0_v20 q0 p1 p2))), .val (.int (f0_v21 q0 p1 p2)), .unset] [])) _
      refine XS.iload X117.here hx rfl (hb hby at_187) rfl ?_
      show Steps p.tables e below (T117.setTop (mkF m 189 #[.val (.long q0), .second, .val (.int p1), .val (.int p2), .val (.ref b1), .val (.int (6 : Int32)), .val (.int ((6 : Int32) + (f0_v20 q0 p1 p2))), .val (.int (f0_v21 q0 p1 p2)), .unset] [(.int (6 : Int32))])) _
      refine XS.iconst X117.here hx rfl (hb hby at_189) ?_
      show Steps p.tables e below (T117.setTop (mkF m 190 #[.val (.long q0), .second, .val (.int p1), .val (.int p2), .val (.ref b1), .val (.int (6 : Int32)), .val (.int ((6 : Int32) + (f0_v20 q0 p1 p2))), .val (.int (f0_v21 q0 p1 p2)), .unset] [(.int (3 : Int32)), (.int (6 : Int32))])) _
      refine XS.isub X117.here hx rfl (hb hby at_190) rfl ?_
      show Steps p.tables e below (T117.setTop (mkF m 191 #[.val (.long q0), .second, .val (.int p1), .val (.int p2), .val (.ref b1), .val (.int (6 : Int32)), .val (.int ((6 : Int32) + (f0_v20 q0 p1 p2))), .val (.int (f0_v21 q0 p1 p2)), .unset] [(.int (3 : Int32))])) _
      refine XS.istore X117.here hx rfl (hb hby at_191) rfl (l' := #[.val (.long q0), .second, .val (.int p1), .val (.int p2), .val (.ref b1), .val (.int (6 : Int32)), .val (.int ((6 : Int32) + (f0_v20 q0 p1 p2))), .val (.int (f0_v21 q0 p1 p2)), .val (.int (3 : Int32))]) rfl ?_
      exact k)
    have q_f0_m122 : f0_m122 q0 p1 p2 = (3 : Int32) := by unfold f0_m122; rw [if_neg hc122_104, if_neg hc133_109, if_neg hc153_114, if_neg hc175_119]
    rw [q_f0_m122]
    exact ⟨T117, _, X117, e117, N117, pre121⟩
  have pre123 : ∀ t, Steps p.tables e below (T104.setTop (mkF m 197 #[.val (.long q0), .second, .val (.int p1), .val (.int p2), .val (.ref b1), .val (.int (6 : Int32)), .val (.int ((6 : Int32) + (f0_v20 q0 p1 p2))), .val (.int (f0_v21 q0 p1 p2)), .val (.int (f0_m122 q0 p1 p2))] [(.int (f0_m122 q0 p1 p2)), (.int (f0_v21 q0 p1 p2))])) t → Steps p.tables e below (s₁.setTop (entryFrame m #[(.long q0), (.int p1), (.int p2)] maxLocals)) t := fun t k => pre104 t (by
    show Steps p.tables e below (T104.setTop (mkF m 193 #[.val (.long q0), .second, .val (.int p1), .val (.int p2), .val (.ref b1), .val (.int (6 : Int32)), .val (.int ((6 : Int32) + (f0_v20 q0 p1 p2))), .val (.int (f0_v21 q0 p1 p2)), .val (.int (f0_m122 q0 p1 p2))] [])) _
    refine XS.iload X104.here hx rfl (hb hby at_193) rfl ?_
    show Steps p.tables e below (T104.setTop (mkF m 195 #[.val (.long q0), .second, .val (.int p1), .val (.int p2), .val (.ref b1), .val (.int (6 : Int32)), .val (.int ((6 : Int32) + (f0_v20 q0 p1 p2))), .val (.int (f0_v21 q0 p1 p2)), .val (.int (f0_m122 q0 p1 p2))] [(.int (f0_v21 q0 p1 p2))])) _
    refine XS.iload X104.here hx rfl (hb hby at_195) rfl ?_
    exact k)
  by_cases hc197_124 : (f0_v21 q0 p1 p2) = (f0_m122 q0 p1 p2)
  · have pre125 : ∀ t, Steps p.tables e below (T104.setTop (mkF m 205 #[.val (.long q0), .second, .val (.int p1), .val (.int p2), .val (.ref b1), .val (.int (6 : Int32)), .val (.int ((6 : Int32) + (f0_v20 q0 p1 p2))), .val (.int (f0_v21 q0 p1 p2)), .val (.int (f0_m122 q0 p1 p2))] [(.int (1 : Int32))])) t → Steps p.tables e below (s₁.setTop (entryFrame m #[(.long q0), (.int p1), (.int p2)] maxLocals)) t := fun t k => pre123 t (by
      show Steps p.tables e below (T104.setTop (mkF m 197 #[.val (.long q0), .second, .val (.int p1), .val (.int p2), .val (.ref b1), .val (.int (6 : Int32)), .val (.int ((6 : Int32) + (f0_v20 q0 p1 p2))), .val (.int (f0_v21 q0 p1 p2)), .val (.int (f0_m122 q0 p1 p2))] [(.int (f0_m122 q0 p1 p2)), (.int (f0_v21 q0 p1 p2))])) _
      refine XS.icmpNo X104.here hx rfl (hb hby at_197) rfl (teq hc197_124).2 ?_
      show Steps p.tables e below (T104.setTop (mkF m 200 #[.val (.long q0), .second, .val (.int p1), .val (.int p2), .val (.ref b1), .val (.int (6 : Int32)), .val (.int ((6 : Int32) + (f0_v20 q0 p1 p2))), .val (.int (f0_v21 q0 p1 p2)), .val (.int (f0_m122 q0 p1 p2))] [])) _
      refine XS.iconst X104.here hx rfl (hb hby at_200) ?_
      show Steps p.tables e below (T104.setTop (mkF m 201 #[.val (.long q0), .second, .val (.int p1), .val (.int p2), .val (.ref b1), .val (.int (6 : Int32)), .val (.int ((6 : Int32) + (f0_v20 q0 p1 p2))), .val (.int (f0_v21 q0 p1 p2)), .val (.int (f0_m122 q0 p1 p2))] [(.int (1 : Int32))])) _
      refine XS.goto X104.here hx rfl (pc0 := 201) (pc' := 205) rfl (hb hby at_201) (by decide) (by decide) ?_
      exact k)
    obtain ⟨fs, hr, hrun, hended, hW, hsame⟩ := X104.leave (v := some (.int (1 : Int32))) (fun h => by rw [Bd.returns] at h; cases h) hlk
    have hF : (F0 q0 p1 p2) = (1 : Int32) := by unfold F0; rw [if_neg hv19, if_neg hv46, if_neg hv73, if_pos hc197_124]
    exact ⟨_, _, pre125 _ (retN X104 hx (t := .boolean) Bd.returns (by simp) (hb hby at_205) hr), hrun, hended, _, _, rfl, ⟨by rw [hF], N104⟩, ⟨_, rfl⟩, hW, hsame.mono (by decide) (by decide)⟩
  have pre126 : ∀ t, Steps p.tables e below (T104.setTop (mkF m 205 #[.val (.long q0), .second, .val (.int p1), .val (.int p2), .val (.ref b1), .val (.int (6 : Int32)), .val (.int ((6 : Int32) + (f0_v20 q0 p1 p2))), .val (.int (f0_v21 q0 p1 p2)), .val (.int (f0_m122 q0 p1 p2))] [(.int (0 : Int32))])) t → Steps p.tables e below (s₁.setTop (entryFrame m #[(.long q0), (.int p1), (.int p2)] maxLocals)) t := fun t k => pre123 t (by
    show Steps p.tables e below (T104.setTop (mkF m 197 #[.val (.long q0), .second, .val (.int p1), .val (.int p2), .val (.ref b1), .val (.int (6 : Int32)), .val (.int ((6 : Int32) + (f0_v20 q0 p1 p2))), .val (.int (f0_v21 q0 p1 p2)), .val (.int (f0_m122 q0 p1 p2))] [(.int (f0_m122 q0 p1 p2)), (.int (f0_v21 q0 p1 p2))])) _
    refine XS.icmpYes X104.here hx rfl (pc0 := 197) (pc' := 204) rfl (hb hby at_197) rfl (feq hc197_124).2 (by decide) (by decide) ?_
    show Steps p.tables e below (T104.setTop (mkF m 204 #[.val (.long q0), .second, .val (.int p1), .val (.int p2), .val (.ref b1), .val (.int (6 : Int32)), .val (.int ((6 : Int32) + (f0_v20 q0 p1 p2))), .val (.int (f0_v21 q0 p1 p2)), .val (.int (f0_m122 q0 p1 p2))] [])) _
    refine XS.iconst X104.here hx rfl (hb hby at_204) ?_
    exact k)
  obtain ⟨fs, hr, hrun, hended, hW, hsame⟩ := X104.leave (v := some (.int (0 : Int32))) (fun h => by rw [Bd.returns] at h; cases h) hlk
  have hF : (F0 q0 p1 p2) = (0 : Int32) := by unfold F0; rw [if_neg hv19, if_neg hv46, if_neg hv73, if_neg hc197_124]
  exact ⟨_, _, pre126 _ (retN X104 hx (t := .boolean) Bd.returns (by simp) (hb hby at_205) hr), hrun, hended, _, _, rfl, ⟨by rw [hF], N104⟩, ⟨_, rfl⟩, hW, hsame.mono (by decide) (by decide)⟩
theorem own_r (x d : Int32) (D : Int) (hd : d.toInt = D) (hD : 0 < D) : 0 ≤ ((x &&& (2147483647 : Int32)) % d).toInt ∧ ((x &&& (2147483647 : Int32)) % d).toInt < D := by
  have em0 : (x &&& (2147483647 : Int32)).toInt = x.toInt % (2 ^ 31 : Nat) := c_mask x 2147483647 31 (by decide) (by decide)
  have er := (c_irem (x &&& (2147483647 : Int32)) d D hd).1 (by omega)
  rw [er]
  exact ⟨Int.emod_nonneg _ (by omega), Int.emod_lt_of_pos _ hD⟩
theorem own_end (k r : Int32) (K : Int) (hk : k.toInt = K) (h : 0 ≤ K ∧ K ≤ 6) (hr : 0 ≤ r.toInt ∧ r.toInt < 6) : k < k + r ↔ ¬ k = k + r := by
  rw [Int32.lt_iff_toInt_lt, ← Int32.toInt_inj]
  have := c_iadd k r; have := rng32 (k + r)
  omega
theorem own_F2 (x : Int32) : F2 x = 0 ↔ ¬ (x &&& (192 : Int32)) = 128 := by
  unfold F2
  by_cases h : (x &&& (192 : Int32)) = 128
  · rw [if_pos h]; simp [h]
  · rw [if_neg h]; simp [h]
theorem own_3 (r a b c x0 x4 x5 x6 x7 : Int32) (hr : 0 ≤ r.toInt ∧ r.toInt < 6) : F1_3 ((3 : Int32) + r) x0 a b c x4 x5 x6 x7 = (if (3 : Int32) = ((3 : Int32) + r) then (3 : Int32) else (if F2 c = (0 : Int32) then (3 : Int32) else (if F2 b = (0 : Int32) then (2 : Int32) else (if F2 a = (0 : Int32) then (1 : Int32) else (0 : Int32))))) := by
  unfold F1_3
  simp only [own_F2, own_end 3 r 3 (by decide) (by decide) hr]
  by_cases h1 : (3 : Int32) = (3 : Int32) + r
  · rw [if_pos h1, if_neg (fun z => z h1)]
  · rw [if_neg h1, if_pos h1]
    by_cases h2 : (c &&& (192 : Int32)) = 128 <;> by_cases h3 : (b &&& (192 : Int32)) = 128 <;> by_cases h4 : (a &&& (192 : Int32)) = 128 <;> simp [h2, h3, h4]
theorem own_4 (r a b c x0 x1 x5 x6 x7 : Int32) (hr : 0 ≤ r.toInt ∧ r.toInt < 6) : F1_4 ((4 : Int32) + r) x0 x1 a b c x5 x6 x7 = (if (4 : Int32) = ((4 : Int32) + r) then (4 : Int32) else (if F2 c = (0 : Int32) then (4 : Int32) else (if F2 b = (0 : Int32) then (3 : Int32) else (if F2 a = (0 : Int32) then (2 : Int32) else (1 : Int32))))) := by
  unfold F1_4
  simp only [own_F2, own_end 4 r 4 (by decide) (by decide) hr]
  by_cases h1 : (4 : Int32) = (4 : Int32) + r
  · rw [if_pos h1, if_neg (fun z => z h1)]
  · rw [if_neg h1, if_pos h1]
    by_cases h2 : (c &&& (192 : Int32)) = 128 <;> by_cases h3 : (b &&& (192 : Int32)) = 128 <;> by_cases h4 : (a &&& (192 : Int32)) = 128 <;> simp [h2, h3, h4]
theorem own_5 (r a b c x0 x1 x2 x6 x7 : Int32) (hr : 0 ≤ r.toInt ∧ r.toInt < 6) : F1_5 ((5 : Int32) + r) x0 x1 x2 a b c x6 x7 = (if (5 : Int32) = ((5 : Int32) + r) then (5 : Int32) else (if F2 c = (0 : Int32) then (5 : Int32) else (if F2 b = (0 : Int32) then (4 : Int32) else (if F2 a = (0 : Int32) then (3 : Int32) else (2 : Int32))))) := by
  unfold F1_5
  simp only [own_F2, own_end 5 r 5 (by decide) (by decide) hr]
  by_cases h1 : (5 : Int32) = (5 : Int32) + r
  · rw [if_pos h1, if_neg (fun z => z h1)]
  · rw [if_neg h1, if_pos h1]
    by_cases h2 : (c &&& (192 : Int32)) = 128 <;> by_cases h3 : (b &&& (192 : Int32)) = 128 <;> by_cases h4 : (a &&& (192 : Int32)) = 128 <;> simp [h2, h3, h4]
theorem own_6 (r a b c x0 x1 x2 x3 x7 : Int32) (hr : 0 ≤ r.toInt ∧ r.toInt < 6) : F1_6 ((6 : Int32) + r) x0 x1 x2 x3 a b c x7 = (if (6 : Int32) = ((6 : Int32) + r) then (6 : Int32) else (if F2 c = (0 : Int32) then (6 : Int32) else (if F2 b = (0 : Int32) then (5 : Int32) else (if F2 a = (0 : Int32) then (4 : Int32) else (3 : Int32))))) := by
  unfold F1_6
  simp only [own_F2, own_end 6 r 6 (by decide) (by decide) hr]
  by_cases h1 : (6 : Int32) = (6 : Int32) + r
  · rw [if_pos h1, if_neg (fun z => z h1)]
  · rw [if_neg h1, if_pos h1]
    by_cases h2 : (c &&& (192 : Int32)) = 128 <;> by_cases h3 : (b &&& (192 : Int32)) = 128 <;> by_cases h4 : (a &&& (192 : Int32)) = 128 <;> simp [h2, h3, h4]
theorem own_law (q0 : Int64) (p1 p2 : Int32) : F0 q0 p1 p2 = 1 := by
  have a6 := own_r p2 6 6 (by decide) (by decide); have a5 := own_r p2 5 5 (by decide) (by decide); have a4 := own_r p2 4 4 (by decide) (by decide); have a3 := own_r p2 3 3 (by decide) (by decide)
  have e3 : f0_v15 q0 p1 p2 = f0_m41 q0 p1 p2 := own_3 _ _ _ _ _ _ _ _ _ ⟨a6.1, a6.2⟩
  have e4 : f0_v17 q0 p1 p2 = f0_m68 q0 p1 p2 := own_4 _ _ _ _ _ _ _ _ _ ⟨a5.1, by show _ < (6 : Int); unfold f0_v16; omega⟩
  have e5 : f0_v19 q0 p1 p2 = f0_m95 q0 p1 p2 := own_5 _ _ _ _ _ _ _ _ _ ⟨a4.1, by show _ < (6 : Int); unfold f0_v18; omega⟩
  have e6 : f0_v21 q0 p1 p2 = f0_m122 q0 p1 p2 := own_6 _ _ _ _ _ _ _ _ _ ⟨a3.1, by show _ < (6 : Int); unfold f0_v20; omega⟩
  unfold F0
  rw [if_pos e3, if_pos e4, if_pos e5, if_pos e6]
  rcases own_q p1 with h | h | h | h <;> rw [h] <;> decide
set_option maxRecDepth 65536 in
set_option maxHeartbeats 40000000 in
theorem comes_1 {Post : Tables → Env → Array Value → State → Outcome → State → Prop} (hpost : ∀ tb e args s v u, (limb_1_1.after args s (.returned v) u = true ∧ limb_1_2.after args s (.returned v) u = true ∧ True) → FrameEnd s (.returned v) u (Jvm.fieldLocs frame_1_writes args s ++ Jvm.arrayLocs frame_1_arrays args s ++ Jvm.staticLocs frame_1_statics s) 16 128 → Post tb e args s (.returned v) u) :
    ArmFor flags0 classFile x code maxLocals ret World_1 tables_1 room_1 Calls_1 rest_1 Pre_1 Post := by
  intro l hfl _ _ p e ha hc hk s m args below hf hA hF happ hP
  obtain ⟨hcalls, hrest, hpre⟩ := hP
  obtain ⟨-, -, -, hnamed, -, -, -, hat⟩ := (Spec.applies_iff hf).mp happ
  obtain ⟨hg, hn⟩ := and_e (Cond.before_iff.mp (show (Jvm.Cond.and given_1 narrow_1).before args s = true from hpre))
  obtain ⟨hcount, g0⟩ := and_e hg
  obtain ⟨ga0, g1⟩ := and_e g0
  obtain ⟨ga1, g2⟩ := and_e g1
  obtain ⟨w0, w1, w2, rfl⟩ : ∃ w0 w1 w2 : Value, args = #[w0, w1, w2] := by
    have hs : args.size = 3 := by simpa [Cond.value, given_1] using hcount
    obtain ⟨L⟩ := args
    match L, hs with
    | [w0, w1, w2], _ => exact ⟨w0, w1, w2, rfl⟩
  have hw := fun d (hd : d ∈ tables_1) => atoms_spec (ws := Jvm.Cond.code x code maxLocals ret :: tables_1) hat d (List.mem_cons_of_mem _ hd)
  obtain ⟨i0, ei0⟩ := isL_v ga0
  obtain rfl : w0 = (.long i0) := Option.some.inj ei0
  obtain ⟨i1, ei1⟩ := is_v ga1
  obtain rfl : w1 = (.int i1) := Option.some.inj ei1
  obtain ⟨i2, ei2⟩ := is_v g2
  obtain rfl : w2 = (.int i2) := Option.some.inj ei2
  obtain ⟨n, o, h1, h2, h3, _, L, rfl, ⟨rfl, N⟩, hq⟩ := rm0 l s _ hw tables_1 i0 i1 i2 s.heap s.heap.size (Nat.le_refl _) p e ha hc hk s m _ below hf ((Spec.applies_iff_loose hf).mp happ).1 ⟨rfl, State.Warmed39.refl s, rfl⟩ trivial
  have hlaw := own_law i0 i1 i2
  refine ⟨n, _, h1, h2, h3, hpost _ _ _ _ _ _ ⟨Cond.after_iff.mpr rfl, Cond.after_iff.mpr (eq_i res_at (Term.int_eval (1)) (congrArg Value.int hlaw)), trivial⟩ ⟨hq.1, hq.2.1, (hq.2.2.sift fun y hy => Or.inr (N y hy)).mono (by decide) (by decide)⟩⟩
theorem main_1_1 : Claimed_1_1 := comes_1 fun _ _ _ _ _ _ h hF => ⟨h.1, hF⟩
theorem main_1_2 : Claimed_1_2 := comes_1 fun _ _ _ _ _ _ h hF => ⟨h.2.1, hF⟩
end Jvm.Pilot.@@N@@
namespace Jvm.Pilot.@@N@@
open Jvm Jvm.ClassFile Sem Op Lib Jvm.Free Jvm.Stand Jvm.Pilot.@@N@@.Jvm.D
/-! MADE BY PROGRAM (witnessworld.py) out of the Statement's table words and the real class files: 9 classes; the members and pool entries that the words name. The judged class is class 1, her method 2. -/
namespace start1
open Jvm.ClassFile
def u (s : String) : CpInfo := .utf8 (stringToUtf16 s)
/-- a pool by its gaps: so many unusable entries, then the entry; so many at the end -/
def gap : Nat → List CpInfo → List CpInfo
  | 0, r => r
  | n + 1, r => .unusable :: gap n r
def poolList (es : List (Nat × CpInfo)) (last : Nat) : List CpInfo := es.foldr (fun e r => gap e.1 (e.2 :: r)) (gap last [])
def pool (es : List (Nat × CpInfo)) (last : Nat) : Array CpInfo := ⟨poolList es last⟩
def fileOf (pool : Array CpInfo) (this : Nat) (attrs : Array Attribute := #[]) (ms : Array MethodInfo := #[]) (fl : Nat := 33) (sup : Nat := 0) (ifs : Array Nat := #[]) (fds : Array FieldInfo := #[]) : ClassFile where
  minorVersion := 0
  majorVersion := 65
  constantPool := pool
  accessFlags := fl
  thisClass := this
  superClass := sup
  interfaces := ifs
  fields := fds
  methods := ms
  attributes := attrs
def plain (name : String) (sup : Option ClassId) : Class where
  name := name
  kind := .ordinary
  loader := none
  accessFlags := 33
  super := sup
  interfaces := #[]
  cf := none
  fields := #[]
  methods := #[]
  instanceTypes := #[]
  staticTypes := #[]
  resolved := #[]
  callSites := []
  init := .initialized
  statics := none
  mirror := none

def pool0 : Array CpInfo := pool [(5, u "<init>"), (0, u "()V"), (1, .class_ 10), (1, u "java/lang/Object")] 113

def k0m0 : Method := { name := "<init>", desc := "()V", sig := { parameters := [], returnType := none }, accessFlags := 1, code := none }
/-- java/lang/Object -/
def k0 : Class := { plain "java/lang/Object" none with
  accessFlags := 33
  interfaces := #[]
  cf := some (fileOf pool0 8 #[] #[{ accessFlags := 1, nameIndex := 5, descriptorIndex := 6, attributes := #[] }] 33 0 #[] #[])
  fields := #[]
  methods := #[k0m0]
  instanceTypes := #[]
  staticTypes := #[]
  resolved := Array.replicate 124 none
  statics := none }

def pool1 : Array CpInfo := pool [(2, .class_ 4), (1, u "java/lang/Object"), (0, u "<init>"), (0, u "()V"), (0, .integer 2147483647), (0, .methodref 9 10), (0, .class_ 11), (0, .nameAndType 12 13), (0, u "com/example/tenon/tenon/Utf8"), (0, u "cut"), (0, u "([BII)I"), (0, .methodref 15 16), (0, .class_ 17), (0, .nameAndType 18 19), (0, u "com/example/tenon/tenon/Utf8CutPinLaw"), (0, u "cont"), (0, u "(B)Z"), (3, u "law"), (0, u "(JII)Z")] 4

def k1m0 : Method := { name := "<init>", desc := "()V", sig := { parameters := [], returnType := none }, accessFlags := 2, code := none }
def k1c1 : Code := { maxStack := 2, maxLocals := 1, code := method_2_code, exceptionTable := #[], attributes := #[] }
def k1m1 : Method := { name := "cont", desc := "(B)Z", sig := { parameters := [.byte], returnType := some .boolean }, accessFlags := 10, code := some k1c1 }
def k1c2 : Code := { maxStack := 5, maxLocals := 9, code := code, exceptionTable := #[], attributes := #[] }
def k1m2 : Method := { name := "law", desc := "(JII)Z", sig := { parameters := [.long, .int, .int], returnType := some .boolean }, accessFlags := 9, code := some k1c2 }
/-- com/example/tenon/tenon/Utf8CutPinLaw -/
def k1 : Class := { plain "com/example/tenon/tenon/Utf8CutPinLaw" (some 0) with
  accessFlags := 49
  interfaces := #[]
  cf := some (fileOf pool1 15 #[] #[{ accessFlags := 2, nameIndex := 5, descriptorIndex := 6, attributes := #[] }, { accessFlags := 10, nameIndex := 18, descriptorIndex := 19, attributes := #[] }, { accessFlags := 9, nameIndex := 23, descriptorIndex := 24, attributes := #[] }] 49 2 #[] #[])
  fields := #[]
  methods := #[k1m0, k1m1, k1m2]
  instanceTypes := #[]
  staticTypes := #[]
  resolved := Array.replicate 29 none
  statics := none }

def pool2 : Array CpInfo := pool [(4, .class_ 6), (1, u "java/lang/Object"), (0, u "<init>"), (0, u "()V"), (0, .class_ 10), (0, u "com/example/tenon/tenon/Utf8"), (24, u "cut"), (0, u "([BII)I"), (24, .class_ 62), (0, u "com/example/tenon/tenon/Utf8$Measured"), (3, .class_ 67), (0, u "com/example/tenon/tenon/Utf8$Counter"), (21, u "DECODED_AT_ONCE"), (0, u "I"), (1, u "PIECE"), (12, .class_ 106), (0, u "com/example/tenon/tenon/Utf8$Encoder")] 5

def k2m0 : Method := { name := "<init>", desc := "()V", sig := { parameters := [], returnType := none }, accessFlags := 2, code := none }
def k2c1 : Code := { maxStack := 2, maxLocals := 5, code := prog_110_method_3_code, exceptionTable := #[], attributes := #[] }
def k2m1 : Method := { name := "cut", desc := "([BII)I", sig := { parameters := [(.array .byte), .int, .int], returnType := some .int }, accessFlags := 8, code := some k2c1 }
/-- com/example/tenon/tenon/Utf8 -/
def k2 : Class := { plain "com/example/tenon/tenon/Utf8" (some 0) with
  accessFlags := 48
  interfaces := #[]
  cf := some (fileOf pool2 9 #[.nestMembers #[105, 66, 61]] #[{ accessFlags := 2, nameIndex := 7, descriptorIndex := 8, attributes := #[] }, { accessFlags := 8, nameIndex := 35, descriptorIndex := 36, attributes := #[] }] 48 4 #[] #[{ accessFlags := 26, nameIndex := 89, descriptorIndex := 90, attributes := #[] }, { accessFlags := 26, nameIndex := 92, descriptorIndex := 90, attributes := #[] }])
  fields := #[{ name := "DECODED_AT_ONCE", type := .int, accessFlags := 26, slot := 0, constantValue := 0 }, { name := "PIECE", type := .int, accessFlags := 26, slot := 1, constantValue := 0 }]
  methods := #[k2m0, k2m1]
  instanceTypes := #[]
  staticTypes := #[.int, .int]
  resolved := Array.replicate 112 none
  statics := none }

def pool3 : Array CpInfo := pool [(1, u "java/lang/Cloneable"), (0, .class_ 1), (0, u "java/lang/Object"), (0, .class_ 3)] 3

/-- java/lang/Cloneable -/
def k3 : Class := { plain "java/lang/Cloneable" (some 0) with
  accessFlags := 1537
  interfaces := #[]
  cf := some (fileOf pool3 2 #[] #[] 1537 4 #[] #[])
  fields := #[]
  methods := #[]
  instanceTypes := #[]
  staticTypes := #[]
  resolved := Array.replicate 8 none
  statics := none }

def pool4 : Array CpInfo := pool [(1, u "java/io/Serializable"), (0, .class_ 1), (0, u "java/lang/Object"), (0, .class_ 3)] 3

/-- java/io/Serializable -/
def k4 : Class := { plain "java/io/Serializable" (some 0) with
  accessFlags := 1537
  interfaces := #[]
  cf := some (fileOf pool4 2 #[] #[] 1537 4 #[] #[])
  fields := #[]
  methods := #[]
  instanceTypes := #[]
  staticTypes := #[]
  resolved := Array.replicate 8 none
  statics := none }

/-- the primitive byte -/
def k5 : Class := { plain "byte" none with kind := .primitive 'B', accessFlags := 0x411 }
/-- [B -/
def k6 : Class := { plain "[B" (some 0) with kind := .array 5 .byte, interfaces := #[3, 4], accessFlags := 1041 }

/-- the primitive int -/
def k7 : Class := { plain "int" none with kind := .primitive 'I', accessFlags := 0x411 }
/-- [I -/
def k8 : Class := { plain "[I" (some 0) with kind := .array 7 .int, interfaces := #[3, 4], accessFlags := 1041 }

def heap : Heap := #[]
def classes : Array Class := #[k0, k1, k2, k3, k4, k5, k6, k7, k8]
def interned : List (Array UInt16 × Addr) := []
def slotsUsed : Nat := 0
def theMethod : MethodId := ⟨1, 2⟩
def args0 : Array Value := #[.long 9, .int 7, .int 7]
def aboutOver (below : List Frame) : State where
  vm := { classes := classes, interned := interned.toArray }
  heap := heap
  slotsUsed := slotsUsed
  threads := #[{ frames := .invoking theMethod args0 :: below }]
def below0 : List Frame := [.native { method := ⟨0, 0⟩, args := #[] }]
def about1 : State := aboutOver below0
def p0 : Program := .bare "" "" ""
def e0 : Env := launch0.env 0 0 0
theorem w_frames : about1.frames = Frame.invoking theMethod args0 :: below0 := rfl
set_option maxRecDepth 65536 in
theorem w_args : argsFit about1.vm theMethod args0 = true := by decide +kernel
set_option maxRecDepth 65536 in
theorem w_heap : heapFits about1 = true := by decide +kernel
set_option maxRecDepth 65536 in
theorem w_runnable : about1.curStatus? = some .runnable := by decide +kernel
set_option maxRecDepth 65536 in
theorem w_alone : about1.alone = true := by decide +kernel
set_option maxRecDepth 65536 in
theorem w_named : about1.methodNamed? x = some theMethod := by decide +kernel
set_option maxRecDepth 65536 in
theorem w_hears : about1.hears theMethod below0 = true := by decide +kernel
set_option maxRecDepth 65536 in
theorem w_ripe : about1.ripe theMethod args0 below0 = true := by decide +kernel
theorem w_running : about1.status = .running := rfl
set_option maxRecDepth 65536 in
theorem w_room : about1.hasRoom e0.platform room_1 = true :=
  launch0.hasRoom_least _ room_1 (by decide +kernel) (by decide +kernel) (by decide +kernel) (by decide +kernel) (by decide +kernel) (by decide +kernel)
theorem allAtoms_all (ts : List Jvm.Cond) (a : Array Jvm.Value) (st : Jvm.State) : (allAtoms ts).before a st = ts.all (fun c => c.before a st) := by
  induction ts with
  | nil => rfl
  | cons c t ih =>
    show (Jvm.Cond.and c (allAtoms t)).before a st = _
    rw [Jvm.Cond.before_and, ih, List.all_cons]
def words1 : List Jvm.Cond := Jvm.Cond.code x code maxLocals ret :: tables_1
/-- a 'code' word, met by the world's own term for the bytes: nothing is compared byte by byte -/
theorem code_word {y : MethodName} {bytes : ByteArray} {mx : Nat} {rt : Option FieldType} {a : Array Value} {s : State} {m : MethodId} {meth : Method} {c : Code} (h1 : s.methodNamed? y = some m) (h2 : s.vm.method? m = some meth) (h3 : meth.code = some c) (h4 : c.code = bytes)
    (h5 : (c.maxLocals == mx && c.exceptionTable.isEmpty && decide (c.maxStack ≤ mostOperands) && decide (meth.sig.returnType = rt) && !meth.locks && decide (parseMethodDescriptor y.desc = some meth.sig)) = true) : (Jvm.Cond.code y bytes mx rt).before a s = true := by
  simp only [Bool.and_eq_true, beq_iff_eq, Bool.not_eq_true', decide_eq_true_eq] at h5
  obtain ⟨⟨⟨⟨⟨g1, g2⟩, g3⟩, g4⟩, g5⟩, g6⟩ := h5
  simp [Cond.before, Cond.holds, Cond.value, h1, h2, h3, h4, g1, g2, g3, g4, g5, g6]
def isCode : Jvm.Cond → Bool
  | .code _ _ _ _ => true
  | _ => false
theorem all_split {L : List Jvm.Cond} {P : Jvm.Cond → Bool} (h1 : L.all (fun c => isCode c || P c) = true) (h2 : ∀ c ∈ L.filter isCode, P c = true) : L.all P = true := by
  refine List.all_eq_true.mpr fun c hc => ?_
  have h := List.all_eq_true.mp h1 c hc
  rcases Bool.eq_false_or_eq_true (isCode c) with hi | hi
  · exact h2 c (List.mem_filter.mpr ⟨hc, hi⟩)
  · simpa [hi] using h
set_option maxRecDepth 65536 in
theorem w_c0 : (Jvm.Cond.code x code maxLocals ret).before args0 about1 = true := code_word (m := ⟨1, 2⟩) (meth := k1m2) (c := k1c2) (by decide +kernel) rfl rfl rfl (by decide +kernel)
set_option maxRecDepth 65536 in
theorem w_c1 : (Jvm.Cond.code ({ cls := "com/example/tenon/tenon/Utf8", name := "cut", desc := "([BII)I" } : Jvm.MethodName) prog_110_method_3_code (5 : Nat) (Option.some Jvm.ClassFile.FieldType.int)).before args0 about1 = true := code_word (m := ⟨2, 1⟩) (meth := k2m1) (c := k2c1) (by decide +kernel) rfl rfl rfl (by decide +kernel)
set_option maxRecDepth 65536 in
theorem w_c2 : (Jvm.Cond.code ({ cls := "com/example/tenon/tenon/Utf8CutPinLaw", name := "cont", desc := "(B)Z" } : Jvm.MethodName) method_2_code (1 : Nat) (Option.some Jvm.ClassFile.FieldType.boolean)).before args0 about1 = true := code_word (m := ⟨1, 1⟩) (meth := k1m1) (c := k1c1) (by decide +kernel) rfl rfl rfl (by decide +kernel)
def codes1 : List Jvm.Cond := [Jvm.Cond.code x code maxLocals ret, Jvm.Cond.code ({ cls := "com/example/tenon/tenon/Utf8", name := "cut", desc := "([BII)I" } : Jvm.MethodName) prog_110_method_3_code (5 : Nat) (Option.some Jvm.ClassFile.FieldType.int), Jvm.Cond.code ({ cls := "com/example/tenon/tenon/Utf8CutPinLaw", name := "cont", desc := "(B)Z" } : Jvm.MethodName) method_2_code (1 : Nat) (Option.some Jvm.ClassFile.FieldType.boolean)]
set_option maxRecDepth 65536 in
theorem codes_eq : words1.filter isCode = codes1 := rfl
theorem w_codes : ∀ c ∈ words1.filter isCode, c.before args0 about1 = true := by
  rw [codes_eq]
  intro c hc
  simp only [codes1, List.mem_cons, List.not_mem_nil, or_false] at hc
  rcases hc with rfl | rfl | rfl
  · exact w_c0
  · exact w_c1
  · exact w_c2
set_option maxRecDepth 65536 in
theorem w_t1 : words1.all (fun c => isCode c || c.before args0 about1) = true := by decide +kernel
theorem w_tables : (allAtoms (Jvm.Cond.code x code maxLocals ret :: tables_1)).before args0 about1 = true := by
  rw [allAtoms_all]
  show words1.all (fun c => c.before args0 about1) = true
  refine all_split ?_ w_codes
  rw [w_t1]
set_option maxRecDepth 65536 in
theorem w_case : (Jvm.Cond.and given_1 narrow_1).before args0 about1 = true := by decide +kernel
theorem w_applies : (headSpec (Jvm.Cond.code x code maxLocals ret :: tables_1) room_1).applies x e0.platform about1 = true :=
  (Spec.applies_iff w_frames).mpr ⟨w_running, w_runnable, w_alone, w_named, w_hears, w_ripe, w_room, w_tables⟩
theorem atStart : AtStart classFile x code maxLocals ret World_1 tables_1 room_1 Calls_1 rest_1 Pre_1 launch0 p0 e0 about1 theMethod args0 below0 :=
  ⟨lists_1, trivial, launch0.admits_env _ _ _, launch0.least_env, fairChoices_fair.cas, fairChoices_fair.clock, w_frames, w_args, w_heap, w_applies, trivial, trivial, w_case⟩
end start1
theorem witness_1 : WitnessClaimed_1 := ⟨start1.p0, start1.e0, start1.about1, start1.theMethod, start1.args0, start1.below0, start1.atStart⟩
end Jvm.Pilot.@@N@@
