import JvmDerived
import JvmDerived.Pilot.@@N@@Statement
import JvmDerived.Pilot.@@N@@Code
set_option linter.unusedVariables false
set_option linter.unusedSimpArgs false
namespace Jvm.RoadKit
open Sem ClassFile Op Lib Jvm.Stand Jvm.Free Jvm.LawKit
section New
variable {p : Program} {l : Launch} {e : Env} {R : Room} {s : State} {m : MethodId} {args : Array Value} {below : List Frame} {meth : Method} {c : Code} {T : State} {locs : List Loc} {cells slots : Nat}
theorem retI (X : Stand p l e R s m args below meth c T locs cells slots) (hx : p.tables.exec = Jvm.exec) {pc : Nat} {Ls : Array Slot} {z : Int32} {rest : List Value} (hret : meth.sig.returnType = some .int) (hd : decode c.code pc = .ok (.ireturn, 1)) {fs : List Frame}
    (hl : ∀ (f : JFrame) (acts : List Action), f.method = m → f.locked = none → f.entered = [] → (doReturn e (T.setTop f) acts (some (.int z))).1 = T.setFrames fs) : Steps p.tables e below (T.setTop (mkF m pc Ls (.int z :: rest))) (T.setFrames fs) := by
  have hm' : T.vm.method? m = some meth := X.method'
  have hn : narrow .int (.int z) = .int z := rfl
  show Steps p.tables e below (T.setTop { method := m, pc := pc, locals := Ls, stack := _ :: rest, locked := none }) _
  jvm_step X.here [X.here.top, hx, hd, hm', hret, hn]
  first | (intro acts; rw [hl _ acts rfl rfl rfl]) | rw [hl _ _ rfl rfl rfl]
  exact Steps.refl _
end New
end Jvm.RoadKit
namespace Jvm.Pilot.@@N@@
open Jvm Jvm.ClassFile Sem Op Lib Jvm.Free Jvm.Stand Jvm.LawKit Jvm.RoadKit Bundle Jvm.Pilot.@@N@@.Jvm.D
theorem own_hi1 {x n : Int32} (h : x < n) : x.toInt ≤ n.toInt - 1 := by rw [Int32.lt_iff_toInt_lt] at h; omega
theorem own_hi2 {x n : Int32} (h : ¬ n < x) : x.toInt ≤ n.toInt := by rw [Int32.lt_iff_toInt_lt] at h; omega
theorem own_hi3 {x n : Int32} (h : x = n) : x.toInt ≤ n.toInt := by rw [h]; exact Int.le_refl _
theorem own_lo1 {x n : Int32} (h : ¬ x < n) : n.toInt ≤ x.toInt := by rw [Int32.lt_iff_toInt_lt] at h; omega
theorem own_lo2 {x n : Int32} (h : n < x) : n.toInt + 1 ≤ x.toInt := by rw [Int32.lt_iff_toInt_lt] at h; omega
theorem own_lo3 {x n : Int32} (h : x = n) : n.toInt ≤ x.toInt := by rw [h]; exact Int.le_refl _
theorem own_xlT {x n : Int32} {k : Int} (h : x.toInt ≤ k) (q : k < n.toInt) : x < n := by rw [Int32.lt_iff_toInt_lt]; omega
theorem own_xlF {x n : Int32} {k : Int} (h : k ≤ x.toInt) (q : n.toInt ≤ k) : ¬ x < n := by rw [Int32.lt_iff_toInt_lt]; omega
theorem own_lxT {x n : Int32} {k : Int} (h : k ≤ x.toInt) (q : n.toInt < k) : n < x := by rw [Int32.lt_iff_toInt_lt]; omega
theorem own_lxF {x n : Int32} {k : Int} (h : x.toInt ≤ k) (q : k ≤ n.toInt) : ¬ n < x := by rw [Int32.lt_iff_toInt_lt]; omega
theorem own_eqF1 {x n : Int32} {k : Int} (h : x.toInt ≤ k) (q : k < n.toInt) : ¬ x = n := fun z => by rw [z] at h; omega
theorem own_eqF2 {x n : Int32} {k : Int} (h : k ≤ x.toInt) (q : n.toInt < k) : ¬ x = n := fun z => by rw [z] at h; omega
theorem own_getDI (xs : List Int32) (k : Nat) : (xs.map Value.int).getD k (.int 0) = .int (xs.getD k 0) := by simp only [List.getD_eq_getElem?_getD, List.getElem?_map]; cases xs[k]? <;> rfl
theorem own_getDJ (xs : List Int64) (k : Nat) : (xs.map Value.long).getD k (.long 0) = .long (xs.getD k 0) := by simp only [List.getD_eq_getElem?_getD, List.getElem?_map]; cases xs[k]? <;> rfl
theorem d5_0 : decode jdk_41_method_11_code 0 = .ok (.iload_n 0, 1) := by decide +kernel
theorem d5_1 : decode jdk_41_method_11_code 1 = .ok (.ifCond .lt 8, 3) := by decide +kernel
theorem d5_4 : decode jdk_41_method_11_code 4 = .ok (.iload_n 0, 1) := by decide +kernel
theorem d5_5 : decode jdk_41_method_11_code 5 = .ok (.iload_n 1, 1) := by decide +kernel
theorem d5_6 : decode jdk_41_method_11_code 6 = .ok (.if_icmp .lt 10, 3) := by decide +kernel
theorem d5_16 : decode jdk_41_method_11_code 16 = .ok (.iload_n 0, 1) := by decide +kernel
theorem d5_17 : decode jdk_41_method_11_code 17 = .ok (.ireturn, 1) := by decide +kernel
theorem d4_0 : decode jdk_42_method_155_code 0 = .ok (.iload_n 0, 1) := by decide +kernel
theorem d4_1 : decode jdk_42_method_155_code 1 = .ok (.iload_n 1, 1) := by decide +kernel
theorem d4_2 : decode jdk_42_method_155_code 2 = .ok (.getstatic 1053, 3) := by decide +kernel
theorem d4_5 : decode jdk_42_method_155_code 5 = .ok (.invokestatic 1059, 3) := by decide +kernel
theorem pd0 : parseMethodDescriptor "(IILjava/util/function/BiFunction;)I" = some ⟨[.int, .int, (.object "java/util/function/BiFunction")], some .int⟩ := by decide +kernel
theorem d4_8 : decode jdk_42_method_155_code 8 = .ok (.pop, 1) := by decide +kernel
theorem d4_9 : decode jdk_42_method_155_code 9 = .ok (.return_, 1) := by decide +kernel
theorem d3_0 : decode jdk_43_method_2_code 0 = .ok (.iload_n 1, 1) := by decide +kernel
theorem d3_1 : decode jdk_43_method_2_code 1 = .ok (.aload_n 0, 1) := by decide +kernel
theorem d3_2 : decode jdk_43_method_2_code 2 = .ok (.arraylength, 1) := by decide +kernel
theorem d3_3 : decode jdk_43_method_2_code 3 = .ok (.invokestatic 9, 3) := by decide +kernel
theorem pd1 : parseMethodDescriptor "(II)V" = some ⟨[.int, .int], none⟩ := by decide +kernel
theorem d3_6 : decode jdk_43_method_2_code 6 = .ok (.aload_n 0, 1) := by decide +kernel
theorem d3_7 : decode jdk_43_method_2_code 7 = .ok (.iload_n 1, 1) := by decide +kernel
theorem d3_8 : decode jdk_43_method_2_code 8 = .ok (.baload, 1) := by decide +kernel
theorem d3_9 : decode jdk_43_method_2_code 9 = .ok (.sipush 255, 3) := by decide +kernel
theorem d3_12 : decode jdk_43_method_2_code 12 = .ok (.iand, 1) := by decide +kernel
theorem d3_13 : decode jdk_43_method_2_code 13 = .ok (.i2c, 1) := by decide +kernel
theorem d3_14 : decode jdk_43_method_2_code 14 = .ok (.ireturn, 1) := by decide +kernel
theorem d2_0 : decode jdk_42_method_154_code 0 = .ok (.getstatic 38, 3) := by decide +kernel
theorem d2_3 : decode jdk_42_method_154_code 3 = .ok (.ifCond .eq 14, 3) := by decide +kernel
theorem d2_6 : decode jdk_42_method_154_code 6 = .ok (.aload_n 0, 1) := by decide +kernel
theorem d2_7 : decode jdk_42_method_154_code 7 = .ok (.getfield 15, 3) := by decide +kernel
theorem d2_10 : decode jdk_42_method_154_code 10 = .ok (.ifCond .ne 7, 3) := by decide +kernel
theorem d2_13 : decode jdk_42_method_154_code 13 = .ok (.iconst 1, 1) := by decide +kernel
theorem d2_14 : decode jdk_42_method_154_code 14 = .ok (.goto 4, 3) := by decide +kernel
theorem d2_18 : decode jdk_42_method_154_code 18 = .ok (.ireturn, 1) := by decide +kernel
theorem d1_0 : decode jdk_42_method_56_code 0 = .ok (.aload_n 0, 1) := by decide +kernel
theorem d1_1 : decode jdk_42_method_56_code 1 = .ok (.invokevirtual 492, 3) := by decide +kernel
theorem pd2 : parseMethodDescriptor "()Z" = some ⟨[], some .boolean⟩ := by decide +kernel
theorem d1_4 : decode jdk_42_method_56_code 4 = .ok (.ifCond .eq 12, 3) := by decide +kernel
theorem d1_7 : decode jdk_42_method_56_code 7 = .ok (.aload_n 0, 1) := by decide +kernel
theorem d1_8 : decode jdk_42_method_56_code 8 = .ok (.getfield 9, 3) := by decide +kernel
theorem d1_11 : decode jdk_42_method_56_code 11 = .ok (.iload_n 1, 1) := by decide +kernel
theorem d1_12 : decode jdk_42_method_56_code 12 = .ok (.invokestatic 495, 3) := by decide +kernel
theorem pd3 : parseMethodDescriptor "([BI)C" = some ⟨[(.array .byte), .int], some .char⟩ := by decide +kernel
theorem d1_15 : decode jdk_42_method_56_code 15 = .ok (.ireturn, 1) := by decide +kernel
theorem d6_0 : decode prog_50_method_15_code 0 = .ok (.iconst (-1), 1) := by decide +kernel
theorem d6_1 : decode prog_50_method_15_code 1 = .ok (.istore_n 1, 1) := by decide +kernel
theorem d6_2 : decode prog_50_method_15_code 2 = .ok (.iload_n 0, 1) := by decide +kernel
theorem d6_3 : decode prog_50_method_15_code 3 = .ok (.bipush 48, 2) := by decide +kernel
theorem d6_5 : decode prog_50_method_15_code 5 = .ok (.if_icmp .lt 17, 3) := by decide +kernel
theorem d6_22 : decode prog_50_method_15_code 22 = .ok (.iload_n 0, 1) := by decide +kernel
theorem d6_23 : decode prog_50_method_15_code 23 = .ok (.bipush 97, 2) := by decide +kernel
theorem d6_25 : decode prog_50_method_15_code 25 = .ok (.if_icmp .lt 20, 3) := by decide +kernel
theorem d6_45 : decode prog_50_method_15_code 45 = .ok (.iload_n 0, 1) := by decide +kernel
theorem d6_46 : decode prog_50_method_15_code 46 = .ok (.bipush 65, 2) := by decide +kernel
theorem d6_48 : decode prog_50_method_15_code 48 = .ok (.if_icmp .lt 17, 3) := by decide +kernel
theorem d6_8 : decode prog_50_method_15_code 8 = .ok (.iload_n 0, 1) := by decide +kernel
theorem d6_9 : decode prog_50_method_15_code 9 = .ok (.bipush 57, 2) := by decide +kernel
theorem d6_11 : decode prog_50_method_15_code 11 = .ok (.if_icmp .gt 11, 3) := by decide +kernel
theorem d6_51 : decode prog_50_method_15_code 51 = .ok (.iload_n 0, 1) := by decide +kernel
theorem d6_52 : decode prog_50_method_15_code 52 = .ok (.bipush 70, 2) := by decide +kernel
theorem d6_54 : decode prog_50_method_15_code 54 = .ok (.if_icmp .gt 11, 3) := by decide +kernel
theorem d6_57 : decode prog_50_method_15_code 57 = .ok (.iload_n 0, 1) := by decide +kernel
theorem d6_58 : decode prog_50_method_15_code 58 = .ok (.bipush 65, 2) := by decide +kernel
theorem d6_60 : decode prog_50_method_15_code 60 = .ok (.isub, 1) := by decide +kernel
theorem d6_61 : decode prog_50_method_15_code 61 = .ok (.bipush 10, 2) := by decide +kernel
theorem d6_63 : decode prog_50_method_15_code 63 = .ok (.iadd, 1) := by decide +kernel
theorem d6_64 : decode prog_50_method_15_code 64 = .ok (.istore_n 1, 1) := by decide +kernel
theorem d6_28 : decode prog_50_method_15_code 28 = .ok (.iload_n 0, 1) := by decide +kernel
theorem d6_29 : decode prog_50_method_15_code 29 = .ok (.bipush 102, 2) := by decide +kernel
theorem d6_31 : decode prog_50_method_15_code 31 = .ok (.if_icmp .gt 14, 3) := by decide +kernel
theorem d6_34 : decode prog_50_method_15_code 34 = .ok (.iload_n 0, 1) := by decide +kernel
theorem d6_35 : decode prog_50_method_15_code 35 = .ok (.bipush 97, 2) := by decide +kernel
theorem d6_37 : decode prog_50_method_15_code 37 = .ok (.isub, 1) := by decide +kernel
theorem d6_38 : decode prog_50_method_15_code 38 = .ok (.bipush 10, 2) := by decide +kernel
theorem d6_40 : decode prog_50_method_15_code 40 = .ok (.iadd, 1) := by decide +kernel
theorem d6_41 : decode prog_50_method_15_code 41 = .ok (.istore_n 1, 1) := by decide +kernel
theorem d6_42 : decode prog_50_method_15_code 42 = .ok (.goto 23, 3) := by decide +kernel
theorem d6_14 : decode prog_50_method_15_code 14 = .ok (.iload_n 0, 1) := by decide +kernel
theorem d6_15 : decode prog_50_method_15_code 15 = .ok (.bipush 48, 2) := by decide +kernel
theorem d6_17 : decode prog_50_method_15_code 17 = .ok (.isub, 1) := by decide +kernel
theorem d6_18 : decode prog_50_method_15_code 18 = .ok (.istore_n 1, 1) := by decide +kernel
theorem d6_19 : decode prog_50_method_15_code 19 = .ok (.goto 46, 3) := by decide +kernel
theorem d6_65 : decode prog_50_method_15_code 65 = .ok (.iload_n 1, 1) := by decide +kernel
theorem d6_66 : decode prog_50_method_15_code 66 = .ok (.ireturn, 1) := by decide +kernel
theorem d7_0 : decode method_3_code 0 = .ok (.iload_n 0, 1) := by decide +kernel
theorem d7_1 : decode method_3_code 1 = .ok (.invokestatic 17, 3) := by decide +kernel
theorem pd4 : parseMethodDescriptor "(I)I" = some ⟨[.int], some .int⟩ := by decide +kernel
theorem d7_4 : decode method_3_code 4 = .ok (.istore_n 1, 1) := by decide +kernel
theorem d7_5 : decode method_3_code 5 = .ok (.iload_n 1, 1) := by decide +kernel
theorem d7_6 : decode method_3_code 6 = .ok (.iconst (-1), 1) := by decide +kernel
theorem d7_7 : decode method_3_code 7 = .ok (.if_icmp .ne 5, 3) := by decide +kernel
theorem d7_10 : decode method_3_code 10 = .ok (.iconst 1, 1) := by decide +kernel
theorem d7_11 : decode method_3_code 11 = .ok (.ireturn, 1) := by decide +kernel
theorem d7_12 : decode method_3_code 12 = .ok (.iload_n 1, 1) := by decide +kernel
theorem d7_13 : decode method_3_code 13 = .ok (.ifCond .lt 9, 3) := by decide +kernel
theorem d7_22 : decode method_3_code 22 = .ok (.iconst 0, 1) := by decide +kernel
theorem d7_23 : decode method_3_code 23 = .ok (.ireturn, 1) := by decide +kernel
theorem d7_16 : decode method_3_code 16 = .ok (.iload_n 1, 1) := by decide +kernel
theorem d7_17 : decode method_3_code 17 = .ok (.bipush 15, 2) := by decide +kernel
theorem d7_19 : decode method_3_code 19 = .ok (.if_icmp .le 5, 3) := by decide +kernel
theorem d7_24 : decode method_3_code 24 = .ok (.iload_n 0, 1) := by decide +kernel
theorem d7_25 : decode method_3_code 25 = .ok (.ldc 7, 2) := by decide +kernel
theorem d7_27 : decode method_3_code 27 = .ok (.iload_n 1, 1) := by decide +kernel
theorem d7_28 : decode method_3_code 28 = .ok (.invokevirtual 9, 3) := by decide +kernel
theorem pd5 : parseMethodDescriptor "(I)C" = some ⟨[.int], some .char⟩ := by decide +kernel
theorem d7_31 : decode method_3_code 31 = .ok (.if_icmp .eq 13, 3) := by decide +kernel
theorem d7_44 : decode method_3_code 44 = .ok (.iconst 1, 1) := by decide +kernel
theorem d7_45 : decode method_3_code 45 = .ok (.goto 4, 3) := by decide +kernel
theorem d7_49 : decode method_3_code 49 = .ok (.ireturn, 1) := by decide +kernel
theorem d7_34 : decode method_3_code 34 = .ok (.iload_n 0, 1) := by decide +kernel
theorem d7_35 : decode method_3_code 35 = .ok (.ldc 15, 2) := by decide +kernel
theorem d7_37 : decode method_3_code 37 = .ok (.iload_n 1, 1) := by decide +kernel
theorem d7_38 : decode method_3_code 38 = .ok (.invokevirtual 9, 3) := by decide +kernel
theorem d7_41 : decode method_3_code 41 = .ok (.if_icmp .ne 7, 3) := by decide +kernel
theorem d7_48 : decode method_3_code 48 = .ok (.iconst 0, 1) := by decide +kernel
theorem pd6 : parseMethodDescriptor "(I)Z" = some ⟨[.int], some .boolean⟩ := by decide +kernel
theorem pn0 : plainName "jdk/internal/util/Preconditions" = true := by first | (simp [plainName, overriddenIn]; done) | decide +kernel
theorem pn1 : plainName "java/lang/String" = true := by first | (simp [plainName, overriddenIn]; done) | decide +kernel
theorem pn2 : plainName "java/lang/StringLatin1" = true := by first | (simp [plainName, overriddenIn]; done) | decide +kernel
theorem pn3 : plainName site_21.cls = true := by first | (simp [plainName, overriddenIn]; done) | decide +kernel
theorem pn4 : plainName x.cls = true := by first | (simp [plainName, overriddenIn]; done) | decide +kernel
def F5 (p0 : Int32) (p1 : Int32) : Int32 := p0
theorem ef5 (m : MethodId) (x0 : Int32) (x1 : Int32) (x2 : Value) (hx2 : x2.isRef = true) : entryFrame m #[(.int x0), (.int x1), x2] 3 = mkF m 0 #[.val (.int x0), .val (.int x1), .val x2] [] := by cases x2 <;> first | (simp [Value.isRef] at hx2; done) | (first | (simp [entryFrame, mkF, argsToLocals, Value.category]; done) | rfl)
def Q5 (Z : State) (p0 : Int32) (p1 : Int32) (u2 : Value) (h0 : Heap) (n0 : Nat) (v : Option Value) (h : Heap) (L : List Loc) : Prop := v = some (.int (F5 p0 p1)) ∧ Fr n0 L ∧ h = h0
set_option maxRecDepth 65536 in
set_option maxHeartbeats 40000000 in
theorem rm5 (l : Launch) (Z : State) (a0' : Array Value) (hw : ∀ d ∈ tables_1, d.before a0' Z = true) (ws : List Jvm.Cond) (p0 : Int32) (p1 : Int32) (u2 : Value) (h0 : Heap) (n0 : Nat) (Z0 : n0 ≤ h0.size) (hu_u2 : u2.isRef = true) (hc1 : ¬ (p0 < (0 : Int32))) (hc6 : p0 < p1) :
    MetFree l (⟨"jdk/internal/util/Preconditions", "checkIndex", "(IILjava/util/function/BiFunction;)I"⟩ : MethodName) (head1 (Jvm.Cond.code (⟨"jdk/internal/util/Preconditions", "checkIndex", "(IILjava/util/function/BiFunction;)I"⟩ : MethodName) jdk_41_method_11_code 3 (some .int) :: ws) ({ frames := 0, cells := 0, slots := 0, locals := 0 } : Room)) (fun a U => a = #[(.int p0), (.int p1), u2] ∧ Z.Warmed39 U.vm ∧ U.heap = h0) (fun _ _ _ _ _ => True) (fun _ U o U' => ∃ v L, o = .returned v ∧ Q5 Z p0 p1 u2 h0 n0 v U'.heap L ∧ FrameEnd U o U' L ({ frames := 0, cells := 0, slots := 0, locals := 0 } : Room).cells ({ frames := 0, cells := 0, slots := 0, locals := 0 } : Room).slots) := by
  refine MetFree.of_bodySF (plainFor_of_name pn0) hisR ?_
  intro p e s m args below meth c s₁ Bd hml0 hP hK
  obtain ⟨rfl, hZ, hh⟩ := hP
  have hx := Bd.exec
  have hby := Bd.bytes
  have hml : c.maxLocals = 3 := hml0
  have hown' := findClass_of_methodNamed Bd.named
  have hown : s.vm.findClass "jdk/internal/util/Preconditions" = some m.cls := hown'
  have hnm := (name_of_methodNamed Bd.named Bd.method).1
  have X0 : Stand p l e ({ frames := 0, cells := 0, slots := 0, locals := 0 } : Room) s m #[(.int p0), (.int p1), u2] below meth c s₁ [] 0 0 := Stand.of_body Bd
  have e0 : s₁.heap = h0 := by rw [← hh, Bd.state]; rfl
  have N0 := Fr.nil n0
  have hlk : meth.locks = false := by first | exact BodyLoose.notSynchronized Bd | exact Body.notSynchronized Bd
  have pre0 : ∀ t, Steps p.tables e below (s₁.setTop (mkF m 0 #[.val (.int p0), .val (.int p1), .val u2] [])) t → Steps p.tables e below (s₁.setTop (entryFrame m #[(.int p0), (.int p1), u2] 3)) t := fun t k => castTop (ef5 m p0 p1 u2 hu_u2) k
  have pre1 : ∀ t, Steps p.tables e below (s₁.setTop (mkF m 17 #[.val (.int p0), .val (.int p1), .val u2] [(.int p0)])) t → Steps p.tables e below (s₁.setTop (entryFrame m #[(.int p0), (.int p1), u2] 3)) t := fun t k => pre0 t (by
    show Steps p.tables e below (s₁.setTop (mkF m 0 #[.val (.int p0), .val (.int p1), .val u2] [])) _
    refine XS.iloadN X0.here hx rfl (hb hby d5_0) rfl ?_
    show Steps p.tables e below (s₁.setTop (mkF m 1 #[.val (.int p0), .val (.int p1), .val u2] [(.int p0)])) _
    refine XS.ifNo X0.here hx rfl (hb hby d5_1) rfl ((if0 _ _).trans (flt hc1).1) ?_
    show Steps p.tables e below (s₁.setTop (mkF m 4 #[.val (.int p0), .val (.int p1), .val u2] [])) _
    refine XS.iloadN X0.here hx rfl (hb hby d5_4) rfl ?_
    show Steps p.tables e below (s₁.setTop (mkF m 5 #[.val (.int p0), .val (.int p1), .val u2] [(.int p0)])) _
    refine XS.iloadN X0.here hx rfl (hb hby d5_5) rfl ?_
    show Steps p.tables e below (s₁.setTop (mkF m 6 #[.val (.int p0), .val (.int p1), .val u2] [(.int p1), (.int p0)])) _
    refine XS.icmpYes X0.here hx rfl (pc0 := 6) (pc' := 16) rfl (hb hby d5_6) rfl (tlt hc6).1 (by decide) (by decide) ?_
    show Steps p.tables e below (s₁.setTop (mkF m 16 #[.val (.int p0), .val (.int p1), .val u2] [])) _
    refine XS.iloadN X0.here hx rfl (hb hby d5_16) rfl ?_
    exact k)
  obtain ⟨fs, hr, hrun, hended, hW, hsame⟩ := X0.leave (v := some (.int p0)) (fun h => by rw [Bd.returns] at h; cases h) hlk
  have hF : (F5 p0 p1) = p0 := by rfl
  exact ⟨_, _, pre1 _ (retI X0 hx Bd.returns (hb hby d5_17) hr), hrun, hended, _, _, rfl, ⟨by rw [hF], N0, e0⟩, ⟨_, rfl⟩, hW, hsame.mono (by decide) (by decide)⟩
theorem ef4 (m : MethodId) (x0 : Int32) (x1 : Int32) : entryFrame m #[(.int x0), (.int x1)] 2 = mkF m 0 #[.val (.int x0), .val (.int x1)] [] := by first | (simp [entryFrame, mkF, argsToLocals, Value.category]; done) | rfl
def Q4 (Z : State) (p0 : Int32) (p1 : Int32) (s_SIOOBE_FORMATTER : Value) (h0 : Heap) (n0 : Nat) (v : Option Value) (h : Heap) (L : List Loc) : Prop := v = none ∧ Fr n0 L ∧ h = h0
set_option maxRecDepth 65536 in
set_option maxHeartbeats 40000000 in
theorem rm4 (l : Launch) (Z : State) (a0' : Array Value) (hw : ∀ d ∈ tables_1, d.before a0' Z = true) (ws : List Jvm.Cond) (p0 : Int32) (p1 : Int32) (s_SIOOBE_FORMATTER : Value) (h0 : Heap) (n0 : Nat) (Z0 : n0 ≤ h0.size) (OLD0 : Old Z n0 h0) (S_s_SIOOBE_FORMATTER : Sta Z Z.heap "jdk/internal/util/Preconditions" "SIOOBE_FORMATTER" "Ljava/util/function/BiFunction;" s_SIOOBE_FORMATTER) (hu_s_SIOOBE_FORMATTER : s_SIOOBE_FORMATTER.isRef = true) (hp5_0 : ¬ (p0 < (0 : Int32))) (hp5_1 : p0 < p1) :
    MetFree l (⟨"java/lang/String", "checkIndex", "(II)V"⟩ : MethodName) (head1 (Jvm.Cond.code (⟨"java/lang/String", "checkIndex", "(II)V"⟩ : MethodName) jdk_42_method_155_code 2 none :: ws) ({ frames := 1, cells := 0, slots := 0, locals := 14 } : Room)) (fun a U => a = #[(.int p0), (.int p1)] ∧ Z.Warmed39 U.vm ∧ U.heap = h0) (fun _ _ _ _ _ => True) (fun _ U o U' => ∃ v L, o = .returned v ∧ Q4 Z p0 p1 s_SIOOBE_FORMATTER h0 n0 v U'.heap L ∧ FrameEnd U o U' L ({ frames := 1, cells := 0, slots := 0, locals := 14 } : Room).cells ({ frames := 1, cells := 0, slots := 0, locals := 14 } : Room).slots) := by
  refine MetFree.of_bodySF (plainFor_of_name pn1) hisR ?_
  intro p e s m args below meth c s₁ Bd hml0 hP hK
  obtain ⟨rfl, hZ, hh⟩ := hP
  have hx := Bd.exec
  have hby := Bd.bytes
  have hml : c.maxLocals = 2 := hml0
  have hown' := findClass_of_methodNamed Bd.named
  have hown : s.vm.findClass "java/lang/String" = some m.cls := hown'
  have hnm := (name_of_methodNamed Bd.named Bd.method).1
  have X0 : Stand p l e ({ frames := 1, cells := 0, slots := 0, locals := 14 } : Room) s m #[(.int p0), (.int p1)] below meth c s₁ [] 0 0 := Stand.of_body Bd
  have e0 : s₁.heap = h0 := by rw [← hh, Bd.state]; rfl
  have N0 := Fr.nil n0
  have hlk : meth.locks = false := by first | exact BodyLoose.notSynchronized Bd | exact Body.notSynchronized Bd
  have pre0 : ∀ t, Steps p.tables e below (s₁.setTop (mkF m 0 #[.val (.int p0), .val (.int p1)] [])) t → Steps p.tables e below (s₁.setTop (entryFrame m #[(.int p0), (.int p1)] 2)) t := fun t k => castTop (ef4 m p0 p1) k
  obtain ⟨T1, X1, e1, st1⟩ := getS2 X0 hx hZ hown (host := "") (Or.inl (hw _ (List.mem_of_getElem? (i := 28) rfl))) Via.refl e0 (S_s_SIOOBE_FORMATTER.ext OLD0.2) (g := (mkF m 2 #[.val (.int p0), .val (.int p1)] [(.int p1), (.int p0)])) rfl (hb hby d4_2)
  obtain ⟨_, _, ⟨T2, L2, k2, n2⟩, -, X2, ⟨Lc2, hQ2, l2, y2, z2⟩, st2⟩ := Jvm.LawKit.callS X1 hx (y := (⟨"jdk/internal/util/Preconditions", "checkIndex", "(IILjava/util/function/BiFunction;)I"⟩ : MethodName)) hown (mvT hZ (hw _ (List.mem_of_getElem? (i := 30) rfl))) (mvT hZ (hw _ (List.mem_of_getElem? (i := 31) rfl))) (mvT hZ (hw _ (List.mem_of_getElem? (i := 29) rfl))) (mvT hZ (hw _ (List.mem_of_getElem? (i := 32) rfl))) (by decide) (backOf (W := 0) (rm5 l Z a0' hw [] p0 p1 s_SIOOBE_FORMATTER h0 n0 Z0 hu_s_SIOOBE_FORMATTER hp5_0 hp5_1) hZ (hw _ (List.mem_of_getElem? (i := 32) rfl)) (hw _ (List.mem_of_getElem? (i := 29) rfl)) (by decide) (by decide)) (g := (mkF m 5 #[.val (.int p0), .val (.int p1)] [s_SIOOBE_FORMATTER, (.int p1), (.int p0)])) rfl (by rw [hml]; rfl) (argsL := [(.int p0), (.int p1), s_SIOOBE_FORMATTER]) (rest := []) (lenOf pd0 rfl) rfl (by show 2 * 0 + _ ≤ _; exact Nat.le_of_eq rfl) (hb hby d4_5) (fun _ _ => ⟨rfl, e1, (by decide : 0 + 0 ≤ _), (by decide : 0 + 0 ≤ _)⟩)
  dsimp only [Pt.U, Pt.locs, Pt.cells, Pt.slots] at X2 l2 y2 z2 st2 hQ2
  subst l2 y2 z2
  obtain ⟨rfl, N2q, e2⟩ := hQ2
  have N2 := Fr.app N0 N2q
  have pre3 : ∀ t, Steps p.tables e below (T2.setTop (mkF m 9 #[.val (.int p0), .val (.int p1)] [])) t → Steps p.tables e below (s₁.setTop (entryFrame m #[(.int p0), (.int p1)] 2)) t := fun t k => pre0 t (by
    show Steps p.tables e below (s₁.setTop (mkF m 0 #[.val (.int p0), .val (.int p1)] [])) _
    refine XS.iloadN X0.here hx rfl (hb hby d4_0) rfl ?_
    show Steps p.tables e below (s₁.setTop (mkF m 1 #[.val (.int p0), .val (.int p1)] [(.int p0)])) _
    refine XS.iloadN X0.here hx rfl (hb hby d4_1) rfl ?_
    show Steps p.tables e below (s₁.setTop (mkF m 2 #[.val (.int p0), .val (.int p1)] [(.int p1), (.int p0)])) _
    refine st1 _ ?_
    show Steps p.tables e below (T1.setTop (mkF m 5 #[.val (.int p0), .val (.int p1)] [s_SIOOBE_FORMATTER, (.int p1), (.int p0)])) _
    refine st2 _ ?_
    show Steps p.tables e below (T2.setTop (mkF m 8 #[.val (.int p0), .val (.int p1)] [(.int (F5 p0 p1))])) _
    refine XS.pop X2.here hx rfl (hb hby d4_8) rfl rfl ?_
    exact k)
  obtain ⟨fs, hr, hrun, hended, hW, hsame⟩ := X2.leave (v := none) (fun _ => rfl) hlk
  exact ⟨_, _, pre3 _ (X2.returnOut hx Bd.returns (hb hby d4_9) hr), hrun, hended, _, _, rfl, ⟨rfl, N2, e2⟩, ⟨_, rfl⟩, hW, hsame.mono (by decide) (by decide)⟩
def F3 (p1 : Int32) (x0_a0 : Int32) (x1_a0 : Int32) (x2_a0 : Int32) (x3_a0 : Int32) (x4_a0 : Int32) (x5_a0 : Int32) (x6_a0 : Int32) (x7_a0 : Int32) (x8_a0 : Int32) (x9_a0 : Int32) (x10_a0 : Int32) (x11_a0 : Int32) (x12_a0 : Int32) (x13_a0 : Int32) (x14_a0 : Int32) (x15_a0 : Int32) : Int32 := ((((([x0_a0, x1_a0, x2_a0, x3_a0, x4_a0, x5_a0, x6_a0, x7_a0, x8_a0, x9_a0, x10_a0, x11_a0, x12_a0, x13_a0, x14_a0, x15_a0] : List Int32).getD (p1).toNatClampNeg 0) &&& (255 : Int32)).toUInt32.toUInt16.toUInt32.toInt32).toUInt32.toUInt16.toUInt32.toInt32)
theorem ef3 (m : MethodId) (x0 : Addr) (x1 : Int32) : entryFrame m #[(.ref x0), (.int x1)] 2 = mkF m 0 #[.val (.ref x0), .val (.int x1)] [] := by first | (simp [entryFrame, mkF, argsToLocals, Value.category]; done) | rfl
def Q3 (Z : State) (a0 : Addr) (p1 : Int32) (x0_a0 : Int32) (x1_a0 : Int32) (x2_a0 : Int32) (x3_a0 : Int32) (x4_a0 : Int32) (x5_a0 : Int32) (x6_a0 : Int32) (x7_a0 : Int32) (x8_a0 : Int32) (x9_a0 : Int32) (x10_a0 : Int32) (x11_a0 : Int32) (x12_a0 : Int32) (x13_a0 : Int32) (x14_a0 : Int32) (x15_a0 : Int32) (k_a0 : ClassId) (s_SIOOBE_FORMATTER : Value) (h0 : Heap) (n0 : Nat) (v : Option Value) (h : Heap) (L : List Loc) : Prop := v = some (.int (F3 p1 x0_a0 x1_a0 x2_a0 x3_a0 x4_a0 x5_a0 x6_a0 x7_a0 x8_a0 x9_a0 x10_a0 x11_a0 x12_a0 x13_a0 x14_a0 x15_a0)) ∧ Fr n0 L ∧ h = h0
set_option maxRecDepth 65536 in
set_option maxHeartbeats 40000000 in
theorem rm3 (l : Launch) (Z : State) (a0' : Array Value) (hw : ∀ d ∈ tables_1, d.before a0' Z = true) (ws : List Jvm.Cond) (a0 : Addr) (p1 : Int32) (x0_a0 : Int32) (x1_a0 : Int32) (x2_a0 : Int32) (x3_a0 : Int32) (x4_a0 : Int32) (x5_a0 : Int32) (x6_a0 : Int32) (x7_a0 : Int32) (x8_a0 : Int32) (x9_a0 : Int32) (x10_a0 : Int32) (x11_a0 : Int32) (x12_a0 : Int32) (x13_a0 : Int32) (x14_a0 : Int32) (x15_a0 : Int32) (k_a0 : ClassId) (s_SIOOBE_FORMATTER : Value) (h0 : Heap) (n0 : Nat) (Z0 : n0 ≤ h0.size) (V_a0 : Arv Z h0 a0 k_a0 .byte (16 : Int32) [(.int x0_a0), (.int x1_a0), (.int x2_a0), (.int x3_a0), (.int x4_a0), (.int x5_a0), (.int x6_a0), (.int x7_a0), (.int x8_a0), (.int x9_a0), (.int x10_a0), (.int x11_a0), (.int x12_a0), (.int x13_a0), (.int x14_a0), (.int x15_a0)] (.int 0)) (OLD0 : Old Z n0 h0) (S_s_SIOOBE_FORMATTER : Sta Z Z.heap "jdk/internal/util/Preconditions" "SIOOBE_FORMATTER" "Ljava/util/function/BiFunction;" s_SIOOBE_FORMATTER) (hu_s_SIOOBE_FORMATTER : s_SIOOBE_FORMATTER.isRef = true) (hp3_0 : ¬ (p1 < (0 : Int32))) (hp3_1 : p1 < (16 : Int32)) (hin_8 : ¬ p1 < 0 ∧ p1 < (16 : Int32)) :
    MetFree l (⟨"java/lang/StringLatin1", "charAt", "([BI)C"⟩ : MethodName) (head1 (Jvm.Cond.code (⟨"java/lang/StringLatin1", "charAt", "([BI)C"⟩ : MethodName) jdk_43_method_2_code 2 (some .char) :: ws) ({ frames := 2, cells := 0, slots := 0, locals := 27 } : Room)) (fun a U => a = #[(.ref a0), (.int p1)] ∧ Z.Warmed39 U.vm ∧ U.heap = h0) (fun _ _ _ _ _ => True) (fun _ U o U' => ∃ v L, o = .returned v ∧ Q3 Z a0 p1 x0_a0 x1_a0 x2_a0 x3_a0 x4_a0 x5_a0 x6_a0 x7_a0 x8_a0 x9_a0 x10_a0 x11_a0 x12_a0 x13_a0 x14_a0 x15_a0 k_a0 s_SIOOBE_FORMATTER h0 n0 v U'.heap L ∧ FrameEnd U o U' L ({ frames := 2, cells := 0, slots := 0, locals := 27 } : Room).cells ({ frames := 2, cells := 0, slots := 0, locals := 27 } : Room).slots) := by
  refine MetFree.of_bodySF (plainFor_of_name pn2) hisR ?_
  intro p e s m args below meth c s₁ Bd hml0 hP hK
  obtain ⟨rfl, hZ, hh⟩ := hP
  have hx := Bd.exec
  have hby := Bd.bytes
  have hml : c.maxLocals = 2 := hml0
  have hown' := findClass_of_methodNamed Bd.named
  have hown : s.vm.findClass "java/lang/StringLatin1" = some m.cls := hown'
  have hnm := (name_of_methodNamed Bd.named Bd.method).1
  have X0 : Stand p l e ({ frames := 2, cells := 0, slots := 0, locals := 27 } : Room) s m #[(.ref a0), (.int p1)] below meth c s₁ [] 0 0 := Stand.of_body Bd
  have e0 : s₁.heap = h0 := by rw [← hh, Bd.state]; rfl
  have N0 := Fr.nil n0
  have hlk : meth.locks = false := by first | exact BodyLoose.notSynchronized Bd | exact Body.notSynchronized Bd
  have pre0 : ∀ t, Steps p.tables e below (s₁.setTop (mkF m 0 #[.val (.ref a0), .val (.int p1)] [])) t → Steps p.tables e below (s₁.setTop (entryFrame m #[(.ref a0), (.int p1)] 2)) t := fun t k => castTop (ef3 m a0 p1) k
  obtain ⟨cl1, Ar1, q1, S1, M1, H1, G1⟩ := id V_a0
  obtain ⟨_, _, ⟨T2, L2, k2, n2⟩, -, X2, ⟨Lc2, hQ2, l2, y2, z2⟩, st2⟩ := Jvm.LawKit.callS X0 hx (y := (⟨"java/lang/String", "checkIndex", "(II)V"⟩ : MethodName)) hown (mvT hZ (hw _ (List.mem_of_getElem? (i := 25) rfl))) (mvT hZ (hw _ (List.mem_of_getElem? (i := 26) rfl))) (mvT hZ (hw _ (List.mem_of_getElem? (i := 1) rfl))) (mvT hZ (hw _ (List.mem_of_getElem? (i := 27) rfl))) (by decide) (backOf (W := 0) (rm4 l Z a0' hw [] p1 (16 : Int32) s_SIOOBE_FORMATTER h0 n0 Z0 OLD0 S_s_SIOOBE_FORMATTER hu_s_SIOOBE_FORMATTER hp3_0 hp3_1) hZ (hw _ (List.mem_of_getElem? (i := 27) rfl)) (hw _ (List.mem_of_getElem? (i := 1) rfl)) (by decide) (by decide)) (g := (mkF m 3 #[.val (.ref a0), .val (.int p1)] [(.int (16 : Int32)), (.int p1)])) rfl (by rw [hml]; rfl) (argsL := [(.int p1), (.int (16 : Int32))]) (rest := []) (lenOf pd1 rfl) rfl (by show 2 * 0 + _ ≤ _; exact Nat.le_of_eq rfl) (hb hby d3_3) (fun _ _ => ⟨rfl, e0, (by decide : 0 + 0 ≤ _), (by decide : 0 + 0 ≤ _)⟩)
  dsimp only [Pt.U, Pt.locs, Pt.cells, Pt.slots] at X2 l2 y2 z2 st2 hQ2
  subst l2 y2 z2
  obtain ⟨rfl, N2q, e2⟩ := hQ2
  have N2 := Fr.app N0 N2q
  obtain ⟨cl3, Ar3, q3, S3, M3, H3, G3⟩ := id V_a0
  have hin3 : ¬ (p1 < 0 ∨ cl3.slots.size ≤ (p1).toNatClampNeg) := inb_of S3 hin_8
  have hat3 : cl3.slots[(p1).toNatClampNeg]? = some (.int (([x0_a0, x1_a0, x2_a0, x3_a0, x4_a0, x5_a0, x6_a0, x7_a0, x8_a0, x9_a0, x10_a0, x11_a0, x12_a0, x13_a0, x14_a0, x15_a0] : List Int32).getD (p1).toNatClampNeg 0)) := H3.at hin3 (own_getDI [x0_a0, x1_a0, x2_a0, x3_a0, x4_a0, x5_a0, x6_a0, x7_a0, x8_a0, x9_a0, x10_a0, x11_a0, x12_a0, x13_a0, x14_a0, x15_a0] _)
  have pre4 : ∀ t, Steps p.tables e below (T2.setTop (mkF m 14 #[.val (.ref a0), .val (.int p1)] [(.int (((([x0_a0, x1_a0, x2_a0, x3_a0, x4_a0, x5_a0, x6_a0, x7_a0, x8_a0, x9_a0, x10_a0, x11_a0, x12_a0, x13_a0, x14_a0, x15_a0] : List Int32).getD (p1).toNatClampNeg 0) &&& (255 : Int32)).toUInt32.toUInt16.toUInt32.toInt32))])) t → Steps p.tables e below (s₁.setTop (entryFrame m #[(.ref a0), (.int p1)] 2)) t := fun t k => pre0 t (by
    show Steps p.tables e below (s₁.setTop (mkF m 0 #[.val (.ref a0), .val (.int p1)] [])) _
    refine XS.iloadN X0.here hx rfl (hb hby d3_0) rfl ?_
    show Steps p.tables e below (s₁.setTop (mkF m 1 #[.val (.ref a0), .val (.int p1)] [(.int p1)])) _
    refine XS.aloadN X0.here hx rfl (hb hby d3_1) rfl rfl ?_
    show Steps p.tables e below (s₁.setTop (mkF m 2 #[.val (.ref a0), .val (.int p1)] [(.ref a0), (.int p1)])) _
    refine X0.arraylength hx (by rw [e0]; exact Ar1.1) (State.isArrayOf_alike hZ.alike Ar1.2.1) (g := (mkF m 2 #[.val (.ref a0), .val (.int p1)] [(.ref a0), (.int p1)])) rfl rfl (hb hby d3_2) _ ?_
    rw [len_of S1 M1]
    show Steps p.tables e below (s₁.setTop (mkF m 3 #[.val (.ref a0), .val (.int p1)] [(.int (16 : Int32)), (.int p1)])) _
    refine st2 _ ?_
    show Steps p.tables e below (T2.setTop (mkF m 6 #[.val (.ref a0), .val (.int p1)] [])) _
    refine XS.aloadN X2.here hx rfl (hb hby d3_6) rfl rfl ?_
    show Steps p.tables e below (T2.setTop (mkF m 7 #[.val (.ref a0), .val (.int p1)] [(.ref a0)])) _
    refine XS.iloadN X2.here hx rfl (hb hby d3_7) rfl ?_
    show Steps p.tables e below (T2.setTop (mkF m 8 #[.val (.ref a0), .val (.int p1)] [(.int p1), (.ref a0)])) _
    refine X2.baloadBytes hx (j := p1) (v := (.int (([x0_a0, x1_a0, x2_a0, x3_a0, x4_a0, x5_a0, x6_a0, x7_a0, x8_a0, x9_a0, x10_a0, x11_a0, x12_a0, x13_a0, x14_a0, x15_a0] : List Int32).getD (p1).toNatClampNeg 0))) (by rw [e2]; exact Ar3.1) (State.isArrayOf_alike hZ.alike Ar3.2.1) Ar3.2.2 hin3 hat3 (g := (mkF m 8 #[.val (.ref a0), .val (.int p1)] [(.int p1), (.ref a0)])) rfl rfl (hb hby d3_8) _ ?_
    show Steps p.tables e below (T2.setTop (mkF m 9 #[.val (.ref a0), .val (.int p1)] [(.int (([x0_a0, x1_a0, x2_a0, x3_a0, x4_a0, x5_a0, x6_a0, x7_a0, x8_a0, x9_a0, x10_a0, x11_a0, x12_a0, x13_a0, x14_a0, x15_a0] : List Int32).getD (p1).toNatClampNeg 0))])) _
    refine XS.sipush X2.here hx rfl (hb hby d3_9) ?_
    show Steps p.tables e below (T2.setTop (mkF m 12 #[.val (.ref a0), .val (.int p1)] [(.int (255 : Int32)), (.int (([x0_a0, x1_a0, x2_a0, x3_a0, x4_a0, x5_a0, x6_a0, x7_a0, x8_a0, x9_a0, x10_a0, x11_a0, x12_a0, x13_a0, x14_a0, x15_a0] : List Int32).getD (p1).toNatClampNeg 0))])) _
    refine XS.iand X2.here hx rfl (hb hby d3_12) rfl ?_
    show Steps p.tables e below (T2.setTop (mkF m 13 #[.val (.ref a0), .val (.int p1)] [(.int ((([x0_a0, x1_a0, x2_a0, x3_a0, x4_a0, x5_a0, x6_a0, x7_a0, x8_a0, x9_a0, x10_a0, x11_a0, x12_a0, x13_a0, x14_a0, x15_a0] : List Int32).getD (p1).toNatClampNeg 0) &&& (255 : Int32)))])) _
    refine XS.i2c X2.here hx rfl (hb hby d3_13) rfl ?_
    exact k)
  obtain ⟨fs, hr, hrun, hended, hW, hsame⟩ := X2.leave (v := some (.int ((((([x0_a0, x1_a0, x2_a0, x3_a0, x4_a0, x5_a0, x6_a0, x7_a0, x8_a0, x9_a0, x10_a0, x11_a0, x12_a0, x13_a0, x14_a0, x15_a0] : List Int32).getD (p1).toNatClampNeg 0) &&& (255 : Int32)).toUInt32.toUInt16.toUInt32.toInt32).toUInt32.toUInt16.toUInt32.toInt32))) (fun h => by rw [Bd.returns] at h; cases h) hlk
  have hF : (F3 p1 x0_a0 x1_a0 x2_a0 x3_a0 x4_a0 x5_a0 x6_a0 x7_a0 x8_a0 x9_a0 x10_a0 x11_a0 x12_a0 x13_a0 x14_a0 x15_a0) = ((((([x0_a0, x1_a0, x2_a0, x3_a0, x4_a0, x5_a0, x6_a0, x7_a0, x8_a0, x9_a0, x10_a0, x11_a0, x12_a0, x13_a0, x14_a0, x15_a0] : List Int32).getD (p1).toNatClampNeg 0) &&& (255 : Int32)).toUInt32.toUInt16.toUInt32.toInt32).toUInt32.toUInt16.toUInt32.toInt32) := by rfl
  exact ⟨_, _, pre4 _ (retN X2 hx (t := .char) Bd.returns (by simp) (hb hby d3_14) hr), hrun, hended, _, _, rfl, ⟨by rw [hF], N2, e2⟩, ⟨_, rfl⟩, hW, hsame.mono (by decide) (by decide)⟩
def F2  : Int32 := (1 : Int32)
theorem ef2 (m : MethodId) (x0 : Addr) : entryFrame m #[(.ref x0)] 1 = mkF m 0 #[.val (.ref x0)] [] := by first | (simp [entryFrame, mkF, argsToLocals, Value.category]; done) | rfl
def Q2 (Z : State) (a0 : Addr) (s_COMPACT_STRINGS : Int32) (h0 : Heap) (n0 : Nat) (v : Option Value) (h : Heap) (L : List Loc) : Prop := v = some (.int F2) ∧ Fr n0 L ∧ h = h0
set_option maxRecDepth 65536 in
set_option maxHeartbeats 40000000 in
theorem rm2 (l : Launch) (Z : State) (a0' : Array Value) (hw : ∀ d ∈ tables_1, d.before a0' Z = true) (ws : List Jvm.Cond) (a0 : Addr) (s_COMPACT_STRINGS : Int32) (h0 : Heap) (n0 : Nat) (Z0 : n0 ≤ h0.size) (F_wa0_coder : Fld Z h0 a0 "java/lang/String" "coder" "B" (.int (0 : Int32))) (OLD0 : Old Z n0 h0) (S_s_COMPACT_STRINGS : Sta Z Z.heap "java/lang/String" "COMPACT_STRINGS" "Z" (.int s_COMPACT_STRINGS)) (hc3 : ¬ (s_COMPACT_STRINGS = (0 : Int32))) :
    MetFree l (⟨"java/lang/String", "isLatin1", "()Z"⟩ : MethodName) (head1 (Jvm.Cond.code (⟨"java/lang/String", "isLatin1", "()Z"⟩ : MethodName) jdk_42_method_154_code 1 (some .boolean) :: ws) ({ frames := 0, cells := 0, slots := 0, locals := 0 } : Room)) (fun a U => a = #[(.ref a0)] ∧ Z.Warmed39 U.vm ∧ U.heap = h0) (fun _ _ _ _ _ => True) (fun _ U o U' => ∃ v L, o = .returned v ∧ Q2 Z a0 s_COMPACT_STRINGS h0 n0 v U'.heap L ∧ FrameEnd U o U' L ({ frames := 0, cells := 0, slots := 0, locals := 0 } : Room).cells ({ frames := 0, cells := 0, slots := 0, locals := 0 } : Room).slots) := by
  refine MetFree.of_bodySF (plainFor_of_name pn1) hisR ?_
  intro p e s m args below meth c s₁ Bd hml0 hP hK
  obtain ⟨rfl, hZ, hh⟩ := hP
  have hx := Bd.exec
  have hby := Bd.bytes
  have hml : c.maxLocals = 1 := hml0
  have hown' := findClass_of_methodNamed Bd.named
  have hown : s.vm.findClass "java/lang/String" = some m.cls := hown'
  have hnm := (name_of_methodNamed Bd.named Bd.method).1
  have X0 : Stand p l e ({ frames := 0, cells := 0, slots := 0, locals := 0 } : Room) s m #[(.ref a0)] below meth c s₁ [] 0 0 := Stand.of_body Bd
  have e0 : s₁.heap = h0 := by rw [← hh, Bd.state]; rfl
  have N0 := Fr.nil n0
  have hlk : meth.locks = false := by first | exact BodyLoose.notSynchronized Bd | exact Body.notSynchronized Bd
  have pre0 : ∀ t, Steps p.tables e below (s₁.setTop (mkF m 0 #[.val (.ref a0)] [])) t → Steps p.tables e below (s₁.setTop (entryFrame m #[(.ref a0)] 1)) t := fun t k => castTop (ef2 m a0) k
  obtain ⟨T1, X1, e1, st1⟩ := getS2 X0 hx hZ hown (host := "") (Or.inl (hw _ (List.mem_of_getElem? (i := 18) rfl))) Via.refl e0 (S_s_COMPACT_STRINGS.ext OLD0.2) (g := (mkF m 0 #[.val (.ref a0)] [])) rfl (hb hby d2_0)
  obtain ⟨T2, X2, e2, st2⟩ := getF X1 hx hZ hown (host := "") (Or.inl (hw _ (List.mem_of_getElem? (i := 19) rfl))) Via.refl e1 F_wa0_coder (g := (mkF m 7 #[.val (.ref a0)] [(.ref a0)])) rfl rfl (hb hby d2_7)
  have pre3 : ∀ t, Steps p.tables e below (T2.setTop (mkF m 18 #[.val (.ref a0)] [(.int (1 : Int32))])) t → Steps p.tables e below (s₁.setTop (entryFrame m #[(.ref a0)] 1)) t := fun t k => pre0 t (by
    show Steps p.tables e below (s₁.setTop (mkF m 0 #[.val (.ref a0)] [])) _
    refine st1 _ ?_
    show Steps p.tables e below (T1.setTop (mkF m 3 #[.val (.ref a0)] [(.int s_COMPACT_STRINGS)])) _
    refine XS.ifNo X1.here hx rfl (hb hby d2_3) rfl ((if0 _ _).trans (feq hc3).1) ?_
    show Steps p.tables e below (T1.setTop (mkF m 6 #[.val (.ref a0)] [])) _
    refine XS.aloadN X1.here hx rfl (hb hby d2_6) rfl rfl ?_
    show Steps p.tables e below (T1.setTop (mkF m 7 #[.val (.ref a0)] [(.ref a0)])) _
    refine st2 _ ?_
    show Steps p.tables e below (T2.setTop (mkF m 10 #[.val (.ref a0)] [(.int (0 : Int32))])) _
    refine XS.ifNo X2.here hx rfl (hb hby d2_10) rfl ((if0 _ _).trans (teq (rfl : (0 : Int32) = (0 : Int32))).2) ?_
    show Steps p.tables e below (T2.setTop (mkF m 13 #[.val (.ref a0)] [])) _
    refine XS.iconst X2.here hx rfl (hb hby d2_13) ?_
    show Steps p.tables e below (T2.setTop (mkF m 14 #[.val (.ref a0)] [(.int (1 : Int32))])) _
    refine XS.goto X2.here hx rfl (pc0 := 14) (pc' := 18) rfl (hb hby d2_14) (by decide) (by decide) ?_
    exact k)
  obtain ⟨fs, hr, hrun, hended, hW, hsame⟩ := X2.leave (v := some (.int (1 : Int32))) (fun h => by rw [Bd.returns] at h; cases h) hlk
  have hF : F2 = (1 : Int32) := by rfl
  exact ⟨_, _, pre3 _ (retN X2 hx (t := .boolean) Bd.returns (by simp) (hb hby d2_18) hr), hrun, hended, _, _, rfl, ⟨by rw [hF], N0, e2⟩, ⟨_, rfl⟩, hW, hsame.mono (by decide) (by decide)⟩
def F1 (p1 : Int32) (x0_wa0_value : Int32) (x1_wa0_value : Int32) (x2_wa0_value : Int32) (x3_wa0_value : Int32) (x4_wa0_value : Int32) (x5_wa0_value : Int32) (x6_wa0_value : Int32) (x7_wa0_value : Int32) (x8_wa0_value : Int32) (x9_wa0_value : Int32) (x10_wa0_value : Int32) (x11_wa0_value : Int32) (x12_wa0_value : Int32) (x13_wa0_value : Int32) (x14_wa0_value : Int32) (x15_wa0_value : Int32) : Int32 := ((F3 p1 x0_wa0_value x1_wa0_value x2_wa0_value x3_wa0_value x4_wa0_value x5_wa0_value x6_wa0_value x7_wa0_value x8_wa0_value x9_wa0_value x10_wa0_value x11_wa0_value x12_wa0_value x13_wa0_value x14_wa0_value x15_wa0_value).toUInt32.toUInt16.toUInt32.toInt32)
theorem ef1 (m : MethodId) (x0 : Addr) (x1 : Int32) : entryFrame m #[(.ref x0), (.int x1)] 2 = mkF m 0 #[.val (.ref x0), .val (.int x1)] [] := by first | (simp [entryFrame, mkF, argsToLocals, Value.category]; done) | rfl
def Q1 (Z : State) (a0 : Addr) (p1 : Int32) (wa0_value : Addr) (x0_wa0_value : Int32) (x1_wa0_value : Int32) (x2_wa0_value : Int32) (x3_wa0_value : Int32) (x4_wa0_value : Int32) (x5_wa0_value : Int32) (x6_wa0_value : Int32) (x7_wa0_value : Int32) (x8_wa0_value : Int32) (x9_wa0_value : Int32) (x10_wa0_value : Int32) (x11_wa0_value : Int32) (x12_wa0_value : Int32) (x13_wa0_value : Int32) (x14_wa0_value : Int32) (x15_wa0_value : Int32) (k_wa0_value : ClassId) (s_COMPACT_STRINGS : Int32) (s_SIOOBE_FORMATTER : Value) (h0 : Heap) (n0 : Nat) (v : Option Value) (h : Heap) (L : List Loc) : Prop := v = some (.int (F1 p1 x0_wa0_value x1_wa0_value x2_wa0_value x3_wa0_value x4_wa0_value x5_wa0_value x6_wa0_value x7_wa0_value x8_wa0_value x9_wa0_value x10_wa0_value x11_wa0_value x12_wa0_value x13_wa0_value x14_wa0_value x15_wa0_value)) ∧ Fr n0 L ∧ h = h0
set_option maxRecDepth 65536 in
set_option maxHeartbeats 40000000 in
theorem rm1 (l : Launch) (Z : State) (a0' : Array Value) (hw : ∀ d ∈ tables_1, d.before a0' Z = true) (ws : List Jvm.Cond) (a0 : Addr) (p1 : Int32) (wa0_value : Addr) (x0_wa0_value : Int32) (x1_wa0_value : Int32) (x2_wa0_value : Int32) (x3_wa0_value : Int32) (x4_wa0_value : Int32) (x5_wa0_value : Int32) (x6_wa0_value : Int32) (x7_wa0_value : Int32) (x8_wa0_value : Int32) (x9_wa0_value : Int32) (x10_wa0_value : Int32) (x11_wa0_value : Int32) (x12_wa0_value : Int32) (x13_wa0_value : Int32) (x14_wa0_value : Int32) (x15_wa0_value : Int32) (k_wa0_value : ClassId) (s_COMPACT_STRINGS : Int32) (s_SIOOBE_FORMATTER : Value) (h0 : Heap) (n0 : Nat) (Z0 : n0 ≤ h0.size) (E_a0 : Exa Z h0 a0 "java/lang/String") (V_wa0_value : Arv Z h0 wa0_value k_wa0_value .byte (16 : Int32) [(.int x0_wa0_value), (.int x1_wa0_value), (.int x2_wa0_value), (.int x3_wa0_value), (.int x4_wa0_value), (.int x5_wa0_value), (.int x6_wa0_value), (.int x7_wa0_value), (.int x8_wa0_value), (.int x9_wa0_value), (.int x10_wa0_value), (.int x11_wa0_value), (.int x12_wa0_value), (.int x13_wa0_value), (.int x14_wa0_value), (.int x15_wa0_value)] (.int 0)) (F_wa0_coder : Fld Z h0 a0 "java/lang/String" "coder" "B" (.int (0 : Int32))) (F_wa0_value : Fld Z h0 a0 "java/lang/String" "value" "[B" (.ref wa0_value)) (OLD0 : Old Z n0 h0) (S_s_COMPACT_STRINGS : Sta Z Z.heap "java/lang/String" "COMPACT_STRINGS" "Z" (.int s_COMPACT_STRINGS)) (S_s_SIOOBE_FORMATTER : Sta Z Z.heap "jdk/internal/util/Preconditions" "SIOOBE_FORMATTER" "Ljava/util/function/BiFunction;" s_SIOOBE_FORMATTER) (hu_s_SIOOBE_FORMATTER : s_SIOOBE_FORMATTER.isRef = true) (hp1_0 : ¬ (s_COMPACT_STRINGS = (0 : Int32))) (hp12_0 : ¬ (p1 < (0 : Int32))) (hp12_1 : p1 < (16 : Int32)) (hp12_2 : ¬ p1 < 0 ∧ p1 < (16 : Int32)) :
    MetFree l (⟨"java/lang/String", "charAt", "(I)C"⟩ : MethodName) (head1 (Jvm.Cond.code (⟨"java/lang/String", "charAt", "(I)C"⟩ : MethodName) jdk_42_method_56_code 2 (some .char) :: ws) ({ frames := 3, cells := 0, slots := 0, locals := 40 } : Room)) (fun a U => a = #[(.ref a0), (.int p1)] ∧ Z.Warmed39 U.vm ∧ U.heap = h0) (fun _ _ _ _ _ => True) (fun _ U o U' => ∃ v L, o = .returned v ∧ Q1 Z a0 p1 wa0_value x0_wa0_value x1_wa0_value x2_wa0_value x3_wa0_value x4_wa0_value x5_wa0_value x6_wa0_value x7_wa0_value x8_wa0_value x9_wa0_value x10_wa0_value x11_wa0_value x12_wa0_value x13_wa0_value x14_wa0_value x15_wa0_value k_wa0_value s_COMPACT_STRINGS s_SIOOBE_FORMATTER h0 n0 v U'.heap L ∧ FrameEnd U o U' L ({ frames := 3, cells := 0, slots := 0, locals := 40 } : Room).cells ({ frames := 3, cells := 0, slots := 0, locals := 40 } : Room).slots) := by
  refine MetFree.of_bodySF (plainFor_of_name pn1) hisR ?_
  intro p e s m args below meth c s₁ Bd hml0 hP hK
  obtain ⟨rfl, hZ, hh⟩ := hP
  have hx := Bd.exec
  have hby := Bd.bytes
  have hml : c.maxLocals = 2 := hml0
  have hown' := findClass_of_methodNamed Bd.named
  have hown : s.vm.findClass "java/lang/String" = some m.cls := hown'
  have hnm := (name_of_methodNamed Bd.named Bd.method).1
  have X0 : Stand p l e ({ frames := 3, cells := 0, slots := 0, locals := 40 } : Room) s m #[(.ref a0), (.int p1)] below meth c s₁ [] 0 0 := Stand.of_body Bd
  have e0 : s₁.heap = h0 := by rw [← hh, Bd.state]; rfl
  have N0 := Fr.nil n0
  have hlk : meth.locks = false := by first | exact BodyLoose.notSynchronized Bd | exact Body.notSynchronized Bd
  have pre0 : ∀ t, Steps p.tables e below (s₁.setTop (mkF m 0 #[.val (.ref a0), .val (.int p1)] [])) t → Steps p.tables e below (s₁.setTop (entryFrame m #[(.ref a0), (.int p1)] 2)) t := fun t k => castTop (ef1 m a0 p1) k
  obtain ⟨cq1, kq1, q1a, q1b, q1c⟩ := isOf hZ e0 E_a0
  obtain ⟨_, _, ⟨T1, L1, k1, n1⟩, -, X1, ⟨Lc1, hQ1, l1, y1, z1⟩, st1⟩ := X0.virtualBack hx (y := (⟨"java/lang/String", "isLatin1", "()Z"⟩ : MethodName)) (z := (⟨"java/lang/String", "isLatin1", "()Z"⟩ : MethodName)) hown (mvT hZ (hw _ (List.mem_of_getElem? (i := 13) rfl))) (mvT hZ (hw _ (List.mem_of_getElem? (i := 14) rfl))) (notFace_of_selects (args := #[]) (mvT hZ (hw _ (List.mem_of_getElem? (i := 16) rfl)))) (mvT hZ (hw _ (List.mem_of_getElem? (i := 16) rfl))) (mvT hZ (hw _ (List.mem_of_getElem? (i := 15) rfl))) (by decide) (backOf (W := 0) (rm2 l Z a0' hw [] a0 s_COMPACT_STRINGS h0 n0 Z0 F_wa0_coder OLD0 S_s_COMPACT_STRINGS hp1_0) hZ (hw _ (List.mem_of_getElem? (i := 17) rfl)) (hw _ (List.mem_of_getElem? (i := 1) rfl)) (by decide) (by decide)) q1a q1c (g := (mkF m 1 #[.val (.ref a0), .val (.int p1)] [(.ref a0)])) rfl (by rw [hml]; rfl) (Steps.refl _) (argsL := []) (rest := []) (lenOf pd2 rfl) rfl (by show 2 * 0 + _ ≤ _; exact Nat.le_of_eq rfl) (hb hby d1_1) (fun _ _ => ⟨rfl, e0, (by decide : 0 + 0 ≤ _), (by decide : 0 + 0 ≤ _)⟩)
  dsimp only [Pt.U, Pt.locs, Pt.cells, Pt.slots] at X1 l1 y1 z1 st1 hQ1
  subst l1 y1 z1
  obtain ⟨rfl, N1q, e1⟩ := hQ1
  have N1 := Fr.app N0 N1q
  obtain ⟨T2, X2, e2, st2⟩ := getF X1 hx hZ hown (host := "") (Or.inl (hw _ (List.mem_of_getElem? (i := 20) rfl))) Via.refl e1 F_wa0_value (g := (mkF m 8 #[.val (.ref a0), .val (.int p1)] [(.ref a0)])) rfl rfl (hb hby d1_8)
  obtain ⟨_, _, ⟨T3, L3, k3, n3⟩, -, X3, ⟨Lc3, hQ3, l3, y3, z3⟩, st3⟩ := Jvm.LawKit.callS X2 hx (y := (⟨"java/lang/StringLatin1", "charAt", "([BI)C"⟩ : MethodName)) hown (mvT hZ (hw _ (List.mem_of_getElem? (i := 21) rfl))) (mvT hZ (hw _ (List.mem_of_getElem? (i := 22) rfl))) (mvT hZ (hw _ (List.mem_of_getElem? (i := 23) rfl))) (mvT hZ (hw _ (List.mem_of_getElem? (i := 24) rfl))) (by decide) (backOf (W := 0) (rm3 l Z a0' hw [] wa0_value p1 x0_wa0_value x1_wa0_value x2_wa0_value x3_wa0_value x4_wa0_value x5_wa0_value x6_wa0_value x7_wa0_value x8_wa0_value x9_wa0_value x10_wa0_value x11_wa0_value x12_wa0_value x13_wa0_value x14_wa0_value x15_wa0_value k_wa0_value s_SIOOBE_FORMATTER h0 n0 Z0 V_wa0_value OLD0 S_s_SIOOBE_FORMATTER hu_s_SIOOBE_FORMATTER hp12_0 hp12_1 hp12_2) hZ (hw _ (List.mem_of_getElem? (i := 24) rfl)) (hw _ (List.mem_of_getElem? (i := 23) rfl)) (by decide) (by decide)) (g := (mkF m 12 #[.val (.ref a0), .val (.int p1)] [(.int p1), (.ref wa0_value)])) rfl (by rw [hml]; rfl) (argsL := [(.ref wa0_value), (.int p1)]) (rest := []) (lenOf pd3 rfl) rfl (by show 2 * 0 + _ ≤ _; exact Nat.le_of_eq rfl) (hb hby d1_12) (fun _ _ => ⟨rfl, e2, (by decide : 0 + 0 ≤ _), (by decide : 0 + 0 ≤ _)⟩)
  dsimp only [Pt.U, Pt.locs, Pt.cells, Pt.slots] at X3 l3 y3 z3 st3 hQ3
  subst l3 y3 z3
  obtain ⟨rfl, N3q, e3⟩ := hQ3
  have N3 := Fr.app N1 N3q
  have pre4 : ∀ t, Steps p.tables e below (T3.setTop (mkF m 15 #[.val (.ref a0), .val (.int p1)] [(.int (F3 p1 x0_wa0_value x1_wa0_value x2_wa0_value x3_wa0_value x4_wa0_value x5_wa0_value x6_wa0_value x7_wa0_value x8_wa0_value x9_wa0_value x10_wa0_value x11_wa0_value x12_wa0_value x13_wa0_value x14_wa0_value x15_wa0_value))])) t → Steps p.tables e below (s₁.setTop (entryFrame m #[(.ref a0), (.int p1)] 2)) t := fun t k => pre0 t (by
    show Steps p.tables e below (s₁.setTop (mkF m 0 #[.val (.ref a0), .val (.int p1)] [])) _
    refine XS.aloadN X0.here hx rfl (hb hby d1_0) rfl rfl ?_
    show Steps p.tables e below (s₁.setTop (mkF m 1 #[.val (.ref a0), .val (.int p1)] [(.ref a0)])) _
    refine st1.trans ?_
    show Steps p.tables e below (T1.setTop (mkF m 4 #[.val (.ref a0), .val (.int p1)] [(.int (1 : Int32))])) _
    refine XS.ifNo X1.here hx rfl (hb hby d1_4) rfl ((if0 _ _).trans (feq (by decide : ¬ ((1 : Int32) = (0 : Int32)))).1) ?_
    show Steps p.tables e below (T1.setTop (mkF m 7 #[.val (.ref a0), .val (.int p1)] [])) _
    refine XS.aloadN X1.here hx rfl (hb hby d1_7) rfl rfl ?_
    show Steps p.tables e below (T1.setTop (mkF m 8 #[.val (.ref a0), .val (.int p1)] [(.ref a0)])) _
    refine st2 _ ?_
    show Steps p.tables e below (T2.setTop (mkF m 11 #[.val (.ref a0), .val (.int p1)] [(.ref wa0_value)])) _
    refine XS.iloadN X2.here hx rfl (hb hby d1_11) rfl ?_
    show Steps p.tables e below (T2.setTop (mkF m 12 #[.val (.ref a0), .val (.int p1)] [(.int p1), (.ref wa0_value)])) _
    refine st3 _ ?_
    exact k)
  obtain ⟨fs, hr, hrun, hended, hW, hsame⟩ := X3.leave (v := some (.int ((F3 p1 x0_wa0_value x1_wa0_value x2_wa0_value x3_wa0_value x4_wa0_value x5_wa0_value x6_wa0_value x7_wa0_value x8_wa0_value x9_wa0_value x10_wa0_value x11_wa0_value x12_wa0_value x13_wa0_value x14_wa0_value x15_wa0_value).toUInt32.toUInt16.toUInt32.toInt32))) (fun h => by rw [Bd.returns] at h; cases h) hlk
  have hF : (F1 p1 x0_wa0_value x1_wa0_value x2_wa0_value x3_wa0_value x4_wa0_value x5_wa0_value x6_wa0_value x7_wa0_value x8_wa0_value x9_wa0_value x10_wa0_value x11_wa0_value x12_wa0_value x13_wa0_value x14_wa0_value x15_wa0_value) = ((F3 p1 x0_wa0_value x1_wa0_value x2_wa0_value x3_wa0_value x4_wa0_value x5_wa0_value x6_wa0_value x7_wa0_value x8_wa0_value x9_wa0_value x10_wa0_value x11_wa0_value x12_wa0_value x13_wa0_value x14_wa0_value x15_wa0_value).toUInt32.toUInt16.toUInt32.toInt32) := by rfl
  exact ⟨_, _, pre4 _ (retN X3 hx (t := .char) Bd.returns (by simp) (hb hby d1_15) hr), hrun, hended, _, _, rfl, ⟨by rw [hF], N3, e3⟩, ⟨_, rfl⟩, hW, hsame.mono (by decide) (by decide)⟩
def f6_m20 (p0 : Int32) : Int32 := (if p0 < (48 : Int32) then (-1 : Int32) else (if (57 : Int32) < p0 then (if p0 < (97 : Int32) then (if p0 < (65 : Int32) then (-1 : Int32) else (if (70 : Int32) < p0 then (-1 : Int32) else ((p0 - (65 : Int32)) + (10 : Int32)))) else (if (102 : Int32) < p0 then (-1 : Int32) else ((p0 - (97 : Int32)) + (10 : Int32)))) else (p0 - (48 : Int32))))
def F6 (p0 : Int32) : Int32 := (f6_m20 p0)
theorem ef6 (m : MethodId) (x0 : Int32) : entryFrame m #[(.int x0)] 2 = mkF m 0 #[.val (.int x0), .unset] [] := by first | (simp [entryFrame, mkF, argsToLocals, Value.category]; done) | rfl
def Q6 (Z : State) (p0 : Int32) (h0 : Heap) (n0 : Nat) (v : Option Value) (h : Heap) (L : List Loc) : Prop := v = some (.int (F6 p0)) ∧ Fr n0 L ∧ h = h0
set_option maxRecDepth 65536 in
set_option maxHeartbeats 40000000 in
theorem rm6 (l : Launch) (Z : State) (a0' : Array Value) (hw : ∀ d ∈ tables_1, d.before a0' Z = true) (ws : List Jvm.Cond) (p0 : Int32) (h0 : Heap) (n0 : Nat) (Z0 : n0 ≤ h0.size) :
    MetFree l (⟨site_21.cls, "hexDigit", "(I)I"⟩ : MethodName) (head1 (Jvm.Cond.code (⟨site_21.cls, "hexDigit", "(I)I"⟩ : MethodName) prog_50_method_15_code 2 (some .int) :: ws) ({ frames := 0, cells := 0, slots := 0, locals := 0 } : Room)) (fun a U => a = #[(.int p0)] ∧ Z.Warmed39 U.vm ∧ U.heap = h0) (fun _ _ _ _ _ => True) (fun _ U o U' => ∃ v L, o = .returned v ∧ Q6 Z p0 h0 n0 v U'.heap L ∧ FrameEnd U o U' L ({ frames := 0, cells := 0, slots := 0, locals := 0 } : Room).cells ({ frames := 0, cells := 0, slots := 0, locals := 0 } : Room).slots) := by
  refine MetFree.of_bodySF (plainFor_of_name pn3) hisR ?_
  intro p e s m args below meth c s₁ Bd hml0 hP hK
  obtain ⟨rfl, hZ, hh⟩ := hP
  have hx := Bd.exec
  have hby := Bd.bytes
  have hml : c.maxLocals = 2 := hml0
  have hown' := findClass_of_methodNamed Bd.named
  have hown : s.vm.findClass site_21.cls = some m.cls := hown'
  have hnm := (name_of_methodNamed Bd.named Bd.method).1
  have X0 : Stand p l e ({ frames := 0, cells := 0, slots := 0, locals := 0 } : Room) s m #[(.int p0)] below meth c s₁ [] 0 0 := Stand.of_body Bd
  have e0 : s₁.heap = h0 := by rw [← hh, Bd.state]; rfl
  have N0 := Fr.nil n0
  have hlk : meth.locks = false := by first | exact BodyLoose.notSynchronized Bd | exact Body.notSynchronized Bd
  have pre0 : ∀ t, Steps p.tables e below (s₁.setTop (mkF m 0 #[.val (.int p0), .unset] [])) t → Steps p.tables e below (s₁.setTop (entryFrame m #[(.int p0)] 2)) t := fun t k => castTop (ef6 m p0) k
  have pre1 : ∀ t, Steps p.tables e below (s₁.setTop (mkF m 5 #[.val (.int p0), .val (.int (-1 : Int32))] [(.int (48 : Int32)), (.int p0)])) t → Steps p.tables e below (s₁.setTop (entryFrame m #[(.int p0)] 2)) t := fun t k => pre0 t (by
    show Steps p.tables e below (s₁.setTop (mkF m 0 #[.val (.int p0), .unset] [])) _
    refine XS.iconst X0.here hx rfl (hb hby d6_0) ?_
    show Steps p.tables e below (s₁.setTop (mkF m 1 #[.val (.int p0), .unset] [(.int (-1 : Int32))])) _
    refine XS.istoreN X0.here hx rfl (hb hby d6_1) rfl (l' := #[.val (.int p0), .val (.int (-1 : Int32))]) rfl ?_
    show Steps p.tables e below (s₁.setTop (mkF m 2 #[.val (.int p0), .val (.int (-1 : Int32))] [])) _
    refine XS.iloadN X0.here hx rfl (hb hby d6_2) rfl ?_
    show Steps p.tables e below (s₁.setTop (mkF m 3 #[.val (.int p0), .val (.int (-1 : Int32))] [(.int p0)])) _
    refine XS.bipush X0.here hx rfl (hb hby d6_3) ?_
    exact k)
  obtain ⟨T2, L2, X2, e2, N2, pre2⟩ : ∃ (T' : State) (locs' : List Loc), Stand p l e ({ frames := 0, cells := 0, slots := 0, locals := 0 } : Room) s m #[(.int p0)] below meth c T' locs' 0 0 ∧ T'.heap = h0 ∧ Fr n0 locs' ∧ ∀ t, Steps p.tables e below (T'.setTop (mkF m 65 #[.val (.int p0), .val (.int (f6_m20 p0))] [])) t → Steps p.tables e below (s₁.setTop (entryFrame m #[(.int p0)] 2)) t := by
    by_cases hc5_2 : p0 < (48 : Int32)
    · have pre3 : ∀ t, Steps p.tables e below (s₁.setTop (mkF m 65 #[.val (.int p0), .val (.int (-1 : Int32))] [])) t → Steps p.tables e below (s₁.setTop (entryFrame m #[(.int p0)] 2)) t := fun t k => pre1 t (by
        show Steps p.tables e below (s₁.setTop (mkF m 5 #[.val (.int p0), .val (.int (-1 : Int32))] [(.int (48 : Int32)), (.int p0)])) _
        refine XS.icmpYes X0.here hx rfl (pc0 := 5) (pc' := 22) rfl (hb hby d6_5) rfl (tlt hc5_2).1 (by decide) (by decide) ?_
        show Steps p.tables e below (s₁.setTop (mkF m 22 #[.val (.int p0), .val (.int (-1 : Int32))] [])) _
        refine XS.iloadN X0.here hx rfl (hb hby d6_22) rfl ?_
        show Steps p.tables e below (s₁.setTop (mkF m 23 #[.val (.int p0), .val (.int (-1 : Int32))] [(.int p0)])) _
        refine XS.bipush X0.here hx rfl (hb hby d6_23) ?_
        show Steps p.tables e below (s₁.setTop (mkF m 25 #[.val (.int p0), .val (.int (-1 : Int32))] [(.int (97 : Int32)), (.int p0)])) _
        refine XS.icmpYes X0.here hx rfl (pc0 := 25) (pc' := 45) rfl (hb hby d6_25) rfl (tlt (own_xlT (own_hi1 hc5_2) (by decide))).1 (by decide) (by decide) ?_
        show Steps p.tables e below (s₁.setTop (mkF m 45 #[.val (.int p0), .val (.int (-1 : Int32))] [])) _
        refine XS.iloadN X0.here hx rfl (hb hby d6_45) rfl ?_
        show Steps p.tables e below (s₁.setTop (mkF m 46 #[.val (.int p0), .val (.int (-1 : Int32))] [(.int p0)])) _
        refine XS.bipush X0.here hx rfl (hb hby d6_46) ?_
        show Steps p.tables e below (s₁.setTop (mkF m 48 #[.val (.int p0), .val (.int (-1 : Int32))] [(.int (65 : Int32)), (.int p0)])) _
        refine XS.icmpYes X0.here hx rfl (pc0 := 48) (pc' := 65) rfl (hb hby d6_48) rfl (tlt (own_xlT (own_hi1 hc5_2) (by decide))).1 (by decide) (by decide) ?_
        exact k)
      have q_f6_m20 : f6_m20 p0 = (-1 : Int32) := by unfold f6_m20; rw [if_pos hc5_2]
      rw [q_f6_m20]
      exact ⟨s₁, _, X0, e0, N0, pre3⟩
    have pre4 : ∀ t, Steps p.tables e below (s₁.setTop (mkF m 11 #[.val (.int p0), .val (.int (-1 : Int32))] [(.int (57 : Int32)), (.int p0)])) t → Steps p.tables e below (s₁.setTop (entryFrame m #[(.int p0)] 2)) t := fun t k => pre1 t (by
      show Steps p.tables e below (s₁.setTop (mkF m 5 #[.val (.int p0), .val (.int (-1 : Int32))] [(.int (48 : Int32)), (.int p0)])) _
      refine XS.icmpNo X0.here hx rfl (hb hby d6_5) rfl (flt hc5_2).1 ?_
      show Steps p.tables e below (s₁.setTop (mkF m 8 #[.val (.int p0), .val (.int (-1 : Int32))] [])) _
      refine XS.iloadN X0.here hx rfl (hb hby d6_8) rfl ?_
      show Steps p.tables e below (s₁.setTop (mkF m 9 #[.val (.int p0), .val (.int (-1 : Int32))] [(.int p0)])) _
      refine XS.bipush X0.here hx rfl (hb hby d6_9) ?_
      exact k)
    by_cases hc11_5 : (57 : Int32) < p0
    · have pre6 : ∀ t, Steps p.tables e below (s₁.setTop (mkF m 25 #[.val (.int p0), .val (.int (-1 : Int32))] [(.int (97 : Int32)), (.int p0)])) t → Steps p.tables e below (s₁.setTop (entryFrame m #[(.int p0)] 2)) t := fun t k => pre4 t (by
        show Steps p.tables e below (s₁.setTop (mkF m 11 #[.val (.int p0), .val (.int (-1 : Int32))] [(.int (57 : Int32)), (.int p0)])) _
        refine XS.icmpYes X0.here hx rfl (pc0 := 11) (pc' := 22) rfl (hb hby d6_11) rfl (tlt hc11_5).2.2.1 (by decide) (by decide) ?_
        show Steps p.tables e below (s₁.setTop (mkF m 22 #[.val (.int p0), .val (.int (-1 : Int32))] [])) _
        refine XS.iloadN X0.here hx rfl (hb hby d6_22) rfl ?_
        show Steps p.tables e below (s₁.setTop (mkF m 23 #[.val (.int p0), .val (.int (-1 : Int32))] [(.int p0)])) _
        refine XS.bipush X0.here hx rfl (hb hby d6_23) ?_
        exact k)
      by_cases hc25_7 : p0 < (97 : Int32)
      · have pre8 : ∀ t, Steps p.tables e below (s₁.setTop (mkF m 48 #[.val (.int p0), .val (.int (-1 : Int32))] [(.int (65 : Int32)), (.int p0)])) t → Steps p.tables e below (s₁.setTop (entryFrame m #[(.int p0)] 2)) t := fun t k => pre6 t (by
          show Steps p.tables e below (s₁.setTop (mkF m 25 #[.val (.int p0), .val (.int (-1 : Int32))] [(.int (97 : Int32)), (.int p0)])) _
          refine XS.icmpYes X0.here hx rfl (pc0 := 25) (pc' := 45) rfl (hb hby d6_25) rfl (tlt hc25_7).1 (by decide) (by decide) ?_
          show Steps p.tables e below (s₁.setTop (mkF m 45 #[.val (.int p0), .val (.int (-1 : Int32))] [])) _
          refine XS.iloadN X0.here hx rfl (hb hby d6_45) rfl ?_
          show Steps p.tables e below (s₁.setTop (mkF m 46 #[.val (.int p0), .val (.int (-1 : Int32))] [(.int p0)])) _
          refine XS.bipush X0.here hx rfl (hb hby d6_46) ?_
          exact k)
        by_cases hc48_9 : p0 < (65 : Int32)
        · have pre10 : ∀ t, Steps p.tables e below (s₁.setTop (mkF m 65 #[.val (.int p0), .val (.int (-1 : Int32))] [])) t → Steps p.tables e below (s₁.setTop (entryFrame m #[(.int p0)] 2)) t := fun t k => pre8 t (by
            show Steps p.tables e below (s₁.setTop (mkF m 48 #[.val (.int p0), .val (.int (-1 : Int32))] [(.int (65 : Int32)), (.int p0)])) _
            refine XS.icmpYes X0.here hx rfl (pc0 := 48) (pc' := 65) rfl (hb hby d6_48) rfl (tlt hc48_9).1 (by decide) (by decide) ?_
            exact k)
          have q_f6_m20 : f6_m20 p0 = (-1 : Int32) := by unfold f6_m20; rw [if_neg hc5_2, if_pos hc11_5, if_pos hc25_7, if_pos hc48_9]
          rw [q_f6_m20]
          exact ⟨s₁, _, X0, e0, N0, pre10⟩
        have pre11 : ∀ t, Steps p.tables e below (s₁.setTop (mkF m 54 #[.val (.int p0), .val (.int (-1 : Int32))] [(.int (70 : Int32)), (.int p0)])) t → Steps p.tables e below (s₁.setTop (entryFrame m #[(.int p0)] 2)) t := fun t k => pre8 t (by
          show Steps p.tables e below (s₁.setTop (mkF m 48 #[.val (.int p0), .val (.int (-1 : Int32))] [(.int (65 : Int32)), (.int p0)])) _
          refine XS.icmpNo X0.here hx rfl (hb hby d6_48) rfl (flt hc48_9).1 ?_
          show Steps p.tables e below (s₁.setTop (mkF m 51 #[.val (.int p0), .val (.int (-1 : Int32))] [])) _
          refine XS.iloadN X0.here hx rfl (hb hby d6_51) rfl ?_
          show Steps p.tables e below (s₁.setTop (mkF m 52 #[.val (.int p0), .val (.int (-1 : Int32))] [(.int p0)])) _
          refine XS.bipush X0.here hx rfl (hb hby d6_52) ?_
          exact k)
        by_cases hc54_12 : (70 : Int32) < p0
        · have pre13 : ∀ t, Steps p.tables e below (s₁.setTop (mkF m 65 #[.val (.int p0), .val (.int (-1 : Int32))] [])) t → Steps p.tables e below (s₁.setTop (entryFrame m #[(.int p0)] 2)) t := fun t k => pre11 t (by
            show Steps p.tables e below (s₁.setTop (mkF m 54 #[.val (.int p0), .val (.int (-1 : Int32))] [(.int (70 : Int32)), (.int p0)])) _
            refine XS.icmpYes X0.here hx rfl (pc0 := 54) (pc' := 65) rfl (hb hby d6_54) rfl (tlt hc54_12).2.2.1 (by decide) (by decide) ?_
            exact k)
          have q_f6_m20 : f6_m20 p0 = (-1 : Int32) := by unfold f6_m20; rw [if_neg hc5_2, if_pos hc11_5, if_pos hc25_7, if_neg hc48_9, if_pos hc54_12]
          rw [q_f6_m20]
          exact ⟨s₁, _, X0, e0, N0, pre13⟩
        have pre14 : ∀ t, Steps p.tables e below (s₁.setTop (mkF m 65 #[.val (.int p0), .val (.int ((p0 - (65 : Int32)) + (10 : Int32)))] [])) t → Steps p.tables e below (s₁.setTop (entryFrame m #[(.int p0)] 2)) t := fun t k => pre11 t (by
          show Steps p.tables e below (s₁.setTop (mkF m 54 #[.val (.int p0), .val (.int (-1 : Int32))] [(.int (70 : Int32)), (.int p0)])) _
          refine XS.icmpNo X0.here hx rfl (hb hby d6_54) rfl (flt hc54_12).2.2.1 ?_
          show Steps p.tables e below (s₁.setTop (mkF m 57 #[.val (.int p0), .val (.int (-1 : Int32))] [])) _
          refine XS.iloadN X0.here hx rfl (hb hby d6_57) rfl ?_
          show Steps p.tables e below (s₁.setTop (mkF m 58 #[.val (.int p0), .val (.int (-1 : Int32))] [(.int p0)])) _
          refine XS.bipush X0.here hx rfl (hb hby d6_58) ?_
          show Steps p.tables e below (s₁.setTop (mkF m 60 #[.val (.int p0), .val (.int (-1 : Int32))] [(.int (65 : Int32)), (.int p0)])) _
          refine XS.isub X0.here hx rfl (hb hby d6_60) rfl ?_
          show Steps p.tables e below (s₁.setTop (mkF m 61 #[.val (.int p0), .val (.int (-1 : Int32))] [(.int (p0 - (65 : Int32)))])) _
          refine XS.bipush X0.here hx rfl (hb hby d6_61) ?_
          show Steps p.tables e below (s₁.setTop (mkF m 63 #[.val (.int p0), .val (.int (-1 : Int32))] [(.int (10 : Int32)), (.int (p0 - (65 : Int32)))])) _
          refine XS.iadd X0.here hx rfl (hb hby d6_63) rfl ?_
          show Steps p.tables e below (s₁.setTop (mkF m 64 #[.val (.int p0), .val (.int (-1 : Int32))] [(.int ((p0 - (65 : Int32)) + (10 : Int32)))])) _
          refine XS.istoreN X0.here hx rfl (hb hby d6_64) rfl (l' := #[.val (.int p0), .val (.int ((p0 - (65 : Int32)) + (10 : Int32)))]) rfl ?_
          exact k)
        have q_f6_m20 : f6_m20 p0 = ((p0 - (65 : Int32)) + (10 : Int32)) := by unfold f6_m20; rw [if_neg hc5_2, if_pos hc11_5, if_pos hc25_7, if_neg hc48_9, if_neg hc54_12]
        rw [q_f6_m20]
        exact ⟨s₁, _, X0, e0, N0, pre14⟩
      have pre15 : ∀ t, Steps p.tables e below (s₁.setTop (mkF m 31 #[.val (.int p0), .val (.int (-1 : Int32))] [(.int (102 : Int32)), (.int p0)])) t → Steps p.tables e below (s₁.setTop (entryFrame m #[(.int p0)] 2)) t := fun t k => pre6 t (by
        show Steps p.tables e below (s₁.setTop (mkF m 25 #[.val (.int p0), .val (.int (-1 : Int32))] [(.int (97 : Int32)), (.int p0)])) _
        refine XS.icmpNo X0.here hx rfl (hb hby d6_25) rfl (flt hc25_7).1 ?_
        show Steps p.tables e below (s₁.setTop (mkF m 28 #[.val (.int p0), .val (.int (-1 : Int32))] [])) _
        refine XS.iloadN X0.here hx rfl (hb hby d6_28) rfl ?_
        show Steps p.tables e below (s₁.setTop (mkF m 29 #[.val (.int p0), .val (.int (-1 : Int32))] [(.int p0)])) _
        refine XS.bipush X0.here hx rfl (hb hby d6_29) ?_
        exact k)
      by_cases hc31_16 : (102 : Int32) < p0
      · have pre17 : ∀ t, Steps p.tables e below (s₁.setTop (mkF m 65 #[.val (.int p0), .val (.int (-1 : Int32))] [])) t → Steps p.tables e below (s₁.setTop (entryFrame m #[(.int p0)] 2)) t := fun t k => pre15 t (by
          show Steps p.tables e below (s₁.setTop (mkF m 31 #[.val (.int p0), .val (.int (-1 : Int32))] [(.int (102 : Int32)), (.int p0)])) _
          refine XS.icmpYes X0.here hx rfl (pc0 := 31) (pc' := 45) rfl (hb hby d6_31) rfl (tlt hc31_16).2.2.1 (by decide) (by decide) ?_
          show Steps p.tables e below (s₁.setTop (mkF m 45 #[.val (.int p0), .val (.int (-1 : Int32))] [])) _
          refine XS.iloadN X0.here hx rfl (hb hby d6_45) rfl ?_
          show Steps p.tables e below (s₁.setTop (mkF m 46 #[.val (.int p0), .val (.int (-1 : Int32))] [(.int p0)])) _
          refine XS.bipush X0.here hx rfl (hb hby d6_46) ?_
          show Steps p.tables e below (s₁.setTop (mkF m 48 #[.val (.int p0), .val (.int (-1 : Int32))] [(.int (65 : Int32)), (.int p0)])) _
          refine XS.icmpNo X0.here hx rfl (hb hby d6_48) rfl (flt (own_xlF (own_lo2 hc31_16) (by decide))).1 ?_
          show Steps p.tables e below (s₁.setTop (mkF m 51 #[.val (.int p0), .val (.int (-1 : Int32))] [])) _
          refine XS.iloadN X0.here hx rfl (hb hby d6_51) rfl ?_
          show Steps p.tables e below (s₁.setTop (mkF m 52 #[.val (.int p0), .val (.int (-1 : Int32))] [(.int p0)])) _
          refine XS.bipush X0.here hx rfl (hb hby d6_52) ?_
          show Steps p.tables e below (s₁.setTop (mkF m 54 #[.val (.int p0), .val (.int (-1 : Int32))] [(.int (70 : Int32)), (.int p0)])) _
          refine XS.icmpYes X0.here hx rfl (pc0 := 54) (pc' := 65) rfl (hb hby d6_54) rfl (tlt (own_lxT (own_lo2 hc31_16) (by decide))).2.2.1 (by decide) (by decide) ?_
          exact k)
        have q_f6_m20 : f6_m20 p0 = (-1 : Int32) := by unfold f6_m20; rw [if_neg hc5_2, if_pos hc11_5, if_neg hc25_7, if_pos hc31_16]
        rw [q_f6_m20]
        exact ⟨s₁, _, X0, e0, N0, pre17⟩
      have pre18 : ∀ t, Steps p.tables e below (s₁.setTop (mkF m 65 #[.val (.int p0), .val (.int ((p0 - (97 : Int32)) + (10 : Int32)))] [])) t → Steps p.tables e below (s₁.setTop (entryFrame m #[(.int p0)] 2)) t := fun t k => pre15 t (by
        show Steps p.tables e below (s₁.setTop (mkF m 31 #[.val (.int p0), .val (.int (-1 : Int32))] [(.int (102 : Int32)), (.int p0)])) _
        refine XS.icmpNo X0.here hx rfl (hb hby d6_31) rfl (flt hc31_16).2.2.1 ?_
        show Steps p.tables e below (s₁.setTop (mkF m 34 #[.val (.int p0), .val (.int (-1 : Int32))] [])) _
        refine XS.iloadN X0.here hx rfl (hb hby d6_34) rfl ?_
        show Steps p.tables e below (s₁.setTop (mkF m 35 #[.val (.int p0), .val (.int (-1 : Int32))] [(.int p0)])) _
        refine XS.bipush X0.here hx rfl (hb hby d6_35) ?_
        show Steps p.tables e below (s₁.setTop (mkF m 37 #[.val (.int p0), .val (.int (-1 : Int32))] [(.int (97 : Int32)), (.int p0)])) _
        refine XS.isub X0.here hx rfl (hb hby d6_37) rfl ?_
        show Steps p.tables e below (s₁.setTop (mkF m 38 #[.val (.int p0), .val (.int (-1 : Int32))] [(.int (p0 - (97 : Int32)))])) _
        refine XS.bipush X0.here hx rfl (hb hby d6_38) ?_
        show Steps p.tables e below (s₁.setTop (mkF m 40 #[.val (.int p0), .val (.int (-1 : Int32))] [(.int (10 : Int32)), (.int (p0 - (97 : Int32)))])) _
        refine XS.iadd X0.here hx rfl (hb hby d6_40) rfl ?_
        show Steps p.tables e below (s₁.setTop (mkF m 41 #[.val (.int p0), .val (.int (-1 : Int32))] [(.int ((p0 - (97 : Int32)) + (10 : Int32)))])) _
        refine XS.istoreN X0.here hx rfl (hb hby d6_41) rfl (l' := #[.val (.int p0), .val (.int ((p0 - (97 : Int32)) + (10 : Int32)))]) rfl ?_
        show Steps p.tables e below (s₁.setTop (mkF m 42 #[.val (.int p0), .val (.int ((p0 - (97 : Int32)) + (10 : Int32)))] [])) _
        refine XS.goto X0.here hx rfl (pc0 := 42) (pc' := 65) rfl (hb hby d6_42) (by decide) (by decide) ?_
        exact k)
      have q_f6_m20 : f6_m20 p0 = ((p0 - (97 : Int32)) + (10 : Int32)) := by unfold f6_m20; rw [if_neg hc5_2, if_pos hc11_5, if_neg hc25_7, if_neg hc31_16]
      rw [q_f6_m20]
      exact ⟨s₁, _, X0, e0, N0, pre18⟩
    have pre19 : ∀ t, Steps p.tables e below (s₁.setTop (mkF m 65 #[.val (.int p0), .val (.int (p0 - (48 : Int32)))] [])) t → Steps p.tables e below (s₁.setTop (entryFrame m #[(.int p0)] 2)) t := fun t k => pre4 t (by
      show Steps p.tables e below (s₁.setTop (mkF m 11 #[.val (.int p0), .val (.int (-1 : Int32))] [(.int (57 : Int32)), (.int p0)])) _
      refine XS.icmpNo X0.here hx rfl (hb hby d6_11) rfl (flt hc11_5).2.2.1 ?_
      show Steps p.tables e below (s₁.setTop (mkF m 14 #[.val (.int p0), .val (.int (-1 : Int32))] [])) _
      refine XS.iloadN X0.here hx rfl (hb hby d6_14) rfl ?_
      show Steps p.tables e below (s₁.setTop (mkF m 15 #[.val (.int p0), .val (.int (-1 : Int32))] [(.int p0)])) _
      refine XS.bipush X0.here hx rfl (hb hby d6_15) ?_
      show Steps p.tables e below (s₁.setTop (mkF m 17 #[.val (.int p0), .val (.int (-1 : Int32))] [(.int (48 : Int32)), (.int p0)])) _
      refine XS.isub X0.here hx rfl (hb hby d6_17) rfl ?_
      show Steps p.tables e below (s₁.setTop (mkF m 18 #[.val (.int p0), .val (.int (-1 : Int32))] [(.int (p0 - (48 : Int32)))])) _
      refine XS.istoreN X0.here hx rfl (hb hby d6_18) rfl (l' := #[.val (.int p0), .val (.int (p0 - (48 : Int32)))]) rfl ?_
      show Steps p.tables e below (s₁.setTop (mkF m 19 #[.val (.int p0), .val (.int (p0 - (48 : Int32)))] [])) _
      refine XS.goto X0.here hx rfl (pc0 := 19) (pc' := 65) rfl (hb hby d6_19) (by decide) (by decide) ?_
      exact k)
    have q_f6_m20 : f6_m20 p0 = (p0 - (48 : Int32)) := by unfold f6_m20; rw [if_neg hc5_2, if_neg hc11_5]
    rw [q_f6_m20]
    exact ⟨s₁, _, X0, e0, N0, pre19⟩
  have pre21 : ∀ t, Steps p.tables e below (T2.setTop (mkF m 66 #[.val (.int p0), .val (.int (f6_m20 p0))] [(.int (f6_m20 p0))])) t → Steps p.tables e below (s₁.setTop (entryFrame m #[(.int p0)] 2)) t := fun t k => pre2 t (by
    show Steps p.tables e below (T2.setTop (mkF m 65 #[.val (.int p0), .val (.int (f6_m20 p0))] [])) _
    refine XS.iloadN X2.here hx rfl (hb hby d6_65) rfl ?_
    exact k)
  obtain ⟨fs, hr, hrun, hended, hW, hsame⟩ := X2.leave (v := some (.int (f6_m20 p0))) (fun h => by rw [Bd.returns] at h; cases h) hlk
  have hF : (F6 p0) = (f6_m20 p0) := by rfl
  exact ⟨_, _, pre21 _ (retI X2 hx Bd.returns (hb hby d6_66) hr), hrun, hended, _, _, rfl, ⟨by rw [hF], N2, e2⟩, ⟨_, rfl⟩, hW, hsame.mono (by decide) (by decide)⟩
def F7 (p0 : Int32) : Int32 := (if (F6 p0) = (-1 : Int32) then (1 : Int32) else (if (F6 p0) < (0 : Int32) then (0 : Int32) else (if (15 : Int32) < (F6 p0) then (0 : Int32) else (if p0 = (F1 (F6 p0) (48 : Int32) (49 : Int32) (50 : Int32) (51 : Int32) (52 : Int32) (53 : Int32) (54 : Int32) (55 : Int32) (56 : Int32) (57 : Int32) (97 : Int32) (98 : Int32) (99 : Int32) (100 : Int32) (101 : Int32) (102 : Int32)) then (1 : Int32) else (if p0 = (F1 (F6 p0) (48 : Int32) (49 : Int32) (50 : Int32) (51 : Int32) (52 : Int32) (53 : Int32) (54 : Int32) (55 : Int32) (56 : Int32) (57 : Int32) (65 : Int32) (66 : Int32) (67 : Int32) (68 : Int32) (69 : Int32) (70 : Int32)) then (1 : Int32) else (0 : Int32))))))
theorem ef7 (m : MethodId) (x0 : Int32) : entryFrame m #[(.int x0)] 2 = mkF m 0 #[.val (.int x0), .unset] [] := by first | (simp [entryFrame, mkF, argsToLocals, Value.category]; done) | rfl
def Q7 (Z : State) (p0 : Int32) (sA : Addr) (sB : Addr) (wsA_value : Addr) (wsB_value : Addr) (k_wsA_value : ClassId) (k_wsB_value : ClassId) (s_COMPACT_STRINGS : Int32) (s_SIOOBE_FORMATTER : Value) (h0 : Heap) (n0 : Nat) (v : Option Value) (h : Heap) (L : List Loc) : Prop := v = some (.int (F7 p0)) ∧ Fr n0 L ∧ h = h0
set_option maxRecDepth 65536 in
set_option maxHeartbeats 40000000 in
theorem rm7 (l : Launch) (Z : State) (a0' : Array Value) (hw : ∀ d ∈ tables_1, d.before a0' Z = true) (ws : List Jvm.Cond) (p0 : Int32) (sA : Addr) (sB : Addr) (wsA_value : Addr) (wsB_value : Addr) (k_wsA_value : ClassId) (k_wsB_value : ClassId) (s_COMPACT_STRINGS : Int32) (s_SIOOBE_FORMATTER : Value) (h0 : Heap) (n0 : Nat) (Z0 : n0 ≤ h0.size) (L_sA : Lit Z x.cls 7 sA) (L_sB : Lit Z x.cls 15 sB) (V_wsA_value : Arv Z h0 wsA_value k_wsA_value .byte (16 : Int32) [(.int (48 : Int32)), (.int (49 : Int32)), (.int (50 : Int32)), (.int (51 : Int32)), (.int (52 : Int32)), (.int (53 : Int32)), (.int (54 : Int32)), (.int (55 : Int32)), (.int (56 : Int32)), (.int (57 : Int32)), (.int (97 : Int32)), (.int (98 : Int32)), (.int (99 : Int32)), (.int (100 : Int32)), (.int (101 : Int32)), (.int (102 : Int32))] (.int 0)) (E_sA : Exa Z h0 sA "java/lang/String") (V_wsB_value : Arv Z h0 wsB_value k_wsB_value .byte (16 : Int32) [(.int (48 : Int32)), (.int (49 : Int32)), (.int (50 : Int32)), (.int (51 : Int32)), (.int (52 : Int32)), (.int (53 : Int32)), (.int (54 : Int32)), (.int (55 : Int32)), (.int (56 : Int32)), (.int (57 : Int32)), (.int (65 : Int32)), (.int (66 : Int32)), (.int (67 : Int32)), (.int (68 : Int32)), (.int (69 : Int32)), (.int (70 : Int32))] (.int 0)) (E_sB : Exa Z h0 sB "java/lang/String") (F_wsA_value : Fld Z h0 sA "java/lang/String" "value" "[B" (.ref wsA_value)) (F_wsA_coder : Fld Z h0 sA "java/lang/String" "coder" "B" (.int (0 : Int32))) (F_wsB_value : Fld Z h0 sB "java/lang/String" "value" "[B" (.ref wsB_value)) (F_wsB_coder : Fld Z h0 sB "java/lang/String" "coder" "B" (.int (0 : Int32))) (OLD0 : Old Z n0 h0) (S_s_COMPACT_STRINGS : Sta Z Z.heap "java/lang/String" "COMPACT_STRINGS" "Z" (.int s_COMPACT_STRINGS)) (S_s_SIOOBE_FORMATTER : Sta Z Z.heap "jdk/internal/util/Preconditions" "SIOOBE_FORMATTER" "Ljava/util/function/BiFunction;" s_SIOOBE_FORMATTER) (hu_s_SIOOBE_FORMATTER : s_SIOOBE_FORMATTER.isRef = true) (hp28_0 : ¬ (s_COMPACT_STRINGS = (0 : Int32))) :
    MetFree l (⟨x.cls, "spelled", "(I)Z"⟩ : MethodName) (head1 (Jvm.Cond.code (⟨x.cls, "spelled", "(I)Z"⟩ : MethodName) method_3_code 2 (some .boolean) :: ws) ({ frames := 4, cells := 0, slots := 0, locals := 54 } : Room)) (fun a U => a = #[(.int p0)] ∧ Z.Warmed39 U.vm ∧ U.heap = h0) (fun _ _ _ _ _ => True) (fun _ U o U' => ∃ v L, o = .returned v ∧ Q7 Z p0 sA sB wsA_value wsB_value k_wsA_value k_wsB_value s_COMPACT_STRINGS s_SIOOBE_FORMATTER h0 n0 v U'.heap L ∧ FrameEnd U o U' L ({ frames := 4, cells := 0, slots := 0, locals := 54 } : Room).cells ({ frames := 4, cells := 0, slots := 0, locals := 54 } : Room).slots) := by
  refine MetFree.of_bodySF (plainFor_of_name pn4) hisR ?_
  intro p e s m args below meth c s₁ Bd hml0 hP hK
  obtain ⟨rfl, hZ, hh⟩ := hP
  have hx := Bd.exec
  have hby := Bd.bytes
  have hml : c.maxLocals = 2 := hml0
  have hown' := findClass_of_methodNamed Bd.named
  have hown : s.vm.findClass x.cls = some m.cls := hown'
  have hnm := (name_of_methodNamed Bd.named Bd.method).1
  have X0 : Stand p l e ({ frames := 4, cells := 0, slots := 0, locals := 54 } : Room) s m #[(.int p0)] below meth c s₁ [] 0 0 := Stand.of_body Bd
  have e0 : s₁.heap = h0 := by rw [← hh, Bd.state]; rfl
  have N0 := Fr.nil n0
  have hlk : meth.locks = false := by first | exact BodyLoose.notSynchronized Bd | exact Body.notSynchronized Bd
  have pre0 : ∀ t, Steps p.tables e below (s₁.setTop (mkF m 0 #[.val (.int p0), .unset] [])) t → Steps p.tables e below (s₁.setTop (entryFrame m #[(.int p0)] 2)) t := fun t k => castTop (ef7 m p0) k
  obtain ⟨_, _, ⟨T1, L1, k1, n1⟩, -, X1, ⟨Lc1, hQ1, l1, y1, z1⟩, st1⟩ := Jvm.LawKit.callS X0 hx (y := (⟨site_21.cls, "hexDigit", "(I)I"⟩ : MethodName)) hown (mvT hZ (hw _ (List.mem_of_getElem? (i := 34) rfl))) (mvT hZ (hw _ (List.mem_of_getElem? (i := 35) rfl))) (mvT hZ (hw _ (List.mem_of_getElem? (i := 36) rfl))) (mvT hZ (hw _ (List.mem_of_getElem? (i := 37) rfl))) (by decide) (backOf (W := 0) (rm6 l Z a0' hw [] p0 h0 n0 Z0) hZ (hw _ (List.mem_of_getElem? (i := 37) rfl)) (hw _ (List.mem_of_getElem? (i := 36) rfl)) (by decide) (by decide)) (g := (mkF m 1 #[.val (.int p0), .unset] [(.int p0)])) rfl (by rw [hml]; rfl) (argsL := [(.int p0)]) (rest := []) (lenOf pd4 rfl) rfl (by show 2 * 0 + _ ≤ _; exact Nat.le_of_eq rfl) (hb hby d7_1) (fun _ _ => ⟨rfl, e0, (by decide : 0 + 0 ≤ _), (by decide : 0 + 0 ≤ _)⟩)
  dsimp only [Pt.U, Pt.locs, Pt.cells, Pt.slots] at X1 l1 y1 z1 st1 hQ1
  subst l1 y1 z1
  obtain ⟨rfl, N1q, e1⟩ := hQ1
  have N1 := Fr.app N0 N1q
  have pre2 : ∀ t, Steps p.tables e below (T1.setTop (mkF m 7 #[.val (.int p0), .val (.int (F6 p0))] [(.int (-1 : Int32)), (.int (F6 p0))])) t → Steps p.tables e below (s₁.setTop (entryFrame m #[(.int p0)] 2)) t := fun t k => pre0 t (by
    show Steps p.tables e below (s₁.setTop (mkF m 0 #[.val (.int p0), .unset] [])) _
    refine XS.iloadN X0.here hx rfl (hb hby d7_0) rfl ?_
    show Steps p.tables e below (s₁.setTop (mkF m 1 #[.val (.int p0), .unset] [(.int p0)])) _
    refine st1 _ ?_
    show Steps p.tables e below (T1.setTop (mkF m 4 #[.val (.int p0), .unset] [(.int (F6 p0))])) _
    refine XS.istoreN X1.here hx rfl (hb hby d7_4) rfl (l' := #[.val (.int p0), .val (.int (F6 p0))]) rfl ?_
    show Steps p.tables e below (T1.setTop (mkF m 5 #[.val (.int p0), .val (.int (F6 p0))] [])) _
    refine XS.iloadN X1.here hx rfl (hb hby d7_5) rfl ?_
    show Steps p.tables e below (T1.setTop (mkF m 6 #[.val (.int p0), .val (.int (F6 p0))] [(.int (F6 p0))])) _
    refine XS.iconst X1.here hx rfl (hb hby d7_6) ?_
    exact k)
  by_cases hc7_3 : (F6 p0) = (-1 : Int32)
  · have pre4 : ∀ t, Steps p.tables e below (T1.setTop (mkF m 11 #[.val (.int p0), .val (.int (F6 p0))] [(.int (1 : Int32))])) t → Steps p.tables e below (s₁.setTop (entryFrame m #[(.int p0)] 2)) t := fun t k => pre2 t (by
      show Steps p.tables e below (T1.setTop (mkF m 7 #[.val (.int p0), .val (.int (F6 p0))] [(.int (-1 : Int32)), (.int (F6 p0))])) _
      refine XS.icmpNo X1.here hx rfl (hb hby d7_7) rfl (teq hc7_3).2 ?_
      show Steps p.tables e below (T1.setTop (mkF m 10 #[.val (.int p0), .val (.int (F6 p0))] [])) _
      refine XS.iconst X1.here hx rfl (hb hby d7_10) ?_
      exact k)
    obtain ⟨fs, hr, hrun, hended, hW, hsame⟩ := X1.leave (v := some (.int (1 : Int32))) (fun h => by rw [Bd.returns] at h; cases h) hlk
    have hF : (F7 p0) = (1 : Int32) := by unfold F7; rw [if_pos hc7_3]
    exact ⟨_, _, pre4 _ (retN X1 hx (t := .boolean) Bd.returns (by simp) (hb hby d7_11) hr), hrun, hended, _, _, rfl, ⟨by rw [hF], N1, e1⟩, ⟨_, rfl⟩, hW, hsame.mono (by decide) (by decide)⟩
  have pre5 : ∀ t, Steps p.tables e below (T1.setTop (mkF m 13 #[.val (.int p0), .val (.int (F6 p0))] [(.int (F6 p0))])) t → Steps p.tables e below (s₁.setTop (entryFrame m #[(.int p0)] 2)) t := fun t k => pre2 t (by
    show Steps p.tables e below (T1.setTop (mkF m 7 #[.val (.int p0), .val (.int (F6 p0))] [(.int (-1 : Int32)), (.int (F6 p0))])) _
    refine XS.icmpYes X1.here hx rfl (pc0 := 7) (pc' := 12) rfl (hb hby d7_7) rfl (feq hc7_3).2 (by decide) (by decide) ?_
    show Steps p.tables e below (T1.setTop (mkF m 12 #[.val (.int p0), .val (.int (F6 p0))] [])) _
    refine XS.iloadN X1.here hx rfl (hb hby d7_12) rfl ?_
    exact k)
  by_cases hc13_6 : (F6 p0) < (0 : Int32)
  · have pre7 : ∀ t, Steps p.tables e below (T1.setTop (mkF m 23 #[.val (.int p0), .val (.int (F6 p0))] [(.int (0 : Int32))])) t → Steps p.tables e below (s₁.setTop (entryFrame m #[(.int p0)] 2)) t := fun t k => pre5 t (by
      show Steps p.tables e below (T1.setTop (mkF m 13 #[.val (.int p0), .val (.int (F6 p0))] [(.int (F6 p0))])) _
      refine XS.ifYes X1.here hx rfl (pc0 := 13) (pc' := 22) rfl (hb hby d7_13) rfl ((if0 _ _).trans (tlt hc13_6).1) (by decide) (by decide) ?_
      show Steps p.tables e below (T1.setTop (mkF m 22 #[.val (.int p0), .val (.int (F6 p0))] [])) _
      refine XS.iconst X1.here hx rfl (hb hby d7_22) ?_
      exact k)
    obtain ⟨fs, hr, hrun, hended, hW, hsame⟩ := X1.leave (v := some (.int (0 : Int32))) (fun h => by rw [Bd.returns] at h; cases h) hlk
    have hF : (F7 p0) = (0 : Int32) := by unfold F7; rw [if_neg hc7_3, if_pos hc13_6]
    exact ⟨_, _, pre7 _ (retN X1 hx (t := .boolean) Bd.returns (by simp) (hb hby d7_23) hr), hrun, hended, _, _, rfl, ⟨by rw [hF], N1, e1⟩, ⟨_, rfl⟩, hW, hsame.mono (by decide) (by decide)⟩
  have pre8 : ∀ t, Steps p.tables e below (T1.setTop (mkF m 19 #[.val (.int p0), .val (.int (F6 p0))] [(.int (15 : Int32)), (.int (F6 p0))])) t → Steps p.tables e below (s₁.setTop (entryFrame m #[(.int p0)] 2)) t := fun t k => pre5 t (by
    show Steps p.tables e below (T1.setTop (mkF m 13 #[.val (.int p0), .val (.int (F6 p0))] [(.int (F6 p0))])) _
    refine XS.ifNo X1.here hx rfl (hb hby d7_13) rfl ((if0 _ _).trans (flt hc13_6).1) ?_
    show Steps p.tables e below (T1.setTop (mkF m 16 #[.val (.int p0), .val (.int (F6 p0))] [])) _
    refine XS.iloadN X1.here hx rfl (hb hby d7_16) rfl ?_
    show Steps p.tables e below (T1.setTop (mkF m 17 #[.val (.int p0), .val (.int (F6 p0))] [(.int (F6 p0))])) _
    refine XS.bipush X1.here hx rfl (hb hby d7_17) ?_
    exact k)
  by_cases hc19_9 : (15 : Int32) < (F6 p0)
  · have pre10 : ∀ t, Steps p.tables e below (T1.setTop (mkF m 23 #[.val (.int p0), .val (.int (F6 p0))] [(.int (0 : Int32))])) t → Steps p.tables e below (s₁.setTop (entryFrame m #[(.int p0)] 2)) t := fun t k => pre8 t (by
      show Steps p.tables e below (T1.setTop (mkF m 19 #[.val (.int p0), .val (.int (F6 p0))] [(.int (15 : Int32)), (.int (F6 p0))])) _
      refine XS.icmpNo X1.here hx rfl (hb hby d7_19) rfl (tlt hc19_9).2.2.2 ?_
      show Steps p.tables e below (T1.setTop (mkF m 22 #[.val (.int p0), .val (.int (F6 p0))] [])) _
      refine XS.iconst X1.here hx rfl (hb hby d7_22) ?_
      exact k)
    obtain ⟨fs, hr, hrun, hended, hW, hsame⟩ := X1.leave (v := some (.int (0 : Int32))) (fun h => by rw [Bd.returns] at h; cases h) hlk
    have hF : (F7 p0) = (0 : Int32) := by unfold F7; rw [if_neg hc7_3, if_neg hc13_6, if_pos hc19_9]
    exact ⟨_, _, pre10 _ (retN X1 hx (t := .boolean) Bd.returns (by simp) (hb hby d7_23) hr), hrun, hended, _, _, rfl, ⟨by rw [hF], N1, e1⟩, ⟨_, rfl⟩, hW, hsame.mono (by decide) (by decide)⟩
  obtain ⟨cq11, kq11, q11a, q11b, q11c⟩ := isOf hZ e1 E_sA
  obtain ⟨_, _, ⟨T11, L11, k11, n11⟩, -, X11, ⟨Lc11, hQ11, l11, y11, z11⟩, st11⟩ := X1.virtualBack hx (y := (⟨"java/lang/String", "charAt", "(I)C"⟩ : MethodName)) (z := (⟨"java/lang/String", "charAt", "(I)C"⟩ : MethodName)) hown (mvT hZ (hw _ (List.mem_of_getElem? (i := 8) rfl))) (mvT hZ (hw _ (List.mem_of_getElem? (i := 9) rfl))) (notFace_of_selects (args := #[]) (mvT hZ (hw _ (List.mem_of_getElem? (i := 11) rfl)))) (mvT hZ (hw _ (List.mem_of_getElem? (i := 11) rfl))) (mvT hZ (hw _ (List.mem_of_getElem? (i := 10) rfl))) (by decide) (backOf (W := 1) (rm1 l Z a0' hw [] sA (F6 p0) wsA_value (48 : Int32) (49 : Int32) (50 : Int32) (51 : Int32) (52 : Int32) (53 : Int32) (54 : Int32) (55 : Int32) (56 : Int32) (57 : Int32) (97 : Int32) (98 : Int32) (99 : Int32) (100 : Int32) (101 : Int32) (102 : Int32) k_wsA_value s_COMPACT_STRINGS s_SIOOBE_FORMATTER h0 n0 Z0 E_sA V_wsA_value F_wsA_coder F_wsA_value OLD0 S_s_COMPACT_STRINGS S_s_SIOOBE_FORMATTER hu_s_SIOOBE_FORMATTER hp28_0 hc13_6 (own_xlT (own_hi2 hc19_9) (by decide)) ⟨hc13_6, (own_xlT (own_hi2 hc19_9) (by decide))⟩) hZ (hw _ (List.mem_of_getElem? (i := 12) rfl)) (hw _ (List.mem_of_getElem? (i := 1) rfl)) (by decide) (by decide)) q11a q11c (g := (mkF m 28 #[.val (.int p0), .val (.int (F6 p0))] [(.int (F6 p0)), (.ref sA), (.int p0)])) rfl (by rw [hml]; rfl) (Steps.refl _) (argsL := [(.int (F6 p0))]) (rest := [(.int p0)]) (lenOf pd5 rfl) rfl (by show 2 * 0 + _ ≤ _; exact Nat.le_of_eq rfl) (hb hby d7_28) (fun _ _ => ⟨rfl, e1, (by decide : 0 + 0 ≤ _), (by decide : 0 + 0 ≤ _)⟩)
  dsimp only [Pt.U, Pt.locs, Pt.cells, Pt.slots] at X11 l11 y11 z11 st11 hQ11
  subst l11 y11 z11
  obtain ⟨rfl, N11q, e11⟩ := hQ11
  have N11 := Fr.app N1 N11q
  have pre12 : ∀ t, Steps p.tables e below (T11.setTop (mkF m 31 #[.val (.int p0), .val (.int (F6 p0))] [(.int (F1 (F6 p0) (48 : Int32) (49 : Int32) (50 : Int32) (51 : Int32) (52 : Int32) (53 : Int32) (54 : Int32) (55 : Int32) (56 : Int32) (57 : Int32) (97 : Int32) (98 : Int32) (99 : Int32) (100 : Int32) (101 : Int32) (102 : Int32))), (.int p0)])) t → Steps p.tables e below (s₁.setTop (entryFrame m #[(.int p0)] 2)) t := fun t k => pre8 t (by
    show Steps p.tables e below (T1.setTop (mkF m 19 #[.val (.int p0), .val (.int (F6 p0))] [(.int (15 : Int32)), (.int (F6 p0))])) _
    refine XS.icmpYes X1.here hx rfl (pc0 := 19) (pc' := 24) rfl (hb hby d7_19) rfl (flt hc19_9).2.2.2 (by decide) (by decide) ?_
    show Steps p.tables e below (T1.setTop (mkF m 24 #[.val (.int p0), .val (.int (F6 p0))] [])) _
    refine XS.iloadN X1.here hx rfl (hb hby d7_24) rfl ?_
    show Steps p.tables e below (T1.setTop (mkF m 25 #[.val (.int p0), .val (.int (F6 p0))] [(.int p0)])) _
    refine ldcR (Z := Z) (a0 := a0') X1 hx hZ hown (refOfLit (hw _ (List.mem_of_getElem? (i := 0) rfl)) L_sA) L_sA (g := (mkF m 25 #[.val (.int p0), .val (.int (F6 p0))] [(.int p0)])) rfl (hb hby d7_25) _ ?_
    show Steps p.tables e below (T1.setTop (mkF m 27 #[.val (.int p0), .val (.int (F6 p0))] [(.ref sA), (.int p0)])) _
    refine XS.iloadN X1.here hx rfl (hb hby d7_27) rfl ?_
    show Steps p.tables e below (T1.setTop (mkF m 28 #[.val (.int p0), .val (.int (F6 p0))] [(.int (F6 p0)), (.ref sA), (.int p0)])) _
    refine st11.trans ?_
    exact k)
  by_cases hc31_13 : p0 = (F1 (F6 p0) (48 : Int32) (49 : Int32) (50 : Int32) (51 : Int32) (52 : Int32) (53 : Int32) (54 : Int32) (55 : Int32) (56 : Int32) (57 : Int32) (97 : Int32) (98 : Int32) (99 : Int32) (100 : Int32) (101 : Int32) (102 : Int32))
  · have pre14 : ∀ t, Steps p.tables e below (T11.setTop (mkF m 49 #[.val (.int p0), .val (.int (F6 p0))] [(.int (1 : Int32))])) t → Steps p.tables e below (s₁.setTop (entryFrame m #[(.int p0)] 2)) t := fun t k => pre12 t (by
      show Steps p.tables e below (T11.setTop (mkF m 31 #[.val (.int p0), .val (.int (F6 p0))] [(.int (F1 (F6 p0) (48 : Int32) (49 : Int32) (50 : Int32) (51 : Int32) (52 : Int32) (53 : Int32) (54 : Int32) (55 : Int32) (56 : Int32) (57 : Int32) (97 : Int32) (98 : Int32) (99 : Int32) (100 : Int32) (101 : Int32) (102 : Int32))), (.int p0)])) _
      refine XS.icmpYes X11.here hx rfl (pc0 := 31) (pc' := 44) rfl (hb hby d7_31) rfl (teq hc31_13).1 (by decide) (by decide) ?_
      show Steps p.tables e below (T11.setTop (mkF m 44 #[.val (.int p0), .val (.int (F6 p0))] [])) _
      refine XS.iconst X11.here hx rfl (hb hby d7_44) ?_
      show Steps p.tables e below (T11.setTop (mkF m 45 #[.val (.int p0), .val (.int (F6 p0))] [(.int (1 : Int32))])) _
      refine XS.goto X11.here hx rfl (pc0 := 45) (pc' := 49) rfl (hb hby d7_45) (by decide) (by decide) ?_
      exact k)
    obtain ⟨fs, hr, hrun, hended, hW, hsame⟩ := X11.leave (v := some (.int (1 : Int32))) (fun h => by rw [Bd.returns] at h; cases h) hlk
    have hF : (F7 p0) = (1 : Int32) := by unfold F7; rw [if_neg hc7_3, if_neg hc13_6, if_neg hc19_9, if_pos hc31_13]
    exact ⟨_, _, pre14 _ (retN X11 hx (t := .boolean) Bd.returns (by simp) (hb hby d7_49) hr), hrun, hended, _, _, rfl, ⟨by rw [hF], N11, e11⟩, ⟨_, rfl⟩, hW, hsame.mono (by decide) (by decide)⟩
  obtain ⟨cq15, kq15, q15a, q15b, q15c⟩ := isOf hZ e11 E_sB
  obtain ⟨_, _, ⟨T15, L15, k15, n15⟩, -, X15, ⟨Lc15, hQ15, l15, y15, z15⟩, st15⟩ := X11.virtualBack hx (y := (⟨"java/lang/String", "charAt", "(I)C"⟩ : MethodName)) (z := (⟨"java/lang/String", "charAt", "(I)C"⟩ : MethodName)) hown (mvT hZ (hw _ (List.mem_of_getElem? (i := 8) rfl))) (mvT hZ (hw _ (List.mem_of_getElem? (i := 9) rfl))) (notFace_of_selects (args := #[]) (mvT hZ (hw _ (List.mem_of_getElem? (i := 11) rfl)))) (mvT hZ (hw _ (List.mem_of_getElem? (i := 11) rfl))) (mvT hZ (hw _ (List.mem_of_getElem? (i := 10) rfl))) (by decide) (backOf (W := 1) (rm1 l Z a0' hw [] sB (F6 p0) wsB_value (48 : Int32) (49 : Int32) (50 : Int32) (51 : Int32) (52 : Int32) (53 : Int32) (54 : Int32) (55 : Int32) (56 : Int32) (57 : Int32) (65 : Int32) (66 : Int32) (67 : Int32) (68 : Int32) (69 : Int32) (70 : Int32) k_wsB_value s_COMPACT_STRINGS s_SIOOBE_FORMATTER h0 n0 Z0 E_sB V_wsB_value F_wsB_coder F_wsB_value OLD0 S_s_COMPACT_STRINGS S_s_SIOOBE_FORMATTER hu_s_SIOOBE_FORMATTER hp28_0 hc13_6 (own_xlT (own_hi2 hc19_9) (by decide)) ⟨hc13_6, (own_xlT (own_hi2 hc19_9) (by decide))⟩) hZ (hw _ (List.mem_of_getElem? (i := 12) rfl)) (hw _ (List.mem_of_getElem? (i := 1) rfl)) (by decide) (by decide)) q15a q15c (g := (mkF m 38 #[.val (.int p0), .val (.int (F6 p0))] [(.int (F6 p0)), (.ref sB), (.int p0)])) rfl (by rw [hml]; rfl) (Steps.refl _) (argsL := [(.int (F6 p0))]) (rest := [(.int p0)]) (lenOf pd5 rfl) rfl (by show 2 * 0 + _ ≤ _; exact Nat.le_of_eq rfl) (hb hby d7_38) (fun _ _ => ⟨rfl, e11, (by decide : 0 + 0 ≤ _), (by decide : 0 + 0 ≤ _)⟩)
  dsimp only [Pt.U, Pt.locs, Pt.cells, Pt.slots] at X15 l15 y15 z15 st15 hQ15
  subst l15 y15 z15
  obtain ⟨rfl, N15q, e15⟩ := hQ15
  have N15 := Fr.app N11 N15q
  have pre16 : ∀ t, Steps p.tables e below (T15.setTop (mkF m 41 #[.val (.int p0), .val (.int (F6 p0))] [(.int (F1 (F6 p0) (48 : Int32) (49 : Int32) (50 : Int32) (51 : Int32) (52 : Int32) (53 : Int32) (54 : Int32) (55 : Int32) (56 : Int32) (57 : Int32) (65 : Int32) (66 : Int32) (67 : Int32) (68 : Int32) (69 : Int32) (70 : Int32))), (.int p0)])) t → Steps p.tables e below (s₁.setTop (entryFrame m #[(.int p0)] 2)) t := fun t k => pre12 t (by
    show Steps p.tables e below (T11.setTop (mkF m 31 #[.val (.int p0), .val (.int (F6 p0))] [(.int (F1 (F6 p0) (48 : Int32) (49 : Int32) (50 : Int32) (51 : Int32) (52 : Int32) (53 : Int32) (54 : Int32) (55 : Int32) (56 : Int32) (57 : Int32) (97 : Int32) (98 : Int32) (99 : Int32) (100 : Int32) (101 : Int32) (102 : Int32))), (.int p0)])) _
    refine XS.icmpNo X11.here hx rfl (hb hby d7_31) rfl (feq hc31_13).1 ?_
    show Steps p.tables e below (T11.setTop (mkF m 34 #[.val (.int p0), .val (.int (F6 p0))] [])) _
    refine XS.iloadN X11.here hx rfl (hb hby d7_34) rfl ?_
    show Steps p.tables e below (T11.setTop (mkF m 35 #[.val (.int p0), .val (.int (F6 p0))] [(.int p0)])) _
    refine ldcR (Z := Z) (a0 := a0') X11 hx hZ hown (refOfLit (hw _ (List.mem_of_getElem? (i := 33) rfl)) L_sB) L_sB (g := (mkF m 35 #[.val (.int p0), .val (.int (F6 p0))] [(.int p0)])) rfl (hb hby d7_35) _ ?_
    show Steps p.tables e below (T11.setTop (mkF m 37 #[.val (.int p0), .val (.int (F6 p0))] [(.ref sB), (.int p0)])) _
    refine XS.iloadN X11.here hx rfl (hb hby d7_37) rfl ?_
    show Steps p.tables e below (T11.setTop (mkF m 38 #[.val (.int p0), .val (.int (F6 p0))] [(.int (F6 p0)), (.ref sB), (.int p0)])) _
    refine st15.trans ?_
    exact k)
  by_cases hc41_17 : p0 = (F1 (F6 p0) (48 : Int32) (49 : Int32) (50 : Int32) (51 : Int32) (52 : Int32) (53 : Int32) (54 : Int32) (55 : Int32) (56 : Int32) (57 : Int32) (65 : Int32) (66 : Int32) (67 : Int32) (68 : Int32) (69 : Int32) (70 : Int32))
  · have pre18 : ∀ t, Steps p.tables e below (T15.setTop (mkF m 49 #[.val (.int p0), .val (.int (F6 p0))] [(.int (1 : Int32))])) t → Steps p.tables e below (s₁.setTop (entryFrame m #[(.int p0)] 2)) t := fun t k => pre16 t (by
      show Steps p.tables e below (T15.setTop (mkF m 41 #[.val (.int p0), .val (.int (F6 p0))] [(.int (F1 (F6 p0) (48 : Int32) (49 : Int32) (50 : Int32) (51 : Int32) (52 : Int32) (53 : Int32) (54 : Int32) (55 : Int32) (56 : Int32) (57 : Int32) (65 : Int32) (66 : Int32) (67 : Int32) (68 : Int32) (69 : Int32) (70 : Int32))), (.int p0)])) _
      refine XS.icmpNo X15.here hx rfl (hb hby d7_41) rfl (teq hc41_17).2 ?_
      show Steps p.tables e below (T15.setTop (mkF m 44 #[.val (.int p0), .val (.int (F6 p0))] [])) _
      refine XS.iconst X15.here hx rfl (hb hby d7_44) ?_
      show Steps p.tables e below (T15.setTop (mkF m 45 #[.val (.int p0), .val (.int (F6 p0))] [(.int (1 : Int32))])) _
      refine XS.goto X15.here hx rfl (pc0 := 45) (pc' := 49) rfl (hb hby d7_45) (by decide) (by decide) ?_
      exact k)
    obtain ⟨fs, hr, hrun, hended, hW, hsame⟩ := X15.leave (v := some (.int (1 : Int32))) (fun h => by rw [Bd.returns] at h; cases h) hlk
    have hF : (F7 p0) = (1 : Int32) := by unfold F7; rw [if_neg hc7_3, if_neg hc13_6, if_neg hc19_9, if_neg hc31_13, if_pos hc41_17]
    exact ⟨_, _, pre18 _ (retN X15 hx (t := .boolean) Bd.returns (by simp) (hb hby d7_49) hr), hrun, hended, _, _, rfl, ⟨by rw [hF], N15, e15⟩, ⟨_, rfl⟩, hW, hsame.mono (by decide) (by decide)⟩
  have pre19 : ∀ t, Steps p.tables e below (T15.setTop (mkF m 49 #[.val (.int p0), .val (.int (F6 p0))] [(.int (0 : Int32))])) t → Steps p.tables e below (s₁.setTop (entryFrame m #[(.int p0)] 2)) t := fun t k => pre16 t (by
    show Steps p.tables e below (T15.setTop (mkF m 41 #[.val (.int p0), .val (.int (F6 p0))] [(.int (F1 (F6 p0) (48 : Int32) (49 : Int32) (50 : Int32) (51 : Int32) (52 : Int32) (53 : Int32) (54 : Int32) (55 : Int32) (56 : Int32) (57 : Int32) (65 : Int32) (66 : Int32) (67 : Int32) (68 : Int32) (69 : Int32) (70 : Int32))), (.int p0)])) _
    refine XS.icmpYes X15.here hx rfl (pc0 := 41) (pc' := 48) rfl (hb hby d7_41) rfl (feq hc41_17).2 (by decide) (by decide) ?_
    show Steps p.tables e below (T15.setTop (mkF m 48 #[.val (.int p0), .val (.int (F6 p0))] [])) _
    refine XS.iconst X15.here hx rfl (hb hby d7_48) ?_
    exact k)
  obtain ⟨fs, hr, hrun, hended, hW, hsame⟩ := X15.leave (v := some (.int (0 : Int32))) (fun h => by rw [Bd.returns] at h; cases h) hlk
  have hF : (F7 p0) = (0 : Int32) := by unfold F7; rw [if_neg hc7_3, if_neg hc13_6, if_neg hc19_9, if_neg hc31_13, if_neg hc41_17]
  exact ⟨_, _, pre19 _ (retN X15 hx (t := .boolean) Bd.returns (by simp) (hb hby d7_49) hr), hrun, hended, _, _, rfl, ⟨by rw [hF], N15, e15⟩, ⟨_, rfl⟩, hW, hsame.mono (by decide) (by decide)⟩
def f0_m22 (p0 : Int32) (p1 : Int32) : Int32 := (if (F6 (F1 (p1 &&& (15 : Int32)) (48 : Int32) (49 : Int32) (50 : Int32) (51 : Int32) (52 : Int32) (53 : Int32) (54 : Int32) (55 : Int32) (56 : Int32) (57 : Int32) (97 : Int32) (98 : Int32) (99 : Int32) (100 : Int32) (101 : Int32) (102 : Int32))) = (p1 &&& (15 : Int32)) then (if (F6 (F1 (p1 &&& (15 : Int32)) (48 : Int32) (49 : Int32) (50 : Int32) (51 : Int32) (52 : Int32) (53 : Int32) (54 : Int32) (55 : Int32) (56 : Int32) (57 : Int32) (65 : Int32) (66 : Int32) (67 : Int32) (68 : Int32) (69 : Int32) (70 : Int32))) = (p1 &&& (15 : Int32)) then (1 : Int32) else (0 : Int32)) else (0 : Int32))
def F0 (p0 : Int32) (p1 : Int32) : Int32 := (if (f0_m22 p0 p1) = (0 : Int32) then (0 : Int32) else (if (F7 p0) = (0 : Int32) then (0 : Int32) else (if (F7 (p0 &&& (127 : Int32))) = (0 : Int32) then (0 : Int32) else (1 : Int32))))
theorem own_wS {Z : State} {a0 : Array Value} (hw : ∀ d ∈ tables_1, d.before a0 Z = true) : ∀ a ∈ Bundle.stringAtoms, a.before a0 Z = true := by
  intro a ha
  simp only [Bundle.stringAtoms, Bundle.sN, List.mem_cons, List.not_mem_nil, or_false] at ha
  rcases ha with rfl | rfl | rfl | rfl | rfl | rfl | rfl
  · exact (hw _ (List.mem_of_getElem? (i := 1) rfl))
  · exact (hw _ (List.mem_of_getElem? (i := 2) rfl))
  · exact (hw _ (List.mem_of_getElem? (i := 3) rfl))
  · exact (hw _ (List.mem_of_getElem? (i := 4) rfl))
  · exact (hw _ (List.mem_of_getElem? (i := 5) rfl))
  · exact (hw _ (List.mem_of_getElem? (i := 6) rfl))
  · exact (hw _ (List.mem_of_getElem? (i := 7) rfl))
theorem own_EW {Z : State} {a0 : Array Value} (hw : ∀ d ∈ tables_1, d.before a0 Z = true) : EW Z a0 [(x.cls, 7), (x.cls, 15)] :=
  EW.cons (hw _ (List.mem_of_getElem? (i := 0) rfl)) (by decide) (EW.cons (hw _ (List.mem_of_getElem? (i := 33) rfl)) (by decide) EW.nil)
theorem own_wS5 {Z : State} {vm : Vm} {a0 : Array Value} (hZ : Z.Warmed39 vm) (hw : ∀ d ∈ tables_1, d.before a0 Z = true) : ∀ a ∈ Bundle.stringAtoms, a.before a0 (Z.setVm vm) = true := by
  intro a ha
  have q := own_wS hw a ha
  simp only [Bundle.stringAtoms, Bundle.sN, List.mem_cons, List.not_mem_nil, or_false] at ha
  rcases ha with rfl | rfl | rfl | rfl | rfl | rfl | rfl
  · exact mv (s := Z.setVm vm) hZ q
  · exact mv (s := Z.setVm vm) hZ q
  · exact mvA (s := Z.setVm vm) hZ q
  · exact mv (s := Z.setVm vm) hZ q
  · exact mv (s := Z.setVm vm) hZ q
  · exact mv (s := Z.setVm vm) hZ q
  · exact mv (s := Z.setVm vm) hZ q
theorem own_EW5 {Z : State} {vm : Vm} {a0 : Array Value} (hZ : Z.Warmed39 vm) (hw : ∀ d ∈ tables_1, d.before a0 Z = true) : EW (Z.setVm vm) a0 [(x.cls, 7), (x.cls, 15)] :=
  EW.cons (mvS (s := Z) hZ (hw _ (List.mem_of_getElem? (i := 0) rfl))) (by decide) (EW.cons (mvS (s := Z) hZ (hw _ (List.mem_of_getElem? (i := 33) rfl))) (by decide) EW.nil)
set_option maxRecDepth 65536 in
theorem own_hw {Z : State} {vm : Vm} {a0 : Array Value} (hZ : Z.Warmed39 vm) (hw : ∀ d ∈ tables_1, d.before a0 Z = true) : ∀ d ∈ tables_1, d.before a0 (Z.setVm vm) = true := by
  intro d hd
  have q := hw d hd
  simp only [tables_1, List.mem_cons, List.not_mem_nil, or_false] at hd
  rcases hd with rfl | rfl | rfl | rfl | rfl | rfl | rfl | rfl | rfl | rfl | rfl | rfl | rfl | rfl | rfl | rfl | rfl | rfl | rfl | rfl | rfl | rfl | rfl | rfl | rfl | rfl | rfl | rfl | rfl | rfl | rfl | rfl | rfl | rfl | rfl | rfl | rfl | rfl | rfl | rfl | rfl | rfl
  · exact mvS (s := Z) hZ q
  · exact mv (s := Z.setVm vm) hZ q
  · exact mv (s := Z.setVm vm) hZ q
  · exact mvA (s := Z.setVm vm) hZ q
  · exact mv (s := Z.setVm vm) hZ q
  · exact mv (s := Z.setVm vm) hZ q
  · exact mv (s := Z.setVm vm) hZ q
  · exact mv (s := Z.setVm vm) hZ q
  · exact mv (s := Z.setVm vm) hZ q
  · exact mv (s := Z.setVm vm) hZ q
  · exact mv (s := Z.setVm vm) hZ q
  · exact mv (s := Z.setVm vm) hZ q
  · exact mv (s := Z.setVm vm) hZ q
  · exact mv (s := Z.setVm vm) hZ q
  · exact mv (s := Z.setVm vm) hZ q
  · exact mv (s := Z.setVm vm) hZ q
  · exact mv (s := Z.setVm vm) hZ q
  · exact mv (s := Z.setVm vm) hZ q
  · exact mv (s := Z.setVm vm) hZ q
  · exact mv (s := Z.setVm vm) hZ q
  · exact mv (s := Z.setVm vm) hZ q
  · exact mv (s := Z.setVm vm) hZ q
  · exact mv (s := Z.setVm vm) hZ q
  · exact mv (s := Z.setVm vm) hZ q
  · exact mv (s := Z.setVm vm) hZ q
  · exact mv (s := Z.setVm vm) hZ q
  · exact mv (s := Z.setVm vm) hZ q
  · exact mv (s := Z.setVm vm) hZ q
  · exact mv (s := Z.setVm vm) hZ q
  · exact mv (s := Z.setVm vm) hZ q
  · exact mv (s := Z.setVm vm) hZ q
  · exact mv (s := Z.setVm vm) hZ q
  · exact mv (s := Z.setVm vm) hZ q
  · exact mvS (s := Z) hZ q
  · exact mv (s := Z.setVm vm) hZ q
  · exact mv (s := Z.setVm vm) hZ q
  · exact mv (s := Z.setVm vm) hZ q
  · exact mv (s := Z.setVm vm) hZ q
  · exact mv (s := Z.setVm vm) hZ q
  · exact mv (s := Z.setVm vm) hZ q
  · exact mv (s := Z.setVm vm) hZ q
  · exact mv (s := Z.setVm vm) hZ q
theorem own_fld {Z U : State} {h : Heap} {a : Addr} {C n d : String} {v : Value} (hal : Z.vm.Alike U.vm) (F : Fld Z h a C n d v) : Fld U h a C n d v := by
  obtain ⟨cell, cf, k, i, f, h1, h2, h3, h4, h5, h6, h7⟩ := F
  obtain ⟨k', e, -⟩ := State.fieldFound?_setVm (s := Z) hal h2
  exact ⟨cell, cf, k', i, f, h1, e, h3, h4, h5, by rw [hal.assignable]; exact h6, h7⟩
theorem own_exa {Z U : State} {h : Heap} {a : Addr} {C : String} (hal : Z.vm.Alike U.vm) (F : Exa Z h a C) : Exa U h a C := by
  obtain ⟨cell, k, h1, h2, h3, h4, h5⟩ := F
  obtain ⟨k', q, e⟩ := hal.2.2 _ _ h3
  exact ⟨cell, k', h1, by rw [hal.findClass]; exact h2, q, h4, by rw [e]; exact h5⟩
theorem own_arv {Z U : State} {h : Heap} {a : Addr} {k : ClassId} {ty : FieldType} {z : Int32} {vs : List Value} {d : Value} (hal : Z.vm.Alike U.vm) (F : Arv Z h a k ty z vs d) : Arv U h a k ty z vs d := by
  obtain ⟨c, ⟨h1, h2, h3⟩, r⟩ := F
  exact ⟨c, ⟨h1, State.isArrayOf_alike hal h2, h3⟩, r⟩
theorem own_sta {Z U : State} {C n d : String} {v : Value} (e : U.heap = Z.heap) (hal : Z.vm.Alike U.vm) (F : Sta Z Z.heap C n d v) : Sta U U.heap C n d v := by
  obtain ⟨cf, i, k, f, st, cell, h1, h2, h3, h4, h5, r⟩ := F
  obtain ⟨k', q, e'⟩ := State.fieldFound?_setVm (s := Z) hal h1
  exact ⟨cf, i, k', f, st, cell, q, h2, by rw [e']; exact h3, by rw [e']; exact h4, by rw [e]; exact h5, r⟩
theorem own_d0 (p1 : Int32) : ¬ (p1 &&& (15 : Int32)) < 0 := by
  have r : (p1 &&& (15 : Int32)).toInt = p1.toInt % (2 ^ 4 : Nat) := c_mask p1 15 4 (by decide) (by decide)
  rw [Int32.lt_iff_toInt_lt, r, show (0 : Int32).toInt = 0 from rfl]; omega
theorem own_d1 (p1 : Int32) : (p1 &&& (15 : Int32)) < (16 : Int32) := by
  have r : (p1 &&& (15 : Int32)).toInt = p1.toInt % (2 ^ 4 : Nat) := c_mask p1 15 4 (by decide) (by decide)
  rw [Int32.lt_iff_toInt_lt, r, show (16 : Int32).toInt = 16 from rfl]; omega
theorem ef0 (m : MethodId) (x0 : Int32) (x1 : Int32) : entryFrame m #[(.int x0), (.int x1)] maxLocals = mkF m 0 #[.val (.int x0), .val (.int x1), .unset, .unset, .unset, .unset] [] := by first | (simp [entryFrame, mkF, argsToLocals, Value.category, maxLocals]; done) | rfl
def Q0 (Z : State) (p0 : Int32) (p1 : Int32) (s_COMPACT_STRINGS : Int32) (s_SIOOBE_FORMATTER : Value) (h0 : Heap) (n0 : Nat) (v : Option Value) (h : Heap) (L : List Loc) : Prop := v = some (.int (F0 p0 p1)) ∧ Fr n0 L
set_option maxRecDepth 65536 in
set_option maxHeartbeats 40000000 in
theorem rm0 (l : Launch) (Z : State) (a0' : Array Value) (hw : ∀ d ∈ tables_1, d.before a0' Z = true) (ws : List Jvm.Cond) (p0 : Int32) (p1 : Int32) (s_COMPACT_STRINGS : Int32) (s_SIOOBE_FORMATTER : Value) (h0 : Heap) (n0 : Nat) (Z0 : n0 ≤ h0.size) (CH0 : CHv Z [(x.cls, 7), (x.cls, 15)] Z.vm Z.heap) (OLD0 : Old Z n0 h0) (S_s_COMPACT_STRINGS : Sta Z Z.heap "java/lang/String" "COMPACT_STRINGS" "Z" (.int s_COMPACT_STRINGS)) (S_s_SIOOBE_FORMATTER : Sta Z Z.heap "jdk/internal/util/Preconditions" "SIOOBE_FORMATTER" "Ljava/util/function/BiFunction;" s_SIOOBE_FORMATTER) (hu_s_SIOOBE_FORMATTER : s_SIOOBE_FORMATTER.isRef = true) (hp8_0 : ¬ (s_COMPACT_STRINGS = (0 : Int32))) :
    MetFree l x (head1 (Jvm.Cond.code x code maxLocals ret :: ws) room_1) (fun a U => a = #[(.int p0), (.int p1)] ∧ Z = U ∧ U.heap = h0) (fun _ _ _ _ _ => True) (fun _ U o U' => ∃ v L, o = .returned v ∧ Q0 Z p0 p1 s_COMPACT_STRINGS s_SIOOBE_FORMATTER h0 n0 v U'.heap L ∧ ReturnedEndW U o U' L 4 136) := by
  refine MetFree.of_bodySF (plainFor_of_name pn4) hisR ?_
  intro p e s m args below meth c s₁ Bd hml0 hP hK
  obtain ⟨rfl, hUZ, hh⟩ := hP
  subst hUZ
  have hZ : Z.Warmed39 Z.vm := State.Warmed39.refl Z
  have hx := Bd.exec
  have hby := Bd.bytes
  have hml : c.maxLocals = 6 := hml0
  have hown' := findClass_of_methodNamed Bd.named
  have hown : Z.vm.findClass x.cls = some m.cls := hown'
  have hnm := (name_of_methodNamed Bd.named Bd.method).1
  have X0 : Stand p l e room_1 Z m #[(.int p0), (.int p1)] below meth c s₁ [] 0 0 := Stand.of_body Bd
  have e0 : s₁.heap = h0 := by rw [← hh, Bd.state]; rfl
  have N0 := Fr.nil n0
  have hlk : meth.locks = false := by first | exact BodyLoose.notSynchronized Bd | exact Body.notSynchronized Bd
  have pre0 : ∀ t, Steps p.tables e below (s₁.setTop (mkF m 0 #[.val (.int p0), .val (.int p1), .unset, .unset, .unset, .unset] [])) t → Steps p.tables e below (s₁.setTop (entryFrame m #[(.int p0), (.int p1)] maxLocals)) t := fun t k => castTop (ef0 m p0 p1) k
  obtain ⟨sa1, T1, h1, kk1, b1, k1, X1, e1, E1, hS1, hk1, hZ1, hown1, A1, Fc1, Fv1, V1, -, -, CH1, L1, -, st1⟩ := ldcCH (Z := Z) (s := Z) (vm0 := Z.vm) (a0 := a0') (EL := [(x.cls, 7), (x.cls, 15)]) X0 hx hZ hown (hw _ (List.mem_of_getElem? (i := 0) rfl)) (own_wS hw) e0 ((State.WarmedH.refl Z).since 0) (Nat.zero_le _) (own_EW hw) (List.mem_of_getElem? (i := 0) rfl) (by rw [← hh]; exact CH0) (vs := [(.int (48 : Int32)), (.int (49 : Int32)), (.int (50 : Int32)), (.int (51 : Int32)), (.int (52 : Int32)), (.int (53 : Int32)), (.int (54 : Int32)), (.int (55 : Int32)), (.int (56 : Int32)), (.int (57 : Int32)), (.int (97 : Int32)), (.int (98 : Int32)), (.int (99 : Int32)), (.int (100 : Int32)), (.int (101 : Int32)), (.int (102 : Int32))]) (z := (16 : Int32)) ⟨by decide, by decide⟩ (by decide) (by decide) (g := (mkF m 5 #[.val (.int p0), .val (.int p1), .val (.int (p1 &&& (15 : Int32))), .unset, .unset, .unset] [])) rfl (hb hby at_5) (n := 64) (by decide) (by decide) (by decide) (by decide)
  have Z1 : n0 ≤ h1.size := Nat.le_trans Z0 E1.1
  have O1 : Old Z n0 h1 := OLD0.ext E1
  have hZ := hZ1
  have hown := hown1
  obtain ⟨cq2, kq2, q2a, q2b, q2c⟩ := isOf hZ e1 A1
  obtain ⟨_, _, ⟨T2, L2, k2, n2⟩, -, X2, ⟨Lc2, hQ2, l2, y2, z2⟩, st2⟩ := X1.virtualBack hx (y := (⟨"java/lang/String", "charAt", "(I)C"⟩ : MethodName)) (z := (⟨"java/lang/String", "charAt", "(I)C"⟩ : MethodName)) hown (mvT hZ (hw _ (List.mem_of_getElem? (i := 8) rfl))) (mvT hZ (hw _ (List.mem_of_getElem? (i := 9) rfl))) (notFace_of_selects (args := #[]) (mvT hZ (hw _ (List.mem_of_getElem? (i := 11) rfl)))) (mvT hZ (hw _ (List.mem_of_getElem? (i := 11) rfl))) (mvT hZ (hw _ (List.mem_of_getElem? (i := 10) rfl))) (by decide) (backOf (W := 0) (rm1 l Z a0' hw [] sa1 (p1 &&& (15 : Int32)) b1 (48 : Int32) (49 : Int32) (50 : Int32) (51 : Int32) (52 : Int32) (53 : Int32) (54 : Int32) (55 : Int32) (56 : Int32) (57 : Int32) (97 : Int32) (98 : Int32) (99 : Int32) (100 : Int32) (101 : Int32) (102 : Int32) k1 s_COMPACT_STRINGS s_SIOOBE_FORMATTER h1 n0 Z1 A1 V1 Fc1 Fv1 O1 S_s_COMPACT_STRINGS S_s_SIOOBE_FORMATTER hu_s_SIOOBE_FORMATTER hp8_0 (own_d0 p1) (own_d1 p1) ⟨own_d0 p1, own_d1 p1⟩) hZ (hw _ (List.mem_of_getElem? (i := 12) rfl)) (hw _ (List.mem_of_getElem? (i := 1) rfl)) (by decide) (by decide)) q2a q2c (g := (mkF m 8 #[.val (.int p0), .val (.int p1), .val (.int (p1 &&& (15 : Int32))), .unset, .unset, .unset] [(.int (p1 &&& (15 : Int32))), (.ref sa1)])) rfl (by rw [hml]; rfl) (Steps.refl _) (argsL := [(.int (p1 &&& (15 : Int32)))]) (rest := []) (lenOf pd5 rfl) rfl (by show 2 * 0 + _ ≤ _; exact Nat.le_of_eq rfl) (hb hby at_8) (fun _ _ => ⟨rfl, e1, (by decide : 2 + 0 ≤ _), (by decide : 68 + 0 ≤ _)⟩)
  dsimp only [Pt.U, Pt.locs, Pt.cells, Pt.slots] at X2 l2 y2 z2 st2 hQ2
  subst l2 y2 z2
  obtain ⟨rfl, N2q, e2⟩ := hQ2
  have N2 := Fr.app N0 N2q
  obtain ⟨sa3, T3, h3, kk3, b3, k3, X3, e3, E3, hS3, hk3, hZ3, hown3, A3, Fc3, Fv3, V3, -, -, CH3, L3, -, st3⟩ := ldcCH (Z := (Z.setVm T1.vm)) (s := Z) (vm0 := T1.vm) (a0 := a0') (EL := [(x.cls, 7), (x.cls, 15)]) X2 hx (State.Warmed39.refl (Z.setVm T1.vm)) hown (mvS (s := Z) hZ (hw _ (List.mem_of_getElem? (i := 33) rfl))) (own_wS5 hZ hw) e2 hS1 hk1 (own_EW5 hZ hw) (List.mem_of_getElem? (i := 1) rfl) CH1.1 (vs := [(.int (48 : Int32)), (.int (49 : Int32)), (.int (50 : Int32)), (.int (51 : Int32)), (.int (52 : Int32)), (.int (53 : Int32)), (.int (54 : Int32)), (.int (55 : Int32)), (.int (56 : Int32)), (.int (57 : Int32)), (.int (65 : Int32)), (.int (66 : Int32)), (.int (67 : Int32)), (.int (68 : Int32)), (.int (69 : Int32)), (.int (70 : Int32))]) (z := (16 : Int32)) ⟨by decide, by decide⟩ (by decide) (by decide) (g := (mkF m 12 #[.val (.int p0), .val (.int p1), .val (.int (p1 &&& (15 : Int32))), .val (.int (F1 (p1 &&& (15 : Int32)) (48 : Int32) (49 : Int32) (50 : Int32) (51 : Int32) (52 : Int32) (53 : Int32) (54 : Int32) (55 : Int32) (56 : Int32) (57 : Int32) (97 : Int32) (98 : Int32) (99 : Int32) (100 : Int32) (101 : Int32) (102 : Int32))), .unset, .unset] [])) rfl (hb hby at_12) (n := 64) (by decide) (by decide) (by decide) (by decide)
  have Z3 : n0 ≤ h3.size := Nat.le_trans Z1 E3.1
  have O3 : Old Z n0 h3 := O1.ext E3
  have y4 := (A1.ext E3)
  have y5 := (Fc1.ext E3)
  have y6 := (Fv1.ext E3)
  have y7 := (V1.ext E3)
  obtain ⟨Zn, hZn⟩ : ∃ W : State, W = Z.setVm T3.vm := ⟨_, rfl⟩
  have ha5 : (Z.setVm T1.vm).vm.Alike Zn.vm := by rw [hZn]; exact hZ3.alike
  have hWn : Z.Warmed39 T3.vm := State.Warmed39.trans (t := Z.setVm T1.vm) hZ hZ3
  have haZ : Z.vm.Alike Zn.vm := by rw [hZn]; exact hWn.alike
  have z8 := own_exa haZ y4
  have z9 := own_fld haZ y5
  have z10 := own_fld haZ y6
  have z11 := own_arv haZ y7
  have A3' := own_exa ha5 A3
  have Fc3' := own_fld ha5 Fc3
  have Fv3' := own_fld ha5 Fv3
  have V3' := own_arv ha5 V3
  have LA : Lit Zn x.cls 7 sa1 := by rw [hZn]; exact Lit.stays (s := Z) L1 hZ3
  have LB : Lit Zn x.cls 15 sa3 := by rw [hZn]; exact L3
  have OLDn : Old Zn n0 h3 := by rw [hZn]; exact O3
  have hw : ∀ d ∈ tables_1, d.before a0' Zn = true := by rw [hZn]; exact own_hw hWn hw
  have hZ : Zn.Warmed39 (Z.setVm T3.vm).vm := by rw [hZn]; exact State.Warmed39.refl _
  have hown := hown3
  have Sn_COMPACT_STRINGS := own_sta (by rw [hZn]; rfl) haZ S_s_COMPACT_STRINGS
  have Sn_SIOOBE_FORMATTER := own_sta (by rw [hZn]; rfl) haZ S_s_SIOOBE_FORMATTER
  obtain ⟨cq12, kq12, q12a, q12b, q12c⟩ := isOf hZ e3 A3'
  obtain ⟨_, _, ⟨T12, L12, k12, n12⟩, -, X12, ⟨Lc12, hQ12, l12, y12, z12⟩, st12⟩ := X3.virtualBack hx (y := (⟨"java/lang/String", "charAt", "(I)C"⟩ : MethodName)) (z := (⟨"java/lang/String", "charAt", "(I)C"⟩ : MethodName)) hown (mvT hZ (hw _ (List.mem_of_getElem? (i := 8) rfl))) (mvT hZ (hw _ (List.mem_of_getElem? (i := 9) rfl))) (notFace_of_selects (args := #[]) (mvT hZ (hw _ (List.mem_of_getElem? (i := 11) rfl)))) (mvT hZ (hw _ (List.mem_of_getElem? (i := 11) rfl))) (mvT hZ (hw _ (List.mem_of_getElem? (i := 10) rfl))) (by decide) (backOf (W := 0) (rm1 l Zn a0' hw [] sa3 (p1 &&& (15 : Int32)) b3 (48 : Int32) (49 : Int32) (50 : Int32) (51 : Int32) (52 : Int32) (53 : Int32) (54 : Int32) (55 : Int32) (56 : Int32) (57 : Int32) (65 : Int32) (66 : Int32) (67 : Int32) (68 : Int32) (69 : Int32) (70 : Int32) k3 s_COMPACT_STRINGS s_SIOOBE_FORMATTER h3 n0 Z3 A3' V3' Fc3' Fv3' OLDn Sn_COMPACT_STRINGS Sn_SIOOBE_FORMATTER hu_s_SIOOBE_FORMATTER hp8_0 (own_d0 p1) (own_d1 p1) ⟨own_d0 p1, own_d1 p1⟩) hZ (hw _ (List.mem_of_getElem? (i := 12) rfl)) (hw _ (List.mem_of_getElem? (i := 1) rfl)) (by decide) (by decide)) q12a q12c (g := (mkF m 15 #[.val (.int p0), .val (.int p1), .val (.int (p1 &&& (15 : Int32))), .val (.int (F1 (p1 &&& (15 : Int32)) (48 : Int32) (49 : Int32) (50 : Int32) (51 : Int32) (52 : Int32) (53 : Int32) (54 : Int32) (55 : Int32) (56 : Int32) (57 : Int32) (97 : Int32) (98 : Int32) (99 : Int32) (100 : Int32) (101 : Int32) (102 : Int32))), .unset, .unset] [(.int (p1 &&& (15 : Int32))), (.ref sa3)])) rfl (by rw [hml]; rfl) (Steps.refl _) (argsL := [(.int (p1 &&& (15 : Int32)))]) (rest := []) (lenOf pd5 rfl) rfl (by show 2 * 0 + _ ≤ _; exact Nat.le_of_eq rfl) (hb hby at_15) (fun _ _ => ⟨rfl, e3, (by decide : 4 + 0 ≤ _), (by decide : 136 + 0 ≤ _)⟩)
  dsimp only [Pt.U, Pt.locs, Pt.cells, Pt.slots] at X12 l12 y12 z12 st12 hQ12
  subst l12 y12 z12
  obtain ⟨rfl, N12q, e12⟩ := hQ12
  have N12 := Fr.app N2 N12q
  obtain ⟨_, _, ⟨T13, L13, k13, n13⟩, -, X13, ⟨Lc13, hQ13, l13, y13, z13⟩, st13⟩ := Jvm.LawKit.callS X12 hx (y := (⟨site_21.cls, "hexDigit", "(I)I"⟩ : MethodName)) hown (mvT hZ (hw _ (List.mem_of_getElem? (i := 34) rfl))) (mvT hZ (hw _ (List.mem_of_getElem? (i := 35) rfl))) (mvT hZ (hw _ (List.mem_of_getElem? (i := 36) rfl))) (mvT hZ (hw _ (List.mem_of_getElem? (i := 37) rfl))) (by decide) (backOf (W := 0) (rm6 l Zn a0' hw [] (F1 (p1 &&& (15 : Int32)) (48 : Int32) (49 : Int32) (50 : Int32) (51 : Int32) (52 : Int32) (53 : Int32) (54 : Int32) (55 : Int32) (56 : Int32) (57 : Int32) (97 : Int32) (98 : Int32) (99 : Int32) (100 : Int32) (101 : Int32) (102 : Int32)) h3 n0 Z3) hZ (hw _ (List.mem_of_getElem? (i := 37) rfl)) (hw _ (List.mem_of_getElem? (i := 36) rfl)) (by decide) (by decide)) (g := (mkF m 21 #[.val (.int p0), .val (.int p1), .val (.int (p1 &&& (15 : Int32))), .val (.int (F1 (p1 &&& (15 : Int32)) (48 : Int32) (49 : Int32) (50 : Int32) (51 : Int32) (52 : Int32) (53 : Int32) (54 : Int32) (55 : Int32) (56 : Int32) (57 : Int32) (97 : Int32) (98 : Int32) (99 : Int32) (100 : Int32) (101 : Int32) (102 : Int32))), .val (.int (F1 (p1 &&& (15 : Int32)) (48 : Int32) (49 : Int32) (50 : Int32) (51 : Int32) (52 : Int32) (53 : Int32) (54 : Int32) (55 : Int32) (56 : Int32) (57 : Int32) (65 : Int32) (66 : Int32) (67 : Int32) (68 : Int32) (69 : Int32) (70 : Int32))), .unset] [(.int (F1 (p1 &&& (15 : Int32)) (48 : Int32) (49 : Int32) (50 : Int32) (51 : Int32) (52 : Int32) (53 : Int32) (54 : Int32) (55 : Int32) (56 : Int32) (57 : Int32) (97 : Int32) (98 : Int32) (99 : Int32) (100 : Int32) (101 : Int32) (102 : Int32)))])) rfl (by rw [hml]; rfl) (argsL := [(.int (F1 (p1 &&& (15 : Int32)) (48 : Int32) (49 : Int32) (50 : Int32) (51 : Int32) (52 : Int32) (53 : Int32) (54 : Int32) (55 : Int32) (56 : Int32) (57 : Int32) (97 : Int32) (98 : Int32) (99 : Int32) (100 : Int32) (101 : Int32) (102 : Int32)))]) (rest := []) (lenOf pd4 rfl) rfl (by show 2 * 0 + _ ≤ _; exact Nat.le_of_eq rfl) (hb hby at_21) (fun _ _ => ⟨rfl, e12, (by decide : 4 + 0 ≤ _), (by decide : 136 + 0 ≤ _)⟩)
  dsimp only [Pt.U, Pt.locs, Pt.cells, Pt.slots] at X13 l13 y13 z13 st13 hQ13
  subst l13 y13 z13
  obtain ⟨rfl, N13q, e13⟩ := hQ13
  have N13 := Fr.app N12 N13q
  have pre14 : ∀ t, Steps p.tables e below (T13.setTop (mkF m 25 #[.val (.int p0), .val (.int p1), .val (.int (p1 &&& (15 : Int32))), .val (.int (F1 (p1 &&& (15 : Int32)) (48 : Int32) (49 : Int32) (50 : Int32) (51 : Int32) (52 : Int32) (53 : Int32) (54 : Int32) (55 : Int32) (56 : Int32) (57 : Int32) (97 : Int32) (98 : Int32) (99 : Int32) (100 : Int32) (101 : Int32) (102 : Int32))), .val (.int (F1 (p1 &&& (15 : Int32)) (48 : Int32) (49 : Int32) (50 : Int32) (51 : Int32) (52 : Int32) (53 : Int32) (54 : Int32) (55 : Int32) (56 : Int32) (57 : Int32) (65 : Int32) (66 : Int32) (67 : Int32) (68 : Int32) (69 : Int32) (70 : Int32))), .unset] [(.int (p1 &&& (15 : Int32))), (.int (F6 (F1 (p1 &&& (15 : Int32)) (48 : Int32) (49 : Int32) (50 : Int32) (51 : Int32) (52 : Int32) (53 : Int32) (54 : Int32) (55 : Int32) (56 : Int32) (57 : Int32) (97 : Int32) (98 : Int32) (99 : Int32) (100 : Int32) (101 : Int32) (102 : Int32))))])) t → Steps p.tables e below (s₁.setTop (entryFrame m #[(.int p0), (.int p1)] maxLocals)) t := fun t k => pre0 t (by
    show Steps p.tables e below (s₁.setTop (mkF m 0 #[.val (.int p0), .val (.int p1), .unset, .unset, .unset, .unset] [])) _
    refine XS.iloadN X0.here hx rfl (hb hby at_0) rfl ?_
    show Steps p.tables e below (s₁.setTop (mkF m 1 #[.val (.int p0), .val (.int p1), .unset, .unset, .unset, .unset] [(.int p1)])) _
    refine XS.bipush X0.here hx rfl (hb hby at_1) ?_
    show Steps p.tables e below (s₁.setTop (mkF m 3 #[.val (.int p0), .val (.int p1), .unset, .unset, .unset, .unset] [(.int (15 : Int32)), (.int p1)])) _
    refine XS.iand X0.here hx rfl (hb hby at_3) rfl ?_
    show Steps p.tables e below (s₁.setTop (mkF m 4 #[.val (.int p0), .val (.int p1), .unset, .unset, .unset, .unset] [(.int (p1 &&& (15 : Int32)))])) _
    refine XS.istoreN X0.here hx rfl (hb hby at_4) rfl (l' := #[.val (.int p0), .val (.int p1), .val (.int (p1 &&& (15 : Int32))), .unset, .unset, .unset]) rfl ?_
    show Steps p.tables e below (s₁.setTop (mkF m 5 #[.val (.int p0), .val (.int p1), .val (.int (p1 &&& (15 : Int32))), .unset, .unset, .unset] [])) _
    refine st1 _ ?_
    show Steps p.tables e below (T1.setTop (mkF m 7 #[.val (.int p0), .val (.int p1), .val (.int (p1 &&& (15 : Int32))), .unset, .unset, .unset] [(.ref sa1)])) _
    refine XS.iloadN X1.here hx rfl (hb hby at_7) rfl ?_
    show Steps p.tables e below (T1.setTop (mkF m 8 #[.val (.int p0), .val (.int p1), .val (.int (p1 &&& (15 : Int32))), .unset, .unset, .unset] [(.int (p1 &&& (15 : Int32))), (.ref sa1)])) _
    refine st2.trans ?_
    show Steps p.tables e below (T2.setTop (mkF m 11 #[.val (.int p0), .val (.int p1), .val (.int (p1 &&& (15 : Int32))), .unset, .unset, .unset] [(.int (F1 (p1 &&& (15 : Int32)) (48 : Int32) (49 : Int32) (50 : Int32) (51 : Int32) (52 : Int32) (53 : Int32) (54 : Int32) (55 : Int32) (56 : Int32) (57 : Int32) (97 : Int32) (98 : Int32) (99 : Int32) (100 : Int32) (101 : Int32) (102 : Int32)))])) _
    refine XS.istoreN X2.here hx rfl (hb hby at_11) rfl (l' := #[.val (.int p0), .val (.int p1), .val (.int (p1 &&& (15 : Int32))), .val (.int (F1 (p1 &&& (15 : Int32)) (48 : Int32) (49 : Int32) (50 : Int32) (51 : Int32) (52 : Int32) (53 : Int32) (54 : Int32) (55 : Int32) (56 : Int32) (57 : Int32) (97 : Int32) (98 : Int32) (99 : Int32) (100 : Int32) (101 : Int32) (102 : Int32))), .unset, .unset]) rfl ?_
    show Steps p.tables e below (T2.setTop (mkF m 12 #[.val (.int p0), .val (.int p1), .val (.int (p1 &&& (15 : Int32))), .val (.int (F1 (p1 &&& (15 : Int32)) (48 : Int32) (49 : Int32) (50 : Int32) (51 : Int32) (52 : Int32) (53 : Int32) (54 : Int32) (55 : Int32) (56 : Int32) (57 : Int32) (97 : Int32) (98 : Int32) (99 : Int32) (100 : Int32) (101 : Int32) (102 : Int32))), .unset, .unset] [])) _
    refine st3 _ ?_
    show Steps p.tables e below (T3.setTop (mkF m 14 #[.val (.int p0), .val (.int p1), .val (.int (p1 &&& (15 : Int32))), .val (.int (F1 (p1 &&& (15 : Int32)) (48 : Int32) (49 : Int32) (50 : Int32) (51 : Int32) (52 : Int32) (53 : Int32) (54 : Int32) (55 : Int32) (56 : Int32) (57 : Int32) (97 : Int32) (98 : Int32) (99 : Int32) (100 : Int32) (101 : Int32) (102 : Int32))), .unset, .unset] [(.ref sa3)])) _
    refine XS.iloadN X3.here hx rfl (hb hby at_14) rfl ?_
    show Steps p.tables e below (T3.setTop (mkF m 15 #[.val (.int p0), .val (.int p1), .val (.int (p1 &&& (15 : Int32))), .val (.int (F1 (p1 &&& (15 : Int32)) (48 : Int32) (49 : Int32) (50 : Int32) (51 : Int32) (52 : Int32) (53 : Int32) (54 : Int32) (55 : Int32) (56 : Int32) (57 : Int32) (97 : Int32) (98 : Int32) (99 : Int32) (100 : Int32) (101 : Int32) (102 : Int32))), .unset, .unset] [(.int (p1 &&& (15 : Int32))), (.ref sa3)])) _
    refine st12.trans ?_
    show Steps p.tables e below (T12.setTop (mkF m 18 #[.val (.int p0), .val (.int p1), .val (.int (p1 &&& (15 : Int32))), .val (.int (F1 (p1 &&& (15 : Int32)) (48 : Int32) (49 : Int32) (50 : Int32) (51 : Int32) (52 : Int32) (53 : Int32) (54 : Int32) (55 : Int32) (56 : Int32) (57 : Int32) (97 : Int32) (98 : Int32) (99 : Int32) (100 : Int32) (101 : Int32) (102 : Int32))), .unset, .unset] [(.int (F1 (p1 &&& (15 : Int32)) (48 : Int32) (49 : Int32) (50 : Int32) (51 : Int32) (52 : Int32) (53 : Int32) (54 : Int32) (55 : Int32) (56 : Int32) (57 : Int32) (65 : Int32) (66 : Int32) (67 : Int32) (68 : Int32) (69 : Int32) (70 : Int32)))])) _
    refine XS.istore X12.here hx rfl (hb hby at_18) rfl (l' := #[.val (.int p0), .val (.int p1), .val (.int (p1 &&& (15 : Int32))), .val (.int (F1 (p1 &&& (15 : Int32)) (48 : Int32) (49 : Int32) (50 : Int32) (51 : Int32) (52 : Int32) (53 : Int32) (54 : Int32) (55 : Int32) (56 : Int32) (57 : Int32) (97 : Int32) (98 : Int32) (99 : Int32) (100 : Int32) (101 : Int32) (102 : Int32))), .val (.int (F1 (p1 &&& (15 : Int32)) (48 : Int32) (49 : Int32) (50 : Int32) (51 : Int32) (52 : Int32) (53 : Int32) (54 : Int32) (55 : Int32) (56 : Int32) (57 : Int32) (65 : Int32) (66 : Int32) (67 : Int32) (68 : Int32) (69 : Int32) (70 : Int32))), .unset]) rfl ?_
    show Steps p.tables e below (T12.setTop (mkF m 20 #[.val (.int p0), .val (.int p1), .val (.int (p1 &&& (15 : Int32))), .val (.int (F1 (p1 &&& (15 : Int32)) (48 : Int32) (49 : Int32) (50 : Int32) (51 : Int32) (52 : Int32) (53 : Int32) (54 : Int32) (55 : Int32) (56 : Int32) (57 : Int32) (97 : Int32) (98 : Int32) (99 : Int32) (100 : Int32) (101 : Int32) (102 : Int32))), .val (.int (F1 (p1 &&& (15 : Int32)) (48 : Int32) (49 : Int32) (50 : Int32) (51 : Int32) (52 : Int32) (53 : Int32) (54 : Int32) (55 : Int32) (56 : Int32) (57 : Int32) (65 : Int32) (66 : Int32) (67 : Int32) (68 : Int32) (69 : Int32) (70 : Int32))), .unset] [])) _
    refine XS.iloadN X12.here hx rfl (hb hby at_20) rfl ?_
    show Steps p.tables e below (T12.setTop (mkF m 21 #[.val (.int p0), .val (.int p1), .val (.int (p1 &&& (15 : Int32))), .val (.int (F1 (p1 &&& (15 : Int32)) (48 : Int32) (49 : Int32) (50 : Int32) (51 : Int32) (52 : Int32) (53 : Int32) (54 : Int32) (55 : Int32) (56 : Int32) (57 : Int32) (97 : Int32) (98 : Int32) (99 : Int32) (100 : Int32) (101 : Int32) (102 : Int32))), .val (.int (F1 (p1 &&& (15 : Int32)) (48 : Int32) (49 : Int32) (50 : Int32) (51 : Int32) (52 : Int32) (53 : Int32) (54 : Int32) (55 : Int32) (56 : Int32) (57 : Int32) (65 : Int32) (66 : Int32) (67 : Int32) (68 : Int32) (69 : Int32) (70 : Int32))), .unset] [(.int (F1 (p1 &&& (15 : Int32)) (48 : Int32) (49 : Int32) (50 : Int32) (51 : Int32) (52 : Int32) (53 : Int32) (54 : Int32) (55 : Int32) (56 : Int32) (57 : Int32) (97 : Int32) (98 : Int32) (99 : Int32) (100 : Int32) (101 : Int32) (102 : Int32)))])) _
    refine st13 _ ?_
    show Steps p.tables e below (T13.setTop (mkF m 24 #[.val (.int p0), .val (.int p1), .val (.int (p1 &&& (15 : Int32))), .val (.int (F1 (p1 &&& (15 : Int32)) (48 : Int32) (49 : Int32) (50 : Int32) (51 : Int32) (52 : Int32) (53 : Int32) (54 : Int32) (55 : Int32) (56 : Int32) (57 : Int32) (97 : Int32) (98 : Int32) (99 : Int32) (100 : Int32) (101 : Int32) (102 : Int32))), .val (.int (F1 (p1 &&& (15 : Int32)) (48 : Int32) (49 : Int32) (50 : Int32) (51 : Int32) (52 : Int32) (53 : Int32) (54 : Int32) (55 : Int32) (56 : Int32) (57 : Int32) (65 : Int32) (66 : Int32) (67 : Int32) (68 : Int32) (69 : Int32) (70 : Int32))), .unset] [(.int (F6 (F1 (p1 &&& (15 : Int32)) (48 : Int32) (49 : Int32) (50 : Int32) (51 : Int32) (52 : Int32) (53 : Int32) (54 : Int32) (55 : Int32) (56 : Int32) (57 : Int32) (97 : Int32) (98 : Int32) (99 : Int32) (100 : Int32) (101 : Int32) (102 : Int32))))])) _
    refine XS.iloadN X13.here hx rfl (hb hby at_24) rfl ?_
    exact k)
  obtain ⟨T15, L15, X15, e15, N15, pre15⟩ : ∃ (T' : State) (locs' : List Loc), Stand p l e room_1 (Z.setVm T3.vm) m #[(.int p0), (.int p1)] below meth c T' locs' 4 136 ∧ T'.heap = h3 ∧ Fr n0 locs' ∧ ∀ t, Steps p.tables e below (T'.setTop (mkF m 42 #[.val (.int p0), .val (.int p1), .val (.int (p1 &&& (15 : Int32))), .val (.int (F1 (p1 &&& (15 : Int32)) (48 : Int32) (49 : Int32) (50 : Int32) (51 : Int32) (52 : Int32) (53 : Int32) (54 : Int32) (55 : Int32) (56 : Int32) (57 : Int32) (97 : Int32) (98 : Int32) (99 : Int32) (100 : Int32) (101 : Int32) (102 : Int32))), .val (.int (F1 (p1 &&& (15 : Int32)) (48 : Int32) (49 : Int32) (50 : Int32) (51 : Int32) (52 : Int32) (53 : Int32) (54 : Int32) (55 : Int32) (56 : Int32) (57 : Int32) (65 : Int32) (66 : Int32) (67 : Int32) (68 : Int32) (69 : Int32) (70 : Int32))), .unset] [(.int (f0_m22 p0 p1))])) t → Steps p.tables e below (s₁.setTop (entryFrame m #[(.int p0), (.int p1)] maxLocals)) t := by
    by_cases hc25_15 : (F6 (F1 (p1 &&& (15 : Int32)) (48 : Int32) (49 : Int32) (50 : Int32) (51 : Int32) (52 : Int32) (53 : Int32) (54 : Int32) (55 : Int32) (56 : Int32) (57 : Int32) (97 : Int32) (98 : Int32) (99 : Int32) (100 : Int32) (101 : Int32) (102 : Int32))) = (p1 &&& (15 : Int32))
    · obtain ⟨_, _, ⟨T16, L16, k16, n16⟩, -, X16, ⟨Lc16, hQ16, l16, y16, z16⟩, st16⟩ := Jvm.LawKit.callS X13 hx (y := (⟨site_21.cls, "hexDigit", "(I)I"⟩ : MethodName)) hown (mvT hZ (hw _ (List.mem_of_getElem? (i := 34) rfl))) (mvT hZ (hw _ (List.mem_of_getElem? (i := 35) rfl))) (mvT hZ (hw _ (List.mem_of_getElem? (i := 36) rfl))) (mvT hZ (hw _ (List.mem_of_getElem? (i := 37) rfl))) (by decide) (backOf (W := 0) (rm6 l Zn a0' hw [] (F1 (p1 &&& (15 : Int32)) (48 : Int32) (49 : Int32) (50 : Int32) (51 : Int32) (52 : Int32) (53 : Int32) (54 : Int32) (55 : Int32) (56 : Int32) (57 : Int32) (65 : Int32) (66 : Int32) (67 : Int32) (68 : Int32) (69 : Int32) (70 : Int32)) h3 n0 Z3) hZ (hw _ (List.mem_of_getElem? (i := 37) rfl)) (hw _ (List.mem_of_getElem? (i := 36) rfl)) (by decide) (by decide)) (g := (mkF m 30 #[.val (.int p0), .val (.int p1), .val (.int (p1 &&& (15 : Int32))), .val (.int (F1 (p1 &&& (15 : Int32)) (48 : Int32) (49 : Int32) (50 : Int32) (51 : Int32) (52 : Int32) (53 : Int32) (54 : Int32) (55 : Int32) (56 : Int32) (57 : Int32) (97 : Int32) (98 : Int32) (99 : Int32) (100 : Int32) (101 : Int32) (102 : Int32))), .val (.int (F1 (p1 &&& (15 : Int32)) (48 : Int32) (49 : Int32) (50 : Int32) (51 : Int32) (52 : Int32) (53 : Int32) (54 : Int32) (55 : Int32) (56 : Int32) (57 : Int32) (65 : Int32) (66 : Int32) (67 : Int32) (68 : Int32) (69 : Int32) (70 : Int32))), .unset] [(.int (F1 (p1 &&& (15 : Int32)) (48 : Int32) (49 : Int32) (50 : Int32) (51 : Int32) (52 : Int32) (53 : Int32) (54 : Int32) (55 : Int32) (56 : Int32) (57 : Int32) (65 : Int32) (66 : Int32) (67 : Int32) (68 : Int32) (69 : Int32) (70 : Int32)))])) rfl (by rw [hml]; rfl) (argsL := [(.int (F1 (p1 &&& (15 : Int32)) (48 : Int32) (49 : Int32) (50 : Int32) (51 : Int32) (52 : Int32) (53 : Int32) (54 : Int32) (55 : Int32) (56 : Int32) (57 : Int32) (65 : Int32) (66 : Int32) (67 : Int32) (68 : Int32) (69 : Int32) (70 : Int32)))]) (rest := []) (lenOf pd4 rfl) rfl (by show 2 * 0 + _ ≤ _; exact Nat.le_of_eq rfl) (hb hby at_30) (fun _ _ => ⟨rfl, e13, (by decide : 4 + 0 ≤ _), (by decide : 136 + 0 ≤ _)⟩)
      dsimp only [Pt.U, Pt.locs, Pt.cells, Pt.slots] at X16 l16 y16 z16 st16 hQ16
      subst l16 y16 z16
      obtain ⟨rfl, N16q, e16⟩ := hQ16
      have N16 := Fr.app N13 N16q
      have pre17 : ∀ t, Steps p.tables e below (T16.setTop (mkF m 34 #[.val (.int p0), .val (.int p1), .val (.int (p1 &&& (15 : Int32))), .val (.int (F1 (p1 &&& (15 : Int32)) (48 : Int32) (49 : Int32) (50 : Int32) (51 : Int32) (52 : Int32) (53 : Int32) (54 : Int32) (55 : Int32) (56 : Int32) (57 : Int32) (97 : Int32) (98 : Int32) (99 : Int32) (100 : Int32) (101 : Int32) (102 : Int32))), .val (.int (F1 (p1 &&& (15 : Int32)) (48 : Int32) (49 : Int32) (50 : Int32) (51 : Int32) (52 : Int32) (53 : Int32) (54 : Int32) (55 : Int32) (56 : Int32) (57 : Int32) (65 : Int32) (66 : Int32) (67 : Int32) (68 : Int32) (69 : Int32) (70 : Int32))), .unset] [(.int (p1 &&& (15 : Int32))), (.int (F6 (F1 (p1 &&& (15 : Int32)) (48 : Int32) (49 : Int32) (50 : Int32) (51 : Int32) (52 : Int32) (53 : Int32) (54 : Int32) (55 : Int32) (56 : Int32) (57 : Int32) (65 : Int32) (66 : Int32) (67 : Int32) (68 : Int32) (69 : Int32) (70 : Int32))))])) t → Steps p.tables e below (s₁.setTop (entryFrame m #[(.int p0), (.int p1)] maxLocals)) t := fun t k => pre14 t (by
        show Steps p.tables e below (T13.setTop (mkF m 25 #[.val (.int p0), .val (.int p1), .val (.int (p1 &&& (15 : Int32))), .val (.int (F1 (p1 &&& (15 : Int32)) (48 : Int32) (49 : Int32) (50 : Int32) (51 : Int32) (52 : Int32) (53 : Int32) (54 : Int32) (55 : Int32) (56 : Int32) (57 : Int32) (97 : Int32) (98 : Int32) (99 : Int32) (100 : Int32) (101 : Int32) (102 : Int32))), .val (.int (F1 (p1 &&& (15 : Int32)) (48 : Int32) (49 : Int32) (50 : Int32) (51 : Int32) (52 : Int32) (53 : Int32) (54 : Int32) (55 : Int32) (56 : Int32) (57 : Int32) (65 : Int32) (66 : Int32) (67 : Int32) (68 : Int32) (69 : Int32) (70 : Int32))), .unset] [(.int (p1 &&& (15 : Int32))), (.int (F6 (F1 (p1 &&& (15 : Int32)) (48 : Int32) (49 : Int32) (50 : Int32) (51 : Int32) (52 : Int32) (53 : Int32) (54 : Int32) (55 : Int32) (56 : Int32) (57 : Int32) (97 : Int32) (98 : Int32) (99 : Int32) (100 : Int32) (101 : Int32) (102 : Int32))))])) _
        refine XS.icmpNo X13.here hx rfl (hb hby at_25) rfl (teq hc25_15).2 ?_
        show Steps p.tables e below (T13.setTop (mkF m 28 #[.val (.int p0), .val (.int p1), .val (.int (p1 &&& (15 : Int32))), .val (.int (F1 (p1 &&& (15 : Int32)) (48 : Int32) (49 : Int32) (50 : Int32) (51 : Int32) (52 : Int32) (53 : Int32) (54 : Int32) (55 : Int32) (56 : Int32) (57 : Int32) (97 : Int32) (98 : Int32) (99 : Int32) (100 : Int32) (101 : Int32) (102 : Int32))), .val (.int (F1 (p1 &&& (15 : Int32)) (48 : Int32) (49 : Int32) (50 : Int32) (51 : Int32) (52 : Int32) (53 : Int32) (54 : Int32) (55 : Int32) (56 : Int32) (57 : Int32) (65 : Int32) (66 : Int32) (67 : Int32) (68 : Int32) (69 : Int32) (70 : Int32))), .unset] [])) _
        refine XS.iload X13.here hx rfl (hb hby at_28) rfl ?_
        show Steps p.tables e below (T13.setTop (mkF m 30 #[.val (.int p0), .val (.int p1), .val (.int (p1 &&& (15 : Int32))), .val (.int (F1 (p1 &&& (15 : Int32)) (48 : Int32) (49 : Int32) (50 : Int32) (51 : Int32) (52 : Int32) (53 : Int32) (54 : Int32) (55 : Int32) (56 : Int32) (57 : Int32) (97 : Int32) (98 : Int32) (99 : Int32) (100 : Int32) (101 : Int32) (102 : Int32))), .val (.int (F1 (p1 &&& (15 : Int32)) (48 : Int32) (49 : Int32) (50 : Int32) (51 : Int32) (52 : Int32) (53 : Int32) (54 : Int32) (55 : Int32) (56 : Int32) (57 : Int32) (65 : Int32) (66 : Int32) (67 : Int32) (68 : Int32) (69 : Int32) (70 : Int32))), .unset] [(.int (F1 (p1 &&& (15 : Int32)) (48 : Int32) (49 : Int32) (50 : Int32) (51 : Int32) (52 : Int32) (53 : Int32) (54 : Int32) (55 : Int32) (56 : Int32) (57 : Int32) (65 : Int32) (66 : Int32) (67 : Int32) (68 : Int32) (69 : Int32) (70 : Int32)))])) _
        refine st16 _ ?_
        show Steps p.tables e below (T16.setTop (mkF m 33 #[.val (.int p0), .val (.int p1), .val (.int (p1 &&& (15 : Int32))), .val (.int (F1 (p1 &&& (15 : Int32)) (48 : Int32) (49 : Int32) (50 : Int32) (51 : Int32) (52 : Int32) (53 : Int32) (54 : Int32) (55 : Int32) (56 : Int32) (57 : Int32) (97 : Int32) (98 : Int32) (99 : Int32) (100 : Int32) (101 : Int32) (102 : Int32))), .val (.int (F1 (p1 &&& (15 : Int32)) (48 : Int32) (49 : Int32) (50 : Int32) (51 : Int32) (52 : Int32) (53 : Int32) (54 : Int32) (55 : Int32) (56 : Int32) (57 : Int32) (65 : Int32) (66 : Int32) (67 : Int32) (68 : Int32) (69 : Int32) (70 : Int32))), .unset] [(.int (F6 (F1 (p1 &&& (15 : Int32)) (48 : Int32) (49 : Int32) (50 : Int32) (51 : Int32) (52 : Int32) (53 : Int32) (54 : Int32) (55 : Int32) (56 : Int32) (57 : Int32) (65 : Int32) (66 : Int32) (67 : Int32) (68 : Int32) (69 : Int32) (70 : Int32))))])) _
        refine XS.iloadN X16.here hx rfl (hb hby at_33) rfl ?_
        exact k)
      by_cases hc34_18 : (F6 (F1 (p1 &&& (15 : Int32)) (48 : Int32) (49 : Int32) (50 : Int32) (51 : Int32) (52 : Int32) (53 : Int32) (54 : Int32) (55 : Int32) (56 : Int32) (57 : Int32) (65 : Int32) (66 : Int32) (67 : Int32) (68 : Int32) (69 : Int32) (70 : Int32))) = (p1 &&& (15 : Int32))
      · have pre19 : ∀ t, Steps p.tables e below (T16.setTop (mkF m 42 #[.val (.int p0), .val (.int p1), .val (.int (p1 &&& (15 : Int32))), .val (.int (F1 (p1 &&& (15 : Int32)) (48 : Int32) (49 : Int32) (50 : Int32) (51 : Int32) (52 : Int32) (53 : Int32) (54 : Int32) (55 : Int32) (56 : Int32) (57 : Int32) (97 : Int32) (98 : Int32) (99 : Int32) (100 : Int32) (101 : Int32) (102 : Int32))), .val (.int (F1 (p1 &&& (15 : Int32)) (48 : Int32) (49 : Int32) (50 : Int32) (51 : Int32) (52 : Int32) (53 : Int32) (54 : Int32) (55 : Int32) (56 : Int32) (57 : Int32) (65 : Int32) (66 : Int32) (67 : Int32) (68 : Int32) (69 : Int32) (70 : Int32))), .unset] [(.int (1 : Int32))])) t → Steps p.tables e below (s₁.setTop (entryFrame m #[(.int p0), (.int p1)] maxLocals)) t := fun t k => pre17 t (by
          show Steps p.tables e below (T16.setTop (mkF m 34 #[.val (.int p0), .val (.int p1), .val (.int (p1 &&& (15 : Int32))), .val (.int (F1 (p1 &&& (15 : Int32)) (48 : Int32) (49 : Int32) (50 : Int32) (51 : Int32) (52 : Int32) (53 : Int32) (54 : Int32) (55 : Int32) (56 : Int32) (57 : Int32) (97 : Int32) (98 : Int32) (99 : Int32) (100 : Int32) (101 : Int32) (102 : Int32))), .val (.int (F1 (p1 &&& (15 : Int32)) (48 : Int32) (49 : Int32) (50 : Int32) (51 : Int32) (52 : Int32) (53 : Int32) (54 : Int32) (55 : Int32) (56 : Int32) (57 : Int32) (65 : Int32) (66 : Int32) (67 : Int32) (68 : Int32) (69 : Int32) (70 : Int32))), .unset] [(.int (p1 &&& (15 : Int32))), (.int (F6 (F1 (p1 &&& (15 : Int32)) (48 : Int32) (49 : Int32) (50 : Int32) (51 : Int32) (52 : Int32) (53 : Int32) (54 : Int32) (55 : Int32) (56 : Int32) (57 : Int32) (65 : Int32) (66 : Int32) (67 : Int32) (68 : Int32) (69 : Int32) (70 : Int32))))])) _
          refine XS.icmpNo X16.here hx rfl (hb hby at_34) rfl (teq hc34_18).2 ?_
          show Steps p.tables e below (T16.setTop (mkF m 37 #[.val (.int p0), .val (.int p1), .val (.int (p1 &&& (15 : Int32))), .val (.int (F1 (p1 &&& (15 : Int32)) (48 : Int32) (49 : Int32) (50 : Int32) (51 : Int32) (52 : Int32) (53 : Int32) (54 : Int32) (55 : Int32) (56 : Int32) (57 : Int32) (97 : Int32) (98 : Int32) (99 : Int32) (100 : Int32) (101 : Int32) (102 : Int32))), .val (.int (F1 (p1 &&& (15 : Int32)) (48 : Int32) (49 : Int32) (50 : Int32) (51 : Int32) (52 : Int32) (53 : Int32) (54 : Int32) (55 : Int32) (56 : Int32) (57 : Int32) (65 : Int32) (66 : Int32) (67 : Int32) (68 : Int32) (69 : Int32) (70 : Int32))), .unset] [])) _
          refine XS.iconst X16.here hx rfl (hb hby at_37) ?_
          show Steps p.tables e below (T16.setTop (mkF m 38 #[.val (.int p0), .val (.int p1), .val (.int (p1 &&& (15 : Int32))), .val (.int (F1 (p1 &&& (15 : Int32)) (48 : Int32) (49 : Int32) (50 : Int32) (51 : Int32) (52 : Int32) (53 : Int32) (54 : Int32) (55 : Int32) (56 : Int32) (57 : Int32) (97 : Int32) (98 : Int32) (99 : Int32) (100 : Int32) (101 : Int32) (102 : Int32))), .val (.int (F1 (p1 &&& (15 : Int32)) (48 : Int32) (49 : Int32) (50 : Int32) (51 : Int32) (52 : Int32) (53 : Int32) (54 : Int32) (55 : Int32) (56 : Int32) (57 : Int32) (65 : Int32) (66 : Int32) (67 : Int32) (68 : Int32) (69 : Int32) (70 : Int32))), .unset] [(.int (1 : Int32))])) _
          refine XS.goto X16.here hx rfl (pc0 := 38) (pc' := 42) rfl (hb hby at_38) (by decide) (by decide) ?_
          exact k)
        have q_f0_m22 : f0_m22 p0 p1 = (1 : Int32) := by unfold f0_m22; rw [if_pos hc25_15, if_pos hc34_18]
        rw [q_f0_m22]
        exact ⟨T16, _, X16, e16, N16, pre19⟩
      have pre20 : ∀ t, Steps p.tables e below (T16.setTop (mkF m 42 #[.val (.int p0), .val (.int p1), .val (.int (p1 &&& (15 : Int32))), .val (.int (F1 (p1 &&& (15 : Int32)) (48 : Int32) (49 : Int32) (50 : Int32) (51 : Int32) (52 : Int32) (53 : Int32) (54 : Int32) (55 : Int32) (56 : Int32) (57 : Int32) (97 : Int32) (98 : Int32) (99 : Int32) (100 : Int32) (101 : Int32) (102 : Int32))), .val (.int (F1 (p1 &&& (15 : Int32)) (48 : Int32) (49 : Int32) (50 : Int32) (51 : Int32) (52 : Int32) (53 : Int32) (54 : Int32) (55 : Int32) (56 : Int32) (57 : Int32) (65 : Int32) (66 : Int32) (67 : Int32) (68 : Int32) (69 : Int32) (70 : Int32))), .unset] [(.int (0 : Int32))])) t → Steps p.tables e below (s₁.setTop (entryFrame m #[(.int p0), (.int p1)] maxLocals)) t := fun t k => pre17 t (by
        show Steps p.tables e below (T16.setTop (mkF m 34 #[.val (.int p0), .val (.int p1), .val (.int (p1 &&& (15 : Int32))), .val (.int (F1 (p1 &&& (15 : Int32)) (48 : Int32) (49 : Int32) (50 : Int32) (51 : Int32) (52 : Int32) (53 : Int32) (54 : Int32) (55 : Int32) (56 : Int32) (57 : Int32) (97 : Int32) (98 : Int32) (99 : Int32) (100 : Int32) (101 : Int32) (102 : Int32))), .val (.int (F1 (p1 &&& (15 : Int32)) (48 : Int32) (49 : Int32) (50 : Int32) (51 : Int32) (52 : Int32) (53 : Int32) (54 : Int32) (55 : Int32) (56 : Int32) (57 : Int32) (65 : Int32) (66 : Int32) (67 : Int32) (68 : Int32) (69 : Int32) (70 : Int32))), .unset] [(.int (p1 &&& (15 : Int32))), (.int (F6 (F1 (p1 &&& (15 : Int32)) (48 : Int32) (49 : Int32) (50 : Int32) (51 : Int32) (52 : Int32) (53 : Int32) (54 : Int32) (55 : Int32) (56 : Int32) (57 : Int32) (65 : Int32) (66 : Int32) (67 : Int32) (68 : Int32) (69 : Int32) (70 : Int32))))])) _
        refine XS.icmpYes X16.here hx rfl (pc0 := 34) (pc' := 41) rfl (hb hby at_34) rfl (feq hc34_18).2 (by decide) (by decide) ?_
        show Steps p.tables e below (T16.setTop (mkF m 41 #[.val (.int p0), .val (.int p1), .val (.int (p1 &&& (15 : Int32))), .val (.int (F1 (p1 &&& (15 : Int32)) (48 : Int32) (49 : Int32) (50 : Int32) (51 : Int32) (52 : Int32) (53 : Int32) (54 : Int32) (55 : Int32) (56 : Int32) (57 : Int32) (97 : Int32) (98 : Int32) (99 : Int32) (100 : Int32) (101 : Int32) (102 : Int32))), .val (.int (F1 (p1 &&& (15 : Int32)) (48 : Int32) (49 : Int32) (50 : Int32) (51 : Int32) (52 : Int32) (53 : Int32) (54 : Int32) (55 : Int32) (56 : Int32) (57 : Int32) (65 : Int32) (66 : Int32) (67 : Int32) (68 : Int32) (69 : Int32) (70 : Int32))), .unset] [])) _
        refine XS.iconst X16.here hx rfl (hb hby at_41) ?_
        exact k)
      have q_f0_m22 : f0_m22 p0 p1 = (0 : Int32) := by unfold f0_m22; rw [if_pos hc25_15, if_neg hc34_18]
      rw [q_f0_m22]
      exact ⟨T16, _, X16, e16, N16, pre20⟩
    have pre21 : ∀ t, Steps p.tables e below (T13.setTop (mkF m 42 #[.val (.int p0), .val (.int p1), .val (.int (p1 &&& (15 : Int32))), .val (.int (F1 (p1 &&& (15 : Int32)) (48 : Int32) (49 : Int32) (50 : Int32) (51 : Int32) (52 : Int32) (53 : Int32) (54 : Int32) (55 : Int32) (56 : Int32) (57 : Int32) (97 : Int32) (98 : Int32) (99 : Int32) (100 : Int32) (101 : Int32) (102 : Int32))), .val (.int (F1 (p1 &&& (15 : Int32)) (48 : Int32) (49 : Int32) (50 : Int32) (51 : Int32) (52 : Int32) (53 : Int32) (54 : Int32) (55 : Int32) (56 : Int32) (57 : Int32) (65 : Int32) (66 : Int32) (67 : Int32) (68 : Int32) (69 : Int32) (70 : Int32))), .unset] [(.int (0 : Int32))])) t → Steps p.tables e below (s₁.setTop (entryFrame m #[(.int p0), (.int p1)] maxLocals)) t := fun t k => pre14 t (by
      show Steps p.tables e below (T13.setTop (mkF m 25 #[.val (.int p0), .val (.int p1), .val (.int (p1 &&& (15 : Int32))), .val (.int (F1 (p1 &&& (15 : Int32)) (48 : Int32) (49 : Int32) (50 : Int32) (51 : Int32) (52 : Int32) (53 : Int32) (54 : Int32) (55 : Int32) (56 : Int32) (57 : Int32) (97 : Int32) (98 : Int32) (99 : Int32) (100 : Int32) (101 : Int32) (102 : Int32))), .val (.int (F1 (p1 &&& (15 : Int32)) (48 : Int32) (49 : Int32) (50 : Int32) (51 : Int32) (52 : Int32) (53 : Int32) (54 : Int32) (55 : Int32) (56 : Int32) (57 : Int32) (65 : Int32) (66 : Int32) (67 : Int32) (68 : Int32) (69 : Int32) (70 : Int32))), .unset] [(.int (p1 &&& (15 : Int32))), (.int (F6 (F1 (p1 &&& (15 : Int32)) (48 : Int32) (49 : Int32) (50 : Int32) (51 : Int32) (52 : Int32) (53 : Int32) (54 : Int32) (55 : Int32) (56 : Int32) (57 : Int32) (97 : Int32) (98 : Int32) (99 : Int32) (100 : Int32) (101 : Int32) (102 : Int32))))])) _
      refine XS.icmpYes X13.here hx rfl (pc0 := 25) (pc' := 41) rfl (hb hby at_25) rfl (feq hc25_15).2 (by decide) (by decide) ?_
      show Steps p.tables e below (T13.setTop (mkF m 41 #[.val (.int p0), .val (.int p1), .val (.int (p1 &&& (15 : Int32))), .val (.int (F1 (p1 &&& (15 : Int32)) (48 : Int32) (49 : Int32) (50 : Int32) (51 : Int32) (52 : Int32) (53 : Int32) (54 : Int32) (55 : Int32) (56 : Int32) (57 : Int32) (97 : Int32) (98 : Int32) (99 : Int32) (100 : Int32) (101 : Int32) (102 : Int32))), .val (.int (F1 (p1 &&& (15 : Int32)) (48 : Int32) (49 : Int32) (50 : Int32) (51 : Int32) (52 : Int32) (53 : Int32) (54 : Int32) (55 : Int32) (56 : Int32) (57 : Int32) (65 : Int32) (66 : Int32) (67 : Int32) (68 : Int32) (69 : Int32) (70 : Int32))), .unset] [])) _
      refine XS.iconst X13.here hx rfl (hb hby at_41) ?_
      exact k)
    have q_f0_m22 : f0_m22 p0 p1 = (0 : Int32) := by unfold f0_m22; rw [if_neg hc25_15]
    rw [q_f0_m22]
    exact ⟨T13, _, X13, e13, N13, pre21⟩
  have pre23 : ∀ t, Steps p.tables e below (T15.setTop (mkF m 46 #[.val (.int p0), .val (.int p1), .val (.int (p1 &&& (15 : Int32))), .val (.int (F1 (p1 &&& (15 : Int32)) (48 : Int32) (49 : Int32) (50 : Int32) (51 : Int32) (52 : Int32) (53 : Int32) (54 : Int32) (55 : Int32) (56 : Int32) (57 : Int32) (97 : Int32) (98 : Int32) (99 : Int32) (100 : Int32) (101 : Int32) (102 : Int32))), .val (.int (F1 (p1 &&& (15 : Int32)) (48 : Int32) (49 : Int32) (50 : Int32) (51 : Int32) (52 : Int32) (53 : Int32) (54 : Int32) (55 : Int32) (56 : Int32) (57 : Int32) (65 : Int32) (66 : Int32) (67 : Int32) (68 : Int32) (69 : Int32) (70 : Int32))), .val (.int (f0_m22 p0 p1))] [(.int (f0_m22 p0 p1))])) t → Steps p.tables e below (s₁.setTop (entryFrame m #[(.int p0), (.int p1)] maxLocals)) t := fun t k => pre15 t (by
    show Steps p.tables e below (T15.setTop (mkF m 42 #[.val (.int p0), .val (.int p1), .val (.int (p1 &&& (15 : Int32))), .val (.int (F1 (p1 &&& (15 : Int32)) (48 : Int32) (49 : Int32) (50 : Int32) (51 : Int32) (52 : Int32) (53 : Int32) (54 : Int32) (55 : Int32) (56 : Int32) (57 : Int32) (97 : Int32) (98 : Int32) (99 : Int32) (100 : Int32) (101 : Int32) (102 : Int32))), .val (.int (F1 (p1 &&& (15 : Int32)) (48 : Int32) (49 : Int32) (50 : Int32) (51 : Int32) (52 : Int32) (53 : Int32) (54 : Int32) (55 : Int32) (56 : Int32) (57 : Int32) (65 : Int32) (66 : Int32) (67 : Int32) (68 : Int32) (69 : Int32) (70 : Int32))), .unset] [(.int (f0_m22 p0 p1))])) _
    refine XS.istore X15.here hx rfl (hb hby at_42) rfl (l' := #[.val (.int p0), .val (.int p1), .val (.int (p1 &&& (15 : Int32))), .val (.int (F1 (p1 &&& (15 : Int32)) (48 : Int32) (49 : Int32) (50 : Int32) (51 : Int32) (52 : Int32) (53 : Int32) (54 : Int32) (55 : Int32) (56 : Int32) (57 : Int32) (97 : Int32) (98 : Int32) (99 : Int32) (100 : Int32) (101 : Int32) (102 : Int32))), .val (.int (F1 (p1 &&& (15 : Int32)) (48 : Int32) (49 : Int32) (50 : Int32) (51 : Int32) (52 : Int32) (53 : Int32) (54 : Int32) (55 : Int32) (56 : Int32) (57 : Int32) (65 : Int32) (66 : Int32) (67 : Int32) (68 : Int32) (69 : Int32) (70 : Int32))), .val (.int (f0_m22 p0 p1))]) rfl ?_
    show Steps p.tables e below (T15.setTop (mkF m 44 #[.val (.int p0), .val (.int p1), .val (.int (p1 &&& (15 : Int32))), .val (.int (F1 (p1 &&& (15 : Int32)) (48 : Int32) (49 : Int32) (50 : Int32) (51 : Int32) (52 : Int32) (53 : Int32) (54 : Int32) (55 : Int32) (56 : Int32) (57 : Int32) (97 : Int32) (98 : Int32) (99 : Int32) (100 : Int32) (101 : Int32) (102 : Int32))), .val (.int (F1 (p1 &&& (15 : Int32)) (48 : Int32) (49 : Int32) (50 : Int32) (51 : Int32) (52 : Int32) (53 : Int32) (54 : Int32) (55 : Int32) (56 : Int32) (57 : Int32) (65 : Int32) (66 : Int32) (67 : Int32) (68 : Int32) (69 : Int32) (70 : Int32))), .val (.int (f0_m22 p0 p1))] [])) _
    refine XS.iload X15.here hx rfl (hb hby at_44) rfl ?_
    exact k)
  by_cases hc46_24 : (f0_m22 p0 p1) = (0 : Int32)
  · have pre25 : ∀ t, Steps p.tables e below (T15.setTop (mkF m 71 #[.val (.int p0), .val (.int p1), .val (.int (p1 &&& (15 : Int32))), .val (.int (F1 (p1 &&& (15 : Int32)) (48 : Int32) (49 : Int32) (50 : Int32) (51 : Int32) (52 : Int32) (53 : Int32) (54 : Int32) (55 : Int32) (56 : Int32) (57 : Int32) (97 : Int32) (98 : Int32) (99 : Int32) (100 : Int32) (101 : Int32) (102 : Int32))), .val (.int (F1 (p1 &&& (15 : Int32)) (48 : Int32) (49 : Int32) (50 : Int32) (51 : Int32) (52 : Int32) (53 : Int32) (54 : Int32) (55 : Int32) (56 : Int32) (57 : Int32) (65 : Int32) (66 : Int32) (67 : Int32) (68 : Int32) (69 : Int32) (70 : Int32))), .val (.int (f0_m22 p0 p1))] [(.int (0 : Int32))])) t → Steps p.tables e below (s₁.setTop (entryFrame m #[(.int p0), (.int p1)] maxLocals)) t := fun t k => pre23 t (by
      show Steps p.tables e below (T15.setTop (mkF m 46 #[.val (.int p0), .val (.int p1), .val (.int (p1 &&& (15 : Int32))), .val (.int (F1 (p1 &&& (15 : Int32)) (48 : Int32) (49 : Int32) (50 : Int32) (51 : Int32) (52 : Int32) (53 : Int32) (54 : Int32) (55 : Int32) (56 : Int32) (57 : Int32) (97 : Int32) (98 : Int32) (99 : Int32) (100 : Int32) (101 : Int32) (102 : Int32))), .val (.int (F1 (p1 &&& (15 : Int32)) (48 : Int32) (49 : Int32) (50 : Int32) (51 : Int32) (52 : Int32) (53 : Int32) (54 : Int32) (55 : Int32) (56 : Int32) (57 : Int32) (65 : Int32) (66 : Int32) (67 : Int32) (68 : Int32) (69 : Int32) (70 : Int32))), .val (.int (f0_m22 p0 p1))] [(.int (f0_m22 p0 p1))])) _
      refine XS.ifYes X15.here hx rfl (pc0 := 46) (pc' := 70) rfl (hb hby at_46) rfl ((if0 _ _).trans (teq hc46_24).1) (by decide) (by decide) ?_
      show Steps p.tables e below (T15.setTop (mkF m 70 #[.val (.int p0), .val (.int p1), .val (.int (p1 &&& (15 : Int32))), .val (.int (F1 (p1 &&& (15 : Int32)) (48 : Int32) (49 : Int32) (50 : Int32) (51 : Int32) (52 : Int32) (53 : Int32) (54 : Int32) (55 : Int32) (56 : Int32) (57 : Int32) (97 : Int32) (98 : Int32) (99 : Int32) (100 : Int32) (101 : Int32) (102 : Int32))), .val (.int (F1 (p1 &&& (15 : Int32)) (48 : Int32) (49 : Int32) (50 : Int32) (51 : Int32) (52 : Int32) (53 : Int32) (54 : Int32) (55 : Int32) (56 : Int32) (57 : Int32) (65 : Int32) (66 : Int32) (67 : Int32) (68 : Int32) (69 : Int32) (70 : Int32))), .val (.int (f0_m22 p0 p1))] [])) _
      refine XS.iconst X15.here hx rfl (hb hby at_70) ?_
      exact k)
    obtain ⟨fs, hr, hrun, hended, hRW⟩ := X15.leaveW hS3 (by rw [e15]; exact hk3) (v := some (.int (0 : Int32))) (fun h => by rw [Bd.returns] at h; cases h) hlk
    have hF : (F0 p0 p1) = (0 : Int32) := by unfold F0; rw [if_pos hc46_24]
    exact ⟨_, _, pre25 _ (retN X15 hx (t := .boolean) Bd.returns (by simp) (hb hby at_71) hr), hrun, hended, _, _, rfl, ⟨by rw [hF], N15⟩, hRW⟩
  obtain ⟨_, _, ⟨T26, L26, k26, n26⟩, -, X26, ⟨Lc26, hQ26, l26, y26, z26⟩, st26⟩ := Jvm.LawKit.callS X15 hx (y := (⟨x.cls, "spelled", "(I)Z"⟩ : MethodName)) hown (mvT hZ (hw _ (List.mem_of_getElem? (i := 38) rfl))) (mvT hZ (hw _ (List.mem_of_getElem? (i := 39) rfl))) (mvT hZ (hw _ (List.mem_of_getElem? (i := 40) rfl))) (mvT hZ (hw _ (List.mem_of_getElem? (i := 41) rfl))) (by decide) (backOf (W := 0) (rm7 l Zn a0' hw [] p0 sa1 sa3 b1 b3 k1 k3 s_COMPACT_STRINGS s_SIOOBE_FORMATTER h3 n0 Z3 LA LB z11 z8 V3' A3' z10 z9 Fv3' Fc3' OLDn Sn_COMPACT_STRINGS Sn_SIOOBE_FORMATTER hu_s_SIOOBE_FORMATTER hp8_0) hZ (hw _ (List.mem_of_getElem? (i := 41) rfl)) (hw _ (List.mem_of_getElem? (i := 40) rfl)) (by decide) (by decide)) (g := (mkF m 50 #[.val (.int p0), .val (.int p1), .val (.int (p1 &&& (15 : Int32))), .val (.int (F1 (p1 &&& (15 : Int32)) (48 : Int32) (49 : Int32) (50 : Int32) (51 : Int32) (52 : Int32) (53 : Int32) (54 : Int32) (55 : Int32) (56 : Int32) (57 : Int32) (97 : Int32) (98 : Int32) (99 : Int32) (100 : Int32) (101 : Int32) (102 : Int32))), .val (.int (F1 (p1 &&& (15 : Int32)) (48 : Int32) (49 : Int32) (50 : Int32) (51 : Int32) (52 : Int32) (53 : Int32) (54 : Int32) (55 : Int32) (56 : Int32) (57 : Int32) (65 : Int32) (66 : Int32) (67 : Int32) (68 : Int32) (69 : Int32) (70 : Int32))), .val (.int (f0_m22 p0 p1))] [(.int p0)])) rfl (by rw [hml]; rfl) (argsL := [(.int p0)]) (rest := []) (lenOf pd6 rfl) rfl (by show 2 * 0 + _ ≤ _; exact Nat.le_of_eq rfl) (hb hby at_50) (fun _ _ => ⟨rfl, e15, (by decide : 4 + 0 ≤ _), (by decide : 136 + 0 ≤ _)⟩)
  dsimp only [Pt.U, Pt.locs, Pt.cells, Pt.slots] at X26 l26 y26 z26 st26 hQ26
  subst l26 y26 z26
  obtain ⟨rfl, N26q, e26⟩ := hQ26
  have N26 := Fr.app N15 N26q
  have pre27 : ∀ t, Steps p.tables e below (T26.setTop (mkF m 53 #[.val (.int p0), .val (.int p1), .val (.int (p1 &&& (15 : Int32))), .val (.int (F1 (p1 &&& (15 : Int32)) (48 : Int32) (49 : Int32) (50 : Int32) (51 : Int32) (52 : Int32) (53 : Int32) (54 : Int32) (55 : Int32) (56 : Int32) (57 : Int32) (97 : Int32) (98 : Int32) (99 : Int32) (100 : Int32) (101 : Int32) (102 : Int32))), .val (.int (F1 (p1 &&& (15 : Int32)) (48 : Int32) (49 : Int32) (50 : Int32) (51 : Int32) (52 : Int32) (53 : Int32) (54 : Int32) (55 : Int32) (56 : Int32) (57 : Int32) (65 : Int32) (66 : Int32) (67 : Int32) (68 : Int32) (69 : Int32) (70 : Int32))), .val (.int (f0_m22 p0 p1))] [(.int (F7 p0))])) t → Steps p.tables e below (s₁.setTop (entryFrame m #[(.int p0), (.int p1)] maxLocals)) t := fun t k => pre23 t (by
    show Steps p.tables e below (T15.setTop (mkF m 46 #[.val (.int p0), .val (.int p1), .val (.int (p1 &&& (15 : Int32))), .val (.int (F1 (p1 &&& (15 : Int32)) (48 : Int32) (49 : Int32) (50 : Int32) (51 : Int32) (52 : Int32) (53 : Int32) (54 : Int32) (55 : Int32) (56 : Int32) (57 : Int32) (97 : Int32) (98 : Int32) (99 : Int32) (100 : Int32) (101 : Int32) (102 : Int32))), .val (.int (F1 (p1 &&& (15 : Int32)) (48 : Int32) (49 : Int32) (50 : Int32) (51 : Int32) (52 : Int32) (53 : Int32) (54 : Int32) (55 : Int32) (56 : Int32) (57 : Int32) (65 : Int32) (66 : Int32) (67 : Int32) (68 : Int32) (69 : Int32) (70 : Int32))), .val (.int (f0_m22 p0 p1))] [(.int (f0_m22 p0 p1))])) _
    refine XS.ifNo X15.here hx rfl (hb hby at_46) rfl ((if0 _ _).trans (feq hc46_24).1) ?_
    show Steps p.tables e below (T15.setTop (mkF m 49 #[.val (.int p0), .val (.int p1), .val (.int (p1 &&& (15 : Int32))), .val (.int (F1 (p1 &&& (15 : Int32)) (48 : Int32) (49 : Int32) (50 : Int32) (51 : Int32) (52 : Int32) (53 : Int32) (54 : Int32) (55 : Int32) (56 : Int32) (57 : Int32) (97 : Int32) (98 : Int32) (99 : Int32) (100 : Int32) (101 : Int32) (102 : Int32))), .val (.int (F1 (p1 &&& (15 : Int32)) (48 : Int32) (49 : Int32) (50 : Int32) (51 : Int32) (52 : Int32) (53 : Int32) (54 : Int32) (55 : Int32) (56 : Int32) (57 : Int32) (65 : Int32) (66 : Int32) (67 : Int32) (68 : Int32) (69 : Int32) (70 : Int32))), .val (.int (f0_m22 p0 p1))] [])) _
    refine XS.iloadN X15.here hx rfl (hb hby at_49) rfl ?_
    show Steps p.tables e below (T15.setTop (mkF m 50 #[.val (.int p0), .val (.int p1), .val (.int (p1 &&& (15 : Int32))), .val (.int (F1 (p1 &&& (15 : Int32)) (48 : Int32) (49 : Int32) (50 : Int32) (51 : Int32) (52 : Int32) (53 : Int32) (54 : Int32) (55 : Int32) (56 : Int32) (57 : Int32) (97 : Int32) (98 : Int32) (99 : Int32) (100 : Int32) (101 : Int32) (102 : Int32))), .val (.int (F1 (p1 &&& (15 : Int32)) (48 : Int32) (49 : Int32) (50 : Int32) (51 : Int32) (52 : Int32) (53 : Int32) (54 : Int32) (55 : Int32) (56 : Int32) (57 : Int32) (65 : Int32) (66 : Int32) (67 : Int32) (68 : Int32) (69 : Int32) (70 : Int32))), .val (.int (f0_m22 p0 p1))] [(.int p0)])) _
    refine st26 _ ?_
    exact k)
  by_cases hc53_28 : (F7 p0) = (0 : Int32)
  · have pre29 : ∀ t, Steps p.tables e below (T26.setTop (mkF m 71 #[.val (.int p0), .val (.int p1), .val (.int (p1 &&& (15 : Int32))), .val (.int (F1 (p1 &&& (15 : Int32)) (48 : Int32) (49 : Int32) (50 : Int32) (51 : Int32) (52 : Int32) (53 : Int32) (54 : Int32) (55 : Int32) (56 : Int32) (57 : Int32) (97 : Int32) (98 : Int32) (99 : Int32) (100 : Int32) (101 : Int32) (102 : Int32))), .val (.int (F1 (p1 &&& (15 : Int32)) (48 : Int32) (49 : Int32) (50 : Int32) (51 : Int32) (52 : Int32) (53 : Int32) (54 : Int32) (55 : Int32) (56 : Int32) (57 : Int32) (65 : Int32) (66 : Int32) (67 : Int32) (68 : Int32) (69 : Int32) (70 : Int32))), .val (.int (f0_m22 p0 p1))] [(.int (0 : Int32))])) t → Steps p.tables e below (s₁.setTop (entryFrame m #[(.int p0), (.int p1)] maxLocals)) t := fun t k => pre27 t (by
      show Steps p.tables e below (T26.setTop (mkF m 53 #[.val (.int p0), .val (.int p1), .val (.int (p1 &&& (15 : Int32))), .val (.int (F1 (p1 &&& (15 : Int32)) (48 : Int32) (49 : Int32) (50 : Int32) (51 : Int32) (52 : Int32) (53 : Int32) (54 : Int32) (55 : Int32) (56 : Int32) (57 : Int32) (97 : Int32) (98 : Int32) (99 : Int32) (100 : Int32) (101 : Int32) (102 : Int32))), .val (.int (F1 (p1 &&& (15 : Int32)) (48 : Int32) (49 : Int32) (50 : Int32) (51 : Int32) (52 : Int32) (53 : Int32) (54 : Int32) (55 : Int32) (56 : Int32) (57 : Int32) (65 : Int32) (66 : Int32) (67 : Int32) (68 : Int32) (69 : Int32) (70 : Int32))), .val (.int (f0_m22 p0 p1))] [(.int (F7 p0))])) _
      refine XS.ifYes X26.here hx rfl (pc0 := 53) (pc' := 70) rfl (hb hby at_53) rfl ((if0 _ _).trans (teq hc53_28).1) (by decide) (by decide) ?_
      show Steps p.tables e below (T26.setTop (mkF m 70 #[.val (.int p0), .val (.int p1), .val (.int (p1 &&& (15 : Int32))), .val (.int (F1 (p1 &&& (15 : Int32)) (48 : Int32) (49 : Int32) (50 : Int32) (51 : Int32) (52 : Int32) (53 : Int32) (54 : Int32) (55 : Int32) (56 : Int32) (57 : Int32) (97 : Int32) (98 : Int32) (99 : Int32) (100 : Int32) (101 : Int32) (102 : Int32))), .val (.int (F1 (p1 &&& (15 : Int32)) (48 : Int32) (49 : Int32) (50 : Int32) (51 : Int32) (52 : Int32) (53 : Int32) (54 : Int32) (55 : Int32) (56 : Int32) (57 : Int32) (65 : Int32) (66 : Int32) (67 : Int32) (68 : Int32) (69 : Int32) (70 : Int32))), .val (.int (f0_m22 p0 p1))] [])) _
      refine XS.iconst X26.here hx rfl (hb hby at_70) ?_
      exact k)
    obtain ⟨fs, hr, hrun, hended, hRW⟩ := X26.leaveW hS3 (by rw [e26]; exact hk3) (v := some (.int (0 : Int32))) (fun h => by rw [Bd.returns] at h; cases h) hlk
    have hF : (F0 p0 p1) = (0 : Int32) := by unfold F0; rw [if_neg hc46_24, if_pos hc53_28]
    exact ⟨_, _, pre29 _ (retN X26 hx (t := .boolean) Bd.returns (by simp) (hb hby at_71) hr), hrun, hended, _, _, rfl, ⟨by rw [hF], N26⟩, hRW⟩
  obtain ⟨_, _, ⟨T30, L30, k30, n30⟩, -, X30, ⟨Lc30, hQ30, l30, y30, z30⟩, st30⟩ := Jvm.LawKit.callS X26 hx (y := (⟨x.cls, "spelled", "(I)Z"⟩ : MethodName)) hown (mvT hZ (hw _ (List.mem_of_getElem? (i := 38) rfl))) (mvT hZ (hw _ (List.mem_of_getElem? (i := 39) rfl))) (mvT hZ (hw _ (List.mem_of_getElem? (i := 40) rfl))) (mvT hZ (hw _ (List.mem_of_getElem? (i := 41) rfl))) (by decide) (backOf (W := 0) (rm7 l Zn a0' hw [] (p0 &&& (127 : Int32)) sa1 sa3 b1 b3 k1 k3 s_COMPACT_STRINGS s_SIOOBE_FORMATTER h3 n0 Z3 LA LB z11 z8 V3' A3' z10 z9 Fv3' Fc3' OLDn Sn_COMPACT_STRINGS Sn_SIOOBE_FORMATTER hu_s_SIOOBE_FORMATTER hp8_0) hZ (hw _ (List.mem_of_getElem? (i := 41) rfl)) (hw _ (List.mem_of_getElem? (i := 40) rfl)) (by decide) (by decide)) (g := (mkF m 60 #[.val (.int p0), .val (.int p1), .val (.int (p1 &&& (15 : Int32))), .val (.int (F1 (p1 &&& (15 : Int32)) (48 : Int32) (49 : Int32) (50 : Int32) (51 : Int32) (52 : Int32) (53 : Int32) (54 : Int32) (55 : Int32) (56 : Int32) (57 : Int32) (97 : Int32) (98 : Int32) (99 : Int32) (100 : Int32) (101 : Int32) (102 : Int32))), .val (.int (F1 (p1 &&& (15 : Int32)) (48 : Int32) (49 : Int32) (50 : Int32) (51 : Int32) (52 : Int32) (53 : Int32) (54 : Int32) (55 : Int32) (56 : Int32) (57 : Int32) (65 : Int32) (66 : Int32) (67 : Int32) (68 : Int32) (69 : Int32) (70 : Int32))), .val (.int (f0_m22 p0 p1))] [(.int (p0 &&& (127 : Int32)))])) rfl (by rw [hml]; rfl) (argsL := [(.int (p0 &&& (127 : Int32)))]) (rest := []) (lenOf pd6 rfl) rfl (by show 2 * 0 + _ ≤ _; exact Nat.le_of_eq rfl) (hb hby at_60) (fun _ _ => ⟨rfl, e26, (by decide : 4 + 0 ≤ _), (by decide : 136 + 0 ≤ _)⟩)
  dsimp only [Pt.U, Pt.locs, Pt.cells, Pt.slots] at X30 l30 y30 z30 st30 hQ30
  subst l30 y30 z30
  obtain ⟨rfl, N30q, e30⟩ := hQ30
  have N30 := Fr.app N26 N30q
  have pre31 : ∀ t, Steps p.tables e below (T30.setTop (mkF m 63 #[.val (.int p0), .val (.int p1), .val (.int (p1 &&& (15 : Int32))), .val (.int (F1 (p1 &&& (15 : Int32)) (48 : Int32) (49 : Int32) (50 : Int32) (51 : Int32) (52 : Int32) (53 : Int32) (54 : Int32) (55 : Int32) (56 : Int32) (57 : Int32) (97 : Int32) (98 : Int32) (99 : Int32) (100 : Int32) (101 : Int32) (102 : Int32))), .val (.int (F1 (p1 &&& (15 : Int32)) (48 : Int32) (49 : Int32) (50 : Int32) (51 : Int32) (52 : Int32) (53 : Int32) (54 : Int32) (55 : Int32) (56 : Int32) (57 : Int32) (65 : Int32) (66 : Int32) (67 : Int32) (68 : Int32) (69 : Int32) (70 : Int32))), .val (.int (f0_m22 p0 p1))] [(.int (F7 (p0 &&& (127 : Int32))))])) t → Steps p.tables e below (s₁.setTop (entryFrame m #[(.int p0), (.int p1)] maxLocals)) t := fun t k => pre27 t (by
    show Steps p.tables e below (T26.setTop (mkF m 53 #[.val (.int p0), .val (.int p1), .val (.int (p1 &&& (15 : Int32))), .val (.int (F1 (p1 &&& (15 : Int32)) (48 : Int32) (49 : Int32) (50 : Int32) (51 : Int32) (52 : Int32) (53 : Int32) (54 : Int32) (55 : Int32) (56 : Int32) (57 : Int32) (97 : Int32) (98 : Int32) (99 : Int32) (100 : Int32) (101 : Int32) (102 : Int32))), .val (.int (F1 (p1 &&& (15 : Int32)) (48 : Int32) (49 : Int32) (50 : Int32) (51 : Int32) (52 : Int32) (53 : Int32) (54 : Int32) (55 : Int32) (56 : Int32) (57 : Int32) (65 : Int32) (66 : Int32) (67 : Int32) (68 : Int32) (69 : Int32) (70 : Int32))), .val (.int (f0_m22 p0 p1))] [(.int (F7 p0))])) _
    refine XS.ifNo X26.here hx rfl (hb hby at_53) rfl ((if0 _ _).trans (feq hc53_28).1) ?_
    show Steps p.tables e below (T26.setTop (mkF m 56 #[.val (.int p0), .val (.int p1), .val (.int (p1 &&& (15 : Int32))), .val (.int (F1 (p1 &&& (15 : Int32)) (48 : Int32) (49 : Int32) (50 : Int32) (51 : Int32) (52 : Int32) (53 : Int32) (54 : Int32) (55 : Int32) (56 : Int32) (57 : Int32) (97 : Int32) (98 : Int32) (99 : Int32) (100 : Int32) (101 : Int32) (102 : Int32))), .val (.int (F1 (p1 &&& (15 : Int32)) (48 : Int32) (49 : Int32) (50 : Int32) (51 : Int32) (52 : Int32) (53 : Int32) (54 : Int32) (55 : Int32) (56 : Int32) (57 : Int32) (65 : Int32) (66 : Int32) (67 : Int32) (68 : Int32) (69 : Int32) (70 : Int32))), .val (.int (f0_m22 p0 p1))] [])) _
    refine XS.iloadN X26.here hx rfl (hb hby at_56) rfl ?_
    show Steps p.tables e below (T26.setTop (mkF m 57 #[.val (.int p0), .val (.int p1), .val (.int (p1 &&& (15 : Int32))), .val (.int (F1 (p1 &&& (15 : Int32)) (48 : Int32) (49 : Int32) (50 : Int32) (51 : Int32) (52 : Int32) (53 : Int32) (54 : Int32) (55 : Int32) (56 : Int32) (57 : Int32) (97 : Int32) (98 : Int32) (99 : Int32) (100 : Int32) (101 : Int32) (102 : Int32))), .val (.int (F1 (p1 &&& (15 : Int32)) (48 : Int32) (49 : Int32) (50 : Int32) (51 : Int32) (52 : Int32) (53 : Int32) (54 : Int32) (55 : Int32) (56 : Int32) (57 : Int32) (65 : Int32) (66 : Int32) (67 : Int32) (68 : Int32) (69 : Int32) (70 : Int32))), .val (.int (f0_m22 p0 p1))] [(.int p0)])) _
    refine XS.bipush X26.here hx rfl (hb hby at_57) ?_
    show Steps p.tables e below (T26.setTop (mkF m 59 #[.val (.int p0), .val (.int p1), .val (.int (p1 &&& (15 : Int32))), .val (.int (F1 (p1 &&& (15 : Int32)) (48 : Int32) (49 : Int32) (50 : Int32) (51 : Int32) (52 : Int32) (53 : Int32) (54 : Int32) (55 : Int32) (56 : Int32) (57 : Int32) (97 : Int32) (98 : Int32) (99 : Int32) (100 : Int32) (101 : Int32) (102 : Int32))), .val (.int (F1 (p1 &&& (15 : Int32)) (48 : Int32) (49 : Int32) (50 : Int32) (51 : Int32) (52 : Int32) (53 : Int32) (54 : Int32) (55 : Int32) (56 : Int32) (57 : Int32) (65 : Int32) (66 : Int32) (67 : Int32) (68 : Int32) (69 : Int32) (70 : Int32))), .val (.int (f0_m22 p0 p1))] [(.int (127 : Int32)), (.int p0)])) _
    refine XS.iand X26.here hx rfl (hb hby at_59) rfl ?_
    show Steps p.tables e below (T26.setTop (mkF m 60 #[.val (.int p0), .val (.int p1), .val (.int (p1 &&& (15 : Int32))), .val (.int (F1 (p1 &&& (15 : Int32)) (48 : Int32) (49 : Int32) (50 : Int32) (51 : Int32) (52 : Int32) (53 : Int32) (54 : Int32) (55 : Int32) (56 : Int32) (57 : Int32) (97 : Int32) (98 : Int32) (99 : Int32) (100 : Int32) (101 : Int32) (102 : Int32))), .val (.int (F1 (p1 &&& (15 : Int32)) (48 : Int32) (49 : Int32) (50 : Int32) (51 : Int32) (52 : Int32) (53 : Int32) (54 : Int32) (55 : Int32) (56 : Int32) (57 : Int32) (65 : Int32) (66 : Int32) (67 : Int32) (68 : Int32) (69 : Int32) (70 : Int32))), .val (.int (f0_m22 p0 p1))] [(.int (p0 &&& (127 : Int32)))])) _
    refine st30 _ ?_
    exact k)
  by_cases hc63_32 : (F7 (p0 &&& (127 : Int32))) = (0 : Int32)
  · have pre33 : ∀ t, Steps p.tables e below (T30.setTop (mkF m 71 #[.val (.int p0), .val (.int p1), .val (.int (p1 &&& (15 : Int32))), .val (.int (F1 (p1 &&& (15 : Int32)) (48 : Int32) (49 : Int32) (50 : Int32) (51 : Int32) (52 : Int32) (53 : Int32) (54 : Int32) (55 : Int32) (56 : Int32) (57 : Int32) (97 : Int32) (98 : Int32) (99 : Int32) (100 : Int32) (101 : Int32) (102 : Int32))), .val (.int (F1 (p1 &&& (15 : Int32)) (48 : Int32) (49 : Int32) (50 : Int32) (51 : Int32) (52 : Int32) (53 : Int32) (54 : Int32) (55 : Int32) (56 : Int32) (57 : Int32) (65 : Int32) (66 : Int32) (67 : Int32) (68 : Int32) (69 : Int32) (70 : Int32))), .val (.int (f0_m22 p0 p1))] [(.int (0 : Int32))])) t → Steps p.tables e below (s₁.setTop (entryFrame m #[(.int p0), (.int p1)] maxLocals)) t := fun t k => pre31 t (by
      show Steps p.tables e below (T30.setTop (mkF m 63 #[.val (.int p0), .val (.int p1), .val (.int (p1 &&& (15 : Int32))), .val (.int (F1 (p1 &&& (15 : Int32)) (48 : Int32) (49 : Int32) (50 : Int32) (51 : Int32) (52 : Int32) (53 : Int32) (54 : Int32) (55 : Int32) (56 : Int32) (57 : Int32) (97 : Int32) (98 : Int32) (99 : Int32) (100 : Int32) (101 : Int32) (102 : Int32))), .val (.int (F1 (p1 &&& (15 : Int32)) (48 : Int32) (49 : Int32) (50 : Int32) (51 : Int32) (52 : Int32) (53 : Int32) (54 : Int32) (55 : Int32) (56 : Int32) (57 : Int32) (65 : Int32) (66 : Int32) (67 : Int32) (68 : Int32) (69 : Int32) (70 : Int32))), .val (.int (f0_m22 p0 p1))] [(.int (F7 (p0 &&& (127 : Int32))))])) _
      refine XS.ifYes X30.here hx rfl (pc0 := 63) (pc' := 70) rfl (hb hby at_63) rfl ((if0 _ _).trans (teq hc63_32).1) (by decide) (by decide) ?_
      show Steps p.tables e below (T30.setTop (mkF m 70 #[.val (.int p0), .val (.int p1), .val (.int (p1 &&& (15 : Int32))), .val (.int (F1 (p1 &&& (15 : Int32)) (48 : Int32) (49 : Int32) (50 : Int32) (51 : Int32) (52 : Int32) (53 : Int32) (54 : Int32) (55 : Int32) (56 : Int32) (57 : Int32) (97 : Int32) (98 : Int32) (99 : Int32) (100 : Int32) (101 : Int32) (102 : Int32))), .val (.int (F1 (p1 &&& (15 : Int32)) (48 : Int32) (49 : Int32) (50 : Int32) (51 : Int32) (52 : Int32) (53 : Int32) (54 : Int32) (55 : Int32) (56 : Int32) (57 : Int32) (65 : Int32) (66 : Int32) (67 : Int32) (68 : Int32) (69 : Int32) (70 : Int32))), .val (.int (f0_m22 p0 p1))] [])) _
      refine XS.iconst X30.here hx rfl (hb hby at_70) ?_
      exact k)
    obtain ⟨fs, hr, hrun, hended, hRW⟩ := X30.leaveW hS3 (by rw [e30]; exact hk3) (v := some (.int (0 : Int32))) (fun h => by rw [Bd.returns] at h; cases h) hlk
    have hF : (F0 p0 p1) = (0 : Int32) := by unfold F0; rw [if_neg hc46_24, if_neg hc53_28, if_pos hc63_32]
    exact ⟨_, _, pre33 _ (retN X30 hx (t := .boolean) Bd.returns (by simp) (hb hby at_71) hr), hrun, hended, _, _, rfl, ⟨by rw [hF], N30⟩, hRW⟩
  have pre34 : ∀ t, Steps p.tables e below (T30.setTop (mkF m 71 #[.val (.int p0), .val (.int p1), .val (.int (p1 &&& (15 : Int32))), .val (.int (F1 (p1 &&& (15 : Int32)) (48 : Int32) (49 : Int32) (50 : Int32) (51 : Int32) (52 : Int32) (53 : Int32) (54 : Int32) (55 : Int32) (56 : Int32) (57 : Int32) (97 : Int32) (98 : Int32) (99 : Int32) (100 : Int32) (101 : Int32) (102 : Int32))), .val (.int (F1 (p1 &&& (15 : Int32)) (48 : Int32) (49 : Int32) (50 : Int32) (51 : Int32) (52 : Int32) (53 : Int32) (54 : Int32) (55 : Int32) (56 : Int32) (57 : Int32) (65 : Int32) (66 : Int32) (67 : Int32) (68 : Int32) (69 : Int32) (70 : Int32))), .val (.int (f0_m22 p0 p1))] [(.int (1 : Int32))])) t → Steps p.tables e below (s₁.setTop (entryFrame m #[(.int p0), (.int p1)] maxLocals)) t := fun t k => pre31 t (by
    show Steps p.tables e below (T30.setTop (mkF m 63 #[.val (.int p0), .val (.int p1), .val (.int (p1 &&& (15 : Int32))), .val (.int (F1 (p1 &&& (15 : Int32)) (48 : Int32) (49 : Int32) (50 : Int32) (51 : Int32) (52 : Int32) (53 : Int32) (54 : Int32) (55 : Int32) (56 : Int32) (57 : Int32) (97 : Int32) (98 : Int32) (99 : Int32) (100 : Int32) (101 : Int32) (102 : Int32))), .val (.int (F1 (p1 &&& (15 : Int32)) (48 : Int32) (49 : Int32) (50 : Int32) (51 : Int32) (52 : Int32) (53 : Int32) (54 : Int32) (55 : Int32) (56 : Int32) (57 : Int32) (65 : Int32) (66 : Int32) (67 : Int32) (68 : Int32) (69 : Int32) (70 : Int32))), .val (.int (f0_m22 p0 p1))] [(.int (F7 (p0 &&& (127 : Int32))))])) _
    refine XS.ifNo X30.here hx rfl (hb hby at_63) rfl ((if0 _ _).trans (feq hc63_32).1) ?_
    show Steps p.tables e below (T30.setTop (mkF m 66 #[.val (.int p0), .val (.int p1), .val (.int (p1 &&& (15 : Int32))), .val (.int (F1 (p1 &&& (15 : Int32)) (48 : Int32) (49 : Int32) (50 : Int32) (51 : Int32) (52 : Int32) (53 : Int32) (54 : Int32) (55 : Int32) (56 : Int32) (57 : Int32) (97 : Int32) (98 : Int32) (99 : Int32) (100 : Int32) (101 : Int32) (102 : Int32))), .val (.int (F1 (p1 &&& (15 : Int32)) (48 : Int32) (49 : Int32) (50 : Int32) (51 : Int32) (52 : Int32) (53 : Int32) (54 : Int32) (55 : Int32) (56 : Int32) (57 : Int32) (65 : Int32) (66 : Int32) (67 : Int32) (68 : Int32) (69 : Int32) (70 : Int32))), .val (.int (f0_m22 p0 p1))] [])) _
    refine XS.iconst X30.here hx rfl (hb hby at_66) ?_
    show Steps p.tables e below (T30.setTop (mkF m 67 #[.val (.int p0), .val (.int p1), .val (.int (p1 &&& (15 : Int32))), .val (.int (F1 (p1 &&& (15 : Int32)) (48 : Int32) (49 : Int32) (50 : Int32) (51 : Int32) (52 : Int32) (53 : Int32) (54 : Int32) (55 : Int32) (56 : Int32) (57 : Int32) (97 : Int32) (98 : Int32) (99 : Int32) (100 : Int32) (101 : Int32) (102 : Int32))), .val (.int (F1 (p1 &&& (15 : Int32)) (48 : Int32) (49 : Int32) (50 : Int32) (51 : Int32) (52 : Int32) (53 : Int32) (54 : Int32) (55 : Int32) (56 : Int32) (57 : Int32) (65 : Int32) (66 : Int32) (67 : Int32) (68 : Int32) (69 : Int32) (70 : Int32))), .val (.int (f0_m22 p0 p1))] [(.int (1 : Int32))])) _
    refine XS.goto X30.here hx rfl (pc0 := 67) (pc' := 71) rfl (hb hby at_67) (by decide) (by decide) ?_
    exact k)
  obtain ⟨fs, hr, hrun, hended, hRW⟩ := X30.leaveW hS3 (by rw [e30]; exact hk3) (v := some (.int (1 : Int32))) (fun h => by rw [Bd.returns] at h; cases h) hlk
  have hF : (F0 p0 p1) = (1 : Int32) := by unfold F0; rw [if_neg hc46_24, if_neg hc53_28, if_neg hc63_32]
  exact ⟨_, _, pre34 _ (retN X30 hx (t := .boolean) Bd.returns (by simp) (hb hby at_71) hr), hrun, hended, _, _, rfl, ⟨by rw [hF], N30⟩, hRW⟩
theorem own_lit (x : Int32) (n : Nat) (h0 : 0 ≤ x.toInt) (h : x.toInt < n) (hn : n ≤ 2147483647) : ∃ k : Fin n, x = Int32.ofNat k.1 := by
  obtain ⟨k, hk⟩ : ∃ k : Nat, x.toInt = k := ⟨x.toInt.toNat, by omega⟩
  refine ⟨⟨k, by omega⟩, ?_⟩
  apply Int32.toInt_inj.mp
  rw [Int32.toInt_ofNat_of_lt (show k < 2 ^ 31 by omega), hk]
set_option maxRecDepth 65536 in
theorem own_f7 : ∀ k : Fin 103, F7 (Int32.ofNat k.1) = 1 := by decide +kernel
set_option maxRecDepth 65536 in
theorem own_f16 : ∀ k : Fin 16, F6 (F1 (Int32.ofNat k.1) 48 49 50 51 52 53 54 55 56 57 97 98 99 100 101 102) = Int32.ofNat k.1 ∧ F6 (F1 (Int32.ofNat k.1) 48 49 50 51 52 53 54 55 56 57 65 66 67 68 69 70) = Int32.ofNat k.1 := by decide +kernel
theorem own_F7 (c : Int32) : F7 c = 1 := by
  by_cases h0 : c.toInt < 0
  · have e : F6 c = -1 := by
      unfold F6 f6_m20
      rw [if_pos (by rw [Int32.lt_iff_toInt_lt]; exact Int.lt_trans h0 (by decide))]
    unfold F7; rw [if_pos e]
  · by_cases h1 : c.toInt < 103
    · obtain ⟨k, rfl⟩ := own_lit c 103 (by omega) h1 (by omega)
      exact own_f7 k
    · have g : ∀ y : Int32, y.toInt < 103 → y < c := fun y hy => by rw [Int32.lt_iff_toInt_lt]; omega
      have g' : ∀ y : Int32, y.toInt < 103 → ¬ c < y := fun y hy => by rw [Int32.lt_iff_toInt_lt]; omega
      have e : F6 c = -1 := by
        unfold F6 f6_m20
        rw [if_neg (g' 48 (by decide)), if_pos (g 57 (by decide)), if_neg (g' 97 (by decide)), if_pos (g 102 (by decide))]
      unfold F7; rw [if_pos e]
theorem own_law (p0 p1 : Int32) : F0 p0 p1 = 1 := by
  have r : (p1 &&& (15 : Int32)).toInt = p1.toInt % (2 ^ 4 : Nat) := c_mask p1 15 4 (by decide) (by decide)
  obtain ⟨k, hk⟩ := own_lit (p1 &&& 15) 16 (by omega) (by omega) (by omega)
  have e : f0_m22 p0 p1 = 1 := by
    unfold f0_m22
    rw [hk, if_pos (own_f16 k).1, if_pos (own_f16 k).2]
  unfold F0
  rw [e, own_F7, own_F7]; decide
set_option maxRecDepth 65536 in
set_option maxHeartbeats 40000000 in
theorem comes_1 {Post : Tables → Env → Array Value → State → Outcome → State → Prop} (hpost : ∀ tb e args s v u, (limb_1_1.after args s (.returned v) u = true ∧ limb_1_2.after args s (.returned v) u = true ∧ True) → FramedW s (.returned v) u (Jvm.fieldLocs frame_1_writes args s ++ Jvm.arrayLocs frame_1_arrays args s ++ Jvm.staticLocs frame_1_statics s) 8 2112 → Post tb e args s (.returned v) u) :
    ArmFor flags0 classFile x code maxLocals ret World_1 tables_1 room_1 Calls_1 rest_1 Pre_1 Post := by
  intro l hfl _ _ p e ha hc hk s m args below hf hA hF happ hP
  obtain ⟨hcalls, hrest, hpre⟩ := hP
  obtain ⟨-, -, -, hnamed, -, -, -, hat⟩ := (Spec.applies_iff hf).mp happ
  obtain ⟨hg, hn⟩ := and_e (Cond.before_iff.mp (show (Jvm.Cond.and given_1 narrow_1).before args s = true from hpre))
  obtain ⟨hcount, g0⟩ := and_e hg
  obtain ⟨ga0, g1⟩ := and_e g0
  obtain ⟨w0, w1, rfl⟩ : ∃ w0 w1 : Value, args = #[w0, w1] := by
    have hs : args.size = 2 := by simpa [Cond.value, given_1] using hcount
    obtain ⟨L⟩ := args
    match L, hs with
    | [w0, w1], _ => exact ⟨w0, w1, rfl⟩
  have hw := fun d (hd : d ∈ tables_1) => atoms_spec (ws := Jvm.Cond.code x code maxLocals ret :: tables_1) hat d (List.mem_cons_of_mem _ hd)
  obtain ⟨i0, ei0⟩ := is_v ga0
  obtain rfl : w0 = (.int i0) := Option.some.inj ei0
  obtain ⟨i1, ei1⟩ := is_v g1
  obtain rfl : w1 = (.int i1) := Option.some.inj ei1
  obtain ⟨hsets, hown0⟩ := atoms_of _ (rest_1_c_eq ▸ (show rest_1_c.before _ s = true from hrest))
  obtain ⟨s_COMPACT_STRINGS, hsC⟩ := is_v (Cond.before_iff.mp (hsets _ (List.mem_of_getElem? (i := 1) rfl)))
  have S_s_COMPACT_STRINGS := Sta.start hsC (Or.inl (hsets _ (List.mem_of_getElem? (i := 0) rfl)))
  obtain ⟨s_SIOOBE_FORMATTER, hsF, hu_s_SIOOBE_FORMATTER⟩ := isR_v (Cond.before_iff.mp (hsets _ (List.mem_of_getElem? (i := 8) rfl)))
  have S_s_SIOOBE_FORMATTER := Sta.start hsF (Or.inl (hsets _ (List.mem_of_getElem? (i := 7) rfl)))
  have hcomp : ¬ (s_COMPACT_STRINGS = (0 : Int32)) := fun q => by
    have h0 := not_v (Cond.before_iff.mp (hsets _ (List.mem_of_getElem? (i := 2) rfl)))
    rw [q] at hsC
    rw [eq_i hsC (Term.int_eval (0)) rfl] at h0
    cases h0
  have OLD0 := Old.start s
  have CH0 := CHv.start (own_EW hw) (fun q hq => hcalls.1 q hq) (hsets _ (List.mem_of_getElem? (i := 2) rfl)) (hw _ (List.mem_of_getElem? (i := 3) rfl)) (hw _ (List.mem_of_getElem? (i := 2) rfl))
  obtain ⟨n, o, h1, h2, h3, _, L, rfl, ⟨rfl, N⟩, hq⟩ := rm0 l s _ hw tables_1 i0 i1 s_COMPACT_STRINGS s_SIOOBE_FORMATTER s.heap s.heap.size (Nat.le_refl _) CH0 OLD0 S_s_COMPACT_STRINGS S_s_SIOOBE_FORMATTER hu_s_SIOOBE_FORMATTER hcomp p e ha hc hk s m _ below hf ((Spec.applies_iff_loose hf).mp happ).1 ⟨rfl, rfl, rfl⟩ trivial
  have hlaw := own_law i0 i1
  refine ⟨n, _, h1, h2, h3, hpost _ _ _ _ _ _ ⟨Cond.after_iff.mpr rfl, Cond.after_iff.mpr (eq_i res_at (Term.int_eval (1)) (congrArg Value.int hlaw)), trivial⟩ ⟨hq.1, hq.2.1, hq.2.2.1, (hq.2.2.2.sift fun y hy => Or.inr (N y hy)).mono (by decide) (by decide)⟩⟩
theorem main_1_1 : Claimed_1_1 := comes_1 fun _ _ _ _ _ _ h hF => ⟨h.1, hF⟩
theorem main_1_2 : Claimed_1_2 := comes_1 fun _ _ _ _ _ _ h hF => ⟨h.2.1, hF⟩
end Jvm.Pilot.@@N@@
namespace Jvm.Pilot.@@N@@
open Jvm Jvm.ClassFile Sem Op Lib Jvm.Free Jvm.Stand Jvm.Pilot.@@N@@.Jvm.D
/-! MADE BY PROGRAM (witnessworld.py) out of the Statement's table words and the real class files: 17 classes; the members and pool entries that the words name. The judged class is class 1, her method 1. -/
namespace start1
open Jvm.ClassFile
def u (s : String) : CpInfo := .utf8 (stringToUtf16 s)
/-- a pool by its gaps: so many unusable entries, then the entry; so many at the end -/
def gap : Nat → List CpInfo → List CpInfo
  | 0, r => r
  | n + 1, r => .unusable :: gap n r
def poolList (es : List (Nat × CpInfo)) (last : Nat) : List CpInfo := es.foldr (fun e r => gap e.1 (e.2 :: r)) (gap last [])
def pool (es : List (Nat × CpInfo)) (last : Nat) : Array CpInfo := ⟨poolList es last⟩
def fileOf (pool : Array CpInfo) (this : Nat) (attrs : Array Attribute := #[]) (ms : Array MethodInfo := #[]) (fl : Nat := 33) (sup : Nat := 0) (ifs : Array Nat := #[]) (fds : Array FieldInfo := #[]) : ClassFile where
  minorVersion := 0
  majorVersion := 65
  constantPool := pool
  accessFlags := fl
  thisClass := this
  superClass := sup
  interfaces := ifs
  fields := fds
  methods := ms
  attributes := attrs
def plain (name : String) (sup : Option ClassId) : Class where
  name := name
  kind := .ordinary
  loader := none
  accessFlags := 33
  super := sup
  interfaces := #[]
  cf := none
  fields := #[]
  methods := #[]
  instanceTypes := #[]
  staticTypes := #[]
  resolved := #[]
  callSites := []
  init := .initialized
  statics := none
  mirror := none

def pool0 : Array CpInfo := pool [(5, u "<init>"), (0, u "()V"), (1, .class_ 10), (1, u "java/lang/Object")] 113

def k0m0 : Method := { name := "<init>", desc := "()V", sig := { parameters := [], returnType := none }, accessFlags := 1, code := none }
/-- java/lang/Object -/
def k0 : Class := { plain "java/lang/Object" none with
  accessFlags := 33
  interfaces := #[]
  cf := some (fileOf pool0 8 #[] #[{ accessFlags := 1, nameIndex := 5, descriptorIndex := 6, attributes := #[] }] 33 0 #[] #[])
  fields := #[]
  methods := #[k0m0]
  instanceTypes := #[]
  staticTypes := #[]
  resolved := Array.replicate 124 none
  statics := none }

def pool1 : Array CpInfo := pool [(2, .class_ 4), (1, u "java/lang/Object"), (0, u "<init>"), (0, u "()V"), (0, .string 8), (0, u "0123456789abcdef"), (0, .methodref 10 11), (0, .class_ 12), (0, .nameAndType 13 14), (0, u "java/lang/String"), (0, u "charAt"), (0, u "(I)C"), (0, .string 16), (0, u "0123456789ABCDEF"), (0, .methodref 18 19), (0, .class_ 20), (0, .nameAndType 21 22), (0, u site_21.cls), (0, u "hexDigit"), (0, u "(I)I"), (0, .methodref 24 25), (0, .class_ 26), (0, .nameAndType 27 28), (0, u x.cls), (0, u "spelled"), (0, u "(I)Z"), (2, u "law"), (0, u "(II)Z")] 3

def k1m0 : Method := { name := "<init>", desc := "()V", sig := { parameters := [], returnType := none }, accessFlags := 2, code := none }
def k1c1 : Code := { maxStack := 2, maxLocals := 6, code := code, exceptionTable := #[], attributes := #[] }
def k1m1 : Method := { name := "law", desc := "(II)Z", sig := { parameters := [.int, .int], returnType := some .boolean }, accessFlags := 9, code := some k1c1 }
def k1c2 : Code := { maxStack := 3, maxLocals := 2, code := method_3_code, exceptionTable := #[], attributes := #[] }
def k1m2 : Method := { name := "spelled", desc := "(I)Z", sig := { parameters := [.int], returnType := some .boolean }, accessFlags := 10, code := some k1c2 }
def k1 : Class := { plain x.cls (some 0) with
  accessFlags := 49
  interfaces := #[]
  cf := some (fileOf pool1 24 #[] #[{ accessFlags := 2, nameIndex := 5, descriptorIndex := 6, attributes := #[] }, { accessFlags := 9, nameIndex := 31, descriptorIndex := 32, attributes := #[] }, { accessFlags := 10, nameIndex := 27, descriptorIndex := 28, attributes := #[] }] 49 2 #[] #[])
  fields := #[]
  methods := #[k1m0, k1m1, k1m2]
  instanceTypes := #[]
  staticTypes := #[]
  resolved := Array.replicate 36 none
  statics := none }

def pool2 : Array CpInfo := pool [(1, .class_ 2), (0, u "java/io/Serializable"), (0, .class_ 4), (0, u "java/lang/Object")] 2

/-- java/io/Serializable -/
def k2 : Class := { plain "java/io/Serializable" (some 0) with
  accessFlags := 1537
  interfaces := #[]
  cf := some (fileOf pool2 1 #[] #[] 1537 3 #[] #[])
  fields := #[]
  methods := #[]
  instanceTypes := #[]
  staticTypes := #[]
  resolved := Array.replicate 7 none
  statics := none }

def pool3 : Array CpInfo := pool [(1, .class_ 2), (0, u "java/lang/Comparable"), (0, .class_ 4), (0, u "java/lang/Object")] 7

/-- java/lang/Comparable -/
def k3 : Class := { plain "java/lang/Comparable" (some 0) with
  accessFlags := 1537
  interfaces := #[]
  cf := some (fileOf pool3 1 #[] #[] 1537 3 #[] #[])
  fields := #[]
  methods := #[]
  instanceTypes := #[]
  staticTypes := #[]
  resolved := Array.replicate 12 none
  statics := none }

def pool4 : Array CpInfo := pool [(2, .class_ 4), (1, u "java/lang/CharSequence"), (42, .class_ 48), (0, u "java/lang/CharSequence$1CodePointIterator"), (10, .class_ 60), (0, u "java/lang/CharSequence$1CharIterator"), (5, .class_ 67), (0, u "java/lang/Object")] 63

/-- java/lang/CharSequence -/
def k4 : Class := { plain "java/lang/CharSequence" (some 0) with
  accessFlags := 1537
  interfaces := #[]
  cf := some (fileOf pool4 2 #[.nestMembers #[47, 59]] #[] 1537 66 #[] #[])
  fields := #[]
  methods := #[]
  instanceTypes := #[]
  staticTypes := #[]
  resolved := Array.replicate 131 none
  statics := none }

def pool5 : Array CpInfo := pool [(1, .class_ 2), (0, u "java/lang/constant/Constable"), (0, .class_ 4), (0, u "java/lang/Object")] 6

/-- java/lang/constant/Constable -/
def k5 : Class := { plain "java/lang/constant/Constable" (some 0) with
  accessFlags := 1537
  interfaces := #[]
  cf := some (fileOf pool5 1 #[] #[] 1537 3 #[] #[])
  fields := #[]
  methods := #[]
  instanceTypes := #[]
  staticTypes := #[]
  resolved := Array.replicate 11 none
  statics := none }

def pool6 : Array CpInfo := pool [(1, .class_ 2), (0, u "java/lang/constant/ConstantDesc"), (0, .class_ 4), (0, u "java/lang/Object")] 32

/-- java/lang/constant/ConstantDesc -/
def k6 : Class := { plain "java/lang/constant/ConstantDesc" (some 0) with
  accessFlags := 1537
  interfaces := #[]
  cf := some (fileOf pool6 1 #[] #[] 1537 3 #[] #[])
  fields := #[]
  methods := #[]
  instanceTypes := #[]
  staticTypes := #[]
  resolved := Array.replicate 37 none
  statics := none }

def pool7 : Array CpInfo := pool [(2, .class_ 4), (1, u "java/lang/Object"), (0, u "<init>"), (0, u "()V"), (2, .fieldref 10 11), (0, .class_ 12), (0, .nameAndType 13 14), (0, u "java/lang/String"), (0, u "value"), (0, u "[B"), (0, .fieldref 10 16), (0, .nameAndType 17 18), (0, u "coder"), (0, u "B"), (2, u "hash"), (0, u "I"), (2, u "hashIsZero"), (0, u "Z"), (11, .fieldref 10 39), (0, .nameAndType 40 26), (0, u "COMPACT_STRINGS"), (66, .class_ 109), (1, u "java/lang/StringLatin1"), (32, u "()Z"), (220, u "([BI)C"), (27, u "(II)V"), (35, u "(I)C"), (64, .methodref 10 493), (0, .nameAndType 494 142), (0, u "isLatin1"), (0, .methodref 107 496), (0, .nameAndType 497 363), (0, u "charAt"), (3, u "checkIndex"), (73, .class_ 576), (0, u "java/lang/CharSequence"), (22, u "CASE_INSENSITIVE_ORDER"), (0, u "Ljava/util/Comparator;"), (452, .fieldref 1054 1055), (0, .class_ 1056), (0, .nameAndType 1057 1058), (0, u "jdk/internal/util/Preconditions"), (0, u "SIOOBE_FORMATTER"), (0, u "Ljava/util/function/BiFunction;"), (0, .methodref 1054 1060), (0, .nameAndType 501 1061), (0, u "(IILjava/util/function/BiFunction;)I"), (39, u "serialPersistentFields"), (0, u "[Ljava/io/ObjectStreamField;"), (0, .class_ 1104), (0, u "java/lang/String$CaseInsensitiveComparator"), (1, .class_ 1107), (0, u "java/io/Serializable"), (0, .class_ 1109), (0, u "java/lang/Comparable"), (0, .class_ 1111), (0, u "java/lang/constant/Constable"), (0, .class_ 1113), (0, u "java/lang/constant/ConstantDesc"), (2, u "serialVersionUID"), (0, u "J"), (3, u "REPL"), (0, u "C"), (2, u "LATIN1"), (1, u "UTF16")] 323

def k7m0 : Method := { name := "<init>", desc := "()V", sig := { parameters := [], returnType := none }, accessFlags := 1, code := none }
def k7c1 : Code := { maxStack := 2, maxLocals := 2, code := jdk_42_method_56_code, exceptionTable := #[], attributes := #[] }
def k7m1 : Method := { name := "charAt", desc := "(I)C", sig := { parameters := [.int], returnType := some .char }, accessFlags := 1, code := some k7c1 }
def k7c2 : Code := { maxStack := 1, maxLocals := 1, code := jdk_42_method_154_code, exceptionTable := #[], attributes := #[] }
def k7m2 : Method := { name := "isLatin1", desc := "()Z", sig := { parameters := [], returnType := some .boolean }, accessFlags := 0, code := some k7c2 }
def k7c3 : Code := { maxStack := 3, maxLocals := 2, code := jdk_42_method_155_code, exceptionTable := #[], attributes := #[] }
def k7m3 : Method := { name := "checkIndex", desc := "(II)V", sig := { parameters := [.int, .int], returnType := none }, accessFlags := 8, code := some k7c3 }
/-- java/lang/String -/
def k7 : Class := { plain "java/lang/String" (some 0) with
  accessFlags := 49
  interfaces := #[2, 3, 4, 5, 6]
  cf := some (fileOf pool7 10 #[.nestMembers #[1103]] #[{ accessFlags := 1, nameIndex := 5, descriptorIndex := 6, attributes := #[] }, { accessFlags := 1, nameIndex := 497, descriptorIndex := 427, attributes := #[] }, { accessFlags := 0, nameIndex := 494, descriptorIndex := 142, attributes := #[] }, { accessFlags := 8, nameIndex := 501, descriptorIndex := 391, attributes := #[] }] 49 2 #[1106, 1108, 575, 1110, 1112] #[{ accessFlags := 18, nameIndex := 13, descriptorIndex := 14, attributes := #[] }, { accessFlags := 18, nameIndex := 17, descriptorIndex := 18, attributes := #[] }, { accessFlags := 2, nameIndex := 21, descriptorIndex := 22, attributes := #[] }, { accessFlags := 2, nameIndex := 25, descriptorIndex := 26, attributes := #[] }, { accessFlags := 26, nameIndex := 1116, descriptorIndex := 1117, attributes := #[] }, { accessFlags := 24, nameIndex := 40, descriptorIndex := 26, attributes := #[] }, { accessFlags := 26, nameIndex := 1101, descriptorIndex := 1102, attributes := #[] }, { accessFlags := 26, nameIndex := 1121, descriptorIndex := 1122, attributes := #[] }, { accessFlags := 25, nameIndex := 599, descriptorIndex := 600, attributes := #[] }, { accessFlags := 24, nameIndex := 1125, descriptorIndex := 18, attributes := #[] }, { accessFlags := 24, nameIndex := 1127, descriptorIndex := 18, attributes := #[] }])
  fields := #[{ name := "value", type := (.array .byte), accessFlags := 18, slot := 0, constantValue := 0 }, { name := "coder", type := .byte, accessFlags := 18, slot := 1, constantValue := 0 }, { name := "hash", type := .int, accessFlags := 2, slot := 2, constantValue := 0 }, { name := "hashIsZero", type := .boolean, accessFlags := 2, slot := 3, constantValue := 0 }, { name := "serialVersionUID", type := .long, accessFlags := 26, slot := 0, constantValue := 0 }, { name := "COMPACT_STRINGS", type := .boolean, accessFlags := 24, slot := 1, constantValue := 0 }, { name := "serialPersistentFields", type := (.array (.object "java/io/ObjectStreamField")), accessFlags := 26, slot := 2, constantValue := 0 }, { name := "REPL", type := .char, accessFlags := 26, slot := 3, constantValue := 0 }, { name := "CASE_INSENSITIVE_ORDER", type := (.object "java/util/Comparator"), accessFlags := 25, slot := 4, constantValue := 0 }, { name := "LATIN1", type := .byte, accessFlags := 24, slot := 5, constantValue := 0 }, { name := "UTF16", type := .byte, accessFlags := 24, slot := 6, constantValue := 0 }]
  methods := #[k7m0, k7m1, k7m2, k7m3]
  instanceTypes := #[(.array .byte), .byte, .int, .boolean]
  staticTypes := #[.long, .boolean, (.array (.object "java/io/ObjectStreamField")), .char, (.object "java/util/Comparator"), .byte, .byte]
  resolved := Array.replicate 1451 none
  statics := some 0 }

def pool8 : Array CpInfo := pool [(1, .class_ 2), (0, u "java/lang/String"), (1, .class_ 6), (1, u "java/lang/Object"), (0, u "<init>"), (0, u "()V"), (0, .methodref 1 10), (0, .nameAndType 11 12), (0, u "checkIndex"), (0, u "(II)V"), (1, .class_ 16), (1, u "java/lang/StringLatin1"), (36, u "([BI)C"), (67, u "$assertionsDisabled"), (0, u "Z"), (98, .class_ 223), (1, u "java/lang/StringLatin1$LinesSpliterator"), (28, u "charAt"), (137, .class_ 391), (0, u "java/lang/StringLatin1$CharsSpliterator")] 3

def k8m0 : Method := { name := "<init>", desc := "()V", sig := { parameters := [], returnType := none }, accessFlags := 0, code := none }
def k8c1 : Code := { maxStack := 2, maxLocals := 2, code := jdk_43_method_2_code, exceptionTable := #[], attributes := #[] }
def k8m1 : Method := { name := "charAt", desc := "([BI)C", sig := { parameters := [(.array .byte), .int], returnType := some .char }, accessFlags := 9, code := some k8c1 }
/-- java/lang/StringLatin1 -/
def k8 : Class := { plain "java/lang/StringLatin1" (some 0) with
  accessFlags := 48
  interfaces := #[]
  cf := some (fileOf pool8 14 #[.nestMembers #[390, 221]] #[{ accessFlags := 0, nameIndex := 7, descriptorIndex := 8, attributes := #[] }, { accessFlags := 9, nameIndex := 252, descriptorIndex := 53, attributes := #[] }] 48 4 #[] #[{ accessFlags := 4120, nameIndex := 121, descriptorIndex := 122, attributes := #[] }])
  fields := #[{ name := "$assertionsDisabled", type := .boolean, accessFlags := 4120, slot := 0, constantValue := 0 }]
  methods := #[k8m0, k8m1]
  instanceTypes := #[]
  staticTypes := #[.boolean]
  resolved := Array.replicate 395 none
  statics := none }

def pool9 : Array CpInfo := pool [(2, .class_ 4), (1, u "java/lang/Object"), (0, u "<init>"), (0, u "()V"), (17, .class_ 26), (1, u "jdk/internal/util/Preconditions"), (6, u "checkIndex"), (21, .class_ 56), (0, u "jdk/internal/util/Preconditions$4"), (57, .class_ 115), (0, u "jdk/internal/util/Preconditions$1"), (7, u "SIOOBE_FORMATTER"), (0, u "Ljava/util/function/BiFunction;"), (0, .class_ 126), (0, u "jdk/internal/util/Preconditions$2"), (3, u "AIOOBE_FORMATTER"), (0, .class_ 132), (0, u "jdk/internal/util/Preconditions$3"), (3, u "IOOBE_FORMATTER"), (41, u "(IILjava/util/function/BiFunction;)I")] 15

def k9m0 : Method := { name := "<init>", desc := "()V", sig := { parameters := [], returnType := none }, accessFlags := 1, code := none }
def k9c1 : Code := { maxStack := 3, maxLocals := 3, code := jdk_41_method_11_code, exceptionTable := #[], attributes := #[] }
def k9m1 : Method := { name := "checkIndex", desc := "(IILjava/util/function/BiFunction;)I", sig := { parameters := [.int, .int, (.object "java/util/function/BiFunction")], returnType := some .int }, accessFlags := 9, code := some k9c1 }
/-- jdk/internal/util/Preconditions -/
def k9 : Class := { plain "jdk/internal/util/Preconditions" (some 0) with
  accessFlags := 33
  interfaces := #[]
  cf := some (fileOf pool9 24 #[.nestMembers #[55, 131, 125, 114]] #[{ accessFlags := 1, nameIndex := 5, descriptorIndex := 6, attributes := #[] }, { accessFlags := 9, nameIndex := 33, descriptorIndex := 178, attributes := #[] }] 33 2 #[] #[{ accessFlags := 25, nameIndex := 123, descriptorIndex := 124, attributes := #[] }, { accessFlags := 25, nameIndex := 130, descriptorIndex := 124, attributes := #[] }, { accessFlags := 25, nameIndex := 136, descriptorIndex := 124, attributes := #[] }])
  fields := #[{ name := "SIOOBE_FORMATTER", type := (.object "java/util/function/BiFunction"), accessFlags := 25, slot := 0, constantValue := 0 }, { name := "AIOOBE_FORMATTER", type := (.object "java/util/function/BiFunction"), accessFlags := 25, slot := 1, constantValue := 0 }, { name := "IOOBE_FORMATTER", type := (.object "java/util/function/BiFunction"), accessFlags := 25, slot := 2, constantValue := 0 }]
  methods := #[k9m0, k9m1]
  instanceTypes := #[]
  staticTypes := #[(.object "java/util/function/BiFunction"), (.object "java/util/function/BiFunction"), (.object "java/util/function/BiFunction")]
  resolved := Array.replicate 194 none
  statics := some 1 }

def pool10 : Array CpInfo := pool [(2, .class_ 4), (1, u "java/lang/Object"), (0, u "<init>"), (0, u "()V"), (1, .class_ 10), (1, u site_21.cls), (26, u "INDICATORS"), (0, u "[Z"), (2, u "FLOW_INDICATORS"), (10, u "(I)I"), (52, u "END"), (0, u "I"), (2, u "BYTE_ORDER_MARK"), (8, u "hexDigit")] 35

def k10m0 : Method := { name := "<init>", desc := "()V", sig := { parameters := [], returnType := none }, accessFlags := 2, code := none }
def k10c1 : Code := { maxStack := 2, maxLocals := 2, code := prog_50_method_15_code, exceptionTable := #[], attributes := #[] }
def k10m1 : Method := { name := "hexDigit", desc := "(I)I", sig := { parameters := [.int], returnType := some .int }, accessFlags := 9, code := some k10c1 }
def k10 : Class := { plain site_21.cls (some 0) with
  accessFlags := 49
  interfaces := #[]
  cf := some (fileOf pool10 8 #[] #[{ accessFlags := 2, nameIndex := 5, descriptorIndex := 6, attributes := #[] }, { accessFlags := 9, nameIndex := 118, descriptorIndex := 52, attributes := #[] }] 49 2 #[] #[{ accessFlags := 25, nameIndex := 105, descriptorIndex := 106, attributes := #[] }, { accessFlags := 25, nameIndex := 109, descriptorIndex := 106, attributes := #[] }, { accessFlags := 26, nameIndex := 37, descriptorIndex := 38, attributes := #[] }, { accessFlags := 26, nameIndex := 41, descriptorIndex := 38, attributes := #[] }])
  fields := #[{ name := "END", type := .int, accessFlags := 25, slot := 0, constantValue := 0 }, { name := "BYTE_ORDER_MARK", type := .int, accessFlags := 25, slot := 1, constantValue := 0 }, { name := "INDICATORS", type := (.array .boolean), accessFlags := 26, slot := 2, constantValue := 0 }, { name := "FLOW_INDICATORS", type := (.array .boolean), accessFlags := 26, slot := 3, constantValue := 0 }]
  methods := #[k10m0, k10m1]
  instanceTypes := #[]
  staticTypes := #[.int, .int, (.array .boolean), (.array .boolean)]
  resolved := Array.replicate 154 none
  statics := none }

def pool11 : Array CpInfo := pool [(9, u "<init>"), (6, .class_ 18), (1, u "java/lang/Object"), (0, u "()V"), (1, .class_ 23), (1, u "jdk/internal/util/ArraysSupport"), (0, u "LOG2_ARRAY_LONG_INDEX_SCALE"), (0, u "I"), (2, u "U"), (0, u "Ljdk/internal/misc/Unsafe;"), (8, u "BIG_ENDIAN"), (0, u "Z"), (8, u "LOG2_BYTE_BIT_SIZE"), (4, u "LOG2_ARRAY_INT_INDEX_SCALE"), (54, u "JLA"), (0, u "Ljdk/internal/access/JavaLangAccess;"), (11, u "LOG2_ARRAY_BOOLEAN_INDEX_SCALE"), (9, u "LOG2_ARRAY_BYTE_INDEX_SCALE"), (5, u "LOG2_ARRAY_CHAR_INDEX_SCALE"), (5, u "LOG2_ARRAY_SHORT_INDEX_SCALE"), (18, u "LOG2_ARRAY_FLOAT_INDEX_SCALE"), (24, u "LOG2_ARRAY_DOUBLE_INDEX_SCALE"), (89, u "T_BOOLEAN"), (2, u "T_CHAR"), (1, u "T_FLOAT"), (1, u "T_DOUBLE"), (1, u "T_BYTE"), (1, u "T_SHORT"), (1, u "T_INT"), (1, u "T_LONG"), (1, u "SOFT_MAX_ARRAY_LENGTH")] 83

def k11m0 : Method := { name := "<init>", desc := "()V", sig := { parameters := [], returnType := none }, accessFlags := 2, code := none }
/-- jdk/internal/util/ArraysSupport -/
def k11 : Class := { plain "jdk/internal/util/ArraysSupport" (some 0) with
  accessFlags := 33
  interfaces := #[]
  cf := some (fileOf pool11 21 #[] #[{ accessFlags := 2, nameIndex := 9, descriptorIndex := 19, attributes := #[] }] 33 16 #[] #[{ accessFlags := 24, nameIndex := 28, descriptorIndex := 29, attributes := #[] }, { accessFlags := 26, nameIndex := 38, descriptorIndex := 39, attributes := #[] }, { accessFlags := 25, nameIndex := 121, descriptorIndex := 25, attributes := #[] }, { accessFlags := 25, nameIndex := 131, descriptorIndex := 25, attributes := #[] }, { accessFlags := 25, nameIndex := 137, descriptorIndex := 25, attributes := #[] }, { accessFlags := 25, nameIndex := 143, descriptorIndex := 25, attributes := #[] }, { accessFlags := 25, nameIndex := 53, descriptorIndex := 25, attributes := #[] }, { accessFlags := 25, nameIndex := 24, descriptorIndex := 25, attributes := #[] }, { accessFlags := 25, nameIndex := 162, descriptorIndex := 25, attributes := #[] }, { accessFlags := 25, nameIndex := 187, descriptorIndex := 25, attributes := #[] }, { accessFlags := 26, nameIndex := 48, descriptorIndex := 25, attributes := #[] }, { accessFlags := 25, nameIndex := 277, descriptorIndex := 25, attributes := #[] }, { accessFlags := 25, nameIndex := 280, descriptorIndex := 25, attributes := #[] }, { accessFlags := 25, nameIndex := 282, descriptorIndex := 25, attributes := #[] }, { accessFlags := 25, nameIndex := 284, descriptorIndex := 25, attributes := #[] }, { accessFlags := 25, nameIndex := 286, descriptorIndex := 25, attributes := #[] }, { accessFlags := 25, nameIndex := 288, descriptorIndex := 25, attributes := #[] }, { accessFlags := 25, nameIndex := 290, descriptorIndex := 25, attributes := #[] }, { accessFlags := 25, nameIndex := 292, descriptorIndex := 25, attributes := #[] }, { accessFlags := 26, nameIndex := 108, descriptorIndex := 109, attributes := #[] }, { accessFlags := 25, nameIndex := 294, descriptorIndex := 25, attributes := #[] }])
  fields := #[{ name := "U", type := (.object "jdk/internal/misc/Unsafe"), accessFlags := 24, slot := 0, constantValue := 0 }, { name := "BIG_ENDIAN", type := .boolean, accessFlags := 26, slot := 1, constantValue := 0 }, { name := "LOG2_ARRAY_BOOLEAN_INDEX_SCALE", type := .int, accessFlags := 25, slot := 2, constantValue := 0 }, { name := "LOG2_ARRAY_BYTE_INDEX_SCALE", type := .int, accessFlags := 25, slot := 3, constantValue := 0 }, { name := "LOG2_ARRAY_CHAR_INDEX_SCALE", type := .int, accessFlags := 25, slot := 4, constantValue := 0 }, { name := "LOG2_ARRAY_SHORT_INDEX_SCALE", type := .int, accessFlags := 25, slot := 5, constantValue := 0 }, { name := "LOG2_ARRAY_INT_INDEX_SCALE", type := .int, accessFlags := 25, slot := 6, constantValue := 0 }, { name := "LOG2_ARRAY_LONG_INDEX_SCALE", type := .int, accessFlags := 25, slot := 7, constantValue := 0 }, { name := "LOG2_ARRAY_FLOAT_INDEX_SCALE", type := .int, accessFlags := 25, slot := 8, constantValue := 0 }, { name := "LOG2_ARRAY_DOUBLE_INDEX_SCALE", type := .int, accessFlags := 25, slot := 9, constantValue := 0 }, { name := "LOG2_BYTE_BIT_SIZE", type := .int, accessFlags := 26, slot := 10, constantValue := 0 }, { name := "T_BOOLEAN", type := .int, accessFlags := 25, slot := 11, constantValue := 0 }, { name := "T_CHAR", type := .int, accessFlags := 25, slot := 12, constantValue := 0 }, { name := "T_FLOAT", type := .int, accessFlags := 25, slot := 13, constantValue := 0 }, { name := "T_DOUBLE", type := .int, accessFlags := 25, slot := 14, constantValue := 0 }, { name := "T_BYTE", type := .int, accessFlags := 25, slot := 15, constantValue := 0 }, { name := "T_SHORT", type := .int, accessFlags := 25, slot := 16, constantValue := 0 }, { name := "T_INT", type := .int, accessFlags := 25, slot := 17, constantValue := 0 }, { name := "T_LONG", type := .int, accessFlags := 25, slot := 18, constantValue := 0 }, { name := "JLA", type := (.object "jdk/internal/access/JavaLangAccess"), accessFlags := 26, slot := 19, constantValue := 0 }, { name := "SOFT_MAX_ARRAY_LENGTH", type := .int, accessFlags := 25, slot := 20, constantValue := 0 }]
  methods := #[k11m0]
  instanceTypes := #[]
  staticTypes := #[(.object "jdk/internal/misc/Unsafe"), .boolean, .int, .int, .int, .int, .int, .int, .int, .int, .int, .int, .int, .int, .int, .int, .int, .int, .int, (.object "jdk/internal/access/JavaLangAccess"), .int]
  resolved := Array.replicate 378 none
  statics := none }

def pool12 : Array CpInfo := pool [(1, u "java/lang/Cloneable"), (0, .class_ 1), (0, u "java/lang/Object"), (0, .class_ 3)] 3

/-- java/lang/Cloneable -/
def k12 : Class := { plain "java/lang/Cloneable" (some 0) with
  accessFlags := 1537
  interfaces := #[]
  cf := some (fileOf pool12 2 #[] #[] 1537 4 #[] #[])
  fields := #[]
  methods := #[]
  instanceTypes := #[]
  staticTypes := #[]
  resolved := Array.replicate 8 none
  statics := none }

/-- the primitive byte -/
def k13 : Class := { plain "byte" none with kind := .primitive 'B', accessFlags := 0x411 }
/-- [B -/
def k14 : Class := { plain "[B" (some 0) with kind := .array 13 .byte, interfaces := #[12, 2], accessFlags := 1041 }

/-- the primitive int -/
def k15 : Class := { plain "int" none with kind := .primitive 'I', accessFlags := 0x411 }
/-- [I -/
def k16 : Class := { plain "[I" (some 0) with kind := .array 15 .int, interfaces := #[12, 2], accessFlags := 1041 }

def heap : Heap := #[{ cls := 7, slots := #[.long 0, .int 1, .null, .int 0, .null, .int 0, .int 0], vm := .statics 7 },
  { cls := 9, slots := #[.null, .null, .null], vm := .statics 9 }]
def classes : Array Class := #[k0, k1, k2, k3, k4, k5, k6, k7, k8, k9, k10, k11, k12, k13, k14, k15, k16]
def interned : List (Array UInt16 × Addr) := []
def slotsUsed : Nat := 10
def theMethod : MethodId := ⟨1, 1⟩
def args0 : Array Value := #[.int 7, .int 7]
def aboutOver (below : List Frame) : State where
  vm := { classes := classes, interned := interned.toArray }
  heap := heap
  slotsUsed := slotsUsed
  threads := #[{ frames := .invoking theMethod args0 :: below }]
def below0 : List Frame := [.native { method := ⟨0, 0⟩, args := #[] }]
def about1 : State := aboutOver below0
def p0 : Program := .bare "" "" ""
def e0 : Env := launch0.env 0 0 0
theorem w_frames : about1.frames = Frame.invoking theMethod args0 :: below0 := rfl
set_option maxRecDepth 65536 in
theorem w_args : argsFit about1.vm theMethod args0 = true := by decide +kernel
set_option maxRecDepth 65536 in
theorem w_heap : heapFits about1 = true := by decide +kernel
set_option maxRecDepth 65536 in
theorem w_runnable : about1.curStatus? = some .runnable := by decide +kernel
set_option maxRecDepth 65536 in
theorem w_alone : about1.alone = true := by decide +kernel
set_option maxRecDepth 65536 in
theorem w_named : about1.methodNamed? x = some theMethod := by decide +kernel
set_option maxRecDepth 65536 in
theorem w_hears : about1.hears theMethod below0 = true := by decide +kernel
set_option maxRecDepth 65536 in
theorem w_ripe : about1.ripe theMethod args0 below0 = true := by decide +kernel
theorem w_running : about1.status = .running := rfl
set_option maxRecDepth 65536 in
theorem w_room : about1.hasRoom e0.platform room_1 = true :=
  launch0.hasRoom_least _ room_1 (by decide +kernel) (by decide +kernel) (by decide +kernel) (by decide +kernel) (by decide +kernel) (by decide +kernel)
theorem allAtoms_all (ts : List Jvm.Cond) (a : Array Jvm.Value) (st : Jvm.State) : (allAtoms ts).before a st = ts.all (fun c => c.before a st) := by
  induction ts with
  | nil => rfl
  | cons c t ih =>
    show (Jvm.Cond.and c (allAtoms t)).before a st = _
    rw [Jvm.Cond.before_and, ih, List.all_cons]
def words1 : List Jvm.Cond := Jvm.Cond.code x code maxLocals ret :: tables_1
/-- a 'code' word, met by the world's own term for the bytes: nothing is compared byte by byte -/
theorem code_word {y : MethodName} {bytes : ByteArray} {mx : Nat} {rt : Option FieldType} {a : Array Value} {s : State} {m : MethodId} {meth : Method} {c : Code} (h1 : s.methodNamed? y = some m) (h2 : s.vm.method? m = some meth) (h3 : meth.code = some c) (h4 : c.code = bytes)
    (h5 : (c.maxLocals == mx && c.exceptionTable.isEmpty && decide (c.maxStack ≤ mostOperands) && decide (meth.sig.returnType = rt) && !meth.locks && decide (parseMethodDescriptor y.desc = some meth.sig)) = true) : (Jvm.Cond.code y bytes mx rt).before a s = true := by
  simp only [Bool.and_eq_true, beq_iff_eq, Bool.not_eq_true', decide_eq_true_eq] at h5
  obtain ⟨⟨⟨⟨⟨g1, g2⟩, g3⟩, g4⟩, g5⟩, g6⟩ := h5
  simp [Cond.before, Cond.holds, Cond.value, h1, h2, h3, h4, g1, g2, g3, g4, g5, g6]
def isCode : Jvm.Cond → Bool
  | .code _ _ _ _ => true
  | _ => false
theorem all_split {L : List Jvm.Cond} {P : Jvm.Cond → Bool} (h1 : L.all (fun c => isCode c || P c) = true) (h2 : ∀ c ∈ L.filter isCode, P c = true) : L.all P = true := by
  refine List.all_eq_true.mpr fun c hc => ?_
  have h := List.all_eq_true.mp h1 c hc
  rcases Bool.eq_false_or_eq_true (isCode c) with hi | hi
  · exact h2 c (List.mem_filter.mpr ⟨hc, hi⟩)
  · simpa [hi] using h
set_option maxRecDepth 65536 in
theorem w_c0 : (Jvm.Cond.code x code maxLocals ret).before args0 about1 = true := code_word (m := ⟨1, 1⟩) (meth := k1m1) (c := k1c1) (by decide +kernel) rfl rfl rfl (by decide +kernel)
set_option maxRecDepth 65536 in
theorem w_c1 : (Jvm.Cond.code ({ cls := "java/lang/String", name := "charAt", desc := "(I)C" } : Jvm.MethodName) jdk_42_method_56_code (2 : Nat) (Option.some Jvm.ClassFile.FieldType.char)).before args0 about1 = true := code_word (m := ⟨7, 1⟩) (meth := k7m1) (c := k7c1) (by decide +kernel) rfl rfl rfl (by decide +kernel)
set_option maxRecDepth 65536 in
theorem w_c2 : (Jvm.Cond.code ({ cls := "java/lang/String", name := "isLatin1", desc := "()Z" } : Jvm.MethodName) jdk_42_method_154_code (1 : Nat) (Option.some Jvm.ClassFile.FieldType.boolean)).before args0 about1 = true := code_word (m := ⟨7, 2⟩) (meth := k7m2) (c := k7c2) (by decide +kernel) rfl rfl rfl (by decide +kernel)
set_option maxRecDepth 65536 in
theorem w_c3 : (Jvm.Cond.code ({ cls := "java/lang/StringLatin1", name := "charAt", desc := "([BI)C" } : Jvm.MethodName) jdk_43_method_2_code (2 : Nat) (Option.some Jvm.ClassFile.FieldType.char)).before args0 about1 = true := code_word (m := ⟨8, 1⟩) (meth := k8m1) (c := k8c1) (by decide +kernel) rfl rfl rfl (by decide +kernel)
set_option maxRecDepth 65536 in
theorem w_c4 : (Jvm.Cond.code ({ cls := "java/lang/String", name := "checkIndex", desc := "(II)V" } : Jvm.MethodName) jdk_42_method_155_code (2 : Nat) (Option.none : Option Jvm.ClassFile.FieldType)).before args0 about1 = true := code_word (m := ⟨7, 3⟩) (meth := k7m3) (c := k7c3) (by decide +kernel) rfl rfl rfl (by decide +kernel)
set_option maxRecDepth 65536 in
theorem w_c5 : (Jvm.Cond.code ({ cls := "jdk/internal/util/Preconditions", name := "checkIndex", desc := "(IILjava/util/function/BiFunction;)I" } : Jvm.MethodName) jdk_41_method_11_code (3 : Nat) (Option.some Jvm.ClassFile.FieldType.int)).before args0 about1 = true := code_word (m := ⟨9, 1⟩) (meth := k9m1) (c := k9c1) (by decide +kernel) rfl rfl rfl (by decide +kernel)
set_option maxRecDepth 65536 in
theorem w_c6 : (Jvm.Cond.code ({ cls := site_21.cls, name := "hexDigit", desc := "(I)I" } : Jvm.MethodName) prog_50_method_15_code (2 : Nat) (Option.some Jvm.ClassFile.FieldType.int)).before args0 about1 = true := code_word (m := ⟨10, 1⟩) (meth := k10m1) (c := k10c1) (by decide +kernel) rfl rfl rfl (by decide +kernel)
set_option maxRecDepth 65536 in
theorem w_c7 : (Jvm.Cond.code ({ cls := x.cls, name := "spelled", desc := "(I)Z" } : Jvm.MethodName) method_3_code (2 : Nat) (Option.some Jvm.ClassFile.FieldType.boolean)).before args0 about1 = true := code_word (m := ⟨1, 2⟩) (meth := k1m2) (c := k1c2) (by decide +kernel) rfl rfl rfl (by decide +kernel)
def codes1 : List Jvm.Cond := [Jvm.Cond.code x code maxLocals ret, Jvm.Cond.code ({ cls := "java/lang/String", name := "charAt", desc := "(I)C" } : Jvm.MethodName) jdk_42_method_56_code (2 : Nat) (Option.some Jvm.ClassFile.FieldType.char), Jvm.Cond.code ({ cls := "java/lang/String", name := "isLatin1", desc := "()Z" } : Jvm.MethodName) jdk_42_method_154_code (1 : Nat) (Option.some Jvm.ClassFile.FieldType.boolean), Jvm.Cond.code ({ cls := "java/lang/StringLatin1", name := "charAt", desc := "([BI)C" } : Jvm.MethodName) jdk_43_method_2_code (2 : Nat) (Option.some Jvm.ClassFile.FieldType.char), Jvm.Cond.code ({ cls := "java/lang/String", name := "checkIndex", desc := "(II)V" } : Jvm.MethodName) jdk_42_method_155_code (2 : Nat) (Option.none : Option Jvm.ClassFile.FieldType), Jvm.Cond.code ({ cls := "jdk/internal/util/Preconditions", name := "checkIndex", desc := "(IILjava/util/function/BiFunction;)I" } : Jvm.MethodName) jdk_41_method_11_code (3 : Nat) (Option.some Jvm.ClassFile.FieldType.int), Jvm.Cond.code ({ cls := site_21.cls, name := "hexDigit", desc := "(I)I" } : Jvm.MethodName) prog_50_method_15_code (2 : Nat) (Option.some Jvm.ClassFile.FieldType.int), Jvm.Cond.code ({ cls := x.cls, name := "spelled", desc := "(I)Z" } : Jvm.MethodName) method_3_code (2 : Nat) (Option.some Jvm.ClassFile.FieldType.boolean)]
set_option maxRecDepth 65536 in
theorem codes_eq : words1.filter isCode = codes1 := rfl
theorem w_codes : ∀ c ∈ words1.filter isCode, c.before args0 about1 = true := by
  rw [codes_eq]
  intro c hc
  simp only [codes1, List.mem_cons, List.not_mem_nil, or_false] at hc
  rcases hc with rfl | rfl | rfl | rfl | rfl | rfl | rfl | rfl
  · exact w_c0
  · exact w_c1
  · exact w_c2
  · exact w_c3
  · exact w_c4
  · exact w_c5
  · exact w_c6
  · exact w_c7
set_option maxRecDepth 65536 in
theorem w_t1 : (words1.take 24).all (fun c => isCode c || c.before args0 about1) = true := by decide +kernel
set_option maxRecDepth 65536 in
theorem w_t2 : (words1.drop 24).all (fun c => isCode c || c.before args0 about1) = true := by decide +kernel
theorem w_tables : (allAtoms (Jvm.Cond.code x code maxLocals ret :: tables_1)).before args0 about1 = true := by
  rw [allAtoms_all]
  show words1.all (fun c => c.before args0 about1) = true
  refine all_split ?_ w_codes
  rw [← List.take_append_drop 24 words1, List.all_append, w_t1, w_t2]
  rfl
set_option maxRecDepth 65536 in
theorem w_rest : rest_1_c.before args0 about1 = true := by decide +kernel
set_option maxRecDepth 65536 in
theorem w_case : (Jvm.Cond.and given_1 narrow_1).before args0 about1 = true := by decide +kernel
set_option maxRecDepth 65536 in
theorem w_consts : constsHeld consts_1 about1 := Jvm.Lit.constsHeldB_iff.mp (by decide +kernel)
theorem w_applies : (headSpec (Jvm.Cond.code x code maxLocals ret :: tables_1) room_1).applies x e0.platform about1 = true :=
  (Spec.applies_iff w_frames).mpr ⟨w_running, w_runnable, w_alone, w_named, w_hears, w_ripe, w_room, w_tables⟩
theorem atStart : AtStart classFile x code maxLocals ret World_1 tables_1 room_1 Calls_1 rest_1 Pre_1 launch0 p0 e0 about1 theMethod args0 below0 :=
  ⟨lists_1, trivial, launch0.admits_env _ _ _, launch0.least_env, fairChoices_fair.cas, fairChoices_fair.clock, w_frames, w_args, w_heap, w_applies, ⟨w_consts, trivial⟩, w_rest, w_case⟩
end start1
theorem witness_1 : WitnessClaimed_1 := ⟨start1.p0, start1.e0, start1.about1, start1.theMethod, start1.args0, start1.below0, start1.atStart⟩
end Jvm.Pilot.@@N@@
