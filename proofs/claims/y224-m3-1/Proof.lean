import JvmDerived
import JvmDerived.Pilot.@@N@@Statement
import JvmDerived.Pilot.@@N@@Code
set_option linter.unusedVariables false
set_option linter.unusedSimpArgs false
namespace Jvm.RoadKit
open Sem ClassFile Op Lib Jvm.Stand Jvm.Free Jvm.LawKit
section New
variable {p : Program} {l : Launch} {e : Env} {R : Room} {s : State} {m : MethodId} {args : Array Value} {below : List Frame} {meth : Method} {c : Code} {T : State} {locs : List Loc} {cells slots : Nat}
theorem retI (X : Stand p l e R s m args below meth c T locs cells slots) (hx : p.tables.exec = Jvm.exec) {pc : Nat} {Ls : Array Slot} {z : Int32} {rest : List Value} (hret : meth.sig.returnType = some .int) (hd : decode c.code pc = .ok (.ireturn, 1)) {fs : List Frame}
    (hl : ∀ (f : JFrame) (acts : List Action), f.method = m → f.locked = none → f.entered = [] → (doReturn e (T.setTop f) acts (some (.int z))).1 = T.setFrames fs) : Steps p.tables e below (T.setTop (mkF m pc Ls (.int z :: rest))) (T.setFrames fs) := by
  have hm' : T.vm.method? m = some meth := X.method'
  have hn : narrow .int (.int z) = .int z := rfl
  show Steps p.tables e below (T.setTop { method := m, pc := pc, locals := Ls, stack := _ :: rest, locked := none }) _
  jvm_step X.here [X.here.top, hx, hd, hm', hret, hn]
  first | (intro acts; rw [hl _ acts rfl rfl rfl]) | rw [hl _ _ rfl rfl rfl]
  exact Steps.refl _
end New
end Jvm.RoadKit
namespace Jvm.Pilot.@@N@@
open Jvm Jvm.ClassFile Sem Op Lib Jvm.Free Jvm.Stand Jvm.LawKit Jvm.RoadKit Bundle Jvm.Pilot.@@N@@.Jvm.D
theorem own_hi1 {x n : Int32} (h : x < n) : x.toInt ≤ n.toInt - 1 := by rw [Int32.lt_iff_toInt_lt] at h; omega
theorem own_hi2 {x n : Int32} (h : ¬ n < x) : x.toInt ≤ n.toInt := by rw [Int32.lt_iff_toInt_lt] at h; omega
theorem own_hi3 {x n : Int32} (h : x = n) : x.toInt ≤ n.toInt := by rw [h]; exact Int.le_refl _
theorem own_lo1 {x n : Int32} (h : ¬ x < n) : n.toInt ≤ x.toInt := by rw [Int32.lt_iff_toInt_lt] at h; omega
theorem own_lo2 {x n : Int32} (h : n < x) : n.toInt + 1 ≤ x.toInt := by rw [Int32.lt_iff_toInt_lt] at h; omega
theorem own_lo3 {x n : Int32} (h : x = n) : n.toInt ≤ x.toInt := by rw [h]; exact Int.le_refl _
theorem own_xlT {x n : Int32} {k : Int} (h : x.toInt ≤ k) (q : k < n.toInt) : x < n := by rw [Int32.lt_iff_toInt_lt]; omega
theorem own_xlF {x n : Int32} {k : Int} (h : k ≤ x.toInt) (q : n.toInt ≤ k) : ¬ x < n := by rw [Int32.lt_iff_toInt_lt]; omega
theorem own_lxT {x n : Int32} {k : Int} (h : k ≤ x.toInt) (q : n.toInt < k) : n < x := by rw [Int32.lt_iff_toInt_lt]; omega
theorem own_lxF {x n : Int32} {k : Int} (h : x.toInt ≤ k) (q : k ≤ n.toInt) : ¬ n < x := by rw [Int32.lt_iff_toInt_lt]; omega
theorem own_eqF1 {x n : Int32} {k : Int} (h : x.toInt ≤ k) (q : k < n.toInt) : ¬ x = n := fun z => by rw [z] at h; omega
theorem own_eqF2 {x n : Int32} {k : Int} (h : k ≤ x.toInt) (q : n.toInt < k) : ¬ x = n := fun z => by rw [z] at h; omega
theorem d1_0 : decode prog_50_method_11_code 0 = .ok (.iload_n 0, 1) := by decide +kernel
theorem d1_1 : decode prog_50_method_11_code 1 = .ok (.bipush 48, 2) := by decide +kernel
theorem d1_3 : decode prog_50_method_11_code 3 = .ok (.if_icmp .lt 9, 3) := by decide +kernel
theorem d1_12 : decode prog_50_method_11_code 12 = .ok (.iload_n 0, 1) := by decide +kernel
theorem d1_13 : decode prog_50_method_11_code 13 = .ok (.bipush 97, 2) := by decide +kernel
theorem d1_15 : decode prog_50_method_11_code 15 = .ok (.if_icmp .lt 9, 3) := by decide +kernel
theorem d1_24 : decode prog_50_method_11_code 24 = .ok (.iload_n 0, 1) := by decide +kernel
theorem d1_25 : decode prog_50_method_11_code 25 = .ok (.bipush 65, 2) := by decide +kernel
theorem d1_27 : decode prog_50_method_11_code 27 = .ok (.if_icmp .lt 9, 3) := by decide +kernel
theorem d1_36 : decode prog_50_method_11_code 36 = .ok (.iload_n 0, 1) := by decide +kernel
theorem d1_37 : decode prog_50_method_11_code 37 = .ok (.bipush 45, 2) := by decide +kernel
theorem d1_39 : decode prog_50_method_11_code 39 = .ok (.if_icmp .ne 7, 3) := by decide +kernel
theorem d1_42 : decode prog_50_method_11_code 42 = .ok (.iconst 1, 1) := by decide +kernel
theorem d1_43 : decode prog_50_method_11_code 43 = .ok (.goto 4, 3) := by decide +kernel
theorem d1_47 : decode prog_50_method_11_code 47 = .ok (.ireturn, 1) := by decide +kernel
theorem d1_46 : decode prog_50_method_11_code 46 = .ok (.iconst 0, 1) := by decide +kernel
theorem d1_6 : decode prog_50_method_11_code 6 = .ok (.iload_n 0, 1) := by decide +kernel
theorem d1_7 : decode prog_50_method_11_code 7 = .ok (.bipush 57, 2) := by decide +kernel
theorem d1_9 : decode prog_50_method_11_code 9 = .ok (.if_icmp .le 33, 3) := by decide +kernel
theorem d1_30 : decode prog_50_method_11_code 30 = .ok (.iload_n 0, 1) := by decide +kernel
theorem d1_31 : decode prog_50_method_11_code 31 = .ok (.bipush 90, 2) := by decide +kernel
theorem d1_33 : decode prog_50_method_11_code 33 = .ok (.if_icmp .le 9, 3) := by decide +kernel
theorem d1_18 : decode prog_50_method_11_code 18 = .ok (.iload_n 0, 1) := by decide +kernel
theorem d1_19 : decode prog_50_method_11_code 19 = .ok (.bipush 122, 2) := by decide +kernel
theorem d1_21 : decode prog_50_method_11_code 21 = .ok (.if_icmp .le 21, 3) := by decide +kernel
theorem d2_0 : decode method_2_code 0 = .ok (.iload_n 0, 1) := by decide +kernel
theorem d2_1 : decode method_2_code 1 = .ok (.bipush 48, 2) := by decide +kernel
theorem d2_3 : decode method_2_code 3 = .ok (.if_icmp .lt 13, 3) := by decide +kernel
theorem d2_16 : decode method_2_code 16 = .ok (.iconst 0, 1) := by decide +kernel
theorem d2_6 : decode method_2_code 6 = .ok (.iload_n 0, 1) := by decide +kernel
theorem d2_7 : decode method_2_code 7 = .ok (.bipush 58, 2) := by decide +kernel
theorem d2_9 : decode method_2_code 9 = .ok (.if_icmp .ge 7, 3) := by decide +kernel
theorem d2_12 : decode method_2_code 12 = .ok (.iconst 1, 1) := by decide +kernel
theorem d2_13 : decode method_2_code 13 = .ok (.goto 4, 3) := by decide +kernel
theorem d2_17 : decode method_2_code 17 = .ok (.istore_n 1, 1) := by decide +kernel
theorem d2_18 : decode method_2_code 18 = .ok (.iload_n 0, 1) := by decide +kernel
theorem d2_19 : decode method_2_code 19 = .ok (.bipush 32, 2) := by decide +kernel
theorem d2_21 : decode method_2_code 21 = .ok (.ior, 1) := by decide +kernel
theorem d2_22 : decode method_2_code 22 = .ok (.istore_n 2, 1) := by decide +kernel
theorem d2_23 : decode method_2_code 23 = .ok (.iload_n 2, 1) := by decide +kernel
theorem d2_24 : decode method_2_code 24 = .ok (.bipush 97, 2) := by decide +kernel
theorem d2_26 : decode method_2_code 26 = .ok (.if_icmp .lt 13, 3) := by decide +kernel
theorem d2_39 : decode method_2_code 39 = .ok (.iconst 0, 1) := by decide +kernel
theorem d2_29 : decode method_2_code 29 = .ok (.iload_n 2, 1) := by decide +kernel
theorem d2_30 : decode method_2_code 30 = .ok (.bipush 123, 2) := by decide +kernel
theorem d2_32 : decode method_2_code 32 = .ok (.if_icmp .ge 7, 3) := by decide +kernel
theorem d2_35 : decode method_2_code 35 = .ok (.iconst 1, 1) := by decide +kernel
theorem d2_36 : decode method_2_code 36 = .ok (.goto 4, 3) := by decide +kernel
theorem d2_40 : decode method_2_code 40 = .ok (.istore_n 3, 1) := by decide +kernel
theorem d2_41 : decode method_2_code 41 = .ok (.iload_n 1, 1) := by decide +kernel
theorem d2_42 : decode method_2_code 42 = .ok (.ifCond .ne 13, 3) := by decide +kernel
theorem d2_45 : decode method_2_code 45 = .ok (.iload_n 3, 1) := by decide +kernel
theorem d2_46 : decode method_2_code 46 = .ok (.ifCond .ne 9, 3) := by decide +kernel
theorem d2_49 : decode method_2_code 49 = .ok (.iload_n 0, 1) := by decide +kernel
theorem d2_50 : decode method_2_code 50 = .ok (.bipush 45, 2) := by decide +kernel
theorem d2_52 : decode method_2_code 52 = .ok (.if_icmp .ne 7, 3) := by decide +kernel
theorem d2_55 : decode method_2_code 55 = .ok (.iconst 1, 1) := by decide +kernel
theorem d2_56 : decode method_2_code 56 = .ok (.goto 4, 3) := by decide +kernel
theorem d2_60 : decode method_2_code 60 = .ok (.ireturn, 1) := by decide +kernel
theorem d2_59 : decode method_2_code 59 = .ok (.iconst 0, 1) := by decide +kernel
theorem pd0 : parseMethodDescriptor "(I)Z" = some ⟨[.int], some .boolean⟩ := by decide +kernel
theorem pn0 : plainName site_9.cls = true := by first | (simp [plainName, overriddenIn]; done) | decide +kernel
theorem pn1 : plainName x.cls = true := by first | (simp [plainName, overriddenIn]; done) | decide +kernel
def F1 (p0 : Int32) : Int32 := (if p0 < (48 : Int32) then (if p0 = (45 : Int32) then (1 : Int32) else (0 : Int32)) else (if (57 : Int32) < p0 then (if p0 < (97 : Int32) then (if p0 < (65 : Int32) then (0 : Int32) else (if (90 : Int32) < p0 then (0 : Int32) else (1 : Int32))) else (if (122 : Int32) < p0 then (0 : Int32) else (1 : Int32))) else (1 : Int32)))
theorem ef1 (m : MethodId) (x0 : Int32) : entryFrame m #[(.int x0)] 1 = mkF m 0 #[.val (.int x0)] [] := by first | (simp [entryFrame, mkF, argsToLocals, Value.category]; done) | rfl
def Q1 (Z : State) (p0 : Int32) (h0 : Heap) (n0 : Nat) (v : Option Value) (h : Heap) (L : List Loc) : Prop := v = some (.int (F1 p0)) ∧ Fr n0 L ∧ h = h0
set_option maxRecDepth 65536 in
set_option maxHeartbeats 40000000 in
theorem rm1 (l : Launch) (Z : State) (a0 : Array Value) (hw : ∀ d ∈ tables_1, d.before a0 Z = true) (ws : List Jvm.Cond) (p0 : Int32) (h0 : Heap) (n0 : Nat) (Z0 : n0 ≤ h0.size) :
    MetFree l (⟨site_9.cls, "isWordChar", "(I)Z"⟩ : MethodName) (head1 (Jvm.Cond.code (⟨site_9.cls, "isWordChar", "(I)Z"⟩ : MethodName) prog_50_method_11_code 1 (some .boolean) :: ws) ({ frames := 0, cells := 0, slots := 0, locals := 0 } : Room)) (fun a U => a = #[(.int p0)] ∧ Z.Warmed39 U.vm ∧ U.heap = h0) (fun _ _ _ _ _ => True) (fun _ U o U' => ∃ v L, o = .returned v ∧ Q1 Z p0 h0 n0 v U'.heap L ∧ FrameEnd U o U' L ({ frames := 0, cells := 0, slots := 0, locals := 0 } : Room).cells ({ frames := 0, cells := 0, slots := 0, locals := 0 } : Room).slots) := by
  refine MetFree.of_bodySF (plainFor_of_name pn0) hisR ?_
  intro p e s m args below meth c s₁ Bd hml0 hP hK
  obtain ⟨rfl, hZ, hh⟩ := hP
  have hx := Bd.exec
  have hby := Bd.bytes
  have hml : c.maxLocals = 1 := hml0
  have hown' := findClass_of_methodNamed Bd.named
  have hown : s.vm.findClass site_9.cls = some m.cls := hown'
  have hnm := (name_of_methodNamed Bd.named Bd.method).1
  have X0 : Stand p l e ({ frames := 0, cells := 0, slots := 0, locals := 0 } : Room) s m #[(.int p0)] below meth c s₁ [] 0 0 := Stand.of_body Bd
  have e0 : s₁.heap = h0 := by rw [← hh, Bd.state]; rfl
  have N0 := Fr.nil n0
  have hlk : meth.locks = false := by first | exact BodyLoose.notSynchronized Bd | exact Body.notSynchronized Bd
  have pre0 : ∀ t, Steps p.tables e below (s₁.setTop (mkF m 0 #[.val (.int p0)] [])) t → Steps p.tables e below (s₁.setTop (entryFrame m #[(.int p0)] 1)) t := fun t k => castTop (ef1 m p0) k
  have pre1 : ∀ t, Steps p.tables e below (s₁.setTop (mkF m 3 #[.val (.int p0)] [(.int (48 : Int32)), (.int p0)])) t → Steps p.tables e below (s₁.setTop (entryFrame m #[(.int p0)] 1)) t := fun t k => pre0 t (by
    show Steps p.tables e below (s₁.setTop (mkF m 0 #[.val (.int p0)] [])) _
    refine XS.iloadN X0.here hx rfl (hb hby d1_0) rfl ?_
    show Steps p.tables e below (s₁.setTop (mkF m 1 #[.val (.int p0)] [(.int p0)])) _
    refine XS.bipush X0.here hx rfl (hb hby d1_1) ?_
    exact k)
  by_cases hc3_2 : p0 < (48 : Int32)
  · have pre3 : ∀ t, Steps p.tables e below (s₁.setTop (mkF m 39 #[.val (.int p0)] [(.int (45 : Int32)), (.int p0)])) t → Steps p.tables e below (s₁.setTop (entryFrame m #[(.int p0)] 1)) t := fun t k => pre1 t (by
      show Steps p.tables e below (s₁.setTop (mkF m 3 #[.val (.int p0)] [(.int (48 : Int32)), (.int p0)])) _
      refine XS.icmpYes X0.here hx rfl (pc0 := 3) (pc' := 12) rfl (hb hby d1_3) rfl (tlt hc3_2).1 (by decide) (by decide) ?_
      show Steps p.tables e below (s₁.setTop (mkF m 12 #[.val (.int p0)] [])) _
      refine XS.iloadN X0.here hx rfl (hb hby d1_12) rfl ?_
      show Steps p.tables e below (s₁.setTop (mkF m 13 #[.val (.int p0)] [(.int p0)])) _
      refine XS.bipush X0.here hx rfl (hb hby d1_13) ?_
      show Steps p.tables e below (s₁.setTop (mkF m 15 #[.val (.int p0)] [(.int (97 : Int32)), (.int p0)])) _
      refine XS.icmpYes X0.here hx rfl (pc0 := 15) (pc' := 24) rfl (hb hby d1_15) rfl (tlt (own_xlT (own_hi1 hc3_2) (by decide))).1 (by decide) (by decide) ?_
      show Steps p.tables e below (s₁.setTop (mkF m 24 #[.val (.int p0)] [])) _
      refine XS.iloadN X0.here hx rfl (hb hby d1_24) rfl ?_
      show Steps p.tables e below (s₁.setTop (mkF m 25 #[.val (.int p0)] [(.int p0)])) _
      refine XS.bipush X0.here hx rfl (hb hby d1_25) ?_
      show Steps p.tables e below (s₁.setTop (mkF m 27 #[.val (.int p0)] [(.int (65 : Int32)), (.int p0)])) _
      refine XS.icmpYes X0.here hx rfl (pc0 := 27) (pc' := 36) rfl (hb hby d1_27) rfl (tlt (own_xlT (own_hi1 hc3_2) (by decide))).1 (by decide) (by decide) ?_
      show Steps p.tables e below (s₁.setTop (mkF m 36 #[.val (.int p0)] [])) _
      refine XS.iloadN X0.here hx rfl (hb hby d1_36) rfl ?_
      show Steps p.tables e below (s₁.setTop (mkF m 37 #[.val (.int p0)] [(.int p0)])) _
      refine XS.bipush X0.here hx rfl (hb hby d1_37) ?_
      exact k)
    by_cases hc39_4 : p0 = (45 : Int32)
    · have pre5 : ∀ t, Steps p.tables e below (s₁.setTop (mkF m 47 #[.val (.int p0)] [(.int (1 : Int32))])) t → Steps p.tables e below (s₁.setTop (entryFrame m #[(.int p0)] 1)) t := fun t k => pre3 t (by
        show Steps p.tables e below (s₁.setTop (mkF m 39 #[.val (.int p0)] [(.int (45 : Int32)), (.int p0)])) _
        refine XS.icmpNo X0.here hx rfl (hb hby d1_39) rfl (teq hc39_4).2 ?_
        show Steps p.tables e below (s₁.setTop (mkF m 42 #[.val (.int p0)] [])) _
        refine XS.iconst X0.here hx rfl (hb hby d1_42) ?_
        show Steps p.tables e below (s₁.setTop (mkF m 43 #[.val (.int p0)] [(.int (1 : Int32))])) _
        refine XS.goto X0.here hx rfl (pc0 := 43) (pc' := 47) rfl (hb hby d1_43) (by decide) (by decide) ?_
        exact k)
      obtain ⟨fs, hr, hrun, hended, hW, hsame⟩ := X0.leave (v := some (.int (1 : Int32))) (fun h => by rw [Bd.returns] at h; cases h) hlk
      have hF : F1 p0 = (1 : Int32) := by unfold F1; rw [if_pos hc3_2, if_pos hc39_4]
      exact ⟨_, _, pre5 _ (retN X0 hx (t := .boolean) Bd.returns (by simp) (hb hby d1_47) hr), hrun, hended, _, _, rfl, ⟨by rw [hF], N0, e0⟩, ⟨_, rfl⟩, hW, hsame.mono (by decide) (by decide)⟩
    have pre6 : ∀ t, Steps p.tables e below (s₁.setTop (mkF m 47 #[.val (.int p0)] [(.int (0 : Int32))])) t → Steps p.tables e below (s₁.setTop (entryFrame m #[(.int p0)] 1)) t := fun t k => pre3 t (by
      show Steps p.tables e below (s₁.setTop (mkF m 39 #[.val (.int p0)] [(.int (45 : Int32)), (.int p0)])) _
      refine XS.icmpYes X0.here hx rfl (pc0 := 39) (pc' := 46) rfl (hb hby d1_39) rfl (feq hc39_4).2 (by decide) (by decide) ?_
      show Steps p.tables e below (s₁.setTop (mkF m 46 #[.val (.int p0)] [])) _
      refine XS.iconst X0.here hx rfl (hb hby d1_46) ?_
      exact k)
    obtain ⟨fs, hr, hrun, hended, hW, hsame⟩ := X0.leave (v := some (.int (0 : Int32))) (fun h => by rw [Bd.returns] at h; cases h) hlk
    have hF : F1 p0 = (0 : Int32) := by unfold F1; rw [if_pos hc3_2, if_neg hc39_4]
    exact ⟨_, _, pre6 _ (retN X0 hx (t := .boolean) Bd.returns (by simp) (hb hby d1_47) hr), hrun, hended, _, _, rfl, ⟨by rw [hF], N0, e0⟩, ⟨_, rfl⟩, hW, hsame.mono (by decide) (by decide)⟩
  have pre7 : ∀ t, Steps p.tables e below (s₁.setTop (mkF m 9 #[.val (.int p0)] [(.int (57 : Int32)), (.int p0)])) t → Steps p.tables e below (s₁.setTop (entryFrame m #[(.int p0)] 1)) t := fun t k => pre1 t (by
    show Steps p.tables e below (s₁.setTop (mkF m 3 #[.val (.int p0)] [(.int (48 : Int32)), (.int p0)])) _
    refine XS.icmpNo X0.here hx rfl (hb hby d1_3) rfl (flt hc3_2).1 ?_
    show Steps p.tables e below (s₁.setTop (mkF m 6 #[.val (.int p0)] [])) _
    refine XS.iloadN X0.here hx rfl (hb hby d1_6) rfl ?_
    show Steps p.tables e below (s₁.setTop (mkF m 7 #[.val (.int p0)] [(.int p0)])) _
    refine XS.bipush X0.here hx rfl (hb hby d1_7) ?_
    exact k)
  by_cases hc9_8 : (57 : Int32) < p0
  · have pre9 : ∀ t, Steps p.tables e below (s₁.setTop (mkF m 15 #[.val (.int p0)] [(.int (97 : Int32)), (.int p0)])) t → Steps p.tables e below (s₁.setTop (entryFrame m #[(.int p0)] 1)) t := fun t k => pre7 t (by
      show Steps p.tables e below (s₁.setTop (mkF m 9 #[.val (.int p0)] [(.int (57 : Int32)), (.int p0)])) _
      refine XS.icmpNo X0.here hx rfl (hb hby d1_9) rfl (tlt hc9_8).2.2.2 ?_
      show Steps p.tables e below (s₁.setTop (mkF m 12 #[.val (.int p0)] [])) _
      refine XS.iloadN X0.here hx rfl (hb hby d1_12) rfl ?_
      show Steps p.tables e below (s₁.setTop (mkF m 13 #[.val (.int p0)] [(.int p0)])) _
      refine XS.bipush X0.here hx rfl (hb hby d1_13) ?_
      exact k)
    by_cases hc15_10 : p0 < (97 : Int32)
    · have pre11 : ∀ t, Steps p.tables e below (s₁.setTop (mkF m 27 #[.val (.int p0)] [(.int (65 : Int32)), (.int p0)])) t → Steps p.tables e below (s₁.setTop (entryFrame m #[(.int p0)] 1)) t := fun t k => pre9 t (by
        show Steps p.tables e below (s₁.setTop (mkF m 15 #[.val (.int p0)] [(.int (97 : Int32)), (.int p0)])) _
        refine XS.icmpYes X0.here hx rfl (pc0 := 15) (pc' := 24) rfl (hb hby d1_15) rfl (tlt hc15_10).1 (by decide) (by decide) ?_
        show Steps p.tables e below (s₁.setTop (mkF m 24 #[.val (.int p0)] [])) _
        refine XS.iloadN X0.here hx rfl (hb hby d1_24) rfl ?_
        show Steps p.tables e below (s₁.setTop (mkF m 25 #[.val (.int p0)] [(.int p0)])) _
        refine XS.bipush X0.here hx rfl (hb hby d1_25) ?_
        exact k)
      by_cases hc27_12 : p0 < (65 : Int32)
      · have pre13 : ∀ t, Steps p.tables e below (s₁.setTop (mkF m 47 #[.val (.int p0)] [(.int (0 : Int32))])) t → Steps p.tables e below (s₁.setTop (entryFrame m #[(.int p0)] 1)) t := fun t k => pre11 t (by
          show Steps p.tables e below (s₁.setTop (mkF m 27 #[.val (.int p0)] [(.int (65 : Int32)), (.int p0)])) _
          refine XS.icmpYes X0.here hx rfl (pc0 := 27) (pc' := 36) rfl (hb hby d1_27) rfl (tlt hc27_12).1 (by decide) (by decide) ?_
          show Steps p.tables e below (s₁.setTop (mkF m 36 #[.val (.int p0)] [])) _
          refine XS.iloadN X0.here hx rfl (hb hby d1_36) rfl ?_
          show Steps p.tables e below (s₁.setTop (mkF m 37 #[.val (.int p0)] [(.int p0)])) _
          refine XS.bipush X0.here hx rfl (hb hby d1_37) ?_
          show Steps p.tables e below (s₁.setTop (mkF m 39 #[.val (.int p0)] [(.int (45 : Int32)), (.int p0)])) _
          refine XS.icmpYes X0.here hx rfl (pc0 := 39) (pc' := 46) rfl (hb hby d1_39) rfl (feq (own_eqF2 (own_lo2 hc9_8) (by decide))).2 (by decide) (by decide) ?_
          show Steps p.tables e below (s₁.setTop (mkF m 46 #[.val (.int p0)] [])) _
          refine XS.iconst X0.here hx rfl (hb hby d1_46) ?_
          exact k)
        obtain ⟨fs, hr, hrun, hended, hW, hsame⟩ := X0.leave (v := some (.int (0 : Int32))) (fun h => by rw [Bd.returns] at h; cases h) hlk
        have hF : F1 p0 = (0 : Int32) := by unfold F1; rw [if_neg hc3_2, if_pos hc9_8, if_pos hc15_10, if_pos hc27_12]
        exact ⟨_, _, pre13 _ (retN X0 hx (t := .boolean) Bd.returns (by simp) (hb hby d1_47) hr), hrun, hended, _, _, rfl, ⟨by rw [hF], N0, e0⟩, ⟨_, rfl⟩, hW, hsame.mono (by decide) (by decide)⟩
      have pre14 : ∀ t, Steps p.tables e below (s₁.setTop (mkF m 33 #[.val (.int p0)] [(.int (90 : Int32)), (.int p0)])) t → Steps p.tables e below (s₁.setTop (entryFrame m #[(.int p0)] 1)) t := fun t k => pre11 t (by
        show Steps p.tables e below (s₁.setTop (mkF m 27 #[.val (.int p0)] [(.int (65 : Int32)), (.int p0)])) _
        refine XS.icmpNo X0.here hx rfl (hb hby d1_27) rfl (flt hc27_12).1 ?_
        show Steps p.tables e below (s₁.setTop (mkF m 30 #[.val (.int p0)] [])) _
        refine XS.iloadN X0.here hx rfl (hb hby d1_30) rfl ?_
        show Steps p.tables e below (s₁.setTop (mkF m 31 #[.val (.int p0)] [(.int p0)])) _
        refine XS.bipush X0.here hx rfl (hb hby d1_31) ?_
        exact k)
      by_cases hc33_15 : (90 : Int32) < p0
      · have pre16 : ∀ t, Steps p.tables e below (s₁.setTop (mkF m 47 #[.val (.int p0)] [(.int (0 : Int32))])) t → Steps p.tables e below (s₁.setTop (entryFrame m #[(.int p0)] 1)) t := fun t k => pre14 t (by
          show Steps p.tables e below (s₁.setTop (mkF m 33 #[.val (.int p0)] [(.int (90 : Int32)), (.int p0)])) _
          refine XS.icmpNo X0.here hx rfl (hb hby d1_33) rfl (tlt hc33_15).2.2.2 ?_
          show Steps p.tables e below (s₁.setTop (mkF m 36 #[.val (.int p0)] [])) _
          refine XS.iloadN X0.here hx rfl (hb hby d1_36) rfl ?_
          show Steps p.tables e below (s₁.setTop (mkF m 37 #[.val (.int p0)] [(.int p0)])) _
          refine XS.bipush X0.here hx rfl (hb hby d1_37) ?_
          show Steps p.tables e below (s₁.setTop (mkF m 39 #[.val (.int p0)] [(.int (45 : Int32)), (.int p0)])) _
          refine XS.icmpYes X0.here hx rfl (pc0 := 39) (pc' := 46) rfl (hb hby d1_39) rfl (feq (own_eqF2 (own_lo2 hc33_15) (by decide))).2 (by decide) (by decide) ?_
          show Steps p.tables e below (s₁.setTop (mkF m 46 #[.val (.int p0)] [])) _
          refine XS.iconst X0.here hx rfl (hb hby d1_46) ?_
          exact k)
        obtain ⟨fs, hr, hrun, hended, hW, hsame⟩ := X0.leave (v := some (.int (0 : Int32))) (fun h => by rw [Bd.returns] at h; cases h) hlk
        have hF : F1 p0 = (0 : Int32) := by unfold F1; rw [if_neg hc3_2, if_pos hc9_8, if_pos hc15_10, if_neg hc27_12, if_pos hc33_15]
        exact ⟨_, _, pre16 _ (retN X0 hx (t := .boolean) Bd.returns (by simp) (hb hby d1_47) hr), hrun, hended, _, _, rfl, ⟨by rw [hF], N0, e0⟩, ⟨_, rfl⟩, hW, hsame.mono (by decide) (by decide)⟩
      have pre17 : ∀ t, Steps p.tables e below (s₁.setTop (mkF m 47 #[.val (.int p0)] [(.int (1 : Int32))])) t → Steps p.tables e below (s₁.setTop (entryFrame m #[(.int p0)] 1)) t := fun t k => pre14 t (by
        show Steps p.tables e below (s₁.setTop (mkF m 33 #[.val (.int p0)] [(.int (90 : Int32)), (.int p0)])) _
        refine XS.icmpYes X0.here hx rfl (pc0 := 33) (pc' := 42) rfl (hb hby d1_33) rfl (flt hc33_15).2.2.2 (by decide) (by decide) ?_
        show Steps p.tables e below (s₁.setTop (mkF m 42 #[.val (.int p0)] [])) _
        refine XS.iconst X0.here hx rfl (hb hby d1_42) ?_
        show Steps p.tables e below (s₁.setTop (mkF m 43 #[.val (.int p0)] [(.int (1 : Int32))])) _
        refine XS.goto X0.here hx rfl (pc0 := 43) (pc' := 47) rfl (hb hby d1_43) (by decide) (by decide) ?_
        exact k)
      obtain ⟨fs, hr, hrun, hended, hW, hsame⟩ := X0.leave (v := some (.int (1 : Int32))) (fun h => by rw [Bd.returns] at h; cases h) hlk
      have hF : F1 p0 = (1 : Int32) := by unfold F1; rw [if_neg hc3_2, if_pos hc9_8, if_pos hc15_10, if_neg hc27_12, if_neg hc33_15]
      exact ⟨_, _, pre17 _ (retN X0 hx (t := .boolean) Bd.returns (by simp) (hb hby d1_47) hr), hrun, hended, _, _, rfl, ⟨by rw [hF], N0, e0⟩, ⟨_, rfl⟩, hW, hsame.mono (by decide) (by decide)⟩
    have pre18 : ∀ t, Steps p.tables e below (s₁.setTop (mkF m 21 #[.val (.int p0)] [(.int (122 : Int32)), (.int p0)])) t → Steps p.tables e below (s₁.setTop (entryFrame m #[(.int p0)] 1)) t := fun t k => pre9 t (by
      show Steps p.tables e below (s₁.setTop (mkF m 15 #[.val (.int p0)] [(.int (97 : Int32)), (.int p0)])) _
      refine XS.icmpNo X0.here hx rfl (hb hby d1_15) rfl (flt hc15_10).1 ?_
      show Steps p.tables e below (s₁.setTop (mkF m 18 #[.val (.int p0)] [])) _
      refine XS.iloadN X0.here hx rfl (hb hby d1_18) rfl ?_
      show Steps p.tables e below (s₁.setTop (mkF m 19 #[.val (.int p0)] [(.int p0)])) _
      refine XS.bipush X0.here hx rfl (hb hby d1_19) ?_
      exact k)
    by_cases hc21_19 : (122 : Int32) < p0
    · have pre20 : ∀ t, Steps p.tables e below (s₁.setTop (mkF m 47 #[.val (.int p0)] [(.int (0 : Int32))])) t → Steps p.tables e below (s₁.setTop (entryFrame m #[(.int p0)] 1)) t := fun t k => pre18 t (by
        show Steps p.tables e below (s₁.setTop (mkF m 21 #[.val (.int p0)] [(.int (122 : Int32)), (.int p0)])) _
        refine XS.icmpNo X0.here hx rfl (hb hby d1_21) rfl (tlt hc21_19).2.2.2 ?_
        show Steps p.tables e below (s₁.setTop (mkF m 24 #[.val (.int p0)] [])) _
        refine XS.iloadN X0.here hx rfl (hb hby d1_24) rfl ?_
        show Steps p.tables e below (s₁.setTop (mkF m 25 #[.val (.int p0)] [(.int p0)])) _
        refine XS.bipush X0.here hx rfl (hb hby d1_25) ?_
        show Steps p.tables e below (s₁.setTop (mkF m 27 #[.val (.int p0)] [(.int (65 : Int32)), (.int p0)])) _
        refine XS.icmpNo X0.here hx rfl (hb hby d1_27) rfl (flt (own_xlF (own_lo2 hc21_19) (by decide))).1 ?_
        show Steps p.tables e below (s₁.setTop (mkF m 30 #[.val (.int p0)] [])) _
        refine XS.iloadN X0.here hx rfl (hb hby d1_30) rfl ?_
        show Steps p.tables e below (s₁.setTop (mkF m 31 #[.val (.int p0)] [(.int p0)])) _
        refine XS.bipush X0.here hx rfl (hb hby d1_31) ?_
        show Steps p.tables e below (s₁.setTop (mkF m 33 #[.val (.int p0)] [(.int (90 : Int32)), (.int p0)])) _
        refine XS.icmpNo X0.here hx rfl (hb hby d1_33) rfl (tlt (own_lxT (own_lo2 hc21_19) (by decide))).2.2.2 ?_
        show Steps p.tables e below (s₁.setTop (mkF m 36 #[.val (.int p0)] [])) _
        refine XS.iloadN X0.here hx rfl (hb hby d1_36) rfl ?_
        show Steps p.tables e below (s₁.setTop (mkF m 37 #[.val (.int p0)] [(.int p0)])) _
        refine XS.bipush X0.here hx rfl (hb hby d1_37) ?_
        show Steps p.tables e below (s₁.setTop (mkF m 39 #[.val (.int p0)] [(.int (45 : Int32)), (.int p0)])) _
        refine XS.icmpYes X0.here hx rfl (pc0 := 39) (pc' := 46) rfl (hb hby d1_39) rfl (feq (own_eqF2 (own_lo2 hc21_19) (by decide))).2 (by decide) (by decide) ?_
        show Steps p.tables e below (s₁.setTop (mkF m 46 #[.val (.int p0)] [])) _
        refine XS.iconst X0.here hx rfl (hb hby d1_46) ?_
        exact k)
      obtain ⟨fs, hr, hrun, hended, hW, hsame⟩ := X0.leave (v := some (.int (0 : Int32))) (fun h => by rw [Bd.returns] at h; cases h) hlk
      have hF : F1 p0 = (0 : Int32) := by unfold F1; rw [if_neg hc3_2, if_pos hc9_8, if_neg hc15_10, if_pos hc21_19]
      exact ⟨_, _, pre20 _ (retN X0 hx (t := .boolean) Bd.returns (by simp) (hb hby d1_47) hr), hrun, hended, _, _, rfl, ⟨by rw [hF], N0, e0⟩, ⟨_, rfl⟩, hW, hsame.mono (by decide) (by decide)⟩
    have pre21 : ∀ t, Steps p.tables e below (s₁.setTop (mkF m 47 #[.val (.int p0)] [(.int (1 : Int32))])) t → Steps p.tables e below (s₁.setTop (entryFrame m #[(.int p0)] 1)) t := fun t k => pre18 t (by
      show Steps p.tables e below (s₁.setTop (mkF m 21 #[.val (.int p0)] [(.int (122 : Int32)), (.int p0)])) _
      refine XS.icmpYes X0.here hx rfl (pc0 := 21) (pc' := 42) rfl (hb hby d1_21) rfl (flt hc21_19).2.2.2 (by decide) (by decide) ?_
      show Steps p.tables e below (s₁.setTop (mkF m 42 #[.val (.int p0)] [])) _
      refine XS.iconst X0.here hx rfl (hb hby d1_42) ?_
      show Steps p.tables e below (s₁.setTop (mkF m 43 #[.val (.int p0)] [(.int (1 : Int32))])) _
      refine XS.goto X0.here hx rfl (pc0 := 43) (pc' := 47) rfl (hb hby d1_43) (by decide) (by decide) ?_
      exact k)
    obtain ⟨fs, hr, hrun, hended, hW, hsame⟩ := X0.leave (v := some (.int (1 : Int32))) (fun h => by rw [Bd.returns] at h; cases h) hlk
    have hF : F1 p0 = (1 : Int32) := by unfold F1; rw [if_neg hc3_2, if_pos hc9_8, if_neg hc15_10, if_neg hc21_19]
    exact ⟨_, _, pre21 _ (retN X0 hx (t := .boolean) Bd.returns (by simp) (hb hby d1_47) hr), hrun, hended, _, _, rfl, ⟨by rw [hF], N0, e0⟩, ⟨_, rfl⟩, hW, hsame.mono (by decide) (by decide)⟩
  have pre22 : ∀ t, Steps p.tables e below (s₁.setTop (mkF m 47 #[.val (.int p0)] [(.int (1 : Int32))])) t → Steps p.tables e below (s₁.setTop (entryFrame m #[(.int p0)] 1)) t := fun t k => pre7 t (by
    show Steps p.tables e below (s₁.setTop (mkF m 9 #[.val (.int p0)] [(.int (57 : Int32)), (.int p0)])) _
    refine XS.icmpYes X0.here hx rfl (pc0 := 9) (pc' := 42) rfl (hb hby d1_9) rfl (flt hc9_8).2.2.2 (by decide) (by decide) ?_
    show Steps p.tables e below (s₁.setTop (mkF m 42 #[.val (.int p0)] [])) _
    refine XS.iconst X0.here hx rfl (hb hby d1_42) ?_
    show Steps p.tables e below (s₁.setTop (mkF m 43 #[.val (.int p0)] [(.int (1 : Int32))])) _
    refine XS.goto X0.here hx rfl (pc0 := 43) (pc' := 47) rfl (hb hby d1_43) (by decide) (by decide) ?_
    exact k)
  obtain ⟨fs, hr, hrun, hended, hW, hsame⟩ := X0.leave (v := some (.int (1 : Int32))) (fun h => by rw [Bd.returns] at h; cases h) hlk
  have hF : F1 p0 = (1 : Int32) := by unfold F1; rw [if_neg hc3_2, if_neg hc9_8]
  exact ⟨_, _, pre22 _ (retN X0 hx (t := .boolean) Bd.returns (by simp) (hb hby d1_47) hr), hrun, hended, _, _, rfl, ⟨by rw [hF], N0, e0⟩, ⟨_, rfl⟩, hW, hsame.mono (by decide) (by decide)⟩
def f2_m8 (p0 : Int32) : Int32 := (if p0 < (48 : Int32) then (0 : Int32) else (if p0 < (58 : Int32) then (1 : Int32) else (0 : Int32)))
def f2_m16 (p0 : Int32) : Int32 := (if (p0 ||| (32 : Int32)) < (97 : Int32) then (0 : Int32) else (if (p0 ||| (32 : Int32)) < (123 : Int32) then (1 : Int32) else (0 : Int32)))
def F2 (p0 : Int32) : Int32 := (if (f2_m8 p0) = (0 : Int32) then (if (f2_m16 p0) = (0 : Int32) then (if p0 = (45 : Int32) then (1 : Int32) else (0 : Int32)) else (1 : Int32)) else (1 : Int32))
theorem ef2 (m : MethodId) (x0 : Int32) : entryFrame m #[(.int x0)] 4 = mkF m 0 #[.val (.int x0), .unset, .unset, .unset] [] := by first | (simp [entryFrame, mkF, argsToLocals, Value.category]; done) | rfl
def Q2 (Z : State) (p0 : Int32) (h0 : Heap) (n0 : Nat) (v : Option Value) (h : Heap) (L : List Loc) : Prop := v = some (.int (F2 p0)) ∧ Fr n0 L ∧ h = h0
set_option maxRecDepth 65536 in
set_option maxHeartbeats 40000000 in
theorem rm2 (l : Launch) (Z : State) (a0 : Array Value) (hw : ∀ d ∈ tables_1, d.before a0 Z = true) (ws : List Jvm.Cond) (p0 : Int32) (h0 : Heap) (n0 : Nat) (Z0 : n0 ≤ h0.size) :
    MetFree l (⟨x.cls, "ref", "(I)Z"⟩ : MethodName) (head1 (Jvm.Cond.code (⟨x.cls, "ref", "(I)Z"⟩ : MethodName) method_2_code 4 (some .boolean) :: ws) ({ frames := 0, cells := 0, slots := 0, locals := 0 } : Room)) (fun a U => a = #[(.int p0)] ∧ Z.Warmed39 U.vm ∧ U.heap = h0) (fun _ _ _ _ _ => True) (fun _ U o U' => ∃ v L, o = .returned v ∧ Q2 Z p0 h0 n0 v U'.heap L ∧ FrameEnd U o U' L ({ frames := 0, cells := 0, slots := 0, locals := 0 } : Room).cells ({ frames := 0, cells := 0, slots := 0, locals := 0 } : Room).slots) := by
  refine MetFree.of_bodySF (plainFor_of_name pn1) hisR ?_
  intro p e s m args below meth c s₁ Bd hml0 hP hK
  obtain ⟨rfl, hZ, hh⟩ := hP
  have hx := Bd.exec
  have hby := Bd.bytes
  have hml : c.maxLocals = 4 := hml0
  have hown' := findClass_of_methodNamed Bd.named
  have hown : s.vm.findClass x.cls = some m.cls := hown'
  have hnm := (name_of_methodNamed Bd.named Bd.method).1
  have X0 : Stand p l e ({ frames := 0, cells := 0, slots := 0, locals := 0 } : Room) s m #[(.int p0)] below meth c s₁ [] 0 0 := Stand.of_body Bd
  have e0 : s₁.heap = h0 := by rw [← hh, Bd.state]; rfl
  have N0 := Fr.nil n0
  have hlk : meth.locks = false := by first | exact BodyLoose.notSynchronized Bd | exact Body.notSynchronized Bd
  have pre0 : ∀ t, Steps p.tables e below (s₁.setTop (mkF m 0 #[.val (.int p0), .unset, .unset, .unset] [])) t → Steps p.tables e below (s₁.setTop (entryFrame m #[(.int p0)] 4)) t := fun t k => castTop (ef2 m p0) k
  have pre1 : ∀ t, Steps p.tables e below (s₁.setTop (mkF m 3 #[.val (.int p0), .unset, .unset, .unset] [(.int (48 : Int32)), (.int p0)])) t → Steps p.tables e below (s₁.setTop (entryFrame m #[(.int p0)] 4)) t := fun t k => pre0 t (by
    show Steps p.tables e below (s₁.setTop (mkF m 0 #[.val (.int p0), .unset, .unset, .unset] [])) _
    refine XS.iloadN X0.here hx rfl (hb hby d2_0) rfl ?_
    show Steps p.tables e below (s₁.setTop (mkF m 1 #[.val (.int p0), .unset, .unset, .unset] [(.int p0)])) _
    refine XS.bipush X0.here hx rfl (hb hby d2_1) ?_
    exact k)
  obtain ⟨T2, L2, X2, e2, N2, pre2⟩ : ∃ (T' : State) (locs' : List Loc), Stand p l e ({ frames := 0, cells := 0, slots := 0, locals := 0 } : Room) s m #[(.int p0)] below meth c T' locs' 0 0 ∧ T'.heap = h0 ∧ Fr n0 locs' ∧ ∀ t, Steps p.tables e below (T'.setTop (mkF m 17 #[.val (.int p0), .unset, .unset, .unset] [(.int (f2_m8 p0))])) t → Steps p.tables e below (s₁.setTop (entryFrame m #[(.int p0)] 4)) t := by
    by_cases hc3_2 : p0 < (48 : Int32)
    · have pre3 : ∀ t, Steps p.tables e below (s₁.setTop (mkF m 17 #[.val (.int p0), .unset, .unset, .unset] [(.int (0 : Int32))])) t → Steps p.tables e below (s₁.setTop (entryFrame m #[(.int p0)] 4)) t := fun t k => pre1 t (by
        show Steps p.tables e below (s₁.setTop (mkF m 3 #[.val (.int p0), .unset, .unset, .unset] [(.int (48 : Int32)), (.int p0)])) _
        refine XS.icmpYes X0.here hx rfl (pc0 := 3) (pc' := 16) rfl (hb hby d2_3) rfl (tlt hc3_2).1 (by decide) (by decide) ?_
        show Steps p.tables e below (s₁.setTop (mkF m 16 #[.val (.int p0), .unset, .unset, .unset] [])) _
        refine XS.iconst X0.here hx rfl (hb hby d2_16) ?_
        exact k)
      have q_f2_m8 : f2_m8 p0 = (0 : Int32) := by unfold f2_m8; rw [if_pos hc3_2]
      rw [q_f2_m8]
      exact ⟨s₁, _, X0, e0, N0, pre3⟩
    have pre4 : ∀ t, Steps p.tables e below (s₁.setTop (mkF m 9 #[.val (.int p0), .unset, .unset, .unset] [(.int (58 : Int32)), (.int p0)])) t → Steps p.tables e below (s₁.setTop (entryFrame m #[(.int p0)] 4)) t := fun t k => pre1 t (by
      show Steps p.tables e below (s₁.setTop (mkF m 3 #[.val (.int p0), .unset, .unset, .unset] [(.int (48 : Int32)), (.int p0)])) _
      refine XS.icmpNo X0.here hx rfl (hb hby d2_3) rfl (flt hc3_2).1 ?_
      show Steps p.tables e below (s₁.setTop (mkF m 6 #[.val (.int p0), .unset, .unset, .unset] [])) _
      refine XS.iloadN X0.here hx rfl (hb hby d2_6) rfl ?_
      show Steps p.tables e below (s₁.setTop (mkF m 7 #[.val (.int p0), .unset, .unset, .unset] [(.int p0)])) _
      refine XS.bipush X0.here hx rfl (hb hby d2_7) ?_
      exact k)
    by_cases hc9_5 : p0 < (58 : Int32)
    · have pre6 : ∀ t, Steps p.tables e below (s₁.setTop (mkF m 17 #[.val (.int p0), .unset, .unset, .unset] [(.int (1 : Int32))])) t → Steps p.tables e below (s₁.setTop (entryFrame m #[(.int p0)] 4)) t := fun t k => pre4 t (by
        show Steps p.tables e below (s₁.setTop (mkF m 9 #[.val (.int p0), .unset, .unset, .unset] [(.int (58 : Int32)), (.int p0)])) _
        refine XS.icmpNo X0.here hx rfl (hb hby d2_9) rfl (tlt hc9_5).2.1 ?_
        show Steps p.tables e below (s₁.setTop (mkF m 12 #[.val (.int p0), .unset, .unset, .unset] [])) _
        refine XS.iconst X0.here hx rfl (hb hby d2_12) ?_
        show Steps p.tables e below (s₁.setTop (mkF m 13 #[.val (.int p0), .unset, .unset, .unset] [(.int (1 : Int32))])) _
        refine XS.goto X0.here hx rfl (pc0 := 13) (pc' := 17) rfl (hb hby d2_13) (by decide) (by decide) ?_
        exact k)
      have q_f2_m8 : f2_m8 p0 = (1 : Int32) := by unfold f2_m8; rw [if_neg hc3_2, if_pos hc9_5]
      rw [q_f2_m8]
      exact ⟨s₁, _, X0, e0, N0, pre6⟩
    have pre7 : ∀ t, Steps p.tables e below (s₁.setTop (mkF m 17 #[.val (.int p0), .unset, .unset, .unset] [(.int (0 : Int32))])) t → Steps p.tables e below (s₁.setTop (entryFrame m #[(.int p0)] 4)) t := fun t k => pre4 t (by
      show Steps p.tables e below (s₁.setTop (mkF m 9 #[.val (.int p0), .unset, .unset, .unset] [(.int (58 : Int32)), (.int p0)])) _
      refine XS.icmpYes X0.here hx rfl (pc0 := 9) (pc' := 16) rfl (hb hby d2_9) rfl (flt hc9_5).2.1 (by decide) (by decide) ?_
      show Steps p.tables e below (s₁.setTop (mkF m 16 #[.val (.int p0), .unset, .unset, .unset] [])) _
      refine XS.iconst X0.here hx rfl (hb hby d2_16) ?_
      exact k)
    have q_f2_m8 : f2_m8 p0 = (0 : Int32) := by unfold f2_m8; rw [if_neg hc3_2, if_neg hc9_5]
    rw [q_f2_m8]
    exact ⟨s₁, _, X0, e0, N0, pre7⟩
  have pre9 : ∀ t, Steps p.tables e below (T2.setTop (mkF m 26 #[.val (.int p0), .val (.int (f2_m8 p0)), .val (.int (p0 ||| (32 : Int32))), .unset] [(.int (97 : Int32)), (.int (p0 ||| (32 : Int32)))])) t → Steps p.tables e below (s₁.setTop (entryFrame m #[(.int p0)] 4)) t := fun t k => pre2 t (by
    show Steps p.tables e below (T2.setTop (mkF m 17 #[.val (.int p0), .unset, .unset, .unset] [(.int (f2_m8 p0))])) _
    refine XS.istoreN X2.here hx rfl (hb hby d2_17) rfl (l' := #[.val (.int p0), .val (.int (f2_m8 p0)), .unset, .unset]) rfl ?_
    show Steps p.tables e below (T2.setTop (mkF m 18 #[.val (.int p0), .val (.int (f2_m8 p0)), .unset, .unset] [])) _
    refine XS.iloadN X2.here hx rfl (hb hby d2_18) rfl ?_
    show Steps p.tables e below (T2.setTop (mkF m 19 #[.val (.int p0), .val (.int (f2_m8 p0)), .unset, .unset] [(.int p0)])) _
    refine XS.bipush X2.here hx rfl (hb hby d2_19) ?_
    show Steps p.tables e below (T2.setTop (mkF m 21 #[.val (.int p0), .val (.int (f2_m8 p0)), .unset, .unset] [(.int (32 : Int32)), (.int p0)])) _
    refine XS.ior X2.here hx rfl (hb hby d2_21) rfl ?_
    show Steps p.tables e below (T2.setTop (mkF m 22 #[.val (.int p0), .val (.int (f2_m8 p0)), .unset, .unset] [(.int (p0 ||| (32 : Int32)))])) _
    refine XS.istoreN X2.here hx rfl (hb hby d2_22) rfl (l' := #[.val (.int p0), .val (.int (f2_m8 p0)), .val (.int (p0 ||| (32 : Int32))), .unset]) rfl ?_
    show Steps p.tables e below (T2.setTop (mkF m 23 #[.val (.int p0), .val (.int (f2_m8 p0)), .val (.int (p0 ||| (32 : Int32))), .unset] [])) _
    refine XS.iloadN X2.here hx rfl (hb hby d2_23) rfl ?_
    show Steps p.tables e below (T2.setTop (mkF m 24 #[.val (.int p0), .val (.int (f2_m8 p0)), .val (.int (p0 ||| (32 : Int32))), .unset] [(.int (p0 ||| (32 : Int32)))])) _
    refine XS.bipush X2.here hx rfl (hb hby d2_24) ?_
    exact k)
  obtain ⟨T10, L10, X10, e10, N10, pre10⟩ : ∃ (T' : State) (locs' : List Loc), Stand p l e ({ frames := 0, cells := 0, slots := 0, locals := 0 } : Room) s m #[(.int p0)] below meth c T' locs' 0 0 ∧ T'.heap = h0 ∧ Fr n0 locs' ∧ ∀ t, Steps p.tables e below (T'.setTop (mkF m 40 #[.val (.int p0), .val (.int (f2_m8 p0)), .val (.int (p0 ||| (32 : Int32))), .unset] [(.int (f2_m16 p0))])) t → Steps p.tables e below (s₁.setTop (entryFrame m #[(.int p0)] 4)) t := by
    by_cases hc26_10 : (p0 ||| (32 : Int32)) < (97 : Int32)
    · have pre11 : ∀ t, Steps p.tables e below (T2.setTop (mkF m 40 #[.val (.int p0), .val (.int (f2_m8 p0)), .val (.int (p0 ||| (32 : Int32))), .unset] [(.int (0 : Int32))])) t → Steps p.tables e below (s₁.setTop (entryFrame m #[(.int p0)] 4)) t := fun t k => pre9 t (by
        show Steps p.tables e below (T2.setTop (mkF m 26 #[.val (.int p0), .val (.int (f2_m8 p0)), .val (.int (p0 ||| (32 : Int32))), .unset] [(.int (97 : Int32)), (.int (p0 ||| (32 : Int32)))])) _
        refine XS.icmpYes X2.here hx rfl (pc0 := 26) (pc' := 39) rfl (hb hby d2_26) rfl (tlt hc26_10).1 (by decide) (by decide) ?_
        show Steps p.tables e below (T2.setTop (mkF m 39 #[.val (.int p0), .val (.int (f2_m8 p0)), .val (.int (p0 ||| (32 : Int32))), .unset] [])) _
        refine XS.iconst X2.here hx rfl (hb hby d2_39) ?_
        exact k)
      have q_f2_m16 : f2_m16 p0 = (0 : Int32) := by unfold f2_m16; rw [if_pos hc26_10]
      rw [q_f2_m16]
      exact ⟨T2, _, X2, e2, N2, pre11⟩
    have pre12 : ∀ t, Steps p.tables e below (T2.setTop (mkF m 32 #[.val (.int p0), .val (.int (f2_m8 p0)), .val (.int (p0 ||| (32 : Int32))), .unset] [(.int (123 : Int32)), (.int (p0 ||| (32 : Int32)))])) t → Steps p.tables e below (s₁.setTop (entryFrame m #[(.int p0)] 4)) t := fun t k => pre9 t (by
      show Steps p.tables e below (T2.setTop (mkF m 26 #[.val (.int p0), .val (.int (f2_m8 p0)), .val (.int (p0 ||| (32 : Int32))), .unset] [(.int (97 : Int32)), (.int (p0 ||| (32 : Int32)))])) _
      refine XS.icmpNo X2.here hx rfl (hb hby d2_26) rfl (flt hc26_10).1 ?_
      show Steps p.tables e below (T2.setTop (mkF m 29 #[.val (.int p0), .val (.int (f2_m8 p0)), .val (.int (p0 ||| (32 : Int32))), .unset] [])) _
      refine XS.iloadN X2.here hx rfl (hb hby d2_29) rfl ?_
      show Steps p.tables e below (T2.setTop (mkF m 30 #[.val (.int p0), .val (.int (f2_m8 p0)), .val (.int (p0 ||| (32 : Int32))), .unset] [(.int (p0 ||| (32 : Int32)))])) _
      refine XS.bipush X2.here hx rfl (hb hby d2_30) ?_
      exact k)
    by_cases hc32_13 : (p0 ||| (32 : Int32)) < (123 : Int32)
    · have pre14 : ∀ t, Steps p.tables e below (T2.setTop (mkF m 40 #[.val (.int p0), .val (.int (f2_m8 p0)), .val (.int (p0 ||| (32 : Int32))), .unset] [(.int (1 : Int32))])) t → Steps p.tables e below (s₁.setTop (entryFrame m #[(.int p0)] 4)) t := fun t k => pre12 t (by
        show Steps p.tables e below (T2.setTop (mkF m 32 #[.val (.int p0), .val (.int (f2_m8 p0)), .val (.int (p0 ||| (32 : Int32))), .unset] [(.int (123 : Int32)), (.int (p0 ||| (32 : Int32)))])) _
        refine XS.icmpNo X2.here hx rfl (hb hby d2_32) rfl (tlt hc32_13).2.1 ?_
        show Steps p.tables e below (T2.setTop (mkF m 35 #[.val (.int p0), .val (.int (f2_m8 p0)), .val (.int (p0 ||| (32 : Int32))), .unset] [])) _
        refine XS.iconst X2.here hx rfl (hb hby d2_35) ?_
        show Steps p.tables e below (T2.setTop (mkF m 36 #[.val (.int p0), .val (.int (f2_m8 p0)), .val (.int (p0 ||| (32 : Int32))), .unset] [(.int (1 : Int32))])) _
        refine XS.goto X2.here hx rfl (pc0 := 36) (pc' := 40) rfl (hb hby d2_36) (by decide) (by decide) ?_
        exact k)
      have q_f2_m16 : f2_m16 p0 = (1 : Int32) := by unfold f2_m16; rw [if_neg hc26_10, if_pos hc32_13]
      rw [q_f2_m16]
      exact ⟨T2, _, X2, e2, N2, pre14⟩
    have pre15 : ∀ t, Steps p.tables e below (T2.setTop (mkF m 40 #[.val (.int p0), .val (.int (f2_m8 p0)), .val (.int (p0 ||| (32 : Int32))), .unset] [(.int (0 : Int32))])) t → Steps p.tables e below (s₁.setTop (entryFrame m #[(.int p0)] 4)) t := fun t k => pre12 t (by
      show Steps p.tables e below (T2.setTop (mkF m 32 #[.val (.int p0), .val (.int (f2_m8 p0)), .val (.int (p0 ||| (32 : Int32))), .unset] [(.int (123 : Int32)), (.int (p0 ||| (32 : Int32)))])) _
      refine XS.icmpYes X2.here hx rfl (pc0 := 32) (pc' := 39) rfl (hb hby d2_32) rfl (flt hc32_13).2.1 (by decide) (by decide) ?_
      show Steps p.tables e below (T2.setTop (mkF m 39 #[.val (.int p0), .val (.int (f2_m8 p0)), .val (.int (p0 ||| (32 : Int32))), .unset] [])) _
      refine XS.iconst X2.here hx rfl (hb hby d2_39) ?_
      exact k)
    have q_f2_m16 : f2_m16 p0 = (0 : Int32) := by unfold f2_m16; rw [if_neg hc26_10, if_neg hc32_13]
    rw [q_f2_m16]
    exact ⟨T2, _, X2, e2, N2, pre15⟩
  have pre17 : ∀ t, Steps p.tables e below (T10.setTop (mkF m 42 #[.val (.int p0), .val (.int (f2_m8 p0)), .val (.int (p0 ||| (32 : Int32))), .val (.int (f2_m16 p0))] [(.int (f2_m8 p0))])) t → Steps p.tables e below (s₁.setTop (entryFrame m #[(.int p0)] 4)) t := fun t k => pre10 t (by
    show Steps p.tables e below (T10.setTop (mkF m 40 #[.val (.int p0), .val (.int (f2_m8 p0)), .val (.int (p0 ||| (32 : Int32))), .unset] [(.int (f2_m16 p0))])) _
    refine XS.istoreN X10.here hx rfl (hb hby d2_40) rfl (l' := #[.val (.int p0), .val (.int (f2_m8 p0)), .val (.int (p0 ||| (32 : Int32))), .val (.int (f2_m16 p0))]) rfl ?_
    show Steps p.tables e below (T10.setTop (mkF m 41 #[.val (.int p0), .val (.int (f2_m8 p0)), .val (.int (p0 ||| (32 : Int32))), .val (.int (f2_m16 p0))] [])) _
    refine XS.iloadN X10.here hx rfl (hb hby d2_41) rfl ?_
    exact k)
  by_cases hc42_18 : (f2_m8 p0) = (0 : Int32)
  · have pre19 : ∀ t, Steps p.tables e below (T10.setTop (mkF m 46 #[.val (.int p0), .val (.int (f2_m8 p0)), .val (.int (p0 ||| (32 : Int32))), .val (.int (f2_m16 p0))] [(.int (f2_m16 p0))])) t → Steps p.tables e below (s₁.setTop (entryFrame m #[(.int p0)] 4)) t := fun t k => pre17 t (by
      show Steps p.tables e below (T10.setTop (mkF m 42 #[.val (.int p0), .val (.int (f2_m8 p0)), .val (.int (p0 ||| (32 : Int32))), .val (.int (f2_m16 p0))] [(.int (f2_m8 p0))])) _
      refine XS.ifNo X10.here hx rfl (hb hby d2_42) rfl ((if0 _ _).trans (teq hc42_18).2) ?_
      show Steps p.tables e below (T10.setTop (mkF m 45 #[.val (.int p0), .val (.int (f2_m8 p0)), .val (.int (p0 ||| (32 : Int32))), .val (.int (f2_m16 p0))] [])) _
      refine XS.iloadN X10.here hx rfl (hb hby d2_45) rfl ?_
      exact k)
    by_cases hc46_20 : (f2_m16 p0) = (0 : Int32)
    · have pre21 : ∀ t, Steps p.tables e below (T10.setTop (mkF m 52 #[.val (.int p0), .val (.int (f2_m8 p0)), .val (.int (p0 ||| (32 : Int32))), .val (.int (f2_m16 p0))] [(.int (45 : Int32)), (.int p0)])) t → Steps p.tables e below (s₁.setTop (entryFrame m #[(.int p0)] 4)) t := fun t k => pre19 t (by
        show Steps p.tables e below (T10.setTop (mkF m 46 #[.val (.int p0), .val (.int (f2_m8 p0)), .val (.int (p0 ||| (32 : Int32))), .val (.int (f2_m16 p0))] [(.int (f2_m16 p0))])) _
        refine XS.ifNo X10.here hx rfl (hb hby d2_46) rfl ((if0 _ _).trans (teq hc46_20).2) ?_
        show Steps p.tables e below (T10.setTop (mkF m 49 #[.val (.int p0), .val (.int (f2_m8 p0)), .val (.int (p0 ||| (32 : Int32))), .val (.int (f2_m16 p0))] [])) _
        refine XS.iloadN X10.here hx rfl (hb hby d2_49) rfl ?_
        show Steps p.tables e below (T10.setTop (mkF m 50 #[.val (.int p0), .val (.int (f2_m8 p0)), .val (.int (p0 ||| (32 : Int32))), .val (.int (f2_m16 p0))] [(.int p0)])) _
        refine XS.bipush X10.here hx rfl (hb hby d2_50) ?_
        exact k)
      by_cases hc52_22 : p0 = (45 : Int32)
      · have pre23 : ∀ t, Steps p.tables e below (T10.setTop (mkF m 60 #[.val (.int p0), .val (.int (f2_m8 p0)), .val (.int (p0 ||| (32 : Int32))), .val (.int (f2_m16 p0))] [(.int (1 : Int32))])) t → Steps p.tables e below (s₁.setTop (entryFrame m #[(.int p0)] 4)) t := fun t k => pre21 t (by
          show Steps p.tables e below (T10.setTop (mkF m 52 #[.val (.int p0), .val (.int (f2_m8 p0)), .val (.int (p0 ||| (32 : Int32))), .val (.int (f2_m16 p0))] [(.int (45 : Int32)), (.int p0)])) _
          refine XS.icmpNo X10.here hx rfl (hb hby d2_52) rfl (teq hc52_22).2 ?_
          show Steps p.tables e below (T10.setTop (mkF m 55 #[.val (.int p0), .val (.int (f2_m8 p0)), .val (.int (p0 ||| (32 : Int32))), .val (.int (f2_m16 p0))] [])) _
          refine XS.iconst X10.here hx rfl (hb hby d2_55) ?_
          show Steps p.tables e below (T10.setTop (mkF m 56 #[.val (.int p0), .val (.int (f2_m8 p0)), .val (.int (p0 ||| (32 : Int32))), .val (.int (f2_m16 p0))] [(.int (1 : Int32))])) _
          refine XS.goto X10.here hx rfl (pc0 := 56) (pc' := 60) rfl (hb hby d2_56) (by decide) (by decide) ?_
          exact k)
        obtain ⟨fs, hr, hrun, hended, hW, hsame⟩ := X10.leave (v := some (.int (1 : Int32))) (fun h => by rw [Bd.returns] at h; cases h) hlk
        have hF : F2 p0 = (1 : Int32) := by unfold F2; rw [if_pos hc42_18, if_pos hc46_20, if_pos hc52_22]
        exact ⟨_, _, pre23 _ (retN X10 hx (t := .boolean) Bd.returns (by simp) (hb hby d2_60) hr), hrun, hended, _, _, rfl, ⟨by rw [hF], N10, e10⟩, ⟨_, rfl⟩, hW, hsame.mono (by decide) (by decide)⟩
      have pre24 : ∀ t, Steps p.tables e below (T10.setTop (mkF m 60 #[.val (.int p0), .val (.int (f2_m8 p0)), .val (.int (p0 ||| (32 : Int32))), .val (.int (f2_m16 p0))] [(.int (0 : Int32))])) t → Steps p.tables e below (s₁.setTop (entryFrame m #[(.int p0)] 4)) t := fun t k => pre21 t (by
        show Steps p.tables e below (T10.setTop (mkF m 52 #[.val (.int p0), .val (.int (f2_m8 p0)), .val (.int (p0 ||| (32 : Int32))), .val (.int (f2_m16 p0))] [(.int (45 : Int32)), (.int p0)])) _
        refine XS.icmpYes X10.here hx rfl (pc0 := 52) (pc' := 59) rfl (hb hby d2_52) rfl (feq hc52_22).2 (by decide) (by decide) ?_
        show Steps p.tables e below (T10.setTop (mkF m 59 #[.val (.int p0), .val (.int (f2_m8 p0)), .val (.int (p0 ||| (32 : Int32))), .val (.int (f2_m16 p0))] [])) _
        refine XS.iconst X10.here hx rfl (hb hby d2_59) ?_
        exact k)
      obtain ⟨fs, hr, hrun, hended, hW, hsame⟩ := X10.leave (v := some (.int (0 : Int32))) (fun h => by rw [Bd.returns] at h; cases h) hlk
      have hF : F2 p0 = (0 : Int32) := by unfold F2; rw [if_pos hc42_18, if_pos hc46_20, if_neg hc52_22]
      exact ⟨_, _, pre24 _ (retN X10 hx (t := .boolean) Bd.returns (by simp) (hb hby d2_60) hr), hrun, hended, _, _, rfl, ⟨by rw [hF], N10, e10⟩, ⟨_, rfl⟩, hW, hsame.mono (by decide) (by decide)⟩
    have pre25 : ∀ t, Steps p.tables e below (T10.setTop (mkF m 60 #[.val (.int p0), .val (.int (f2_m8 p0)), .val (.int (p0 ||| (32 : Int32))), .val (.int (f2_m16 p0))] [(.int (1 : Int32))])) t → Steps p.tables e below (s₁.setTop (entryFrame m #[(.int p0)] 4)) t := fun t k => pre19 t (by
      show Steps p.tables e below (T10.setTop (mkF m 46 #[.val (.int p0), .val (.int (f2_m8 p0)), .val (.int (p0 ||| (32 : Int32))), .val (.int (f2_m16 p0))] [(.int (f2_m16 p0))])) _
      refine XS.ifYes X10.here hx rfl (pc0 := 46) (pc' := 55) rfl (hb hby d2_46) rfl ((if0 _ _).trans (feq hc46_20).2) (by decide) (by decide) ?_
      show Steps p.tables e below (T10.setTop (mkF m 55 #[.val (.int p0), .val (.int (f2_m8 p0)), .val (.int (p0 ||| (32 : Int32))), .val (.int (f2_m16 p0))] [])) _
      refine XS.iconst X10.here hx rfl (hb hby d2_55) ?_
      show Steps p.tables e below (T10.setTop (mkF m 56 #[.val (.int p0), .val (.int (f2_m8 p0)), .val (.int (p0 ||| (32 : Int32))), .val (.int (f2_m16 p0))] [(.int (1 : Int32))])) _
      refine XS.goto X10.here hx rfl (pc0 := 56) (pc' := 60) rfl (hb hby d2_56) (by decide) (by decide) ?_
      exact k)
    obtain ⟨fs, hr, hrun, hended, hW, hsame⟩ := X10.leave (v := some (.int (1 : Int32))) (fun h => by rw [Bd.returns] at h; cases h) hlk
    have hF : F2 p0 = (1 : Int32) := by unfold F2; rw [if_pos hc42_18, if_neg hc46_20]
    exact ⟨_, _, pre25 _ (retN X10 hx (t := .boolean) Bd.returns (by simp) (hb hby d2_60) hr), hrun, hended, _, _, rfl, ⟨by rw [hF], N10, e10⟩, ⟨_, rfl⟩, hW, hsame.mono (by decide) (by decide)⟩
  have pre26 : ∀ t, Steps p.tables e below (T10.setTop (mkF m 60 #[.val (.int p0), .val (.int (f2_m8 p0)), .val (.int (p0 ||| (32 : Int32))), .val (.int (f2_m16 p0))] [(.int (1 : Int32))])) t → Steps p.tables e below (s₁.setTop (entryFrame m #[(.int p0)] 4)) t := fun t k => pre17 t (by
    show Steps p.tables e below (T10.setTop (mkF m 42 #[.val (.int p0), .val (.int (f2_m8 p0)), .val (.int (p0 ||| (32 : Int32))), .val (.int (f2_m16 p0))] [(.int (f2_m8 p0))])) _
    refine XS.ifYes X10.here hx rfl (pc0 := 42) (pc' := 55) rfl (hb hby d2_42) rfl ((if0 _ _).trans (feq hc42_18).2) (by decide) (by decide) ?_
    show Steps p.tables e below (T10.setTop (mkF m 55 #[.val (.int p0), .val (.int (f2_m8 p0)), .val (.int (p0 ||| (32 : Int32))), .val (.int (f2_m16 p0))] [])) _
    refine XS.iconst X10.here hx rfl (hb hby d2_55) ?_
    show Steps p.tables e below (T10.setTop (mkF m 56 #[.val (.int p0), .val (.int (f2_m8 p0)), .val (.int (p0 ||| (32 : Int32))), .val (.int (f2_m16 p0))] [(.int (1 : Int32))])) _
    refine XS.goto X10.here hx rfl (pc0 := 56) (pc' := 60) rfl (hb hby d2_56) (by decide) (by decide) ?_
    exact k)
  obtain ⟨fs, hr, hrun, hended, hW, hsame⟩ := X10.leave (v := some (.int (1 : Int32))) (fun h => by rw [Bd.returns] at h; cases h) hlk
  have hF : F2 p0 = (1 : Int32) := by unfold F2; rw [if_neg hc42_18]
  exact ⟨_, _, pre26 _ (retN X10 hx (t := .boolean) Bd.returns (by simp) (hb hby d2_60) hr), hrun, hended, _, _, rfl, ⟨by rw [hF], N10, e10⟩, ⟨_, rfl⟩, hW, hsame.mono (by decide) (by decide)⟩
def f0_m7 (p0 : Int32) (p1 : Int32) : Int32 := (if (F1 p0) = (F2 p0) then (1 : Int32) else (0 : Int32))
def f0_m14 (p0 : Int32) (p1 : Int32) : Int32 := (if (F1 ((p1 &&& (255 : Int32)) - (1 : Int32))) = (F2 ((p1 &&& (255 : Int32)) - (1 : Int32))) then (1 : Int32) else (0 : Int32))
def F0 (p0 : Int32) (p1 : Int32) : Int32 := (if (f0_m7 p0 p1) = (0 : Int32) then (0 : Int32) else (if (f0_m14 p0 p1) = (0 : Int32) then (0 : Int32) else (1 : Int32)))
theorem ef0 (m : MethodId) (x0 : Int32) (x1 : Int32) : entryFrame m #[(.int x0), (.int x1)] maxLocals = mkF m 0 #[.val (.int x0), .val (.int x1), .unset, .unset, .unset] [] := by first | (simp [entryFrame, mkF, argsToLocals, Value.category, maxLocals]; done) | rfl
def Q0 (Z : State) (p0 : Int32) (p1 : Int32) (h0 : Heap) (n0 : Nat) (v : Option Value) (h : Heap) (L : List Loc) : Prop := v = some (.int (F0 p0 p1)) ∧ Fr n0 L ∧ h = h0
set_option maxRecDepth 65536 in
set_option maxHeartbeats 40000000 in
theorem rm0 (l : Launch) (Z : State) (a0 : Array Value) (hw : ∀ d ∈ tables_1, d.before a0 Z = true) (ws : List Jvm.Cond) (p0 : Int32) (p1 : Int32) (h0 : Heap) (n0 : Nat) (Z0 : n0 ≤ h0.size) :
    MetFree l x (head1 (Jvm.Cond.code x code maxLocals ret :: ws) room_1) (fun a U => a = #[(.int p0), (.int p1)] ∧ Z.Warmed39 U.vm ∧ U.heap = h0) (fun _ _ _ _ _ => True) (fun _ U o U' => ∃ v L, o = .returned v ∧ Q0 Z p0 p1 h0 n0 v U'.heap L ∧ FrameEnd U o U' L room_1.cells room_1.slots) := by
  refine MetFree.of_bodySF (plainFor_of_name pn1) hisR ?_
  intro p e s m args below meth c s₁ Bd hml0 hP hK
  obtain ⟨rfl, hZ, hh⟩ := hP
  have hx := Bd.exec
  have hby := Bd.bytes
  have hml : c.maxLocals = 5 := hml0
  have hown' := findClass_of_methodNamed Bd.named
  have hown : s.vm.findClass x.cls = some m.cls := hown'
  have hnm := (name_of_methodNamed Bd.named Bd.method).1
  have X0 : Stand p l e room_1 s m #[(.int p0), (.int p1)] below meth c s₁ [] 0 0 := Stand.of_body Bd
  have e0 : s₁.heap = h0 := by rw [← hh, Bd.state]; rfl
  have N0 := Fr.nil n0
  have hlk : meth.locks = false := by first | exact BodyLoose.notSynchronized Bd | exact Body.notSynchronized Bd
  have pre0 : ∀ t, Steps p.tables e below (s₁.setTop (mkF m 0 #[.val (.int p0), .val (.int p1), .unset, .unset, .unset] [])) t → Steps p.tables e below (s₁.setTop (entryFrame m #[(.int p0), (.int p1)] maxLocals)) t := fun t k => castTop (ef0 m p0 p1) k
  obtain ⟨_, _, ⟨T1, L1, k1, n1⟩, -, X1, ⟨Lc1, hQ1, l1, y1, z1⟩, st1⟩ := Jvm.LawKit.callS X0 hx (y := (⟨site_9.cls, "isWordChar", "(I)Z"⟩ : MethodName)) hown (mvT hZ (hw _ (List.mem_of_getElem? (i := 0) rfl))) (mvT hZ (hw _ (List.mem_of_getElem? (i := 1) rfl))) (mvT hZ (hw _ (List.mem_of_getElem? (i := 2) rfl))) (mvT hZ (hw _ (List.mem_of_getElem? (i := 3) rfl))) (by decide) (backOf (W := 0) (rm1 l Z a0 hw [] p0 h0 n0 Z0) hZ (hw _ (List.mem_of_getElem? (i := 3) rfl)) (hw _ (List.mem_of_getElem? (i := 2) rfl)) (by decide) (by decide)) (g := (mkF m 9 #[.val (.int p0), .val (.int p1), .val (.int ((p1 &&& (255 : Int32)) - (1 : Int32))), .unset, .unset] [(.int p0)])) rfl (by rw [hml]; rfl) (argsL := [(.int p0)]) (rest := []) (lenOf pd0 rfl) rfl (by show 2 * 0 + _ ≤ _; exact Nat.le_of_eq rfl) (hb hby at_9) (fun _ _ => ⟨rfl, e0, (by decide : 0 + 0 ≤ _), (by decide : 0 + 0 ≤ _)⟩)
  dsimp only [Pt.U, Pt.locs, Pt.cells, Pt.slots] at X1 l1 y1 z1 st1 hQ1
  subst l1 y1 z1
  obtain ⟨rfl, N1q, e1⟩ := hQ1
  have N1 := Fr.app N0 N1q
  obtain ⟨_, _, ⟨T2, L2, k2, n2⟩, -, X2, ⟨Lc2, hQ2, l2, y2, z2⟩, st2⟩ := Jvm.LawKit.callS X1 hx (y := (⟨x.cls, "ref", "(I)Z"⟩ : MethodName)) hown (mvT hZ (hw _ (List.mem_of_getElem? (i := 4) rfl))) (mvT hZ (hw _ (List.mem_of_getElem? (i := 5) rfl))) (mvT hZ (hw _ (List.mem_of_getElem? (i := 6) rfl))) (mvT hZ (hw _ (List.mem_of_getElem? (i := 7) rfl))) (by decide) (backOf (W := 1) (rm2 l Z a0 hw [] p0 h0 n0 Z0) hZ (hw _ (List.mem_of_getElem? (i := 7) rfl)) (hw _ (List.mem_of_getElem? (i := 6) rfl)) (by decide) (by decide)) (g := (mkF m 13 #[.val (.int p0), .val (.int p1), .val (.int ((p1 &&& (255 : Int32)) - (1 : Int32))), .unset, .unset] [(.int p0), (.int (F1 p0))])) rfl (by rw [hml]; rfl) (argsL := [(.int p0)]) (rest := [(.int (F1 p0))]) (lenOf pd0 rfl) rfl (by show 2 * 0 + _ ≤ _; exact Nat.le_of_eq rfl) (hb hby at_13) (fun _ _ => ⟨rfl, e1, (by decide : 0 + 0 ≤ _), (by decide : 0 + 0 ≤ _)⟩)
  dsimp only [Pt.U, Pt.locs, Pt.cells, Pt.slots] at X2 l2 y2 z2 st2 hQ2
  subst l2 y2 z2
  obtain ⟨rfl, N2q, e2⟩ := hQ2
  have N2 := Fr.app N1 N2q
  have pre3 : ∀ t, Steps p.tables e below (T2.setTop (mkF m 16 #[.val (.int p0), .val (.int p1), .val (.int ((p1 &&& (255 : Int32)) - (1 : Int32))), .unset, .unset] [(.int (F2 p0)), (.int (F1 p0))])) t → Steps p.tables e below (s₁.setTop (entryFrame m #[(.int p0), (.int p1)] maxLocals)) t := fun t k => pre0 t (by
    show Steps p.tables e below (s₁.setTop (mkF m 0 #[.val (.int p0), .val (.int p1), .unset, .unset, .unset] [])) _
    refine XS.iloadN X0.here hx rfl (hb hby at_0) rfl ?_
    show Steps p.tables e below (s₁.setTop (mkF m 1 #[.val (.int p0), .val (.int p1), .unset, .unset, .unset] [(.int p1)])) _
    refine XS.sipush X0.here hx rfl (hb hby at_1) ?_
    show Steps p.tables e below (s₁.setTop (mkF m 4 #[.val (.int p0), .val (.int p1), .unset, .unset, .unset] [(.int (255 : Int32)), (.int p1)])) _
    refine XS.iand X0.here hx rfl (hb hby at_4) rfl ?_
    show Steps p.tables e below (s₁.setTop (mkF m 5 #[.val (.int p0), .val (.int p1), .unset, .unset, .unset] [(.int (p1 &&& (255 : Int32)))])) _
    refine XS.iconst X0.here hx rfl (hb hby at_5) ?_
    show Steps p.tables e below (s₁.setTop (mkF m 6 #[.val (.int p0), .val (.int p1), .unset, .unset, .unset] [(.int (1 : Int32)), (.int (p1 &&& (255 : Int32)))])) _
    refine XS.isub X0.here hx rfl (hb hby at_6) rfl ?_
    show Steps p.tables e below (s₁.setTop (mkF m 7 #[.val (.int p0), .val (.int p1), .unset, .unset, .unset] [(.int ((p1 &&& (255 : Int32)) - (1 : Int32)))])) _
    refine XS.istoreN X0.here hx rfl (hb hby at_7) rfl (l' := #[.val (.int p0), .val (.int p1), .val (.int ((p1 &&& (255 : Int32)) - (1 : Int32))), .unset, .unset]) rfl ?_
    show Steps p.tables e below (s₁.setTop (mkF m 8 #[.val (.int p0), .val (.int p1), .val (.int ((p1 &&& (255 : Int32)) - (1 : Int32))), .unset, .unset] [])) _
    refine XS.iloadN X0.here hx rfl (hb hby at_8) rfl ?_
    show Steps p.tables e below (s₁.setTop (mkF m 9 #[.val (.int p0), .val (.int p1), .val (.int ((p1 &&& (255 : Int32)) - (1 : Int32))), .unset, .unset] [(.int p0)])) _
    refine st1 _ ?_
    show Steps p.tables e below (T1.setTop (mkF m 12 #[.val (.int p0), .val (.int p1), .val (.int ((p1 &&& (255 : Int32)) - (1 : Int32))), .unset, .unset] [(.int (F1 p0))])) _
    refine XS.iloadN X1.here hx rfl (hb hby at_12) rfl ?_
    show Steps p.tables e below (T1.setTop (mkF m 13 #[.val (.int p0), .val (.int p1), .val (.int ((p1 &&& (255 : Int32)) - (1 : Int32))), .unset, .unset] [(.int p0), (.int (F1 p0))])) _
    refine st2 _ ?_
    exact k)
  obtain ⟨T4, L4, X4, e4, N4, pre4⟩ : ∃ (T' : State) (locs' : List Loc), Stand p l e room_1 s m #[(.int p0), (.int p1)] below meth c T' locs' 0 0 ∧ T'.heap = h0 ∧ Fr n0 locs' ∧ ∀ t, Steps p.tables e below (T'.setTop (mkF m 24 #[.val (.int p0), .val (.int p1), .val (.int ((p1 &&& (255 : Int32)) - (1 : Int32))), .unset, .unset] [(.int (f0_m7 p0 p1))])) t → Steps p.tables e below (s₁.setTop (entryFrame m #[(.int p0), (.int p1)] maxLocals)) t := by
    by_cases hc16_4 : (F1 p0) = (F2 p0)
    · have pre5 : ∀ t, Steps p.tables e below (T2.setTop (mkF m 24 #[.val (.int p0), .val (.int p1), .val (.int ((p1 &&& (255 : Int32)) - (1 : Int32))), .unset, .unset] [(.int (1 : Int32))])) t → Steps p.tables e below (s₁.setTop (entryFrame m #[(.int p0), (.int p1)] maxLocals)) t := fun t k => pre3 t (by
        show Steps p.tables e below (T2.setTop (mkF m 16 #[.val (.int p0), .val (.int p1), .val (.int ((p1 &&& (255 : Int32)) - (1 : Int32))), .unset, .unset] [(.int (F2 p0)), (.int (F1 p0))])) _
        refine XS.icmpNo X2.here hx rfl (hb hby at_16) rfl (teq hc16_4).2 ?_
        show Steps p.tables e below (T2.setTop (mkF m 19 #[.val (.int p0), .val (.int p1), .val (.int ((p1 &&& (255 : Int32)) - (1 : Int32))), .unset, .unset] [])) _
        refine XS.iconst X2.here hx rfl (hb hby at_19) ?_
        show Steps p.tables e below (T2.setTop (mkF m 20 #[.val (.int p0), .val (.int p1), .val (.int ((p1 &&& (255 : Int32)) - (1 : Int32))), .unset, .unset] [(.int (1 : Int32))])) _
        refine XS.goto X2.here hx rfl (pc0 := 20) (pc' := 24) rfl (hb hby at_20) (by decide) (by decide) ?_
        exact k)
      have q_f0_m7 : f0_m7 p0 p1 = (1 : Int32) := by unfold f0_m7; rw [if_pos hc16_4]
      rw [q_f0_m7]
      exact ⟨T2, _, X2, e2, N2, pre5⟩
    have pre6 : ∀ t, Steps p.tables e below (T2.setTop (mkF m 24 #[.val (.int p0), .val (.int p1), .val (.int ((p1 &&& (255 : Int32)) - (1 : Int32))), .unset, .unset] [(.int (0 : Int32))])) t → Steps p.tables e below (s₁.setTop (entryFrame m #[(.int p0), (.int p1)] maxLocals)) t := fun t k => pre3 t (by
      show Steps p.tables e below (T2.setTop (mkF m 16 #[.val (.int p0), .val (.int p1), .val (.int ((p1 &&& (255 : Int32)) - (1 : Int32))), .unset, .unset] [(.int (F2 p0)), (.int (F1 p0))])) _
      refine XS.icmpYes X2.here hx rfl (pc0 := 16) (pc' := 23) rfl (hb hby at_16) rfl (feq hc16_4).2 (by decide) (by decide) ?_
      show Steps p.tables e below (T2.setTop (mkF m 23 #[.val (.int p0), .val (.int p1), .val (.int ((p1 &&& (255 : Int32)) - (1 : Int32))), .unset, .unset] [])) _
      refine XS.iconst X2.here hx rfl (hb hby at_23) ?_
      exact k)
    have q_f0_m7 : f0_m7 p0 p1 = (0 : Int32) := by unfold f0_m7; rw [if_neg hc16_4]
    rw [q_f0_m7]
    exact ⟨T2, _, X2, e2, N2, pre6⟩
  obtain ⟨_, _, ⟨T8, L8, k8, n8⟩, -, X8, ⟨Lc8, hQ8, l8, y8, z8⟩, st8⟩ := Jvm.LawKit.callS X4 hx (y := (⟨site_9.cls, "isWordChar", "(I)Z"⟩ : MethodName)) hown (mvT hZ (hw _ (List.mem_of_getElem? (i := 0) rfl))) (mvT hZ (hw _ (List.mem_of_getElem? (i := 1) rfl))) (mvT hZ (hw _ (List.mem_of_getElem? (i := 2) rfl))) (mvT hZ (hw _ (List.mem_of_getElem? (i := 3) rfl))) (by decide) (backOf (W := 0) (rm1 l Z a0 hw [] ((p1 &&& (255 : Int32)) - (1 : Int32)) h0 n0 Z0) hZ (hw _ (List.mem_of_getElem? (i := 3) rfl)) (hw _ (List.mem_of_getElem? (i := 2) rfl)) (by decide) (by decide)) (g := (mkF m 26 #[.val (.int p0), .val (.int p1), .val (.int ((p1 &&& (255 : Int32)) - (1 : Int32))), .val (.int (f0_m7 p0 p1)), .unset] [(.int ((p1 &&& (255 : Int32)) - (1 : Int32)))])) rfl (by rw [hml]; rfl) (argsL := [(.int ((p1 &&& (255 : Int32)) - (1 : Int32)))]) (rest := []) (lenOf pd0 rfl) rfl (by show 2 * 0 + _ ≤ _; exact Nat.le_of_eq rfl) (hb hby at_26) (fun _ _ => ⟨rfl, e4, (by decide : 0 + 0 ≤ _), (by decide : 0 + 0 ≤ _)⟩)
  dsimp only [Pt.U, Pt.locs, Pt.cells, Pt.slots] at X8 l8 y8 z8 st8 hQ8
  subst l8 y8 z8
  obtain ⟨rfl, N8q, e8⟩ := hQ8
  have N8 := Fr.app N4 N8q
  obtain ⟨_, _, ⟨T9, L9, k9, n9⟩, -, X9, ⟨Lc9, hQ9, l9, y9, z9⟩, st9⟩ := Jvm.LawKit.callS X8 hx (y := (⟨x.cls, "ref", "(I)Z"⟩ : MethodName)) hown (mvT hZ (hw _ (List.mem_of_getElem? (i := 4) rfl))) (mvT hZ (hw _ (List.mem_of_getElem? (i := 5) rfl))) (mvT hZ (hw _ (List.mem_of_getElem? (i := 6) rfl))) (mvT hZ (hw _ (List.mem_of_getElem? (i := 7) rfl))) (by decide) (backOf (W := 1) (rm2 l Z a0 hw [] ((p1 &&& (255 : Int32)) - (1 : Int32)) h0 n0 Z0) hZ (hw _ (List.mem_of_getElem? (i := 7) rfl)) (hw _ (List.mem_of_getElem? (i := 6) rfl)) (by decide) (by decide)) (g := (mkF m 30 #[.val (.int p0), .val (.int p1), .val (.int ((p1 &&& (255 : Int32)) - (1 : Int32))), .val (.int (f0_m7 p0 p1)), .unset] [(.int ((p1 &&& (255 : Int32)) - (1 : Int32))), (.int (F1 ((p1 &&& (255 : Int32)) - (1 : Int32))))])) rfl (by rw [hml]; rfl) (argsL := [(.int ((p1 &&& (255 : Int32)) - (1 : Int32)))]) (rest := [(.int (F1 ((p1 &&& (255 : Int32)) - (1 : Int32))))]) (lenOf pd0 rfl) rfl (by show 2 * 0 + _ ≤ _; exact Nat.le_of_eq rfl) (hb hby at_30) (fun _ _ => ⟨rfl, e8, (by decide : 0 + 0 ≤ _), (by decide : 0 + 0 ≤ _)⟩)
  dsimp only [Pt.U, Pt.locs, Pt.cells, Pt.slots] at X9 l9 y9 z9 st9 hQ9
  subst l9 y9 z9
  obtain ⟨rfl, N9q, e9⟩ := hQ9
  have N9 := Fr.app N8 N9q
  have pre10 : ∀ t, Steps p.tables e below (T9.setTop (mkF m 33 #[.val (.int p0), .val (.int p1), .val (.int ((p1 &&& (255 : Int32)) - (1 : Int32))), .val (.int (f0_m7 p0 p1)), .unset] [(.int (F2 ((p1 &&& (255 : Int32)) - (1 : Int32)))), (.int (F1 ((p1 &&& (255 : Int32)) - (1 : Int32))))])) t → Steps p.tables e below (s₁.setTop (entryFrame m #[(.int p0), (.int p1)] maxLocals)) t := fun t k => pre4 t (by
    show Steps p.tables e below (T4.setTop (mkF m 24 #[.val (.int p0), .val (.int p1), .val (.int ((p1 &&& (255 : Int32)) - (1 : Int32))), .unset, .unset] [(.int (f0_m7 p0 p1))])) _
    refine XS.istoreN X4.here hx rfl (hb hby at_24) rfl (l' := #[.val (.int p0), .val (.int p1), .val (.int ((p1 &&& (255 : Int32)) - (1 : Int32))), .val (.int (f0_m7 p0 p1)), .unset]) rfl ?_
    show Steps p.tables e below (T4.setTop (mkF m 25 #[.val (.int p0), .val (.int p1), .val (.int ((p1 &&& (255 : Int32)) - (1 : Int32))), .val (.int (f0_m7 p0 p1)), .unset] [])) _
    refine XS.iloadN X4.here hx rfl (hb hby at_25) rfl ?_
    show Steps p.tables e below (T4.setTop (mkF m 26 #[.val (.int p0), .val (.int p1), .val (.int ((p1 &&& (255 : Int32)) - (1 : Int32))), .val (.int (f0_m7 p0 p1)), .unset] [(.int ((p1 &&& (255 : Int32)) - (1 : Int32)))])) _
    refine st8 _ ?_
    show Steps p.tables e below (T8.setTop (mkF m 29 #[.val (.int p0), .val (.int p1), .val (.int ((p1 &&& (255 : Int32)) - (1 : Int32))), .val (.int (f0_m7 p0 p1)), .unset] [(.int (F1 ((p1 &&& (255 : Int32)) - (1 : Int32))))])) _
    refine XS.iloadN X8.here hx rfl (hb hby at_29) rfl ?_
    show Steps p.tables e below (T8.setTop (mkF m 30 #[.val (.int p0), .val (.int p1), .val (.int ((p1 &&& (255 : Int32)) - (1 : Int32))), .val (.int (f0_m7 p0 p1)), .unset] [(.int ((p1 &&& (255 : Int32)) - (1 : Int32))), (.int (F1 ((p1 &&& (255 : Int32)) - (1 : Int32))))])) _
    refine st9 _ ?_
    exact k)
  obtain ⟨T11, L11, X11, e11, N11, pre11⟩ : ∃ (T' : State) (locs' : List Loc), Stand p l e room_1 s m #[(.int p0), (.int p1)] below meth c T' locs' 0 0 ∧ T'.heap = h0 ∧ Fr n0 locs' ∧ ∀ t, Steps p.tables e below (T'.setTop (mkF m 41 #[.val (.int p0), .val (.int p1), .val (.int ((p1 &&& (255 : Int32)) - (1 : Int32))), .val (.int (f0_m7 p0 p1)), .unset] [(.int (f0_m14 p0 p1))])) t → Steps p.tables e below (s₁.setTop (entryFrame m #[(.int p0), (.int p1)] maxLocals)) t := by
    by_cases hc33_11 : (F1 ((p1 &&& (255 : Int32)) - (1 : Int32))) = (F2 ((p1 &&& (255 : Int32)) - (1 : Int32)))
    · have pre12 : ∀ t, Steps p.tables e below (T9.setTop (mkF m 41 #[.val (.int p0), .val (.int p1), .val (.int ((p1 &&& (255 : Int32)) - (1 : Int32))), .val (.int (f0_m7 p0 p1)), .unset] [(.int (1 : Int32))])) t → Steps p.tables e below (s₁.setTop (entryFrame m #[(.int p0), (.int p1)] maxLocals)) t := fun t k => pre10 t (by
        show Steps p.tables e below (T9.setTop (mkF m 33 #[.val (.int p0), .val (.int p1), .val (.int ((p1 &&& (255 : Int32)) - (1 : Int32))), .val (.int (f0_m7 p0 p1)), .unset] [(.int (F2 ((p1 &&& (255 : Int32)) - (1 : Int32)))), (.int (F1 ((p1 &&& (255 : Int32)) - (1 : Int32))))])) _
        refine XS.icmpNo X9.here hx rfl (hb hby at_33) rfl (teq hc33_11).2 ?_
        show Steps p.tables e below (T9.setTop (mkF m 36 #[.val (.int p0), .val (.int p1), .val (.int ((p1 &&& (255 : Int32)) - (1 : Int32))), .val (.int (f0_m7 p0 p1)), .unset] [])) _
        refine XS.iconst X9.here hx rfl (hb hby at_36) ?_
        show Steps p.tables e below (T9.setTop (mkF m 37 #[.val (.int p0), .val (.int p1), .val (.int ((p1 &&& (255 : Int32)) - (1 : Int32))), .val (.int (f0_m7 p0 p1)), .unset] [(.int (1 : Int32))])) _
        refine XS.goto X9.here hx rfl (pc0 := 37) (pc' := 41) rfl (hb hby at_37) (by decide) (by decide) ?_
        exact k)
      have q_f0_m14 : f0_m14 p0 p1 = (1 : Int32) := by unfold f0_m14; rw [if_pos hc33_11]
      rw [q_f0_m14]
      exact ⟨T9, _, X9, e9, N9, pre12⟩
    have pre13 : ∀ t, Steps p.tables e below (T9.setTop (mkF m 41 #[.val (.int p0), .val (.int p1), .val (.int ((p1 &&& (255 : Int32)) - (1 : Int32))), .val (.int (f0_m7 p0 p1)), .unset] [(.int (0 : Int32))])) t → Steps p.tables e below (s₁.setTop (entryFrame m #[(.int p0), (.int p1)] maxLocals)) t := fun t k => pre10 t (by
      show Steps p.tables e below (T9.setTop (mkF m 33 #[.val (.int p0), .val (.int p1), .val (.int ((p1 &&& (255 : Int32)) - (1 : Int32))), .val (.int (f0_m7 p0 p1)), .unset] [(.int (F2 ((p1 &&& (255 : Int32)) - (1 : Int32)))), (.int (F1 ((p1 &&& (255 : Int32)) - (1 : Int32))))])) _
      refine XS.icmpYes X9.here hx rfl (pc0 := 33) (pc' := 40) rfl (hb hby at_33) rfl (feq hc33_11).2 (by decide) (by decide) ?_
      show Steps p.tables e below (T9.setTop (mkF m 40 #[.val (.int p0), .val (.int p1), .val (.int ((p1 &&& (255 : Int32)) - (1 : Int32))), .val (.int (f0_m7 p0 p1)), .unset] [])) _
      refine XS.iconst X9.here hx rfl (hb hby at_40) ?_
      exact k)
    have q_f0_m14 : f0_m14 p0 p1 = (0 : Int32) := by unfold f0_m14; rw [if_neg hc33_11]
    rw [q_f0_m14]
    exact ⟨T9, _, X9, e9, N9, pre13⟩
  have pre15 : ∀ t, Steps p.tables e below (T11.setTop (mkF m 44 #[.val (.int p0), .val (.int p1), .val (.int ((p1 &&& (255 : Int32)) - (1 : Int32))), .val (.int (f0_m7 p0 p1)), .val (.int (f0_m14 p0 p1))] [(.int (f0_m7 p0 p1))])) t → Steps p.tables e below (s₁.setTop (entryFrame m #[(.int p0), (.int p1)] maxLocals)) t := fun t k => pre11 t (by
    show Steps p.tables e below (T11.setTop (mkF m 41 #[.val (.int p0), .val (.int p1), .val (.int ((p1 &&& (255 : Int32)) - (1 : Int32))), .val (.int (f0_m7 p0 p1)), .unset] [(.int (f0_m14 p0 p1))])) _
    refine XS.istore X11.here hx rfl (hb hby at_41) rfl (l' := #[.val (.int p0), .val (.int p1), .val (.int ((p1 &&& (255 : Int32)) - (1 : Int32))), .val (.int (f0_m7 p0 p1)), .val (.int (f0_m14 p0 p1))]) rfl ?_
    show Steps p.tables e below (T11.setTop (mkF m 43 #[.val (.int p0), .val (.int p1), .val (.int ((p1 &&& (255 : Int32)) - (1 : Int32))), .val (.int (f0_m7 p0 p1)), .val (.int (f0_m14 p0 p1))] [])) _
    refine XS.iloadN X11.here hx rfl (hb hby at_43) rfl ?_
    exact k)
  by_cases hc44_16 : (f0_m7 p0 p1) = (0 : Int32)
  · have pre17 : ∀ t, Steps p.tables e below (T11.setTop (mkF m 57 #[.val (.int p0), .val (.int p1), .val (.int ((p1 &&& (255 : Int32)) - (1 : Int32))), .val (.int (f0_m7 p0 p1)), .val (.int (f0_m14 p0 p1))] [(.int (0 : Int32))])) t → Steps p.tables e below (s₁.setTop (entryFrame m #[(.int p0), (.int p1)] maxLocals)) t := fun t k => pre15 t (by
      show Steps p.tables e below (T11.setTop (mkF m 44 #[.val (.int p0), .val (.int p1), .val (.int ((p1 &&& (255 : Int32)) - (1 : Int32))), .val (.int (f0_m7 p0 p1)), .val (.int (f0_m14 p0 p1))] [(.int (f0_m7 p0 p1))])) _
      refine XS.ifYes X11.here hx rfl (pc0 := 44) (pc' := 56) rfl (hb hby at_44) rfl ((if0 _ _).trans (teq hc44_16).1) (by decide) (by decide) ?_
      show Steps p.tables e below (T11.setTop (mkF m 56 #[.val (.int p0), .val (.int p1), .val (.int ((p1 &&& (255 : Int32)) - (1 : Int32))), .val (.int (f0_m7 p0 p1)), .val (.int (f0_m14 p0 p1))] [])) _
      refine XS.iconst X11.here hx rfl (hb hby at_56) ?_
      exact k)
    obtain ⟨fs, hr, hrun, hended, hW, hsame⟩ := X11.leave (v := some (.int (0 : Int32))) (fun h => by rw [Bd.returns] at h; cases h) hlk
    have hF : F0 p0 p1 = (0 : Int32) := by unfold F0; rw [if_pos hc44_16]
    exact ⟨_, _, pre17 _ (retN X11 hx (t := .boolean) Bd.returns (by simp) (hb hby at_57) hr), hrun, hended, _, _, rfl, ⟨by rw [hF], N11, e11⟩, ⟨_, rfl⟩, hW, hsame.mono (by decide) (by decide)⟩
  have pre18 : ∀ t, Steps p.tables e below (T11.setTop (mkF m 49 #[.val (.int p0), .val (.int p1), .val (.int ((p1 &&& (255 : Int32)) - (1 : Int32))), .val (.int (f0_m7 p0 p1)), .val (.int (f0_m14 p0 p1))] [(.int (f0_m14 p0 p1))])) t → Steps p.tables e below (s₁.setTop (entryFrame m #[(.int p0), (.int p1)] maxLocals)) t := fun t k => pre15 t (by
    show Steps p.tables e below (T11.setTop (mkF m 44 #[.val (.int p0), .val (.int p1), .val (.int ((p1 &&& (255 : Int32)) - (1 : Int32))), .val (.int (f0_m7 p0 p1)), .val (.int (f0_m14 p0 p1))] [(.int (f0_m7 p0 p1))])) _
    refine XS.ifNo X11.here hx rfl (hb hby at_44) rfl ((if0 _ _).trans (feq hc44_16).1) ?_
    show Steps p.tables e below (T11.setTop (mkF m 47 #[.val (.int p0), .val (.int p1), .val (.int ((p1 &&& (255 : Int32)) - (1 : Int32))), .val (.int (f0_m7 p0 p1)), .val (.int (f0_m14 p0 p1))] [])) _
    refine XS.iload X11.here hx rfl (hb hby at_47) rfl ?_
    exact k)
  by_cases hc49_19 : (f0_m14 p0 p1) = (0 : Int32)
  · have pre20 : ∀ t, Steps p.tables e below (T11.setTop (mkF m 57 #[.val (.int p0), .val (.int p1), .val (.int ((p1 &&& (255 : Int32)) - (1 : Int32))), .val (.int (f0_m7 p0 p1)), .val (.int (f0_m14 p0 p1))] [(.int (0 : Int32))])) t → Steps p.tables e below (s₁.setTop (entryFrame m #[(.int p0), (.int p1)] maxLocals)) t := fun t k => pre18 t (by
      show Steps p.tables e below (T11.setTop (mkF m 49 #[.val (.int p0), .val (.int p1), .val (.int ((p1 &&& (255 : Int32)) - (1 : Int32))), .val (.int (f0_m7 p0 p1)), .val (.int (f0_m14 p0 p1))] [(.int (f0_m14 p0 p1))])) _
      refine XS.ifYes X11.here hx rfl (pc0 := 49) (pc' := 56) rfl (hb hby at_49) rfl ((if0 _ _).trans (teq hc49_19).1) (by decide) (by decide) ?_
      show Steps p.tables e below (T11.setTop (mkF m 56 #[.val (.int p0), .val (.int p1), .val (.int ((p1 &&& (255 : Int32)) - (1 : Int32))), .val (.int (f0_m7 p0 p1)), .val (.int (f0_m14 p0 p1))] [])) _
      refine XS.iconst X11.here hx rfl (hb hby at_56) ?_
      exact k)
    obtain ⟨fs, hr, hrun, hended, hW, hsame⟩ := X11.leave (v := some (.int (0 : Int32))) (fun h => by rw [Bd.returns] at h; cases h) hlk
    have hF : F0 p0 p1 = (0 : Int32) := by unfold F0; rw [if_neg hc44_16, if_pos hc49_19]
    exact ⟨_, _, pre20 _ (retN X11 hx (t := .boolean) Bd.returns (by simp) (hb hby at_57) hr), hrun, hended, _, _, rfl, ⟨by rw [hF], N11, e11⟩, ⟨_, rfl⟩, hW, hsame.mono (by decide) (by decide)⟩
  have pre21 : ∀ t, Steps p.tables e below (T11.setTop (mkF m 57 #[.val (.int p0), .val (.int p1), .val (.int ((p1 &&& (255 : Int32)) - (1 : Int32))), .val (.int (f0_m7 p0 p1)), .val (.int (f0_m14 p0 p1))] [(.int (1 : Int32))])) t → Steps p.tables e below (s₁.setTop (entryFrame m #[(.int p0), (.int p1)] maxLocals)) t := fun t k => pre18 t (by
    show Steps p.tables e below (T11.setTop (mkF m 49 #[.val (.int p0), .val (.int p1), .val (.int ((p1 &&& (255 : Int32)) - (1 : Int32))), .val (.int (f0_m7 p0 p1)), .val (.int (f0_m14 p0 p1))] [(.int (f0_m14 p0 p1))])) _
    refine XS.ifNo X11.here hx rfl (hb hby at_49) rfl ((if0 _ _).trans (feq hc49_19).1) ?_
    show Steps p.tables e below (T11.setTop (mkF m 52 #[.val (.int p0), .val (.int p1), .val (.int ((p1 &&& (255 : Int32)) - (1 : Int32))), .val (.int (f0_m7 p0 p1)), .val (.int (f0_m14 p0 p1))] [])) _
    refine XS.iconst X11.here hx rfl (hb hby at_52) ?_
    show Steps p.tables e below (T11.setTop (mkF m 53 #[.val (.int p0), .val (.int p1), .val (.int ((p1 &&& (255 : Int32)) - (1 : Int32))), .val (.int (f0_m7 p0 p1)), .val (.int (f0_m14 p0 p1))] [(.int (1 : Int32))])) _
    refine XS.goto X11.here hx rfl (pc0 := 53) (pc' := 57) rfl (hb hby at_53) (by decide) (by decide) ?_
    exact k)
  obtain ⟨fs, hr, hrun, hended, hW, hsame⟩ := X11.leave (v := some (.int (1 : Int32))) (fun h => by rw [Bd.returns] at h; cases h) hlk
  have hF : F0 p0 p1 = (1 : Int32) := by unfold F0; rw [if_neg hc44_16, if_neg hc49_19]
  exact ⟨_, _, pre21 _ (retN X11 hx (t := .boolean) Bd.returns (by simp) (hb hby at_57) hr), hrun, hended, _, _, rfl, ⟨by rw [hF], N11, e11⟩, ⟨_, rfl⟩, hW, hsame.mono (by decide) (by decide)⟩
theorem own_lit (x : Int32) (n : Nat) (h0 : 0 ≤ x.toInt) (h : x.toInt < n) (hn : n ≤ 2147483647) : ∃ k : Fin n, x = Int32.ofNat k.1 := by
  obtain ⟨k, hk⟩ : ∃ k : Nat, x.toInt = k := ⟨x.toInt.toNat, by omega⟩
  refine ⟨⟨k, by omega⟩, ?_⟩
  apply Int32.toInt_inj.mp
  rw [Int32.toInt_ofNat_of_lt (show k < 2 ^ 31 by omega), hk]
theorem own_fin : ∀ k : Fin 123, F1 (Int32.ofNat k.1) = F2 (Int32.ofNat k.1) := by decide
theorem own_eq (x : Int32) : F1 x = F2 x := by
  by_cases h0 : x.toInt < 0
  · have q1 : x < 48 := by rw [Int32.lt_iff_toInt_lt]; exact Int.lt_trans h0 (by decide)
    have q2 : ¬ x = 45 := fun e => by rw [e] at h0; revert h0; decide
    have q3 : (x ||| (32 : Int32)) < 97 := by rw [Int32.lt_iff_toInt_lt]; exact Int.lt_trans ((c_orS x 32).2.1 h0) (by decide)
    unfold F1 F2 f2_m8 f2_m16
    simp [q1, q2, q3]
  · by_cases h1 : x.toInt < 123
    · obtain ⟨k, rfl⟩ := own_lit x 123 (by omega) h1 (by omega)
      exact own_fin k
    · have o := (c_or0 x 32 (by omega) (by decide)).1
      have q1 : ¬ x < 48 := by rw [Int32.lt_iff_toInt_lt]; have : (48 : Int32).toInt = 48 := rfl; omega
      have q2 : (57 : Int32) < x := by rw [Int32.lt_iff_toInt_lt]; have : (57 : Int32).toInt = 57 := rfl; omega
      have q3 : ¬ x < 97 := by rw [Int32.lt_iff_toInt_lt]; have : (97 : Int32).toInt = 97 := rfl; omega
      have q4 : (122 : Int32) < x := by rw [Int32.lt_iff_toInt_lt]; have : (122 : Int32).toInt = 122 := rfl; omega
      have q5 : ¬ x < 58 := by rw [Int32.lt_iff_toInt_lt]; have : (58 : Int32).toInt = 58 := rfl; omega
      have q6 : ¬ (x ||| (32 : Int32)) < 97 := by rw [Int32.lt_iff_toInt_lt]; have : (97 : Int32).toInt = 97 := rfl; omega
      have q7 : ¬ (x ||| (32 : Int32)) < 123 := by rw [Int32.lt_iff_toInt_lt]; have : (123 : Int32).toInt = 123 := rfl; omega
      have q8 : ¬ x = 45 := fun e => by rw [e] at h1; revert h1; decide
      unfold F1 F2 f2_m8 f2_m16
      rw [if_neg q1, if_pos q2, if_neg q3, if_pos q4, if_neg q1, if_neg q5, if_neg q6, if_neg q7, if_neg q8]; rfl
theorem own_law (p0 p1 : Int32) : F0 p0 p1 = 1 := by
  unfold F0 f0_m7 f0_m14
  rw [if_pos (own_eq _), if_pos (own_eq _)]; decide
set_option maxRecDepth 65536 in
set_option maxHeartbeats 40000000 in
theorem comes_1 {Post : Tables → Env → Array Value → State → Outcome → State → Prop} (hpost : ∀ tb e args s v u, (limb_1_1.after args s (.returned v) u = true ∧ limb_1_2.after args s (.returned v) u = true ∧ True) → FrameEnd s (.returned v) u (Jvm.fieldLocs frame_1_writes args s ++ Jvm.arrayLocs frame_1_arrays args s ++ Jvm.staticLocs frame_1_statics s) 0 0 → Post tb e args s (.returned v) u) :
    ArmFor flags0 classFile x code maxLocals ret World_1 tables_1 room_1 Calls_1 rest_1 Pre_1 Post := by
  intro l hfl _ _ p e ha hc hk s m args below hf hA hF happ hP
  obtain ⟨hcalls, hrest, hpre⟩ := hP
  obtain ⟨-, -, -, hnamed, -, -, -, hat⟩ := (Spec.applies_iff hf).mp happ
  obtain ⟨hg, hn⟩ := and_e (Cond.before_iff.mp (show (Jvm.Cond.and given_1 narrow_1).before args s = true from hpre))
  obtain ⟨hcount, g0⟩ := and_e hg
  obtain ⟨ga0, g1⟩ := and_e g0
  obtain ⟨w0, w1, rfl⟩ : ∃ w0 w1 : Value, args = #[w0, w1] := by
    have hs : args.size = 2 := by simpa [Cond.value, given_1] using hcount
    obtain ⟨L⟩ := args
    match L, hs with
    | [w0, w1], _ => exact ⟨w0, w1, rfl⟩
  have hw := fun d (hd : d ∈ tables_1) => atoms_spec (ws := Jvm.Cond.code x code maxLocals ret :: tables_1) hat d (List.mem_cons_of_mem _ hd)
  obtain ⟨i0, ei0⟩ := is_v ga0
  obtain rfl : w0 = (.int i0) := Option.some.inj ei0
  obtain ⟨i1, ei1⟩ := is_v g1
  obtain rfl : w1 = (.int i1) := Option.some.inj ei1
  obtain ⟨n, o, h1, h2, h3, _, L, rfl, ⟨rfl, N, -⟩, hq⟩ := rm0 l s _ hw tables_1 i0 i1 s.heap s.heap.size (Nat.le_refl _) p e ha hc hk s m _ below hf ((Spec.applies_iff_loose hf).mp happ).1 ⟨rfl, State.Warmed39.refl s, rfl⟩ trivial
  have hlaw := own_law i0 i1
  refine ⟨n, _, h1, h2, h3, hpost _ _ _ _ _ _ ⟨Cond.after_iff.mpr rfl, Cond.after_iff.mpr (eq_i res_at (Term.int_eval (1)) (congrArg Value.int hlaw)), trivial⟩ ⟨hq.1, hq.2.1, (hq.2.2.sift fun y hy => Or.inr (N y hy)).mono (by decide) (by decide)⟩⟩
theorem main_1_1 : Claimed_1_1 := comes_1 fun _ _ _ _ _ _ h hF => ⟨h.1, hF⟩
theorem main_1_2 : Claimed_1_2 := comes_1 fun _ _ _ _ _ _ h hF => ⟨h.2.1, hF⟩
end Jvm.Pilot.@@N@@
namespace Jvm.Pilot.@@N@@
open Jvm Jvm.ClassFile Sem Op Lib Jvm.Free Jvm.Stand Jvm.Pilot.@@N@@.Jvm.D
/-! MADE BY PROGRAM (witnessworld.py) out of the Statement's table words and the real class files: 9 classes; the members and pool entries that the words name. The judged class is class 1, her method 2. -/
namespace start1
open Jvm.ClassFile
def u (s : String) : CpInfo := .utf8 (stringToUtf16 s)
/-- a pool by its gaps: so many unusable entries, then the entry; so many at the end -/
def gap : Nat → List CpInfo → List CpInfo
  | 0, r => r
  | n + 1, r => .unusable :: gap n r
def poolList (es : List (Nat × CpInfo)) (last : Nat) : List CpInfo := es.foldr (fun e r => gap e.1 (e.2 :: r)) (gap last [])
def pool (es : List (Nat × CpInfo)) (last : Nat) : Array CpInfo := ⟨poolList es last⟩
def fileOf (pool : Array CpInfo) (this : Nat) (attrs : Array Attribute := #[]) (ms : Array MethodInfo := #[]) (fl : Nat := 33) (sup : Nat := 0) (ifs : Array Nat := #[]) (fds : Array FieldInfo := #[]) : ClassFile where
  minorVersion := 0
  majorVersion := 65
  constantPool := pool
  accessFlags := fl
  thisClass := this
  superClass := sup
  interfaces := ifs
  fields := fds
  methods := ms
  attributes := attrs
def plain (name : String) (sup : Option ClassId) : Class where
  name := name
  kind := .ordinary
  loader := none
  accessFlags := 33
  super := sup
  interfaces := #[]
  cf := none
  fields := #[]
  methods := #[]
  instanceTypes := #[]
  staticTypes := #[]
  resolved := #[]
  callSites := []
  init := .initialized
  statics := none
  mirror := none

def pool0 : Array CpInfo := pool [(5, u "<init>"), (0, u "()V"), (1, .class_ 10), (1, u "java/lang/Object")] 113

def k0m0 : Method := { name := "<init>", desc := "()V", sig := { parameters := [], returnType := none }, accessFlags := 1, code := none }
/-- java/lang/Object -/
def k0 : Class := { plain "java/lang/Object" none with
  accessFlags := 33
  interfaces := #[]
  cf := some (fileOf pool0 8 #[] #[{ accessFlags := 1, nameIndex := 5, descriptorIndex := 6, attributes := #[] }] 33 0 #[] #[])
  fields := #[]
  methods := #[k0m0]
  instanceTypes := #[]
  staticTypes := #[]
  resolved := Array.replicate 124 none
  statics := none }

def pool1 : Array CpInfo := pool [(2, .class_ 4), (1, u "java/lang/Object"), (0, u "<init>"), (0, u "()V"), (0, .methodref 8 9), (0, .class_ 10), (0, .nameAndType 11 12), (0, u site_9.cls), (0, u "isWordChar"), (0, u "(I)Z"), (0, .methodref 14 15), (0, .class_ 16), (0, .nameAndType 17 12), (0, u x.cls), (0, u "ref"), (3, u "law"), (0, u "(II)Z")] 2

def k1m0 : Method := { name := "<init>", desc := "()V", sig := { parameters := [], returnType := none }, accessFlags := 2, code := none }
def k1c1 : Code := { maxStack := 2, maxLocals := 4, code := method_2_code, exceptionTable := #[], attributes := #[] }
def k1m1 : Method := { name := "ref", desc := "(I)Z", sig := { parameters := [.int], returnType := some .boolean }, accessFlags := 10, code := some k1c1 }
def k1c2 : Code := { maxStack := 2, maxLocals := 5, code := code, exceptionTable := #[], attributes := #[] }
def k1m2 : Method := { name := "law", desc := "(II)Z", sig := { parameters := [.int, .int], returnType := some .boolean }, accessFlags := 9, code := some k1c2 }
def k1 : Class := { plain x.cls (some 0) with
  accessFlags := 49
  interfaces := #[]
  cf := some (fileOf pool1 14 #[] #[{ accessFlags := 2, nameIndex := 5, descriptorIndex := 6, attributes := #[] }, { accessFlags := 10, nameIndex := 17, descriptorIndex := 12, attributes := #[] }, { accessFlags := 9, nameIndex := 21, descriptorIndex := 22, attributes := #[] }] 49 2 #[] #[])
  fields := #[]
  methods := #[k1m0, k1m1, k1m2]
  instanceTypes := #[]
  staticTypes := #[]
  resolved := Array.replicate 25 none
  statics := none }

def pool2 : Array CpInfo := pool [(2, .class_ 4), (1, u "java/lang/Object"), (0, u "<init>"), (0, u "()V"), (1, .class_ 10), (1, u site_9.cls), (1, u "(I)Z"), (24, u "INDICATORS"), (0, u "[Z"), (2, u "FLOW_INDICATORS"), (2, u "isWordChar"), (60, u "END"), (0, u "I"), (2, u "BYTE_ORDER_MARK")] 44

def k2m0 : Method := { name := "<init>", desc := "()V", sig := { parameters := [], returnType := none }, accessFlags := 2, code := none }
def k2c1 : Code := { maxStack := 2, maxLocals := 1, code := prog_50_method_11_code, exceptionTable := #[], attributes := #[] }
def k2m1 : Method := { name := "isWordChar", desc := "(I)Z", sig := { parameters := [.int], returnType := some .boolean }, accessFlags := 9, code := some k2c1 }
def k2 : Class := { plain site_9.cls (some 0) with
  accessFlags := 49
  interfaces := #[]
  cf := some (fileOf pool2 8 #[] #[{ accessFlags := 2, nameIndex := 5, descriptorIndex := 6, attributes := #[] }, { accessFlags := 9, nameIndex := 44, descriptorIndex := 12, attributes := #[] }] 49 2 #[] #[{ accessFlags := 25, nameIndex := 105, descriptorIndex := 106, attributes := #[] }, { accessFlags := 25, nameIndex := 109, descriptorIndex := 106, attributes := #[] }, { accessFlags := 26, nameIndex := 37, descriptorIndex := 38, attributes := #[] }, { accessFlags := 26, nameIndex := 41, descriptorIndex := 38, attributes := #[] }])
  fields := #[{ name := "END", type := .int, accessFlags := 25, slot := 0, constantValue := 0 }, { name := "BYTE_ORDER_MARK", type := .int, accessFlags := 25, slot := 1, constantValue := 0 }, { name := "INDICATORS", type := (.array .boolean), accessFlags := 26, slot := 2, constantValue := 0 }, { name := "FLOW_INDICATORS", type := (.array .boolean), accessFlags := 26, slot := 3, constantValue := 0 }]
  methods := #[k2m0, k2m1]
  instanceTypes := #[]
  staticTypes := #[.int, .int, (.array .boolean), (.array .boolean)]
  resolved := Array.replicate 154 none
  statics := none }

def pool3 : Array CpInfo := pool [(1, u "java/lang/Cloneable"), (0, .class_ 1), (0, u "java/lang/Object"), (0, .class_ 3)] 3

/-- java/lang/Cloneable -/
def k3 : Class := { plain "java/lang/Cloneable" (some 0) with
  accessFlags := 1537
  interfaces := #[]
  cf := some (fileOf pool3 2 #[] #[] 1537 4 #[] #[])
  fields := #[]
  methods := #[]
  instanceTypes := #[]
  staticTypes := #[]
  resolved := Array.replicate 8 none
  statics := none }

def pool4 : Array CpInfo := pool [(1, u "java/io/Serializable"), (0, .class_ 1), (0, u "java/lang/Object"), (0, .class_ 3)] 3

/-- java/io/Serializable -/
def k4 : Class := { plain "java/io/Serializable" (some 0) with
  accessFlags := 1537
  interfaces := #[]
  cf := some (fileOf pool4 2 #[] #[] 1537 4 #[] #[])
  fields := #[]
  methods := #[]
  instanceTypes := #[]
  staticTypes := #[]
  resolved := Array.replicate 8 none
  statics := none }

/-- the primitive byte -/
def k5 : Class := { plain "byte" none with kind := .primitive 'B', accessFlags := 0x411 }
/-- [B -/
def k6 : Class := { plain "[B" (some 0) with kind := .array 5 .byte, interfaces := #[3, 4], accessFlags := 1041 }

/-- the primitive int -/
def k7 : Class := { plain "int" none with kind := .primitive 'I', accessFlags := 0x411 }
/-- [I -/
def k8 : Class := { plain "[I" (some 0) with kind := .array 7 .int, interfaces := #[3, 4], accessFlags := 1041 }

def heap : Heap := #[]
def classes : Array Class := #[k0, k1, k2, k3, k4, k5, k6, k7, k8]
def interned : List (Array UInt16 × Addr) := []
def slotsUsed : Nat := 0
def theMethod : MethodId := ⟨1, 2⟩
def args0 : Array Value := #[.int 7, .int 7]
def aboutOver (below : List Frame) : State where
  vm := { classes := classes, interned := interned.toArray }
  heap := heap
  slotsUsed := slotsUsed
  threads := #[{ frames := .invoking theMethod args0 :: below }]
def below0 : List Frame := [.native { method := ⟨0, 0⟩, args := #[] }]
def about1 : State := aboutOver below0
def p0 : Program := .bare "" "" ""
def e0 : Env := launch0.env 0 0 0
theorem w_frames : about1.frames = Frame.invoking theMethod args0 :: below0 := rfl
set_option maxRecDepth 65536 in
theorem w_args : argsFit about1.vm theMethod args0 = true := by decide +kernel
set_option maxRecDepth 65536 in
theorem w_heap : heapFits about1 = true := by decide +kernel
set_option maxRecDepth 65536 in
theorem w_runnable : about1.curStatus? = some .runnable := by decide +kernel
set_option maxRecDepth 65536 in
theorem w_alone : about1.alone = true := by decide +kernel
set_option maxRecDepth 65536 in
theorem w_named : about1.methodNamed? x = some theMethod := by decide +kernel
set_option maxRecDepth 65536 in
theorem w_hears : about1.hears theMethod below0 = true := by decide +kernel
set_option maxRecDepth 65536 in
theorem w_ripe : about1.ripe theMethod args0 below0 = true := by decide +kernel
theorem w_running : about1.status = .running := rfl
set_option maxRecDepth 65536 in
theorem w_room : about1.hasRoom e0.platform room_1 = true :=
  launch0.hasRoom_least _ room_1 (by decide +kernel) (by decide +kernel) (by decide +kernel) (by decide +kernel) (by decide +kernel) (by decide +kernel)
theorem allAtoms_all (ts : List Jvm.Cond) (a : Array Jvm.Value) (st : Jvm.State) : (allAtoms ts).before a st = ts.all (fun c => c.before a st) := by
  induction ts with
  | nil => rfl
  | cons c t ih =>
    show (Jvm.Cond.and c (allAtoms t)).before a st = _
    rw [Jvm.Cond.before_and, ih, List.all_cons]
def words1 : List Jvm.Cond := Jvm.Cond.code x code maxLocals ret :: tables_1
/-- a 'code' word, met by the world's own term for the bytes: nothing is compared byte by byte -/
theorem code_word {y : MethodName} {bytes : ByteArray} {mx : Nat} {rt : Option FieldType} {a : Array Value} {s : State} {m : MethodId} {meth : Method} {c : Code} (h1 : s.methodNamed? y = some m) (h2 : s.vm.method? m = some meth) (h3 : meth.code = some c) (h4 : c.code = bytes)
    (h5 : (c.maxLocals == mx && c.exceptionTable.isEmpty && decide (c.maxStack ≤ mostOperands) && decide (meth.sig.returnType = rt) && !meth.locks && decide (parseMethodDescriptor y.desc = some meth.sig)) = true) : (Jvm.Cond.code y bytes mx rt).before a s = true := by
  simp only [Bool.and_eq_true, beq_iff_eq, Bool.not_eq_true', decide_eq_true_eq] at h5
  obtain ⟨⟨⟨⟨⟨g1, g2⟩, g3⟩, g4⟩, g5⟩, g6⟩ := h5
  simp [Cond.before, Cond.holds, Cond.value, h1, h2, h3, h4, g1, g2, g3, g4, g5, g6]
def isCode : Jvm.Cond → Bool
  | .code _ _ _ _ => true
  | _ => false
theorem all_split {L : List Jvm.Cond} {P : Jvm.Cond → Bool} (h1 : L.all (fun c => isCode c || P c) = true) (h2 : ∀ c ∈ L.filter isCode, P c = true) : L.all P = true := by
  refine List.all_eq_true.mpr fun c hc => ?_
  have h := List.all_eq_true.mp h1 c hc
  rcases Bool.eq_false_or_eq_true (isCode c) with hi | hi
  · exact h2 c (List.mem_filter.mpr ⟨hc, hi⟩)
  · simpa [hi] using h
set_option maxRecDepth 65536 in
theorem w_c0 : (Jvm.Cond.code x code maxLocals ret).before args0 about1 = true := code_word (m := ⟨1, 2⟩) (meth := k1m2) (c := k1c2) (by decide +kernel) rfl rfl rfl (by decide +kernel)
set_option maxRecDepth 65536 in
theorem w_c1 : (Jvm.Cond.code ({ cls := site_9.cls, name := "isWordChar", desc := "(I)Z" } : Jvm.MethodName) prog_50_method_11_code (1 : Nat) (Option.some Jvm.ClassFile.FieldType.boolean)).before args0 about1 = true := code_word (m := ⟨2, 1⟩) (meth := k2m1) (c := k2c1) (by decide +kernel) rfl rfl rfl (by decide +kernel)
set_option maxRecDepth 65536 in
theorem w_c2 : (Jvm.Cond.code ({ cls := x.cls, name := "ref", desc := "(I)Z" } : Jvm.MethodName) method_2_code (4 : Nat) (Option.some Jvm.ClassFile.FieldType.boolean)).before args0 about1 = true := code_word (m := ⟨1, 1⟩) (meth := k1m1) (c := k1c1) (by decide +kernel) rfl rfl rfl (by decide +kernel)
def codes1 : List Jvm.Cond := [Jvm.Cond.code x code maxLocals ret, Jvm.Cond.code ({ cls := site_9.cls, name := "isWordChar", desc := "(I)Z" } : Jvm.MethodName) prog_50_method_11_code (1 : Nat) (Option.some Jvm.ClassFile.FieldType.boolean), Jvm.Cond.code ({ cls := x.cls, name := "ref", desc := "(I)Z" } : Jvm.MethodName) method_2_code (4 : Nat) (Option.some Jvm.ClassFile.FieldType.boolean)]
set_option maxRecDepth 65536 in
theorem codes_eq : words1.filter isCode = codes1 := rfl
theorem w_codes : ∀ c ∈ words1.filter isCode, c.before args0 about1 = true := by
  rw [codes_eq]
  intro c hc
  simp only [codes1, List.mem_cons, List.not_mem_nil, or_false] at hc
  rcases hc with rfl | rfl | rfl
  · exact w_c0
  · exact w_c1
  · exact w_c2
set_option maxRecDepth 65536 in
theorem w_t1 : words1.all (fun c => isCode c || c.before args0 about1) = true := by decide +kernel
theorem w_tables : (allAtoms (Jvm.Cond.code x code maxLocals ret :: tables_1)).before args0 about1 = true := by
  rw [allAtoms_all]
  show words1.all (fun c => c.before args0 about1) = true
  refine all_split ?_ w_codes
  rw [w_t1]
set_option maxRecDepth 65536 in
theorem w_case : (Jvm.Cond.and given_1 narrow_1).before args0 about1 = true := by decide +kernel
theorem w_applies : (headSpec (Jvm.Cond.code x code maxLocals ret :: tables_1) room_1).applies x e0.platform about1 = true :=
  (Spec.applies_iff w_frames).mpr ⟨w_running, w_runnable, w_alone, w_named, w_hears, w_ripe, w_room, w_tables⟩
theorem atStart : AtStart classFile x code maxLocals ret World_1 tables_1 room_1 Calls_1 rest_1 Pre_1 launch0 p0 e0 about1 theMethod args0 below0 :=
  ⟨lists_1, trivial, launch0.admits_env _ _ _, launch0.least_env, fairChoices_fair.cas, fairChoices_fair.clock, w_frames, w_args, w_heap, w_applies, trivial, trivial, w_case⟩
end start1
theorem witness_1 : WitnessClaimed_1 := ⟨start1.p0, start1.e0, start1.about1, start1.theMethod, start1.args0, start1.below0, start1.atStart⟩
end Jvm.Pilot.@@N@@
