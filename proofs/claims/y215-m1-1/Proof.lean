import JvmDerived
import JvmDerived.Pilot.@@N@@Statement
import JvmDerived.Pilot.@@N@@Code
set_option linter.unusedVariables false
set_option linter.unusedSimpArgs false
namespace Jvm.RoadKit
open Sem ClassFile Op Lib Jvm.Stand Jvm.Free Jvm.LawKit
section New
variable {p : Program} {l : Launch} {e : Env} {R : Room} {s : State} {m : MethodId} {args : Array Value} {below : List Frame} {meth : Method} {c : Code} {T : State} {locs : List Loc} {cells slots : Nat}
theorem retI (X : Stand p l e R s m args below meth c T locs cells slots) (hx : p.tables.exec = Jvm.exec) {pc : Nat} {Ls : Array Slot} {z : Int32} {rest : List Value} (hret : meth.sig.returnType = some .int) (hd : decode c.code pc = .ok (.ireturn, 1)) {fs : List Frame}
    (hl : ∀ (f : JFrame) (acts : List Action), f.method = m → f.locked = none → f.entered = [] → (doReturn e (T.setTop f) acts (some (.int z))).1 = T.setFrames fs) : Steps p.tables e below (T.setTop (mkF m pc Ls (.int z :: rest))) (T.setFrames fs) := by
  have hm' : T.vm.method? m = some meth := X.method'
  have hn : narrow .int (.int z) = .int z := rfl
  show Steps p.tables e below (T.setTop { method := m, pc := pc, locals := Ls, stack := _ :: rest, locked := none }) _
  jvm_step X.here [X.here.top, hx, hd, hm', hret, hn]
  first | (intro acts; rw [hl _ acts rfl rfl rfl]) | rw [hl _ _ rfl rfl rfl]
  exact Steps.refl _
end New
end Jvm.RoadKit
namespace Jvm.Pilot.@@N@@
open Jvm Jvm.ClassFile Sem Op Lib Jvm.Free Jvm.Stand Jvm.LawKit Jvm.RoadKit Bundle Jvm.Pilot.@@N@@.Jvm.D
theorem own_swne {x y : Int32} {n : Int} (h : ¬ x = y) (hn : y.toInt = n) : ¬ n = x.toInt := fun q => h (Int32.toInt_inj.mp (by rw [hn, q]))
theorem own_lsw {tb : Tables} [Ours tb] {e : Env} {below : List Frame} {T target : State} {m : MethodId} {c : Code} {g : JFrame} (h : At T m c below) (hx : tb.exec = Jvm.exec) (hg : g.method = m) {dflt : Int} {pairs : Array (Int × Int)} {len : Nat} {o : Int} {pc0 pc' : Nat} (hpc : g.pc = pc0) (hd : decode c.code g.pc = .ok (.lookupswitch dflt pairs, len)) {i : Int32} {rest : List Value} (hs : g.stack = .int i :: rest)
    (hsort : (pairs.toList.zip (pairs.toList.drop 1)).all (fun (a, next) => a.1 < next.1) = true) (hoff : lookupswitch.offset pairs.toList dflt i.toInt = o) (ho : 0 ≤ (pc0 : Int) + o) (hp : ((pc0 : Int) + o).toNat = pc')
    (hr : Steps tb e below (T.setTop { g with pc := pc', stack := rest }) target) : Steps tb e below (T.setTop g) target := by
  subst hg hpc hp hoff
  jvm_step h [h.top, hx, hd, hs, ho, lookupswitch.wp_chain]
  exact ⟨by simpa using hsort, hr⟩
theorem own_hi1 {x n : Int32} (h : x < n) : x.toInt ≤ n.toInt - 1 := by rw [Int32.lt_iff_toInt_lt] at h; omega
theorem own_hi2 {x n : Int32} (h : ¬ n < x) : x.toInt ≤ n.toInt := by rw [Int32.lt_iff_toInt_lt] at h; omega
theorem own_hi3 {x n : Int32} (h : x = n) : x.toInt ≤ n.toInt := by rw [h]; exact Int.le_refl _
theorem own_lo1 {x n : Int32} (h : ¬ x < n) : n.toInt ≤ x.toInt := by rw [Int32.lt_iff_toInt_lt] at h; omega
theorem own_lo2 {x n : Int32} (h : n < x) : n.toInt + 1 ≤ x.toInt := by rw [Int32.lt_iff_toInt_lt] at h; omega
theorem own_lo3 {x n : Int32} (h : x = n) : n.toInt ≤ x.toInt := by rw [h]; exact Int.le_refl _
theorem own_xlT {x n : Int32} {k : Int} (h : x.toInt ≤ k) (q : k < n.toInt) : x < n := by rw [Int32.lt_iff_toInt_lt]; omega
theorem own_xlF {x n : Int32} {k : Int} (h : k ≤ x.toInt) (q : n.toInt ≤ k) : ¬ x < n := by rw [Int32.lt_iff_toInt_lt]; omega
theorem own_lxT {x n : Int32} {k : Int} (h : k ≤ x.toInt) (q : n.toInt < k) : n < x := by rw [Int32.lt_iff_toInt_lt]; omega
theorem own_lxF {x n : Int32} {k : Int} (h : x.toInt ≤ k) (q : k ≤ n.toInt) : ¬ n < x := by rw [Int32.lt_iff_toInt_lt]; omega
theorem own_eqF1 {x n : Int32} {k : Int} (h : x.toInt ≤ k) (q : k < n.toInt) : ¬ x = n := fun z => by rw [z] at h; omega
theorem own_eqF2 {x n : Int32} {k : Int} (h : k ≤ x.toInt) (q : n.toInt < k) : ¬ x = n := fun z => by rw [z] at h; omega
theorem d1_0 : decode prog_6_method_4_code 0 = .ok (.iload_n 0, 1) := by decide +kernel
theorem d1_1 : decode prog_6_method_4_code 1 = .ok (.tableswitch 144 196 223 #[127, 131, 135, 127, 131, 135, 135, 139, 127, 131, 135, 139, 127, 131, 135, 139, 144, 144, 144, 144, 144, 127, 131, 135, 131, 135, 131, 135], 127) := by decide +kernel
theorem d1_128 : decode prog_6_method_4_code 128 = .ok (.iconst 1, 1) := by decide +kernel
theorem d1_129 : decode prog_6_method_4_code 129 = .ok (.goto 17, 3) := by decide +kernel
theorem d1_146 : decode prog_6_method_4_code 146 = .ok (.ireturn, 1) := by decide +kernel
theorem d1_132 : decode prog_6_method_4_code 132 = .ok (.iconst 2, 1) := by decide +kernel
theorem d1_133 : decode prog_6_method_4_code 133 = .ok (.goto 13, 3) := by decide +kernel
theorem d1_136 : decode prog_6_method_4_code 136 = .ok (.iconst 4, 1) := by decide +kernel
theorem d1_137 : decode prog_6_method_4_code 137 = .ok (.goto 9, 3) := by decide +kernel
theorem d1_140 : decode prog_6_method_4_code 140 = .ok (.bipush 8, 2) := by decide +kernel
theorem d1_142 : decode prog_6_method_4_code 142 = .ok (.goto 4, 3) := by decide +kernel
theorem d1_145 : decode prog_6_method_4_code 145 = .ok (.iconst 0, 1) := by decide +kernel
theorem d2_0 : decode method_3_code 0 = .ok (.iload_n 0, 1) := by decide +kernel
theorem d2_1 : decode method_3_code 1 = .ok (.sipush 196, 3) := by decide +kernel
theorem d2_4 : decode method_3_code 4 = .ok (.if_icmp .lt 18, 3) := by decide +kernel
theorem d2_22 : decode method_3_code 22 = .ok (.iload_n 0, 1) := by decide +kernel
theorem d2_23 : decode method_3_code 23 = .ok (.sipush 199, 3) := by decide +kernel
theorem d2_26 : decode method_3_code 26 = .ok (.if_icmp .lt 18, 3) := by decide +kernel
theorem d2_44 : decode method_3_code 44 = .ok (.iload_n 0, 1) := by decide +kernel
theorem d2_45 : decode method_3_code 45 = .ok (.sipush 202, 3) := by decide +kernel
theorem d2_48 : decode method_3_code 48 = .ok (.if_icmp .ne 5, 3) := by decide +kernel
theorem d2_53 : decode method_3_code 53 = .ok (.iload_n 0, 1) := by decide +kernel
theorem d2_54 : decode method_3_code 54 = .ok (.sipush 203, 3) := by decide +kernel
theorem d2_57 : decode method_3_code 57 = .ok (.if_icmp .ne 6, 3) := by decide +kernel
theorem d2_63 : decode method_3_code 63 = .ok (.iload_n 0, 1) := by decide +kernel
theorem d2_64 : decode method_3_code 64 = .ok (.sipush 204, 3) := by decide +kernel
theorem d2_67 : decode method_3_code 67 = .ok (.if_icmp .lt 18, 3) := by decide +kernel
theorem d2_85 : decode method_3_code 85 = .ok (.iload_n 0, 1) := by decide +kernel
theorem d2_86 : decode method_3_code 86 = .ok (.sipush 208, 3) := by decide +kernel
theorem d2_89 : decode method_3_code 89 = .ok (.if_icmp .lt 18, 3) := by decide +kernel
theorem d2_107 : decode method_3_code 107 = .ok (.iload_n 0, 1) := by decide +kernel
theorem d2_108 : decode method_3_code 108 = .ok (.sipush 217, 3) := by decide +kernel
theorem d2_111 : decode method_3_code 111 = .ok (.if_icmp .lt 18, 3) := by decide +kernel
theorem d2_129 : decode method_3_code 129 = .ok (.iload_n 0, 1) := by decide +kernel
theorem d2_130 : decode method_3_code 130 = .ok (.sipush 220, 3) := by decide +kernel
theorem d2_133 : decode method_3_code 133 = .ok (.if_icmp .lt 18, 3) := by decide +kernel
theorem d2_151 : decode method_3_code 151 = .ok (.iload_n 0, 1) := by decide +kernel
theorem d2_152 : decode method_3_code 152 = .ok (.sipush 222, 3) := by decide +kernel
theorem d2_155 : decode method_3_code 155 = .ok (.if_icmp .lt 18, 3) := by decide +kernel
theorem d2_173 : decode method_3_code 173 = .ok (.iconst 0, 1) := by decide +kernel
theorem d2_174 : decode method_3_code 174 = .ok (.ireturn, 1) := by decide +kernel
theorem d2_7 : decode method_3_code 7 = .ok (.iload_n 0, 1) := by decide +kernel
theorem d2_8 : decode method_3_code 8 = .ok (.sipush 198, 3) := by decide +kernel
theorem d2_11 : decode method_3_code 11 = .ok (.if_icmp .gt 11, 3) := by decide +kernel
theorem d2_29 : decode method_3_code 29 = .ok (.iload_n 0, 1) := by decide +kernel
theorem d2_30 : decode method_3_code 30 = .ok (.sipush 201, 3) := by decide +kernel
theorem d2_33 : decode method_3_code 33 = .ok (.if_icmp .gt 11, 3) := by decide +kernel
theorem d2_51 : decode method_3_code 51 = .ok (.iconst 4, 1) := by decide +kernel
theorem d2_52 : decode method_3_code 52 = .ok (.ireturn, 1) := by decide +kernel
theorem d2_60 : decode method_3_code 60 = .ok (.bipush 8, 2) := by decide +kernel
theorem d2_62 : decode method_3_code 62 = .ok (.ireturn, 1) := by decide +kernel
theorem d2_70 : decode method_3_code 70 = .ok (.iload_n 0, 1) := by decide +kernel
theorem d2_71 : decode method_3_code 71 = .ok (.sipush 207, 3) := by decide +kernel
theorem d2_74 : decode method_3_code 74 = .ok (.if_icmp .gt 11, 3) := by decide +kernel
theorem d2_92 : decode method_3_code 92 = .ok (.iload_n 0, 1) := by decide +kernel
theorem d2_93 : decode method_3_code 93 = .ok (.sipush 211, 3) := by decide +kernel
theorem d2_96 : decode method_3_code 96 = .ok (.if_icmp .gt 11, 3) := by decide +kernel
theorem d2_114 : decode method_3_code 114 = .ok (.iload_n 0, 1) := by decide +kernel
theorem d2_115 : decode method_3_code 115 = .ok (.sipush 219, 3) := by decide +kernel
theorem d2_118 : decode method_3_code 118 = .ok (.if_icmp .gt 11, 3) := by decide +kernel
theorem d2_136 : decode method_3_code 136 = .ok (.iload_n 0, 1) := by decide +kernel
theorem d2_137 : decode method_3_code 137 = .ok (.sipush 221, 3) := by decide +kernel
theorem d2_140 : decode method_3_code 140 = .ok (.if_icmp .gt 11, 3) := by decide +kernel
theorem d2_158 : decode method_3_code 158 = .ok (.iload_n 0, 1) := by decide +kernel
theorem d2_159 : decode method_3_code 159 = .ok (.sipush 223, 3) := by decide +kernel
theorem d2_162 : decode method_3_code 162 = .ok (.if_icmp .gt 11, 3) := by decide +kernel
theorem d2_165 : decode method_3_code 165 = .ok (.iconst 2, 1) := by decide +kernel
theorem d2_166 : decode method_3_code 166 = .ok (.iload_n 0, 1) := by decide +kernel
theorem d2_167 : decode method_3_code 167 = .ok (.sipush 222, 3) := by decide +kernel
theorem d2_170 : decode method_3_code 170 = .ok (.isub, 1) := by decide +kernel
theorem d2_171 : decode method_3_code 171 = .ok (.ishl, 1) := by decide +kernel
theorem d2_172 : decode method_3_code 172 = .ok (.ireturn, 1) := by decide +kernel
theorem d2_143 : decode method_3_code 143 = .ok (.iconst 2, 1) := by decide +kernel
theorem d2_144 : decode method_3_code 144 = .ok (.iload_n 0, 1) := by decide +kernel
theorem d2_145 : decode method_3_code 145 = .ok (.sipush 220, 3) := by decide +kernel
theorem d2_148 : decode method_3_code 148 = .ok (.isub, 1) := by decide +kernel
theorem d2_149 : decode method_3_code 149 = .ok (.ishl, 1) := by decide +kernel
theorem d2_150 : decode method_3_code 150 = .ok (.ireturn, 1) := by decide +kernel
theorem d2_121 : decode method_3_code 121 = .ok (.iconst 1, 1) := by decide +kernel
theorem d2_122 : decode method_3_code 122 = .ok (.iload_n 0, 1) := by decide +kernel
theorem d2_123 : decode method_3_code 123 = .ok (.sipush 217, 3) := by decide +kernel
theorem d2_126 : decode method_3_code 126 = .ok (.isub, 1) := by decide +kernel
theorem d2_127 : decode method_3_code 127 = .ok (.ishl, 1) := by decide +kernel
theorem d2_128 : decode method_3_code 128 = .ok (.ireturn, 1) := by decide +kernel
theorem d2_99 : decode method_3_code 99 = .ok (.iconst 1, 1) := by decide +kernel
theorem d2_100 : decode method_3_code 100 = .ok (.iload_n 0, 1) := by decide +kernel
theorem d2_101 : decode method_3_code 101 = .ok (.sipush 208, 3) := by decide +kernel
theorem d2_104 : decode method_3_code 104 = .ok (.isub, 1) := by decide +kernel
theorem d2_105 : decode method_3_code 105 = .ok (.ishl, 1) := by decide +kernel
theorem d2_106 : decode method_3_code 106 = .ok (.ireturn, 1) := by decide +kernel
theorem d2_77 : decode method_3_code 77 = .ok (.iconst 1, 1) := by decide +kernel
theorem d2_78 : decode method_3_code 78 = .ok (.iload_n 0, 1) := by decide +kernel
theorem d2_79 : decode method_3_code 79 = .ok (.sipush 204, 3) := by decide +kernel
theorem d2_82 : decode method_3_code 82 = .ok (.isub, 1) := by decide +kernel
theorem d2_83 : decode method_3_code 83 = .ok (.ishl, 1) := by decide +kernel
theorem d2_84 : decode method_3_code 84 = .ok (.ireturn, 1) := by decide +kernel
theorem d2_36 : decode method_3_code 36 = .ok (.iconst 1, 1) := by decide +kernel
theorem d2_37 : decode method_3_code 37 = .ok (.iload_n 0, 1) := by decide +kernel
theorem d2_38 : decode method_3_code 38 = .ok (.sipush 199, 3) := by decide +kernel
theorem d2_41 : decode method_3_code 41 = .ok (.isub, 1) := by decide +kernel
theorem d2_42 : decode method_3_code 42 = .ok (.ishl, 1) := by decide +kernel
theorem d2_43 : decode method_3_code 43 = .ok (.ireturn, 1) := by decide +kernel
theorem d2_14 : decode method_3_code 14 = .ok (.iconst 1, 1) := by decide +kernel
theorem d2_15 : decode method_3_code 15 = .ok (.iload_n 0, 1) := by decide +kernel
theorem d2_16 : decode method_3_code 16 = .ok (.sipush 196, 3) := by decide +kernel
theorem d2_19 : decode method_3_code 19 = .ok (.isub, 1) := by decide +kernel
theorem d2_20 : decode method_3_code 20 = .ok (.ishl, 1) := by decide +kernel
theorem d2_21 : decode method_3_code 21 = .ok (.ireturn, 1) := by decide +kernel
theorem pd0 : parseMethodDescriptor "(I)I" = some ⟨[.int], some .int⟩ := by decide +kernel
theorem pn0 : plainName "com/example/furoshiki/furoshiki/Format" = true := by first | (simp [plainName, overriddenIn]; done) | decide +kernel
theorem pn1 : plainName "com/example/furoshiki/furoshiki/FormatNumberWidthPinLaw" = true := by first | (simp [plainName, overriddenIn]; done) | decide +kernel
def F1 (p0 : Int32) : Int32 := (if p0 = (196 : Int32) then (1 : Int32) else (if p0 = (197 : Int32) then (2 : Int32) else (if p0 = (198 : Int32) then (4 : Int32) else (if p0 = (199 : Int32) then (1 : Int32) else (if p0 = (200 : Int32) then (2 : Int32) else (if p0 = (201 : Int32) then (4 : Int32) else (if p0 = (202 : Int32) then (4 : Int32) else (if p0 = (203 : Int32) then (8 : Int32) else (if p0 = (204 : Int32) then (1 : Int32) else (if p0 = (205 : Int32) then (2 : Int32) else (if p0 = (206 : Int32) then (4 : Int32) else (if p0 = (207 : Int32) then (8 : Int32) else (if p0 = (208 : Int32) then (1 : Int32) else (if p0 = (209 : Int32) then (2 : Int32) else (if p0 = (210 : Int32) then (4 : Int32) else (if p0 = (211 : Int32) then (8 : Int32) else (if p0 = (212 : Int32) then (0 : Int32) else (if p0 = (213 : Int32) then (0 : Int32) else (if p0 = (214 : Int32) then (0 : Int32) else (if p0 = (215 : Int32) then (0 : Int32) else (if p0 = (216 : Int32) then (0 : Int32) else (if p0 = (217 : Int32) then (1 : Int32) else (if p0 = (218 : Int32) then (2 : Int32) else (if p0 = (219 : Int32) then (4 : Int32) else (if p0 = (220 : Int32) then (2 : Int32) else (if p0 = (221 : Int32) then (4 : Int32) else (if p0 = (222 : Int32) then (2 : Int32) else (if p0 = (223 : Int32) then (4 : Int32) else (0 : Int32)))))))))))))))))))))))))))))
theorem ef1 (m : MethodId) (x0 : Int32) : entryFrame m #[(.int x0)] 1 = mkF m 0 #[.val (.int x0)] [] := by first | (simp [entryFrame, mkF, argsToLocals, Value.category]; done) | rfl
def Q1 (Z : State) (p0 : Int32) (h0 : Heap) (n0 : Nat) (v : Option Value) (h : Heap) (L : List Loc) : Prop := v = some (.int (F1 p0)) ∧ Fr n0 L ∧ h = h0
set_option maxRecDepth 65536 in
set_option maxHeartbeats 40000000 in
theorem rm1 (l : Launch) (Z : State) (a0 : Array Value) (hw : ∀ d ∈ tables_1, d.before a0 Z = true) (ws : List Jvm.Cond) (p0 : Int32) (h0 : Heap) (n0 : Nat) (Z0 : n0 ≤ h0.size) :
    MetFree l (⟨"com/example/furoshiki/furoshiki/Format", "numberWidth", "(I)I"⟩ : MethodName) (head1 (Jvm.Cond.code (⟨"com/example/furoshiki/furoshiki/Format", "numberWidth", "(I)I"⟩ : MethodName) prog_6_method_4_code 1 (some .int) :: ws) ({ frames := 0, cells := 0, slots := 0, locals := 0 } : Room)) (fun a U => a = #[(.int p0)] ∧ Z.Warmed39 U.vm ∧ U.heap = h0) (fun _ _ _ _ _ => True) (fun _ U o U' => ∃ v L, o = .returned v ∧ Q1 Z p0 h0 n0 v U'.heap L ∧ FrameEnd U o U' L ({ frames := 0, cells := 0, slots := 0, locals := 0 } : Room).cells ({ frames := 0, cells := 0, slots := 0, locals := 0 } : Room).slots) := by
  refine MetFree.of_bodySF (plainFor_of_name pn0) hisR ?_
  intro p e s m args below meth c s₁ Bd hml0 hP hK
  obtain ⟨rfl, hZ, hh⟩ := hP
  have hx := Bd.exec
  have hby := Bd.bytes
  have hml : c.maxLocals = 1 := hml0
  have hown : s.vm.findClass "com/example/furoshiki/furoshiki/Format" = some m.cls := findClass_of_methodNamed Bd.named
  have hnm := (name_of_methodNamed Bd.named Bd.method).1
  have X0 : Stand p l e ({ frames := 0, cells := 0, slots := 0, locals := 0 } : Room) s m #[(.int p0)] below meth c s₁ [] 0 0 := Stand.of_body Bd
  have e0 : s₁.heap = h0 := by rw [← hh, Bd.state]; rfl
  have N0 := Fr.nil n0
  have hlk : meth.locks = false := by first | exact BodyLoose.notSynchronized Bd | exact Body.notSynchronized Bd
  have pre0 : ∀ t, Steps p.tables e below (s₁.setTop (mkF m 0 #[.val (.int p0)] [])) t → Steps p.tables e below (s₁.setTop (entryFrame m #[(.int p0)] 1)) t := fun t k => castTop (ef1 m p0) k
  have pre1 : ∀ t, Steps p.tables e below (s₁.setTop (mkF m 1 #[.val (.int p0)] [(.int p0)])) t → Steps p.tables e below (s₁.setTop (entryFrame m #[(.int p0)] 1)) t := fun t k => pre0 t (by
    show Steps p.tables e below (s₁.setTop (mkF m 0 #[.val (.int p0)] [])) _
    refine XS.iloadN X0.here hx rfl (hb hby d1_0) rfl ?_
    exact k)
  by_cases hs1_2 : p0 = (196 : Int32)
  · have pre3 : ∀ t, Steps p.tables e below (s₁.setTop (mkF m 146 #[.val (.int p0)] [(.int (1 : Int32))])) t → Steps p.tables e below (s₁.setTop (entryFrame m #[(.int p0)] 1)) t := fun t k => pre1 t (by
      show Steps p.tables e below (s₁.setTop (mkF m 1 #[.val (.int p0)] [(.int p0)])) _
      refine XS.tswIn X0.here hx rfl (pc0 := 1) (pc' := 128) (o := 127) rfl (hb hby d1_1) rfl (by rw [hs1_2]; decide) (by rw [hs1_2]; rfl) (by decide) (by decide) ?_
      show Steps p.tables e below (s₁.setTop (mkF m 128 #[.val (.int p0)] [])) _
      refine XS.iconst X0.here hx rfl (hb hby d1_128) ?_
      show Steps p.tables e below (s₁.setTop (mkF m 129 #[.val (.int p0)] [(.int (1 : Int32))])) _
      refine XS.goto X0.here hx rfl (pc0 := 129) (pc' := 146) rfl (hb hby d1_129) (by decide) (by decide) ?_
      exact k)
    obtain ⟨fs, hr, hrun, hended, hW, hsame⟩ := X0.leave (v := some (.int (1 : Int32))) (fun h => by rw [Bd.returns] at h; cases h) hlk
    have hF : F1 p0 = (1 : Int32) := by unfold F1; rw [if_pos hs1_2]
    exact ⟨_, _, pre3 _ (retI X0 hx Bd.returns (hb hby d1_146) hr), hrun, hended, _, _, rfl, ⟨by rw [hF], N0, e0⟩, ⟨_, rfl⟩, hW, hsame.mono (by decide) (by decide)⟩
  by_cases hs1_4 : p0 = (197 : Int32)
  · have pre5 : ∀ t, Steps p.tables e below (s₁.setTop (mkF m 146 #[.val (.int p0)] [(.int (2 : Int32))])) t → Steps p.tables e below (s₁.setTop (entryFrame m #[(.int p0)] 1)) t := fun t k => pre1 t (by
      show Steps p.tables e below (s₁.setTop (mkF m 1 #[.val (.int p0)] [(.int p0)])) _
      refine XS.tswIn X0.here hx rfl (pc0 := 1) (pc' := 132) (o := 131) rfl (hb hby d1_1) rfl (by rw [hs1_4]; decide) (by rw [hs1_4]; rfl) (by decide) (by decide) ?_
      show Steps p.tables e below (s₁.setTop (mkF m 132 #[.val (.int p0)] [])) _
      refine XS.iconst X0.here hx rfl (hb hby d1_132) ?_
      show Steps p.tables e below (s₁.setTop (mkF m 133 #[.val (.int p0)] [(.int (2 : Int32))])) _
      refine XS.goto X0.here hx rfl (pc0 := 133) (pc' := 146) rfl (hb hby d1_133) (by decide) (by decide) ?_
      exact k)
    obtain ⟨fs, hr, hrun, hended, hW, hsame⟩ := X0.leave (v := some (.int (2 : Int32))) (fun h => by rw [Bd.returns] at h; cases h) hlk
    have hF : F1 p0 = (2 : Int32) := by unfold F1; rw [if_neg hs1_2, if_pos hs1_4]
    exact ⟨_, _, pre5 _ (retI X0 hx Bd.returns (hb hby d1_146) hr), hrun, hended, _, _, rfl, ⟨by rw [hF], N0, e0⟩, ⟨_, rfl⟩, hW, hsame.mono (by decide) (by decide)⟩
  by_cases hs1_6 : p0 = (198 : Int32)
  · have pre7 : ∀ t, Steps p.tables e below (s₁.setTop (mkF m 146 #[.val (.int p0)] [(.int (4 : Int32))])) t → Steps p.tables e below (s₁.setTop (entryFrame m #[(.int p0)] 1)) t := fun t k => pre1 t (by
      show Steps p.tables e below (s₁.setTop (mkF m 1 #[.val (.int p0)] [(.int p0)])) _
      refine XS.tswIn X0.here hx rfl (pc0 := 1) (pc' := 136) (o := 135) rfl (hb hby d1_1) rfl (by rw [hs1_6]; decide) (by rw [hs1_6]; rfl) (by decide) (by decide) ?_
      show Steps p.tables e below (s₁.setTop (mkF m 136 #[.val (.int p0)] [])) _
      refine XS.iconst X0.here hx rfl (hb hby d1_136) ?_
      show Steps p.tables e below (s₁.setTop (mkF m 137 #[.val (.int p0)] [(.int (4 : Int32))])) _
      refine XS.goto X0.here hx rfl (pc0 := 137) (pc' := 146) rfl (hb hby d1_137) (by decide) (by decide) ?_
      exact k)
    obtain ⟨fs, hr, hrun, hended, hW, hsame⟩ := X0.leave (v := some (.int (4 : Int32))) (fun h => by rw [Bd.returns] at h; cases h) hlk
    have hF : F1 p0 = (4 : Int32) := by unfold F1; rw [if_neg hs1_2, if_neg hs1_4, if_pos hs1_6]
    exact ⟨_, _, pre7 _ (retI X0 hx Bd.returns (hb hby d1_146) hr), hrun, hended, _, _, rfl, ⟨by rw [hF], N0, e0⟩, ⟨_, rfl⟩, hW, hsame.mono (by decide) (by decide)⟩
  by_cases hs1_8 : p0 = (199 : Int32)
  · have pre9 : ∀ t, Steps p.tables e below (s₁.setTop (mkF m 146 #[.val (.int p0)] [(.int (1 : Int32))])) t → Steps p.tables e below (s₁.setTop (entryFrame m #[(.int p0)] 1)) t := fun t k => pre1 t (by
      show Steps p.tables e below (s₁.setTop (mkF m 1 #[.val (.int p0)] [(.int p0)])) _
      refine XS.tswIn X0.here hx rfl (pc0 := 1) (pc' := 128) (o := 127) rfl (hb hby d1_1) rfl (by rw [hs1_8]; decide) (by rw [hs1_8]; rfl) (by decide) (by decide) ?_
      show Steps p.tables e below (s₁.setTop (mkF m 128 #[.val (.int p0)] [])) _
      refine XS.iconst X0.here hx rfl (hb hby d1_128) ?_
      show Steps p.tables e below (s₁.setTop (mkF m 129 #[.val (.int p0)] [(.int (1 : Int32))])) _
      refine XS.goto X0.here hx rfl (pc0 := 129) (pc' := 146) rfl (hb hby d1_129) (by decide) (by decide) ?_
      exact k)
    obtain ⟨fs, hr, hrun, hended, hW, hsame⟩ := X0.leave (v := some (.int (1 : Int32))) (fun h => by rw [Bd.returns] at h; cases h) hlk
    have hF : F1 p0 = (1 : Int32) := by unfold F1; rw [if_neg hs1_2, if_neg hs1_4, if_neg hs1_6, if_pos hs1_8]
    exact ⟨_, _, pre9 _ (retI X0 hx Bd.returns (hb hby d1_146) hr), hrun, hended, _, _, rfl, ⟨by rw [hF], N0, e0⟩, ⟨_, rfl⟩, hW, hsame.mono (by decide) (by decide)⟩
  by_cases hs1_10 : p0 = (200 : Int32)
  · have pre11 : ∀ t, Steps p.tables e below (s₁.setTop (mkF m 146 #[.val (.int p0)] [(.int (2 : Int32))])) t → Steps p.tables e below (s₁.setTop (entryFrame m #[(.int p0)] 1)) t := fun t k => pre1 t (by
      show Steps p.tables e below (s₁.setTop (mkF m 1 #[.val (.int p0)] [(.int p0)])) _
      refine XS.tswIn X0.here hx rfl (pc0 := 1) (pc' := 132) (o := 131) rfl (hb hby d1_1) rfl (by rw [hs1_10]; decide) (by rw [hs1_10]; rfl) (by decide) (by decide) ?_
      show Steps p.tables e below (s₁.setTop (mkF m 132 #[.val (.int p0)] [])) _
      refine XS.iconst X0.here hx rfl (hb hby d1_132) ?_
      show Steps p.tables e below (s₁.setTop (mkF m 133 #[.val (.int p0)] [(.int (2 : Int32))])) _
      refine XS.goto X0.here hx rfl (pc0 := 133) (pc' := 146) rfl (hb hby d1_133) (by decide) (by decide) ?_
      exact k)
    obtain ⟨fs, hr, hrun, hended, hW, hsame⟩ := X0.leave (v := some (.int (2 : Int32))) (fun h => by rw [Bd.returns] at h; cases h) hlk
    have hF : F1 p0 = (2 : Int32) := by unfold F1; rw [if_neg hs1_2, if_neg hs1_4, if_neg hs1_6, if_neg hs1_8, if_pos hs1_10]
    exact ⟨_, _, pre11 _ (retI X0 hx Bd.returns (hb hby d1_146) hr), hrun, hended, _, _, rfl, ⟨by rw [hF], N0, e0⟩, ⟨_, rfl⟩, hW, hsame.mono (by decide) (by decide)⟩
  by_cases hs1_12 : p0 = (201 : Int32)
  · have pre13 : ∀ t, Steps p.tables e below (s₁.setTop (mkF m 146 #[.val (.int p0)] [(.int (4 : Int32))])) t → Steps p.tables e below (s₁.setTop (entryFrame m #[(.int p0)] 1)) t := fun t k => pre1 t (by
      show Steps p.tables e below (s₁.setTop (mkF m 1 #[.val (.int p0)] [(.int p0)])) _
      refine XS.tswIn X0.here hx rfl (pc0 := 1) (pc' := 136) (o := 135) rfl (hb hby d1_1) rfl (by rw [hs1_12]; decide) (by rw [hs1_12]; rfl) (by decide) (by decide) ?_
      show Steps p.tables e below (s₁.setTop (mkF m 136 #[.val (.int p0)] [])) _
      refine XS.iconst X0.here hx rfl (hb hby d1_136) ?_
      show Steps p.tables e below (s₁.setTop (mkF m 137 #[.val (.int p0)] [(.int (4 : Int32))])) _
      refine XS.goto X0.here hx rfl (pc0 := 137) (pc' := 146) rfl (hb hby d1_137) (by decide) (by decide) ?_
      exact k)
    obtain ⟨fs, hr, hrun, hended, hW, hsame⟩ := X0.leave (v := some (.int (4 : Int32))) (fun h => by rw [Bd.returns] at h; cases h) hlk
    have hF : F1 p0 = (4 : Int32) := by unfold F1; rw [if_neg hs1_2, if_neg hs1_4, if_neg hs1_6, if_neg hs1_8, if_neg hs1_10, if_pos hs1_12]
    exact ⟨_, _, pre13 _ (retI X0 hx Bd.returns (hb hby d1_146) hr), hrun, hended, _, _, rfl, ⟨by rw [hF], N0, e0⟩, ⟨_, rfl⟩, hW, hsame.mono (by decide) (by decide)⟩
  by_cases hs1_14 : p0 = (202 : Int32)
  · have pre15 : ∀ t, Steps p.tables e below (s₁.setTop (mkF m 146 #[.val (.int p0)] [(.int (4 : Int32))])) t → Steps p.tables e below (s₁.setTop (entryFrame m #[(.int p0)] 1)) t := fun t k => pre1 t (by
      show Steps p.tables e below (s₁.setTop (mkF m 1 #[.val (.int p0)] [(.int p0)])) _
      refine XS.tswIn X0.here hx rfl (pc0 := 1) (pc' := 136) (o := 135) rfl (hb hby d1_1) rfl (by rw [hs1_14]; decide) (by rw [hs1_14]; rfl) (by decide) (by decide) ?_
      show Steps p.tables e below (s₁.setTop (mkF m 136 #[.val (.int p0)] [])) _
      refine XS.iconst X0.here hx rfl (hb hby d1_136) ?_
      show Steps p.tables e below (s₁.setTop (mkF m 137 #[.val (.int p0)] [(.int (4 : Int32))])) _
      refine XS.goto X0.here hx rfl (pc0 := 137) (pc' := 146) rfl (hb hby d1_137) (by decide) (by decide) ?_
      exact k)
    obtain ⟨fs, hr, hrun, hended, hW, hsame⟩ := X0.leave (v := some (.int (4 : Int32))) (fun h => by rw [Bd.returns] at h; cases h) hlk
    have hF : F1 p0 = (4 : Int32) := by unfold F1; rw [if_neg hs1_2, if_neg hs1_4, if_neg hs1_6, if_neg hs1_8, if_neg hs1_10, if_neg hs1_12, if_pos hs1_14]
    exact ⟨_, _, pre15 _ (retI X0 hx Bd.returns (hb hby d1_146) hr), hrun, hended, _, _, rfl, ⟨by rw [hF], N0, e0⟩, ⟨_, rfl⟩, hW, hsame.mono (by decide) (by decide)⟩
  by_cases hs1_16 : p0 = (203 : Int32)
  · have pre17 : ∀ t, Steps p.tables e below (s₁.setTop (mkF m 146 #[.val (.int p0)] [(.int (8 : Int32))])) t → Steps p.tables e below (s₁.setTop (entryFrame m #[(.int p0)] 1)) t := fun t k => pre1 t (by
      show Steps p.tables e below (s₁.setTop (mkF m 1 #[.val (.int p0)] [(.int p0)])) _
      refine XS.tswIn X0.here hx rfl (pc0 := 1) (pc' := 140) (o := 139) rfl (hb hby d1_1) rfl (by rw [hs1_16]; decide) (by rw [hs1_16]; rfl) (by decide) (by decide) ?_
      show Steps p.tables e below (s₁.setTop (mkF m 140 #[.val (.int p0)] [])) _
      refine XS.bipush X0.here hx rfl (hb hby d1_140) ?_
      show Steps p.tables e below (s₁.setTop (mkF m 142 #[.val (.int p0)] [(.int (8 : Int32))])) _
      refine XS.goto X0.here hx rfl (pc0 := 142) (pc' := 146) rfl (hb hby d1_142) (by decide) (by decide) ?_
      exact k)
    obtain ⟨fs, hr, hrun, hended, hW, hsame⟩ := X0.leave (v := some (.int (8 : Int32))) (fun h => by rw [Bd.returns] at h; cases h) hlk
    have hF : F1 p0 = (8 : Int32) := by unfold F1; rw [if_neg hs1_2, if_neg hs1_4, if_neg hs1_6, if_neg hs1_8, if_neg hs1_10, if_neg hs1_12, if_neg hs1_14, if_pos hs1_16]
    exact ⟨_, _, pre17 _ (retI X0 hx Bd.returns (hb hby d1_146) hr), hrun, hended, _, _, rfl, ⟨by rw [hF], N0, e0⟩, ⟨_, rfl⟩, hW, hsame.mono (by decide) (by decide)⟩
  by_cases hs1_18 : p0 = (204 : Int32)
  · have pre19 : ∀ t, Steps p.tables e below (s₁.setTop (mkF m 146 #[.val (.int p0)] [(.int (1 : Int32))])) t → Steps p.tables e below (s₁.setTop (entryFrame m #[(.int p0)] 1)) t := fun t k => pre1 t (by
      show Steps p.tables e below (s₁.setTop (mkF m 1 #[.val (.int p0)] [(.int p0)])) _
      refine XS.tswIn X0.here hx rfl (pc0 := 1) (pc' := 128) (o := 127) rfl (hb hby d1_1) rfl (by rw [hs1_18]; decide) (by rw [hs1_18]; rfl) (by decide) (by decide) ?_
      show Steps p.tables e below (s₁.setTop (mkF m 128 #[.val (.int p0)] [])) _
      refine XS.iconst X0.here hx rfl (hb hby d1_128) ?_
      show Steps p.tables e below (s₁.setTop (mkF m 129 #[.val (.int p0)] [(.int (1 : Int32))])) _
      refine XS.goto X0.here hx rfl (pc0 := 129) (pc' := 146) rfl (hb hby d1_129) (by decide) (by decide) ?_
      exact k)
    obtain ⟨fs, hr, hrun, hended, hW, hsame⟩ := X0.leave (v := some (.int (1 : Int32))) (fun h => by rw [Bd.returns] at h; cases h) hlk
    have hF : F1 p0 = (1 : Int32) := by unfold F1; rw [if_neg hs1_2, if_neg hs1_4, if_neg hs1_6, if_neg hs1_8, if_neg hs1_10, if_neg hs1_12, if_neg hs1_14, if_neg hs1_16, if_pos hs1_18]
    exact ⟨_, _, pre19 _ (retI X0 hx Bd.returns (hb hby d1_146) hr), hrun, hended, _, _, rfl, ⟨by rw [hF], N0, e0⟩, ⟨_, rfl⟩, hW, hsame.mono (by decide) (by decide)⟩
  by_cases hs1_20 : p0 = (205 : Int32)
  · have pre21 : ∀ t, Steps p.tables e below (s₁.setTop (mkF m 146 #[.val (.int p0)] [(.int (2 : Int32))])) t → Steps p.tables e below (s₁.setTop (entryFrame m #[(.int p0)] 1)) t := fun t k => pre1 t (by
      show Steps p.tables e below (s₁.setTop (mkF m 1 #[.val (.int p0)] [(.int p0)])) _
      refine XS.tswIn X0.here hx rfl (pc0 := 1) (pc' := 132) (o := 131) rfl (hb hby d1_1) rfl (by rw [hs1_20]; decide) (by rw [hs1_20]; rfl) (by decide) (by decide) ?_
      show Steps p.tables e below (s₁.setTop (mkF m 132 #[.val (.int p0)] [])) _
      refine XS.iconst X0.here hx rfl (hb hby d1_132) ?_
      show Steps p.tables e below (s₁.setTop (mkF m 133 #[.val (.int p0)] [(.int (2 : Int32))])) _
      refine XS.goto X0.here hx rfl (pc0 := 133) (pc' := 146) rfl (hb hby d1_133) (by decide) (by decide) ?_
      exact k)
    obtain ⟨fs, hr, hrun, hended, hW, hsame⟩ := X0.leave (v := some (.int (2 : Int32))) (fun h => by rw [Bd.returns] at h; cases h) hlk
    have hF : F1 p0 = (2 : Int32) := by unfold F1; rw [if_neg hs1_2, if_neg hs1_4, if_neg hs1_6, if_neg hs1_8, if_neg hs1_10, if_neg hs1_12, if_neg hs1_14, if_neg hs1_16, if_neg hs1_18, if_pos hs1_20]
    exact ⟨_, _, pre21 _ (retI X0 hx Bd.returns (hb hby d1_146) hr), hrun, hended, _, _, rfl, ⟨by rw [hF], N0, e0⟩, ⟨_, rfl⟩, hW, hsame.mono (by decide) (by decide)⟩
  by_cases hs1_22 : p0 = (206 : Int32)
  · have pre23 : ∀ t, Steps p.tables e below (s₁.setTop (mkF m 146 #[.val (.int p0)] [(.int (4 : Int32))])) t → Steps p.tables e below (s₁.setTop (entryFrame m #[(.int p0)] 1)) t := fun t k => pre1 t (by
      show Steps p.tables e below (s₁.setTop (mkF m 1 #[.val (.int p0)] [(.int p0)])) _
      refine XS.tswIn X0.here hx rfl (pc0 := 1) (pc' := 136) (o := 135) rfl (hb hby d1_1) rfl (by rw [hs1_22]; decide) (by rw [hs1_22]; rfl) (by decide) (by decide) ?_
      show Steps p.tables e below (s₁.setTop (mkF m 136 #[.val (.int p0)] [])) _
      refine XS.iconst X0.here hx rfl (hb hby d1_136) ?_
      show Steps p.tables e below (s₁.setTop (mkF m 137 #[.val (.int p0)] [(.int (4 : Int32))])) _
      refine XS.goto X0.here hx rfl (pc0 := 137) (pc' := 146) rfl (hb hby d1_137) (by decide) (by decide) ?_
      exact k)
    obtain ⟨fs, hr, hrun, hended, hW, hsame⟩ := X0.leave (v := some (.int (4 : Int32))) (fun h => by rw [Bd.returns] at h; cases h) hlk
    have hF : F1 p0 = (4 : Int32) := by unfold F1; rw [if_neg hs1_2, if_neg hs1_4, if_neg hs1_6, if_neg hs1_8, if_neg hs1_10, if_neg hs1_12, if_neg hs1_14, if_neg hs1_16, if_neg hs1_18, if_neg hs1_20, if_pos hs1_22]
    exact ⟨_, _, pre23 _ (retI X0 hx Bd.returns (hb hby d1_146) hr), hrun, hended, _, _, rfl, ⟨by rw [hF], N0, e0⟩, ⟨_, rfl⟩, hW, hsame.mono (by decide) (by decide)⟩
  by_cases hs1_24 : p0 = (207 : Int32)
  · have pre25 : ∀ t, Steps p.tables e below (s₁.setTop (mkF m 146 #[.val (.int p0)] [(.int (8 : Int32))])) t → Steps p.tables e below (s₁.setTop (entryFrame m #[(.int p0)] 1)) t := fun t k => pre1 t (by
      show Steps p.tables e below (s₁.setTop (mkF m 1 #[.val (.int p0)] [(.int p0)])) _
      refine XS.tswIn X0.here hx rfl (pc0 := 1) (pc' := 140) (o := 139) rfl (hb hby d1_1) rfl (by rw [hs1_24]; decide) (by rw [hs1_24]; rfl) (by decide) (by decide) ?_
      show Steps p.tables e below (s₁.setTop (mkF m 140 #[.val (.int p0)] [])) _
      refine XS.bipush X0.here hx rfl (hb hby d1_140) ?_
      show Steps p.tables e below (s₁.setTop (mkF m 142 #[.val (.int p0)] [(.int (8 : Int32))])) _
      refine XS.goto X0.here hx rfl (pc0 := 142) (pc' := 146) rfl (hb hby d1_142) (by decide) (by decide) ?_
      exact k)
    obtain ⟨fs, hr, hrun, hended, hW, hsame⟩ := X0.leave (v := some (.int (8 : Int32))) (fun h => by rw [Bd.returns] at h; cases h) hlk
    have hF : F1 p0 = (8 : Int32) := by unfold F1; rw [if_neg hs1_2, if_neg hs1_4, if_neg hs1_6, if_neg hs1_8, if_neg hs1_10, if_neg hs1_12, if_neg hs1_14, if_neg hs1_16, if_neg hs1_18, if_neg hs1_20, if_neg hs1_22, if_pos hs1_24]
    exact ⟨_, _, pre25 _ (retI X0 hx Bd.returns (hb hby d1_146) hr), hrun, hended, _, _, rfl, ⟨by rw [hF], N0, e0⟩, ⟨_, rfl⟩, hW, hsame.mono (by decide) (by decide)⟩
  by_cases hs1_26 : p0 = (208 : Int32)
  · have pre27 : ∀ t, Steps p.tables e below (s₁.setTop (mkF m 146 #[.val (.int p0)] [(.int (1 : Int32))])) t → Steps p.tables e below (s₁.setTop (entryFrame m #[(.int p0)] 1)) t := fun t k => pre1 t (by
      show Steps p.tables e below (s₁.setTop (mkF m 1 #[.val (.int p0)] [(.int p0)])) _
      refine XS.tswIn X0.here hx rfl (pc0 := 1) (pc' := 128) (o := 127) rfl (hb hby d1_1) rfl (by rw [hs1_26]; decide) (by rw [hs1_26]; rfl) (by decide) (by decide) ?_
      show Steps p.tables e below (s₁.setTop (mkF m 128 #[.val (.int p0)] [])) _
      refine XS.iconst X0.here hx rfl (hb hby d1_128) ?_
      show Steps p.tables e below (s₁.setTop (mkF m 129 #[.val (.int p0)] [(.int (1 : Int32))])) _
      refine XS.goto X0.here hx rfl (pc0 := 129) (pc' := 146) rfl (hb hby d1_129) (by decide) (by decide) ?_
      exact k)
    obtain ⟨fs, hr, hrun, hended, hW, hsame⟩ := X0.leave (v := some (.int (1 : Int32))) (fun h => by rw [Bd.returns] at h; cases h) hlk
    have hF : F1 p0 = (1 : Int32) := by unfold F1; rw [if_neg hs1_2, if_neg hs1_4, if_neg hs1_6, if_neg hs1_8, if_neg hs1_10, if_neg hs1_12, if_neg hs1_14, if_neg hs1_16, if_neg hs1_18, if_neg hs1_20, if_neg hs1_22, if_neg hs1_24, if_pos hs1_26]
    exact ⟨_, _, pre27 _ (retI X0 hx Bd.returns (hb hby d1_146) hr), hrun, hended, _, _, rfl, ⟨by rw [hF], N0, e0⟩, ⟨_, rfl⟩, hW, hsame.mono (by decide) (by decide)⟩
  by_cases hs1_28 : p0 = (209 : Int32)
  · have pre29 : ∀ t, Steps p.tables e below (s₁.setTop (mkF m 146 #[.val (.int p0)] [(.int (2 : Int32))])) t → Steps p.tables e below (s₁.setTop (entryFrame m #[(.int p0)] 1)) t := fun t k => pre1 t (by
      show Steps p.tables e below (s₁.setTop (mkF m 1 #[.val (.int p0)] [(.int p0)])) _
      refine XS.tswIn X0.here hx rfl (pc0 := 1) (pc' := 132) (o := 131) rfl (hb hby d1_1) rfl (by rw [hs1_28]; decide) (by rw [hs1_28]; rfl) (by decide) (by decide) ?_
      show Steps p.tables e below (s₁.setTop (mkF m 132 #[.val (.int p0)] [])) _
      refine XS.iconst X0.here hx rfl (hb hby d1_132) ?_
      show Steps p.tables e below (s₁.setTop (mkF m 133 #[.val (.int p0)] [(.int (2 : Int32))])) _
      refine XS.goto X0.here hx rfl (pc0 := 133) (pc' := 146) rfl (hb hby d1_133) (by decide) (by decide) ?_
      exact k)
    obtain ⟨fs, hr, hrun, hended, hW, hsame⟩ := X0.leave (v := some (.int (2 : Int32))) (fun h => by rw [Bd.returns] at h; cases h) hlk
    have hF : F1 p0 = (2 : Int32) := by unfold F1; rw [if_neg hs1_2, if_neg hs1_4, if_neg hs1_6, if_neg hs1_8, if_neg hs1_10, if_neg hs1_12, if_neg hs1_14, if_neg hs1_16, if_neg hs1_18, if_neg hs1_20, if_neg hs1_22, if_neg hs1_24, if_neg hs1_26, if_pos hs1_28]
    exact ⟨_, _, pre29 _ (retI X0 hx Bd.returns (hb hby d1_146) hr), hrun, hended, _, _, rfl, ⟨by rw [hF], N0, e0⟩, ⟨_, rfl⟩, hW, hsame.mono (by decide) (by decide)⟩
  by_cases hs1_30 : p0 = (210 : Int32)
  · have pre31 : ∀ t, Steps p.tables e below (s₁.setTop (mkF m 146 #[.val (.int p0)] [(.int (4 : Int32))])) t → Steps p.tables e below (s₁.setTop (entryFrame m #[(.int p0)] 1)) t := fun t k => pre1 t (by
      show Steps p.tables e below (s₁.setTop (mkF m 1 #[.val (.int p0)] [(.int p0)])) _
      refine XS.tswIn X0.here hx rfl (pc0 := 1) (pc' := 136) (o := 135) rfl (hb hby d1_1) rfl (by rw [hs1_30]; decide) (by rw [hs1_30]; rfl) (by decide) (by decide) ?_
      show Steps p.tables e below (s₁.setTop (mkF m 136 #[.val (.int p0)] [])) _
      refine XS.iconst X0.here hx rfl (hb hby d1_136) ?_
      show Steps p.tables e below (s₁.setTop (mkF m 137 #[.val (.int p0)] [(.int (4 : Int32))])) _
      refine XS.goto X0.here hx rfl (pc0 := 137) (pc' := 146) rfl (hb hby d1_137) (by decide) (by decide) ?_
      exact k)
    obtain ⟨fs, hr, hrun, hended, hW, hsame⟩ := X0.leave (v := some (.int (4 : Int32))) (fun h => by rw [Bd.returns] at h; cases h) hlk
    have hF : F1 p0 = (4 : Int32) := by unfold F1; rw [if_neg hs1_2, if_neg hs1_4, if_neg hs1_6, if_neg hs1_8, if_neg hs1_10, if_neg hs1_12, if_neg hs1_14, if_neg hs1_16, if_neg hs1_18, if_neg hs1_20, if_neg hs1_22, if_neg hs1_24, if_neg hs1_26, if_neg hs1_28, if_pos hs1_30]
    exact ⟨_, _, pre31 _ (retI X0 hx Bd.returns (hb hby d1_146) hr), hrun, hended, _, _, rfl, ⟨by rw [hF], N0, e0⟩, ⟨_, rfl⟩, hW, hsame.mono (by decide) (by decide)⟩
  by_cases hs1_32 : p0 = (211 : Int32)
  · have pre33 : ∀ t, Steps p.tables e below (s₁.setTop (mkF m 146 #[.val (.int p0)] [(.int (8 : Int32))])) t → Steps p.tables e below (s₁.setTop (entryFrame m #[(.int p0)] 1)) t := fun t k => pre1 t (by
      show Steps p.tables e below (s₁.setTop (mkF m 1 #[.val (.int p0)] [(.int p0)])) _
      refine XS.tswIn X0.here hx rfl (pc0 := 1) (pc' := 140) (o := 139) rfl (hb hby d1_1) rfl (by rw [hs1_32]; decide) (by rw [hs1_32]; rfl) (by decide) (by decide) ?_
      show Steps p.tables e below (s₁.setTop (mkF m 140 #[.val (.int p0)] [])) _
      refine XS.bipush X0.here hx rfl (hb hby d1_140) ?_
      show Steps p.tables e below (s₁.setTop (mkF m 142 #[.val (.int p0)] [(.int (8 : Int32))])) _
      refine XS.goto X0.here hx rfl (pc0 := 142) (pc' := 146) rfl (hb hby d1_142) (by decide) (by decide) ?_
      exact k)
    obtain ⟨fs, hr, hrun, hended, hW, hsame⟩ := X0.leave (v := some (.int (8 : Int32))) (fun h => by rw [Bd.returns] at h; cases h) hlk
    have hF : F1 p0 = (8 : Int32) := by unfold F1; rw [if_neg hs1_2, if_neg hs1_4, if_neg hs1_6, if_neg hs1_8, if_neg hs1_10, if_neg hs1_12, if_neg hs1_14, if_neg hs1_16, if_neg hs1_18, if_neg hs1_20, if_neg hs1_22, if_neg hs1_24, if_neg hs1_26, if_neg hs1_28, if_neg hs1_30, if_pos hs1_32]
    exact ⟨_, _, pre33 _ (retI X0 hx Bd.returns (hb hby d1_146) hr), hrun, hended, _, _, rfl, ⟨by rw [hF], N0, e0⟩, ⟨_, rfl⟩, hW, hsame.mono (by decide) (by decide)⟩
  by_cases hs1_34 : p0 = (212 : Int32)
  · have pre35 : ∀ t, Steps p.tables e below (s₁.setTop (mkF m 146 #[.val (.int p0)] [(.int (0 : Int32))])) t → Steps p.tables e below (s₁.setTop (entryFrame m #[(.int p0)] 1)) t := fun t k => pre1 t (by
      show Steps p.tables e below (s₁.setTop (mkF m 1 #[.val (.int p0)] [(.int p0)])) _
      refine XS.tswIn X0.here hx rfl (pc0 := 1) (pc' := 145) (o := 144) rfl (hb hby d1_1) rfl (by rw [hs1_34]; decide) (by rw [hs1_34]; rfl) (by decide) (by decide) ?_
      show Steps p.tables e below (s₁.setTop (mkF m 145 #[.val (.int p0)] [])) _
      refine XS.iconst X0.here hx rfl (hb hby d1_145) ?_
      exact k)
    obtain ⟨fs, hr, hrun, hended, hW, hsame⟩ := X0.leave (v := some (.int (0 : Int32))) (fun h => by rw [Bd.returns] at h; cases h) hlk
    have hF : F1 p0 = (0 : Int32) := by unfold F1; rw [if_neg hs1_2, if_neg hs1_4, if_neg hs1_6, if_neg hs1_8, if_neg hs1_10, if_neg hs1_12, if_neg hs1_14, if_neg hs1_16, if_neg hs1_18, if_neg hs1_20, if_neg hs1_22, if_neg hs1_24, if_neg hs1_26, if_neg hs1_28, if_neg hs1_30, if_neg hs1_32, if_pos hs1_34]
    exact ⟨_, _, pre35 _ (retI X0 hx Bd.returns (hb hby d1_146) hr), hrun, hended, _, _, rfl, ⟨by rw [hF], N0, e0⟩, ⟨_, rfl⟩, hW, hsame.mono (by decide) (by decide)⟩
  by_cases hs1_36 : p0 = (213 : Int32)
  · have pre37 : ∀ t, Steps p.tables e below (s₁.setTop (mkF m 146 #[.val (.int p0)] [(.int (0 : Int32))])) t → Steps p.tables e below (s₁.setTop (entryFrame m #[(.int p0)] 1)) t := fun t k => pre1 t (by
      show Steps p.tables e below (s₁.setTop (mkF m 1 #[.val (.int p0)] [(.int p0)])) _
      refine XS.tswIn X0.here hx rfl (pc0 := 1) (pc' := 145) (o := 144) rfl (hb hby d1_1) rfl (by rw [hs1_36]; decide) (by rw [hs1_36]; rfl) (by decide) (by decide) ?_
      show Steps p.tables e below (s₁.setTop (mkF m 145 #[.val (.int p0)] [])) _
      refine XS.iconst X0.here hx rfl (hb hby d1_145) ?_
      exact k)
    obtain ⟨fs, hr, hrun, hended, hW, hsame⟩ := X0.leave (v := some (.int (0 : Int32))) (fun h => by rw [Bd.returns] at h; cases h) hlk
    have hF : F1 p0 = (0 : Int32) := by unfold F1; rw [if_neg hs1_2, if_neg hs1_4, if_neg hs1_6, if_neg hs1_8, if_neg hs1_10, if_neg hs1_12, if_neg hs1_14, if_neg hs1_16, if_neg hs1_18, if_neg hs1_20, if_neg hs1_22, if_neg hs1_24, if_neg hs1_26, if_neg hs1_28, if_neg hs1_30, if_neg hs1_32, if_neg hs1_34, if_pos hs1_36]
    exact ⟨_, _, pre37 _ (retI X0 hx Bd.returns (hb hby d1_146) hr), hrun, hended, _, _, rfl, ⟨by rw [hF], N0, e0⟩, ⟨_, rfl⟩, hW, hsame.mono (by decide) (by decide)⟩
  by_cases hs1_38 : p0 = (214 : Int32)
  · have pre39 : ∀ t, Steps p.tables e below (s₁.setTop (mkF m 146 #[.val (.int p0)] [(.int (0 : Int32))])) t → Steps p.tables e below (s₁.setTop (entryFrame m #[(.int p0)] 1)) t := fun t k => pre1 t (by
      show Steps p.tables e below (s₁.setTop (mkF m 1 #[.val (.int p0)] [(.int p0)])) _
      refine XS.tswIn X0.here hx rfl (pc0 := 1) (pc' := 145) (o := 144) rfl (hb hby d1_1) rfl (by rw [hs1_38]; decide) (by rw [hs1_38]; rfl) (by decide) (by decide) ?_
      show Steps p.tables e below (s₁.setTop (mkF m 145 #[.val (.int p0)] [])) _
      refine XS.iconst X0.here hx rfl (hb hby d1_145) ?_
      exact k)
    obtain ⟨fs, hr, hrun, hended, hW, hsame⟩ := X0.leave (v := some (.int (0 : Int32))) (fun h => by rw [Bd.returns] at h; cases h) hlk
    have hF : F1 p0 = (0 : Int32) := by unfold F1; rw [if_neg hs1_2, if_neg hs1_4, if_neg hs1_6, if_neg hs1_8, if_neg hs1_10, if_neg hs1_12, if_neg hs1_14, if_neg hs1_16, if_neg hs1_18, if_neg hs1_20, if_neg hs1_22, if_neg hs1_24, if_neg hs1_26, if_neg hs1_28, if_neg hs1_30, if_neg hs1_32, if_neg hs1_34, if_neg hs1_36, if_pos hs1_38]
    exact ⟨_, _, pre39 _ (retI X0 hx Bd.returns (hb hby d1_146) hr), hrun, hended, _, _, rfl, ⟨by rw [hF], N0, e0⟩, ⟨_, rfl⟩, hW, hsame.mono (by decide) (by decide)⟩
  by_cases hs1_40 : p0 = (215 : Int32)
  · have pre41 : ∀ t, Steps p.tables e below (s₁.setTop (mkF m 146 #[.val (.int p0)] [(.int (0 : Int32))])) t → Steps p.tables e below (s₁.setTop (entryFrame m #[(.int p0)] 1)) t := fun t k => pre1 t (by
      show Steps p.tables e below (s₁.setTop (mkF m 1 #[.val (.int p0)] [(.int p0)])) _
      refine XS.tswIn X0.here hx rfl (pc0 := 1) (pc' := 145) (o := 144) rfl (hb hby d1_1) rfl (by rw [hs1_40]; decide) (by rw [hs1_40]; rfl) (by decide) (by decide) ?_
      show Steps p.tables e below (s₁.setTop (mkF m 145 #[.val (.int p0)] [])) _
      refine XS.iconst X0.here hx rfl (hb hby d1_145) ?_
      exact k)
    obtain ⟨fs, hr, hrun, hended, hW, hsame⟩ := X0.leave (v := some (.int (0 : Int32))) (fun h => by rw [Bd.returns] at h; cases h) hlk
    have hF : F1 p0 = (0 : Int32) := by unfold F1; rw [if_neg hs1_2, if_neg hs1_4, if_neg hs1_6, if_neg hs1_8, if_neg hs1_10, if_neg hs1_12, if_neg hs1_14, if_neg hs1_16, if_neg hs1_18, if_neg hs1_20, if_neg hs1_22, if_neg hs1_24, if_neg hs1_26, if_neg hs1_28, if_neg hs1_30, if_neg hs1_32, if_neg hs1_34, if_neg hs1_36, if_neg hs1_38, if_pos hs1_40]
    exact ⟨_, _, pre41 _ (retI X0 hx Bd.returns (hb hby d1_146) hr), hrun, hended, _, _, rfl, ⟨by rw [hF], N0, e0⟩, ⟨_, rfl⟩, hW, hsame.mono (by decide) (by decide)⟩
  by_cases hs1_42 : p0 = (216 : Int32)
  · have pre43 : ∀ t, Steps p.tables e below (s₁.setTop (mkF m 146 #[.val (.int p0)] [(.int (0 : Int32))])) t → Steps p.tables e below (s₁.setTop (entryFrame m #[(.int p0)] 1)) t := fun t k => pre1 t (by
      show Steps p.tables e below (s₁.setTop (mkF m 1 #[.val (.int p0)] [(.int p0)])) _
      refine XS.tswIn X0.here hx rfl (pc0 := 1) (pc' := 145) (o := 144) rfl (hb hby d1_1) rfl (by rw [hs1_42]; decide) (by rw [hs1_42]; rfl) (by decide) (by decide) ?_
      show Steps p.tables e below (s₁.setTop (mkF m 145 #[.val (.int p0)] [])) _
      refine XS.iconst X0.here hx rfl (hb hby d1_145) ?_
      exact k)
    obtain ⟨fs, hr, hrun, hended, hW, hsame⟩ := X0.leave (v := some (.int (0 : Int32))) (fun h => by rw [Bd.returns] at h; cases h) hlk
    have hF : F1 p0 = (0 : Int32) := by unfold F1; rw [if_neg hs1_2, if_neg hs1_4, if_neg hs1_6, if_neg hs1_8, if_neg hs1_10, if_neg hs1_12, if_neg hs1_14, if_neg hs1_16, if_neg hs1_18, if_neg hs1_20, if_neg hs1_22, if_neg hs1_24, if_neg hs1_26, if_neg hs1_28, if_neg hs1_30, if_neg hs1_32, if_neg hs1_34, if_neg hs1_36, if_neg hs1_38, if_neg hs1_40, if_pos hs1_42]
    exact ⟨_, _, pre43 _ (retI X0 hx Bd.returns (hb hby d1_146) hr), hrun, hended, _, _, rfl, ⟨by rw [hF], N0, e0⟩, ⟨_, rfl⟩, hW, hsame.mono (by decide) (by decide)⟩
  by_cases hs1_44 : p0 = (217 : Int32)
  · have pre45 : ∀ t, Steps p.tables e below (s₁.setTop (mkF m 146 #[.val (.int p0)] [(.int (1 : Int32))])) t → Steps p.tables e below (s₁.setTop (entryFrame m #[(.int p0)] 1)) t := fun t k => pre1 t (by
      show Steps p.tables e below (s₁.setTop (mkF m 1 #[.val (.int p0)] [(.int p0)])) _
      refine XS.tswIn X0.here hx rfl (pc0 := 1) (pc' := 128) (o := 127) rfl (hb hby d1_1) rfl (by rw [hs1_44]; decide) (by rw [hs1_44]; rfl) (by decide) (by decide) ?_
      show Steps p.tables e below (s₁.setTop (mkF m 128 #[.val (.int p0)] [])) _
      refine XS.iconst X0.here hx rfl (hb hby d1_128) ?_
      show Steps p.tables e below (s₁.setTop (mkF m 129 #[.val (.int p0)] [(.int (1 : Int32))])) _
      refine XS.goto X0.here hx rfl (pc0 := 129) (pc' := 146) rfl (hb hby d1_129) (by decide) (by decide) ?_
      exact k)
    obtain ⟨fs, hr, hrun, hended, hW, hsame⟩ := X0.leave (v := some (.int (1 : Int32))) (fun h => by rw [Bd.returns] at h; cases h) hlk
    have hF : F1 p0 = (1 : Int32) := by unfold F1; rw [if_neg hs1_2, if_neg hs1_4, if_neg hs1_6, if_neg hs1_8, if_neg hs1_10, if_neg hs1_12, if_neg hs1_14, if_neg hs1_16, if_neg hs1_18, if_neg hs1_20, if_neg hs1_22, if_neg hs1_24, if_neg hs1_26, if_neg hs1_28, if_neg hs1_30, if_neg hs1_32, if_neg hs1_34, if_neg hs1_36, if_neg hs1_38, if_neg hs1_40, if_neg hs1_42, if_pos hs1_44]
    exact ⟨_, _, pre45 _ (retI X0 hx Bd.returns (hb hby d1_146) hr), hrun, hended, _, _, rfl, ⟨by rw [hF], N0, e0⟩, ⟨_, rfl⟩, hW, hsame.mono (by decide) (by decide)⟩
  by_cases hs1_46 : p0 = (218 : Int32)
  · have pre47 : ∀ t, Steps p.tables e below (s₁.setTop (mkF m 146 #[.val (.int p0)] [(.int (2 : Int32))])) t → Steps p.tables e below (s₁.setTop (entryFrame m #[(.int p0)] 1)) t := fun t k => pre1 t (by
      show Steps p.tables e below (s₁.setTop (mkF m 1 #[.val (.int p0)] [(.int p0)])) _
      refine XS.tswIn X0.here hx rfl (pc0 := 1) (pc' := 132) (o := 131) rfl (hb hby d1_1) rfl (by rw [hs1_46]; decide) (by rw [hs1_46]; rfl) (by decide) (by decide) ?_
      show Steps p.tables e below (s₁.setTop (mkF m 132 #[.val (.int p0)] [])) _
      refine XS.iconst X0.here hx rfl (hb hby d1_132) ?_
      show Steps p.tables e below (s₁.setTop (mkF m 133 #[.val (.int p0)] [(.int (2 : Int32))])) _
      refine XS.goto X0.here hx rfl (pc0 := 133) (pc' := 146) rfl (hb hby d1_133) (by decide) (by decide) ?_
      exact k)
    obtain ⟨fs, hr, hrun, hended, hW, hsame⟩ := X0.leave (v := some (.int (2 : Int32))) (fun h => by rw [Bd.returns] at h; cases h) hlk
    have hF : F1 p0 = (2 : Int32) := by unfold F1; rw [if_neg hs1_2, if_neg hs1_4, if_neg hs1_6, if_neg hs1_8, if_neg hs1_10, if_neg hs1_12, if_neg hs1_14, if_neg hs1_16, if_neg hs1_18, if_neg hs1_20, if_neg hs1_22, if_neg hs1_24, if_neg hs1_26, if_neg hs1_28, if_neg hs1_30, if_neg hs1_32, if_neg hs1_34, if_neg hs1_36, if_neg hs1_38, if_neg hs1_40, if_neg hs1_42, if_neg hs1_44, if_pos hs1_46]
    exact ⟨_, _, pre47 _ (retI X0 hx Bd.returns (hb hby d1_146) hr), hrun, hended, _, _, rfl, ⟨by rw [hF], N0, e0⟩, ⟨_, rfl⟩, hW, hsame.mono (by decide) (by decide)⟩
  by_cases hs1_48 : p0 = (219 : Int32)
  · have pre49 : ∀ t, Steps p.tables e below (s₁.setTop (mkF m 146 #[.val (.int p0)] [(.int (4 : Int32))])) t → Steps p.tables e below (s₁.setTop (entryFrame m #[(.int p0)] 1)) t := fun t k => pre1 t (by
      show Steps p.tables e below (s₁.setTop (mkF m 1 #[.val (.int p0)] [(.int p0)])) _
      refine XS.tswIn X0.here hx rfl (pc0 := 1) (pc' := 136) (o := 135) rfl (hb hby d1_1) rfl (by rw [hs1_48]; decide) (by rw [hs1_48]; rfl) (by decide) (by decide) ?_
      show Steps p.tables e below (s₁.setTop (mkF m 136 #[.val (.int p0)] [])) _
      refine XS.iconst X0.here hx rfl (hb hby d1_136) ?_
      show Steps p.tables e below (s₁.setTop (mkF m 137 #[.val (.int p0)] [(.int (4 : Int32))])) _
      refine XS.goto X0.here hx rfl (pc0 := 137) (pc' := 146) rfl (hb hby d1_137) (by decide) (by decide) ?_
      exact k)
    obtain ⟨fs, hr, hrun, hended, hW, hsame⟩ := X0.leave (v := some (.int (4 : Int32))) (fun h => by rw [Bd.returns] at h; cases h) hlk
    have hF : F1 p0 = (4 : Int32) := by unfold F1; rw [if_neg hs1_2, if_neg hs1_4, if_neg hs1_6, if_neg hs1_8, if_neg hs1_10, if_neg hs1_12, if_neg hs1_14, if_neg hs1_16, if_neg hs1_18, if_neg hs1_20, if_neg hs1_22, if_neg hs1_24, if_neg hs1_26, if_neg hs1_28, if_neg hs1_30, if_neg hs1_32, if_neg hs1_34, if_neg hs1_36, if_neg hs1_38, if_neg hs1_40, if_neg hs1_42, if_neg hs1_44, if_neg hs1_46, if_pos hs1_48]
    exact ⟨_, _, pre49 _ (retI X0 hx Bd.returns (hb hby d1_146) hr), hrun, hended, _, _, rfl, ⟨by rw [hF], N0, e0⟩, ⟨_, rfl⟩, hW, hsame.mono (by decide) (by decide)⟩
  by_cases hs1_50 : p0 = (220 : Int32)
  · have pre51 : ∀ t, Steps p.tables e below (s₁.setTop (mkF m 146 #[.val (.int p0)] [(.int (2 : Int32))])) t → Steps p.tables e below (s₁.setTop (entryFrame m #[(.int p0)] 1)) t := fun t k => pre1 t (by
      show Steps p.tables e below (s₁.setTop (mkF m 1 #[.val (.int p0)] [(.int p0)])) _
      refine XS.tswIn X0.here hx rfl (pc0 := 1) (pc' := 132) (o := 131) rfl (hb hby d1_1) rfl (by rw [hs1_50]; decide) (by rw [hs1_50]; rfl) (by decide) (by decide) ?_
      show Steps p.tables e below (s₁.setTop (mkF m 132 #[.val (.int p0)] [])) _
      refine XS.iconst X0.here hx rfl (hb hby d1_132) ?_
      show Steps p.tables e below (s₁.setTop (mkF m 133 #[.val (.int p0)] [(.int (2 : Int32))])) _
      refine XS.goto X0.here hx rfl (pc0 := 133) (pc' := 146) rfl (hb hby d1_133) (by decide) (by decide) ?_
      exact k)
    obtain ⟨fs, hr, hrun, hended, hW, hsame⟩ := X0.leave (v := some (.int (2 : Int32))) (fun h => by rw [Bd.returns] at h; cases h) hlk
    have hF : F1 p0 = (2 : Int32) := by unfold F1; rw [if_neg hs1_2, if_neg hs1_4, if_neg hs1_6, if_neg hs1_8, if_neg hs1_10, if_neg hs1_12, if_neg hs1_14, if_neg hs1_16, if_neg hs1_18, if_neg hs1_20, if_neg hs1_22, if_neg hs1_24, if_neg hs1_26, if_neg hs1_28, if_neg hs1_30, if_neg hs1_32, if_neg hs1_34, if_neg hs1_36, if_neg hs1_38, if_neg hs1_40, if_neg hs1_42, if_neg hs1_44, if_neg hs1_46, if_neg hs1_48, if_pos hs1_50]
    exact ⟨_, _, pre51 _ (retI X0 hx Bd.returns (hb hby d1_146) hr), hrun, hended, _, _, rfl, ⟨by rw [hF], N0, e0⟩, ⟨_, rfl⟩, hW, hsame.mono (by decide) (by decide)⟩
  by_cases hs1_52 : p0 = (221 : Int32)
  · have pre53 : ∀ t, Steps p.tables e below (s₁.setTop (mkF m 146 #[.val (.int p0)] [(.int (4 : Int32))])) t → Steps p.tables e below (s₁.setTop (entryFrame m #[(.int p0)] 1)) t := fun t k => pre1 t (by
      show Steps p.tables e below (s₁.setTop (mkF m 1 #[.val (.int p0)] [(.int p0)])) _
      refine XS.tswIn X0.here hx rfl (pc0 := 1) (pc' := 136) (o := 135) rfl (hb hby d1_1) rfl (by rw [hs1_52]; decide) (by rw [hs1_52]; rfl) (by decide) (by decide) ?_
      show Steps p.tables e below (s₁.setTop (mkF m 136 #[.val (.int p0)] [])) _
      refine XS.iconst X0.here hx rfl (hb hby d1_136) ?_
      show Steps p.tables e below (s₁.setTop (mkF m 137 #[.val (.int p0)] [(.int (4 : Int32))])) _
      refine XS.goto X0.here hx rfl (pc0 := 137) (pc' := 146) rfl (hb hby d1_137) (by decide) (by decide) ?_
      exact k)
    obtain ⟨fs, hr, hrun, hended, hW, hsame⟩ := X0.leave (v := some (.int (4 : Int32))) (fun h => by rw [Bd.returns] at h; cases h) hlk
    have hF : F1 p0 = (4 : Int32) := by unfold F1; rw [if_neg hs1_2, if_neg hs1_4, if_neg hs1_6, if_neg hs1_8, if_neg hs1_10, if_neg hs1_12, if_neg hs1_14, if_neg hs1_16, if_neg hs1_18, if_neg hs1_20, if_neg hs1_22, if_neg hs1_24, if_neg hs1_26, if_neg hs1_28, if_neg hs1_30, if_neg hs1_32, if_neg hs1_34, if_neg hs1_36, if_neg hs1_38, if_neg hs1_40, if_neg hs1_42, if_neg hs1_44, if_neg hs1_46, if_neg hs1_48, if_neg hs1_50, if_pos hs1_52]
    exact ⟨_, _, pre53 _ (retI X0 hx Bd.returns (hb hby d1_146) hr), hrun, hended, _, _, rfl, ⟨by rw [hF], N0, e0⟩, ⟨_, rfl⟩, hW, hsame.mono (by decide) (by decide)⟩
  by_cases hs1_54 : p0 = (222 : Int32)
  · have pre55 : ∀ t, Steps p.tables e below (s₁.setTop (mkF m 146 #[.val (.int p0)] [(.int (2 : Int32))])) t → Steps p.tables e below (s₁.setTop (entryFrame m #[(.int p0)] 1)) t := fun t k => pre1 t (by
      show Steps p.tables e below (s₁.setTop (mkF m 1 #[.val (.int p0)] [(.int p0)])) _
      refine XS.tswIn X0.here hx rfl (pc0 := 1) (pc' := 132) (o := 131) rfl (hb hby d1_1) rfl (by rw [hs1_54]; decide) (by rw [hs1_54]; rfl) (by decide) (by decide) ?_
      show Steps p.tables e below (s₁.setTop (mkF m 132 #[.val (.int p0)] [])) _
      refine XS.iconst X0.here hx rfl (hb hby d1_132) ?_
      show Steps p.tables e below (s₁.setTop (mkF m 133 #[.val (.int p0)] [(.int (2 : Int32))])) _
      refine XS.goto X0.here hx rfl (pc0 := 133) (pc' := 146) rfl (hb hby d1_133) (by decide) (by decide) ?_
      exact k)
    obtain ⟨fs, hr, hrun, hended, hW, hsame⟩ := X0.leave (v := some (.int (2 : Int32))) (fun h => by rw [Bd.returns] at h; cases h) hlk
    have hF : F1 p0 = (2 : Int32) := by unfold F1; rw [if_neg hs1_2, if_neg hs1_4, if_neg hs1_6, if_neg hs1_8, if_neg hs1_10, if_neg hs1_12, if_neg hs1_14, if_neg hs1_16, if_neg hs1_18, if_neg hs1_20, if_neg hs1_22, if_neg hs1_24, if_neg hs1_26, if_neg hs1_28, if_neg hs1_30, if_neg hs1_32, if_neg hs1_34, if_neg hs1_36, if_neg hs1_38, if_neg hs1_40, if_neg hs1_42, if_neg hs1_44, if_neg hs1_46, if_neg hs1_48, if_neg hs1_50, if_neg hs1_52, if_pos hs1_54]
    exact ⟨_, _, pre55 _ (retI X0 hx Bd.returns (hb hby d1_146) hr), hrun, hended, _, _, rfl, ⟨by rw [hF], N0, e0⟩, ⟨_, rfl⟩, hW, hsame.mono (by decide) (by decide)⟩
  by_cases hs1_56 : p0 = (223 : Int32)
  · have pre57 : ∀ t, Steps p.tables e below (s₁.setTop (mkF m 146 #[.val (.int p0)] [(.int (4 : Int32))])) t → Steps p.tables e below (s₁.setTop (entryFrame m #[(.int p0)] 1)) t := fun t k => pre1 t (by
      show Steps p.tables e below (s₁.setTop (mkF m 1 #[.val (.int p0)] [(.int p0)])) _
      refine XS.tswIn X0.here hx rfl (pc0 := 1) (pc' := 136) (o := 135) rfl (hb hby d1_1) rfl (by rw [hs1_56]; decide) (by rw [hs1_56]; rfl) (by decide) (by decide) ?_
      show Steps p.tables e below (s₁.setTop (mkF m 136 #[.val (.int p0)] [])) _
      refine XS.iconst X0.here hx rfl (hb hby d1_136) ?_
      show Steps p.tables e below (s₁.setTop (mkF m 137 #[.val (.int p0)] [(.int (4 : Int32))])) _
      refine XS.goto X0.here hx rfl (pc0 := 137) (pc' := 146) rfl (hb hby d1_137) (by decide) (by decide) ?_
      exact k)
    obtain ⟨fs, hr, hrun, hended, hW, hsame⟩ := X0.leave (v := some (.int (4 : Int32))) (fun h => by rw [Bd.returns] at h; cases h) hlk
    have hF : F1 p0 = (4 : Int32) := by unfold F1; rw [if_neg hs1_2, if_neg hs1_4, if_neg hs1_6, if_neg hs1_8, if_neg hs1_10, if_neg hs1_12, if_neg hs1_14, if_neg hs1_16, if_neg hs1_18, if_neg hs1_20, if_neg hs1_22, if_neg hs1_24, if_neg hs1_26, if_neg hs1_28, if_neg hs1_30, if_neg hs1_32, if_neg hs1_34, if_neg hs1_36, if_neg hs1_38, if_neg hs1_40, if_neg hs1_42, if_neg hs1_44, if_neg hs1_46, if_neg hs1_48, if_neg hs1_50, if_neg hs1_52, if_neg hs1_54, if_pos hs1_56]
    exact ⟨_, _, pre57 _ (retI X0 hx Bd.returns (hb hby d1_146) hr), hrun, hended, _, _, rfl, ⟨by rw [hF], N0, e0⟩, ⟨_, rfl⟩, hW, hsame.mono (by decide) (by decide)⟩
  have pre58 : ∀ t, Steps p.tables e below (s₁.setTop (mkF m 146 #[.val (.int p0)] [(.int (0 : Int32))])) t → Steps p.tables e below (s₁.setTop (entryFrame m #[(.int p0)] 1)) t := fun t k => pre1 t (by
    show Steps p.tables e below (s₁.setTop (mkF m 1 #[.val (.int p0)] [(.int p0)])) _
    refine XS.tswOut X0.here hx rfl (pc0 := 1) (pc' := 145) rfl (hb hby d1_1) rfl (by have g0 := own_swne (n := 196) hs1_2 (by decide); have g1 := own_swne (n := 197) hs1_4 (by decide); have g2 := own_swne (n := 198) hs1_6 (by decide); have g3 := own_swne (n := 199) hs1_8 (by decide); have g4 := own_swne (n := 200) hs1_10 (by decide); have g5 := own_swne (n := 201) hs1_12 (by decide); have g6 := own_swne (n := 202) hs1_14 (by decide); have g7 := own_swne (n := 203) hs1_16 (by decide); have g8 := own_swne (n := 204) hs1_18 (by decide); have g9 := own_swne (n := 205) hs1_20 (by decide); have g10 := own_swne (n := 206) hs1_22 (by decide); have g11 := own_swne (n := 207) hs1_24 (by decide); have g12 := own_swne (n := 208) hs1_26 (by decide); have g13 := own_swne (n := 209) hs1_28 (by decide); have g14 := own_swne (n := 210) hs1_30 (by decide); have g15 := own_swne (n := 211) hs1_32 (by decide); have g16 := own_swne (n := 212) hs1_34 (by decide); have g17 := own_swne (n := 213) hs1_36 (by decide); have g18 := own_swne (n := 214) hs1_38 (by decide); have g19 := own_swne (n := 215) hs1_40 (by decide); have g20 := own_swne (n := 216) hs1_42 (by decide); have g21 := own_swne (n := 217) hs1_44 (by decide); have g22 := own_swne (n := 218) hs1_46 (by decide); have g23 := own_swne (n := 219) hs1_48 (by decide); have g24 := own_swne (n := 220) hs1_50 (by decide); have g25 := own_swne (n := 221) hs1_52 (by decide); have g26 := own_swne (n := 222) hs1_54 (by decide); have g27 := own_swne (n := 223) hs1_56 (by decide); omega) (by decide) (by decide) ?_
    show Steps p.tables e below (s₁.setTop (mkF m 145 #[.val (.int p0)] [])) _
    refine XS.iconst X0.here hx rfl (hb hby d1_145) ?_
    exact k)
  obtain ⟨fs, hr, hrun, hended, hW, hsame⟩ := X0.leave (v := some (.int (0 : Int32))) (fun h => by rw [Bd.returns] at h; cases h) hlk
  have hF : F1 p0 = (0 : Int32) := by unfold F1; rw [if_neg hs1_2, if_neg hs1_4, if_neg hs1_6, if_neg hs1_8, if_neg hs1_10, if_neg hs1_12, if_neg hs1_14, if_neg hs1_16, if_neg hs1_18, if_neg hs1_20, if_neg hs1_22, if_neg hs1_24, if_neg hs1_26, if_neg hs1_28, if_neg hs1_30, if_neg hs1_32, if_neg hs1_34, if_neg hs1_36, if_neg hs1_38, if_neg hs1_40, if_neg hs1_42, if_neg hs1_44, if_neg hs1_46, if_neg hs1_48, if_neg hs1_50, if_neg hs1_52, if_neg hs1_54, if_neg hs1_56]
  exact ⟨_, _, pre58 _ (retI X0 hx Bd.returns (hb hby d1_146) hr), hrun, hended, _, _, rfl, ⟨by rw [hF], N0, e0⟩, ⟨_, rfl⟩, hW, hsame.mono (by decide) (by decide)⟩
def F2 (p0 : Int32) : Int32 := (if p0 < (196 : Int32) then (0 : Int32) else (if (198 : Int32) < p0 then (if (201 : Int32) < p0 then (if p0 = (202 : Int32) then (4 : Int32) else (if p0 = (203 : Int32) then (8 : Int32) else (if p0 < (204 : Int32) then (0 : Int32) else (if (207 : Int32) < p0 then (if (211 : Int32) < p0 then (if p0 < (217 : Int32) then (0 : Int32) else (if (219 : Int32) < p0 then (if (221 : Int32) < p0 then (if (223 : Int32) < p0 then (0 : Int32) else ((2 : Int32) <<< ((p0 - (222 : Int32)) &&& 31))) else ((2 : Int32) <<< ((p0 - (220 : Int32)) &&& 31))) else ((1 : Int32) <<< ((p0 - (217 : Int32)) &&& 31)))) else ((1 : Int32) <<< ((p0 - (208 : Int32)) &&& 31))) else ((1 : Int32) <<< ((p0 - (204 : Int32)) &&& 31)))))) else ((1 : Int32) <<< ((p0 - (199 : Int32)) &&& 31))) else ((1 : Int32) <<< ((p0 - (196 : Int32)) &&& 31))))
theorem ef2 (m : MethodId) (x0 : Int32) : entryFrame m #[(.int x0)] 1 = mkF m 0 #[.val (.int x0)] [] := by first | (simp [entryFrame, mkF, argsToLocals, Value.category]; done) | rfl
def Q2 (Z : State) (p0 : Int32) (h0 : Heap) (n0 : Nat) (v : Option Value) (h : Heap) (L : List Loc) : Prop := v = some (.int (F2 p0)) ∧ Fr n0 L ∧ h = h0
set_option maxRecDepth 65536 in
set_option maxHeartbeats 40000000 in
theorem rm2 (l : Launch) (Z : State) (a0 : Array Value) (hw : ∀ d ∈ tables_1, d.before a0 Z = true) (ws : List Jvm.Cond) (p0 : Int32) (h0 : Heap) (n0 : Nat) (Z0 : n0 ≤ h0.size) :
    MetFree l (⟨"com/example/furoshiki/furoshiki/FormatNumberWidthPinLaw", "expected", "(I)I"⟩ : MethodName) (head1 (Jvm.Cond.code (⟨"com/example/furoshiki/furoshiki/FormatNumberWidthPinLaw", "expected", "(I)I"⟩ : MethodName) method_3_code 1 (some .int) :: ws) ({ frames := 0, cells := 0, slots := 0, locals := 0 } : Room)) (fun a U => a = #[(.int p0)] ∧ Z.Warmed39 U.vm ∧ U.heap = h0) (fun _ _ _ _ _ => True) (fun _ U o U' => ∃ v L, o = .returned v ∧ Q2 Z p0 h0 n0 v U'.heap L ∧ FrameEnd U o U' L ({ frames := 0, cells := 0, slots := 0, locals := 0 } : Room).cells ({ frames := 0, cells := 0, slots := 0, locals := 0 } : Room).slots) := by
  refine MetFree.of_bodySF (plainFor_of_name pn1) hisR ?_
  intro p e s m args below meth c s₁ Bd hml0 hP hK
  obtain ⟨rfl, hZ, hh⟩ := hP
  have hx := Bd.exec
  have hby := Bd.bytes
  have hml : c.maxLocals = 1 := hml0
  have hown : s.vm.findClass "com/example/furoshiki/furoshiki/FormatNumberWidthPinLaw" = some m.cls := findClass_of_methodNamed Bd.named
  have hnm := (name_of_methodNamed Bd.named Bd.method).1
  have X0 : Stand p l e ({ frames := 0, cells := 0, slots := 0, locals := 0 } : Room) s m #[(.int p0)] below meth c s₁ [] 0 0 := Stand.of_body Bd
  have e0 : s₁.heap = h0 := by rw [← hh, Bd.state]; rfl
  have N0 := Fr.nil n0
  have hlk : meth.locks = false := by first | exact BodyLoose.notSynchronized Bd | exact Body.notSynchronized Bd
  have pre0 : ∀ t, Steps p.tables e below (s₁.setTop (mkF m 0 #[.val (.int p0)] [])) t → Steps p.tables e below (s₁.setTop (entryFrame m #[(.int p0)] 1)) t := fun t k => castTop (ef2 m p0) k
  have pre1 : ∀ t, Steps p.tables e below (s₁.setTop (mkF m 4 #[.val (.int p0)] [(.int (196 : Int32)), (.int p0)])) t → Steps p.tables e below (s₁.setTop (entryFrame m #[(.int p0)] 1)) t := fun t k => pre0 t (by
    show Steps p.tables e below (s₁.setTop (mkF m 0 #[.val (.int p0)] [])) _
    refine XS.iloadN X0.here hx rfl (hb hby d2_0) rfl ?_
    show Steps p.tables e below (s₁.setTop (mkF m 1 #[.val (.int p0)] [(.int p0)])) _
    refine XS.sipush X0.here hx rfl (hb hby d2_1) ?_
    exact k)
  by_cases hc4_2 : p0 < (196 : Int32)
  · have pre3 : ∀ t, Steps p.tables e below (s₁.setTop (mkF m 174 #[.val (.int p0)] [(.int (0 : Int32))])) t → Steps p.tables e below (s₁.setTop (entryFrame m #[(.int p0)] 1)) t := fun t k => pre1 t (by
      show Steps p.tables e below (s₁.setTop (mkF m 4 #[.val (.int p0)] [(.int (196 : Int32)), (.int p0)])) _
      refine XS.icmpYes X0.here hx rfl (pc0 := 4) (pc' := 22) rfl (hb hby d2_4) rfl (tlt hc4_2).1 (by decide) (by decide) ?_
      show Steps p.tables e below (s₁.setTop (mkF m 22 #[.val (.int p0)] [])) _
      refine XS.iloadN X0.here hx rfl (hb hby d2_22) rfl ?_
      show Steps p.tables e below (s₁.setTop (mkF m 23 #[.val (.int p0)] [(.int p0)])) _
      refine XS.sipush X0.here hx rfl (hb hby d2_23) ?_
      show Steps p.tables e below (s₁.setTop (mkF m 26 #[.val (.int p0)] [(.int (199 : Int32)), (.int p0)])) _
      refine XS.icmpYes X0.here hx rfl (pc0 := 26) (pc' := 44) rfl (hb hby d2_26) rfl (tlt (own_xlT (own_hi1 hc4_2) (by decide))).1 (by decide) (by decide) ?_
      show Steps p.tables e below (s₁.setTop (mkF m 44 #[.val (.int p0)] [])) _
      refine XS.iloadN X0.here hx rfl (hb hby d2_44) rfl ?_
      show Steps p.tables e below (s₁.setTop (mkF m 45 #[.val (.int p0)] [(.int p0)])) _
      refine XS.sipush X0.here hx rfl (hb hby d2_45) ?_
      show Steps p.tables e below (s₁.setTop (mkF m 48 #[.val (.int p0)] [(.int (202 : Int32)), (.int p0)])) _
      refine XS.icmpYes X0.here hx rfl (pc0 := 48) (pc' := 53) rfl (hb hby d2_48) rfl (feq (own_eqF1 (own_hi1 hc4_2) (by decide))).2 (by decide) (by decide) ?_
      show Steps p.tables e below (s₁.setTop (mkF m 53 #[.val (.int p0)] [])) _
      refine XS.iloadN X0.here hx rfl (hb hby d2_53) rfl ?_
      show Steps p.tables e below (s₁.setTop (mkF m 54 #[.val (.int p0)] [(.int p0)])) _
      refine XS.sipush X0.here hx rfl (hb hby d2_54) ?_
      show Steps p.tables e below (s₁.setTop (mkF m 57 #[.val (.int p0)] [(.int (203 : Int32)), (.int p0)])) _
      refine XS.icmpYes X0.here hx rfl (pc0 := 57) (pc' := 63) rfl (hb hby d2_57) rfl (feq (own_eqF1 (own_hi1 hc4_2) (by decide))).2 (by decide) (by decide) ?_
      show Steps p.tables e below (s₁.setTop (mkF m 63 #[.val (.int p0)] [])) _
      refine XS.iloadN X0.here hx rfl (hb hby d2_63) rfl ?_
      show Steps p.tables e below (s₁.setTop (mkF m 64 #[.val (.int p0)] [(.int p0)])) _
      refine XS.sipush X0.here hx rfl (hb hby d2_64) ?_
      show Steps p.tables e below (s₁.setTop (mkF m 67 #[.val (.int p0)] [(.int (204 : Int32)), (.int p0)])) _
      refine XS.icmpYes X0.here hx rfl (pc0 := 67) (pc' := 85) rfl (hb hby d2_67) rfl (tlt (own_xlT (own_hi1 hc4_2) (by decide))).1 (by decide) (by decide) ?_
      show Steps p.tables e below (s₁.setTop (mkF m 85 #[.val (.int p0)] [])) _
      refine XS.iloadN X0.here hx rfl (hb hby d2_85) rfl ?_
      show Steps p.tables e below (s₁.setTop (mkF m 86 #[.val (.int p0)] [(.int p0)])) _
      refine XS.sipush X0.here hx rfl (hb hby d2_86) ?_
      show Steps p.tables e below (s₁.setTop (mkF m 89 #[.val (.int p0)] [(.int (208 : Int32)), (.int p0)])) _
      refine XS.icmpYes X0.here hx rfl (pc0 := 89) (pc' := 107) rfl (hb hby d2_89) rfl (tlt (own_xlT (own_hi1 hc4_2) (by decide))).1 (by decide) (by decide) ?_
      show Steps p.tables e below (s₁.setTop (mkF m 107 #[.val (.int p0)] [])) _
      refine XS.iloadN X0.here hx rfl (hb hby d2_107) rfl ?_
      show Steps p.tables e below (s₁.setTop (mkF m 108 #[.val (.int p0)] [(.int p0)])) _
      refine XS.sipush X0.here hx rfl (hb hby d2_108) ?_
      show Steps p.tables e below (s₁.setTop (mkF m 111 #[.val (.int p0)] [(.int (217 : Int32)), (.int p0)])) _
      refine XS.icmpYes X0.here hx rfl (pc0 := 111) (pc' := 129) rfl (hb hby d2_111) rfl (tlt (own_xlT (own_hi1 hc4_2) (by decide))).1 (by decide) (by decide) ?_
      show Steps p.tables e below (s₁.setTop (mkF m 129 #[.val (.int p0)] [])) _
      refine XS.iloadN X0.here hx rfl (hb hby d2_129) rfl ?_
      show Steps p.tables e below (s₁.setTop (mkF m 130 #[.val (.int p0)] [(.int p0)])) _
      refine XS.sipush X0.here hx rfl (hb hby d2_130) ?_
      show Steps p.tables e below (s₁.setTop (mkF m 133 #[.val (.int p0)] [(.int (220 : Int32)), (.int p0)])) _
      refine XS.icmpYes X0.here hx rfl (pc0 := 133) (pc' := 151) rfl (hb hby d2_133) rfl (tlt (own_xlT (own_hi1 hc4_2) (by decide))).1 (by decide) (by decide) ?_
      show Steps p.tables e below (s₁.setTop (mkF m 151 #[.val (.int p0)] [])) _
      refine XS.iloadN X0.here hx rfl (hb hby d2_151) rfl ?_
      show Steps p.tables e below (s₁.setTop (mkF m 152 #[.val (.int p0)] [(.int p0)])) _
      refine XS.sipush X0.here hx rfl (hb hby d2_152) ?_
      show Steps p.tables e below (s₁.setTop (mkF m 155 #[.val (.int p0)] [(.int (222 : Int32)), (.int p0)])) _
      refine XS.icmpYes X0.here hx rfl (pc0 := 155) (pc' := 173) rfl (hb hby d2_155) rfl (tlt (own_xlT (own_hi1 hc4_2) (by decide))).1 (by decide) (by decide) ?_
      show Steps p.tables e below (s₁.setTop (mkF m 173 #[.val (.int p0)] [])) _
      refine XS.iconst X0.here hx rfl (hb hby d2_173) ?_
      exact k)
    obtain ⟨fs, hr, hrun, hended, hW, hsame⟩ := X0.leave (v := some (.int (0 : Int32))) (fun h => by rw [Bd.returns] at h; cases h) hlk
    have hF : F2 p0 = (0 : Int32) := by unfold F2; rw [if_pos hc4_2]
    exact ⟨_, _, pre3 _ (retI X0 hx Bd.returns (hb hby d2_174) hr), hrun, hended, _, _, rfl, ⟨by rw [hF], N0, e0⟩, ⟨_, rfl⟩, hW, hsame.mono (by decide) (by decide)⟩
  have pre4 : ∀ t, Steps p.tables e below (s₁.setTop (mkF m 11 #[.val (.int p0)] [(.int (198 : Int32)), (.int p0)])) t → Steps p.tables e below (s₁.setTop (entryFrame m #[(.int p0)] 1)) t := fun t k => pre1 t (by
    show Steps p.tables e below (s₁.setTop (mkF m 4 #[.val (.int p0)] [(.int (196 : Int32)), (.int p0)])) _
    refine XS.icmpNo X0.here hx rfl (hb hby d2_4) rfl (flt hc4_2).1 ?_
    show Steps p.tables e below (s₁.setTop (mkF m 7 #[.val (.int p0)] [])) _
    refine XS.iloadN X0.here hx rfl (hb hby d2_7) rfl ?_
    show Steps p.tables e below (s₁.setTop (mkF m 8 #[.val (.int p0)] [(.int p0)])) _
    refine XS.sipush X0.here hx rfl (hb hby d2_8) ?_
    exact k)
  by_cases hc11_5 : (198 : Int32) < p0
  · have pre6 : ∀ t, Steps p.tables e below (s₁.setTop (mkF m 33 #[.val (.int p0)] [(.int (201 : Int32)), (.int p0)])) t → Steps p.tables e below (s₁.setTop (entryFrame m #[(.int p0)] 1)) t := fun t k => pre4 t (by
      show Steps p.tables e below (s₁.setTop (mkF m 11 #[.val (.int p0)] [(.int (198 : Int32)), (.int p0)])) _
      refine XS.icmpYes X0.here hx rfl (pc0 := 11) (pc' := 22) rfl (hb hby d2_11) rfl (tlt hc11_5).2.2.1 (by decide) (by decide) ?_
      show Steps p.tables e below (s₁.setTop (mkF m 22 #[.val (.int p0)] [])) _
      refine XS.iloadN X0.here hx rfl (hb hby d2_22) rfl ?_
      show Steps p.tables e below (s₁.setTop (mkF m 23 #[.val (.int p0)] [(.int p0)])) _
      refine XS.sipush X0.here hx rfl (hb hby d2_23) ?_
      show Steps p.tables e below (s₁.setTop (mkF m 26 #[.val (.int p0)] [(.int (199 : Int32)), (.int p0)])) _
      refine XS.icmpNo X0.here hx rfl (hb hby d2_26) rfl (flt (own_xlF (own_lo2 hc11_5) (by decide))).1 ?_
      show Steps p.tables e below (s₁.setTop (mkF m 29 #[.val (.int p0)] [])) _
      refine XS.iloadN X0.here hx rfl (hb hby d2_29) rfl ?_
      show Steps p.tables e below (s₁.setTop (mkF m 30 #[.val (.int p0)] [(.int p0)])) _
      refine XS.sipush X0.here hx rfl (hb hby d2_30) ?_
      exact k)
    by_cases hc33_7 : (201 : Int32) < p0
    · have pre8 : ∀ t, Steps p.tables e below (s₁.setTop (mkF m 48 #[.val (.int p0)] [(.int (202 : Int32)), (.int p0)])) t → Steps p.tables e below (s₁.setTop (entryFrame m #[(.int p0)] 1)) t := fun t k => pre6 t (by
        show Steps p.tables e below (s₁.setTop (mkF m 33 #[.val (.int p0)] [(.int (201 : Int32)), (.int p0)])) _
        refine XS.icmpYes X0.here hx rfl (pc0 := 33) (pc' := 44) rfl (hb hby d2_33) rfl (tlt hc33_7).2.2.1 (by decide) (by decide) ?_
        show Steps p.tables e below (s₁.setTop (mkF m 44 #[.val (.int p0)] [])) _
        refine XS.iloadN X0.here hx rfl (hb hby d2_44) rfl ?_
        show Steps p.tables e below (s₁.setTop (mkF m 45 #[.val (.int p0)] [(.int p0)])) _
        refine XS.sipush X0.here hx rfl (hb hby d2_45) ?_
        exact k)
      by_cases hc48_9 : p0 = (202 : Int32)
      · have pre10 : ∀ t, Steps p.tables e below (s₁.setTop (mkF m 52 #[.val (.int p0)] [(.int (4 : Int32))])) t → Steps p.tables e below (s₁.setTop (entryFrame m #[(.int p0)] 1)) t := fun t k => pre8 t (by
          show Steps p.tables e below (s₁.setTop (mkF m 48 #[.val (.int p0)] [(.int (202 : Int32)), (.int p0)])) _
          refine XS.icmpNo X0.here hx rfl (hb hby d2_48) rfl (teq hc48_9).2 ?_
          show Steps p.tables e below (s₁.setTop (mkF m 51 #[.val (.int p0)] [])) _
          refine XS.iconst X0.here hx rfl (hb hby d2_51) ?_
          exact k)
        obtain ⟨fs, hr, hrun, hended, hW, hsame⟩ := X0.leave (v := some (.int (4 : Int32))) (fun h => by rw [Bd.returns] at h; cases h) hlk
        have hF : F2 p0 = (4 : Int32) := by unfold F2; rw [if_neg hc4_2, if_pos hc11_5, if_pos hc33_7, if_pos hc48_9]
        exact ⟨_, _, pre10 _ (retI X0 hx Bd.returns (hb hby d2_52) hr), hrun, hended, _, _, rfl, ⟨by rw [hF], N0, e0⟩, ⟨_, rfl⟩, hW, hsame.mono (by decide) (by decide)⟩
      have pre11 : ∀ t, Steps p.tables e below (s₁.setTop (mkF m 57 #[.val (.int p0)] [(.int (203 : Int32)), (.int p0)])) t → Steps p.tables e below (s₁.setTop (entryFrame m #[(.int p0)] 1)) t := fun t k => pre8 t (by
        show Steps p.tables e below (s₁.setTop (mkF m 48 #[.val (.int p0)] [(.int (202 : Int32)), (.int p0)])) _
        refine XS.icmpYes X0.here hx rfl (pc0 := 48) (pc' := 53) rfl (hb hby d2_48) rfl (feq hc48_9).2 (by decide) (by decide) ?_
        show Steps p.tables e below (s₁.setTop (mkF m 53 #[.val (.int p0)] [])) _
        refine XS.iloadN X0.here hx rfl (hb hby d2_53) rfl ?_
        show Steps p.tables e below (s₁.setTop (mkF m 54 #[.val (.int p0)] [(.int p0)])) _
        refine XS.sipush X0.here hx rfl (hb hby d2_54) ?_
        exact k)
      by_cases hc57_12 : p0 = (203 : Int32)
      · have pre13 : ∀ t, Steps p.tables e below (s₁.setTop (mkF m 62 #[.val (.int p0)] [(.int (8 : Int32))])) t → Steps p.tables e below (s₁.setTop (entryFrame m #[(.int p0)] 1)) t := fun t k => pre11 t (by
          show Steps p.tables e below (s₁.setTop (mkF m 57 #[.val (.int p0)] [(.int (203 : Int32)), (.int p0)])) _
          refine XS.icmpNo X0.here hx rfl (hb hby d2_57) rfl (teq hc57_12).2 ?_
          show Steps p.tables e below (s₁.setTop (mkF m 60 #[.val (.int p0)] [])) _
          refine XS.bipush X0.here hx rfl (hb hby d2_60) ?_
          exact k)
        obtain ⟨fs, hr, hrun, hended, hW, hsame⟩ := X0.leave (v := some (.int (8 : Int32))) (fun h => by rw [Bd.returns] at h; cases h) hlk
        have hF : F2 p0 = (8 : Int32) := by unfold F2; rw [if_neg hc4_2, if_pos hc11_5, if_pos hc33_7, if_neg hc48_9, if_pos hc57_12]
        exact ⟨_, _, pre13 _ (retI X0 hx Bd.returns (hb hby d2_62) hr), hrun, hended, _, _, rfl, ⟨by rw [hF], N0, e0⟩, ⟨_, rfl⟩, hW, hsame.mono (by decide) (by decide)⟩
      have pre14 : ∀ t, Steps p.tables e below (s₁.setTop (mkF m 67 #[.val (.int p0)] [(.int (204 : Int32)), (.int p0)])) t → Steps p.tables e below (s₁.setTop (entryFrame m #[(.int p0)] 1)) t := fun t k => pre11 t (by
        show Steps p.tables e below (s₁.setTop (mkF m 57 #[.val (.int p0)] [(.int (203 : Int32)), (.int p0)])) _
        refine XS.icmpYes X0.here hx rfl (pc0 := 57) (pc' := 63) rfl (hb hby d2_57) rfl (feq hc57_12).2 (by decide) (by decide) ?_
        show Steps p.tables e below (s₁.setTop (mkF m 63 #[.val (.int p0)] [])) _
        refine XS.iloadN X0.here hx rfl (hb hby d2_63) rfl ?_
        show Steps p.tables e below (s₁.setTop (mkF m 64 #[.val (.int p0)] [(.int p0)])) _
        refine XS.sipush X0.here hx rfl (hb hby d2_64) ?_
        exact k)
      by_cases hc67_15 : p0 < (204 : Int32)
      · have pre16 : ∀ t, Steps p.tables e below (s₁.setTop (mkF m 174 #[.val (.int p0)] [(.int (0 : Int32))])) t → Steps p.tables e below (s₁.setTop (entryFrame m #[(.int p0)] 1)) t := fun t k => pre14 t (by
          show Steps p.tables e below (s₁.setTop (mkF m 67 #[.val (.int p0)] [(.int (204 : Int32)), (.int p0)])) _
          refine XS.icmpYes X0.here hx rfl (pc0 := 67) (pc' := 85) rfl (hb hby d2_67) rfl (tlt hc67_15).1 (by decide) (by decide) ?_
          show Steps p.tables e below (s₁.setTop (mkF m 85 #[.val (.int p0)] [])) _
          refine XS.iloadN X0.here hx rfl (hb hby d2_85) rfl ?_
          show Steps p.tables e below (s₁.setTop (mkF m 86 #[.val (.int p0)] [(.int p0)])) _
          refine XS.sipush X0.here hx rfl (hb hby d2_86) ?_
          show Steps p.tables e below (s₁.setTop (mkF m 89 #[.val (.int p0)] [(.int (208 : Int32)), (.int p0)])) _
          refine XS.icmpYes X0.here hx rfl (pc0 := 89) (pc' := 107) rfl (hb hby d2_89) rfl (tlt (own_xlT (own_hi1 hc67_15) (by decide))).1 (by decide) (by decide) ?_
          show Steps p.tables e below (s₁.setTop (mkF m 107 #[.val (.int p0)] [])) _
          refine XS.iloadN X0.here hx rfl (hb hby d2_107) rfl ?_
          show Steps p.tables e below (s₁.setTop (mkF m 108 #[.val (.int p0)] [(.int p0)])) _
          refine XS.sipush X0.here hx rfl (hb hby d2_108) ?_
          show Steps p.tables e below (s₁.setTop (mkF m 111 #[.val (.int p0)] [(.int (217 : Int32)), (.int p0)])) _
          refine XS.icmpYes X0.here hx rfl (pc0 := 111) (pc' := 129) rfl (hb hby d2_111) rfl (tlt (own_xlT (own_hi1 hc67_15) (by decide))).1 (by decide) (by decide) ?_
          show Steps p.tables e below (s₁.setTop (mkF m 129 #[.val (.int p0)] [])) _
          refine XS.iloadN X0.here hx rfl (hb hby d2_129) rfl ?_
          show Steps p.tables e below (s₁.setTop (mkF m 130 #[.val (.int p0)] [(.int p0)])) _
          refine XS.sipush X0.here hx rfl (hb hby d2_130) ?_
          show Steps p.tables e below (s₁.setTop (mkF m 133 #[.val (.int p0)] [(.int (220 : Int32)), (.int p0)])) _
          refine XS.icmpYes X0.here hx rfl (pc0 := 133) (pc' := 151) rfl (hb hby d2_133) rfl (tlt (own_xlT (own_hi1 hc67_15) (by decide))).1 (by decide) (by decide) ?_
          show Steps p.tables e below (s₁.setTop (mkF m 151 #[.val (.int p0)] [])) _
          refine XS.iloadN X0.here hx rfl (hb hby d2_151) rfl ?_
          show Steps p.tables e below (s₁.setTop (mkF m 152 #[.val (.int p0)] [(.int p0)])) _
          refine XS.sipush X0.here hx rfl (hb hby d2_152) ?_
          show Steps p.tables e below (s₁.setTop (mkF m 155 #[.val (.int p0)] [(.int (222 : Int32)), (.int p0)])) _
          refine XS.icmpYes X0.here hx rfl (pc0 := 155) (pc' := 173) rfl (hb hby d2_155) rfl (tlt (own_xlT (own_hi1 hc67_15) (by decide))).1 (by decide) (by decide) ?_
          show Steps p.tables e below (s₁.setTop (mkF m 173 #[.val (.int p0)] [])) _
          refine XS.iconst X0.here hx rfl (hb hby d2_173) ?_
          exact k)
        obtain ⟨fs, hr, hrun, hended, hW, hsame⟩ := X0.leave (v := some (.int (0 : Int32))) (fun h => by rw [Bd.returns] at h; cases h) hlk
        have hF : F2 p0 = (0 : Int32) := by unfold F2; rw [if_neg hc4_2, if_pos hc11_5, if_pos hc33_7, if_neg hc48_9, if_neg hc57_12, if_pos hc67_15]
        exact ⟨_, _, pre16 _ (retI X0 hx Bd.returns (hb hby d2_174) hr), hrun, hended, _, _, rfl, ⟨by rw [hF], N0, e0⟩, ⟨_, rfl⟩, hW, hsame.mono (by decide) (by decide)⟩
      have pre17 : ∀ t, Steps p.tables e below (s₁.setTop (mkF m 74 #[.val (.int p0)] [(.int (207 : Int32)), (.int p0)])) t → Steps p.tables e below (s₁.setTop (entryFrame m #[(.int p0)] 1)) t := fun t k => pre14 t (by
        show Steps p.tables e below (s₁.setTop (mkF m 67 #[.val (.int p0)] [(.int (204 : Int32)), (.int p0)])) _
        refine XS.icmpNo X0.here hx rfl (hb hby d2_67) rfl (flt hc67_15).1 ?_
        show Steps p.tables e below (s₁.setTop (mkF m 70 #[.val (.int p0)] [])) _
        refine XS.iloadN X0.here hx rfl (hb hby d2_70) rfl ?_
        show Steps p.tables e below (s₁.setTop (mkF m 71 #[.val (.int p0)] [(.int p0)])) _
        refine XS.sipush X0.here hx rfl (hb hby d2_71) ?_
        exact k)
      by_cases hc74_18 : (207 : Int32) < p0
      · have pre19 : ∀ t, Steps p.tables e below (s₁.setTop (mkF m 96 #[.val (.int p0)] [(.int (211 : Int32)), (.int p0)])) t → Steps p.tables e below (s₁.setTop (entryFrame m #[(.int p0)] 1)) t := fun t k => pre17 t (by
          show Steps p.tables e below (s₁.setTop (mkF m 74 #[.val (.int p0)] [(.int (207 : Int32)), (.int p0)])) _
          refine XS.icmpYes X0.here hx rfl (pc0 := 74) (pc' := 85) rfl (hb hby d2_74) rfl (tlt hc74_18).2.2.1 (by decide) (by decide) ?_
          show Steps p.tables e below (s₁.setTop (mkF m 85 #[.val (.int p0)] [])) _
          refine XS.iloadN X0.here hx rfl (hb hby d2_85) rfl ?_
          show Steps p.tables e below (s₁.setTop (mkF m 86 #[.val (.int p0)] [(.int p0)])) _
          refine XS.sipush X0.here hx rfl (hb hby d2_86) ?_
          show Steps p.tables e below (s₁.setTop (mkF m 89 #[.val (.int p0)] [(.int (208 : Int32)), (.int p0)])) _
          refine XS.icmpNo X0.here hx rfl (hb hby d2_89) rfl (flt (own_xlF (own_lo2 hc74_18) (by decide))).1 ?_
          show Steps p.tables e below (s₁.setTop (mkF m 92 #[.val (.int p0)] [])) _
          refine XS.iloadN X0.here hx rfl (hb hby d2_92) rfl ?_
          show Steps p.tables e below (s₁.setTop (mkF m 93 #[.val (.int p0)] [(.int p0)])) _
          refine XS.sipush X0.here hx rfl (hb hby d2_93) ?_
          exact k)
        by_cases hc96_20 : (211 : Int32) < p0
        · have pre21 : ∀ t, Steps p.tables e below (s₁.setTop (mkF m 111 #[.val (.int p0)] [(.int (217 : Int32)), (.int p0)])) t → Steps p.tables e below (s₁.setTop (entryFrame m #[(.int p0)] 1)) t := fun t k => pre19 t (by
            show Steps p.tables e below (s₁.setTop (mkF m 96 #[.val (.int p0)] [(.int (211 : Int32)), (.int p0)])) _
            refine XS.icmpYes X0.here hx rfl (pc0 := 96) (pc' := 107) rfl (hb hby d2_96) rfl (tlt hc96_20).2.2.1 (by decide) (by decide) ?_
            show Steps p.tables e below (s₁.setTop (mkF m 107 #[.val (.int p0)] [])) _
            refine XS.iloadN X0.here hx rfl (hb hby d2_107) rfl ?_
            show Steps p.tables e below (s₁.setTop (mkF m 108 #[.val (.int p0)] [(.int p0)])) _
            refine XS.sipush X0.here hx rfl (hb hby d2_108) ?_
            exact k)
          by_cases hc111_22 : p0 < (217 : Int32)
          · have pre23 : ∀ t, Steps p.tables e below (s₁.setTop (mkF m 174 #[.val (.int p0)] [(.int (0 : Int32))])) t → Steps p.tables e below (s₁.setTop (entryFrame m #[(.int p0)] 1)) t := fun t k => pre21 t (by
              show Steps p.tables e below (s₁.setTop (mkF m 111 #[.val (.int p0)] [(.int (217 : Int32)), (.int p0)])) _
              refine XS.icmpYes X0.here hx rfl (pc0 := 111) (pc' := 129) rfl (hb hby d2_111) rfl (tlt hc111_22).1 (by decide) (by decide) ?_
              show Steps p.tables e below (s₁.setTop (mkF m 129 #[.val (.int p0)] [])) _
              refine XS.iloadN X0.here hx rfl (hb hby d2_129) rfl ?_
              show Steps p.tables e below (s₁.setTop (mkF m 130 #[.val (.int p0)] [(.int p0)])) _
              refine XS.sipush X0.here hx rfl (hb hby d2_130) ?_
              show Steps p.tables e below (s₁.setTop (mkF m 133 #[.val (.int p0)] [(.int (220 : Int32)), (.int p0)])) _
              refine XS.icmpYes X0.here hx rfl (pc0 := 133) (pc' := 151) rfl (hb hby d2_133) rfl (tlt (own_xlT (own_hi1 hc111_22) (by decide))).1 (by decide) (by decide) ?_
              show Steps p.tables e below (s₁.setTop (mkF m 151 #[.val (.int p0)] [])) _
              refine XS.iloadN X0.here hx rfl (hb hby d2_151) rfl ?_
              show Steps p.tables e below (s₁.setTop (mkF m 152 #[.val (.int p0)] [(.int p0)])) _
              refine XS.sipush X0.here hx rfl (hb hby d2_152) ?_
              show Steps p.tables e below (s₁.setTop (mkF m 155 #[.val (.int p0)] [(.int (222 : Int32)), (.int p0)])) _
              refine XS.icmpYes X0.here hx rfl (pc0 := 155) (pc' := 173) rfl (hb hby d2_155) rfl (tlt (own_xlT (own_hi1 hc111_22) (by decide))).1 (by decide) (by decide) ?_
              show Steps p.tables e below (s₁.setTop (mkF m 173 #[.val (.int p0)] [])) _
              refine XS.iconst X0.here hx rfl (hb hby d2_173) ?_
              exact k)
            obtain ⟨fs, hr, hrun, hended, hW, hsame⟩ := X0.leave (v := some (.int (0 : Int32))) (fun h => by rw [Bd.returns] at h; cases h) hlk
            have hF : F2 p0 = (0 : Int32) := by unfold F2; rw [if_neg hc4_2, if_pos hc11_5, if_pos hc33_7, if_neg hc48_9, if_neg hc57_12, if_neg hc67_15, if_pos hc74_18, if_pos hc96_20, if_pos hc111_22]
            exact ⟨_, _, pre23 _ (retI X0 hx Bd.returns (hb hby d2_174) hr), hrun, hended, _, _, rfl, ⟨by rw [hF], N0, e0⟩, ⟨_, rfl⟩, hW, hsame.mono (by decide) (by decide)⟩
          have pre24 : ∀ t, Steps p.tables e below (s₁.setTop (mkF m 118 #[.val (.int p0)] [(.int (219 : Int32)), (.int p0)])) t → Steps p.tables e below (s₁.setTop (entryFrame m #[(.int p0)] 1)) t := fun t k => pre21 t (by
            show Steps p.tables e below (s₁.setTop (mkF m 111 #[.val (.int p0)] [(.int (217 : Int32)), (.int p0)])) _
            refine XS.icmpNo X0.here hx rfl (hb hby d2_111) rfl (flt hc111_22).1 ?_
            show Steps p.tables e below (s₁.setTop (mkF m 114 #[.val (.int p0)] [])) _
            refine XS.iloadN X0.here hx rfl (hb hby d2_114) rfl ?_
            show Steps p.tables e below (s₁.setTop (mkF m 115 #[.val (.int p0)] [(.int p0)])) _
            refine XS.sipush X0.here hx rfl (hb hby d2_115) ?_
            exact k)
          by_cases hc118_25 : (219 : Int32) < p0
          · have pre26 : ∀ t, Steps p.tables e below (s₁.setTop (mkF m 140 #[.val (.int p0)] [(.int (221 : Int32)), (.int p0)])) t → Steps p.tables e below (s₁.setTop (entryFrame m #[(.int p0)] 1)) t := fun t k => pre24 t (by
              show Steps p.tables e below (s₁.setTop (mkF m 118 #[.val (.int p0)] [(.int (219 : Int32)), (.int p0)])) _
              refine XS.icmpYes X0.here hx rfl (pc0 := 118) (pc' := 129) rfl (hb hby d2_118) rfl (tlt hc118_25).2.2.1 (by decide) (by decide) ?_
              show Steps p.tables e below (s₁.setTop (mkF m 129 #[.val (.int p0)] [])) _
              refine XS.iloadN X0.here hx rfl (hb hby d2_129) rfl ?_
              show Steps p.tables e below (s₁.setTop (mkF m 130 #[.val (.int p0)] [(.int p0)])) _
              refine XS.sipush X0.here hx rfl (hb hby d2_130) ?_
              show Steps p.tables e below (s₁.setTop (mkF m 133 #[.val (.int p0)] [(.int (220 : Int32)), (.int p0)])) _
              refine XS.icmpNo X0.here hx rfl (hb hby d2_133) rfl (flt (own_xlF (own_lo2 hc118_25) (by decide))).1 ?_
              show Steps p.tables e below (s₁.setTop (mkF m 136 #[.val (.int p0)] [])) _
              refine XS.iloadN X0.here hx rfl (hb hby d2_136) rfl ?_
              show Steps p.tables e below (s₁.setTop (mkF m 137 #[.val (.int p0)] [(.int p0)])) _
              refine XS.sipush X0.here hx rfl (hb hby d2_137) ?_
              exact k)
            by_cases hc140_27 : (221 : Int32) < p0
            · have pre28 : ∀ t, Steps p.tables e below (s₁.setTop (mkF m 162 #[.val (.int p0)] [(.int (223 : Int32)), (.int p0)])) t → Steps p.tables e below (s₁.setTop (entryFrame m #[(.int p0)] 1)) t := fun t k => pre26 t (by
                show Steps p.tables e below (s₁.setTop (mkF m 140 #[.val (.int p0)] [(.int (221 : Int32)), (.int p0)])) _
                refine XS.icmpYes X0.here hx rfl (pc0 := 140) (pc' := 151) rfl (hb hby d2_140) rfl (tlt hc140_27).2.2.1 (by decide) (by decide) ?_
                show Steps p.tables e below (s₁.setTop (mkF m 151 #[.val (.int p0)] [])) _
                refine XS.iloadN X0.here hx rfl (hb hby d2_151) rfl ?_
                show Steps p.tables e below (s₁.setTop (mkF m 152 #[.val (.int p0)] [(.int p0)])) _
                refine XS.sipush X0.here hx rfl (hb hby d2_152) ?_
                show Steps p.tables e below (s₁.setTop (mkF m 155 #[.val (.int p0)] [(.int (222 : Int32)), (.int p0)])) _
                refine XS.icmpNo X0.here hx rfl (hb hby d2_155) rfl (flt (own_xlF (own_lo2 hc140_27) (by decide))).1 ?_
                show Steps p.tables e below (s₁.setTop (mkF m 158 #[.val (.int p0)] [])) _
                refine XS.iloadN X0.here hx rfl (hb hby d2_158) rfl ?_
                show Steps p.tables e below (s₁.setTop (mkF m 159 #[.val (.int p0)] [(.int p0)])) _
                refine XS.sipush X0.here hx rfl (hb hby d2_159) ?_
                exact k)
              by_cases hc162_29 : (223 : Int32) < p0
              · have pre30 : ∀ t, Steps p.tables e below (s₁.setTop (mkF m 174 #[.val (.int p0)] [(.int (0 : Int32))])) t → Steps p.tables e below (s₁.setTop (entryFrame m #[(.int p0)] 1)) t := fun t k => pre28 t (by
                  show Steps p.tables e below (s₁.setTop (mkF m 162 #[.val (.int p0)] [(.int (223 : Int32)), (.int p0)])) _
                  refine XS.icmpYes X0.here hx rfl (pc0 := 162) (pc' := 173) rfl (hb hby d2_162) rfl (tlt hc162_29).2.2.1 (by decide) (by decide) ?_
                  show Steps p.tables e below (s₁.setTop (mkF m 173 #[.val (.int p0)] [])) _
                  refine XS.iconst X0.here hx rfl (hb hby d2_173) ?_
                  exact k)
                obtain ⟨fs, hr, hrun, hended, hW, hsame⟩ := X0.leave (v := some (.int (0 : Int32))) (fun h => by rw [Bd.returns] at h; cases h) hlk
                have hF : F2 p0 = (0 : Int32) := by unfold F2; rw [if_neg hc4_2, if_pos hc11_5, if_pos hc33_7, if_neg hc48_9, if_neg hc57_12, if_neg hc67_15, if_pos hc74_18, if_pos hc96_20, if_neg hc111_22, if_pos hc118_25, if_pos hc140_27, if_pos hc162_29]
                exact ⟨_, _, pre30 _ (retI X0 hx Bd.returns (hb hby d2_174) hr), hrun, hended, _, _, rfl, ⟨by rw [hF], N0, e0⟩, ⟨_, rfl⟩, hW, hsame.mono (by decide) (by decide)⟩
              have pre31 : ∀ t, Steps p.tables e below (s₁.setTop (mkF m 172 #[.val (.int p0)] [(.int ((2 : Int32) <<< ((p0 - (222 : Int32)) &&& 31)))])) t → Steps p.tables e below (s₁.setTop (entryFrame m #[(.int p0)] 1)) t := fun t k => pre28 t (by
                show Steps p.tables e below (s₁.setTop (mkF m 162 #[.val (.int p0)] [(.int (223 : Int32)), (.int p0)])) _
                refine XS.icmpNo X0.here hx rfl (hb hby d2_162) rfl (flt hc162_29).2.2.1 ?_
                show Steps p.tables e below (s₁.setTop (mkF m 165 #[.val (.int p0)] [])) _
                refine XS.iconst X0.here hx rfl (hb hby d2_165) ?_
                show Steps p.tables e below (s₁.setTop (mkF m 166 #[.val (.int p0)] [(.int (2 : Int32))])) _
                refine XS.iloadN X0.here hx rfl (hb hby d2_166) rfl ?_
                show Steps p.tables e below (s₁.setTop (mkF m 167 #[.val (.int p0)] [(.int p0), (.int (2 : Int32))])) _
                refine XS.sipush X0.here hx rfl (hb hby d2_167) ?_
                show Steps p.tables e below (s₁.setTop (mkF m 170 #[.val (.int p0)] [(.int (222 : Int32)), (.int p0), (.int (2 : Int32))])) _
                refine XS.isub X0.here hx rfl (hb hby d2_170) rfl ?_
                show Steps p.tables e below (s₁.setTop (mkF m 171 #[.val (.int p0)] [(.int (p0 - (222 : Int32))), (.int (2 : Int32))])) _
                refine XS.ishl X0.here hx rfl (hb hby d2_171) rfl ?_
                exact k)
              obtain ⟨fs, hr, hrun, hended, hW, hsame⟩ := X0.leave (v := some (.int ((2 : Int32) <<< ((p0 - (222 : Int32)) &&& 31)))) (fun h => by rw [Bd.returns] at h; cases h) hlk
              have hF : F2 p0 = ((2 : Int32) <<< ((p0 - (222 : Int32)) &&& 31)) := by unfold F2; rw [if_neg hc4_2, if_pos hc11_5, if_pos hc33_7, if_neg hc48_9, if_neg hc57_12, if_neg hc67_15, if_pos hc74_18, if_pos hc96_20, if_neg hc111_22, if_pos hc118_25, if_pos hc140_27, if_neg hc162_29]
              exact ⟨_, _, pre31 _ (retI X0 hx Bd.returns (hb hby d2_172) hr), hrun, hended, _, _, rfl, ⟨by rw [hF], N0, e0⟩, ⟨_, rfl⟩, hW, hsame.mono (by decide) (by decide)⟩
            have pre32 : ∀ t, Steps p.tables e below (s₁.setTop (mkF m 150 #[.val (.int p0)] [(.int ((2 : Int32) <<< ((p0 - (220 : Int32)) &&& 31)))])) t → Steps p.tables e below (s₁.setTop (entryFrame m #[(.int p0)] 1)) t := fun t k => pre26 t (by
              show Steps p.tables e below (s₁.setTop (mkF m 140 #[.val (.int p0)] [(.int (221 : Int32)), (.int p0)])) _
              refine XS.icmpNo X0.here hx rfl (hb hby d2_140) rfl (flt hc140_27).2.2.1 ?_
              show Steps p.tables e below (s₁.setTop (mkF m 143 #[.val (.int p0)] [])) _
              refine XS.iconst X0.here hx rfl (hb hby d2_143) ?_
              show Steps p.tables e below (s₁.setTop (mkF m 144 #[.val (.int p0)] [(.int (2 : Int32))])) _
              refine XS.iloadN X0.here hx rfl (hb hby d2_144) rfl ?_
              show Steps p.tables e below (s₁.setTop (mkF m 145 #[.val (.int p0)] [(.int p0), (.int (2 : Int32))])) _
              refine XS.sipush X0.here hx rfl (hb hby d2_145) ?_
              show Steps p.tables e below (s₁.setTop (mkF m 148 #[.val (.int p0)] [(.int (220 : Int32)), (.int p0), (.int (2 : Int32))])) _
              refine XS.isub X0.here hx rfl (hb hby d2_148) rfl ?_
              show Steps p.tables e below (s₁.setTop (mkF m 149 #[.val (.int p0)] [(.int (p0 - (220 : Int32))), (.int (2 : Int32))])) _
              refine XS.ishl X0.here hx rfl (hb hby d2_149) rfl ?_
              exact k)
            obtain ⟨fs, hr, hrun, hended, hW, hsame⟩ := X0.leave (v := some (.int ((2 : Int32) <<< ((p0 - (220 : Int32)) &&& 31)))) (fun h => by rw [Bd.returns] at h; cases h) hlk
            have hF : F2 p0 = ((2 : Int32) <<< ((p0 - (220 : Int32)) &&& 31)) := by unfold F2; rw [if_neg hc4_2, if_pos hc11_5, if_pos hc33_7, if_neg hc48_9, if_neg hc57_12, if_neg hc67_15, if_pos hc74_18, if_pos hc96_20, if_neg hc111_22, if_pos hc118_25, if_neg hc140_27]
            exact ⟨_, _, pre32 _ (retI X0 hx Bd.returns (hb hby d2_150) hr), hrun, hended, _, _, rfl, ⟨by rw [hF], N0, e0⟩, ⟨_, rfl⟩, hW, hsame.mono (by decide) (by decide)⟩
          have pre33 : ∀ t, Steps p.tables e below (s₁.setTop (mkF m 128 #[.val (.int p0)] [(.int ((1 : Int32) <<< ((p0 - (217 : Int32)) &&& 31)))])) t → Steps p.tables e below (s₁.setTop (entryFrame m #[(.int p0)] 1)) t := fun t k => pre24 t (by
            show Steps p.tables e below (s₁.setTop (mkF m 118 #[.val (.int p0)] [(.int (219 : Int32)), (.int p0)])) _
            refine XS.icmpNo X0.here hx rfl (hb hby d2_118) rfl (flt hc118_25).2.2.1 ?_
            show Steps p.tables e below (s₁.setTop (mkF m 121 #[.val (.int p0)] [])) _
            refine XS.iconst X0.here hx rfl (hb hby d2_121) ?_
            show Steps p.tables e below (s₁.setTop (mkF m 122 #[.val (.int p0)] [(.int (1 : Int32))])) _
            refine XS.iloadN X0.here hx rfl (hb hby d2_122) rfl ?_
            show Steps p.tables e below (s₁.setTop (mkF m 123 #[.val (.int p0)] [(.int p0), (.int (1 : Int32))])) _
            refine XS.sipush X0.here hx rfl (hb hby d2_123) ?_
            show Steps p.tables e below (s₁.setTop (mkF m 126 #[.val (.int p0)] [(.int (217 : Int32)), (.int p0), (.int (1 : Int32))])) _
            refine XS.isub X0.here hx rfl (hb hby d2_126) rfl ?_
            show Steps p.tables e below (s₁.setTop (mkF m 127 #[.val (.int p0)] [(.int (p0 - (217 : Int32))), (.int (1 : Int32))])) _
            refine XS.ishl X0.here hx rfl (hb hby d2_127) rfl ?_
            exact k)
          obtain ⟨fs, hr, hrun, hended, hW, hsame⟩ := X0.leave (v := some (.int ((1 : Int32) <<< ((p0 - (217 : Int32)) &&& 31)))) (fun h => by rw [Bd.returns] at h; cases h) hlk
          have hF : F2 p0 = ((1 : Int32) <<< ((p0 - (217 : Int32)) &&& 31)) := by unfold F2; rw [if_neg hc4_2, if_pos hc11_5, if_pos hc33_7, if_neg hc48_9, if_neg hc57_12, if_neg hc67_15, if_pos hc74_18, if_pos hc96_20, if_neg hc111_22, if_neg hc118_25]
          exact ⟨_, _, pre33 _ (retI X0 hx Bd.returns (hb hby d2_128) hr), hrun, hended, _, _, rfl, ⟨by rw [hF], N0, e0⟩, ⟨_, rfl⟩, hW, hsame.mono (by decide) (by decide)⟩
        have pre34 : ∀ t, Steps p.tables e below (s₁.setTop (mkF m 106 #[.val (.int p0)] [(.int ((1 : Int32) <<< ((p0 - (208 : Int32)) &&& 31)))])) t → Steps p.tables e below (s₁.setTop (entryFrame m #[(.int p0)] 1)) t := fun t k => pre19 t (by
          show Steps p.tables e below (s₁.setTop (mkF m 96 #[.val (.int p0)] [(.int (211 : Int32)), (.int p0)])) _
          refine XS.icmpNo X0.here hx rfl (hb hby d2_96) rfl (flt hc96_20).2.2.1 ?_
          show Steps p.tables e below (s₁.setTop (mkF m 99 #[.val (.int p0)] [])) _
          refine XS.iconst X0.here hx rfl (hb hby d2_99) ?_
          show Steps p.tables e below (s₁.setTop (mkF m 100 #[.val (.int p0)] [(.int (1 : Int32))])) _
          refine XS.iloadN X0.here hx rfl (hb hby d2_100) rfl ?_
          show Steps p.tables e below (s₁.setTop (mkF m 101 #[.val (.int p0)] [(.int p0), (.int (1 : Int32))])) _
          refine XS.sipush X0.here hx rfl (hb hby d2_101) ?_
          show Steps p.tables e below (s₁.setTop (mkF m 104 #[.val (.int p0)] [(.int (208 : Int32)), (.int p0), (.int (1 : Int32))])) _
          refine XS.isub X0.here hx rfl (hb hby d2_104) rfl ?_
          show Steps p.tables e below (s₁.setTop (mkF m 105 #[.val (.int p0)] [(.int (p0 - (208 : Int32))), (.int (1 : Int32))])) _
          refine XS.ishl X0.here hx rfl (hb hby d2_105) rfl ?_
          exact k)
        obtain ⟨fs, hr, hrun, hended, hW, hsame⟩ := X0.leave (v := some (.int ((1 : Int32) <<< ((p0 - (208 : Int32)) &&& 31)))) (fun h => by rw [Bd.returns] at h; cases h) hlk
        have hF : F2 p0 = ((1 : Int32) <<< ((p0 - (208 : Int32)) &&& 31)) := by unfold F2; rw [if_neg hc4_2, if_pos hc11_5, if_pos hc33_7, if_neg hc48_9, if_neg hc57_12, if_neg hc67_15, if_pos hc74_18, if_neg hc96_20]
        exact ⟨_, _, pre34 _ (retI X0 hx Bd.returns (hb hby d2_106) hr), hrun, hended, _, _, rfl, ⟨by rw [hF], N0, e0⟩, ⟨_, rfl⟩, hW, hsame.mono (by decide) (by decide)⟩
      have pre35 : ∀ t, Steps p.tables e below (s₁.setTop (mkF m 84 #[.val (.int p0)] [(.int ((1 : Int32) <<< ((p0 - (204 : Int32)) &&& 31)))])) t → Steps p.tables e below (s₁.setTop (entryFrame m #[(.int p0)] 1)) t := fun t k => pre17 t (by
        show Steps p.tables e below (s₁.setTop (mkF m 74 #[.val (.int p0)] [(.int (207 : Int32)), (.int p0)])) _
        refine XS.icmpNo X0.here hx rfl (hb hby d2_74) rfl (flt hc74_18).2.2.1 ?_
        show Steps p.tables e below (s₁.setTop (mkF m 77 #[.val (.int p0)] [])) _
        refine XS.iconst X0.here hx rfl (hb hby d2_77) ?_
        show Steps p.tables e below (s₁.setTop (mkF m 78 #[.val (.int p0)] [(.int (1 : Int32))])) _
        refine XS.iloadN X0.here hx rfl (hb hby d2_78) rfl ?_
        show Steps p.tables e below (s₁.setTop (mkF m 79 #[.val (.int p0)] [(.int p0), (.int (1 : Int32))])) _
        refine XS.sipush X0.here hx rfl (hb hby d2_79) ?_
        show Steps p.tables e below (s₁.setTop (mkF m 82 #[.val (.int p0)] [(.int (204 : Int32)), (.int p0), (.int (1 : Int32))])) _
        refine XS.isub X0.here hx rfl (hb hby d2_82) rfl ?_
        show Steps p.tables e below (s₁.setTop (mkF m 83 #[.val (.int p0)] [(.int (p0 - (204 : Int32))), (.int (1 : Int32))])) _
        refine XS.ishl X0.here hx rfl (hb hby d2_83) rfl ?_
        exact k)
      obtain ⟨fs, hr, hrun, hended, hW, hsame⟩ := X0.leave (v := some (.int ((1 : Int32) <<< ((p0 - (204 : Int32)) &&& 31)))) (fun h => by rw [Bd.returns] at h; cases h) hlk
      have hF : F2 p0 = ((1 : Int32) <<< ((p0 - (204 : Int32)) &&& 31)) := by unfold F2; rw [if_neg hc4_2, if_pos hc11_5, if_pos hc33_7, if_neg hc48_9, if_neg hc57_12, if_neg hc67_15, if_neg hc74_18]
      exact ⟨_, _, pre35 _ (retI X0 hx Bd.returns (hb hby d2_84) hr), hrun, hended, _, _, rfl, ⟨by rw [hF], N0, e0⟩, ⟨_, rfl⟩, hW, hsame.mono (by decide) (by decide)⟩
    have pre36 : ∀ t, Steps p.tables e below (s₁.setTop (mkF m 43 #[.val (.int p0)] [(.int ((1 : Int32) <<< ((p0 - (199 : Int32)) &&& 31)))])) t → Steps p.tables e below (s₁.setTop (entryFrame m #[(.int p0)] 1)) t := fun t k => pre6 t (by
      show Steps p.tables e below (s₁.setTop (mkF m 33 #[.val (.int p0)] [(.int (201 : Int32)), (.int p0)])) _
      refine XS.icmpNo X0.here hx rfl (hb hby d2_33) rfl (flt hc33_7).2.2.1 ?_
      show Steps p.tables e below (s₁.setTop (mkF m 36 #[.val (.int p0)] [])) _
      refine XS.iconst X0.here hx rfl (hb hby d2_36) ?_
      show Steps p.tables e below (s₁.setTop (mkF m 37 #[.val (.int p0)] [(.int (1 : Int32))])) _
      refine XS.iloadN X0.here hx rfl (hb hby d2_37) rfl ?_
      show Steps p.tables e below (s₁.setTop (mkF m 38 #[.val (.int p0)] [(.int p0), (.int (1 : Int32))])) _
      refine XS.sipush X0.here hx rfl (hb hby d2_38) ?_
      show Steps p.tables e below (s₁.setTop (mkF m 41 #[.val (.int p0)] [(.int (199 : Int32)), (.int p0), (.int (1 : Int32))])) _
      refine XS.isub X0.here hx rfl (hb hby d2_41) rfl ?_
      show Steps p.tables e below (s₁.setTop (mkF m 42 #[.val (.int p0)] [(.int (p0 - (199 : Int32))), (.int (1 : Int32))])) _
      refine XS.ishl X0.here hx rfl (hb hby d2_42) rfl ?_
      exact k)
    obtain ⟨fs, hr, hrun, hended, hW, hsame⟩ := X0.leave (v := some (.int ((1 : Int32) <<< ((p0 - (199 : Int32)) &&& 31)))) (fun h => by rw [Bd.returns] at h; cases h) hlk
    have hF : F2 p0 = ((1 : Int32) <<< ((p0 - (199 : Int32)) &&& 31)) := by unfold F2; rw [if_neg hc4_2, if_pos hc11_5, if_neg hc33_7]
    exact ⟨_, _, pre36 _ (retI X0 hx Bd.returns (hb hby d2_43) hr), hrun, hended, _, _, rfl, ⟨by rw [hF], N0, e0⟩, ⟨_, rfl⟩, hW, hsame.mono (by decide) (by decide)⟩
  have pre37 : ∀ t, Steps p.tables e below (s₁.setTop (mkF m 21 #[.val (.int p0)] [(.int ((1 : Int32) <<< ((p0 - (196 : Int32)) &&& 31)))])) t → Steps p.tables e below (s₁.setTop (entryFrame m #[(.int p0)] 1)) t := fun t k => pre4 t (by
    show Steps p.tables e below (s₁.setTop (mkF m 11 #[.val (.int p0)] [(.int (198 : Int32)), (.int p0)])) _
    refine XS.icmpNo X0.here hx rfl (hb hby d2_11) rfl (flt hc11_5).2.2.1 ?_
    show Steps p.tables e below (s₁.setTop (mkF m 14 #[.val (.int p0)] [])) _
    refine XS.iconst X0.here hx rfl (hb hby d2_14) ?_
    show Steps p.tables e below (s₁.setTop (mkF m 15 #[.val (.int p0)] [(.int (1 : Int32))])) _
    refine XS.iloadN X0.here hx rfl (hb hby d2_15) rfl ?_
    show Steps p.tables e below (s₁.setTop (mkF m 16 #[.val (.int p0)] [(.int p0), (.int (1 : Int32))])) _
    refine XS.sipush X0.here hx rfl (hb hby d2_16) ?_
    show Steps p.tables e below (s₁.setTop (mkF m 19 #[.val (.int p0)] [(.int (196 : Int32)), (.int p0), (.int (1 : Int32))])) _
    refine XS.isub X0.here hx rfl (hb hby d2_19) rfl ?_
    show Steps p.tables e below (s₁.setTop (mkF m 20 #[.val (.int p0)] [(.int (p0 - (196 : Int32))), (.int (1 : Int32))])) _
    refine XS.ishl X0.here hx rfl (hb hby d2_20) rfl ?_
    exact k)
  obtain ⟨fs, hr, hrun, hended, hW, hsame⟩ := X0.leave (v := some (.int ((1 : Int32) <<< ((p0 - (196 : Int32)) &&& 31)))) (fun h => by rw [Bd.returns] at h; cases h) hlk
  have hF : F2 p0 = ((1 : Int32) <<< ((p0 - (196 : Int32)) &&& 31)) := by unfold F2; rw [if_neg hc4_2, if_neg hc11_5]
  exact ⟨_, _, pre37 _ (retI X0 hx Bd.returns (hb hby d2_21) hr), hrun, hended, _, _, rfl, ⟨by rw [hF], N0, e0⟩, ⟨_, rfl⟩, hW, hsame.mono (by decide) (by decide)⟩
def f0_m5 (p0 : Int32) (p1 : Int32) : Int32 := (if (p1 &&& (1 : Int32)) = (0 : Int32) then (p0 &&& (255 : Int32)) else p0)
def F0 (p0 : Int32) (p1 : Int32) : Int32 := (if (F1 (f0_m5 p0 p1)) = (F2 (f0_m5 p0 p1)) then (1 : Int32) else (0 : Int32))
theorem ef0 (m : MethodId) (x0 : Int32) (x1 : Int32) : entryFrame m #[(.int x0), (.int x1)] maxLocals = mkF m 0 #[.val (.int x0), .val (.int x1), .unset] [] := by first | (simp [entryFrame, mkF, argsToLocals, Value.category, maxLocals]; done) | rfl
def Q0 (Z : State) (p0 : Int32) (p1 : Int32) (h0 : Heap) (n0 : Nat) (v : Option Value) (h : Heap) (L : List Loc) : Prop := v = some (.int (F0 p0 p1)) ∧ Fr n0 L ∧ h = h0
set_option maxRecDepth 65536 in
set_option maxHeartbeats 40000000 in
theorem rm0 (l : Launch) (Z : State) (a0 : Array Value) (hw : ∀ d ∈ tables_1, d.before a0 Z = true) (ws : List Jvm.Cond) (p0 : Int32) (p1 : Int32) (h0 : Heap) (n0 : Nat) (Z0 : n0 ≤ h0.size) :
    MetFree l x (head1 (Jvm.Cond.code x code maxLocals ret :: ws) room_1) (fun a U => a = #[(.int p0), (.int p1)] ∧ Z.Warmed39 U.vm ∧ U.heap = h0) (fun _ _ _ _ _ => True) (fun _ U o U' => ∃ v L, o = .returned v ∧ Q0 Z p0 p1 h0 n0 v U'.heap L ∧ FrameEnd U o U' L room_1.cells room_1.slots) := by
  refine MetFree.of_bodySF (plainFor_of_name pn1) hisR ?_
  intro p e s m args below meth c s₁ Bd hml0 hP hK
  obtain ⟨rfl, hZ, hh⟩ := hP
  have hx := Bd.exec
  have hby := Bd.bytes
  have hml : c.maxLocals = 3 := hml0
  have hown : s.vm.findClass "com/example/furoshiki/furoshiki/FormatNumberWidthPinLaw" = some m.cls := findClass_of_methodNamed Bd.named
  have hnm := (name_of_methodNamed Bd.named Bd.method).1
  have X0 : Stand p l e room_1 s m #[(.int p0), (.int p1)] below meth c s₁ [] 0 0 := Stand.of_body Bd
  have e0 : s₁.heap = h0 := by rw [← hh, Bd.state]; rfl
  have N0 := Fr.nil n0
  have hlk : meth.locks = false := by first | exact BodyLoose.notSynchronized Bd | exact Body.notSynchronized Bd
  have pre0 : ∀ t, Steps p.tables e below (s₁.setTop (mkF m 0 #[.val (.int p0), .val (.int p1), .unset] [])) t → Steps p.tables e below (s₁.setTop (entryFrame m #[(.int p0), (.int p1)] maxLocals)) t := fun t k => castTop (ef0 m p0 p1) k
  have pre1 : ∀ t, Steps p.tables e below (s₁.setTop (mkF m 3 #[.val (.int p0), .val (.int p1), .unset] [(.int (p1 &&& (1 : Int32)))])) t → Steps p.tables e below (s₁.setTop (entryFrame m #[(.int p0), (.int p1)] maxLocals)) t := fun t k => pre0 t (by
    show Steps p.tables e below (s₁.setTop (mkF m 0 #[.val (.int p0), .val (.int p1), .unset] [])) _
    refine XS.iloadN X0.here hx rfl (hb hby at_0) rfl ?_
    show Steps p.tables e below (s₁.setTop (mkF m 1 #[.val (.int p0), .val (.int p1), .unset] [(.int p1)])) _
    refine XS.iconst X0.here hx rfl (hb hby at_1) ?_
    show Steps p.tables e below (s₁.setTop (mkF m 2 #[.val (.int p0), .val (.int p1), .unset] [(.int (1 : Int32)), (.int p1)])) _
    refine XS.iand X0.here hx rfl (hb hby at_2) rfl ?_
    exact k)
  obtain ⟨T2, L2, X2, e2, N2, pre2⟩ : ∃ (T' : State) (locs' : List Loc), Stand p l e room_1 s m #[(.int p0), (.int p1)] below meth c T' locs' 0 0 ∧ T'.heap = h0 ∧ Fr n0 locs' ∧ ∀ t, Steps p.tables e below (T'.setTop (mkF m 15 #[.val (.int p0), .val (.int p1), .unset] [(.int (f0_m5 p0 p1))])) t → Steps p.tables e below (s₁.setTop (entryFrame m #[(.int p0), (.int p1)] maxLocals)) t := by
    by_cases hc3_2 : (p1 &&& (1 : Int32)) = (0 : Int32)
    · have pre3 : ∀ t, Steps p.tables e below (s₁.setTop (mkF m 15 #[.val (.int p0), .val (.int p1), .unset] [(.int (p0 &&& (255 : Int32)))])) t → Steps p.tables e below (s₁.setTop (entryFrame m #[(.int p0), (.int p1)] maxLocals)) t := fun t k => pre1 t (by
        show Steps p.tables e below (s₁.setTop (mkF m 3 #[.val (.int p0), .val (.int p1), .unset] [(.int (p1 &&& (1 : Int32)))])) _
        refine XS.ifYes X0.here hx rfl (pc0 := 3) (pc' := 10) rfl (hb hby at_3) rfl ((if0 _ _).trans (teq hc3_2).1) (by decide) (by decide) ?_
        show Steps p.tables e below (s₁.setTop (mkF m 10 #[.val (.int p0), .val (.int p1), .unset] [])) _
        refine XS.iloadN X0.here hx rfl (hb hby at_10) rfl ?_
        show Steps p.tables e below (s₁.setTop (mkF m 11 #[.val (.int p0), .val (.int p1), .unset] [(.int p0)])) _
        refine XS.sipush X0.here hx rfl (hb hby at_11) ?_
        show Steps p.tables e below (s₁.setTop (mkF m 14 #[.val (.int p0), .val (.int p1), .unset] [(.int (255 : Int32)), (.int p0)])) _
        refine XS.iand X0.here hx rfl (hb hby at_14) rfl ?_
        exact k)
      have q_f0_m5 : f0_m5 p0 p1 = (p0 &&& (255 : Int32)) := by unfold f0_m5; rw [if_pos hc3_2]
      rw [q_f0_m5]
      exact ⟨s₁, _, X0, e0, N0, pre3⟩
    have pre4 : ∀ t, Steps p.tables e below (s₁.setTop (mkF m 15 #[.val (.int p0), .val (.int p1), .unset] [(.int p0)])) t → Steps p.tables e below (s₁.setTop (entryFrame m #[(.int p0), (.int p1)] maxLocals)) t := fun t k => pre1 t (by
      show Steps p.tables e below (s₁.setTop (mkF m 3 #[.val (.int p0), .val (.int p1), .unset] [(.int (p1 &&& (1 : Int32)))])) _
      refine XS.ifNo X0.here hx rfl (hb hby at_3) rfl ((if0 _ _).trans (feq hc3_2).1) ?_
      show Steps p.tables e below (s₁.setTop (mkF m 6 #[.val (.int p0), .val (.int p1), .unset] [])) _
      refine XS.iloadN X0.here hx rfl (hb hby at_6) rfl ?_
      show Steps p.tables e below (s₁.setTop (mkF m 7 #[.val (.int p0), .val (.int p1), .unset] [(.int p0)])) _
      refine XS.goto X0.here hx rfl (pc0 := 7) (pc' := 15) rfl (hb hby at_7) (by decide) (by decide) ?_
      exact k)
    have q_f0_m5 : f0_m5 p0 p1 = p0 := by unfold f0_m5; rw [if_neg hc3_2]
    rw [q_f0_m5]
    exact ⟨s₁, _, X0, e0, N0, pre4⟩
  obtain ⟨_, _, ⟨T6, L6, k6, n6⟩, -, X6, ⟨Lc6, hQ6, l6, y6, z6⟩, st6⟩ := Jvm.LawKit.callS X2 hx (y := (⟨"com/example/furoshiki/furoshiki/Format", "numberWidth", "(I)I"⟩ : MethodName)) hown (mvT hZ (hw _ (List.mem_of_getElem? (i := 0) rfl))) (mvT hZ (hw _ (List.mem_of_getElem? (i := 1) rfl))) (mvT hZ (hw _ (List.mem_of_getElem? (i := 2) rfl))) (mvT hZ (hw _ (List.mem_of_getElem? (i := 3) rfl))) (by decide) (backOf (W := 0) (rm1 l Z a0 hw [] (f0_m5 p0 p1) h0 n0 Z0) hZ (hw _ (List.mem_of_getElem? (i := 3) rfl)) (hw _ (List.mem_of_getElem? (i := 2) rfl)) (by decide) (by decide)) (g := (mkF m 17 #[.val (.int p0), .val (.int p1), .val (.int (f0_m5 p0 p1))] [(.int (f0_m5 p0 p1))])) rfl (by rw [hml]; rfl) (argsL := [(.int (f0_m5 p0 p1))]) (rest := []) (lenOf pd0 rfl) rfl (by show 2 * 0 + _ ≤ _; exact Nat.le_of_eq rfl) (hb hby at_17) (fun _ _ => ⟨rfl, e2, (by decide : 0 + 0 ≤ _), (by decide : 0 + 0 ≤ _)⟩)
  dsimp only [Pt.U, Pt.locs, Pt.cells, Pt.slots] at X6 l6 y6 z6 st6 hQ6
  subst l6 y6 z6
  obtain ⟨rfl, N6q, e6⟩ := hQ6
  have N6 := Fr.app N2 N6q
  obtain ⟨_, _, ⟨T7, L7, k7, n7⟩, -, X7, ⟨Lc7, hQ7, l7, y7, z7⟩, st7⟩ := Jvm.LawKit.callS X6 hx (y := (⟨"com/example/furoshiki/furoshiki/FormatNumberWidthPinLaw", "expected", "(I)I"⟩ : MethodName)) hown (mvT hZ (hw _ (List.mem_of_getElem? (i := 4) rfl))) (mvT hZ (hw _ (List.mem_of_getElem? (i := 5) rfl))) (mvT hZ (hw _ (List.mem_of_getElem? (i := 6) rfl))) (mvT hZ (hw _ (List.mem_of_getElem? (i := 7) rfl))) (by decide) (backOf (W := 1) (rm2 l Z a0 hw [] (f0_m5 p0 p1) h0 n0 Z0) hZ (hw _ (List.mem_of_getElem? (i := 7) rfl)) (hw _ (List.mem_of_getElem? (i := 6) rfl)) (by decide) (by decide)) (g := (mkF m 21 #[.val (.int p0), .val (.int p1), .val (.int (f0_m5 p0 p1))] [(.int (f0_m5 p0 p1)), (.int (F1 (f0_m5 p0 p1)))])) rfl (by rw [hml]; rfl) (argsL := [(.int (f0_m5 p0 p1))]) (rest := [(.int (F1 (f0_m5 p0 p1)))]) (lenOf pd0 rfl) rfl (by show 2 * 0 + _ ≤ _; exact Nat.le_of_eq rfl) (hb hby at_21) (fun _ _ => ⟨rfl, e6, (by decide : 0 + 0 ≤ _), (by decide : 0 + 0 ≤ _)⟩)
  dsimp only [Pt.U, Pt.locs, Pt.cells, Pt.slots] at X7 l7 y7 z7 st7 hQ7
  subst l7 y7 z7
  obtain ⟨rfl, N7q, e7⟩ := hQ7
  have N7 := Fr.app N6 N7q
  have pre8 : ∀ t, Steps p.tables e below (T7.setTop (mkF m 24 #[.val (.int p0), .val (.int p1), .val (.int (f0_m5 p0 p1))] [(.int (F2 (f0_m5 p0 p1))), (.int (F1 (f0_m5 p0 p1)))])) t → Steps p.tables e below (s₁.setTop (entryFrame m #[(.int p0), (.int p1)] maxLocals)) t := fun t k => pre2 t (by
    show Steps p.tables e below (T2.setTop (mkF m 15 #[.val (.int p0), .val (.int p1), .unset] [(.int (f0_m5 p0 p1))])) _
    refine XS.istoreN X2.here hx rfl (hb hby at_15) rfl (l' := #[.val (.int p0), .val (.int p1), .val (.int (f0_m5 p0 p1))]) rfl ?_
    show Steps p.tables e below (T2.setTop (mkF m 16 #[.val (.int p0), .val (.int p1), .val (.int (f0_m5 p0 p1))] [])) _
    refine XS.iloadN X2.here hx rfl (hb hby at_16) rfl ?_
    show Steps p.tables e below (T2.setTop (mkF m 17 #[.val (.int p0), .val (.int p1), .val (.int (f0_m5 p0 p1))] [(.int (f0_m5 p0 p1))])) _
    refine st6 _ ?_
    show Steps p.tables e below (T6.setTop (mkF m 20 #[.val (.int p0), .val (.int p1), .val (.int (f0_m5 p0 p1))] [(.int (F1 (f0_m5 p0 p1)))])) _
    refine XS.iloadN X6.here hx rfl (hb hby at_20) rfl ?_
    show Steps p.tables e below (T6.setTop (mkF m 21 #[.val (.int p0), .val (.int p1), .val (.int (f0_m5 p0 p1))] [(.int (f0_m5 p0 p1)), (.int (F1 (f0_m5 p0 p1)))])) _
    refine st7 _ ?_
    exact k)
  by_cases hc24_9 : (F1 (f0_m5 p0 p1)) = (F2 (f0_m5 p0 p1))
  · have pre10 : ∀ t, Steps p.tables e below (T7.setTop (mkF m 32 #[.val (.int p0), .val (.int p1), .val (.int (f0_m5 p0 p1))] [(.int (1 : Int32))])) t → Steps p.tables e below (s₁.setTop (entryFrame m #[(.int p0), (.int p1)] maxLocals)) t := fun t k => pre8 t (by
      show Steps p.tables e below (T7.setTop (mkF m 24 #[.val (.int p0), .val (.int p1), .val (.int (f0_m5 p0 p1))] [(.int (F2 (f0_m5 p0 p1))), (.int (F1 (f0_m5 p0 p1)))])) _
      refine XS.icmpNo X7.here hx rfl (hb hby at_24) rfl (teq hc24_9).2 ?_
      show Steps p.tables e below (T7.setTop (mkF m 27 #[.val (.int p0), .val (.int p1), .val (.int (f0_m5 p0 p1))] [])) _
      refine XS.iconst X7.here hx rfl (hb hby at_27) ?_
      show Steps p.tables e below (T7.setTop (mkF m 28 #[.val (.int p0), .val (.int p1), .val (.int (f0_m5 p0 p1))] [(.int (1 : Int32))])) _
      refine XS.goto X7.here hx rfl (pc0 := 28) (pc' := 32) rfl (hb hby at_28) (by decide) (by decide) ?_
      exact k)
    obtain ⟨fs, hr, hrun, hended, hW, hsame⟩ := X7.leave (v := some (.int (1 : Int32))) (fun h => by rw [Bd.returns] at h; cases h) hlk
    have hF : F0 p0 p1 = (1 : Int32) := by unfold F0; rw [if_pos hc24_9]
    exact ⟨_, _, pre10 _ (retN X7 hx (t := .boolean) Bd.returns (by simp) (hb hby at_32) hr), hrun, hended, _, _, rfl, ⟨by rw [hF], N7, e7⟩, ⟨_, rfl⟩, hW, hsame.mono (by decide) (by decide)⟩
  have pre11 : ∀ t, Steps p.tables e below (T7.setTop (mkF m 32 #[.val (.int p0), .val (.int p1), .val (.int (f0_m5 p0 p1))] [(.int (0 : Int32))])) t → Steps p.tables e below (s₁.setTop (entryFrame m #[(.int p0), (.int p1)] maxLocals)) t := fun t k => pre8 t (by
    show Steps p.tables e below (T7.setTop (mkF m 24 #[.val (.int p0), .val (.int p1), .val (.int (f0_m5 p0 p1))] [(.int (F2 (f0_m5 p0 p1))), (.int (F1 (f0_m5 p0 p1)))])) _
    refine XS.icmpYes X7.here hx rfl (pc0 := 24) (pc' := 31) rfl (hb hby at_24) rfl (feq hc24_9).2 (by decide) (by decide) ?_
    show Steps p.tables e below (T7.setTop (mkF m 31 #[.val (.int p0), .val (.int p1), .val (.int (f0_m5 p0 p1))] [])) _
    refine XS.iconst X7.here hx rfl (hb hby at_31) ?_
    exact k)
  obtain ⟨fs, hr, hrun, hended, hW, hsame⟩ := X7.leave (v := some (.int (0 : Int32))) (fun h => by rw [Bd.returns] at h; cases h) hlk
  have hF : F0 p0 p1 = (0 : Int32) := by unfold F0; rw [if_neg hc24_9]
  exact ⟨_, _, pre11 _ (retN X7 hx (t := .boolean) Bd.returns (by simp) (hb hby at_32) hr), hrun, hended, _, _, rfl, ⟨by rw [hF], N7, e7⟩, ⟨_, rfl⟩, hW, hsame.mono (by decide) (by decide)⟩
theorem own_lit (x : Int32) (n : Nat) (h0 : 0 ≤ x.toInt) (h : x.toInt < n) (hn : n ≤ 2147483647) : ∃ k : Fin n, x = Int32.ofNat k.1 := by
  obtain ⟨k, hk⟩ : ∃ k : Nat, x.toInt = k := ⟨x.toInt.toNat, by omega⟩
  refine ⟨⟨k, by omega⟩, ?_⟩
  apply Int32.toInt_inj.mp
  rw [Int32.toInt_ofNat_of_lt (show k < 2 ^ 31 by omega), hk]
set_option maxRecDepth 65536 in
theorem own_fin : ∀ k : Fin 224, F1 (Int32.ofNat k.1) = F2 (Int32.ofNat k.1) := by decide +kernel
theorem own_eqL (x : Int32) (h : x.toInt < 0) : F1 x = F2 x := by
  have q : ∀ y : Int32, 0 ≤ y.toInt → ¬ x = y := fun y hy e => by rw [e] at h; omega
  have q1 : x < 196 := by rw [Int32.lt_iff_toInt_lt]; exact Int.lt_trans h (by decide)
  unfold F1 F2
  rw [if_pos q1]
  repeat rw [if_neg (q _ (by decide))]
theorem own_eqG (x : Int32) (h : 224 ≤ x.toInt) : F1 x = F2 x := by
  have q : ∀ y : Int32, y.toInt < 224 → ¬ x = y := fun y hy e => by rw [e] at h; omega
  have g : ∀ y : Int32, y.toInt < 224 → y < x := fun y hy => by rw [Int32.lt_iff_toInt_lt]; omega
  have g' : ∀ y : Int32, y.toInt < 224 → ¬ x < y := fun y hy => by rw [Int32.lt_iff_toInt_lt]; omega
  unfold F1 F2
  simp only [if_neg (q 196 (by decide)), if_neg (q 197 (by decide)), if_neg (q 198 (by decide)), if_neg (q 199 (by decide)), if_neg (q 200 (by decide)), if_neg (q 201 (by decide)), if_neg (q 202 (by decide)), if_neg (q 203 (by decide)), if_neg (q 204 (by decide)), if_neg (q 205 (by decide)), if_neg (q 206 (by decide)), if_neg (q 207 (by decide)), if_neg (q 208 (by decide)), if_neg (q 209 (by decide)), if_neg (q 210 (by decide)), if_neg (q 211 (by decide)), if_neg (q 212 (by decide)), if_neg (q 213 (by decide)), if_neg (q 214 (by decide)), if_neg (q 215 (by decide)), if_neg (q 216 (by decide)), if_neg (q 217 (by decide)), if_neg (q 218 (by decide)), if_neg (q 219 (by decide)), if_neg (q 220 (by decide)), if_neg (q 221 (by decide)), if_neg (q 222 (by decide)), if_neg (q 223 (by decide)),
    if_neg (g' 196 (by decide)), if_neg (g' 204 (by decide)), if_neg (g' 217 (by decide)), if_pos (g 198 (by decide)), if_pos (g 201 (by decide)), if_pos (g 207 (by decide)), if_pos (g 211 (by decide)), if_pos (g 219 (by decide)), if_pos (g 221 (by decide)), if_pos (g 223 (by decide))]
theorem own_eq (x : Int32) : F1 x = F2 x := by
  by_cases h0 : x.toInt < 0
  · exact own_eqL x h0
  · by_cases h1 : x.toInt < 224
    · obtain ⟨k, rfl⟩ := own_lit x 224 (by omega) h1 (by omega)
      exact own_fin k
    · exact own_eqG x (by omega)
theorem own_law (p0 p1 : Int32) : F0 p0 p1 = 1 := by
  unfold F0
  rw [if_pos (own_eq _)]
set_option maxRecDepth 65536 in
set_option maxHeartbeats 40000000 in
theorem comes_1 {Post : Tables → Env → Array Value → State → Outcome → State → Prop} (hpost : ∀ tb e args s v u, (limb_1_1.after args s (.returned v) u = true ∧ limb_1_2.after args s (.returned v) u = true ∧ True) → FrameEnd s (.returned v) u (Jvm.fieldLocs frame_1_writes args s ++ Jvm.arrayLocs frame_1_arrays args s ++ Jvm.staticLocs frame_1_statics s) 0 0 → Post tb e args s (.returned v) u) :
    ArmFor flags0 classFile x code maxLocals ret World_1 tables_1 room_1 Calls_1 rest_1 Pre_1 Post := by
  intro l hfl _ _ p e ha hc hk s m args below hf hA hF happ hP
  obtain ⟨hcalls, hrest, hpre⟩ := hP
  obtain ⟨-, -, -, hnamed, -, -, -, hat⟩ := (Spec.applies_iff hf).mp happ
  obtain ⟨hg, hn⟩ := and_e (Cond.before_iff.mp (show (Jvm.Cond.and given_1 narrow_1).before args s = true from hpre))
  obtain ⟨hcount, g0⟩ := and_e hg
  obtain ⟨ga0, g1⟩ := and_e g0
  obtain ⟨w0, w1, rfl⟩ : ∃ w0 w1 : Value, args = #[w0, w1] := by
    have hs : args.size = 2 := by simpa [Cond.value, given_1] using hcount
    obtain ⟨L⟩ := args
    match L, hs with
    | [w0, w1], _ => exact ⟨w0, w1, rfl⟩
  have hw := fun d (hd : d ∈ tables_1) => atoms_spec (ws := Jvm.Cond.code x code maxLocals ret :: tables_1) hat d (List.mem_cons_of_mem _ hd)
  obtain ⟨i0, ei0⟩ := is_v ga0
  obtain rfl : w0 = (.int i0) := Option.some.inj ei0
  obtain ⟨i1, ei1⟩ := is_v g1
  obtain rfl : w1 = (.int i1) := Option.some.inj ei1
  obtain ⟨n, o, h1, h2, h3, _, L, rfl, ⟨rfl, N, -⟩, hq⟩ := rm0 l s _ hw tables_1 i0 i1 s.heap s.heap.size (Nat.le_refl _) p e ha hc hk s m _ below hf ((Spec.applies_iff_loose hf).mp happ).1 ⟨rfl, State.Warmed39.refl s, rfl⟩ trivial
  have hlaw := own_law i0 i1
  refine ⟨n, _, h1, h2, h3, hpost _ _ _ _ _ _ ⟨Cond.after_iff.mpr rfl, Cond.after_iff.mpr (eq_i res_at (Term.int_eval (1)) (congrArg Value.int hlaw)), trivial⟩ ⟨hq.1, hq.2.1, (hq.2.2.sift fun y hy => Or.inr (N y hy)).mono (by decide) (by decide)⟩⟩
theorem main_1_1 : Claimed_1_1 := comes_1 fun _ _ _ _ _ _ h hF => ⟨h.1, hF⟩
theorem main_1_2 : Claimed_1_2 := comes_1 fun _ _ _ _ _ _ h hF => ⟨h.2.1, hF⟩
end Jvm.Pilot.@@N@@
namespace Jvm.Pilot.@@N@@
open Jvm Jvm.ClassFile Sem Op Lib Jvm.Free Jvm.Stand Jvm.Pilot.@@N@@.Jvm.D
/-! MADE BY PROGRAM (witnessworld.py) out of the Statement's table words and the real class files: 9 classes; the members and pool entries that the words name. The judged class is class 1, her method 1. -/
namespace start1
open Jvm.ClassFile
def u (s : String) : CpInfo := .utf8 (stringToUtf16 s)
/-- a pool by its gaps: so many unusable entries, then the entry; so many at the end -/
def gap : Nat → List CpInfo → List CpInfo
  | 0, r => r
  | n + 1, r => .unusable :: gap n r
def poolList (es : List (Nat × CpInfo)) (last : Nat) : List CpInfo := es.foldr (fun e r => gap e.1 (e.2 :: r)) (gap last [])
def pool (es : List (Nat × CpInfo)) (last : Nat) : Array CpInfo := ⟨poolList es last⟩
def fileOf (pool : Array CpInfo) (this : Nat) (attrs : Array Attribute := #[]) (ms : Array MethodInfo := #[]) (fl : Nat := 33) (sup : Nat := 0) (ifs : Array Nat := #[]) (fds : Array FieldInfo := #[]) : ClassFile where
  minorVersion := 0
  majorVersion := 65
  constantPool := pool
  accessFlags := fl
  thisClass := this
  superClass := sup
  interfaces := ifs
  fields := fds
  methods := ms
  attributes := attrs
def plain (name : String) (sup : Option ClassId) : Class where
  name := name
  kind := .ordinary
  loader := none
  accessFlags := 33
  super := sup
  interfaces := #[]
  cf := none
  fields := #[]
  methods := #[]
  instanceTypes := #[]
  staticTypes := #[]
  resolved := #[]
  callSites := []
  init := .initialized
  statics := none
  mirror := none

def pool0 : Array CpInfo := pool [(5, u "<init>"), (0, u "()V"), (1, .class_ 10), (1, u "java/lang/Object")] 113

def k0m0 : Method := { name := "<init>", desc := "()V", sig := { parameters := [], returnType := none }, accessFlags := 1, code := none }
/-- java/lang/Object -/
def k0 : Class := { plain "java/lang/Object" none with
  accessFlags := 33
  interfaces := #[]
  cf := some (fileOf pool0 8 #[] #[{ accessFlags := 1, nameIndex := 5, descriptorIndex := 6, attributes := #[] }] 33 0 #[] #[])
  fields := #[]
  methods := #[k0m0]
  instanceTypes := #[]
  staticTypes := #[]
  resolved := Array.replicate 124 none
  statics := none }

def pool1 : Array CpInfo := pool [(2, .class_ 4), (1, u "java/lang/Object"), (0, u "<init>"), (0, u "()V"), (0, .methodref 8 9), (0, .class_ 10), (0, .nameAndType 11 12), (0, u "com/example/furoshiki/furoshiki/Format"), (0, u "numberWidth"), (0, u "(I)I"), (0, .methodref 14 15), (0, .class_ 16), (0, .nameAndType 17 12), (0, u "com/example/furoshiki/furoshiki/FormatNumberWidthPinLaw"), (0, u "expected"), (2, u "law"), (0, u "(II)Z")] 3

def k1m0 : Method := { name := "<init>", desc := "()V", sig := { parameters := [], returnType := none }, accessFlags := 2, code := none }
def k1c1 : Code := { maxStack := 2, maxLocals := 3, code := code, exceptionTable := #[], attributes := #[] }
def k1m1 : Method := { name := "law", desc := "(II)Z", sig := { parameters := [.int, .int], returnType := some .boolean }, accessFlags := 9, code := some k1c1 }
def k1c2 : Code := { maxStack := 3, maxLocals := 1, code := method_3_code, exceptionTable := #[], attributes := #[] }
def k1m2 : Method := { name := "expected", desc := "(I)I", sig := { parameters := [.int], returnType := some .int }, accessFlags := 10, code := some k1c2 }
/-- com/example/furoshiki/furoshiki/FormatNumberWidthPinLaw -/
def k1 : Class := { plain "com/example/furoshiki/furoshiki/FormatNumberWidthPinLaw" (some 0) with
  accessFlags := 49
  interfaces := #[]
  cf := some (fileOf pool1 14 #[] #[{ accessFlags := 2, nameIndex := 5, descriptorIndex := 6, attributes := #[] }, { accessFlags := 9, nameIndex := 20, descriptorIndex := 21, attributes := #[] }, { accessFlags := 10, nameIndex := 17, descriptorIndex := 12, attributes := #[] }] 49 2 #[] #[])
  fields := #[]
  methods := #[k1m0, k1m1, k1m2]
  instanceTypes := #[]
  staticTypes := #[]
  resolved := Array.replicate 25 none
  statics := none }

def pool2 : Array CpInfo := pool [(2, .class_ 4), (1, u "java/lang/Object"), (0, u "<init>"), (0, u "()V"), (1, .class_ 10), (1, u "com/example/furoshiki/furoshiki/Format"), (0, u "TYPES"), (0, u "[Lcom/example/furoshiki/furoshiki/ValueType;"), (11, u "(I)I"), (5, u "EXT_FORMATS"), (0, u "Lcom/example/furoshiki/furoshiki/Format$SizedFormats;"), (1, .class_ 35), (1, u "com/example/furoshiki/furoshiki/Format$SizedFormats"), (6, u "BIN_FORMATS"), (2, u "STR_FORMATS"), (2, u "ARRAY_FORMATS"), (2, u "MAP_FORMATS"), (21, u "NIL"), (12, u "FIXINT_MIN"), (0, u "I"), (2, u "FIXINT_MAX"), (1, u "FIXMAP"), (1, u "FIXARRAY"), (1, u "FIXSTR"), (1, u "FIXMAP_MAX_SIZE"), (1, u "FIXARRAY_MAX_SIZE"), (0, u "FIXSTR_MAX_LENGTH"), (2, u "FALSE"), (1, u "TRUE"), (1, u "BIN8"), (1, u "BIN16"), (1, u "BIN32"), (1, u "EXT8"), (1, u "EXT16"), (1, u "EXT32"), (1, u "FLOAT32"), (1, u "FLOAT64"), (1, u "UINT8"), (1, u "UINT16"), (1, u "UINT32"), (1, u "UINT64"), (1, u "INT8"), (1, u "INT16"), (1, u "INT32"), (1, u "INT64"), (1, u "FIXEXT1"), (1, u "FIXEXT_MAX_LENGTH"), (1, u "STR8"), (1, u "STR16"), (1, u "STR32"), (1, u "ARRAY16"), (1, u "ARRAY32"), (1, u "MAP16"), (1, u "MAP32"), (1, u "TIMESTAMP32_LENGTH"), (1, u "TIMESTAMP64_LENGTH"), (1, u "TIMESTAMP96_LENGTH"), (1, u "TIMESTAMP64_SECONDS_BITS"), (1, u "NONE"), (5, u "numberWidth")] 9

def k2m0 : Method := { name := "<init>", desc := "()V", sig := { parameters := [], returnType := none }, accessFlags := 2, code := none }
def k2c1 : Code := { maxStack := 1, maxLocals := 1, code := prog_6_method_4_code, exceptionTable := #[], attributes := #[] }
def k2m1 : Method := { name := "numberWidth", desc := "(I)I", sig := { parameters := [.int], returnType := some .int }, accessFlags := 8, code := some k2c1 }
/-- com/example/furoshiki/furoshiki/Format -/
def k2 : Class := { plain "com/example/furoshiki/furoshiki/Format" (some 0) with
  accessFlags := 48
  interfaces := #[]
  cf := some (fileOf pool2 8 #[.nestMembers #[33]] #[{ accessFlags := 2, nameIndex := 5, descriptorIndex := 6, attributes := #[] }, { accessFlags := 8, nameIndex := 172, descriptorIndex := 24, attributes := #[] }] 48 2 #[] #[{ accessFlags := 24, nameIndex := 86, descriptorIndex := 87, attributes := #[] }, { accessFlags := 24, nameIndex := 90, descriptorIndex := 87, attributes := #[] }, { accessFlags := 24, nameIndex := 92, descriptorIndex := 87, attributes := #[] }, { accessFlags := 24, nameIndex := 94, descriptorIndex := 87, attributes := #[] }, { accessFlags := 24, nameIndex := 96, descriptorIndex := 87, attributes := #[] }, { accessFlags := 24, nameIndex := 98, descriptorIndex := 87, attributes := #[] }, { accessFlags := 24, nameIndex := 100, descriptorIndex := 87, attributes := #[] }, { accessFlags := 24, nameIndex := 101, descriptorIndex := 87, attributes := #[] }, { accessFlags := 24, nameIndex := 73, descriptorIndex := 87, attributes := #[] }, { accessFlags := 24, nameIndex := 104, descriptorIndex := 87, attributes := #[] }, { accessFlags := 24, nameIndex := 106, descriptorIndex := 87, attributes := #[] }, { accessFlags := 24, nameIndex := 108, descriptorIndex := 87, attributes := #[] }, { accessFlags := 24, nameIndex := 110, descriptorIndex := 87, attributes := #[] }, { accessFlags := 24, nameIndex := 112, descriptorIndex := 87, attributes := #[] }, { accessFlags := 24, nameIndex := 114, descriptorIndex := 87, attributes := #[] }, { accessFlags := 24, nameIndex := 116, descriptorIndex := 87, attributes := #[] }, { accessFlags := 24, nameIndex := 118, descriptorIndex := 87, attributes := #[] }, { accessFlags := 24, nameIndex := 120, descriptorIndex := 87, attributes := #[] }, { accessFlags := 24, nameIndex := 122, descriptorIndex := 87, attributes := #[] }, { accessFlags := 24, nameIndex := 124, descriptorIndex := 87, attributes := #[] }, { accessFlags := 24, nameIndex := 126, descriptorIndex := 87, attributes := #[] }, { accessFlags := 24, nameIndex := 128, descriptorIndex := 87, attributes := #[] }, { accessFlags := 24, nameIndex := 130, descriptorIndex := 87, attributes := #[] }, { accessFlags := 24, nameIndex := 132, descriptorIndex := 87, attributes := #[] }, { accessFlags := 24, nameIndex := 134, descriptorIndex := 87, attributes := #[] }, { accessFlags := 24, nameIndex := 136, descriptorIndex := 87, attributes := #[] }, { accessFlags := 24, nameIndex := 138, descriptorIndex := 87, attributes := #[] }, { accessFlags := 24, nameIndex := 140, descriptorIndex := 87, attributes := #[] }, { accessFlags := 24, nameIndex := 142, descriptorIndex := 87, attributes := #[] }, { accessFlags := 24, nameIndex := 144, descriptorIndex := 87, attributes := #[] }, { accessFlags := 24, nameIndex := 146, descriptorIndex := 87, attributes := #[] }, { accessFlags := 24, nameIndex := 148, descriptorIndex := 87, attributes := #[] }, { accessFlags := 24, nameIndex := 150, descriptorIndex := 87, attributes := #[] }, { accessFlags := 24, nameIndex := 152, descriptorIndex := 87, attributes := #[] }, { accessFlags := 24, nameIndex := 154, descriptorIndex := 87, attributes := #[] }, { accessFlags := 24, nameIndex := 156, descriptorIndex := 87, attributes := #[] }, { accessFlags := 24, nameIndex := 158, descriptorIndex := 87, attributes := #[] }, { accessFlags := 24, nameIndex := 160, descriptorIndex := 87, attributes := #[] }, { accessFlags := 24, nameIndex := 162, descriptorIndex := 87, attributes := #[] }, { accessFlags := 24, nameIndex := 164, descriptorIndex := 87, attributes := #[] }, { accessFlags := 24, nameIndex := 166, descriptorIndex := 87, attributes := #[] }, { accessFlags := 24, nameIndex := 42, descriptorIndex := 31, attributes := #[] }, { accessFlags := 24, nameIndex := 30, descriptorIndex := 31, attributes := #[] }, { accessFlags := 24, nameIndex := 45, descriptorIndex := 31, attributes := #[] }, { accessFlags := 24, nameIndex := 48, descriptorIndex := 31, attributes := #[] }, { accessFlags := 24, nameIndex := 51, descriptorIndex := 31, attributes := #[] }, { accessFlags := 26, nameIndex := 11, descriptorIndex := 12, attributes := #[] }])
  fields := #[{ name := "FIXINT_MIN", type := .int, accessFlags := 24, slot := 0, constantValue := 0 }, { name := "FIXINT_MAX", type := .int, accessFlags := 24, slot := 1, constantValue := 0 }, { name := "FIXMAP", type := .int, accessFlags := 24, slot := 2, constantValue := 0 }, { name := "FIXARRAY", type := .int, accessFlags := 24, slot := 3, constantValue := 0 }, { name := "FIXSTR", type := .int, accessFlags := 24, slot := 4, constantValue := 0 }, { name := "FIXMAP_MAX_SIZE", type := .int, accessFlags := 24, slot := 5, constantValue := 0 }, { name := "FIXARRAY_MAX_SIZE", type := .int, accessFlags := 24, slot := 6, constantValue := 0 }, { name := "FIXSTR_MAX_LENGTH", type := .int, accessFlags := 24, slot := 7, constantValue := 0 }, { name := "NIL", type := .int, accessFlags := 24, slot := 8, constantValue := 0 }, { name := "FALSE", type := .int, accessFlags := 24, slot := 9, constantValue := 0 }, { name := "TRUE", type := .int, accessFlags := 24, slot := 10, constantValue := 0 }, { name := "BIN8", type := .int, accessFlags := 24, slot := 11, constantValue := 0 }, { name := "BIN16", type := .int, accessFlags := 24, slot := 12, constantValue := 0 }, { name := "BIN32", type := .int, accessFlags := 24, slot := 13, constantValue := 0 }, { name := "EXT8", type := .int, accessFlags := 24, slot := 14, constantValue := 0 }, { name := "EXT16", type := .int, accessFlags := 24, slot := 15, constantValue := 0 }, { name := "EXT32", type := .int, accessFlags := 24, slot := 16, constantValue := 0 }, { name := "FLOAT32", type := .int, accessFlags := 24, slot := 17, constantValue := 0 }, { name := "FLOAT64", type := .int, accessFlags := 24, slot := 18, constantValue := 0 }, { name := "UINT8", type := .int, accessFlags := 24, slot := 19, constantValue := 0 }, { name := "UINT16", type := .int, accessFlags := 24, slot := 20, constantValue := 0 }, { name := "UINT32", type := .int, accessFlags := 24, slot := 21, constantValue := 0 }, { name := "UINT64", type := .int, accessFlags := 24, slot := 22, constantValue := 0 }, { name := "INT8", type := .int, accessFlags := 24, slot := 23, constantValue := 0 }, { name := "INT16", type := .int, accessFlags := 24, slot := 24, constantValue := 0 }, { name := "INT32", type := .int, accessFlags := 24, slot := 25, constantValue := 0 }, { name := "INT64", type := .int, accessFlags := 24, slot := 26, constantValue := 0 }, { name := "FIXEXT1", type := .int, accessFlags := 24, slot := 27, constantValue := 0 }, { name := "FIXEXT_MAX_LENGTH", type := .int, accessFlags := 24, slot := 28, constantValue := 0 }, { name := "STR8", type := .int, accessFlags := 24, slot := 29, constantValue := 0 }, { name := "STR16", type := .int, accessFlags := 24, slot := 30, constantValue := 0 }, { name := "STR32", type := .int, accessFlags := 24, slot := 31, constantValue := 0 }, { name := "ARRAY16", type := .int, accessFlags := 24, slot := 32, constantValue := 0 }, { name := "ARRAY32", type := .int, accessFlags := 24, slot := 33, constantValue := 0 }, { name := "MAP16", type := .int, accessFlags := 24, slot := 34, constantValue := 0 }, { name := "MAP32", type := .int, accessFlags := 24, slot := 35, constantValue := 0 }, { name := "TIMESTAMP32_LENGTH", type := .int, accessFlags := 24, slot := 36, constantValue := 0 }, { name := "TIMESTAMP64_LENGTH", type := .int, accessFlags := 24, slot := 37, constantValue := 0 }, { name := "TIMESTAMP96_LENGTH", type := .int, accessFlags := 24, slot := 38, constantValue := 0 }, { name := "TIMESTAMP64_SECONDS_BITS", type := .int, accessFlags := 24, slot := 39, constantValue := 0 }, { name := "NONE", type := .int, accessFlags := 24, slot := 40, constantValue := 0 }, { name := "BIN_FORMATS", type := (.object "com/example/furoshiki/furoshiki/Format$SizedFormats"), accessFlags := 24, slot := 41, constantValue := 0 }, { name := "EXT_FORMATS", type := (.object "com/example/furoshiki/furoshiki/Format$SizedFormats"), accessFlags := 24, slot := 42, constantValue := 0 }, { name := "STR_FORMATS", type := (.object "com/example/furoshiki/furoshiki/Format$SizedFormats"), accessFlags := 24, slot := 43, constantValue := 0 }, { name := "ARRAY_FORMATS", type := (.object "com/example/furoshiki/furoshiki/Format$SizedFormats"), accessFlags := 24, slot := 44, constantValue := 0 }, { name := "MAP_FORMATS", type := (.object "com/example/furoshiki/furoshiki/Format$SizedFormats"), accessFlags := 24, slot := 45, constantValue := 0 }, { name := "TYPES", type := (.array (.object "com/example/furoshiki/furoshiki/ValueType")), accessFlags := 26, slot := 46, constantValue := 0 }]
  methods := #[k2m0, k2m1]
  instanceTypes := #[]
  staticTypes := #[.int, .int, .int, .int, .int, .int, .int, .int, .int, .int, .int, .int, .int, .int, .int, .int, .int, .int, .int, .int, .int, .int, .int, .int, .int, .int, .int, .int, .int, .int, .int, .int, .int, .int, .int, .int, .int, .int, .int, .int, .int, (.object "com/example/furoshiki/furoshiki/Format$SizedFormats"), (.object "com/example/furoshiki/furoshiki/Format$SizedFormats"), (.object "com/example/furoshiki/furoshiki/Format$SizedFormats"), (.object "com/example/furoshiki/furoshiki/Format$SizedFormats"), (.object "com/example/furoshiki/furoshiki/Format$SizedFormats"), (.array (.object "com/example/furoshiki/furoshiki/ValueType"))]
  resolved := Array.replicate 182 none
  statics := none }

def pool3 : Array CpInfo := pool [(1, u "java/lang/Cloneable"), (0, .class_ 1), (0, u "java/lang/Object"), (0, .class_ 3)] 3

/-- java/lang/Cloneable -/
def k3 : Class := { plain "java/lang/Cloneable" (some 0) with
  accessFlags := 1537
  interfaces := #[]
  cf := some (fileOf pool3 2 #[] #[] 1537 4 #[] #[])
  fields := #[]
  methods := #[]
  instanceTypes := #[]
  staticTypes := #[]
  resolved := Array.replicate 8 none
  statics := none }

def pool4 : Array CpInfo := pool [(1, u "java/io/Serializable"), (0, .class_ 1), (0, u "java/lang/Object"), (0, .class_ 3)] 3

/-- java/io/Serializable -/
def k4 : Class := { plain "java/io/Serializable" (some 0) with
  accessFlags := 1537
  interfaces := #[]
  cf := some (fileOf pool4 2 #[] #[] 1537 4 #[] #[])
  fields := #[]
  methods := #[]
  instanceTypes := #[]
  staticTypes := #[]
  resolved := Array.replicate 8 none
  statics := none }

/-- the primitive byte -/
def k5 : Class := { plain "byte" none with kind := .primitive 'B', accessFlags := 0x411 }
/-- [B -/
def k6 : Class := { plain "[B" (some 0) with kind := .array 5 .byte, interfaces := #[3, 4], accessFlags := 1041 }

/-- the primitive int -/
def k7 : Class := { plain "int" none with kind := .primitive 'I', accessFlags := 0x411 }
/-- [I -/
def k8 : Class := { plain "[I" (some 0) with kind := .array 7 .int, interfaces := #[3, 4], accessFlags := 1041 }

def heap : Heap := #[]
def classes : Array Class := #[k0, k1, k2, k3, k4, k5, k6, k7, k8]
def interned : List (Array UInt16 × Addr) := []
def slotsUsed : Nat := 0
def theMethod : MethodId := ⟨1, 1⟩
def args0 : Array Value := #[.int 7, .int 7]
def aboutOver (below : List Frame) : State where
  vm := { classes := classes, interned := interned.toArray }
  heap := heap
  slotsUsed := slotsUsed
  threads := #[{ frames := .invoking theMethod args0 :: below }]
def below0 : List Frame := [.native { method := ⟨0, 0⟩, args := #[] }]
def about1 : State := aboutOver below0
def p0 : Program := .bare "" "" ""
def e0 : Env := launch0.env 0 0 0
theorem w_frames : about1.frames = Frame.invoking theMethod args0 :: below0 := rfl
set_option maxRecDepth 65536 in
theorem w_args : argsFit about1.vm theMethod args0 = true := by decide +kernel
set_option maxRecDepth 65536 in
theorem w_heap : heapFits about1 = true := by decide +kernel
set_option maxRecDepth 65536 in
theorem w_runnable : about1.curStatus? = some .runnable := by decide +kernel
set_option maxRecDepth 65536 in
theorem w_alone : about1.alone = true := by decide +kernel
set_option maxRecDepth 65536 in
theorem w_named : about1.methodNamed? x = some theMethod := by decide +kernel
set_option maxRecDepth 65536 in
theorem w_hears : about1.hears theMethod below0 = true := by decide +kernel
set_option maxRecDepth 65536 in
theorem w_ripe : about1.ripe theMethod args0 below0 = true := by decide +kernel
theorem w_running : about1.status = .running := rfl
set_option maxRecDepth 65536 in
theorem w_room : about1.hasRoom e0.platform room_1 = true :=
  launch0.hasRoom_least _ room_1 (by decide +kernel) (by decide +kernel) (by decide +kernel) (by decide +kernel) (by decide +kernel) (by decide +kernel)
theorem allAtoms_all (ts : List Jvm.Cond) (a : Array Jvm.Value) (st : Jvm.State) : (allAtoms ts).before a st = ts.all (fun c => c.before a st) := by
  induction ts with
  | nil => rfl
  | cons c t ih =>
    show (Jvm.Cond.and c (allAtoms t)).before a st = _
    rw [Jvm.Cond.before_and, ih, List.all_cons]
def words1 : List Jvm.Cond := Jvm.Cond.code x code maxLocals ret :: tables_1
/-- a 'code' word, met by the world's own term for the bytes: nothing is compared byte by byte -/
theorem code_word {y : MethodName} {bytes : ByteArray} {mx : Nat} {rt : Option FieldType} {a : Array Value} {s : State} {m : MethodId} {meth : Method} {c : Code} (h1 : s.methodNamed? y = some m) (h2 : s.vm.method? m = some meth) (h3 : meth.code = some c) (h4 : c.code = bytes)
    (h5 : (c.maxLocals == mx && c.exceptionTable.isEmpty && decide (c.maxStack ≤ mostOperands) && decide (meth.sig.returnType = rt) && !meth.locks && decide (parseMethodDescriptor y.desc = some meth.sig)) = true) : (Jvm.Cond.code y bytes mx rt).before a s = true := by
  simp only [Bool.and_eq_true, beq_iff_eq, Bool.not_eq_true', decide_eq_true_eq] at h5
  obtain ⟨⟨⟨⟨⟨g1, g2⟩, g3⟩, g4⟩, g5⟩, g6⟩ := h5
  simp [Cond.before, Cond.holds, Cond.value, h1, h2, h3, h4, g1, g2, g3, g4, g5, g6]
def isCode : Jvm.Cond → Bool
  | .code _ _ _ _ => true
  | _ => false
theorem all_split {L : List Jvm.Cond} {P : Jvm.Cond → Bool} (h1 : L.all (fun c => isCode c || P c) = true) (h2 : ∀ c ∈ L.filter isCode, P c = true) : L.all P = true := by
  refine List.all_eq_true.mpr fun c hc => ?_
  have h := List.all_eq_true.mp h1 c hc
  rcases Bool.eq_false_or_eq_true (isCode c) with hi | hi
  · exact h2 c (List.mem_filter.mpr ⟨hc, hi⟩)
  · simpa [hi] using h
set_option maxRecDepth 65536 in
theorem w_c0 : (Jvm.Cond.code x code maxLocals ret).before args0 about1 = true := code_word (m := ⟨1, 1⟩) (meth := k1m1) (c := k1c1) (by decide +kernel) rfl rfl rfl (by decide +kernel)
set_option maxRecDepth 65536 in
theorem w_c1 : (Jvm.Cond.code ({ cls := "com/example/furoshiki/furoshiki/Format", name := "numberWidth", desc := "(I)I" } : Jvm.MethodName) prog_6_method_4_code (1 : Nat) (Option.some Jvm.ClassFile.FieldType.int)).before args0 about1 = true := code_word (m := ⟨2, 1⟩) (meth := k2m1) (c := k2c1) (by decide +kernel) rfl rfl rfl (by decide +kernel)
set_option maxRecDepth 65536 in
theorem w_c2 : (Jvm.Cond.code ({ cls := "com/example/furoshiki/furoshiki/FormatNumberWidthPinLaw", name := "expected", desc := "(I)I" } : Jvm.MethodName) method_3_code (1 : Nat) (Option.some Jvm.ClassFile.FieldType.int)).before args0 about1 = true := code_word (m := ⟨1, 2⟩) (meth := k1m2) (c := k1c2) (by decide +kernel) rfl rfl rfl (by decide +kernel)
def codes1 : List Jvm.Cond := [Jvm.Cond.code x code maxLocals ret, Jvm.Cond.code ({ cls := "com/example/furoshiki/furoshiki/Format", name := "numberWidth", desc := "(I)I" } : Jvm.MethodName) prog_6_method_4_code (1 : Nat) (Option.some Jvm.ClassFile.FieldType.int), Jvm.Cond.code ({ cls := "com/example/furoshiki/furoshiki/FormatNumberWidthPinLaw", name := "expected", desc := "(I)I" } : Jvm.MethodName) method_3_code (1 : Nat) (Option.some Jvm.ClassFile.FieldType.int)]
set_option maxRecDepth 65536 in
theorem codes_eq : words1.filter isCode = codes1 := rfl
theorem w_codes : ∀ c ∈ words1.filter isCode, c.before args0 about1 = true := by
  rw [codes_eq]
  intro c hc
  simp only [codes1, List.mem_cons, List.not_mem_nil, or_false] at hc
  rcases hc with rfl | rfl | rfl
  · exact w_c0
  · exact w_c1
  · exact w_c2
set_option maxRecDepth 65536 in
theorem w_t1 : words1.all (fun c => isCode c || c.before args0 about1) = true := by decide +kernel
theorem w_tables : (allAtoms (Jvm.Cond.code x code maxLocals ret :: tables_1)).before args0 about1 = true := by
  rw [allAtoms_all]
  show words1.all (fun c => c.before args0 about1) = true
  refine all_split ?_ w_codes
  rw [w_t1]
set_option maxRecDepth 65536 in
theorem w_case : (Jvm.Cond.and given_1 narrow_1).before args0 about1 = true := by decide +kernel
theorem w_applies : (headSpec (Jvm.Cond.code x code maxLocals ret :: tables_1) room_1).applies x e0.platform about1 = true :=
  (Spec.applies_iff w_frames).mpr ⟨w_running, w_runnable, w_alone, w_named, w_hears, w_ripe, w_room, w_tables⟩
theorem atStart : AtStart classFile x code maxLocals ret World_1 tables_1 room_1 Calls_1 rest_1 Pre_1 launch0 p0 e0 about1 theMethod args0 below0 :=
  ⟨lists_1, trivial, launch0.admits_env _ _ _, launch0.least_env, fairChoices_fair.cas, fairChoices_fair.clock, w_frames, w_args, w_heap, w_applies, trivial, trivial, w_case⟩
end start1
theorem witness_1 : WitnessClaimed_1 := ⟨start1.p0, start1.e0, start1.about1, start1.theMethod, start1.args0, start1.below0, start1.atStart⟩
end Jvm.Pilot.@@N@@
