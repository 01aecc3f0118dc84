import JvmDerived
import JvmDerived.Pilot.@@N@@Statement
import JvmDerived.Pilot.@@N@@Code
set_option linter.unusedVariables false
set_option linter.unusedSimpArgs false
namespace Jvm.RoadKit
open Sem ClassFile Op Lib Jvm.Stand Jvm.Free Jvm.LawKit
section New
variable {p : Program} {l : Launch} {e : Env} {R : Room} {s : State} {m : MethodId} {args : Array Value} {below : List Frame} {meth : Method} {c : Code} {T : State} {locs : List Loc} {cells slots : Nat}
theorem retI (X : Stand p l e R s m args below meth c T locs cells slots) (hx : p.tables.exec = Jvm.exec) {pc : Nat} {Ls : Array Slot} {z : Int32} {rest : List Value} (hret : meth.sig.returnType = some .int) (hd : decode c.code pc = .ok (.ireturn, 1)) {fs : List Frame}
    (hl : ∀ (f : JFrame) (acts : List Action), f.method = m → f.locked = none → f.entered = [] → (doReturn e (T.setTop f) acts (some (.int z))).1 = T.setFrames fs) : Steps p.tables e below (T.setTop (mkF m pc Ls (.int z :: rest))) (T.setFrames fs) := by
  have hm' : T.vm.method? m = some meth := X.method'
  have hn : narrow .int (.int z) = .int z := rfl
  show Steps p.tables e below (T.setTop { method := m, pc := pc, locals := Ls, stack := _ :: rest, locked := none }) _
  jvm_step X.here [X.here.top, hx, hd, hm', hret, hn]
  first | (intro acts; rw [hl _ acts rfl rfl rfl]) | rw [hl _ _ rfl rfl rfl]
  exact Steps.refl _
end New
end Jvm.RoadKit
namespace Jvm.RoadKit
open Sem ClassFile Op Lib Jvm.Stand Jvm.Free Jvm.LawKit
section OwnRef
variable {p : Program} {l : Launch} {e : Env} {R : Room} {s Z : State} {m : MethodId} {args a0 : Array Value} {below : List Frame} {meth : Method} {c : Code} {T : State} {locs : List Loc} {cells slots : Nat}
theorem own_mvR {own : String} {i : Nat} {y : MethodName} (hZ : Z.Warmed39 s.vm) (hi : (Cond.instanceMethod y).before a0 Z = true) (hy : y.cls ≠ "java/lang/invoke/MethodHandle" ∧ y.cls ≠ "java/lang/invoke/VarHandle") (w : (Cond.methodRef own i y).before a0 Z = true) : (Cond.methodRef own i y).before args s = true := by
  obtain ⟨mk, methM, hnamed, -⟩ := Cond.instanceMethod_spec hi
  have q := Cond.methodRef_warmed39 hZ hnamed hy w
  simp only [Cond.before, Cond.holds, Cond.value] at q ⊢
  exact q
theorem own_specialRef (X : Stand p l e R s m args below meth c T locs cells slots) (hexec : p.tables.exec = Jvm.exec) {own : String} {index : Nat} {y : MethodName} (hy1 : y.name = "<init>")
    (hown : s.vm.findClass own = some m.cls) (href : (Cond.methodRef own index y).before args s = true) (hinst : (Cond.instanceMethod y).before args s = true)
    {bytes : ByteArray} {maxL : Nat} (hcode : (Cond.code y bytes maxL none).before args s = true)
    (hy : y.cls ≠ "java/lang/invoke/MethodHandle" ∧ y.cls ≠ "java/lang/invoke/VarHandle")
    {W : Nat} {Pre : Pt → Array Value → Prop} {Post : Pt → Array Value → Option Value → Pt → Prop} (hK : Back l R p e below s args y 3 W Pre Post)
    {g : JFrame} (hg : g.method = m) (hsize : g.locals.size = c.maxLocals) {s₀ : State} (hcome : Steps p.tables e below s₀ (T.setTop g)) {a : Addr} {argsL rest : List Value}
    (hlen : ∀ sig, parseMethodDescriptor y.desc = some sig → argsL.length = sig.parameters.length) (hstack : g.stack = argsL.reverse ++ .ref a :: rest) (hW : 2 * g.monitorRoom + (rest.map fun v => v.category).sum ≤ W)
    (hdg : decode c.code g.pc = .ok (.invokespecial index, 3)) (hpre : ∀ vm₁, s.WarmedH vm₁ → Pre ⟨T.setVm vm₁, locs, cells, slots⟩ (.ref a :: argsL).toArray) :
    ∃ (v : Option Value) (vm₁ : Vm) (B : Pt), s.WarmedH vm₁ ∧ Stand p l e R s m args below meth c B.U B.locs B.cells B.slots ∧ Post ⟨T.setVm vm₁, locs, cells, slots⟩ (.ref a :: argsL).toArray v B ∧
      Steps p.tables e below s₀ (B.U.setTop { g with pc := g.pc + 3, stack := v.toList ++ rest }) := by
  obtain ⟨mk, methM, hnamed, hmethM, hstM, habM⟩ := Cond.instanceMethod_spec hinst
  obtain ⟨methM', cM, hmethM', -, -, -, -, -, -, hsigM⟩ := Cond.code_spec hnamed hcode
  cases hmethM.symm.trans hmethM'
  have hWT : s.WarmedH T.vm := X.warmed
  have hcur : (s.setVm T.vm).vm.findClass own = some m.cls := by
    show T.vm.findClass own = _
    rw [hWT.alike.findClass]; exact hown
  obtain ⟨m', c', hfound', hready, hfind, hnames⟩ := Cond.methodRef_named e hcur (Cond.methodRef_warmed hWT hnamed hy href)
  have hn' : (s.setVm T.vm).methodNamed? y = some mk := by rw [State.methodNamed?_setVm hWT.alike]; exact hnamed
  obtain rfl : m' = mk := Option.some.inj (hfound'.symm.trans (State.methodFound?_of_named hn' hy))
  obtain rfl : c' = m'.cls := Option.some.inj (hfind.symm.trans (findClass_of_methodNamed hn'))
  obtain ⟨k, hk, -⟩ := className_of_methodNamed hn'
  have hmT : T.vm.method? m' = some methM := by rw [hWT.alike.method?]; exact hmethM
  obtain ⟨hnm, hds⟩ := name_of_methodNamed hnamed hmethM
  have hfs : lookupSpecial T.vm m'.cls "<init>" methM.desc = .method m' := by
    rw [hds, ← hy1]; exact lookupSpecial_of_named hn' hmT hstM
  have hstep : ∀ target, (∀ acts, Steps p.tables e below (doInvoke e (T.setTop { g with stack := rest }) acts m' (.ref a :: argsL).toArray).1 target) → Steps p.tables e below (T.setTop g) target := fun target hrest => by
    subst hg
    jvm_step X.here [hexec, hdg, invokespecial.wp_init (e := e) (s := T) (k := k) (meth := methM) (m := m') (a := a) (args := argsL) (rest := rest) (f := g) X.here.top hnames hready hk hmT (by rw [hnm]; exact hy1) hstM habM hfs (hlen _ hsigM) hstack]
    exact hrest
  obtain ⟨v, B, X', hpost, hsteps⟩ := hK m meth c ⟨T.setVm T.vm, locs, cells, slots⟩ { g with stack := rest } (.invokespecial index) m' (.ref a :: argsL).toArray X hg hsize hdg hW (X.named hnamed) (hpre T.vm hWT)
  exact ⟨v, T.vm, B, hWT, X', hpost, (hcome.trans (hstep _ fun acts => by rw [doInvoke_state]; exact Steps.refl _)).trans hsteps⟩
theorem own_selP {y z : MethodName} {C : String} (hZ : Z.Warmed39 s.vm) (wi : (Cond.instanceMethod y).before a0 Z = true) (wp : (Cond.privateMethod y).before a0 Z = true) (wz : (Cond.selects C z z).before a0 Z = true) (hzc : z.cls = y.cls) (hy : y.cls ≠ "java/lang/invoke/MethodHandle" ∧ y.cls ≠ "java/lang/invoke/VarHandle") : (Cond.selects y.cls y y).before args s = true := by
  obtain ⟨c2, r2, m2, -, -, q3, -, kP, hkP, hkPi⟩ := Cond.selects_spec (mvT (args := args) hZ wz)
  have hc := findClass_of_methodNamed q3
  rw [hzc] at hc
  exact selects_self_of_private hc hkP hkPi (Cond.privateMethod_at (mvP hZ wp (args := args))) (mvT hZ wi) hy
end OwnRef
theorem own_arv0 {Z : State} {args : Array Value} {t : Term} {a : Addr} {ty : FieldType} (hf : Fit Z) (ev : t.eval args Z none [] Z = some (.ref a)) (hx : (Cond.arrayOf t ty).value args Z none Z [] = some true) (hl : (Term.length t).eval args Z none [] Z = some (.int 0)) : ∃ k, Arv Z Z.heap a k ty 0 [] .null := by
  obtain ⟨cl, A⟩ := Arr.start ev hx
  have ha := Arr.fin (State.Warmed39.refl Z).alike A
  have hn : cl.slots.size < 2 ^ 31 := by
    by_cases hn : cl.slots.size < 2147483648
    · exact hn
    · simp [Term.eval, ev, ha, hn] at hl
  have q := len_f ev ha hn
  rw [hl] at q
  exact ⟨_, Arv.start hf A hn (Value.int.inj (Option.some.inj q)).symm (by decide) rfl trivial⟩
end Jvm.RoadKit
namespace Jvm.Pilot.@@N@@
open Jvm Jvm.ClassFile Sem Op Lib Jvm.Free Jvm.Stand Jvm.LawKit Jvm.RoadKit Bundle Jvm.Pilot.@@N@@.Jvm.D
theorem d8_0 : decode jdk_71_method_1_code 0 = .ok (.aload_n 0, 1) := by decide +kernel
theorem d8_1 : decode jdk_71_method_1_code 1 = .ok (.invokespecial 1, 3) := by decide +kernel
theorem d8_4 : decode jdk_71_method_1_code 4 = .ok (.return_, 1) := by decide +kernel
theorem d7_0 : decode jdk_69_method_7_code 0 = .ok (.aload_n 0, 1) := by decide +kernel
theorem d7_1 : decode jdk_69_method_7_code 1 = .ok (.invokespecial 43, 3) := by decide +kernel
theorem pd0 : parseMethodDescriptor "()V" = some ⟨[], none⟩ := by decide +kernel
theorem d7_4 : decode jdk_69_method_7_code 4 = .ok (.aload_n 0, 1) := by decide +kernel
theorem d7_5 : decode jdk_69_method_7_code 5 = .ok (.ldc 92, 2) := by decide +kernel
theorem d7_7 : decode jdk_69_method_7_code 7 = .ok (.putfield 81, 3) := by decide +kernel
theorem d7_10 : decode jdk_69_method_7_code 10 = .ok (.return_, 1) := by decide +kernel
theorem d6_0 : decode jdk_94_method_16_code 0 = .ok (.aload_n 0, 1) := by decide +kernel
theorem d6_1 : decode jdk_94_method_16_code 1 = .ok (.invokespecial 87, 3) := by decide +kernel
theorem d6_4 : decode jdk_94_method_16_code 4 = .ok (.aload_n 0, 1) := by decide +kernel
theorem d6_5 : decode jdk_94_method_16_code 5 = .ok (.iconst 0, 1) := by decide +kernel
theorem d6_6 : decode jdk_94_method_16_code 6 = .ok (.putfield 1, 3) := by decide +kernel
theorem d6_9 : decode jdk_94_method_16_code 9 = .ok (.aload_n 0, 1) := by decide +kernel
theorem d6_10 : decode jdk_94_method_16_code 10 = .ok (.iconst 0, 1) := by decide +kernel
theorem d6_11 : decode jdk_94_method_16_code 11 = .ok (.putfield 64, 3) := by decide +kernel
theorem d6_14 : decode jdk_94_method_16_code 14 = .ok (.return_, 1) := by decide +kernel
theorem d11_0 : decode jdk_22_method_1_code 0 = .ok (.aload_n 0, 1) := by decide +kernel
theorem d11_1 : decode jdk_22_method_1_code 1 = .ok (.invokespecial 1, 3) := by decide +kernel
theorem d11_4 : decode jdk_22_method_1_code 4 = .ok (.return_, 1) := by decide +kernel
theorem d10_0 : decode jdk_39_method_1_code 0 = .ok (.aload_n 0, 1) := by decide +kernel
theorem d10_1 : decode jdk_39_method_1_code 1 = .ok (.invokespecial 1, 3) := by decide +kernel
theorem d10_4 : decode jdk_39_method_1_code 4 = .ok (.aload_n 0, 1) := by decide +kernel
theorem d10_5 : decode jdk_39_method_1_code 5 = .ok (.iconst 0, 1) := by decide +kernel
theorem d10_6 : decode jdk_39_method_1_code 6 = .ok (.putfield 7, 3) := by decide +kernel
theorem d10_9 : decode jdk_39_method_1_code 9 = .ok (.return_, 1) := by decide +kernel
theorem d9_0 : decode jdk_38_method_2_code 0 = .ok (.aload_n 0, 1) := by decide +kernel
theorem d9_1 : decode jdk_38_method_2_code 1 = .ok (.invokespecial 1, 3) := by decide +kernel
theorem d9_4 : decode jdk_38_method_2_code 4 = .ok (.aload_n 0, 1) := by decide +kernel
theorem d9_5 : decode jdk_38_method_2_code 5 = .ok (.getstatic 39, 3) := by decide +kernel
theorem d9_8 : decode jdk_38_method_2_code 8 = .ok (.putfield 9, 3) := by decide +kernel
theorem d9_11 : decode jdk_38_method_2_code 11 = .ok (.return_, 1) := by decide +kernel
theorem d2_0 : decode prog_22_method_1_code 0 = .ok (.aload_n 0, 1) := by decide +kernel
theorem d2_1 : decode prog_22_method_1_code 1 = .ok (.invokespecial 5, 3) := by decide +kernel
theorem d2_4 : decode prog_22_method_1_code 4 = .ok (.aload_n 0, 1) := by decide +kernel
theorem d2_5 : decode prog_22_method_1_code 5 = .ok (.lload_n 1, 1) := by decide +kernel
theorem d2_6 : decode prog_22_method_1_code 6 = .ok (.putfield 11, 3) := by decide +kernel
theorem d2_9 : decode prog_22_method_1_code 9 = .ok (.return_, 1) := by decide +kernel
theorem d1_0 : decode prog_22_method_2_code 0 = .ok (.new 12, 3) := by decide +kernel
theorem d1_3 : decode prog_22_method_2_code 3 = .ok (.dup, 1) := by decide +kernel
theorem d1_4 : decode prog_22_method_2_code 4 = .ok (.ldc2_w 17, 3) := by decide +kernel
theorem d1_7 : decode prog_22_method_2_code 7 = .ok (.invokespecial 19, 3) := by decide +kernel
theorem pd1 : parseMethodDescriptor "(J)V" = some ⟨[.long], none⟩ := by decide +kernel
theorem d1_10 : decode prog_22_method_2_code 10 = .ok (.areturn, 1) := by decide +kernel
theorem d5_0 : decode prog_4_method_2_code 0 = .ok (.aload_n 0, 1) := by decide +kernel
theorem d5_1 : decode prog_4_method_2_code 1 = .ok (.invokespecial 7, 3) := by decide +kernel
theorem d5_4 : decode prog_4_method_2_code 4 = .ok (.aload_n 0, 1) := by decide +kernel
theorem d5_5 : decode prog_4_method_2_code 5 = .ok (.new 12, 3) := by decide +kernel
theorem d5_8 : decode prog_4_method_2_code 8 = .ok (.dup, 1) := by decide +kernel
theorem d5_9 : decode prog_4_method_2_code 9 = .ok (.invokespecial 14, 3) := by decide +kernel
theorem d5_12 : decode prog_4_method_2_code 12 = .ok (.putfield 15, 3) := by decide +kernel
theorem d5_15 : decode prog_4_method_2_code 15 = .ok (.aload_n 0, 1) := by decide +kernel
theorem d5_16 : decode prog_4_method_2_code 16 = .ok (.new 19, 3) := by decide +kernel
theorem d5_19 : decode prog_4_method_2_code 19 = .ok (.dup, 1) := by decide +kernel
theorem d5_20 : decode prog_4_method_2_code 20 = .ok (.invokespecial 21, 3) := by decide +kernel
theorem d5_23 : decode prog_4_method_2_code 23 = .ok (.putfield 22, 3) := by decide +kernel
theorem d5_26 : decode prog_4_method_2_code 26 = .ok (.aload_n 0, 1) := by decide +kernel
theorem d5_27 : decode prog_4_method_2_code 27 = .ok (.aload_n 1, 1) := by decide +kernel
theorem d5_28 : decode prog_4_method_2_code 28 = .ok (.putfield 26, 3) := by decide +kernel
theorem d5_31 : decode prog_4_method_2_code 31 = .ok (.aload_n 0, 1) := by decide +kernel
theorem d5_32 : decode prog_4_method_2_code 32 = .ok (.aload_n 2, 1) := by decide +kernel
theorem d5_33 : decode prog_4_method_2_code 33 = .ok (.putfield 30, 3) := by decide +kernel
theorem d5_36 : decode prog_4_method_2_code 36 = .ok (.return_, 1) := by decide +kernel
theorem d4_0 : decode prog_4_method_1_code 0 = .ok (.aload_n 0, 1) := by decide +kernel
theorem d4_1 : decode prog_4_method_1_code 1 = .ok (.aload_n 1, 1) := by decide +kernel
theorem d4_2 : decode prog_4_method_1_code 2 = .ok (.aconst_null, 1) := by decide +kernel
theorem d4_3 : decode prog_4_method_1_code 3 = .ok (.invokespecial 1, 3) := by decide +kernel
theorem pd2 : parseMethodDescriptor "(Lcom/example/tenon/tenon/Budget;Lcom/example/tenon/tenon/Assignments;)V" = some ⟨[(.object "com/example/tenon/tenon/Budget"), (.object "com/example/tenon/tenon/Assignments")], none⟩ := by decide +kernel
theorem d4_6 : decode prog_4_method_1_code 6 = .ok (.return_, 1) := by decide +kernel
theorem d12_0 : decode prog_4_method_8_code 0 = .ok (.aload_n 0, 1) := by decide +kernel
theorem d12_1 : decode prog_4_method_8_code 1 = .ok (.getfield 81, 3) := by decide +kernel
theorem d12_4 : decode prog_4_method_8_code 4 = .ok (.ifCond .gt 20, 3) := by decide +kernel
theorem d12_24 : decode prog_4_method_8_code 24 = .ok (.iconst 1, 1) := by decide +kernel
theorem d12_25 : decode prog_4_method_8_code 25 = .ok (.goto 4, 3) := by decide +kernel
theorem d12_29 : decode prog_4_method_8_code 29 = .ok (.ireturn, 1) := by decide +kernel
theorem d12_7 : decode prog_4_method_8_code 7 = .ok (.aload_n 0, 1) := by decide +kernel
theorem d12_8 : decode prog_4_method_8_code 8 = .ok (.getfield 30, 3) := by decide +kernel
theorem d12_11 : decode prog_4_method_8_code 11 = .ok (.ifnull 17, 3) := by decide +kernel
theorem d12_28 : decode prog_4_method_8_code 28 = .ok (.iconst 0, 1) := by decide +kernel
theorem d12_14 : decode prog_4_method_8_code 14 = .ok (.aload_n 0, 1) := by decide +kernel
theorem d12_15 : decode prog_4_method_8_code 15 = .ok (.getfield 30, 3) := by decide +kernel
theorem d12_18 : decode prog_4_method_8_code 18 = .ok (.invokevirtual 113, 3) := by decide +kernel
theorem pd3 : parseMethodDescriptor "()Z" = some ⟨[], some .boolean⟩ := by decide +kernel
theorem d12_21 : decode prog_4_method_8_code 21 = .ok (.ifCond .eq 7, 3) := by decide +kernel
theorem d15_0 : decode jdk_38_method_8_code 0 = .ok (.aload_n 0, 1) := by decide +kernel
theorem d15_1 : decode jdk_38_method_8_code 1 = .ok (.getfield 48, 3) := by decide +kernel
theorem d15_4 : decode jdk_38_method_8_code 4 = .ok (.ireturn, 1) := by decide +kernel
theorem d17_0 : decode prog_22_method_6_code 0 = .ok (.lload_n 1, 1) := by decide +kernel
theorem d17_1 : decode prog_22_method_6_code 1 = .ok (.aload_n 0, 1) := by decide +kernel
theorem d17_2 : decode prog_22_method_6_code 2 = .ok (.getfield 11, 3) := by decide +kernel
theorem d17_5 : decode prog_22_method_6_code 5 = .ok (.aload_n 0, 1) := by decide +kernel
theorem d17_6 : decode prog_22_method_6_code 6 = .ok (.getfield 25, 3) := by decide +kernel
theorem d17_9 : decode prog_22_method_6_code 9 = .ok (.lsub, 1) := by decide +kernel
theorem d17_10 : decode prog_22_method_6_code 10 = .ok (.lcmp, 1) := by decide +kernel
theorem d17_11 : decode prog_22_method_6_code 11 = .ok (.ifCond .le 15, 3) := by decide +kernel
theorem d17_26 : decode prog_22_method_6_code 26 = .ok (.return_, 1) := by decide +kernel
theorem d16_0 : decode prog_22_method_4_code 0 = .ok (.aload_n 0, 1) := by decide +kernel
theorem d16_1 : decode prog_22_method_4_code 1 = .ok (.lload_n 1, 1) := by decide +kernel
theorem d16_2 : decode prog_22_method_4_code 2 = .ok (.invokevirtual 22, 3) := by decide +kernel
theorem d16_5 : decode prog_22_method_4_code 5 = .ok (.aload_n 0, 1) := by decide +kernel
theorem d16_6 : decode prog_22_method_4_code 6 = .ok (.dup, 1) := by decide +kernel
theorem d16_7 : decode prog_22_method_4_code 7 = .ok (.getfield 25, 3) := by decide +kernel
theorem d16_10 : decode prog_22_method_4_code 10 = .ok (.lload_n 1, 1) := by decide +kernel
theorem d16_11 : decode prog_22_method_4_code 11 = .ok (.ladd, 1) := by decide +kernel
theorem d16_12 : decode prog_22_method_4_code 12 = .ok (.putfield 25, 3) := by decide +kernel
theorem d16_15 : decode prog_22_method_4_code 15 = .ok (.return_, 1) := by decide +kernel
theorem d32_0 : decode prog_22_method_5_code 0 = .ok (.aload_n 0, 1) := by decide +kernel
theorem d32_1 : decode prog_22_method_5_code 1 = .ok (.dup, 1) := by decide +kernel
theorem d32_2 : decode prog_22_method_5_code 2 = .ok (.getfield 25, 3) := by decide +kernel
theorem d32_5 : decode prog_22_method_5_code 5 = .ok (.lload_n 1, 1) := by decide +kernel
theorem d32_6 : decode prog_22_method_5_code 6 = .ok (.lsub, 1) := by decide +kernel
theorem d32_7 : decode prog_22_method_5_code 7 = .ok (.putfield 25, 3) := by decide +kernel
theorem d32_10 : decode prog_22_method_5_code 10 = .ok (.return_, 1) := by decide +kernel
theorem d19_0 : decode jdk_30_method_1_code 0 = .ok (.aload_n 0, 1) := by decide +kernel
theorem d19_1 : decode jdk_30_method_1_code 1 = .ok (.invokespecial 1, 3) := by decide +kernel
theorem d19_4 : decode jdk_30_method_1_code 4 = .ok (.return_, 1) := by decide +kernel
theorem d18_0 : decode prog_6_method_1_code 0 = .ok (.aload_n 0, 1) := by decide +kernel
theorem d18_1 : decode prog_6_method_1_code 1 = .ok (.invokespecial 1, 3) := by decide +kernel
theorem d18_4 : decode prog_6_method_1_code 4 = .ok (.aload_n 0, 1) := by decide +kernel
theorem d18_5 : decode prog_6_method_1_code 5 = .ok (.aload_n 1, 1) := by decide +kernel
theorem d18_6 : decode prog_6_method_1_code 6 = .ok (.putfield 7, 3) := by decide +kernel
theorem d18_9 : decode prog_6_method_1_code 9 = .ok (.aload_n 0, 1) := by decide +kernel
theorem d18_10 : decode prog_6_method_1_code 10 = .ok (.aload_n 2, 1) := by decide +kernel
theorem d18_11 : decode prog_6_method_1_code 11 = .ok (.putfield 13, 3) := by decide +kernel
theorem d18_14 : decode prog_6_method_1_code 14 = .ok (.return_, 1) := by decide +kernel
theorem d24_0 : decode jdk_29_method_65_code 0 = .ok (.iload_n 0, 1) := by decide +kernel
theorem d24_1 : decode jdk_29_method_65_code 1 = .ok (.iload_n 1, 1) := by decide +kernel
theorem d24_2 : decode jdk_29_method_65_code 2 = .ok (.if_icmp .lt 7, 3) := by decide +kernel
theorem d24_5 : decode jdk_29_method_65_code 5 = .ok (.iload_n 0, 1) := by decide +kernel
theorem d24_6 : decode jdk_29_method_65_code 6 = .ok (.goto 4, 3) := by decide +kernel
theorem d24_10 : decode jdk_29_method_65_code 10 = .ok (.ireturn, 1) := by decide +kernel
theorem d23_0 : decode jdk_38_method_6_code 0 = .ok (.aload_n 0, 1) := by decide +kernel
theorem d23_1 : decode jdk_38_method_6_code 1 = .ok (.getfield 9, 3) := by decide +kernel
theorem d23_4 : decode jdk_38_method_6_code 4 = .ok (.arraylength, 1) := by decide +kernel
theorem d23_5 : decode jdk_38_method_6_code 5 = .ok (.istore_n 2, 1) := by decide +kernel
theorem d23_6 : decode jdk_38_method_6_code 6 = .ok (.iload_n 2, 1) := by decide +kernel
theorem d23_7 : decode jdk_38_method_6_code 7 = .ok (.ifCond .gt 13, 3) := by decide +kernel
theorem d23_10 : decode jdk_38_method_6_code 10 = .ok (.aload_n 0, 1) := by decide +kernel
theorem d23_11 : decode jdk_38_method_6_code 11 = .ok (.getfield 9, 3) := by decide +kernel
theorem d23_14 : decode jdk_38_method_6_code 14 = .ok (.getstatic 39, 3) := by decide +kernel
theorem d23_17 : decode jdk_38_method_6_code 17 = .ok (.if_acmp .eq 28, 3) := by decide +kernel
theorem d23_45 : decode jdk_38_method_6_code 45 = .ok (.aload_n 0, 1) := by decide +kernel
theorem d23_46 : decode jdk_38_method_6_code 46 = .ok (.bipush 10, 2) := by decide +kernel
theorem d23_48 : decode jdk_38_method_6_code 48 = .ok (.iload_n 1, 1) := by decide +kernel
theorem d23_49 : decode jdk_38_method_6_code 49 = .ok (.invokestatic 79, 3) := by decide +kernel
theorem pd4 : parseMethodDescriptor "(II)I" = some ⟨[.int, .int], some .int⟩ := by decide +kernel
theorem d23_52 : decode jdk_38_method_6_code 52 = .ok (.anewarray 7, 3) := by decide +kernel
theorem d23_55 : decode jdk_38_method_6_code 55 = .ok (.dup_x1, 1) := by decide +kernel
theorem d23_56 : decode jdk_38_method_6_code 56 = .ok (.putfield 9, 3) := by decide +kernel
theorem d23_59 : decode jdk_38_method_6_code 59 = .ok (.areturn, 1) := by decide +kernel
theorem d22_0 : decode jdk_38_method_7_code 0 = .ok (.aload_n 0, 1) := by decide +kernel
theorem d22_1 : decode jdk_38_method_7_code 1 = .ok (.aload_n 0, 1) := by decide +kernel
theorem d22_2 : decode jdk_38_method_7_code 2 = .ok (.getfield 48, 3) := by decide +kernel
theorem d22_5 : decode jdk_38_method_7_code 5 = .ok (.iconst 1, 1) := by decide +kernel
theorem d22_6 : decode jdk_38_method_7_code 6 = .ok (.iadd, 1) := by decide +kernel
theorem d22_7 : decode jdk_38_method_7_code 7 = .ok (.invokevirtual 69, 3) := by decide +kernel
theorem pd5 : parseMethodDescriptor "(I)[Ljava/lang/Object;" = some ⟨[.int], some (.array (.object "java/lang/Object"))⟩ := by decide +kernel
theorem d22_10 : decode jdk_38_method_7_code 10 = .ok (.areturn, 1) := by decide +kernel
theorem d21_0 : decode jdk_38_method_24_code 0 = .ok (.iload_n 3, 1) := by decide +kernel
theorem d21_1 : decode jdk_38_method_24_code 1 = .ok (.aload_n 2, 1) := by decide +kernel
theorem d21_2 : decode jdk_38_method_24_code 2 = .ok (.arraylength, 1) := by decide +kernel
theorem d21_3 : decode jdk_38_method_24_code 3 = .ok (.if_icmp .ne 8, 3) := by decide +kernel
theorem d21_6 : decode jdk_38_method_24_code 6 = .ok (.aload_n 0, 1) := by decide +kernel
theorem d21_7 : decode jdk_38_method_24_code 7 = .ok (.invokevirtual 129, 3) := by decide +kernel
theorem pd6 : parseMethodDescriptor "()[Ljava/lang/Object;" = some ⟨[], some (.array (.object "java/lang/Object"))⟩ := by decide +kernel
theorem d21_10 : decode jdk_38_method_24_code 10 = .ok (.astore_n 2, 1) := by decide +kernel
theorem d21_11 : decode jdk_38_method_24_code 11 = .ok (.aload_n 2, 1) := by decide +kernel
theorem d21_12 : decode jdk_38_method_24_code 12 = .ok (.iload_n 3, 1) := by decide +kernel
theorem d21_13 : decode jdk_38_method_24_code 13 = .ok (.aload_n 1, 1) := by decide +kernel
theorem d21_14 : decode jdk_38_method_24_code 14 = .ok (.aastore, 1) := by decide +kernel
theorem d21_15 : decode jdk_38_method_24_code 15 = .ok (.aload_n 0, 1) := by decide +kernel
theorem d21_16 : decode jdk_38_method_24_code 16 = .ok (.iload_n 3, 1) := by decide +kernel
theorem d21_17 : decode jdk_38_method_24_code 17 = .ok (.iconst 1, 1) := by decide +kernel
theorem d21_18 : decode jdk_38_method_24_code 18 = .ok (.iadd, 1) := by decide +kernel
theorem d21_19 : decode jdk_38_method_24_code 19 = .ok (.putfield 48, 3) := by decide +kernel
theorem d21_22 : decode jdk_38_method_24_code 22 = .ok (.return_, 1) := by decide +kernel
theorem d20_0 : decode jdk_38_method_25_code 0 = .ok (.aload_n 0, 1) := by decide +kernel
theorem d20_1 : decode jdk_38_method_25_code 1 = .ok (.dup, 1) := by decide +kernel
theorem d20_2 : decode jdk_38_method_25_code 2 = .ok (.getfield 63, 3) := by decide +kernel
theorem d20_5 : decode jdk_38_method_25_code 5 = .ok (.iconst 1, 1) := by decide +kernel
theorem d20_6 : decode jdk_38_method_25_code 6 = .ok (.iadd, 1) := by decide +kernel
theorem d20_7 : decode jdk_38_method_25_code 7 = .ok (.putfield 63, 3) := by decide +kernel
theorem d20_10 : decode jdk_38_method_25_code 10 = .ok (.aload_n 0, 1) := by decide +kernel
theorem d20_11 : decode jdk_38_method_25_code 11 = .ok (.aload_n 1, 1) := by decide +kernel
theorem d20_12 : decode jdk_38_method_25_code 12 = .ok (.aload_n 0, 1) := by decide +kernel
theorem d20_13 : decode jdk_38_method_25_code 13 = .ok (.getfield 9, 3) := by decide +kernel
theorem d20_16 : decode jdk_38_method_25_code 16 = .ok (.aload_n 0, 1) := by decide +kernel
theorem d20_17 : decode jdk_38_method_25_code 17 = .ok (.getfield 48, 3) := by decide +kernel
theorem d20_20 : decode jdk_38_method_25_code 20 = .ok (.invokevirtual 131, 3) := by decide +kernel
theorem pd7 : parseMethodDescriptor "(Ljava/lang/Object;[Ljava/lang/Object;I)V" = some ⟨[(.object "java/lang/Object"), (.array (.object "java/lang/Object")), .int], none⟩ := by decide +kernel
theorem d20_23 : decode jdk_38_method_25_code 23 = .ok (.iconst 1, 1) := by decide +kernel
theorem d20_24 : decode jdk_38_method_25_code 24 = .ok (.ireturn, 1) := by decide +kernel
theorem d13_0 : decode prog_4_method_4_code 0 = .ok (.aload_n 0, 1) := by decide +kernel
theorem d13_1 : decode prog_4_method_4_code 1 = .ok (.getfield 53, 3) := by decide +kernel
theorem d13_4 : decode prog_4_method_4_code 4 = .ok (.ifCond .le 32, 3) := by decide +kernel
theorem d13_36 : decode prog_4_method_4_code 36 = .ok (.aload_n 0, 1) := by decide +kernel
theorem d13_37 : decode prog_4_method_4_code 37 = .ok (.dup, 1) := by decide +kernel
theorem d13_38 : decode prog_4_method_4_code 38 = .ok (.getfield 81, 3) := by decide +kernel
theorem d13_41 : decode prog_4_method_4_code 41 = .ok (.iconst 1, 1) := by decide +kernel
theorem d13_42 : decode prog_4_method_4_code 42 = .ok (.iadd, 1) := by decide +kernel
theorem d13_43 : decode prog_4_method_4_code 43 = .ok (.putfield 81, 3) := by decide +kernel
theorem d13_46 : decode prog_4_method_4_code 46 = .ok (.return_, 1) := by decide +kernel
theorem d13_7 : decode prog_4_method_4_code 7 = .ok (.aload_n 0, 1) := by decide +kernel
theorem d13_8 : decode prog_4_method_4_code 8 = .ok (.getfield 26, 3) := by decide +kernel
theorem d13_11 : decode prog_4_method_4_code 11 = .ok (.ldc2_w 57, 3) := by decide +kernel
theorem d13_14 : decode prog_4_method_4_code 14 = .ok (.invokevirtual 59, 3) := by decide +kernel
theorem d13_17 : decode prog_4_method_4_code 17 = .ok (.aload_n 0, 1) := by decide +kernel
theorem d13_18 : decode prog_4_method_4_code 18 = .ok (.getfield 22, 3) := by decide +kernel
theorem d13_21 : decode prog_4_method_4_code 21 = .ok (.new 63, 3) := by decide +kernel
theorem d13_24 : decode prog_4_method_4_code 24 = .ok (.dup, 1) := by decide +kernel
theorem d13_25 : decode prog_4_method_4_code 25 = .ok (.aconst_null, 1) := by decide +kernel
theorem d13_26 : decode prog_4_method_4_code 26 = .ok (.aconst_null, 1) := by decide +kernel
theorem d13_27 : decode prog_4_method_4_code 27 = .ok (.invokespecial 65, 3) := by decide +kernel
theorem pd8 : parseMethodDescriptor "(Ljava/lang/String;Lcom/example/tenon/tenon/Assignments$Assigned;)V" = some ⟨[(.object "java/lang/String"), (.object "com/example/tenon/tenon/Assignments$Assigned")], none⟩ := by decide +kernel
theorem d13_30 : decode prog_4_method_4_code 30 = .ok (.invokeinterface 68 2, 5) := by decide +kernel
theorem pd9 : parseMethodDescriptor "(Ljava/lang/Object;)Z" = some ⟨[(.object "java/lang/Object")], some .boolean⟩ := by decide +kernel
theorem d13_35 : decode prog_4_method_4_code 35 = .ok (.pop, 1) := by decide +kernel
theorem d14_0 : decode prog_4_method_5_code 0 = .ok (.aload_n 0, 1) := by decide +kernel
theorem d14_1 : decode prog_4_method_5_code 1 = .ok (.dup, 1) := by decide +kernel
theorem d14_2 : decode prog_4_method_5_code 2 = .ok (.getfield 53, 3) := by decide +kernel
theorem d14_5 : decode prog_4_method_5_code 5 = .ok (.iconst 1, 1) := by decide +kernel
theorem d14_6 : decode prog_4_method_5_code 6 = .ok (.iadd, 1) := by decide +kernel
theorem d14_7 : decode prog_4_method_5_code 7 = .ok (.putfield 53, 3) := by decide +kernel
theorem d14_10 : decode prog_4_method_5_code 10 = .ok (.aload_n 0, 1) := by decide +kernel
theorem d14_11 : decode prog_4_method_5_code 11 = .ok (.getfield 22, 3) := by decide +kernel
theorem d14_14 : decode prog_4_method_5_code 14 = .ok (.invokeinterface 91 1, 5) := by decide +kernel
theorem pd10 : parseMethodDescriptor "()I" = some ⟨[], some .int⟩ := by decide +kernel
theorem d14_19 : decode prog_4_method_5_code 19 = .ok (.ireturn, 1) := by decide +kernel
theorem d29_0 : decode jdk_41_method_11_code 0 = .ok (.iload_n 0, 1) := by decide +kernel
theorem d29_1 : decode jdk_41_method_11_code 1 = .ok (.ifCond .lt 8, 3) := by decide +kernel
theorem d29_4 : decode jdk_41_method_11_code 4 = .ok (.iload_n 0, 1) := by decide +kernel
theorem d29_5 : decode jdk_41_method_11_code 5 = .ok (.iload_n 1, 1) := by decide +kernel
theorem d29_6 : decode jdk_41_method_11_code 6 = .ok (.if_icmp .lt 10, 3) := by decide +kernel
theorem d29_16 : decode jdk_41_method_11_code 16 = .ok (.iload_n 0, 1) := by decide +kernel
theorem d29_17 : decode jdk_41_method_11_code 17 = .ok (.ireturn, 1) := by decide +kernel
theorem d28_0 : decode jdk_31_method_17_code 0 = .ok (.iload_n 0, 1) := by decide +kernel
theorem d28_1 : decode jdk_31_method_17_code 1 = .ok (.iload_n 1, 1) := by decide +kernel
theorem d28_2 : decode jdk_31_method_17_code 2 = .ok (.aconst_null, 1) := by decide +kernel
theorem d28_3 : decode jdk_31_method_17_code 3 = .ok (.invokestatic 105, 3) := by decide +kernel
theorem pd11 : parseMethodDescriptor "(IILjava/util/function/BiFunction;)I" = some ⟨[.int, .int, (.object "java/util/function/BiFunction")], some .int⟩ := by decide +kernel
theorem d28_6 : decode jdk_31_method_17_code 6 = .ok (.ireturn, 1) := by decide +kernel
theorem d30_0 : decode jdk_38_method_39_code 0 = .ok (.aload_n 0, 1) := by decide +kernel
theorem d30_1 : decode jdk_38_method_39_code 1 = .ok (.dup, 1) := by decide +kernel
theorem d30_2 : decode jdk_38_method_39_code 2 = .ok (.getfield 63, 3) := by decide +kernel
theorem d30_5 : decode jdk_38_method_39_code 5 = .ok (.iconst 1, 1) := by decide +kernel
theorem d30_6 : decode jdk_38_method_39_code 6 = .ok (.iadd, 1) := by decide +kernel
theorem d30_7 : decode jdk_38_method_39_code 7 = .ok (.putfield 63, 3) := by decide +kernel
theorem d30_10 : decode jdk_38_method_39_code 10 = .ok (.aload_n 0, 1) := by decide +kernel
theorem d30_11 : decode jdk_38_method_39_code 11 = .ok (.getfield 48, 3) := by decide +kernel
theorem d30_14 : decode jdk_38_method_39_code 14 = .ok (.iconst 1, 1) := by decide +kernel
theorem d30_15 : decode jdk_38_method_39_code 15 = .ok (.isub, 1) := by decide +kernel
theorem d30_16 : decode jdk_38_method_39_code 16 = .ok (.dup, 1) := by decide +kernel
theorem d30_17 : decode jdk_38_method_39_code 17 = .ok (.istore_n 3, 1) := by decide +kernel
theorem d30_18 : decode jdk_38_method_39_code 18 = .ok (.iload_n 2, 1) := by decide +kernel
theorem d30_19 : decode jdk_38_method_39_code 19 = .ok (.if_icmp .le 15, 3) := by decide +kernel
theorem d30_34 : decode jdk_38_method_39_code 34 = .ok (.aload_n 1, 1) := by decide +kernel
theorem d30_35 : decode jdk_38_method_39_code 35 = .ok (.aload_n 0, 1) := by decide +kernel
theorem d30_36 : decode jdk_38_method_39_code 36 = .ok (.iload_n 3, 1) := by decide +kernel
theorem d30_37 : decode jdk_38_method_39_code 37 = .ok (.dup_x1, 1) := by decide +kernel
theorem d30_38 : decode jdk_38_method_39_code 38 = .ok (.putfield 48, 3) := by decide +kernel
theorem d30_41 : decode jdk_38_method_39_code 41 = .ok (.aconst_null, 1) := by decide +kernel
theorem d30_42 : decode jdk_38_method_39_code 42 = .ok (.aastore, 1) := by decide +kernel
theorem d30_43 : decode jdk_38_method_39_code 43 = .ok (.return_, 1) := by decide +kernel
theorem d27_0 : decode jdk_38_method_29_code 0 = .ok (.iload_n 1, 1) := by decide +kernel
theorem d27_1 : decode jdk_38_method_29_code 1 = .ok (.aload_n 0, 1) := by decide +kernel
theorem d27_2 : decode jdk_38_method_29_code 2 = .ok (.getfield 48, 3) := by decide +kernel
theorem d27_5 : decode jdk_38_method_29_code 5 = .ok (.invokestatic 118, 3) := by decide +kernel
theorem d27_8 : decode jdk_38_method_29_code 8 = .ok (.pop, 1) := by decide +kernel
theorem d27_9 : decode jdk_38_method_29_code 9 = .ok (.aload_n 0, 1) := by decide +kernel
theorem d27_10 : decode jdk_38_method_29_code 10 = .ok (.getfield 9, 3) := by decide +kernel
theorem d27_13 : decode jdk_38_method_29_code 13 = .ok (.astore_n 2, 1) := by decide +kernel
theorem d27_14 : decode jdk_38_method_29_code 14 = .ok (.aload_n 2, 1) := by decide +kernel
theorem d27_15 : decode jdk_38_method_29_code 15 = .ok (.iload_n 1, 1) := by decide +kernel
theorem d27_16 : decode jdk_38_method_29_code 16 = .ok (.aaload, 1) := by decide +kernel
theorem d27_17 : decode jdk_38_method_29_code 17 = .ok (.astore_n 3, 1) := by decide +kernel
theorem d27_18 : decode jdk_38_method_29_code 18 = .ok (.aload_n 0, 1) := by decide +kernel
theorem d27_19 : decode jdk_38_method_29_code 19 = .ok (.aload_n 2, 1) := by decide +kernel
theorem d27_20 : decode jdk_38_method_29_code 20 = .ok (.iload_n 1, 1) := by decide +kernel
theorem d27_21 : decode jdk_38_method_29_code 21 = .ok (.invokevirtual 144, 3) := by decide +kernel
theorem pd12 : parseMethodDescriptor "([Ljava/lang/Object;I)V" = some ⟨[(.array (.object "java/lang/Object")), .int], none⟩ := by decide +kernel
theorem d27_24 : decode jdk_38_method_29_code 24 = .ok (.aload_n 3, 1) := by decide +kernel
theorem d27_25 : decode jdk_38_method_29_code 25 = .ok (.areturn, 1) := by decide +kernel
theorem d31_0 : decode prog_6_method_5_code 0 = .ok (.aload_n 0, 1) := by decide +kernel
theorem d31_1 : decode prog_6_method_5_code 1 = .ok (.getfield 7, 3) := by decide +kernel
theorem d31_4 : decode prog_6_method_5_code 4 = .ok (.areturn, 1) := by decide +kernel
theorem d26_0 : decode prog_4_method_7_code 0 = .ok (.aload_n 0, 1) := by decide +kernel
theorem d26_1 : decode prog_4_method_7_code 1 = .ok (.getfield 22, 3) := by decide +kernel
theorem d26_4 : decode prog_4_method_7_code 4 = .ok (.invokeinterface 91 1, 5) := by decide +kernel
theorem d26_9 : decode prog_4_method_7_code 9 = .ok (.iconst 1, 1) := by decide +kernel
theorem d26_10 : decode prog_4_method_7_code 10 = .ok (.isub, 1) := by decide +kernel
theorem d26_11 : decode prog_4_method_7_code 11 = .ok (.istore_n 2, 1) := by decide +kernel
theorem d26_12 : decode prog_4_method_7_code 12 = .ok (.iload_n 2, 1) := by decide +kernel
theorem d26_13 : decode prog_4_method_7_code 13 = .ok (.iload_n 1, 1) := by decide +kernel
theorem d26_14 : decode prog_4_method_7_code 14 = .ok (.if_icmp .lt 135, 3) := by decide +kernel
theorem d26_17 : decode prog_4_method_7_code 17 = .ok (.aload_n 0, 1) := by decide +kernel
theorem d26_18 : decode prog_4_method_7_code 18 = .ok (.getfield 22, 3) := by decide +kernel
theorem d26_21 : decode prog_4_method_7_code 21 = .ok (.iload_n 2, 1) := by decide +kernel
theorem d26_22 : decode prog_4_method_7_code 22 = .ok (.invokeinterface 99 2, 5) := by decide +kernel
theorem pd13 : parseMethodDescriptor "(I)Ljava/lang/Object;" = some ⟨[.int], some (.object "java/lang/Object")⟩ := by decide +kernel
theorem d26_27 : decode prog_4_method_7_code 27 = .ok (.checkcast 63, 3) := by decide +kernel
theorem d26_30 : decode prog_4_method_7_code 30 = .ok (.astore_n 3, 1) := by decide +kernel
theorem d26_31 : decode prog_4_method_7_code 31 = .ok (.ldc2_w 57, 3) := by decide +kernel
theorem d26_34 : decode prog_4_method_7_code 34 = .ok (.lstore 4, 2) := by decide +kernel
theorem d26_36 : decode prog_4_method_7_code 36 = .ok (.aload_n 3, 1) := by decide +kernel
theorem d26_37 : decode prog_4_method_7_code 37 = .ok (.invokevirtual 103, 3) := by decide +kernel
theorem pd14 : parseMethodDescriptor "()Ljava/lang/String;" = some ⟨[], some (.object "java/lang/String")⟩ := by decide +kernel
theorem d26_40 : decode prog_4_method_7_code 40 = .ok (.astore 6, 2) := by decide +kernel
theorem d26_42 : decode prog_4_method_7_code 42 = .ok (.aload 6, 2) := by decide +kernel
theorem d26_44 : decode prog_4_method_7_code 44 = .ok (.ifnonnull 16, 3) := by decide +kernel
theorem d26_47 : decode prog_4_method_7_code 47 = .ok (.aload_n 0, 1) := by decide +kernel
theorem d26_48 : decode prog_4_method_7_code 48 = .ok (.dup, 1) := by decide +kernel
theorem d26_49 : decode prog_4_method_7_code 49 = .ok (.getfield 81, 3) := by decide +kernel
theorem d26_52 : decode prog_4_method_7_code 52 = .ok (.iconst 1, 1) := by decide +kernel
theorem d26_53 : decode prog_4_method_7_code 53 = .ok (.isub, 1) := by decide +kernel
theorem d26_54 : decode prog_4_method_7_code 54 = .ok (.putfield 81, 3) := by decide +kernel
theorem d26_57 : decode prog_4_method_7_code 57 = .ok (.goto 77, 3) := by decide +kernel
theorem d26_134 : decode prog_4_method_7_code 134 = .ok (.aload_n 0, 1) := by decide +kernel
theorem d26_135 : decode prog_4_method_7_code 135 = .ok (.getfield 26, 3) := by decide +kernel
theorem d26_138 : decode prog_4_method_7_code 138 = .ok (.lload 4, 2) := by decide +kernel
theorem d26_140 : decode prog_4_method_7_code 140 = .ok (.invokevirtual 78, 3) := by decide +kernel
theorem d26_143 : decode prog_4_method_7_code 143 = .ok (.iinc 2 (-1), 3) := by decide +kernel
theorem d26_146 : decode prog_4_method_7_code 146 = .ok (.goto (-134), 3) := by decide +kernel
theorem d26_149 : decode prog_4_method_7_code 149 = .ok (.return_, 1) := by decide +kernel
theorem d25_0 : decode prog_4_method_6_code 0 = .ok (.aload_n 0, 1) := by decide +kernel
theorem d25_1 : decode prog_4_method_6_code 1 = .ok (.iload_n 1, 1) := by decide +kernel
theorem d25_2 : decode prog_4_method_6_code 2 = .ok (.invokevirtual 95, 3) := by decide +kernel
theorem pd15 : parseMethodDescriptor "(I)V" = some ⟨[.int], none⟩ := by decide +kernel
theorem d25_5 : decode prog_4_method_6_code 5 = .ok (.aload_n 0, 1) := by decide +kernel
theorem d25_6 : decode prog_4_method_6_code 6 = .ok (.dup, 1) := by decide +kernel
theorem d25_7 : decode prog_4_method_6_code 7 = .ok (.getfield 53, 3) := by decide +kernel
theorem d25_10 : decode prog_4_method_6_code 10 = .ok (.iconst 1, 1) := by decide +kernel
theorem d25_11 : decode prog_4_method_6_code 11 = .ok (.isub, 1) := by decide +kernel
theorem d25_12 : decode prog_4_method_6_code 12 = .ok (.putfield 53, 3) := by decide +kernel
theorem d25_15 : decode prog_4_method_6_code 15 = .ok (.return_, 1) := by decide +kernel
theorem pd16 : parseMethodDescriptor "()Lcom/example/tenon/tenon/Budget;" = some ⟨[], some (.object "com/example/tenon/tenon/Budget")⟩ := by decide +kernel
theorem pd17 : parseMethodDescriptor "(Lcom/example/tenon/tenon/Budget;)V" = some ⟨[(.object "com/example/tenon/tenon/Budget")], none⟩ := by decide +kernel
theorem pn0 : plainName "java/util/AbstractMap" = true := by first | (simp [plainName, overriddenIn]; done) | decide +kernel
theorem pn1 : plainName "java/util/HashMap" = true := by first | (simp [plainName, overriddenIn]; done) | decide +kernel
theorem pn2 : plainName "java/util/LinkedHashMap" = true := by first | (simp [plainName, overriddenIn]; done) | decide +kernel
theorem pn3 : plainName "java/util/AbstractCollection" = true := by first | (simp [plainName, overriddenIn]; done) | decide +kernel
theorem pn4 : plainName "java/util/AbstractList" = true := by first | (simp [plainName, overriddenIn]; done) | decide +kernel
theorem pn5 : plainName "java/util/ArrayList" = true := by first | (simp [plainName, overriddenIn]; done) | decide +kernel
theorem pn6 : plainName "com/example/tenon/tenon/Budget" = true := by first | (simp [plainName, overriddenIn]; done) | decide +kernel
theorem pn7 : plainName "com/example/tenon/tenon/Assignments" = true := by first | (simp [plainName, overriddenIn]; done) | decide +kernel
theorem pn8 : plainName "java/lang/Record" = true := by first | (simp [plainName, overriddenIn]; done) | decide +kernel
theorem pn9 : plainName "com/example/tenon/tenon/Assignments$Changed" = true := by first | (simp [plainName, overriddenIn]; done) | decide +kernel
theorem pn10 : plainName "jdk/internal/util/Preconditions" = true := by first | (simp [plainName, overriddenIn]; done) | decide +kernel
theorem pn11 : plainName "java/util/Objects" = true := by first | (simp [plainName, overriddenIn]; done) | decide +kernel
theorem pn12 : plainName "com/example/tenon/tenon/AssignmentsIsBlindPinLaw" = true := by first | (simp [plainName, overriddenIn]; done) | decide +kernel
theorem ef8 (m : MethodId) (x0 : Addr) : entryFrame m #[(.ref x0)] 1 = mkF m 0 #[.val (.ref x0)] [] := by first | (simp [entryFrame, mkF, argsToLocals, Value.category]; done) | rfl
def Q8 (Z : State) (a0 : Addr) (h0 : Heap) (n0 : Nat) (v : Option Value) (h : Heap) (L : List Loc) : Prop := v = none ∧ Fr n0 L ∧ h = h0
set_option maxRecDepth 65536 in
set_option maxHeartbeats 40000000 in
theorem rm8 (l : Launch) (Z : State) (a0' : Array Value) (hw : ∀ d ∈ tables_1, d.before a0' Z = true) (ws : List Jvm.Cond) (a0 : Addr) (h0 : Heap) (n0 : Nat) (Z0 : n0 ≤ h0.size) :
    MetFree l (⟨"java/util/AbstractMap", "<init>", "()V"⟩ : MethodName) (head1 (Jvm.Cond.code (⟨"java/util/AbstractMap", "<init>", "()V"⟩ : MethodName) jdk_71_method_1_code 1 none :: ws) ({ frames := 1, cells := 0, slots := 0, locals := 12 } : Room)) (fun a U => a = #[(.ref a0)] ∧ Z.Warmed39 U.vm ∧ U.heap = h0) (fun _ _ _ _ _ => True) (fun _ U o U' => ∃ v L, o = .returned v ∧ Q8 Z a0 h0 n0 v U'.heap L ∧ FrameEnd U o U' L ({ frames := 1, cells := 0, slots := 0, locals := 12 } : Room).cells ({ frames := 1, cells := 0, slots := 0, locals := 12 } : Room).slots) := by
  refine MetFree.of_bodySF (plainFor_of_name pn0) hisR ?_
  intro p e s m args below meth c s₁ Bd hml0 hP hK
  obtain ⟨rfl, hZ, hh⟩ := hP
  have hx := Bd.exec
  have hby := Bd.bytes
  have hml : c.maxLocals = 1 := hml0
  have hown' := findClass_of_methodNamed Bd.named
  have hown : s.vm.findClass "java/util/AbstractMap" = some m.cls := hown'
  have hnm := (name_of_methodNamed Bd.named Bd.method).1
  have X0 : Stand p l e ({ frames := 1, cells := 0, slots := 0, locals := 12 } : Room) s m #[(.ref a0)] below meth c s₁ [] 0 0 := Stand.of_body Bd
  have e0 : s₁.heap = h0 := by rw [← hh, Bd.state]; rfl
  have N0 := Fr.nil n0
  have hlk : meth.locks = false := by first | exact BodyLoose.notSynchronized Bd | exact Body.notSynchronized Bd
  have pre0 : ∀ t, Steps p.tables e below (s₁.setTop (mkF m 0 #[.val (.ref a0)] [])) t → Steps p.tables e below (s₁.setTop (entryFrame m #[(.ref a0)] 1)) t := fun t k => castTop (ef8 m a0) k
  obtain ⟨T1, X1, e1, st1⟩ := initO X0 hx hZ hown (hw _ (List.mem_of_getElem? (i := 43) rfl)) (hw _ (List.mem_of_getElem? (i := 11) rfl)) (hw _ (List.mem_of_getElem? (i := 12) rfl)) e0 (g := (mkF m 1 #[.val (.ref a0)] [(.ref a0)])) rfl (by rw [hml]; rfl) rfl (hb hby d8_1) (by decide) (W := 0) (by show 2 * 0 + _ ≤ _; exact Nat.le_of_eq rfl) (by decide)
  have pre2 : ∀ t, Steps p.tables e below (T1.setTop (mkF m 4 #[.val (.ref a0)] [])) t → Steps p.tables e below (s₁.setTop (entryFrame m #[(.ref a0)] 1)) t := fun t k => pre0 t (by
    show Steps p.tables e below (s₁.setTop (mkF m 0 #[.val (.ref a0)] [])) _
    refine XS.aloadN X0.here hx rfl (hb hby d8_0) rfl rfl ?_
    show Steps p.tables e below (s₁.setTop (mkF m 1 #[.val (.ref a0)] [(.ref a0)])) _
    refine st1 _ ?_
    exact k)
  obtain ⟨fs, hr, hrun, hended, hW, hsame⟩ := X1.leave (v := none) (fun _ => rfl) hlk
  exact ⟨_, _, pre2 _ (X1.returnOut hx Bd.returns (hb hby d8_4) hr), hrun, hended, _, _, rfl, ⟨rfl, N0, e1⟩, ⟨_, rfl⟩, hW, hsame.mono (by decide) (by decide)⟩
theorem ef7 (m : MethodId) (x0 : Addr) : entryFrame m #[(.ref x0)] 1 = mkF m 0 #[.val (.ref x0)] [] := by first | (simp [entryFrame, mkF, argsToLocals, Value.category]; done) | rfl
def Q7 (Z : State) (a0 : Addr) (wa0_loadFactor : UInt32) (wa0_putMode : Int32) (wa0_accessOrder : Int32) (h0 : Heap) (n0 : Nat) (v : Option Value) (h : Heap) (L : List Loc) : Prop := v = none ∧ Fr n0 L ∧ Keep h0 h [a0] ∧ Exa Z h a0 "java/util/LinkedHashMap" ∧ Fld Z h a0 "java/util/HashMap" "loadFactor" "F" (.float (1061158912 : UInt32)) ∧ Fld Z h a0 "java/util/LinkedHashMap" "putMode" "I" (.int wa0_putMode) ∧ Fld Z h a0 "java/util/LinkedHashMap" "accessOrder" "Z" (.int wa0_accessOrder)
set_option maxRecDepth 65536 in
set_option maxHeartbeats 40000000 in
theorem rm7 (l : Launch) (Z : State) (a0' : Array Value) (hw : ∀ d ∈ tables_1, d.before a0' Z = true) (ws : List Jvm.Cond) (a0 : Addr) (wa0_loadFactor : UInt32) (wa0_putMode : Int32) (wa0_accessOrder : Int32) (h0 : Heap) (n0 : Nat) (Z0 : n0 ≤ h0.size) (E_a0 : Exa Z h0 a0 "java/util/LinkedHashMap") (F_wa0_loadFactor : Fld Z h0 a0 "java/util/HashMap" "loadFactor" "F" (.float wa0_loadFactor)) (F_wa0_putMode : Fld Z h0 a0 "java/util/LinkedHashMap" "putMode" "I" (.int wa0_putMode)) (F_wa0_accessOrder : Fld Z h0 a0 "java/util/LinkedHashMap" "accessOrder" "Z" (.int wa0_accessOrder)) (g_a0 : n0 ≤ a0) :
    MetFree l (⟨"java/util/HashMap", "<init>", "()V"⟩ : MethodName) (head1 (Jvm.Cond.code (⟨"java/util/HashMap", "<init>", "()V"⟩ : MethodName) jdk_69_method_7_code 1 none :: ws) ({ frames := 2, cells := 0, slots := 0, locals := 24 } : Room)) (fun a U => a = #[(.ref a0)] ∧ Z.Warmed39 U.vm ∧ U.heap = h0) (fun _ _ _ _ _ => True) (fun _ U o U' => ∃ v L, o = .returned v ∧ Q7 Z a0 wa0_loadFactor wa0_putMode wa0_accessOrder h0 n0 v U'.heap L ∧ FrameEnd U o U' L ({ frames := 2, cells := 0, slots := 0, locals := 24 } : Room).cells ({ frames := 2, cells := 0, slots := 0, locals := 24 } : Room).slots) := by
  refine MetFree.of_bodySF (plainFor_of_name pn1) hisR ?_
  intro p e s m args below meth c s₁ Bd hml0 hP hK
  obtain ⟨rfl, hZ, hh⟩ := hP
  have hx := Bd.exec
  have hby := Bd.bytes
  have hml : c.maxLocals = 1 := hml0
  have hown' := findClass_of_methodNamed Bd.named
  have hown : s.vm.findClass "java/util/HashMap" = some m.cls := hown'
  have hnm := (name_of_methodNamed Bd.named Bd.method).1
  have X0 : Stand p l e ({ frames := 2, cells := 0, slots := 0, locals := 24 } : Room) s m #[(.ref a0)] below meth c s₁ [] 0 0 := Stand.of_body Bd
  have e0 : s₁.heap = h0 := by rw [← hh, Bd.state]; rfl
  have N0 := Fr.nil n0
  have hlk : meth.locks = false := by first | exact BodyLoose.notSynchronized Bd | exact Body.notSynchronized Bd
  have pre0 : ∀ t, Steps p.tables e below (s₁.setTop (mkF m 0 #[.val (.ref a0)] [])) t → Steps p.tables e below (s₁.setTop (entryFrame m #[(.ref a0)] 1)) t := fun t k => castTop (ef7 m a0) k
  obtain ⟨_, _, ⟨T1, L1, k1, n1⟩, -, X1, ⟨Lc1, hQ1, l1, y1, z1⟩, st1⟩ := X0.specialBack hx (y := (⟨"java/util/AbstractMap", "<init>", "()V"⟩ : MethodName)) rfl hown (mvT hZ (hw _ (List.mem_of_getElem? (i := 37) rfl))) (mvT hZ (hw _ (List.mem_of_getElem? (i := 38) rfl))) (mvT hZ (hw _ (List.mem_of_getElem? (i := 42) rfl))) (by decide) (backOf (W := 0) (rm8 l Z a0' hw [] a0 h0 n0 Z0) hZ (hw _ (List.mem_of_getElem? (i := 42) rfl)) (hw _ (List.mem_of_getElem? (i := 41) rfl)) (by decide) (by decide)) (g := (mkF m 1 #[.val (.ref a0)] [(.ref a0)])) rfl (by rw [hml]; rfl) (Steps.refl _) (a := a0) (argsL := []) (rest := []) (lenOf pd0 rfl) rfl (by show 2 * 0 + _ ≤ _; exact Nat.le_of_eq rfl) (hb hby d7_1) (fun _ _ => ⟨rfl, e0, (by decide : 0 + 0 ≤ _), (by decide : 0 + 0 ≤ _)⟩)
  dsimp only [Pt.U, Pt.locs, Pt.cells, Pt.slots] at X1 l1 y1 z1 st1 hQ1
  subst l1 y1 z1
  obtain ⟨rfl, N1q, e1⟩ := hQ1
  have N1 := Fr.app N0 N1q
  obtain ⟨T2, h2, X2, e2, W2, st2⟩ := putF X1 hx hZ hown (host := "") (Or.inl (hw _ (List.mem_of_getElem? (i := 45) rfl))) Via.refl e1 F_wa0_loadFactor E_a0 (Or.inr ⟨(hw _ (List.mem_of_getElem? (i := 46) rfl)), rfl, hnm⟩) (hw _ (List.mem_of_getElem? (i := 26) rfl)) (ty := .float) (by decide) rfl rfl (g := (mkF m 7 #[.val (.ref a0)] [(.float (1061158912 : UInt32)), (.ref a0)])) rfl rfl (hb hby d7_7)
  have Z2 : n0 ≤ h2.size := Nat.le_trans Z0 (Keep.of_wr W2).1
  have N2 := Fr.snoc X2 N1 g_a0
  have KC2 : Keep h0 h2 [a0] := (Keep.refl h0 [a0]).wr W2 (Or.inl (List.mem_of_getElem? (i := 0) rfl))
  have Fw2 := F_wa0_loadFactor.same W2
  have pre3 : ∀ t, Steps p.tables e below (T2.setTop (mkF m 10 #[.val (.ref a0)] [])) t → Steps p.tables e below (s₁.setTop (entryFrame m #[(.ref a0)] 1)) t := fun t k => pre0 t (by
    show Steps p.tables e below (s₁.setTop (mkF m 0 #[.val (.ref a0)] [])) _
    refine XS.aloadN X0.here hx rfl (hb hby d7_0) rfl rfl ?_
    show Steps p.tables e below (s₁.setTop (mkF m 1 #[.val (.ref a0)] [(.ref a0)])) _
    refine st1.trans ?_
    show Steps p.tables e below (T1.setTop (mkF m 4 #[.val (.ref a0)] [])) _
    refine XS.aloadN X1.here hx rfl (hb hby d7_4) rfl rfl ?_
    show Steps p.tables e below (T1.setTop (mkF m 5 #[.val (.ref a0)] [(.ref a0)])) _
    refine X1.ldcFloatC hx hown (mvT hZ (hw _ (List.mem_of_getElem? (i := 44) rfl))) (g := (mkF m 5 #[.val (.ref a0)] [(.ref a0)])) rfl (hb hby d7_5) _ ?_
    show Steps p.tables e below (T1.setTop (mkF m 7 #[.val (.ref a0)] [(.float (1061158912 : UInt32)), (.ref a0)])) _
    refine st2 _ ?_
    exact k)
  obtain ⟨fs, hr, hrun, hended, hW, hsame⟩ := X2.leave (v := none) (fun _ => rfl) hlk
  have y4 := (E_a0.wr W2)
  have y5 := (F_wa0_putMode.other W2 (Or.inr (slot_ne (Or.inl (hw _ (List.mem_of_getElem? (i := 48) rfl))) (Or.inr (hw _ (List.mem_of_getElem? (i := 46) rfl))) (by decide) (t := .int) (t' := .float) (by decide) (by decide))))
  have y6 := (F_wa0_accessOrder.other W2 (Or.inr (slot_ne (Or.inr (hw _ (List.mem_of_getElem? (i := 50) rfl))) (Or.inr (hw _ (List.mem_of_getElem? (i := 46) rfl))) (by decide) (t := .boolean) (t' := .float) (by decide) (by decide))))
  exact ⟨_, _, pre3 _ (X2.returnOut hx Bd.returns (hb hby d7_10) hr), hrun, hended, _, _, rfl, (by show Q7 Z a0 wa0_loadFactor wa0_putMode wa0_accessOrder h0 n0 _ T2.heap _; rw [e2]; exact ⟨rfl, N2, KC2, y4, Fw2, y5, y6⟩), ⟨_, rfl⟩, hW, hsame.mono (by decide) (by decide)⟩
theorem ef6 (m : MethodId) (x0 : Addr) : entryFrame m #[(.ref x0)] 1 = mkF m 0 #[.val (.ref x0)] [] := by first | (simp [entryFrame, mkF, argsToLocals, Value.category]; done) | rfl
def Q6 (Z : State) (a0 : Addr) (wa0_loadFactor : UInt32) (wa0_putMode : Int32) (wa0_accessOrder : Int32) (h0 : Heap) (n0 : Nat) (v : Option Value) (h : Heap) (L : List Loc) : Prop := v = none ∧ Fr n0 L ∧ Keep h0 h [a0] ∧ Exa Z h a0 "java/util/LinkedHashMap" ∧ Fld Z h a0 "java/util/HashMap" "loadFactor" "F" (.float (1061158912 : UInt32)) ∧ Fld Z h a0 "java/util/LinkedHashMap" "putMode" "I" (.int (0 : Int32)) ∧ Fld Z h a0 "java/util/LinkedHashMap" "accessOrder" "Z" (.int ((0 : Int32) &&& 1))
set_option maxRecDepth 65536 in
set_option maxHeartbeats 40000000 in
theorem rm6 (l : Launch) (Z : State) (a0' : Array Value) (hw : ∀ d ∈ tables_1, d.before a0' Z = true) (ws : List Jvm.Cond) (a0 : Addr) (wa0_loadFactor : UInt32) (wa0_putMode : Int32) (wa0_accessOrder : Int32) (h0 : Heap) (n0 : Nat) (Z0 : n0 ≤ h0.size) (E_a0 : Exa Z h0 a0 "java/util/LinkedHashMap") (F_wa0_loadFactor : Fld Z h0 a0 "java/util/HashMap" "loadFactor" "F" (.float wa0_loadFactor)) (F_wa0_putMode : Fld Z h0 a0 "java/util/LinkedHashMap" "putMode" "I" (.int wa0_putMode)) (F_wa0_accessOrder : Fld Z h0 a0 "java/util/LinkedHashMap" "accessOrder" "Z" (.int wa0_accessOrder)) (g_a0 : n0 ≤ a0) :
    MetFree l (⟨"java/util/LinkedHashMap", "<init>", "()V"⟩ : MethodName) (head1 (Jvm.Cond.code (⟨"java/util/LinkedHashMap", "<init>", "()V"⟩ : MethodName) jdk_94_method_16_code 1 none :: ws) ({ frames := 3, cells := 0, slots := 0, locals := 36 } : Room)) (fun a U => a = #[(.ref a0)] ∧ Z.Warmed39 U.vm ∧ U.heap = h0) (fun _ _ _ _ _ => True) (fun _ U o U' => ∃ v L, o = .returned v ∧ Q6 Z a0 wa0_loadFactor wa0_putMode wa0_accessOrder h0 n0 v U'.heap L ∧ FrameEnd U o U' L ({ frames := 3, cells := 0, slots := 0, locals := 36 } : Room).cells ({ frames := 3, cells := 0, slots := 0, locals := 36 } : Room).slots) := by
  refine MetFree.of_bodySF (plainFor_of_name pn2) hisR ?_
  intro p e s m args below meth c s₁ Bd hml0 hP hK
  obtain ⟨rfl, hZ, hh⟩ := hP
  have hx := Bd.exec
  have hby := Bd.bytes
  have hml : c.maxLocals = 1 := hml0
  have hown' := findClass_of_methodNamed Bd.named
  have hown : s.vm.findClass "java/util/LinkedHashMap" = some m.cls := hown'
  have hnm := (name_of_methodNamed Bd.named Bd.method).1
  have X0 : Stand p l e ({ frames := 3, cells := 0, slots := 0, locals := 36 } : Room) s m #[(.ref a0)] below meth c s₁ [] 0 0 := Stand.of_body Bd
  have e0 : s₁.heap = h0 := by rw [← hh, Bd.state]; rfl
  have N0 := Fr.nil n0
  have hlk : meth.locks = false := by first | exact BodyLoose.notSynchronized Bd | exact Body.notSynchronized Bd
  have pre0 : ∀ t, Steps p.tables e below (s₁.setTop (mkF m 0 #[.val (.ref a0)] [])) t → Steps p.tables e below (s₁.setTop (entryFrame m #[(.ref a0)] 1)) t := fun t k => castTop (ef6 m a0) k
  obtain ⟨_, _, ⟨T1, L1, k1, n1⟩, -, X1, ⟨Lc1, hQ1, l1, y1, z1⟩, st1⟩ := X0.specialBack hx (y := (⟨"java/util/HashMap", "<init>", "()V"⟩ : MethodName)) rfl hown (mvT hZ (hw _ (List.mem_of_getElem? (i := 31) rfl))) (mvT hZ (hw _ (List.mem_of_getElem? (i := 32) rfl))) (mvT hZ (hw _ (List.mem_of_getElem? (i := 36) rfl))) (by decide) (backOf (W := 0) (rm7 l Z a0' hw [] a0 wa0_loadFactor wa0_putMode wa0_accessOrder h0 n0 Z0 E_a0 F_wa0_loadFactor F_wa0_putMode F_wa0_accessOrder g_a0) hZ (hw _ (List.mem_of_getElem? (i := 36) rfl)) (hw _ (List.mem_of_getElem? (i := 35) rfl)) (by decide) (by decide)) (g := (mkF m 1 #[.val (.ref a0)] [(.ref a0)])) rfl (by rw [hml]; rfl) (Steps.refl _) (a := a0) (argsL := []) (rest := []) (lenOf pd0 rfl) rfl (by show 2 * 0 + _ ≤ _; exact Nat.le_of_eq rfl) (hb hby d6_1) (fun _ _ => ⟨rfl, e0, (by decide : 0 + 0 ≤ _), (by decide : 0 + 0 ≤ _)⟩)
  dsimp only [Pt.U, Pt.locs, Pt.cells, Pt.slots] at X1 l1 y1 z1 st1 hQ1
  subst l1 y1 z1
  obtain ⟨rfl, N1q, K1, u1_0, u1_1, u1_2, u1_3⟩ := hQ1
  have N1 := Fr.app N0 N1q
  have Z1 : n0 ≤ T1.heap.size := Nat.le_trans Z0 K1.1
  have KC1 : Keep h0 T1.heap [a0] := (Keep.refl h0 [a0]).trans K1 (allS (Or.inl (List.mem_of_getElem? (i := 0) rfl)) all0)
  obtain ⟨T2, h2, X2, e2, W2, st2⟩ := putF X1 hx hZ hown (host := "") (Or.inl (hw _ (List.mem_of_getElem? (i := 47) rfl))) Via.refl rfl u1_2 u1_0 (Or.inl (hw _ (List.mem_of_getElem? (i := 48) rfl))) (hw _ (List.mem_of_getElem? (i := 26) rfl)) (ty := .int) (by decide) rfl rfl (g := (mkF m 6 #[.val (.ref a0)] [(.int (0 : Int32)), (.ref a0)])) rfl rfl (hb hby d6_6)
  have Z2 : n0 ≤ h2.size := Nat.le_trans Z1 (Keep.of_wr W2).1
  have N2 := Fr.snoc X2 N1 g_a0
  have KC2 : Keep h0 h2 [a0] := KC1.wr W2 (Or.inl (List.mem_of_getElem? (i := 0) rfl))
  have Fw2 := u1_2.same W2
  have y3 := (u1_0.wr W2)
  have y4 := (u1_3.other W2 (Or.inr (slot_ne (Or.inr (hw _ (List.mem_of_getElem? (i := 50) rfl))) (Or.inl (hw _ (List.mem_of_getElem? (i := 48) rfl))) (by decide) (t := .boolean) (t' := .int) (by decide) (by decide))))
  obtain ⟨T5, h5, X5, e5, W5, st5⟩ := putFN X2 hx hZ hown (hw _ (List.mem_of_getElem? (i := 49) rfl)) Via.refl e2 y4 y3 (Or.inr ⟨(hw _ (List.mem_of_getElem? (i := 50) rfl)), rfl, hnm⟩) (hw _ (List.mem_of_getElem? (i := 26) rfl)) (ty := .boolean) (v' := .int ((0 : Int32) &&& 1)) (by decide) rfl (fits_nar_bool _) (g := (mkF m 11 #[.val (.ref a0)] [(.int (0 : Int32)), (.ref a0)])) rfl rfl (hb hby d6_11)
  have Z5 : n0 ≤ h5.size := Nat.le_trans Z2 (Keep.of_wr W5).1
  have N5 := Fr.snoc X5 N2 g_a0
  have KC5 : Keep h0 h5 [a0] := KC2.wr W5 (Or.inl (List.mem_of_getElem? (i := 0) rfl))
  have Fw5 := y4.same W5
  have pre6 : ∀ t, Steps p.tables e below (T5.setTop (mkF m 14 #[.val (.ref a0)] [])) t → Steps p.tables e below (s₁.setTop (entryFrame m #[(.ref a0)] 1)) t := fun t k => pre0 t (by
    show Steps p.tables e below (s₁.setTop (mkF m 0 #[.val (.ref a0)] [])) _
    refine XS.aloadN X0.here hx rfl (hb hby d6_0) rfl rfl ?_
    show Steps p.tables e below (s₁.setTop (mkF m 1 #[.val (.ref a0)] [(.ref a0)])) _
    refine st1.trans ?_
    show Steps p.tables e below (T1.setTop (mkF m 4 #[.val (.ref a0)] [])) _
    refine XS.aloadN X1.here hx rfl (hb hby d6_4) rfl rfl ?_
    show Steps p.tables e below (T1.setTop (mkF m 5 #[.val (.ref a0)] [(.ref a0)])) _
    refine XS.iconst X1.here hx rfl (hb hby d6_5) ?_
    show Steps p.tables e below (T1.setTop (mkF m 6 #[.val (.ref a0)] [(.int (0 : Int32)), (.ref a0)])) _
    refine st2 _ ?_
    show Steps p.tables e below (T2.setTop (mkF m 9 #[.val (.ref a0)] [])) _
    refine XS.aloadN X2.here hx rfl (hb hby d6_9) rfl rfl ?_
    show Steps p.tables e below (T2.setTop (mkF m 10 #[.val (.ref a0)] [(.ref a0)])) _
    refine XS.iconst X2.here hx rfl (hb hby d6_10) ?_
    show Steps p.tables e below (T2.setTop (mkF m 11 #[.val (.ref a0)] [(.int (0 : Int32)), (.ref a0)])) _
    refine st5 _ ?_
    exact k)
  obtain ⟨fs, hr, hrun, hended, hW, hsame⟩ := X5.leave (v := none) (fun _ => rfl) hlk
  have y7 := (y3.wr W5)
  have y8 := ((u1_1.other W2 (Or.inr (slot_ne (Or.inr (hw _ (List.mem_of_getElem? (i := 46) rfl))) (Or.inl (hw _ (List.mem_of_getElem? (i := 48) rfl))) (by decide) (t := .float) (t' := .int) (by decide) (by decide)))).other W5 (Or.inr (slot_ne (Or.inr (hw _ (List.mem_of_getElem? (i := 46) rfl))) (Or.inr (hw _ (List.mem_of_getElem? (i := 50) rfl))) (by decide) (t := .float) (t' := .boolean) (by decide) (by decide))))
  have y9 := (Fw2.other W5 (Or.inr (slot_ne (Or.inl (hw _ (List.mem_of_getElem? (i := 48) rfl))) (Or.inr (hw _ (List.mem_of_getElem? (i := 50) rfl))) (by decide) (t := .int) (t' := .boolean) (by decide) (by decide))))
  exact ⟨_, _, pre6 _ (X5.returnOut hx Bd.returns (hb hby d6_14) hr), hrun, hended, _, _, rfl, (by show Q6 Z a0 wa0_loadFactor wa0_putMode wa0_accessOrder h0 n0 _ T5.heap _; rw [e5]; exact ⟨rfl, N5, KC5, y7, y8, y9, Fw5⟩), ⟨_, rfl⟩, hW, hsame.mono (by decide) (by decide)⟩
theorem ef11 (m : MethodId) (x0 : Addr) : entryFrame m #[(.ref x0)] 1 = mkF m 0 #[.val (.ref x0)] [] := by first | (simp [entryFrame, mkF, argsToLocals, Value.category]; done) | rfl
def Q11 (Z : State) (a0 : Addr) (h0 : Heap) (n0 : Nat) (v : Option Value) (h : Heap) (L : List Loc) : Prop := v = none ∧ Fr n0 L ∧ h = h0
set_option maxRecDepth 65536 in
set_option maxHeartbeats 40000000 in
theorem rm11 (l : Launch) (Z : State) (a0' : Array Value) (hw : ∀ d ∈ tables_1, d.before a0' Z = true) (ws : List Jvm.Cond) (a0 : Addr) (h0 : Heap) (n0 : Nat) (Z0 : n0 ≤ h0.size) :
    MetFree l (⟨"java/util/AbstractCollection", "<init>", "()V"⟩ : MethodName) (head1 (Jvm.Cond.code (⟨"java/util/AbstractCollection", "<init>", "()V"⟩ : MethodName) jdk_22_method_1_code 1 none :: ws) ({ frames := 1, cells := 0, slots := 0, locals := 12 } : Room)) (fun a U => a = #[(.ref a0)] ∧ Z.Warmed39 U.vm ∧ U.heap = h0) (fun _ _ _ _ _ => True) (fun _ U o U' => ∃ v L, o = .returned v ∧ Q11 Z a0 h0 n0 v U'.heap L ∧ FrameEnd U o U' L ({ frames := 1, cells := 0, slots := 0, locals := 12 } : Room).cells ({ frames := 1, cells := 0, slots := 0, locals := 12 } : Room).slots) := by
  refine MetFree.of_bodySF (plainFor_of_name pn3) hisR ?_
  intro p e s m args below meth c s₁ Bd hml0 hP hK
  obtain ⟨rfl, hZ, hh⟩ := hP
  have hx := Bd.exec
  have hby := Bd.bytes
  have hml : c.maxLocals = 1 := hml0
  have hown' := findClass_of_methodNamed Bd.named
  have hown : s.vm.findClass "java/util/AbstractCollection" = some m.cls := hown'
  have hnm := (name_of_methodNamed Bd.named Bd.method).1
  have X0 : Stand p l e ({ frames := 1, cells := 0, slots := 0, locals := 12 } : Room) s m #[(.ref a0)] below meth c s₁ [] 0 0 := Stand.of_body Bd
  have e0 : s₁.heap = h0 := by rw [← hh, Bd.state]; rfl
  have N0 := Fr.nil n0
  have hlk : meth.locks = false := by first | exact BodyLoose.notSynchronized Bd | exact Body.notSynchronized Bd
  have pre0 : ∀ t, Steps p.tables e below (s₁.setTop (mkF m 0 #[.val (.ref a0)] [])) t → Steps p.tables e below (s₁.setTop (entryFrame m #[(.ref a0)] 1)) t := fun t k => castTop (ef11 m a0) k
  obtain ⟨T1, X1, e1, st1⟩ := initO X0 hx hZ hown (hw _ (List.mem_of_getElem? (i := 71) rfl)) (hw _ (List.mem_of_getElem? (i := 11) rfl)) (hw _ (List.mem_of_getElem? (i := 12) rfl)) e0 (g := (mkF m 1 #[.val (.ref a0)] [(.ref a0)])) rfl (by rw [hml]; rfl) rfl (hb hby d11_1) (by decide) (W := 0) (by show 2 * 0 + _ ≤ _; exact Nat.le_of_eq rfl) (by decide)
  have pre2 : ∀ t, Steps p.tables e below (T1.setTop (mkF m 4 #[.val (.ref a0)] [])) t → Steps p.tables e below (s₁.setTop (entryFrame m #[(.ref a0)] 1)) t := fun t k => pre0 t (by
    show Steps p.tables e below (s₁.setTop (mkF m 0 #[.val (.ref a0)] [])) _
    refine XS.aloadN X0.here hx rfl (hb hby d11_0) rfl rfl ?_
    show Steps p.tables e below (s₁.setTop (mkF m 1 #[.val (.ref a0)] [(.ref a0)])) _
    refine st1 _ ?_
    exact k)
  obtain ⟨fs, hr, hrun, hended, hW, hsame⟩ := X1.leave (v := none) (fun _ => rfl) hlk
  exact ⟨_, _, pre2 _ (X1.returnOut hx Bd.returns (hb hby d11_4) hr), hrun, hended, _, _, rfl, ⟨rfl, N0, e1⟩, ⟨_, rfl⟩, hW, hsame.mono (by decide) (by decide)⟩
theorem ef10 (m : MethodId) (x0 : Addr) : entryFrame m #[(.ref x0)] 1 = mkF m 0 #[.val (.ref x0)] [] := by first | (simp [entryFrame, mkF, argsToLocals, Value.category]; done) | rfl
def Q10 (Z : State) (a0 : Addr) (wa0_modCount : Int32) (wa0_elementData : Value) (wa0_size : Int32) (h0 : Heap) (n0 : Nat) (v : Option Value) (h : Heap) (L : List Loc) : Prop := v = none ∧ Fr n0 L ∧ Keep h0 h [a0] ∧ Exa Z h a0 "java/util/ArrayList" ∧ Fld Z h a0 "java/util/AbstractList" "modCount" "I" (.int (0 : Int32)) ∧ Fld Z h a0 "java/util/ArrayList" "elementData" "[Ljava/lang/Object;" wa0_elementData ∧ Fld Z h a0 "java/util/ArrayList" "size" "I" (.int wa0_size)
set_option maxRecDepth 65536 in
set_option maxHeartbeats 40000000 in
theorem rm10 (l : Launch) (Z : State) (a0' : Array Value) (hw : ∀ d ∈ tables_1, d.before a0' Z = true) (ws : List Jvm.Cond) (a0 : Addr) (wa0_modCount : Int32) (wa0_elementData : Value) (wa0_size : Int32) (h0 : Heap) (n0 : Nat) (Z0 : n0 ≤ h0.size) (E_a0 : Exa Z h0 a0 "java/util/ArrayList") (F_wa0_modCount : Fld Z h0 a0 "java/util/AbstractList" "modCount" "I" (.int wa0_modCount)) (F_wa0_elementData : Fld Z h0 a0 "java/util/ArrayList" "elementData" "[Ljava/lang/Object;" wa0_elementData) (F_wa0_size : Fld Z h0 a0 "java/util/ArrayList" "size" "I" (.int wa0_size)) (g_a0 : n0 ≤ a0) :
    MetFree l (⟨"java/util/AbstractList", "<init>", "()V"⟩ : MethodName) (head1 (Jvm.Cond.code (⟨"java/util/AbstractList", "<init>", "()V"⟩ : MethodName) jdk_39_method_1_code 1 none :: ws) ({ frames := 2, cells := 0, slots := 0, locals := 24 } : Room)) (fun a U => a = #[(.ref a0)] ∧ Z.Warmed39 U.vm ∧ U.heap = h0) (fun _ _ _ _ _ => True) (fun _ U o U' => ∃ v L, o = .returned v ∧ Q10 Z a0 wa0_modCount wa0_elementData wa0_size h0 n0 v U'.heap L ∧ FrameEnd U o U' L ({ frames := 2, cells := 0, slots := 0, locals := 24 } : Room).cells ({ frames := 2, cells := 0, slots := 0, locals := 24 } : Room).slots) := by
  refine MetFree.of_bodySF (plainFor_of_name pn4) hisR ?_
  intro p e s m args below meth c s₁ Bd hml0 hP hK
  obtain ⟨rfl, hZ, hh⟩ := hP
  have hx := Bd.exec
  have hby := Bd.bytes
  have hml : c.maxLocals = 1 := hml0
  have hown' := findClass_of_methodNamed Bd.named
  have hown : s.vm.findClass "java/util/AbstractList" = some m.cls := hown'
  have hnm := (name_of_methodNamed Bd.named Bd.method).1
  have X0 : Stand p l e ({ frames := 2, cells := 0, slots := 0, locals := 24 } : Room) s m #[(.ref a0)] below meth c s₁ [] 0 0 := Stand.of_body Bd
  have e0 : s₁.heap = h0 := by rw [← hh, Bd.state]; rfl
  have N0 := Fr.nil n0
  have hlk : meth.locks = false := by first | exact BodyLoose.notSynchronized Bd | exact Body.notSynchronized Bd
  have pre0 : ∀ t, Steps p.tables e below (s₁.setTop (mkF m 0 #[.val (.ref a0)] [])) t → Steps p.tables e below (s₁.setTop (entryFrame m #[(.ref a0)] 1)) t := fun t k => castTop (ef10 m a0) k
  obtain ⟨_, _, ⟨T1, L1, k1, n1⟩, -, X1, ⟨Lc1, hQ1, l1, y1, z1⟩, st1⟩ := X0.specialBack hx (y := (⟨"java/util/AbstractCollection", "<init>", "()V"⟩ : MethodName)) rfl hown (mvT hZ (hw _ (List.mem_of_getElem? (i := 65) rfl))) (mvT hZ (hw _ (List.mem_of_getElem? (i := 66) rfl))) (mvT hZ (hw _ (List.mem_of_getElem? (i := 70) rfl))) (by decide) (backOf (W := 0) (rm11 l Z a0' hw [] a0 h0 n0 Z0) hZ (hw _ (List.mem_of_getElem? (i := 70) rfl)) (hw _ (List.mem_of_getElem? (i := 69) rfl)) (by decide) (by decide)) (g := (mkF m 1 #[.val (.ref a0)] [(.ref a0)])) rfl (by rw [hml]; rfl) (Steps.refl _) (a := a0) (argsL := []) (rest := []) (lenOf pd0 rfl) rfl (by show 2 * 0 + _ ≤ _; exact Nat.le_of_eq rfl) (hb hby d10_1) (fun _ _ => ⟨rfl, e0, (by decide : 0 + 0 ≤ _), (by decide : 0 + 0 ≤ _)⟩)
  dsimp only [Pt.U, Pt.locs, Pt.cells, Pt.slots] at X1 l1 y1 z1 st1 hQ1
  subst l1 y1 z1
  obtain ⟨rfl, N1q, e1⟩ := hQ1
  have N1 := Fr.app N0 N1q
  obtain ⟨T2, h2, X2, e2, W2, st2⟩ := putF X1 hx hZ hown (host := "") (Or.inl (hw _ (List.mem_of_getElem? (i := 72) rfl))) Via.refl e1 F_wa0_modCount E_a0 (Or.inl (hw _ (List.mem_of_getElem? (i := 73) rfl))) (hw _ (List.mem_of_getElem? (i := 54) rfl)) (ty := .int) (by decide) rfl rfl (g := (mkF m 6 #[.val (.ref a0)] [(.int (0 : Int32)), (.ref a0)])) rfl rfl (hb hby d10_6)
  have Z2 : n0 ≤ h2.size := Nat.le_trans Z0 (Keep.of_wr W2).1
  have N2 := Fr.snoc X2 N1 g_a0
  have KC2 : Keep h0 h2 [a0] := (Keep.refl h0 [a0]).wr W2 (Or.inl (List.mem_of_getElem? (i := 0) rfl))
  have Fw2 := F_wa0_modCount.same W2
  have pre3 : ∀ t, Steps p.tables e below (T2.setTop (mkF m 9 #[.val (.ref a0)] [])) t → Steps p.tables e below (s₁.setTop (entryFrame m #[(.ref a0)] 1)) t := fun t k => pre0 t (by
    show Steps p.tables e below (s₁.setTop (mkF m 0 #[.val (.ref a0)] [])) _
    refine XS.aloadN X0.here hx rfl (hb hby d10_0) rfl rfl ?_
    show Steps p.tables e below (s₁.setTop (mkF m 1 #[.val (.ref a0)] [(.ref a0)])) _
    refine st1.trans ?_
    show Steps p.tables e below (T1.setTop (mkF m 4 #[.val (.ref a0)] [])) _
    refine XS.aloadN X1.here hx rfl (hb hby d10_4) rfl rfl ?_
    show Steps p.tables e below (T1.setTop (mkF m 5 #[.val (.ref a0)] [(.ref a0)])) _
    refine XS.iconst X1.here hx rfl (hb hby d10_5) ?_
    show Steps p.tables e below (T1.setTop (mkF m 6 #[.val (.ref a0)] [(.int (0 : Int32)), (.ref a0)])) _
    refine st2 _ ?_
    exact k)
  obtain ⟨fs, hr, hrun, hended, hW, hsame⟩ := X2.leave (v := none) (fun _ => rfl) hlk
  have y4 := (E_a0.wr W2)
  have y5 := (F_wa0_elementData.other W2 (Or.inr (slot_ne (Or.inl (hw _ (List.mem_of_getElem? (i := 76) rfl))) (Or.inl (hw _ (List.mem_of_getElem? (i := 73) rfl))) (by decide) (t := (.array (.object "java/lang/Object"))) (t' := .int) (by decide) (by decide))))
  have y6 := (F_wa0_size.other W2 (Or.inr (slot_ne (Or.inl (hw _ (List.mem_of_getElem? (i := 113) rfl))) (Or.inl (hw _ (List.mem_of_getElem? (i := 73) rfl))) (by decide) (t := .int) (t' := .int) (by decide) (by decide))))
  exact ⟨_, _, pre3 _ (X2.returnOut hx Bd.returns (hb hby d10_9) hr), hrun, hended, _, _, rfl, (by show Q10 Z a0 wa0_modCount wa0_elementData wa0_size h0 n0 _ T2.heap _; rw [e2]; exact ⟨rfl, N2, KC2, y4, Fw2, y5, y6⟩), ⟨_, rfl⟩, hW, hsame.mono (by decide) (by decide)⟩
theorem ef9 (m : MethodId) (x0 : Addr) : entryFrame m #[(.ref x0)] 1 = mkF m 0 #[.val (.ref x0)] [] := by first | (simp [entryFrame, mkF, argsToLocals, Value.category]; done) | rfl
def Q9 (Z : State) (a0 : Addr) (wa0_modCount : Int32) (wa0_elementData : Value) (wa0_size : Int32) (sD : Addr) (h0 : Heap) (n0 : Nat) (v : Option Value) (h : Heap) (L : List Loc) : Prop := v = none ∧ Fr n0 L ∧ Keep h0 h [a0] ∧ Exa Z h a0 "java/util/ArrayList" ∧ Fld Z h a0 "java/util/AbstractList" "modCount" "I" (.int (0 : Int32)) ∧ Fld Z h a0 "java/util/ArrayList" "elementData" "[Ljava/lang/Object;" (.ref sD) ∧ Fld Z h a0 "java/util/ArrayList" "size" "I" (.int wa0_size)
set_option maxRecDepth 65536 in
set_option maxHeartbeats 40000000 in
theorem rm9 (l : Launch) (Z : State) (a0' : Array Value) (hw : ∀ d ∈ tables_1, d.before a0' Z = true) (ws : List Jvm.Cond) (a0 : Addr) (wa0_modCount : Int32) (wa0_elementData : Value) (wa0_size : Int32) (sD : Addr) (h0 : Heap) (n0 : Nat) (Z0 : n0 ≤ h0.size) (E_a0 : Exa Z h0 a0 "java/util/ArrayList") (F_wa0_modCount : Fld Z h0 a0 "java/util/AbstractList" "modCount" "I" (.int wa0_modCount)) (F_wa0_elementData : Fld Z h0 a0 "java/util/ArrayList" "elementData" "[Ljava/lang/Object;" wa0_elementData) (F_wa0_size : Fld Z h0 a0 "java/util/ArrayList" "size" "I" (.int wa0_size)) (g_a0 : n0 ≤ a0) (OLD0 : Old Z n0 h0) (S_sD : Sta Z Z.heap "java/util/ArrayList" "DEFAULTCAPACITY_EMPTY_ELEMENTDATA" "[Ljava/lang/Object;" (.ref sD)) :
    MetFree l (⟨"java/util/ArrayList", "<init>", "()V"⟩ : MethodName) (head1 (Jvm.Cond.code (⟨"java/util/ArrayList", "<init>", "()V"⟩ : MethodName) jdk_38_method_2_code 1 none :: ws) ({ frames := 3, cells := 0, slots := 0, locals := 36 } : Room)) (fun a U => a = #[(.ref a0)] ∧ Z.Warmed39 U.vm ∧ U.heap = h0) (fun _ _ _ _ _ => True) (fun _ U o U' => ∃ v L, o = .returned v ∧ Q9 Z a0 wa0_modCount wa0_elementData wa0_size sD h0 n0 v U'.heap L ∧ FrameEnd U o U' L ({ frames := 3, cells := 0, slots := 0, locals := 36 } : Room).cells ({ frames := 3, cells := 0, slots := 0, locals := 36 } : Room).slots) := by
  refine MetFree.of_bodySF (plainFor_of_name pn5) hisR ?_
  intro p e s m args below meth c s₁ Bd hml0 hP hK
  obtain ⟨rfl, hZ, hh⟩ := hP
  have hx := Bd.exec
  have hby := Bd.bytes
  have hml : c.maxLocals = 1 := hml0
  have hown' := findClass_of_methodNamed Bd.named
  have hown : s.vm.findClass "java/util/ArrayList" = some m.cls := hown'
  have hnm := (name_of_methodNamed Bd.named Bd.method).1
  have X0 : Stand p l e ({ frames := 3, cells := 0, slots := 0, locals := 36 } : Room) s m #[(.ref a0)] below meth c s₁ [] 0 0 := Stand.of_body Bd
  have e0 : s₁.heap = h0 := by rw [← hh, Bd.state]; rfl
  have N0 := Fr.nil n0
  have hlk : meth.locks = false := by first | exact BodyLoose.notSynchronized Bd | exact Body.notSynchronized Bd
  have pre0 : ∀ t, Steps p.tables e below (s₁.setTop (mkF m 0 #[.val (.ref a0)] [])) t → Steps p.tables e below (s₁.setTop (entryFrame m #[(.ref a0)] 1)) t := fun t k => castTop (ef9 m a0) k
  obtain ⟨_, _, ⟨T1, L1, k1, n1⟩, -, X1, ⟨Lc1, hQ1, l1, y1, z1⟩, st1⟩ := X0.specialBack hx (y := (⟨"java/util/AbstractList", "<init>", "()V"⟩ : MethodName)) rfl hown (mvT hZ (hw _ (List.mem_of_getElem? (i := 59) rfl))) (mvT hZ (hw _ (List.mem_of_getElem? (i := 60) rfl))) (mvT hZ (hw _ (List.mem_of_getElem? (i := 64) rfl))) (by decide) (backOf (W := 0) (rm10 l Z a0' hw [] a0 wa0_modCount wa0_elementData wa0_size h0 n0 Z0 E_a0 F_wa0_modCount F_wa0_elementData F_wa0_size g_a0) hZ (hw _ (List.mem_of_getElem? (i := 64) rfl)) (hw _ (List.mem_of_getElem? (i := 63) rfl)) (by decide) (by decide)) (g := (mkF m 1 #[.val (.ref a0)] [(.ref a0)])) rfl (by rw [hml]; rfl) (Steps.refl _) (a := a0) (argsL := []) (rest := []) (lenOf pd0 rfl) rfl (by show 2 * 0 + _ ≤ _; exact Nat.le_of_eq rfl) (hb hby d9_1) (fun _ _ => ⟨rfl, e0, (by decide : 0 + 0 ≤ _), (by decide : 0 + 0 ≤ _)⟩)
  dsimp only [Pt.U, Pt.locs, Pt.cells, Pt.slots] at X1 l1 y1 z1 st1 hQ1
  subst l1 y1 z1
  obtain ⟨rfl, N1q, K1, u1_0, u1_1, u1_2, u1_3⟩ := hQ1
  have N1 := Fr.app N0 N1q
  have Z1 : n0 ≤ T1.heap.size := Nat.le_trans Z0 K1.1
  have KC1 : Keep h0 T1.heap [a0] := (Keep.refl h0 [a0]).trans K1 (allS (Or.inl (List.mem_of_getElem? (i := 0) rfl)) all0)
  have O1 : Old Z n0 T1.heap := OLD0.keep K1 (allS g_a0 all0)
  obtain ⟨T2, X2, e2, st2⟩ := getS2 X1 hx hZ hown (host := "") (Or.inl (hw _ (List.mem_of_getElem? (i := 74) rfl))) Via.refl rfl (S_sD.ext O1.2) (g := (mkF m 5 #[.val (.ref a0)] [(.ref a0)])) rfl (hb hby d9_5)
  obtain ⟨T3, h3, X3, e3, W3, st3⟩ := putF X2 hx hZ hown (host := "") (Or.inl (hw _ (List.mem_of_getElem? (i := 75) rfl))) Via.refl e2 u1_2 u1_0 (Or.inl (hw _ (List.mem_of_getElem? (i := 76) rfl))) (hw _ (List.mem_of_getElem? (i := 54) rfl)) (ty := (.array (.object "java/lang/Object"))) (by decide) rfl rfl (g := (mkF m 8 #[.val (.ref a0)] [(.ref sD), (.ref a0)])) rfl rfl (hb hby d9_8)
  have Z3 : n0 ≤ h3.size := Nat.le_trans Z1 (Keep.of_wr W3).1
  have N3 := Fr.snoc X3 N1 g_a0
  have KC3 : Keep h0 h3 [a0] := KC1.wr W3 (Or.inl (List.mem_of_getElem? (i := 0) rfl))
  have O3 : Old Z n0 h3 := O1.wr W3 g_a0
  have Fw3 := u1_2.same W3
  have pre4 : ∀ t, Steps p.tables e below (T3.setTop (mkF m 11 #[.val (.ref a0)] [])) t → Steps p.tables e below (s₁.setTop (entryFrame m #[(.ref a0)] 1)) t := fun t k => pre0 t (by
    show Steps p.tables e below (s₁.setTop (mkF m 0 #[.val (.ref a0)] [])) _
    refine XS.aloadN X0.here hx rfl (hb hby d9_0) rfl rfl ?_
    show Steps p.tables e below (s₁.setTop (mkF m 1 #[.val (.ref a0)] [(.ref a0)])) _
    refine st1.trans ?_
    show Steps p.tables e below (T1.setTop (mkF m 4 #[.val (.ref a0)] [])) _
    refine XS.aloadN X1.here hx rfl (hb hby d9_4) rfl rfl ?_
    show Steps p.tables e below (T1.setTop (mkF m 5 #[.val (.ref a0)] [(.ref a0)])) _
    refine st2 _ ?_
    show Steps p.tables e below (T2.setTop (mkF m 8 #[.val (.ref a0)] [(.ref sD), (.ref a0)])) _
    refine st3 _ ?_
    exact k)
  obtain ⟨fs, hr, hrun, hended, hW, hsame⟩ := X3.leave (v := none) (fun _ => rfl) hlk
  have y5 := (u1_0.wr W3)
  have y6 := (u1_1.other W3 (Or.inr (slot_ne (Or.inl (hw _ (List.mem_of_getElem? (i := 73) rfl))) (Or.inl (hw _ (List.mem_of_getElem? (i := 76) rfl))) (by decide) (t := .int) (t' := (.array (.object "java/lang/Object"))) (by decide) (by decide))))
  have y7 := (u1_3.other W3 (Or.inr (slot_ne (Or.inl (hw _ (List.mem_of_getElem? (i := 113) rfl))) (Or.inl (hw _ (List.mem_of_getElem? (i := 76) rfl))) (by decide) (t := .int) (t' := (.array (.object "java/lang/Object"))) (by decide) (by decide))))
  exact ⟨_, _, pre4 _ (X3.returnOut hx Bd.returns (hb hby d9_11) hr), hrun, hended, _, _, rfl, (by show Q9 Z a0 wa0_modCount wa0_elementData wa0_size sD h0 n0 _ T3.heap _; rw [e3]; exact ⟨rfl, N3, KC3, y5, y6, Fw3, y7⟩), ⟨_, rfl⟩, hW, hsame.mono (by decide) (by decide)⟩
theorem ef2 (m : MethodId) (x0 : Addr) (x1 : Int64) : entryFrame m #[(.ref x0), (.long x1)] 3 = mkF m 0 #[.val (.ref x0), .val (.long x1), .second] [] := by first | (simp [entryFrame, mkF, argsToLocals, Value.category]; done) | rfl
def Q2 (Z : State) (a0 : Addr) (q1 : Int64) (wa0_limit : Int64) (wa0_held : Int64) (h0 : Heap) (n0 : Nat) (v : Option Value) (h : Heap) (L : List Loc) : Prop := v = none ∧ Fr n0 L ∧ Keep h0 h [a0] ∧ Exa Z h a0 "com/example/tenon/tenon/Budget" ∧ Fld Z h a0 "com/example/tenon/tenon/Budget" "limit" "J" (.long q1) ∧ Fld Z h a0 "com/example/tenon/tenon/Budget" "held" "J" (.long wa0_held)
set_option maxRecDepth 65536 in
set_option maxHeartbeats 40000000 in
theorem rm2 (l : Launch) (Z : State) (a0' : Array Value) (hw : ∀ d ∈ tables_1, d.before a0' Z = true) (ws : List Jvm.Cond) (a0 : Addr) (q1 : Int64) (wa0_limit : Int64) (wa0_held : Int64) (h0 : Heap) (n0 : Nat) (Z0 : n0 ≤ h0.size) (E_a0 : Exa Z h0 a0 "com/example/tenon/tenon/Budget") (F_wa0_limit : Fld Z h0 a0 "com/example/tenon/tenon/Budget" "limit" "J" (.long wa0_limit)) (F_wa0_held : Fld Z h0 a0 "com/example/tenon/tenon/Budget" "held" "J" (.long wa0_held)) (g_a0 : n0 ≤ a0) :
    MetFree l (⟨"com/example/tenon/tenon/Budget", "<init>", "(J)V"⟩ : MethodName) (head1 (Jvm.Cond.code (⟨"com/example/tenon/tenon/Budget", "<init>", "(J)V"⟩ : MethodName) prog_22_method_1_code 3 none :: ws) ({ frames := 1, cells := 0, slots := 0, locals := 12 } : Room)) (fun a U => a = #[(.ref a0), (.long q1)] ∧ Z.Warmed39 U.vm ∧ U.heap = h0) (fun _ _ _ _ _ => True) (fun _ U o U' => ∃ v L, o = .returned v ∧ Q2 Z a0 q1 wa0_limit wa0_held h0 n0 v U'.heap L ∧ FrameEnd U o U' L ({ frames := 1, cells := 0, slots := 0, locals := 12 } : Room).cells ({ frames := 1, cells := 0, slots := 0, locals := 12 } : Room).slots) := by
  refine MetFree.of_bodySF (plainFor_of_name pn6) hisR ?_
  intro p e s m args below meth c s₁ Bd hml0 hP hK
  obtain ⟨rfl, hZ, hh⟩ := hP
  have hx := Bd.exec
  have hby := Bd.bytes
  have hml : c.maxLocals = 3 := hml0
  have hown' := findClass_of_methodNamed Bd.named
  have hown : s.vm.findClass "com/example/tenon/tenon/Budget" = some m.cls := hown'
  have hnm := (name_of_methodNamed Bd.named Bd.method).1
  have X0 : Stand p l e ({ frames := 1, cells := 0, slots := 0, locals := 12 } : Room) s m #[(.ref a0), (.long q1)] below meth c s₁ [] 0 0 := Stand.of_body Bd
  have e0 : s₁.heap = h0 := by rw [← hh, Bd.state]; rfl
  have N0 := Fr.nil n0
  have hlk : meth.locks = false := by first | exact BodyLoose.notSynchronized Bd | exact Body.notSynchronized Bd
  have pre0 : ∀ t, Steps p.tables e below (s₁.setTop (mkF m 0 #[.val (.ref a0), .val (.long q1), .second] [])) t → Steps p.tables e below (s₁.setTop (entryFrame m #[(.ref a0), (.long q1)] 3)) t := fun t k => castTop (ef2 m a0 q1) k
  obtain ⟨T1, X1, e1, st1⟩ := initO X0 hx hZ hown (hw _ (List.mem_of_getElem? (i := 10) rfl)) (hw _ (List.mem_of_getElem? (i := 11) rfl)) (hw _ (List.mem_of_getElem? (i := 12) rfl)) e0 (g := (mkF m 1 #[.val (.ref a0), .val (.long q1), .second] [(.ref a0)])) rfl (by rw [hml]; rfl) rfl (hb hby d2_1) (by decide) (W := 0) (by show 2 * 0 + _ ≤ _; exact Nat.le_of_eq rfl) (by decide)
  obtain ⟨T2, h2, X2, e2, W2, st2⟩ := putF X1 hx hZ hown (host := "") (Or.inl (hw _ (List.mem_of_getElem? (i := 13) rfl))) Via.refl e1 F_wa0_limit E_a0 (Or.inr ⟨(hw _ (List.mem_of_getElem? (i := 14) rfl)), rfl, hnm⟩) (hw _ (List.mem_of_getElem? (i := 5) rfl)) (ty := .long) (by decide) rfl rfl (g := (mkF m 6 #[.val (.ref a0), .val (.long q1), .second] [(.long q1), (.ref a0)])) rfl rfl (hb hby d2_6)
  have Z2 : n0 ≤ h2.size := Nat.le_trans Z0 (Keep.of_wr W2).1
  have N2 := Fr.snoc X2 N0 g_a0
  have KC2 : Keep h0 h2 [a0] := (Keep.refl h0 [a0]).wr W2 (Or.inl (List.mem_of_getElem? (i := 0) rfl))
  have Fw2 := F_wa0_limit.same W2
  have pre3 : ∀ t, Steps p.tables e below (T2.setTop (mkF m 9 #[.val (.ref a0), .val (.long q1), .second] [])) t → Steps p.tables e below (s₁.setTop (entryFrame m #[(.ref a0), (.long q1)] 3)) t := fun t k => pre0 t (by
    show Steps p.tables e below (s₁.setTop (mkF m 0 #[.val (.ref a0), .val (.long q1), .second] [])) _
    refine XS.aloadN X0.here hx rfl (hb hby d2_0) rfl rfl ?_
    show Steps p.tables e below (s₁.setTop (mkF m 1 #[.val (.ref a0), .val (.long q1), .second] [(.ref a0)])) _
    refine st1 _ ?_
    show Steps p.tables e below (T1.setTop (mkF m 4 #[.val (.ref a0), .val (.long q1), .second] [])) _
    refine XS.aloadN X1.here hx rfl (hb hby d2_4) rfl rfl ?_
    show Steps p.tables e below (T1.setTop (mkF m 5 #[.val (.ref a0), .val (.long q1), .second] [(.ref a0)])) _
    refine XS.lloadN X1.here hx rfl (hb hby d2_5) rfl ?_
    show Steps p.tables e below (T1.setTop (mkF m 6 #[.val (.ref a0), .val (.long q1), .second] [(.long q1), (.ref a0)])) _
    refine st2 _ ?_
    exact k)
  obtain ⟨fs, hr, hrun, hended, hW, hsame⟩ := X2.leave (v := none) (fun _ => rfl) hlk
  have y4 := (E_a0.wr W2)
  have y5 := (F_wa0_held.other W2 (Or.inr (slot_ne (Or.inl (hw _ (List.mem_of_getElem? (i := 126) rfl))) (Or.inr (hw _ (List.mem_of_getElem? (i := 14) rfl))) (by decide) (t := .long) (t' := .long) (by decide) (by decide))))
  exact ⟨_, _, pre3 _ (X2.returnOut hx Bd.returns (hb hby d2_9) hr), hrun, hended, _, _, rfl, (by show Q2 Z a0 q1 wa0_limit wa0_held h0 n0 _ T2.heap _; rw [e2]; exact ⟨rfl, N2, KC2, y4, Fw2, y5⟩), ⟨_, rfl⟩, hW, hsame.mono (by decide) (by decide)⟩
theorem ef1 (m : MethodId)  : entryFrame m #[] 0 = mkF m 0 #[] [] := by first | (simp [entryFrame, mkF, argsToLocals, Value.category]; done) | rfl
def Q1 (Z : State)  (h0 : Heap) (n0 : Nat) (v : Option Value) (h : Heap) (L : List Loc) : Prop := ∃ c1 : Addr, v = some (.ref c1) ∧ Fr n0 L ∧ h0.size ≤ c1 ∧ n0 ≤ c1 ∧ Keep h0 h [] ∧ Exa Z h c1 "com/example/tenon/tenon/Budget" ∧ Fld Z h c1 "com/example/tenon/tenon/Budget" "limit" "J" (.long (9223372036854775807 : Int64)) ∧ Fld Z h c1 "com/example/tenon/tenon/Budget" "held" "J" (.long (0 : Int64))
set_option maxRecDepth 65536 in
set_option maxHeartbeats 40000000 in
theorem rm1 (l : Launch) (Z : State) (a0' : Array Value) (hw : ∀ d ∈ tables_1, d.before a0' Z = true) (ws : List Jvm.Cond)  (h0 : Heap) (n0 : Nat) (Z0 : n0 ≤ h0.size) :
    MetFree l (⟨"com/example/tenon/tenon/Budget", "unlimited", "()Lcom/example/tenon/tenon/Budget;"⟩ : MethodName) (head1 (Jvm.Cond.code (⟨"com/example/tenon/tenon/Budget", "unlimited", "()Lcom/example/tenon/tenon/Budget;"⟩ : MethodName) prog_22_method_2_code 0 (some (.object "com/example/tenon/tenon/Budget")) :: ws) ({ frames := 2, cells := 1, slots := 2, locals := 27 } : Room)) (fun a U => a = #[] ∧ Z.Warmed39 U.vm ∧ U.heap = h0) (fun _ _ _ _ _ => True) (fun _ U o U' => ∃ v L, o = .returned v ∧ Q1 Z  h0 n0 v U'.heap L ∧ FrameEnd U o U' L ({ frames := 2, cells := 1, slots := 2, locals := 27 } : Room).cells ({ frames := 2, cells := 1, slots := 2, locals := 27 } : Room).slots) := by
  refine MetFree.of_bodySF (plainFor_of_name pn6) hisR ?_
  intro p e s m args below meth c s₁ Bd hml0 hP hK
  obtain ⟨rfl, hZ, hh⟩ := hP
  have hx := Bd.exec
  have hby := Bd.bytes
  have hml : c.maxLocals = 0 := hml0
  have hown' := findClass_of_methodNamed Bd.named
  have hown : s.vm.findClass "com/example/tenon/tenon/Budget" = some m.cls := hown'
  have hnm := (name_of_methodNamed Bd.named Bd.method).1
  have X0 : Stand p l e ({ frames := 2, cells := 1, slots := 2, locals := 27 } : Room) s m #[] below meth c s₁ [] 0 0 := Stand.of_body Bd
  have e0 : s₁.heap = h0 := by rw [← hh, Bd.state]; rfl
  have N0 := Fr.nil n0
  have hlk : meth.locks = false := by first | exact BodyLoose.notSynchronized Bd | exact Body.notSynchronized Bd
  have pre0 : ∀ t, Steps p.tables e below (s₁.setTop (mkF m 0 #[] [])) t → Steps p.tables e below (s₁.setTop (entryFrame m #[] 0)) t := fun t k => castTop (ef1 m ) k
  obtain ⟨T1, h1, X1, e1, E1, A1, D1, -, st1⟩ := newO X0 hx hZ hown (hw _ (List.mem_of_getElem? (i := 4) rfl)) (hw _ (List.mem_of_getElem? (i := 5) rfl)) (hw _ (List.mem_of_getElem? (i := 2) rfl)) e0 (g := (mkF m 0 #[] [])) rfl (hb hby d1_0) (by decide) (by decide)
  obtain ⟨b1, g1⟩ : ∃ z, z = h0.size := ⟨_, rfl⟩
  rw [← g1] at A1 D1 st1
  have g_b1 : n0 ≤ b1 := Nat.le_trans Z0 (Nat.le_of_eq g1.symm)
  have sz_b1 : h0.size ≤ b1 := Nat.le_trans (Keep.refl h0 []).1 (Nat.le_of_eq g1.symm)
  have Z1 : n0 ≤ h1.size := Nat.le_trans Z0 E1.1
  have KC1 : Keep h0 h1 [] := (Keep.refl h0 []).ext E1
  have F1_limit : Fld Z h1 b1 "com/example/tenon/tenon/Budget" "limit" "J" (.long (0 : Int64)) := D1 (Or.inr (hw _ (List.mem_of_getElem? (i := 14) rfl))) (ty := .long) (by decide)
  have F1_held : Fld Z h1 b1 "com/example/tenon/tenon/Budget" "held" "J" (.long (0 : Int64)) := D1 (Or.inl (hw _ (List.mem_of_getElem? (i := 126) rfl))) (ty := .long) (by decide)
  obtain ⟨_, _, ⟨T2, L2, k2, n2⟩, -, X2, ⟨Lc2, hQ2, l2, y2, z2⟩, st2⟩ := X1.specialBack hx (y := (⟨"com/example/tenon/tenon/Budget", "<init>", "(J)V"⟩ : MethodName)) rfl hown (mvT hZ (hw _ (List.mem_of_getElem? (i := 7) rfl))) (mvT hZ (hw _ (List.mem_of_getElem? (i := 8) rfl))) (mvT hZ (hw _ (List.mem_of_getElem? (i := 9) rfl))) (by decide) (backOf (W := 1) (rm2 l Z a0' hw [] b1 (9223372036854775807 : Int64) (0 : Int64) (0 : Int64) h1 n0 Z1 A1 F1_limit F1_held g_b1) hZ (hw _ (List.mem_of_getElem? (i := 9) rfl)) (hw _ (List.mem_of_getElem? (i := 2) rfl)) (by decide) (by decide)) (g := (mkF m 7 #[] [(.long (9223372036854775807 : Int64)), (.ref b1), (.ref b1)])) rfl (by rw [hml]; rfl) (Steps.refl _) (a := b1) (argsL := [(.long (9223372036854775807 : Int64))]) (rest := [(.ref b1)]) (lenOf pd1 rfl) rfl (by show 2 * 0 + _ ≤ _; exact Nat.le_of_eq rfl) (hb hby d1_7) (fun _ _ => ⟨rfl, e1, (by decide : 1 + 0 ≤ _), (by decide : 2 + 0 ≤ _)⟩)
  dsimp only [Pt.U, Pt.locs, Pt.cells, Pt.slots] at X2 l2 y2 z2 st2 hQ2
  subst l2 y2 z2
  obtain ⟨rfl, N2q, K2, u2_0, u2_1, u2_2⟩ := hQ2
  have N2 := Fr.app N0 N2q
  have Z2 : n0 ≤ T2.heap.size := Nat.le_trans Z1 K2.1
  have KC2 : Keep h0 T2.heap [] := KC1.trans K2 (allS (Or.inr sz_b1) all0)
  have pre3 : ∀ t, Steps p.tables e below (T2.setTop (mkF m 10 #[] [(.ref b1)])) t → Steps p.tables e below (s₁.setTop (entryFrame m #[] 0)) t := fun t k => pre0 t (by
    show Steps p.tables e below (s₁.setTop (mkF m 0 #[] [])) _
    refine st1 _ ?_
    show Steps p.tables e below (T1.setTop (mkF m 3 #[] [(.ref b1)])) _
    refine XS.dup X1.here hx rfl (hb hby d1_3) rfl rfl ?_
    show Steps p.tables e below (T1.setTop (mkF m 4 #[] [(.ref b1), (.ref b1)])) _
    refine X1.ldc2Long hx hown (mvT hZ (hw _ (List.mem_of_getElem? (i := 6) rfl))) (g := (mkF m 4 #[] [(.ref b1), (.ref b1)])) rfl (hb hby d1_4) _ ?_
    show Steps p.tables e below (T1.setTop (mkF m 7 #[] [(.long (9223372036854775807 : Int64)), (.ref b1), (.ref b1)])) _
    refine st2.trans ?_
    exact k)
  obtain ⟨fs, hr, hrun, hended, hW, hsame⟩ := X2.leave (v := some (.ref b1)) (fun h => by rw [Bd.returns] at h; cases h) hlk
  exact ⟨_, _, pre3 _ (by jvm_step X2.here [X2.here.top, hx, (hb hby d1_10), X2.method', Bd.returns, Value.isRef, FieldType.isReference]; (first | (intro acts; rw [hr _ acts rfl rfl rfl]) | rw [hr _ _ rfl rfl rfl]); exact Steps.refl _), hrun, hended, _, _, rfl, ⟨b1, rfl, N2, sz_b1, g_b1, KC2, u2_0, u2_1, u2_2⟩, ⟨_, rfl⟩, hW, hsame.mono (by decide) (by decide)⟩
theorem ef5n (m : MethodId) (x0 : Addr) (x1 : Addr) : entryFrame m #[(.ref x0), (.ref x1), .null] 3 = mkF m 0 #[.val (.ref x0), .val (.ref x1), .val .null] [] := by first | (simp [entryFrame, mkF, argsToLocals, Value.category]; done) | rfl
def Q5n (Z : State) (a0 : Addr) (a1 : Addr) (wa0_assigned : Value) (wa0_changed : Value) (wa0_budget : Value) (wa0_below : Value) (wa0_blindness : Int32) (wa0_marks : Int32) (sD : Addr) (h0 : Heap) (n0 : Nat) (v : Option Value) (h : Heap) (L : List Loc) : Prop := ∃ c1 : Addr, v = none ∧ Fr n0 L ∧ h0.size ≤ c1 ∧ n0 ≤ c1 ∧ Keep h0 h [a0] ∧ Exa Z h a0 "com/example/tenon/tenon/Assignments" ∧ Fld Z h a0 "com/example/tenon/tenon/Assignments" "changed" "Ljava/util/List;" (.ref c1) ∧ Fld Z h a0 "com/example/tenon/tenon/Assignments" "budget" "Lcom/example/tenon/tenon/Budget;" (.ref a1) ∧ Fld Z h a0 "com/example/tenon/tenon/Assignments" "below" "Lcom/example/tenon/tenon/Assignments;" .null ∧ Fld Z h a0 "com/example/tenon/tenon/Assignments" "blindness" "I" (.int wa0_blindness) ∧ Fld Z h a0 "com/example/tenon/tenon/Assignments" "marks" "I" (.int wa0_marks) ∧ Exa Z h c1 "java/util/ArrayList" ∧ Fld Z h c1 "java/util/AbstractList" "modCount" "I" (.int (0 : Int32)) ∧ Fld Z h c1 "java/util/ArrayList" "elementData" "[Ljava/lang/Object;" (.ref sD) ∧ Fld Z h c1 "java/util/ArrayList" "size" "I" (.int (0 : Int32))
set_option maxRecDepth 65536 in
set_option maxHeartbeats 40000000 in
theorem rm5n (l : Launch) (Z : State) (a0' : Array Value) (hw : ∀ d ∈ tables_1, d.before a0' Z = true) (ws : List Jvm.Cond) (a0 : Addr) (a1 : Addr) (wa0_assigned : Value) (wa0_changed : Value) (wa0_budget : Value) (wa0_below : Value) (wa0_blindness : Int32) (wa0_marks : Int32) (sD : Addr) (h0 : Heap) (n0 : Nat) (Z0 : n0 ≤ h0.size) (E_a0 : Exa Z h0 a0 "com/example/tenon/tenon/Assignments") (F_wa0_assigned : Fld Z h0 a0 "com/example/tenon/tenon/Assignments" "assigned" "Ljava/util/Map;" wa0_assigned) (F_wa0_changed : Fld Z h0 a0 "com/example/tenon/tenon/Assignments" "changed" "Ljava/util/List;" wa0_changed) (F_wa0_budget : Fld Z h0 a0 "com/example/tenon/tenon/Assignments" "budget" "Lcom/example/tenon/tenon/Budget;" wa0_budget) (F_wa0_below : Fld Z h0 a0 "com/example/tenon/tenon/Assignments" "below" "Lcom/example/tenon/tenon/Assignments;" wa0_below) (F_wa0_blindness : Fld Z h0 a0 "com/example/tenon/tenon/Assignments" "blindness" "I" (.int wa0_blindness)) (F_wa0_marks : Fld Z h0 a0 "com/example/tenon/tenon/Assignments" "marks" "I" (.int wa0_marks)) (g_a0 : n0 ≤ a0) (OLD0 : Old Z n0 h0) (S_sD : Sta Z Z.heap "java/util/ArrayList" "DEFAULTCAPACITY_EMPTY_ELEMENTDATA" "[Ljava/lang/Object;" (.ref sD)) :
    MetFree l (⟨"com/example/tenon/tenon/Assignments", "<init>", "(Lcom/example/tenon/tenon/Budget;Lcom/example/tenon/tenon/Assignments;)V"⟩ : MethodName) (head1 (Jvm.Cond.code (⟨"com/example/tenon/tenon/Assignments", "<init>", "(Lcom/example/tenon/tenon/Budget;Lcom/example/tenon/tenon/Assignments;)V"⟩ : MethodName) prog_4_method_2_code 3 none :: ws) ({ frames := 4, cells := 2, slots := 15, locals := 50 } : Room)) (fun a U => a = #[(.ref a0), (.ref a1), .null] ∧ Z.Warmed39 U.vm ∧ U.heap = h0) (fun _ _ _ _ _ => True) (fun _ U o U' => ∃ v L, o = .returned v ∧ Q5n Z a0 a1 wa0_assigned wa0_changed wa0_budget wa0_below wa0_blindness wa0_marks sD h0 n0 v U'.heap L ∧ FrameEnd U o U' L ({ frames := 4, cells := 2, slots := 15, locals := 50 } : Room).cells ({ frames := 4, cells := 2, slots := 15, locals := 50 } : Room).slots) := by
  refine MetFree.of_bodySF (plainFor_of_name pn7) hisR ?_
  intro p e s m args below meth c s₁ Bd hml0 hP hK
  obtain ⟨rfl, hZ, hh⟩ := hP
  have hx := Bd.exec
  have hby := Bd.bytes
  have hml : c.maxLocals = 3 := hml0
  have hown' := findClass_of_methodNamed Bd.named
  have hown : s.vm.findClass "com/example/tenon/tenon/Assignments" = some m.cls := hown'
  have hnm := (name_of_methodNamed Bd.named Bd.method).1
  have X0 : Stand p l e ({ frames := 4, cells := 2, slots := 15, locals := 50 } : Room) s m #[(.ref a0), (.ref a1), .null] below meth c s₁ [] 0 0 := Stand.of_body Bd
  have e0 : s₁.heap = h0 := by rw [← hh, Bd.state]; rfl
  have N0 := Fr.nil n0
  have hlk : meth.locks = false := by first | exact BodyLoose.notSynchronized Bd | exact Body.notSynchronized Bd
  have pre0 : ∀ t, Steps p.tables e below (s₁.setTop (mkF m 0 #[.val (.ref a0), .val (.ref a1), .val .null] [])) t → Steps p.tables e below (s₁.setTop (entryFrame m #[(.ref a0), (.ref a1), .null] 3)) t := fun t k => castTop (ef5n m a0 a1) k
  obtain ⟨T1, X1, e1, st1⟩ := initO X0 hx hZ hown (hw _ (List.mem_of_getElem? (i := 24) rfl)) (hw _ (List.mem_of_getElem? (i := 11) rfl)) (hw _ (List.mem_of_getElem? (i := 12) rfl)) e0 (g := (mkF m 1 #[.val (.ref a0), .val (.ref a1), .val .null] [(.ref a0)])) rfl (by rw [hml]; rfl) rfl (hb hby d5_1) (by decide) (W := 0) (by show 2 * 0 + _ ≤ _; exact Nat.le_of_eq rfl) (by decide)
  obtain ⟨T2, h2, X2, e2, E2, A2, D2, -, st2⟩ := newO X1 hx hZ hown (hw _ (List.mem_of_getElem? (i := 25) rfl)) (hw _ (List.mem_of_getElem? (i := 26) rfl)) (hw _ (List.mem_of_getElem? (i := 27) rfl)) e1 (g := (mkF m 5 #[.val (.ref a0), .val (.ref a1), .val .null] [(.ref a0)])) rfl (hb hby d5_5) (by decide) (by decide)
  obtain ⟨b2, g2⟩ : ∃ z, z = h0.size := ⟨_, rfl⟩
  rw [← g2] at A2 D2 st2
  have ne_a0_b2 : a0 ≠ b2 := Nat.ne_of_lt (Nat.lt_of_lt_of_le F_wa0_assigned.lt (Nat.le_of_eq g2.symm))
  have g_b2 : n0 ≤ b2 := Nat.le_trans Z0 (Nat.le_of_eq g2.symm)
  have sz_b2 : h0.size ≤ b2 := Nat.le_trans (Keep.refl h0 [a0]).1 (Nat.le_of_eq g2.symm)
  have Z2 : n0 ≤ h2.size := Nat.le_trans Z0 E2.1
  have KC2 : Keep h0 h2 [a0] := (Keep.refl h0 [a0]).ext E2
  have O2 : Old Z n0 h2 := OLD0.ext E2
  have F2_loadFactor : Fld Z h2 b2 "java/util/HashMap" "loadFactor" "F" (.float (0 : UInt32)) := D2 (Or.inr (hw _ (List.mem_of_getElem? (i := 46) rfl))) (ty := .float) (by decide)
  have F2_putMode : Fld Z h2 b2 "java/util/LinkedHashMap" "putMode" "I" (.int (0 : Int32)) := D2 (Or.inl (hw _ (List.mem_of_getElem? (i := 48) rfl))) (ty := .int) (by decide)
  have F2_accessOrder : Fld Z h2 b2 "java/util/LinkedHashMap" "accessOrder" "Z" (.int (0 : Int32)) := D2 (Or.inr (hw _ (List.mem_of_getElem? (i := 50) rfl))) (ty := .boolean) (by decide)
  obtain ⟨_, _, ⟨T3, L3, k3, n3⟩, -, X3, ⟨Lc3, hQ3, l3, y3, z3⟩, st3⟩ := X2.specialBack hx (y := (⟨"java/util/LinkedHashMap", "<init>", "()V"⟩ : MethodName)) rfl hown (mvT hZ (hw _ (List.mem_of_getElem? (i := 28) rfl))) (mvT hZ (hw _ (List.mem_of_getElem? (i := 29) rfl))) (mvT hZ (hw _ (List.mem_of_getElem? (i := 30) rfl))) (by decide) (backOf (W := 2) (rm6 l Z a0' hw [] b2 (0 : UInt32) (0 : Int32) (0 : Int32) h2 n0 Z2 A2 F2_loadFactor F2_putMode F2_accessOrder g_b2) hZ (hw _ (List.mem_of_getElem? (i := 30) rfl)) (hw _ (List.mem_of_getElem? (i := 27) rfl)) (by decide) (by decide)) (g := (mkF m 9 #[.val (.ref a0), .val (.ref a1), .val .null] [(.ref b2), (.ref b2), (.ref a0)])) rfl (by rw [hml]; rfl) (Steps.refl _) (a := b2) (argsL := []) (rest := [(.ref b2), (.ref a0)]) (lenOf pd0 rfl) rfl (by show 2 * 0 + _ ≤ _; exact Nat.le_of_eq rfl) (hb hby d5_9) (fun _ _ => ⟨rfl, e2, (by decide : 1 + 0 ≤ _), (by decide : 12 + 0 ≤ _)⟩)
  dsimp only [Pt.U, Pt.locs, Pt.cells, Pt.slots] at X3 l3 y3 z3 st3 hQ3
  subst l3 y3 z3
  obtain ⟨rfl, N3q, K3, u3_0, u3_1, u3_2, u3_3⟩ := hQ3
  have N3 := Fr.app N0 N3q
  have Z3 : n0 ≤ T3.heap.size := Nat.le_trans Z2 K3.1
  have KC3 : Keep h0 T3.heap [a0] := KC2.trans K3 (allS (Or.inr sz_b2) all0)
  have O3 : Old Z n0 T3.heap := O2.keep K3 (allS g_b2 all0)
  have y4 := ((E_a0.ext E2).keep K3)
  have y5 := ((F_wa0_assigned.ext E2).keep K3 (ninS ne_a0_b2 nin0))
  obtain ⟨T6, h6, X6, e6, W6, st6⟩ := putF X3 hx hZ hown (host := "") (Or.inl (hw _ (List.mem_of_getElem? (i := 51) rfl))) Via.refl rfl y5 y4 (Or.inr ⟨(hw _ (List.mem_of_getElem? (i := 52) rfl)), rfl, hnm⟩) (hw _ (List.mem_of_getElem? (i := 16) rfl)) (ty := (.object "java/util/Map")) (by decide) rfl rfl (g := (mkF m 12 #[.val (.ref a0), .val (.ref a1), .val .null] [(.ref b2), (.ref a0)])) rfl rfl (hb hby d5_12)
  have Z6 : n0 ≤ h6.size := Nat.le_trans Z3 (Keep.of_wr W6).1
  have N6 := Fr.snoc X6 N3 g_a0
  have KC6 : Keep h0 h6 [a0] := KC3.wr W6 (Or.inl (List.mem_of_getElem? (i := 0) rfl))
  have O6 : Old Z n0 h6 := O3.wr W6 g_a0
  have Fw6 := y5.same W6
  obtain ⟨T7, h7, X7, e7, E7, A7, D7, -, st7⟩ := newO X6 hx hZ hown (hw _ (List.mem_of_getElem? (i := 53) rfl)) (hw _ (List.mem_of_getElem? (i := 54) rfl)) (hw _ (List.mem_of_getElem? (i := 55) rfl)) e6 (g := (mkF m 16 #[.val (.ref a0), .val (.ref a1), .val .null] [(.ref a0)])) rfl (hb hby d5_16) (by decide) (by decide)
  obtain ⟨b7, g7⟩ : ∃ z, z = h6.size := ⟨_, rfl⟩
  rw [← g7] at A7 D7 st7
  have ne_a0_b7 : a0 ≠ b7 := Nat.ne_of_lt (Nat.lt_of_lt_of_le Fw6.lt (Nat.le_of_eq g7.symm))
  have y8 := (u3_0.wr W6)
  have ne_b2_b7 : b2 ≠ b7 := Nat.ne_of_lt (Nat.lt_of_lt_of_le y8.lt (Nat.le_of_eq g7.symm))
  have g_b7 : n0 ≤ b7 := Nat.le_trans Z6 (Nat.le_of_eq g7.symm)
  have sz_b7 : h0.size ≤ b7 := Nat.le_trans KC6.1 (Nat.le_of_eq g7.symm)
  have Z7 : n0 ≤ h7.size := Nat.le_trans Z6 E7.1
  have KC7 : Keep h0 h7 [a0] := KC6.ext E7
  have O7 : Old Z n0 h7 := O6.ext E7
  have F7_modCount : Fld Z h7 b7 "java/util/AbstractList" "modCount" "I" (.int (0 : Int32)) := D7 (Or.inl (hw _ (List.mem_of_getElem? (i := 73) rfl))) (ty := .int) (by decide)
  have F7_elementData : Fld Z h7 b7 "java/util/ArrayList" "elementData" "[Ljava/lang/Object;" .null := D7 (Or.inl (hw _ (List.mem_of_getElem? (i := 76) rfl))) (ty := (.array (.object "java/lang/Object"))) (by decide)
  have F7_size : Fld Z h7 b7 "java/util/ArrayList" "size" "I" (.int (0 : Int32)) := D7 (Or.inl (hw _ (List.mem_of_getElem? (i := 113) rfl))) (ty := .int) (by decide)
  obtain ⟨_, _, ⟨T9, L9, k9, n9⟩, -, X9, ⟨Lc9, hQ9, l9, y9, z9⟩, st9⟩ := X7.specialBack hx (y := (⟨"java/util/ArrayList", "<init>", "()V"⟩ : MethodName)) rfl hown (mvT hZ (hw _ (List.mem_of_getElem? (i := 56) rfl))) (mvT hZ (hw _ (List.mem_of_getElem? (i := 57) rfl))) (mvT hZ (hw _ (List.mem_of_getElem? (i := 58) rfl))) (by decide) (backOf (W := 2) (rm9 l Z a0' hw [] b7 (0 : Int32) .null (0 : Int32) sD h7 n0 Z7 A7 F7_modCount F7_elementData F7_size g_b7 O7 S_sD) hZ (hw _ (List.mem_of_getElem? (i := 58) rfl)) (hw _ (List.mem_of_getElem? (i := 55) rfl)) (by decide) (by decide)) (g := (mkF m 20 #[.val (.ref a0), .val (.ref a1), .val .null] [(.ref b7), (.ref b7), (.ref a0)])) rfl (by rw [hml]; rfl) (Steps.refl _) (a := b7) (argsL := []) (rest := [(.ref b7), (.ref a0)]) (lenOf pd0 rfl) rfl (by show 2 * 0 + _ ≤ _; exact Nat.le_of_eq rfl) (hb hby d5_20) (fun _ _ => ⟨rfl, e7, (by decide : 2 + 0 ≤ _), (by decide : 15 + 0 ≤ _)⟩)
  dsimp only [Pt.U, Pt.locs, Pt.cells, Pt.slots] at X9 l9 y9 z9 st9 hQ9
  subst l9 y9 z9
  obtain ⟨rfl, N9q, K9, u9_0, u9_1, u9_2, u9_3⟩ := hQ9
  have N9 := Fr.app N6 N9q
  have Z9 : n0 ≤ T9.heap.size := Nat.le_trans Z7 K9.1
  have KC9 : Keep h0 T9.heap [a0] := KC7.trans K9 (allS (Or.inr sz_b7) all0)
  have O9 : Old Z n0 T9.heap := O7.keep K9 (allS g_b7 all0)
  have y10 := (((y4.wr W6).ext E7).keep K9)
  have y11 := (((((F_wa0_changed.ext E2).keep K3 (ninS ne_a0_b2 nin0)).other W6 (Or.inr (slot_ne (Or.inr (hw _ (List.mem_of_getElem? (i := 78) rfl))) (Or.inr (hw _ (List.mem_of_getElem? (i := 52) rfl))) (by decide) (t := (.object "java/util/List")) (t' := (.object "java/util/Map")) (by decide) (by decide)))).ext E7).keep K9 (ninS ne_a0_b7 nin0))
  obtain ⟨T12, h12, X12, e12, W12, st12⟩ := putF X9 hx hZ hown (host := "") (Or.inl (hw _ (List.mem_of_getElem? (i := 77) rfl))) Via.refl rfl y11 y10 (Or.inr ⟨(hw _ (List.mem_of_getElem? (i := 78) rfl)), rfl, hnm⟩) (hw _ (List.mem_of_getElem? (i := 16) rfl)) (ty := (.object "java/util/List")) (by decide) rfl rfl (g := (mkF m 23 #[.val (.ref a0), .val (.ref a1), .val .null] [(.ref b7), (.ref a0)])) rfl rfl (hb hby d5_23)
  have Z12 : n0 ≤ h12.size := Nat.le_trans Z9 (Keep.of_wr W12).1
  have N12 := Fr.snoc X12 N9 g_a0
  have KC12 : Keep h0 h12 [a0] := KC9.wr W12 (Or.inl (List.mem_of_getElem? (i := 0) rfl))
  have O12 : Old Z n0 h12 := O9.wr W12 g_a0
  have Fw12 := y11.same W12
  have y13 := (y10.wr W12)
  have y14 := ((((((F_wa0_budget.ext E2).keep K3 (ninS ne_a0_b2 nin0)).other W6 (Or.inr (slot_ne (Or.inr (hw _ (List.mem_of_getElem? (i := 80) rfl))) (Or.inr (hw _ (List.mem_of_getElem? (i := 52) rfl))) (by decide) (t := (.object "com/example/tenon/tenon/Budget")) (t' := (.object "java/util/Map")) (by decide) (by decide)))).ext E7).keep K9 (ninS ne_a0_b7 nin0)).other W12 (Or.inr (slot_ne (Or.inr (hw _ (List.mem_of_getElem? (i := 80) rfl))) (Or.inr (hw _ (List.mem_of_getElem? (i := 78) rfl))) (by decide) (t := (.object "com/example/tenon/tenon/Budget")) (t' := (.object "java/util/List")) (by decide) (by decide))))
  obtain ⟨T15, h15, X15, e15, W15, st15⟩ := putF X12 hx hZ hown (host := "") (Or.inl (hw _ (List.mem_of_getElem? (i := 79) rfl))) Via.refl e12 y14 y13 (Or.inr ⟨(hw _ (List.mem_of_getElem? (i := 80) rfl)), rfl, hnm⟩) (hw _ (List.mem_of_getElem? (i := 16) rfl)) (ty := (.object "com/example/tenon/tenon/Budget")) (by decide) rfl rfl (g := (mkF m 28 #[.val (.ref a0), .val (.ref a1), .val .null] [(.ref a1), (.ref a0)])) rfl rfl (hb hby d5_28)
  have Z15 : n0 ≤ h15.size := Nat.le_trans Z12 (Keep.of_wr W15).1
  have N15 := Fr.snoc X15 N12 g_a0
  have KC15 : Keep h0 h15 [a0] := KC12.wr W15 (Or.inl (List.mem_of_getElem? (i := 0) rfl))
  have O15 : Old Z n0 h15 := O12.wr W15 g_a0
  have Fw15 := y14.same W15
  have y16 := (y13.wr W15)
  have y17 := (((((((F_wa0_below.ext E2).keep K3 (ninS ne_a0_b2 nin0)).other W6 (Or.inr (slot_ne (Or.inr (hw _ (List.mem_of_getElem? (i := 82) rfl))) (Or.inr (hw _ (List.mem_of_getElem? (i := 52) rfl))) (by decide) (t := (.object "com/example/tenon/tenon/Assignments")) (t' := (.object "java/util/Map")) (by decide) (by decide)))).ext E7).keep K9 (ninS ne_a0_b7 nin0)).other W12 (Or.inr (slot_ne (Or.inr (hw _ (List.mem_of_getElem? (i := 82) rfl))) (Or.inr (hw _ (List.mem_of_getElem? (i := 78) rfl))) (by decide) (t := (.object "com/example/tenon/tenon/Assignments")) (t' := (.object "java/util/List")) (by decide) (by decide)))).other W15 (Or.inr (slot_ne (Or.inr (hw _ (List.mem_of_getElem? (i := 82) rfl))) (Or.inr (hw _ (List.mem_of_getElem? (i := 80) rfl))) (by decide) (t := (.object "com/example/tenon/tenon/Assignments")) (t' := (.object "com/example/tenon/tenon/Budget")) (by decide) (by decide))))
  obtain ⟨T18, h18, X18, e18, W18, st18⟩ := putF X15 hx hZ hown (host := "") (Or.inl (hw _ (List.mem_of_getElem? (i := 81) rfl))) Via.refl e15 y17 y16 (Or.inr ⟨(hw _ (List.mem_of_getElem? (i := 82) rfl)), rfl, hnm⟩) (hw _ (List.mem_of_getElem? (i := 16) rfl)) (ty := (.object "com/example/tenon/tenon/Assignments")) (by decide) rfl rfl (g := (mkF m 33 #[.val (.ref a0), .val (.ref a1), .val .null] [.null, (.ref a0)])) rfl rfl (hb hby d5_33)
  have Z18 : n0 ≤ h18.size := Nat.le_trans Z15 (Keep.of_wr W18).1
  have N18 := Fr.snoc X18 N15 g_a0
  have KC18 : Keep h0 h18 [a0] := KC15.wr W18 (Or.inl (List.mem_of_getElem? (i := 0) rfl))
  have O18 : Old Z n0 h18 := O15.wr W18 g_a0
  have Fw18 := y17.same W18
  have pre19 : ∀ t, Steps p.tables e below (T18.setTop (mkF m 36 #[.val (.ref a0), .val (.ref a1), .val .null] [])) t → Steps p.tables e below (s₁.setTop (entryFrame m #[(.ref a0), (.ref a1), .null] 3)) t := fun t k => pre0 t (by
    show Steps p.tables e below (s₁.setTop (mkF m 0 #[.val (.ref a0), .val (.ref a1), .val .null] [])) _
    refine XS.aloadN X0.here hx rfl (hb hby d5_0) rfl rfl ?_
    show Steps p.tables e below (s₁.setTop (mkF m 1 #[.val (.ref a0), .val (.ref a1), .val .null] [(.ref a0)])) _
    refine st1 _ ?_
    show Steps p.tables e below (T1.setTop (mkF m 4 #[.val (.ref a0), .val (.ref a1), .val .null] [])) _
    refine XS.aloadN X1.here hx rfl (hb hby d5_4) rfl rfl ?_
    show Steps p.tables e below (T1.setTop (mkF m 5 #[.val (.ref a0), .val (.ref a1), .val .null] [(.ref a0)])) _
    refine st2 _ ?_
    show Steps p.tables e below (T2.setTop (mkF m 8 #[.val (.ref a0), .val (.ref a1), .val .null] [(.ref b2), (.ref a0)])) _
    refine XS.dup X2.here hx rfl (hb hby d5_8) rfl rfl ?_
    show Steps p.tables e below (T2.setTop (mkF m 9 #[.val (.ref a0), .val (.ref a1), .val .null] [(.ref b2), (.ref b2), (.ref a0)])) _
    refine st3.trans ?_
    show Steps p.tables e below (T3.setTop (mkF m 12 #[.val (.ref a0), .val (.ref a1), .val .null] [(.ref b2), (.ref a0)])) _
    refine st6 _ ?_
    show Steps p.tables e below (T6.setTop (mkF m 15 #[.val (.ref a0), .val (.ref a1), .val .null] [])) _
    refine XS.aloadN X6.here hx rfl (hb hby d5_15) rfl rfl ?_
    show Steps p.tables e below (T6.setTop (mkF m 16 #[.val (.ref a0), .val (.ref a1), .val .null] [(.ref a0)])) _
    refine st7 _ ?_
    show Steps p.tables e below (T7.setTop (mkF m 19 #[.val (.ref a0), .val (.ref a1), .val .null] [(.ref b7), (.ref a0)])) _
    refine XS.dup X7.here hx rfl (hb hby d5_19) rfl rfl ?_
    show Steps p.tables e below (T7.setTop (mkF m 20 #[.val (.ref a0), .val (.ref a1), .val .null] [(.ref b7), (.ref b7), (.ref a0)])) _
    refine st9.trans ?_
    show Steps p.tables e below (T9.setTop (mkF m 23 #[.val (.ref a0), .val (.ref a1), .val .null] [(.ref b7), (.ref a0)])) _
    refine st12 _ ?_
    show Steps p.tables e below (T12.setTop (mkF m 26 #[.val (.ref a0), .val (.ref a1), .val .null] [])) _
    refine XS.aloadN X12.here hx rfl (hb hby d5_26) rfl rfl ?_
    show Steps p.tables e below (T12.setTop (mkF m 27 #[.val (.ref a0), .val (.ref a1), .val .null] [(.ref a0)])) _
    refine XS.aloadN X12.here hx rfl (hb hby d5_27) rfl rfl ?_
    show Steps p.tables e below (T12.setTop (mkF m 28 #[.val (.ref a0), .val (.ref a1), .val .null] [(.ref a1), (.ref a0)])) _
    refine st15 _ ?_
    show Steps p.tables e below (T15.setTop (mkF m 31 #[.val (.ref a0), .val (.ref a1), .val .null] [])) _
    refine XS.aloadN X15.here hx rfl (hb hby d5_31) rfl rfl ?_
    show Steps p.tables e below (T15.setTop (mkF m 32 #[.val (.ref a0), .val (.ref a1), .val .null] [(.ref a0)])) _
    refine XS.aloadN X15.here hx rfl (hb hby d5_32) rfl rfl ?_
    show Steps p.tables e below (T15.setTop (mkF m 33 #[.val (.ref a0), .val (.ref a1), .val .null] [.null, (.ref a0)])) _
    refine st18 _ ?_
    exact k)
  obtain ⟨fs, hr, hrun, hended, hW, hsame⟩ := X18.leave (v := none) (fun _ => rfl) hlk
  have y20 := (y16.wr W18)
  have y21 := ((Fw12.other W15 (Or.inr (slot_ne (Or.inr (hw _ (List.mem_of_getElem? (i := 78) rfl))) (Or.inr (hw _ (List.mem_of_getElem? (i := 80) rfl))) (by decide) (t := (.object "java/util/List")) (t' := (.object "com/example/tenon/tenon/Budget")) (by decide) (by decide)))).other W18 (Or.inr (slot_ne (Or.inr (hw _ (List.mem_of_getElem? (i := 78) rfl))) (Or.inr (hw _ (List.mem_of_getElem? (i := 82) rfl))) (by decide) (t := (.object "java/util/List")) (t' := (.object "com/example/tenon/tenon/Assignments")) (by decide) (by decide))))
  have y22 := (Fw15.other W18 (Or.inr (slot_ne (Or.inr (hw _ (List.mem_of_getElem? (i := 80) rfl))) (Or.inr (hw _ (List.mem_of_getElem? (i := 82) rfl))) (by decide) (t := (.object "com/example/tenon/tenon/Budget")) (t' := (.object "com/example/tenon/tenon/Assignments")) (by decide) (by decide))))
  have y23 := ((((((((F_wa0_blindness.ext E2).keep K3 (ninS ne_a0_b2 nin0)).other W6 (Or.inr (slot_ne (Or.inl (hw _ (List.mem_of_getElem? (i := 90) rfl))) (Or.inr (hw _ (List.mem_of_getElem? (i := 52) rfl))) (by decide) (t := .int) (t' := (.object "java/util/Map")) (by decide) (by decide)))).ext E7).keep K9 (ninS ne_a0_b7 nin0)).other W12 (Or.inr (slot_ne (Or.inl (hw _ (List.mem_of_getElem? (i := 90) rfl))) (Or.inr (hw _ (List.mem_of_getElem? (i := 78) rfl))) (by decide) (t := .int) (t' := (.object "java/util/List")) (by decide) (by decide)))).other W15 (Or.inr (slot_ne (Or.inl (hw _ (List.mem_of_getElem? (i := 90) rfl))) (Or.inr (hw _ (List.mem_of_getElem? (i := 80) rfl))) (by decide) (t := .int) (t' := (.object "com/example/tenon/tenon/Budget")) (by decide) (by decide)))).other W18 (Or.inr (slot_ne (Or.inl (hw _ (List.mem_of_getElem? (i := 90) rfl))) (Or.inr (hw _ (List.mem_of_getElem? (i := 82) rfl))) (by decide) (t := .int) (t' := (.object "com/example/tenon/tenon/Assignments")) (by decide) (by decide))))
  have y24 := ((((((((F_wa0_marks.ext E2).keep K3 (ninS ne_a0_b2 nin0)).other W6 (Or.inr (slot_ne (Or.inl (hw _ (List.mem_of_getElem? (i := 97) rfl))) (Or.inr (hw _ (List.mem_of_getElem? (i := 52) rfl))) (by decide) (t := .int) (t' := (.object "java/util/Map")) (by decide) (by decide)))).ext E7).keep K9 (ninS ne_a0_b7 nin0)).other W12 (Or.inr (slot_ne (Or.inl (hw _ (List.mem_of_getElem? (i := 97) rfl))) (Or.inr (hw _ (List.mem_of_getElem? (i := 78) rfl))) (by decide) (t := .int) (t' := (.object "java/util/List")) (by decide) (by decide)))).other W15 (Or.inr (slot_ne (Or.inl (hw _ (List.mem_of_getElem? (i := 97) rfl))) (Or.inr (hw _ (List.mem_of_getElem? (i := 80) rfl))) (by decide) (t := .int) (t' := (.object "com/example/tenon/tenon/Budget")) (by decide) (by decide)))).other W18 (Or.inr (slot_ne (Or.inl (hw _ (List.mem_of_getElem? (i := 97) rfl))) (Or.inr (hw _ (List.mem_of_getElem? (i := 82) rfl))) (by decide) (t := .int) (t' := (.object "com/example/tenon/tenon/Assignments")) (by decide) (by decide))))
  have y25 := (((u9_0.wr W12).wr W15).wr W18)
  have y26 := (((u9_1.other W12 (Or.inl (Ne.symm ne_a0_b7))).other W15 (Or.inl (Ne.symm ne_a0_b7))).other W18 (Or.inl (Ne.symm ne_a0_b7)))
  have y27 := (((u9_2.other W12 (Or.inl (Ne.symm ne_a0_b7))).other W15 (Or.inl (Ne.symm ne_a0_b7))).other W18 (Or.inl (Ne.symm ne_a0_b7)))
  have y28 := (((u9_3.other W12 (Or.inl (Ne.symm ne_a0_b7))).other W15 (Or.inl (Ne.symm ne_a0_b7))).other W18 (Or.inl (Ne.symm ne_a0_b7)))
  exact ⟨_, _, pre19 _ (X18.returnOut hx Bd.returns (hb hby d5_36) hr), hrun, hended, _, _, rfl, (by show Q5n Z a0 a1 wa0_assigned wa0_changed wa0_budget wa0_below wa0_blindness wa0_marks sD h0 n0 _ T18.heap _; rw [e18]; exact ⟨b7, rfl, N18, sz_b7, g_b7, KC18, y20, y21, y22, Fw18, y23, y24, y25, y26, y27, y28⟩), ⟨_, rfl⟩, hW, hsame.mono (by decide) (by decide)⟩
theorem ef5 (m : MethodId) (x0 : Addr) (x1 : Addr) (x2 : Addr) : entryFrame m #[(.ref x0), (.ref x1), (.ref x2)] 3 = mkF m 0 #[.val (.ref x0), .val (.ref x1), .val (.ref x2)] [] := by first | (simp [entryFrame, mkF, argsToLocals, Value.category]; done) | rfl
def Q5 (Z : State) (a0 : Addr) (a1 : Addr) (a2 : Addr) (wa0_assigned : Value) (wa0_changed : Value) (wa0_budget : Value) (wa0_below : Value) (wa0_blindness : Int32) (wa0_marks : Int32) (sD : Addr) (h0 : Heap) (n0 : Nat) (v : Option Value) (h : Heap) (L : List Loc) : Prop := ∃ c1 : Addr, v = none ∧ Fr n0 L ∧ h0.size ≤ c1 ∧ n0 ≤ c1 ∧ Keep h0 h [a0] ∧ Exa Z h a0 "com/example/tenon/tenon/Assignments" ∧ Fld Z h a0 "com/example/tenon/tenon/Assignments" "changed" "Ljava/util/List;" (.ref c1) ∧ Fld Z h a0 "com/example/tenon/tenon/Assignments" "budget" "Lcom/example/tenon/tenon/Budget;" (.ref a1) ∧ Fld Z h a0 "com/example/tenon/tenon/Assignments" "below" "Lcom/example/tenon/tenon/Assignments;" (.ref a2) ∧ Fld Z h a0 "com/example/tenon/tenon/Assignments" "blindness" "I" (.int wa0_blindness) ∧ Fld Z h a0 "com/example/tenon/tenon/Assignments" "marks" "I" (.int wa0_marks) ∧ Exa Z h c1 "java/util/ArrayList" ∧ Fld Z h c1 "java/util/AbstractList" "modCount" "I" (.int (0 : Int32)) ∧ Fld Z h c1 "java/util/ArrayList" "elementData" "[Ljava/lang/Object;" (.ref sD) ∧ Fld Z h c1 "java/util/ArrayList" "size" "I" (.int (0 : Int32))
set_option maxRecDepth 65536 in
set_option maxHeartbeats 40000000 in
theorem rm5 (l : Launch) (Z : State) (a0' : Array Value) (hw : ∀ d ∈ tables_1, d.before a0' Z = true) (ws : List Jvm.Cond) (a0 : Addr) (a1 : Addr) (a2 : Addr) (wa0_assigned : Value) (wa0_changed : Value) (wa0_budget : Value) (wa0_below : Value) (wa0_blindness : Int32) (wa0_marks : Int32) (sD : Addr) (h0 : Heap) (n0 : Nat) (Z0 : n0 ≤ h0.size) (E_a0 : Exa Z h0 a0 "com/example/tenon/tenon/Assignments") (F_wa0_assigned : Fld Z h0 a0 "com/example/tenon/tenon/Assignments" "assigned" "Ljava/util/Map;" wa0_assigned) (F_wa0_changed : Fld Z h0 a0 "com/example/tenon/tenon/Assignments" "changed" "Ljava/util/List;" wa0_changed) (F_wa0_budget : Fld Z h0 a0 "com/example/tenon/tenon/Assignments" "budget" "Lcom/example/tenon/tenon/Budget;" wa0_budget) (F_wa0_below : Fld Z h0 a0 "com/example/tenon/tenon/Assignments" "below" "Lcom/example/tenon/tenon/Assignments;" wa0_below) (F_wa0_blindness : Fld Z h0 a0 "com/example/tenon/tenon/Assignments" "blindness" "I" (.int wa0_blindness)) (F_wa0_marks : Fld Z h0 a0 "com/example/tenon/tenon/Assignments" "marks" "I" (.int wa0_marks)) (g_a0 : n0 ≤ a0) (OLD0 : Old Z n0 h0) (S_sD : Sta Z Z.heap "java/util/ArrayList" "DEFAULTCAPACITY_EMPTY_ELEMENTDATA" "[Ljava/lang/Object;" (.ref sD)) :
    MetFree l (⟨"com/example/tenon/tenon/Assignments", "<init>", "(Lcom/example/tenon/tenon/Budget;Lcom/example/tenon/tenon/Assignments;)V"⟩ : MethodName) (head1 (Jvm.Cond.code (⟨"com/example/tenon/tenon/Assignments", "<init>", "(Lcom/example/tenon/tenon/Budget;Lcom/example/tenon/tenon/Assignments;)V"⟩ : MethodName) prog_4_method_2_code 3 none :: ws) ({ frames := 4, cells := 2, slots := 15, locals := 50 } : Room)) (fun a U => a = #[(.ref a0), (.ref a1), (.ref a2)] ∧ Z.Warmed39 U.vm ∧ U.heap = h0) (fun _ _ _ _ _ => True) (fun _ U o U' => ∃ v L, o = .returned v ∧ Q5 Z a0 a1 a2 wa0_assigned wa0_changed wa0_budget wa0_below wa0_blindness wa0_marks sD h0 n0 v U'.heap L ∧ FrameEnd U o U' L ({ frames := 4, cells := 2, slots := 15, locals := 50 } : Room).cells ({ frames := 4, cells := 2, slots := 15, locals := 50 } : Room).slots) := by
  refine MetFree.of_bodySF (plainFor_of_name pn7) hisR ?_
  intro p e s m args below meth c s₁ Bd hml0 hP hK
  obtain ⟨rfl, hZ, hh⟩ := hP
  have hx := Bd.exec
  have hby := Bd.bytes
  have hml : c.maxLocals = 3 := hml0
  have hown' := findClass_of_methodNamed Bd.named
  have hown : s.vm.findClass "com/example/tenon/tenon/Assignments" = some m.cls := hown'
  have hnm := (name_of_methodNamed Bd.named Bd.method).1
  have X0 : Stand p l e ({ frames := 4, cells := 2, slots := 15, locals := 50 } : Room) s m #[(.ref a0), (.ref a1), (.ref a2)] below meth c s₁ [] 0 0 := Stand.of_body Bd
  have e0 : s₁.heap = h0 := by rw [← hh, Bd.state]; rfl
  have N0 := Fr.nil n0
  have hlk : meth.locks = false := by first | exact BodyLoose.notSynchronized Bd | exact Body.notSynchronized Bd
  have pre0 : ∀ t, Steps p.tables e below (s₁.setTop (mkF m 0 #[.val (.ref a0), .val (.ref a1), .val (.ref a2)] [])) t → Steps p.tables e below (s₁.setTop (entryFrame m #[(.ref a0), (.ref a1), (.ref a2)] 3)) t := fun t k => castTop (ef5 m a0 a1 a2) k
  obtain ⟨T1, X1, e1, st1⟩ := initO X0 hx hZ hown (hw _ (List.mem_of_getElem? (i := 24) rfl)) (hw _ (List.mem_of_getElem? (i := 11) rfl)) (hw _ (List.mem_of_getElem? (i := 12) rfl)) e0 (g := (mkF m 1 #[.val (.ref a0), .val (.ref a1), .val (.ref a2)] [(.ref a0)])) rfl (by rw [hml]; rfl) rfl (hb hby d5_1) (by decide) (W := 0) (by show 2 * 0 + _ ≤ _; exact Nat.le_of_eq rfl) (by decide)
  obtain ⟨T2, h2, X2, e2, E2, A2, D2, -, st2⟩ := newO X1 hx hZ hown (hw _ (List.mem_of_getElem? (i := 25) rfl)) (hw _ (List.mem_of_getElem? (i := 26) rfl)) (hw _ (List.mem_of_getElem? (i := 27) rfl)) e1 (g := (mkF m 5 #[.val (.ref a0), .val (.ref a1), .val (.ref a2)] [(.ref a0)])) rfl (hb hby d5_5) (by decide) (by decide)
  obtain ⟨b2, g2⟩ : ∃ z, z = h0.size := ⟨_, rfl⟩
  rw [← g2] at A2 D2 st2
  have ne_a0_b2 : a0 ≠ b2 := Nat.ne_of_lt (Nat.lt_of_lt_of_le F_wa0_assigned.lt (Nat.le_of_eq g2.symm))
  have g_b2 : n0 ≤ b2 := Nat.le_trans Z0 (Nat.le_of_eq g2.symm)
  have sz_b2 : h0.size ≤ b2 := Nat.le_trans (Keep.refl h0 [a0]).1 (Nat.le_of_eq g2.symm)
  have Z2 : n0 ≤ h2.size := Nat.le_trans Z0 E2.1
  have KC2 : Keep h0 h2 [a0] := (Keep.refl h0 [a0]).ext E2
  have O2 : Old Z n0 h2 := OLD0.ext E2
  have F2_loadFactor : Fld Z h2 b2 "java/util/HashMap" "loadFactor" "F" (.float (0 : UInt32)) := D2 (Or.inr (hw _ (List.mem_of_getElem? (i := 46) rfl))) (ty := .float) (by decide)
  have F2_putMode : Fld Z h2 b2 "java/util/LinkedHashMap" "putMode" "I" (.int (0 : Int32)) := D2 (Or.inl (hw _ (List.mem_of_getElem? (i := 48) rfl))) (ty := .int) (by decide)
  have F2_accessOrder : Fld Z h2 b2 "java/util/LinkedHashMap" "accessOrder" "Z" (.int (0 : Int32)) := D2 (Or.inr (hw _ (List.mem_of_getElem? (i := 50) rfl))) (ty := .boolean) (by decide)
  obtain ⟨_, _, ⟨T3, L3, k3, n3⟩, -, X3, ⟨Lc3, hQ3, l3, y3, z3⟩, st3⟩ := X2.specialBack hx (y := (⟨"java/util/LinkedHashMap", "<init>", "()V"⟩ : MethodName)) rfl hown (mvT hZ (hw _ (List.mem_of_getElem? (i := 28) rfl))) (mvT hZ (hw _ (List.mem_of_getElem? (i := 29) rfl))) (mvT hZ (hw _ (List.mem_of_getElem? (i := 30) rfl))) (by decide) (backOf (W := 2) (rm6 l Z a0' hw [] b2 (0 : UInt32) (0 : Int32) (0 : Int32) h2 n0 Z2 A2 F2_loadFactor F2_putMode F2_accessOrder g_b2) hZ (hw _ (List.mem_of_getElem? (i := 30) rfl)) (hw _ (List.mem_of_getElem? (i := 27) rfl)) (by decide) (by decide)) (g := (mkF m 9 #[.val (.ref a0), .val (.ref a1), .val (.ref a2)] [(.ref b2), (.ref b2), (.ref a0)])) rfl (by rw [hml]; rfl) (Steps.refl _) (a := b2) (argsL := []) (rest := [(.ref b2), (.ref a0)]) (lenOf pd0 rfl) rfl (by show 2 * 0 + _ ≤ _; exact Nat.le_of_eq rfl) (hb hby d5_9) (fun _ _ => ⟨rfl, e2, (by decide : 1 + 0 ≤ _), (by decide : 12 + 0 ≤ _)⟩)
  dsimp only [Pt.U, Pt.locs, Pt.cells, Pt.slots] at X3 l3 y3 z3 st3 hQ3
  subst l3 y3 z3
  obtain ⟨rfl, N3q, K3, u3_0, u3_1, u3_2, u3_3⟩ := hQ3
  have N3 := Fr.app N0 N3q
  have Z3 : n0 ≤ T3.heap.size := Nat.le_trans Z2 K3.1
  have KC3 : Keep h0 T3.heap [a0] := KC2.trans K3 (allS (Or.inr sz_b2) all0)
  have O3 : Old Z n0 T3.heap := O2.keep K3 (allS g_b2 all0)
  have y4 := ((E_a0.ext E2).keep K3)
  have y5 := ((F_wa0_assigned.ext E2).keep K3 (ninS ne_a0_b2 nin0))
  obtain ⟨T6, h6, X6, e6, W6, st6⟩ := putF X3 hx hZ hown (host := "") (Or.inl (hw _ (List.mem_of_getElem? (i := 51) rfl))) Via.refl rfl y5 y4 (Or.inr ⟨(hw _ (List.mem_of_getElem? (i := 52) rfl)), rfl, hnm⟩) (hw _ (List.mem_of_getElem? (i := 16) rfl)) (ty := (.object "java/util/Map")) (by decide) rfl rfl (g := (mkF m 12 #[.val (.ref a0), .val (.ref a1), .val (.ref a2)] [(.ref b2), (.ref a0)])) rfl rfl (hb hby d5_12)
  have Z6 : n0 ≤ h6.size := Nat.le_trans Z3 (Keep.of_wr W6).1
  have N6 := Fr.snoc X6 N3 g_a0
  have KC6 : Keep h0 h6 [a0] := KC3.wr W6 (Or.inl (List.mem_of_getElem? (i := 0) rfl))
  have O6 : Old Z n0 h6 := O3.wr W6 g_a0
  have Fw6 := y5.same W6
  obtain ⟨T7, h7, X7, e7, E7, A7, D7, -, st7⟩ := newO X6 hx hZ hown (hw _ (List.mem_of_getElem? (i := 53) rfl)) (hw _ (List.mem_of_getElem? (i := 54) rfl)) (hw _ (List.mem_of_getElem? (i := 55) rfl)) e6 (g := (mkF m 16 #[.val (.ref a0), .val (.ref a1), .val (.ref a2)] [(.ref a0)])) rfl (hb hby d5_16) (by decide) (by decide)
  obtain ⟨b7, g7⟩ : ∃ z, z = h6.size := ⟨_, rfl⟩
  rw [← g7] at A7 D7 st7
  have ne_a0_b7 : a0 ≠ b7 := Nat.ne_of_lt (Nat.lt_of_lt_of_le Fw6.lt (Nat.le_of_eq g7.symm))
  have y8 := (u3_0.wr W6)
  have ne_b2_b7 : b2 ≠ b7 := Nat.ne_of_lt (Nat.lt_of_lt_of_le y8.lt (Nat.le_of_eq g7.symm))
  have g_b7 : n0 ≤ b7 := Nat.le_trans Z6 (Nat.le_of_eq g7.symm)
  have sz_b7 : h0.size ≤ b7 := Nat.le_trans KC6.1 (Nat.le_of_eq g7.symm)
  have Z7 : n0 ≤ h7.size := Nat.le_trans Z6 E7.1
  have KC7 : Keep h0 h7 [a0] := KC6.ext E7
  have O7 : Old Z n0 h7 := O6.ext E7
  have F7_modCount : Fld Z h7 b7 "java/util/AbstractList" "modCount" "I" (.int (0 : Int32)) := D7 (Or.inl (hw _ (List.mem_of_getElem? (i := 73) rfl))) (ty := .int) (by decide)
  have F7_elementData : Fld Z h7 b7 "java/util/ArrayList" "elementData" "[Ljava/lang/Object;" .null := D7 (Or.inl (hw _ (List.mem_of_getElem? (i := 76) rfl))) (ty := (.array (.object "java/lang/Object"))) (by decide)
  have F7_size : Fld Z h7 b7 "java/util/ArrayList" "size" "I" (.int (0 : Int32)) := D7 (Or.inl (hw _ (List.mem_of_getElem? (i := 113) rfl))) (ty := .int) (by decide)
  obtain ⟨_, _, ⟨T9, L9, k9, n9⟩, -, X9, ⟨Lc9, hQ9, l9, y9, z9⟩, st9⟩ := X7.specialBack hx (y := (⟨"java/util/ArrayList", "<init>", "()V"⟩ : MethodName)) rfl hown (mvT hZ (hw _ (List.mem_of_getElem? (i := 56) rfl))) (mvT hZ (hw _ (List.mem_of_getElem? (i := 57) rfl))) (mvT hZ (hw _ (List.mem_of_getElem? (i := 58) rfl))) (by decide) (backOf (W := 2) (rm9 l Z a0' hw [] b7 (0 : Int32) .null (0 : Int32) sD h7 n0 Z7 A7 F7_modCount F7_elementData F7_size g_b7 O7 S_sD) hZ (hw _ (List.mem_of_getElem? (i := 58) rfl)) (hw _ (List.mem_of_getElem? (i := 55) rfl)) (by decide) (by decide)) (g := (mkF m 20 #[.val (.ref a0), .val (.ref a1), .val (.ref a2)] [(.ref b7), (.ref b7), (.ref a0)])) rfl (by rw [hml]; rfl) (Steps.refl _) (a := b7) (argsL := []) (rest := [(.ref b7), (.ref a0)]) (lenOf pd0 rfl) rfl (by show 2 * 0 + _ ≤ _; exact Nat.le_of_eq rfl) (hb hby d5_20) (fun _ _ => ⟨rfl, e7, (by decide : 2 + 0 ≤ _), (by decide : 15 + 0 ≤ _)⟩)
  dsimp only [Pt.U, Pt.locs, Pt.cells, Pt.slots] at X9 l9 y9 z9 st9 hQ9
  subst l9 y9 z9
  obtain ⟨rfl, N9q, K9, u9_0, u9_1, u9_2, u9_3⟩ := hQ9
  have N9 := Fr.app N6 N9q
  have Z9 : n0 ≤ T9.heap.size := Nat.le_trans Z7 K9.1
  have KC9 : Keep h0 T9.heap [a0] := KC7.trans K9 (allS (Or.inr sz_b7) all0)
  have O9 : Old Z n0 T9.heap := O7.keep K9 (allS g_b7 all0)
  have y10 := (((y4.wr W6).ext E7).keep K9)
  have y11 := (((((F_wa0_changed.ext E2).keep K3 (ninS ne_a0_b2 nin0)).other W6 (Or.inr (slot_ne (Or.inr (hw _ (List.mem_of_getElem? (i := 78) rfl))) (Or.inr (hw _ (List.mem_of_getElem? (i := 52) rfl))) (by decide) (t := (.object "java/util/List")) (t' := (.object "java/util/Map")) (by decide) (by decide)))).ext E7).keep K9 (ninS ne_a0_b7 nin0))
  obtain ⟨T12, h12, X12, e12, W12, st12⟩ := putF X9 hx hZ hown (host := "") (Or.inl (hw _ (List.mem_of_getElem? (i := 77) rfl))) Via.refl rfl y11 y10 (Or.inr ⟨(hw _ (List.mem_of_getElem? (i := 78) rfl)), rfl, hnm⟩) (hw _ (List.mem_of_getElem? (i := 16) rfl)) (ty := (.object "java/util/List")) (by decide) rfl rfl (g := (mkF m 23 #[.val (.ref a0), .val (.ref a1), .val (.ref a2)] [(.ref b7), (.ref a0)])) rfl rfl (hb hby d5_23)
  have Z12 : n0 ≤ h12.size := Nat.le_trans Z9 (Keep.of_wr W12).1
  have N12 := Fr.snoc X12 N9 g_a0
  have KC12 : Keep h0 h12 [a0] := KC9.wr W12 (Or.inl (List.mem_of_getElem? (i := 0) rfl))
  have O12 : Old Z n0 h12 := O9.wr W12 g_a0
  have Fw12 := y11.same W12
  have y13 := (y10.wr W12)
  have y14 := ((((((F_wa0_budget.ext E2).keep K3 (ninS ne_a0_b2 nin0)).other W6 (Or.inr (slot_ne (Or.inr (hw _ (List.mem_of_getElem? (i := 80) rfl))) (Or.inr (hw _ (List.mem_of_getElem? (i := 52) rfl))) (by decide) (t := (.object "com/example/tenon/tenon/Budget")) (t' := (.object "java/util/Map")) (by decide) (by decide)))).ext E7).keep K9 (ninS ne_a0_b7 nin0)).other W12 (Or.inr (slot_ne (Or.inr (hw _ (List.mem_of_getElem? (i := 80) rfl))) (Or.inr (hw _ (List.mem_of_getElem? (i := 78) rfl))) (by decide) (t := (.object "com/example/tenon/tenon/Budget")) (t' := (.object "java/util/List")) (by decide) (by decide))))
  obtain ⟨T15, h15, X15, e15, W15, st15⟩ := putF X12 hx hZ hown (host := "") (Or.inl (hw _ (List.mem_of_getElem? (i := 79) rfl))) Via.refl e12 y14 y13 (Or.inr ⟨(hw _ (List.mem_of_getElem? (i := 80) rfl)), rfl, hnm⟩) (hw _ (List.mem_of_getElem? (i := 16) rfl)) (ty := (.object "com/example/tenon/tenon/Budget")) (by decide) rfl rfl (g := (mkF m 28 #[.val (.ref a0), .val (.ref a1), .val (.ref a2)] [(.ref a1), (.ref a0)])) rfl rfl (hb hby d5_28)
  have Z15 : n0 ≤ h15.size := Nat.le_trans Z12 (Keep.of_wr W15).1
  have N15 := Fr.snoc X15 N12 g_a0
  have KC15 : Keep h0 h15 [a0] := KC12.wr W15 (Or.inl (List.mem_of_getElem? (i := 0) rfl))
  have O15 : Old Z n0 h15 := O12.wr W15 g_a0
  have Fw15 := y14.same W15
  have y16 := (y13.wr W15)
  have y17 := (((((((F_wa0_below.ext E2).keep K3 (ninS ne_a0_b2 nin0)).other W6 (Or.inr (slot_ne (Or.inr (hw _ (List.mem_of_getElem? (i := 82) rfl))) (Or.inr (hw _ (List.mem_of_getElem? (i := 52) rfl))) (by decide) (t := (.object "com/example/tenon/tenon/Assignments")) (t' := (.object "java/util/Map")) (by decide) (by decide)))).ext E7).keep K9 (ninS ne_a0_b7 nin0)).other W12 (Or.inr (slot_ne (Or.inr (hw _ (List.mem_of_getElem? (i := 82) rfl))) (Or.inr (hw _ (List.mem_of_getElem? (i := 78) rfl))) (by decide) (t := (.object "com/example/tenon/tenon/Assignments")) (t' := (.object "java/util/List")) (by decide) (by decide)))).other W15 (Or.inr (slot_ne (Or.inr (hw _ (List.mem_of_getElem? (i := 82) rfl))) (Or.inr (hw _ (List.mem_of_getElem? (i := 80) rfl))) (by decide) (t := (.object "com/example/tenon/tenon/Assignments")) (t' := (.object "com/example/tenon/tenon/Budget")) (by decide) (by decide))))
  obtain ⟨T18, h18, X18, e18, W18, st18⟩ := putF X15 hx hZ hown (host := "") (Or.inl (hw _ (List.mem_of_getElem? (i := 81) rfl))) Via.refl e15 y17 y16 (Or.inr ⟨(hw _ (List.mem_of_getElem? (i := 82) rfl)), rfl, hnm⟩) (hw _ (List.mem_of_getElem? (i := 16) rfl)) (ty := (.object "com/example/tenon/tenon/Assignments")) (by decide) rfl rfl (g := (mkF m 33 #[.val (.ref a0), .val (.ref a1), .val (.ref a2)] [(.ref a2), (.ref a0)])) rfl rfl (hb hby d5_33)
  have Z18 : n0 ≤ h18.size := Nat.le_trans Z15 (Keep.of_wr W18).1
  have N18 := Fr.snoc X18 N15 g_a0
  have KC18 : Keep h0 h18 [a0] := KC15.wr W18 (Or.inl (List.mem_of_getElem? (i := 0) rfl))
  have O18 : Old Z n0 h18 := O15.wr W18 g_a0
  have Fw18 := y17.same W18
  have pre19 : ∀ t, Steps p.tables e below (T18.setTop (mkF m 36 #[.val (.ref a0), .val (.ref a1), .val (.ref a2)] [])) t → Steps p.tables e below (s₁.setTop (entryFrame m #[(.ref a0), (.ref a1), (.ref a2)] 3)) t := fun t k => pre0 t (by
    show Steps p.tables e below (s₁.setTop (mkF m 0 #[.val (.ref a0), .val (.ref a1), .val (.ref a2)] [])) _
    refine XS.aloadN X0.here hx rfl (hb hby d5_0) rfl rfl ?_
    show Steps p.tables e below (s₁.setTop (mkF m 1 #[.val (.ref a0), .val (.ref a1), .val (.ref a2)] [(.ref a0)])) _
    refine st1 _ ?_
    show Steps p.tables e below (T1.setTop (mkF m 4 #[.val (.ref a0), .val (.ref a1), .val (.ref a2)] [])) _
    refine XS.aloadN X1.here hx rfl (hb hby d5_4) rfl rfl ?_
    show Steps p.tables e below (T1.setTop (mkF m 5 #[.val (.ref a0), .val (.ref a1), .val (.ref a2)] [(.ref a0)])) _
    refine st2 _ ?_
    show Steps p.tables e below (T2.setTop (mkF m 8 #[.val (.ref a0), .val (.ref a1), .val (.ref a2)] [(.ref b2), (.ref a0)])) _
    refine XS.dup X2.here hx rfl (hb hby d5_8) rfl rfl ?_
    show Steps p.tables e below (T2.setTop (mkF m 9 #[.val (.ref a0), .val (.ref a1), .val (.ref a2)] [(.ref b2), (.ref b2), (.ref a0)])) _
    refine st3.trans ?_
    show Steps p.tables e below (T3.setTop (mkF m 12 #[.val (.ref a0), .val (.ref a1), .val (.ref a2)] [(.ref b2), (.ref a0)])) _
    refine st6 _ ?_
    show Steps p.tables e below (T6.setTop (mkF m 15 #[.val (.ref a0), .val (.ref a1), .val (.ref a2)] [])) _
    refine XS.aloadN X6.here hx rfl (hb hby d5_15) rfl rfl ?_
    show Steps p.tables e below (T6.setTop (mkF m 16 #[.val (.ref a0), .val (.ref a1), .val (.ref a2)] [(.ref a0)])) _
    refine st7 _ ?_
    show Steps p.tables e below (T7.setTop (mkF m 19 #[.val (.ref a0), .val (.ref a1), .val (.ref a2)] [(.ref b7), (.ref a0)])) _
    refine XS.dup X7.here hx rfl (hb hby d5_19) rfl rfl ?_
    show Steps p.tables e below (T7.setTop (mkF m 20 #[.val (.ref a0), .val (.ref a1), .val (.ref a2)] [(.ref b7), (.ref b7), (.ref a0)])) _
    refine st9.trans ?_
    show Steps p.tables e below (T9.setTop (mkF m 23 #[.val (.ref a0), .val (.ref a1), .val (.ref a2)] [(.ref b7), (.ref a0)])) _
    refine st12 _ ?_
    show Steps p.tables e below (T12.setTop (mkF m 26 #[.val (.ref a0), .val (.ref a1), .val (.ref a2)] [])) _
    refine XS.aloadN X12.here hx rfl (hb hby d5_26) rfl rfl ?_
    show Steps p.tables e below (T12.setTop (mkF m 27 #[.val (.ref a0), .val (.ref a1), .val (.ref a2)] [(.ref a0)])) _
    refine XS.aloadN X12.here hx rfl (hb hby d5_27) rfl rfl ?_
    show Steps p.tables e below (T12.setTop (mkF m 28 #[.val (.ref a0), .val (.ref a1), .val (.ref a2)] [(.ref a1), (.ref a0)])) _
    refine st15 _ ?_
    show Steps p.tables e below (T15.setTop (mkF m 31 #[.val (.ref a0), .val (.ref a1), .val (.ref a2)] [])) _
    refine XS.aloadN X15.here hx rfl (hb hby d5_31) rfl rfl ?_
    show Steps p.tables e below (T15.setTop (mkF m 32 #[.val (.ref a0), .val (.ref a1), .val (.ref a2)] [(.ref a0)])) _
    refine XS.aloadN X15.here hx rfl (hb hby d5_32) rfl rfl ?_
    show Steps p.tables e below (T15.setTop (mkF m 33 #[.val (.ref a0), .val (.ref a1), .val (.ref a2)] [(.ref a2), (.ref a0)])) _
    refine st18 _ ?_
    exact k)
  obtain ⟨fs, hr, hrun, hended, hW, hsame⟩ := X18.leave (v := none) (fun _ => rfl) hlk
  have y20 := (y16.wr W18)
  have y21 := ((Fw12.other W15 (Or.inr (slot_ne (Or.inr (hw _ (List.mem_of_getElem? (i := 78) rfl))) (Or.inr (hw _ (List.mem_of_getElem? (i := 80) rfl))) (by decide) (t := (.object "java/util/List")) (t' := (.object "com/example/tenon/tenon/Budget")) (by decide) (by decide)))).other W18 (Or.inr (slot_ne (Or.inr (hw _ (List.mem_of_getElem? (i := 78) rfl))) (Or.inr (hw _ (List.mem_of_getElem? (i := 82) rfl))) (by decide) (t := (.object "java/util/List")) (t' := (.object "com/example/tenon/tenon/Assignments")) (by decide) (by decide))))
  have y22 := (Fw15.other W18 (Or.inr (slot_ne (Or.inr (hw _ (List.mem_of_getElem? (i := 80) rfl))) (Or.inr (hw _ (List.mem_of_getElem? (i := 82) rfl))) (by decide) (t := (.object "com/example/tenon/tenon/Budget")) (t' := (.object "com/example/tenon/tenon/Assignments")) (by decide) (by decide))))
  have y23 := ((((((((F_wa0_blindness.ext E2).keep K3 (ninS ne_a0_b2 nin0)).other W6 (Or.inr (slot_ne (Or.inl (hw _ (List.mem_of_getElem? (i := 90) rfl))) (Or.inr (hw _ (List.mem_of_getElem? (i := 52) rfl))) (by decide) (t := .int) (t' := (.object "java/util/Map")) (by decide) (by decide)))).ext E7).keep K9 (ninS ne_a0_b7 nin0)).other W12 (Or.inr (slot_ne (Or.inl (hw _ (List.mem_of_getElem? (i := 90) rfl))) (Or.inr (hw _ (List.mem_of_getElem? (i := 78) rfl))) (by decide) (t := .int) (t' := (.object "java/util/List")) (by decide) (by decide)))).other W15 (Or.inr (slot_ne (Or.inl (hw _ (List.mem_of_getElem? (i := 90) rfl))) (Or.inr (hw _ (List.mem_of_getElem? (i := 80) rfl))) (by decide) (t := .int) (t' := (.object "com/example/tenon/tenon/Budget")) (by decide) (by decide)))).other W18 (Or.inr (slot_ne (Or.inl (hw _ (List.mem_of_getElem? (i := 90) rfl))) (Or.inr (hw _ (List.mem_of_getElem? (i := 82) rfl))) (by decide) (t := .int) (t' := (.object "com/example/tenon/tenon/Assignments")) (by decide) (by decide))))
  have y24 := ((((((((F_wa0_marks.ext E2).keep K3 (ninS ne_a0_b2 nin0)).other W6 (Or.inr (slot_ne (Or.inl (hw _ (List.mem_of_getElem? (i := 97) rfl))) (Or.inr (hw _ (List.mem_of_getElem? (i := 52) rfl))) (by decide) (t := .int) (t' := (.object "java/util/Map")) (by decide) (by decide)))).ext E7).keep K9 (ninS ne_a0_b7 nin0)).other W12 (Or.inr (slot_ne (Or.inl (hw _ (List.mem_of_getElem? (i := 97) rfl))) (Or.inr (hw _ (List.mem_of_getElem? (i := 78) rfl))) (by decide) (t := .int) (t' := (.object "java/util/List")) (by decide) (by decide)))).other W15 (Or.inr (slot_ne (Or.inl (hw _ (List.mem_of_getElem? (i := 97) rfl))) (Or.inr (hw _ (List.mem_of_getElem? (i := 80) rfl))) (by decide) (t := .int) (t' := (.object "com/example/tenon/tenon/Budget")) (by decide) (by decide)))).other W18 (Or.inr (slot_ne (Or.inl (hw _ (List.mem_of_getElem? (i := 97) rfl))) (Or.inr (hw _ (List.mem_of_getElem? (i := 82) rfl))) (by decide) (t := .int) (t' := (.object "com/example/tenon/tenon/Assignments")) (by decide) (by decide))))
  have y25 := (((u9_0.wr W12).wr W15).wr W18)
  have y26 := (((u9_1.other W12 (Or.inl (Ne.symm ne_a0_b7))).other W15 (Or.inl (Ne.symm ne_a0_b7))).other W18 (Or.inl (Ne.symm ne_a0_b7)))
  have y27 := (((u9_2.other W12 (Or.inl (Ne.symm ne_a0_b7))).other W15 (Or.inl (Ne.symm ne_a0_b7))).other W18 (Or.inl (Ne.symm ne_a0_b7)))
  have y28 := (((u9_3.other W12 (Or.inl (Ne.symm ne_a0_b7))).other W15 (Or.inl (Ne.symm ne_a0_b7))).other W18 (Or.inl (Ne.symm ne_a0_b7)))
  exact ⟨_, _, pre19 _ (X18.returnOut hx Bd.returns (hb hby d5_36) hr), hrun, hended, _, _, rfl, (by show Q5 Z a0 a1 a2 wa0_assigned wa0_changed wa0_budget wa0_below wa0_blindness wa0_marks sD h0 n0 _ T18.heap _; rw [e18]; exact ⟨b7, rfl, N18, sz_b7, g_b7, KC18, y20, y21, y22, Fw18, y23, y24, y25, y26, y27, y28⟩), ⟨_, rfl⟩, hW, hsame.mono (by decide) (by decide)⟩
theorem ef4 (m : MethodId) (x0 : Addr) (x1 : Addr) : entryFrame m #[(.ref x0), (.ref x1)] 2 = mkF m 0 #[.val (.ref x0), .val (.ref x1)] [] := by first | (simp [entryFrame, mkF, argsToLocals, Value.category]; done) | rfl
def Q4 (Z : State) (a0 : Addr) (a1 : Addr) (wa0_assigned : Value) (wa0_changed : Value) (wa0_budget : Value) (wa0_below : Value) (wa0_blindness : Int32) (wa0_marks : Int32) (sD : Addr) (h0 : Heap) (n0 : Nat) (v : Option Value) (h : Heap) (L : List Loc) : Prop := ∃ c1 : Addr, v = none ∧ Fr n0 L ∧ h0.size ≤ c1 ∧ n0 ≤ c1 ∧ Keep h0 h [a0] ∧ Exa Z h a0 "com/example/tenon/tenon/Assignments" ∧ Fld Z h a0 "com/example/tenon/tenon/Assignments" "changed" "Ljava/util/List;" (.ref c1) ∧ Fld Z h a0 "com/example/tenon/tenon/Assignments" "budget" "Lcom/example/tenon/tenon/Budget;" (.ref a1) ∧ Fld Z h a0 "com/example/tenon/tenon/Assignments" "below" "Lcom/example/tenon/tenon/Assignments;" .null ∧ Fld Z h a0 "com/example/tenon/tenon/Assignments" "blindness" "I" (.int wa0_blindness) ∧ Fld Z h a0 "com/example/tenon/tenon/Assignments" "marks" "I" (.int wa0_marks) ∧ Exa Z h c1 "java/util/ArrayList" ∧ Fld Z h c1 "java/util/AbstractList" "modCount" "I" (.int (0 : Int32)) ∧ Fld Z h c1 "java/util/ArrayList" "elementData" "[Ljava/lang/Object;" (.ref sD) ∧ Fld Z h c1 "java/util/ArrayList" "size" "I" (.int (0 : Int32))
set_option maxRecDepth 65536 in
set_option maxHeartbeats 40000000 in
theorem rm4 (l : Launch) (Z : State) (a0' : Array Value) (hw : ∀ d ∈ tables_1, d.before a0' Z = true) (ws : List Jvm.Cond) (a0 : Addr) (a1 : Addr) (wa0_assigned : Value) (wa0_changed : Value) (wa0_budget : Value) (wa0_below : Value) (wa0_blindness : Int32) (wa0_marks : Int32) (sD : Addr) (h0 : Heap) (n0 : Nat) (Z0 : n0 ≤ h0.size) (E_a0 : Exa Z h0 a0 "com/example/tenon/tenon/Assignments") (F_wa0_assigned : Fld Z h0 a0 "com/example/tenon/tenon/Assignments" "assigned" "Ljava/util/Map;" wa0_assigned) (F_wa0_changed : Fld Z h0 a0 "com/example/tenon/tenon/Assignments" "changed" "Ljava/util/List;" wa0_changed) (F_wa0_budget : Fld Z h0 a0 "com/example/tenon/tenon/Assignments" "budget" "Lcom/example/tenon/tenon/Budget;" wa0_budget) (F_wa0_below : Fld Z h0 a0 "com/example/tenon/tenon/Assignments" "below" "Lcom/example/tenon/tenon/Assignments;" wa0_below) (F_wa0_blindness : Fld Z h0 a0 "com/example/tenon/tenon/Assignments" "blindness" "I" (.int wa0_blindness)) (F_wa0_marks : Fld Z h0 a0 "com/example/tenon/tenon/Assignments" "marks" "I" (.int wa0_marks)) (g_a0 : n0 ≤ a0) (OLD0 : Old Z n0 h0) (S_sD : Sta Z Z.heap "java/util/ArrayList" "DEFAULTCAPACITY_EMPTY_ELEMENTDATA" "[Ljava/lang/Object;" (.ref sD)) :
    MetFree l (⟨"com/example/tenon/tenon/Assignments", "<init>", "(Lcom/example/tenon/tenon/Budget;)V"⟩ : MethodName) (head1 (Jvm.Cond.code (⟨"com/example/tenon/tenon/Assignments", "<init>", "(Lcom/example/tenon/tenon/Budget;)V"⟩ : MethodName) prog_4_method_1_code 2 none :: ws) ({ frames := 5, cells := 2, slots := 15, locals := 64 } : Room)) (fun a U => a = #[(.ref a0), (.ref a1)] ∧ Z.Warmed39 U.vm ∧ U.heap = h0) (fun _ _ _ _ _ => True) (fun _ U o U' => ∃ v L, o = .returned v ∧ Q4 Z a0 a1 wa0_assigned wa0_changed wa0_budget wa0_below wa0_blindness wa0_marks sD h0 n0 v U'.heap L ∧ FrameEnd U o U' L ({ frames := 5, cells := 2, slots := 15, locals := 64 } : Room).cells ({ frames := 5, cells := 2, slots := 15, locals := 64 } : Room).slots) := by
  refine MetFree.of_bodySF (plainFor_of_name pn7) hisR ?_
  intro p e s m args below meth c s₁ Bd hml0 hP hK
  obtain ⟨rfl, hZ, hh⟩ := hP
  have hx := Bd.exec
  have hby := Bd.bytes
  have hml : c.maxLocals = 2 := hml0
  have hown' := findClass_of_methodNamed Bd.named
  have hown : s.vm.findClass "com/example/tenon/tenon/Assignments" = some m.cls := hown'
  have hnm := (name_of_methodNamed Bd.named Bd.method).1
  have X0 : Stand p l e ({ frames := 5, cells := 2, slots := 15, locals := 64 } : Room) s m #[(.ref a0), (.ref a1)] below meth c s₁ [] 0 0 := Stand.of_body Bd
  have e0 : s₁.heap = h0 := by rw [← hh, Bd.state]; rfl
  have N0 := Fr.nil n0
  have hlk : meth.locks = false := by first | exact BodyLoose.notSynchronized Bd | exact Body.notSynchronized Bd
  have pre0 : ∀ t, Steps p.tables e below (s₁.setTop (mkF m 0 #[.val (.ref a0), .val (.ref a1)] [])) t → Steps p.tables e below (s₁.setTop (entryFrame m #[(.ref a0), (.ref a1)] 2)) t := fun t k => castTop (ef4 m a0 a1) k
  obtain ⟨_, _, ⟨T1, L1, k1, n1⟩, -, X1, ⟨Lc1, hQ1, l1, y1, z1⟩, st1⟩ := X0.specialBack hx (y := (⟨"com/example/tenon/tenon/Assignments", "<init>", "(Lcom/example/tenon/tenon/Budget;Lcom/example/tenon/tenon/Assignments;)V"⟩ : MethodName)) rfl hown (mvT hZ (hw _ (List.mem_of_getElem? (i := 21) rfl))) (mvT hZ (hw _ (List.mem_of_getElem? (i := 22) rfl))) (mvT hZ (hw _ (List.mem_of_getElem? (i := 23) rfl))) (by decide) (backOf (W := 0) (rm5n l Z a0' hw [] a0 a1 wa0_assigned wa0_changed wa0_budget wa0_below wa0_blindness wa0_marks sD h0 n0 Z0 E_a0 F_wa0_assigned F_wa0_changed F_wa0_budget F_wa0_below F_wa0_blindness F_wa0_marks g_a0 OLD0 S_sD) hZ (hw _ (List.mem_of_getElem? (i := 23) rfl)) (hw _ (List.mem_of_getElem? (i := 17) rfl)) (by decide) (by decide)) (g := (mkF m 3 #[.val (.ref a0), .val (.ref a1)] [.null, (.ref a1), (.ref a0)])) rfl (by rw [hml]; rfl) (Steps.refl _) (a := a0) (argsL := [(.ref a1), .null]) (rest := []) (lenOf pd2 rfl) rfl (by show 2 * 0 + _ ≤ _; exact Nat.le_of_eq rfl) (hb hby d4_3) (fun _ _ => ⟨rfl, e0, (by decide : 0 + 2 ≤ _), (by decide : 0 + 15 ≤ _)⟩)
  dsimp only [Pt.U, Pt.locs, Pt.cells, Pt.slots] at X1 l1 y1 z1 st1 hQ1
  subst l1 y1 z1
  obtain ⟨b1_0, rfl, N1q, gs_b1_0, g_b1_0, K1, u1_0, u1_1, u1_2, u1_3, u1_4, u1_5, u1_6, u1_7, u1_8, u1_9⟩ := hQ1
  have N1 := Fr.app N0 N1q
  have ne_a0_b1_0 : a0 ≠ b1_0 := Nat.ne_of_lt (Nat.lt_of_lt_of_le F_wa0_assigned.lt gs_b1_0)
  have sz_b1_0 : h0.size ≤ b1_0 := Nat.le_trans (Keep.refl h0 [a0]).1 gs_b1_0
  have Z1 : n0 ≤ T1.heap.size := Nat.le_trans Z0 K1.1
  have KC1 : Keep h0 T1.heap [a0] := (Keep.refl h0 [a0]).trans K1 (allS (Or.inl (List.mem_of_getElem? (i := 0) rfl)) all0)
  have O1 : Old Z n0 T1.heap := OLD0.keep K1 (allS g_a0 all0)
  have pre2 : ∀ t, Steps p.tables e below (T1.setTop (mkF m 6 #[.val (.ref a0), .val (.ref a1)] [])) t → Steps p.tables e below (s₁.setTop (entryFrame m #[(.ref a0), (.ref a1)] 2)) t := fun t k => pre0 t (by
    show Steps p.tables e below (s₁.setTop (mkF m 0 #[.val (.ref a0), .val (.ref a1)] [])) _
    refine XS.aloadN X0.here hx rfl (hb hby d4_0) rfl rfl ?_
    show Steps p.tables e below (s₁.setTop (mkF m 1 #[.val (.ref a0), .val (.ref a1)] [(.ref a0)])) _
    refine XS.aloadN X0.here hx rfl (hb hby d4_1) rfl rfl ?_
    show Steps p.tables e below (s₁.setTop (mkF m 2 #[.val (.ref a0), .val (.ref a1)] [(.ref a1), (.ref a0)])) _
    refine XS.aconstNull X0.here hx rfl (hb hby d4_2) ?_
    show Steps p.tables e below (s₁.setTop (mkF m 3 #[.val (.ref a0), .val (.ref a1)] [.null, (.ref a1), (.ref a0)])) _
    refine st1.trans ?_
    exact k)
  obtain ⟨fs, hr, hrun, hended, hW, hsame⟩ := X1.leave (v := none) (fun _ => rfl) hlk
  exact ⟨_, _, pre2 _ (X1.returnOut hx Bd.returns (hb hby d4_6) hr), hrun, hended, _, _, rfl, ⟨b1_0, rfl, N1, sz_b1_0, g_b1_0, KC1, u1_0, u1_1, u1_2, u1_3, u1_4, u1_5, u1_6, u1_7, u1_8, u1_9⟩, ⟨_, rfl⟩, hW, hsame.mono (by decide) (by decide)⟩
def F12a (wa0_blindness : Int32) : Int32 := (if (0 : Int32) < wa0_blindness then (1 : Int32) else (0 : Int32))
theorem ef12a (m : MethodId) (x0 : Addr) : entryFrame m #[(.ref x0)] 1 = mkF m 0 #[.val (.ref x0)] [] := by first | (simp [entryFrame, mkF, argsToLocals, Value.category]; done) | rfl
def Q12a (Z : State) (a0 : Addr) (wa0_blindness : Int32) (h0 : Heap) (n0 : Nat) (v : Option Value) (h : Heap) (L : List Loc) : Prop := v = some (.int (F12a wa0_blindness)) ∧ Fr n0 L ∧ h = h0
set_option maxRecDepth 65536 in
set_option maxHeartbeats 40000000 in
theorem rm12a (l : Launch) (Z : State) (a0' : Array Value) (hw : ∀ d ∈ tables_1, d.before a0' Z = true) (ws : List Jvm.Cond) (a0 : Addr) (wa0_blindness : Int32) (h0 : Heap) (n0 : Nat) (Z0 : n0 ≤ h0.size) (F_wa0_blindness : Fld Z h0 a0 "com/example/tenon/tenon/Assignments" "blindness" "I" (.int wa0_blindness)) (F_wa0_below : Fld Z h0 a0 "com/example/tenon/tenon/Assignments" "below" "Lcom/example/tenon/tenon/Assignments;" .null) :
    MetFree l (⟨"com/example/tenon/tenon/Assignments", "isBlind", "()Z"⟩ : MethodName) (head1 (Jvm.Cond.code (⟨"com/example/tenon/tenon/Assignments", "isBlind", "()Z"⟩ : MethodName) prog_4_method_8_code 1 (some .boolean) :: ws) ({ frames := 0, cells := 0, slots := 0, locals := 0 } : Room)) (fun a U => a = #[(.ref a0)] ∧ Z.Warmed39 U.vm ∧ U.heap = h0) (fun _ _ _ _ _ => True) (fun _ U o U' => ∃ v L, o = .returned v ∧ Q12a Z a0 wa0_blindness h0 n0 v U'.heap L ∧ FrameEnd U o U' L ({ frames := 0, cells := 0, slots := 0, locals := 0 } : Room).cells ({ frames := 0, cells := 0, slots := 0, locals := 0 } : Room).slots) := by
  refine MetFree.of_bodySF (plainFor_of_name pn7) hisR ?_
  intro p e s m args below meth c s₁ Bd hml0 hP hK
  obtain ⟨rfl, hZ, hh⟩ := hP
  have hx := Bd.exec
  have hby := Bd.bytes
  have hml : c.maxLocals = 1 := hml0
  have hown' := findClass_of_methodNamed Bd.named
  have hown : s.vm.findClass "com/example/tenon/tenon/Assignments" = some m.cls := hown'
  have hnm := (name_of_methodNamed Bd.named Bd.method).1
  have X0 : Stand p l e ({ frames := 0, cells := 0, slots := 0, locals := 0 } : Room) s m #[(.ref a0)] below meth c s₁ [] 0 0 := Stand.of_body Bd
  have e0 : s₁.heap = h0 := by rw [← hh, Bd.state]; rfl
  have N0 := Fr.nil n0
  have hlk : meth.locks = false := by first | exact BodyLoose.notSynchronized Bd | exact Body.notSynchronized Bd
  have pre0 : ∀ t, Steps p.tables e below (s₁.setTop (mkF m 0 #[.val (.ref a0)] [])) t → Steps p.tables e below (s₁.setTop (entryFrame m #[(.ref a0)] 1)) t := fun t k => castTop (ef12a m a0) k
  obtain ⟨T1, X1, e1, st1⟩ := getF X0 hx hZ hown (host := "") (Or.inl (hw _ (List.mem_of_getElem? (i := 89) rfl))) Via.refl e0 F_wa0_blindness (g := (mkF m 1 #[.val (.ref a0)] [(.ref a0)])) rfl rfl (hb hby d12_1)
  have pre2 : ∀ t, Steps p.tables e below (T1.setTop (mkF m 4 #[.val (.ref a0)] [(.int wa0_blindness)])) t → Steps p.tables e below (s₁.setTop (entryFrame m #[(.ref a0)] 1)) t := fun t k => pre0 t (by
    show Steps p.tables e below (s₁.setTop (mkF m 0 #[.val (.ref a0)] [])) _
    refine XS.aloadN X0.here hx rfl (hb hby d12_0) rfl rfl ?_
    show Steps p.tables e below (s₁.setTop (mkF m 1 #[.val (.ref a0)] [(.ref a0)])) _
    refine st1 _ ?_
    exact k)
  by_cases hc4_3 : (0 : Int32) < wa0_blindness
  · have pre4 : ∀ t, Steps p.tables e below (T1.setTop (mkF m 29 #[.val (.ref a0)] [(.int (1 : Int32))])) t → Steps p.tables e below (s₁.setTop (entryFrame m #[(.ref a0)] 1)) t := fun t k => pre2 t (by
      show Steps p.tables e below (T1.setTop (mkF m 4 #[.val (.ref a0)] [(.int wa0_blindness)])) _
      refine XS.ifYes X1.here hx rfl (pc0 := 4) (pc' := 24) rfl (hb hby d12_4) rfl ((if0 _ _).trans (tlt hc4_3).2.2.1) (by decide) (by decide) ?_
      show Steps p.tables e below (T1.setTop (mkF m 24 #[.val (.ref a0)] [])) _
      refine XS.iconst X1.here hx rfl (hb hby d12_24) ?_
      show Steps p.tables e below (T1.setTop (mkF m 25 #[.val (.ref a0)] [(.int (1 : Int32))])) _
      refine XS.goto X1.here hx rfl (pc0 := 25) (pc' := 29) rfl (hb hby d12_25) (by decide) (by decide) ?_
      exact k)
    obtain ⟨fs, hr, hrun, hended, hW, hsame⟩ := X1.leave (v := some (.int (1 : Int32))) (fun h => by rw [Bd.returns] at h; cases h) hlk
    have hF : (F12a wa0_blindness) = (1 : Int32) := by unfold F12a; rw [if_pos hc4_3]
    exact ⟨_, _, pre4 _ (retN X1 hx (t := .boolean) Bd.returns (by simp) (hb hby d12_29) hr), hrun, hended, _, _, rfl, ⟨by rw [hF], N0, e1⟩, ⟨_, rfl⟩, hW, hsame.mono (by decide) (by decide)⟩
  obtain ⟨T5, X5, e5, st5⟩ := getF X1 hx hZ hown (host := "") (Or.inl (hw _ (List.mem_of_getElem? (i := 81) rfl))) Via.refl e1 F_wa0_below (g := (mkF m 8 #[.val (.ref a0)] [(.ref a0)])) rfl rfl (hb hby d12_8)
  have pre6 : ∀ t, Steps p.tables e below (T5.setTop (mkF m 29 #[.val (.ref a0)] [(.int (0 : Int32))])) t → Steps p.tables e below (s₁.setTop (entryFrame m #[(.ref a0)] 1)) t := fun t k => pre2 t (by
    show Steps p.tables e below (T1.setTop (mkF m 4 #[.val (.ref a0)] [(.int wa0_blindness)])) _
    refine XS.ifNo X1.here hx rfl (hb hby d12_4) rfl ((if0 _ _).trans (flt hc4_3).2.2.1) ?_
    show Steps p.tables e below (T1.setTop (mkF m 7 #[.val (.ref a0)] [])) _
    refine XS.aloadN X1.here hx rfl (hb hby d12_7) rfl rfl ?_
    show Steps p.tables e below (T1.setTop (mkF m 8 #[.val (.ref a0)] [(.ref a0)])) _
    refine st5 _ ?_
    show Steps p.tables e below (T5.setTop (mkF m 11 #[.val (.ref a0)] [.null])) _
    refine XS.ifnullYes X5.here hx rfl (pc0 := 11) (pc' := 28) rfl (hb hby d12_11) rfl (by decide) (by decide) ?_
    show Steps p.tables e below (T5.setTop (mkF m 28 #[.val (.ref a0)] [])) _
    refine XS.iconst X5.here hx rfl (hb hby d12_28) ?_
    exact k)
  obtain ⟨fs, hr, hrun, hended, hW, hsame⟩ := X5.leave (v := some (.int (0 : Int32))) (fun h => by rw [Bd.returns] at h; cases h) hlk
  have hF : (F12a wa0_blindness) = (0 : Int32) := by unfold F12a; rw [if_neg hc4_3]
  exact ⟨_, _, pre6 _ (retN X5 hx (t := .boolean) Bd.returns (by simp) (hb hby d12_29) hr), hrun, hended, _, _, rfl, ⟨by rw [hF], N0, e5⟩, ⟨_, rfl⟩, hW, hsame.mono (by decide) (by decide)⟩
def F12b (wa0_blindness : Int32) (wwa0_below_blindness : Int32) : Int32 := (if (0 : Int32) < wa0_blindness then (1 : Int32) else (if (F12a wwa0_below_blindness) = (0 : Int32) then (0 : Int32) else (1 : Int32)))
theorem ef12b (m : MethodId) (x0 : Addr) : entryFrame m #[(.ref x0)] 1 = mkF m 0 #[.val (.ref x0)] [] := by first | (simp [entryFrame, mkF, argsToLocals, Value.category]; done) | rfl
def Q12b (Z : State) (a0 : Addr) (wa0_blindness : Int32) (wa0_below : Addr) (wwa0_below_blindness : Int32) (h0 : Heap) (n0 : Nat) (v : Option Value) (h : Heap) (L : List Loc) : Prop := v = some (.int (F12b wa0_blindness wwa0_below_blindness)) ∧ Fr n0 L ∧ h = h0
set_option maxRecDepth 65536 in
set_option maxHeartbeats 40000000 in
theorem rm12b (l : Launch) (Z : State) (a0' : Array Value) (hw : ∀ d ∈ tables_1, d.before a0' Z = true) (ws : List Jvm.Cond) (a0 : Addr) (wa0_blindness : Int32) (wa0_below : Addr) (wwa0_below_blindness : Int32) (h0 : Heap) (n0 : Nat) (Z0 : n0 ≤ h0.size) (E_wa0_below : Exa Z h0 wa0_below "com/example/tenon/tenon/Assignments") (F_wa0_blindness : Fld Z h0 a0 "com/example/tenon/tenon/Assignments" "blindness" "I" (.int wa0_blindness)) (F_wa0_below : Fld Z h0 a0 "com/example/tenon/tenon/Assignments" "below" "Lcom/example/tenon/tenon/Assignments;" (.ref wa0_below)) (F_wwa0_below_blindness : Fld Z h0 wa0_below "com/example/tenon/tenon/Assignments" "blindness" "I" (.int wwa0_below_blindness)) (F_wwa0_below_below : Fld Z h0 wa0_below "com/example/tenon/tenon/Assignments" "below" "Lcom/example/tenon/tenon/Assignments;" .null) :
    MetFree l (⟨"com/example/tenon/tenon/Assignments", "isBlind", "()Z"⟩ : MethodName) (head1 (Jvm.Cond.code (⟨"com/example/tenon/tenon/Assignments", "isBlind", "()Z"⟩ : MethodName) prog_4_method_8_code 1 (some .boolean) :: ws) ({ frames := 1, cells := 0, slots := 0, locals := 12 } : Room)) (fun a U => a = #[(.ref a0)] ∧ Z.Warmed39 U.vm ∧ U.heap = h0) (fun _ _ _ _ _ => True) (fun _ U o U' => ∃ v L, o = .returned v ∧ Q12b Z a0 wa0_blindness wa0_below wwa0_below_blindness h0 n0 v U'.heap L ∧ FrameEnd U o U' L ({ frames := 1, cells := 0, slots := 0, locals := 12 } : Room).cells ({ frames := 1, cells := 0, slots := 0, locals := 12 } : Room).slots) := by
  refine MetFree.of_bodySF (plainFor_of_name pn7) hisR ?_
  intro p e s m args below meth c s₁ Bd hml0 hP hK
  obtain ⟨rfl, hZ, hh⟩ := hP
  have hx := Bd.exec
  have hby := Bd.bytes
  have hml : c.maxLocals = 1 := hml0
  have hown' := findClass_of_methodNamed Bd.named
  have hown : s.vm.findClass "com/example/tenon/tenon/Assignments" = some m.cls := hown'
  have hnm := (name_of_methodNamed Bd.named Bd.method).1
  have X0 : Stand p l e ({ frames := 1, cells := 0, slots := 0, locals := 12 } : Room) s m #[(.ref a0)] below meth c s₁ [] 0 0 := Stand.of_body Bd
  have e0 : s₁.heap = h0 := by rw [← hh, Bd.state]; rfl
  have N0 := Fr.nil n0
  have hlk : meth.locks = false := by first | exact BodyLoose.notSynchronized Bd | exact Body.notSynchronized Bd
  have pre0 : ∀ t, Steps p.tables e below (s₁.setTop (mkF m 0 #[.val (.ref a0)] [])) t → Steps p.tables e below (s₁.setTop (entryFrame m #[(.ref a0)] 1)) t := fun t k => castTop (ef12b m a0) k
  obtain ⟨T1, X1, e1, st1⟩ := getF X0 hx hZ hown (host := "") (Or.inl (hw _ (List.mem_of_getElem? (i := 89) rfl))) Via.refl e0 F_wa0_blindness (g := (mkF m 1 #[.val (.ref a0)] [(.ref a0)])) rfl rfl (hb hby d12_1)
  have pre2 : ∀ t, Steps p.tables e below (T1.setTop (mkF m 4 #[.val (.ref a0)] [(.int wa0_blindness)])) t → Steps p.tables e below (s₁.setTop (entryFrame m #[(.ref a0)] 1)) t := fun t k => pre0 t (by
    show Steps p.tables e below (s₁.setTop (mkF m 0 #[.val (.ref a0)] [])) _
    refine XS.aloadN X0.here hx rfl (hb hby d12_0) rfl rfl ?_
    show Steps p.tables e below (s₁.setTop (mkF m 1 #[.val (.ref a0)] [(.ref a0)])) _
    refine st1 _ ?_
    exact k)
  by_cases hc4_3 : (0 : Int32) < wa0_blindness
  · have pre4 : ∀ t, Steps p.tables e below (T1.setTop (mkF m 29 #[.val (.ref a0)] [(.int (1 : Int32))])) t → Steps p.tables e below (s₁.setTop (entryFrame m #[(.ref a0)] 1)) t := fun t k => pre2 t (by
      show Steps p.tables e below (T1.setTop (mkF m 4 #[.val (.ref a0)] [(.int wa0_blindness)])) _
      refine XS.ifYes X1.here hx rfl (pc0 := 4) (pc' := 24) rfl (hb hby d12_4) rfl ((if0 _ _).trans (tlt hc4_3).2.2.1) (by decide) (by decide) ?_
      show Steps p.tables e below (T1.setTop (mkF m 24 #[.val (.ref a0)] [])) _
      refine XS.iconst X1.here hx rfl (hb hby d12_24) ?_
      show Steps p.tables e below (T1.setTop (mkF m 25 #[.val (.ref a0)] [(.int (1 : Int32))])) _
      refine XS.goto X1.here hx rfl (pc0 := 25) (pc' := 29) rfl (hb hby d12_25) (by decide) (by decide) ?_
      exact k)
    obtain ⟨fs, hr, hrun, hended, hW, hsame⟩ := X1.leave (v := some (.int (1 : Int32))) (fun h => by rw [Bd.returns] at h; cases h) hlk
    have hF : (F12b wa0_blindness wwa0_below_blindness) = (1 : Int32) := by unfold F12b; rw [if_pos hc4_3]
    exact ⟨_, _, pre4 _ (retN X1 hx (t := .boolean) Bd.returns (by simp) (hb hby d12_29) hr), hrun, hended, _, _, rfl, ⟨by rw [hF], N0, e1⟩, ⟨_, rfl⟩, hW, hsame.mono (by decide) (by decide)⟩
  obtain ⟨T5, X5, e5, st5⟩ := getF X1 hx hZ hown (host := "") (Or.inl (hw _ (List.mem_of_getElem? (i := 81) rfl))) Via.refl e1 F_wa0_below (g := (mkF m 8 #[.val (.ref a0)] [(.ref a0)])) rfl rfl (hb hby d12_8)
  obtain ⟨T6, X6, e6, st6⟩ := getF X5 hx hZ hown (host := "") (Or.inl (hw _ (List.mem_of_getElem? (i := 81) rfl))) Via.refl e5 F_wa0_below (g := (mkF m 15 #[.val (.ref a0)] [(.ref a0)])) rfl rfl (hb hby d12_15)
  obtain ⟨cq7, kq7, q7a, q7b, q7c⟩ := isOf hZ e6 E_wa0_below
  obtain ⟨_, _, ⟨T7, L7, k7, n7⟩, -, X7, ⟨Lc7, hQ7, l7, y7, z7⟩, st7⟩ := X6.virtualBack hx (y := (⟨"com/example/tenon/tenon/Assignments", "isBlind", "()Z"⟩ : MethodName)) (z := (⟨"com/example/tenon/tenon/Assignments", "isBlind", "()Z"⟩ : MethodName)) hown (mvT hZ (hw _ (List.mem_of_getElem? (i := 216) rfl))) (mvT hZ (hw _ (List.mem_of_getElem? (i := 85) rfl))) (notFace_of_selects (args := #[]) (mvT hZ (hw _ (List.mem_of_getElem? (i := 87) rfl)))) (mvT hZ (hw _ (List.mem_of_getElem? (i := 87) rfl))) (mvT hZ (hw _ (List.mem_of_getElem? (i := 86) rfl))) (by decide) (backOf (W := 0) (rm12a l Z a0' hw [] wa0_below wwa0_below_blindness h0 n0 Z0 F_wwa0_below_blindness F_wwa0_below_below) hZ (hw _ (List.mem_of_getElem? (i := 88) rfl)) (hw _ (List.mem_of_getElem? (i := 17) rfl)) (by decide) (by decide)) q7a q7c (g := (mkF m 18 #[.val (.ref a0)] [(.ref wa0_below)])) rfl (by rw [hml]; rfl) (Steps.refl _) (argsL := []) (rest := []) (lenOf pd3 rfl) rfl (by show 2 * 0 + _ ≤ _; exact Nat.le_of_eq rfl) (hb hby d12_18) (fun _ _ => ⟨rfl, e6, (by decide : 0 + 0 ≤ _), (by decide : 0 + 0 ≤ _)⟩)
  dsimp only [Pt.U, Pt.locs, Pt.cells, Pt.slots] at X7 l7 y7 z7 st7 hQ7
  subst l7 y7 z7
  obtain ⟨rfl, N7q, e7⟩ := hQ7
  have N7 := Fr.app N0 N7q
  have pre8 : ∀ t, Steps p.tables e below (T7.setTop (mkF m 21 #[.val (.ref a0)] [(.int (F12a wwa0_below_blindness))])) t → Steps p.tables e below (s₁.setTop (entryFrame m #[(.ref a0)] 1)) t := fun t k => pre2 t (by
    show Steps p.tables e below (T1.setTop (mkF m 4 #[.val (.ref a0)] [(.int wa0_blindness)])) _
    refine XS.ifNo X1.here hx rfl (hb hby d12_4) rfl ((if0 _ _).trans (flt hc4_3).2.2.1) ?_
    show Steps p.tables e below (T1.setTop (mkF m 7 #[.val (.ref a0)] [])) _
    refine XS.aloadN X1.here hx rfl (hb hby d12_7) rfl rfl ?_
    show Steps p.tables e below (T1.setTop (mkF m 8 #[.val (.ref a0)] [(.ref a0)])) _
    refine st5 _ ?_
    show Steps p.tables e below (T5.setTop (mkF m 11 #[.val (.ref a0)] [(.ref wa0_below)])) _
    refine XS.ifnullNo X5.here hx rfl (hb hby d12_11) rfl ?_
    show Steps p.tables e below (T5.setTop (mkF m 14 #[.val (.ref a0)] [])) _
    refine XS.aloadN X5.here hx rfl (hb hby d12_14) rfl rfl ?_
    show Steps p.tables e below (T5.setTop (mkF m 15 #[.val (.ref a0)] [(.ref a0)])) _
    refine st6 _ ?_
    show Steps p.tables e below (T6.setTop (mkF m 18 #[.val (.ref a0)] [(.ref wa0_below)])) _
    refine st7.trans ?_
    exact k)
  by_cases hc21_9 : (F12a wwa0_below_blindness) = (0 : Int32)
  · have pre10 : ∀ t, Steps p.tables e below (T7.setTop (mkF m 29 #[.val (.ref a0)] [(.int (0 : Int32))])) t → Steps p.tables e below (s₁.setTop (entryFrame m #[(.ref a0)] 1)) t := fun t k => pre8 t (by
      show Steps p.tables e below (T7.setTop (mkF m 21 #[.val (.ref a0)] [(.int (F12a wwa0_below_blindness))])) _
      refine XS.ifYes X7.here hx rfl (pc0 := 21) (pc' := 28) rfl (hb hby d12_21) rfl ((if0 _ _).trans (teq hc21_9).1) (by decide) (by decide) ?_
      show Steps p.tables e below (T7.setTop (mkF m 28 #[.val (.ref a0)] [])) _
      refine XS.iconst X7.here hx rfl (hb hby d12_28) ?_
      exact k)
    obtain ⟨fs, hr, hrun, hended, hW, hsame⟩ := X7.leave (v := some (.int (0 : Int32))) (fun h => by rw [Bd.returns] at h; cases h) hlk
    have hF : (F12b wa0_blindness wwa0_below_blindness) = (0 : Int32) := by unfold F12b; rw [if_neg hc4_3, if_pos hc21_9]
    exact ⟨_, _, pre10 _ (retN X7 hx (t := .boolean) Bd.returns (by simp) (hb hby d12_29) hr), hrun, hended, _, _, rfl, ⟨by rw [hF], N7, e7⟩, ⟨_, rfl⟩, hW, hsame.mono (by decide) (by decide)⟩
  have pre11 : ∀ t, Steps p.tables e below (T7.setTop (mkF m 29 #[.val (.ref a0)] [(.int (1 : Int32))])) t → Steps p.tables e below (s₁.setTop (entryFrame m #[(.ref a0)] 1)) t := fun t k => pre8 t (by
    show Steps p.tables e below (T7.setTop (mkF m 21 #[.val (.ref a0)] [(.int (F12a wwa0_below_blindness))])) _
    refine XS.ifNo X7.here hx rfl (hb hby d12_21) rfl ((if0 _ _).trans (feq hc21_9).1) ?_
    show Steps p.tables e below (T7.setTop (mkF m 24 #[.val (.ref a0)] [])) _
    refine XS.iconst X7.here hx rfl (hb hby d12_24) ?_
    show Steps p.tables e below (T7.setTop (mkF m 25 #[.val (.ref a0)] [(.int (1 : Int32))])) _
    refine XS.goto X7.here hx rfl (pc0 := 25) (pc' := 29) rfl (hb hby d12_25) (by decide) (by decide) ?_
    exact k)
  obtain ⟨fs, hr, hrun, hended, hW, hsame⟩ := X7.leave (v := some (.int (1 : Int32))) (fun h => by rw [Bd.returns] at h; cases h) hlk
  have hF : (F12b wa0_blindness wwa0_below_blindness) = (1 : Int32) := by unfold F12b; rw [if_neg hc4_3, if_neg hc21_9]
  exact ⟨_, _, pre11 _ (retN X7 hx (t := .boolean) Bd.returns (by simp) (hb hby d12_29) hr), hrun, hended, _, _, rfl, ⟨by rw [hF], N7, e7⟩, ⟨_, rfl⟩, hW, hsame.mono (by decide) (by decide)⟩
def F12c (wa0_blindness : Int32) (wwa0_below_blindness : Int32) (wwwa0_below_below_blindness : Int32) : Int32 := (if (0 : Int32) < wa0_blindness then (1 : Int32) else (if (F12b wwa0_below_blindness wwwa0_below_below_blindness) = (0 : Int32) then (0 : Int32) else (1 : Int32)))
theorem ef12c (m : MethodId) (x0 : Addr) : entryFrame m #[(.ref x0)] 1 = mkF m 0 #[.val (.ref x0)] [] := by first | (simp [entryFrame, mkF, argsToLocals, Value.category]; done) | rfl
def Q12c (Z : State) (a0 : Addr) (wa0_blindness : Int32) (wa0_below : Addr) (wwa0_below_blindness : Int32) (wwa0_below_below : Addr) (wwwa0_below_below_blindness : Int32) (h0 : Heap) (n0 : Nat) (v : Option Value) (h : Heap) (L : List Loc) : Prop := v = some (.int (F12c wa0_blindness wwa0_below_blindness wwwa0_below_below_blindness)) ∧ Fr n0 L ∧ h = h0
set_option maxRecDepth 65536 in
set_option maxHeartbeats 40000000 in
theorem rm12c (l : Launch) (Z : State) (a0' : Array Value) (hw : ∀ d ∈ tables_1, d.before a0' Z = true) (ws : List Jvm.Cond) (a0 : Addr) (wa0_blindness : Int32) (wa0_below : Addr) (wwa0_below_blindness : Int32) (wwa0_below_below : Addr) (wwwa0_below_below_blindness : Int32) (h0 : Heap) (n0 : Nat) (Z0 : n0 ≤ h0.size) (E_wwa0_below_below : Exa Z h0 wwa0_below_below "com/example/tenon/tenon/Assignments") (E_wa0_below : Exa Z h0 wa0_below "com/example/tenon/tenon/Assignments") (F_wa0_blindness : Fld Z h0 a0 "com/example/tenon/tenon/Assignments" "blindness" "I" (.int wa0_blindness)) (F_wa0_below : Fld Z h0 a0 "com/example/tenon/tenon/Assignments" "below" "Lcom/example/tenon/tenon/Assignments;" (.ref wa0_below)) (F_wwa0_below_blindness : Fld Z h0 wa0_below "com/example/tenon/tenon/Assignments" "blindness" "I" (.int wwa0_below_blindness)) (F_wwa0_below_below : Fld Z h0 wa0_below "com/example/tenon/tenon/Assignments" "below" "Lcom/example/tenon/tenon/Assignments;" (.ref wwa0_below_below)) (F_wwwa0_below_below_blindness : Fld Z h0 wwa0_below_below "com/example/tenon/tenon/Assignments" "blindness" "I" (.int wwwa0_below_below_blindness)) (F_wwwa0_below_below_below : Fld Z h0 wwa0_below_below "com/example/tenon/tenon/Assignments" "below" "Lcom/example/tenon/tenon/Assignments;" .null) :
    MetFree l (⟨"com/example/tenon/tenon/Assignments", "isBlind", "()Z"⟩ : MethodName) (head1 (Jvm.Cond.code (⟨"com/example/tenon/tenon/Assignments", "isBlind", "()Z"⟩ : MethodName) prog_4_method_8_code 1 (some .boolean) :: ws) ({ frames := 2, cells := 0, slots := 0, locals := 24 } : Room)) (fun a U => a = #[(.ref a0)] ∧ Z.Warmed39 U.vm ∧ U.heap = h0) (fun _ _ _ _ _ => True) (fun _ U o U' => ∃ v L, o = .returned v ∧ Q12c Z a0 wa0_blindness wa0_below wwa0_below_blindness wwa0_below_below wwwa0_below_below_blindness h0 n0 v U'.heap L ∧ FrameEnd U o U' L ({ frames := 2, cells := 0, slots := 0, locals := 24 } : Room).cells ({ frames := 2, cells := 0, slots := 0, locals := 24 } : Room).slots) := by
  refine MetFree.of_bodySF (plainFor_of_name pn7) hisR ?_
  intro p e s m args below meth c s₁ Bd hml0 hP hK
  obtain ⟨rfl, hZ, hh⟩ := hP
  have hx := Bd.exec
  have hby := Bd.bytes
  have hml : c.maxLocals = 1 := hml0
  have hown' := findClass_of_methodNamed Bd.named
  have hown : s.vm.findClass "com/example/tenon/tenon/Assignments" = some m.cls := hown'
  have hnm := (name_of_methodNamed Bd.named Bd.method).1
  have X0 : Stand p l e ({ frames := 2, cells := 0, slots := 0, locals := 24 } : Room) s m #[(.ref a0)] below meth c s₁ [] 0 0 := Stand.of_body Bd
  have e0 : s₁.heap = h0 := by rw [← hh, Bd.state]; rfl
  have N0 := Fr.nil n0
  have hlk : meth.locks = false := by first | exact BodyLoose.notSynchronized Bd | exact Body.notSynchronized Bd
  have pre0 : ∀ t, Steps p.tables e below (s₁.setTop (mkF m 0 #[.val (.ref a0)] [])) t → Steps p.tables e below (s₁.setTop (entryFrame m #[(.ref a0)] 1)) t := fun t k => castTop (ef12c m a0) k
  obtain ⟨T1, X1, e1, st1⟩ := getF X0 hx hZ hown (host := "") (Or.inl (hw _ (List.mem_of_getElem? (i := 89) rfl))) Via.refl e0 F_wa0_blindness (g := (mkF m 1 #[.val (.ref a0)] [(.ref a0)])) rfl rfl (hb hby d12_1)
  have pre2 : ∀ t, Steps p.tables e below (T1.setTop (mkF m 4 #[.val (.ref a0)] [(.int wa0_blindness)])) t → Steps p.tables e below (s₁.setTop (entryFrame m #[(.ref a0)] 1)) t := fun t k => pre0 t (by
    show Steps p.tables e below (s₁.setTop (mkF m 0 #[.val (.ref a0)] [])) _
    refine XS.aloadN X0.here hx rfl (hb hby d12_0) rfl rfl ?_
    show Steps p.tables e below (s₁.setTop (mkF m 1 #[.val (.ref a0)] [(.ref a0)])) _
    refine st1 _ ?_
    exact k)
  by_cases hc4_3 : (0 : Int32) < wa0_blindness
  · have pre4 : ∀ t, Steps p.tables e below (T1.setTop (mkF m 29 #[.val (.ref a0)] [(.int (1 : Int32))])) t → Steps p.tables e below (s₁.setTop (entryFrame m #[(.ref a0)] 1)) t := fun t k => pre2 t (by
      show Steps p.tables e below (T1.setTop (mkF m 4 #[.val (.ref a0)] [(.int wa0_blindness)])) _
      refine XS.ifYes X1.here hx rfl (pc0 := 4) (pc' := 24) rfl (hb hby d12_4) rfl ((if0 _ _).trans (tlt hc4_3).2.2.1) (by decide) (by decide) ?_
      show Steps p.tables e below (T1.setTop (mkF m 24 #[.val (.ref a0)] [])) _
      refine XS.iconst X1.here hx rfl (hb hby d12_24) ?_
      show Steps p.tables e below (T1.setTop (mkF m 25 #[.val (.ref a0)] [(.int (1 : Int32))])) _
      refine XS.goto X1.here hx rfl (pc0 := 25) (pc' := 29) rfl (hb hby d12_25) (by decide) (by decide) ?_
      exact k)
    obtain ⟨fs, hr, hrun, hended, hW, hsame⟩ := X1.leave (v := some (.int (1 : Int32))) (fun h => by rw [Bd.returns] at h; cases h) hlk
    have hF : (F12c wa0_blindness wwa0_below_blindness wwwa0_below_below_blindness) = (1 : Int32) := by unfold F12c; rw [if_pos hc4_3]
    exact ⟨_, _, pre4 _ (retN X1 hx (t := .boolean) Bd.returns (by simp) (hb hby d12_29) hr), hrun, hended, _, _, rfl, ⟨by rw [hF], N0, e1⟩, ⟨_, rfl⟩, hW, hsame.mono (by decide) (by decide)⟩
  obtain ⟨T5, X5, e5, st5⟩ := getF X1 hx hZ hown (host := "") (Or.inl (hw _ (List.mem_of_getElem? (i := 81) rfl))) Via.refl e1 F_wa0_below (g := (mkF m 8 #[.val (.ref a0)] [(.ref a0)])) rfl rfl (hb hby d12_8)
  obtain ⟨T6, X6, e6, st6⟩ := getF X5 hx hZ hown (host := "") (Or.inl (hw _ (List.mem_of_getElem? (i := 81) rfl))) Via.refl e5 F_wa0_below (g := (mkF m 15 #[.val (.ref a0)] [(.ref a0)])) rfl rfl (hb hby d12_15)
  obtain ⟨cq7, kq7, q7a, q7b, q7c⟩ := isOf hZ e6 E_wa0_below
  obtain ⟨_, _, ⟨T7, L7, k7, n7⟩, -, X7, ⟨Lc7, hQ7, l7, y7, z7⟩, st7⟩ := X6.virtualBack hx (y := (⟨"com/example/tenon/tenon/Assignments", "isBlind", "()Z"⟩ : MethodName)) (z := (⟨"com/example/tenon/tenon/Assignments", "isBlind", "()Z"⟩ : MethodName)) hown (mvT hZ (hw _ (List.mem_of_getElem? (i := 216) rfl))) (mvT hZ (hw _ (List.mem_of_getElem? (i := 85) rfl))) (notFace_of_selects (args := #[]) (mvT hZ (hw _ (List.mem_of_getElem? (i := 87) rfl)))) (mvT hZ (hw _ (List.mem_of_getElem? (i := 87) rfl))) (mvT hZ (hw _ (List.mem_of_getElem? (i := 86) rfl))) (by decide) (backOf (W := 0) (rm12b l Z a0' hw [] wa0_below wwa0_below_blindness wwa0_below_below wwwa0_below_below_blindness h0 n0 Z0 E_wwa0_below_below F_wwa0_below_blindness F_wwa0_below_below F_wwwa0_below_below_blindness F_wwwa0_below_below_below) hZ (hw _ (List.mem_of_getElem? (i := 88) rfl)) (hw _ (List.mem_of_getElem? (i := 17) rfl)) (by decide) (by decide)) q7a q7c (g := (mkF m 18 #[.val (.ref a0)] [(.ref wa0_below)])) rfl (by rw [hml]; rfl) (Steps.refl _) (argsL := []) (rest := []) (lenOf pd3 rfl) rfl (by show 2 * 0 + _ ≤ _; exact Nat.le_of_eq rfl) (hb hby d12_18) (fun _ _ => ⟨rfl, e6, (by decide : 0 + 0 ≤ _), (by decide : 0 + 0 ≤ _)⟩)
  dsimp only [Pt.U, Pt.locs, Pt.cells, Pt.slots] at X7 l7 y7 z7 st7 hQ7
  subst l7 y7 z7
  obtain ⟨rfl, N7q, e7⟩ := hQ7
  have N7 := Fr.app N0 N7q
  have pre8 : ∀ t, Steps p.tables e below (T7.setTop (mkF m 21 #[.val (.ref a0)] [(.int (F12b wwa0_below_blindness wwwa0_below_below_blindness))])) t → Steps p.tables e below (s₁.setTop (entryFrame m #[(.ref a0)] 1)) t := fun t k => pre2 t (by
    show Steps p.tables e below (T1.setTop (mkF m 4 #[.val (.ref a0)] [(.int wa0_blindness)])) _
    refine XS.ifNo X1.here hx rfl (hb hby d12_4) rfl ((if0 _ _).trans (flt hc4_3).2.2.1) ?_
    show Steps p.tables e below (T1.setTop (mkF m 7 #[.val (.ref a0)] [])) _
    refine XS.aloadN X1.here hx rfl (hb hby d12_7) rfl rfl ?_
    show Steps p.tables e below (T1.setTop (mkF m 8 #[.val (.ref a0)] [(.ref a0)])) _
    refine st5 _ ?_
    show Steps p.tables e below (T5.setTop (mkF m 11 #[.val (.ref a0)] [(.ref wa0_below)])) _
    refine XS.ifnullNo X5.here hx rfl (hb hby d12_11) rfl ?_
    show Steps p.tables e below (T5.setTop (mkF m 14 #[.val (.ref a0)] [])) _
    refine XS.aloadN X5.here hx rfl (hb hby d12_14) rfl rfl ?_
    show Steps p.tables e below (T5.setTop (mkF m 15 #[.val (.ref a0)] [(.ref a0)])) _
    refine st6 _ ?_
    show Steps p.tables e below (T6.setTop (mkF m 18 #[.val (.ref a0)] [(.ref wa0_below)])) _
    refine st7.trans ?_
    exact k)
  by_cases hc21_9 : (F12b wwa0_below_blindness wwwa0_below_below_blindness) = (0 : Int32)
  · have pre10 : ∀ t, Steps p.tables e below (T7.setTop (mkF m 29 #[.val (.ref a0)] [(.int (0 : Int32))])) t → Steps p.tables e below (s₁.setTop (entryFrame m #[(.ref a0)] 1)) t := fun t k => pre8 t (by
      show Steps p.tables e below (T7.setTop (mkF m 21 #[.val (.ref a0)] [(.int (F12b wwa0_below_blindness wwwa0_below_below_blindness))])) _
      refine XS.ifYes X7.here hx rfl (pc0 := 21) (pc' := 28) rfl (hb hby d12_21) rfl ((if0 _ _).trans (teq hc21_9).1) (by decide) (by decide) ?_
      show Steps p.tables e below (T7.setTop (mkF m 28 #[.val (.ref a0)] [])) _
      refine XS.iconst X7.here hx rfl (hb hby d12_28) ?_
      exact k)
    obtain ⟨fs, hr, hrun, hended, hW, hsame⟩ := X7.leave (v := some (.int (0 : Int32))) (fun h => by rw [Bd.returns] at h; cases h) hlk
    have hF : (F12c wa0_blindness wwa0_below_blindness wwwa0_below_below_blindness) = (0 : Int32) := by unfold F12c; rw [if_neg hc4_3, if_pos hc21_9]
    exact ⟨_, _, pre10 _ (retN X7 hx (t := .boolean) Bd.returns (by simp) (hb hby d12_29) hr), hrun, hended, _, _, rfl, ⟨by rw [hF], N7, e7⟩, ⟨_, rfl⟩, hW, hsame.mono (by decide) (by decide)⟩
  have pre11 : ∀ t, Steps p.tables e below (T7.setTop (mkF m 29 #[.val (.ref a0)] [(.int (1 : Int32))])) t → Steps p.tables e below (s₁.setTop (entryFrame m #[(.ref a0)] 1)) t := fun t k => pre8 t (by
    show Steps p.tables e below (T7.setTop (mkF m 21 #[.val (.ref a0)] [(.int (F12b wwa0_below_blindness wwwa0_below_below_blindness))])) _
    refine XS.ifNo X7.here hx rfl (hb hby d12_21) rfl ((if0 _ _).trans (feq hc21_9).1) ?_
    show Steps p.tables e below (T7.setTop (mkF m 24 #[.val (.ref a0)] [])) _
    refine XS.iconst X7.here hx rfl (hb hby d12_24) ?_
    show Steps p.tables e below (T7.setTop (mkF m 25 #[.val (.ref a0)] [(.int (1 : Int32))])) _
    refine XS.goto X7.here hx rfl (pc0 := 25) (pc' := 29) rfl (hb hby d12_25) (by decide) (by decide) ?_
    exact k)
  obtain ⟨fs, hr, hrun, hended, hW, hsame⟩ := X7.leave (v := some (.int (1 : Int32))) (fun h => by rw [Bd.returns] at h; cases h) hlk
  have hF : (F12c wa0_blindness wwa0_below_blindness wwwa0_below_below_blindness) = (1 : Int32) := by unfold F12c; rw [if_neg hc4_3, if_neg hc21_9]
  exact ⟨_, _, pre11 _ (retN X7 hx (t := .boolean) Bd.returns (by simp) (hb hby d12_29) hr), hrun, hended, _, _, rfl, ⟨by rw [hF], N7, e7⟩, ⟨_, rfl⟩, hW, hsame.mono (by decide) (by decide)⟩
def F15 (wa0_size : Int32) : Int32 := wa0_size
theorem ef15 (m : MethodId) (x0 : Addr) : entryFrame m #[(.ref x0)] 1 = mkF m 0 #[.val (.ref x0)] [] := by first | (simp [entryFrame, mkF, argsToLocals, Value.category]; done) | rfl
def Q15 (Z : State) (a0 : Addr) (wa0_size : Int32) (h0 : Heap) (n0 : Nat) (v : Option Value) (h : Heap) (L : List Loc) : Prop := v = some (.int (F15 wa0_size)) ∧ Fr n0 L ∧ h = h0
set_option maxRecDepth 65536 in
set_option maxHeartbeats 40000000 in
theorem rm15 (l : Launch) (Z : State) (a0' : Array Value) (hw : ∀ d ∈ tables_1, d.before a0' Z = true) (ws : List Jvm.Cond) (a0 : Addr) (wa0_size : Int32) (h0 : Heap) (n0 : Nat) (Z0 : n0 ≤ h0.size) (F_wa0_size : Fld Z h0 a0 "java/util/ArrayList" "size" "I" (.int wa0_size)) :
    MetFree l (⟨"java/util/ArrayList", "size", "()I"⟩ : MethodName) (head1 (Jvm.Cond.code (⟨"java/util/ArrayList", "size", "()I"⟩ : MethodName) jdk_38_method_8_code 1 (some .int) :: ws) ({ frames := 0, cells := 0, slots := 0, locals := 0 } : Room)) (fun a U => a = #[(.ref a0)] ∧ Z.Warmed39 U.vm ∧ U.heap = h0) (fun _ _ _ _ _ => True) (fun _ U o U' => ∃ v L, o = .returned v ∧ Q15 Z a0 wa0_size h0 n0 v U'.heap L ∧ FrameEnd U o U' L ({ frames := 0, cells := 0, slots := 0, locals := 0 } : Room).cells ({ frames := 0, cells := 0, slots := 0, locals := 0 } : Room).slots) := by
  refine MetFree.of_bodySF (plainFor_of_name pn5) hisR ?_
  intro p e s m args below meth c s₁ Bd hml0 hP hK
  obtain ⟨rfl, hZ, hh⟩ := hP
  have hx := Bd.exec
  have hby := Bd.bytes
  have hml : c.maxLocals = 1 := hml0
  have hown' := findClass_of_methodNamed Bd.named
  have hown : s.vm.findClass "java/util/ArrayList" = some m.cls := hown'
  have hnm := (name_of_methodNamed Bd.named Bd.method).1
  have X0 : Stand p l e ({ frames := 0, cells := 0, slots := 0, locals := 0 } : Room) s m #[(.ref a0)] below meth c s₁ [] 0 0 := Stand.of_body Bd
  have e0 : s₁.heap = h0 := by rw [← hh, Bd.state]; rfl
  have N0 := Fr.nil n0
  have hlk : meth.locks = false := by first | exact BodyLoose.notSynchronized Bd | exact Body.notSynchronized Bd
  have pre0 : ∀ t, Steps p.tables e below (s₁.setTop (mkF m 0 #[.val (.ref a0)] [])) t → Steps p.tables e below (s₁.setTop (entryFrame m #[(.ref a0)] 1)) t := fun t k => castTop (ef15 m a0) k
  obtain ⟨T1, X1, e1, st1⟩ := getF X0 hx hZ hown (host := "") (Or.inl (hw _ (List.mem_of_getElem? (i := 112) rfl))) Via.refl e0 F_wa0_size (g := (mkF m 1 #[.val (.ref a0)] [(.ref a0)])) rfl rfl (hb hby d15_1)
  have pre2 : ∀ t, Steps p.tables e below (T1.setTop (mkF m 4 #[.val (.ref a0)] [(.int wa0_size)])) t → Steps p.tables e below (s₁.setTop (entryFrame m #[(.ref a0)] 1)) t := fun t k => pre0 t (by
    show Steps p.tables e below (s₁.setTop (mkF m 0 #[.val (.ref a0)] [])) _
    refine XS.aloadN X0.here hx rfl (hb hby d15_0) rfl rfl ?_
    show Steps p.tables e below (s₁.setTop (mkF m 1 #[.val (.ref a0)] [(.ref a0)])) _
    refine st1 _ ?_
    exact k)
  obtain ⟨fs, hr, hrun, hended, hW, hsame⟩ := X1.leave (v := some (.int wa0_size)) (fun h => by rw [Bd.returns] at h; cases h) hlk
  have hF : (F15 wa0_size) = wa0_size := by rfl
  exact ⟨_, _, pre2 _ (retI X1 hx Bd.returns (hb hby d15_4) hr), hrun, hended, _, _, rfl, ⟨by rw [hF], N0, e1⟩, ⟨_, rfl⟩, hW, hsame.mono (by decide) (by decide)⟩
theorem ef17 (m : MethodId) (x0 : Addr) (x1 : Int64) : entryFrame m #[(.ref x0), (.long x1)] 3 = mkF m 0 #[.val (.ref x0), .val (.long x1), .second] [] := by first | (simp [entryFrame, mkF, argsToLocals, Value.category]; done) | rfl
def Q17 (Z : State) (a0 : Addr) (q1 : Int64) (wa0_limit : Int64) (wa0_held : Int64) (h0 : Heap) (n0 : Nat) (v : Option Value) (h : Heap) (L : List Loc) : Prop := v = none ∧ Fr n0 L ∧ h = h0
set_option maxRecDepth 65536 in
set_option maxHeartbeats 40000000 in
theorem rm17 (l : Launch) (Z : State) (a0' : Array Value) (hw : ∀ d ∈ tables_1, d.before a0' Z = true) (ws : List Jvm.Cond) (a0 : Addr) (q1 : Int64) (wa0_limit : Int64) (wa0_held : Int64) (h0 : Heap) (n0 : Nat) (Z0 : n0 ≤ h0.size) (F_wa0_limit : Fld Z h0 a0 "com/example/tenon/tenon/Budget" "limit" "J" (.long wa0_limit)) (F_wa0_held : Fld Z h0 a0 "com/example/tenon/tenon/Budget" "held" "J" (.long wa0_held)) (hc11 : ¬ ((wa0_limit - wa0_held) < q1)) :
    MetFree l (⟨"com/example/tenon/tenon/Budget", "check", "(J)V"⟩ : MethodName) (head1 (Jvm.Cond.code (⟨"com/example/tenon/tenon/Budget", "check", "(J)V"⟩ : MethodName) prog_22_method_6_code 3 none :: ws) ({ frames := 0, cells := 0, slots := 0, locals := 0 } : Room)) (fun a U => a = #[(.ref a0), (.long q1)] ∧ Z.Warmed39 U.vm ∧ U.heap = h0) (fun _ _ _ _ _ => True) (fun _ U o U' => ∃ v L, o = .returned v ∧ Q17 Z a0 q1 wa0_limit wa0_held h0 n0 v U'.heap L ∧ FrameEnd U o U' L ({ frames := 0, cells := 0, slots := 0, locals := 0 } : Room).cells ({ frames := 0, cells := 0, slots := 0, locals := 0 } : Room).slots) := by
  refine MetFree.of_bodySF (plainFor_of_name pn6) hisR ?_
  intro p e s m args below meth c s₁ Bd hml0 hP hK
  obtain ⟨rfl, hZ, hh⟩ := hP
  have hx := Bd.exec
  have hby := Bd.bytes
  have hml : c.maxLocals = 3 := hml0
  have hown' := findClass_of_methodNamed Bd.named
  have hown : s.vm.findClass "com/example/tenon/tenon/Budget" = some m.cls := hown'
  have hnm := (name_of_methodNamed Bd.named Bd.method).1
  have X0 : Stand p l e ({ frames := 0, cells := 0, slots := 0, locals := 0 } : Room) s m #[(.ref a0), (.long q1)] below meth c s₁ [] 0 0 := Stand.of_body Bd
  have e0 : s₁.heap = h0 := by rw [← hh, Bd.state]; rfl
  have N0 := Fr.nil n0
  have hlk : meth.locks = false := by first | exact BodyLoose.notSynchronized Bd | exact Body.notSynchronized Bd
  have pre0 : ∀ t, Steps p.tables e below (s₁.setTop (mkF m 0 #[.val (.ref a0), .val (.long q1), .second] [])) t → Steps p.tables e below (s₁.setTop (entryFrame m #[(.ref a0), (.long q1)] 3)) t := fun t k => castTop (ef17 m a0 q1) k
  obtain ⟨T1, X1, e1, st1⟩ := getF X0 hx hZ hown (host := "") (Or.inl (hw _ (List.mem_of_getElem? (i := 13) rfl))) Via.refl e0 F_wa0_limit (g := (mkF m 2 #[.val (.ref a0), .val (.long q1), .second] [(.ref a0), (.long q1)])) rfl rfl (hb hby d17_2)
  obtain ⟨T2, X2, e2, st2⟩ := getF X1 hx hZ hown (host := "") (Or.inl (hw _ (List.mem_of_getElem? (i := 125) rfl))) Via.refl e1 F_wa0_held (g := (mkF m 6 #[.val (.ref a0), .val (.long q1), .second] [(.ref a0), (.long wa0_limit), (.long q1)])) rfl rfl (hb hby d17_6)
  have pre3 : ∀ t, Steps p.tables e below (T2.setTop (mkF m 26 #[.val (.ref a0), .val (.long q1), .second] [])) t → Steps p.tables e below (s₁.setTop (entryFrame m #[(.ref a0), (.long q1)] 3)) t := fun t k => pre0 t (by
    show Steps p.tables e below (s₁.setTop (mkF m 0 #[.val (.ref a0), .val (.long q1), .second] [])) _
    refine XS.lloadN X0.here hx rfl (hb hby d17_0) rfl ?_
    show Steps p.tables e below (s₁.setTop (mkF m 1 #[.val (.ref a0), .val (.long q1), .second] [(.long q1)])) _
    refine XS.aloadN X0.here hx rfl (hb hby d17_1) rfl rfl ?_
    show Steps p.tables e below (s₁.setTop (mkF m 2 #[.val (.ref a0), .val (.long q1), .second] [(.ref a0), (.long q1)])) _
    refine st1 _ ?_
    show Steps p.tables e below (T1.setTop (mkF m 5 #[.val (.ref a0), .val (.long q1), .second] [(.long wa0_limit), (.long q1)])) _
    refine XS.aloadN X1.here hx rfl (hb hby d17_5) rfl rfl ?_
    show Steps p.tables e below (T1.setTop (mkF m 6 #[.val (.ref a0), .val (.long q1), .second] [(.ref a0), (.long wa0_limit), (.long q1)])) _
    refine st2 _ ?_
    show Steps p.tables e below (T2.setTop (mkF m 9 #[.val (.ref a0), .val (.long q1), .second] [(.long wa0_held), (.long wa0_limit), (.long q1)])) _
    refine XS.lsub X2.here hx rfl (hb hby d17_9) rfl ?_
    show Steps p.tables e below (T2.setTop (mkF m 10 #[.val (.ref a0), .val (.long q1), .second] [(.long (wa0_limit - wa0_held)), (.long q1)])) _
    refine XS.lcmp X2.here hx rfl (hb hby d17_10) rfl ?_
    show Steps p.tables e below (T2.setTop (mkF m 11 #[.val (.ref a0), .val (.long q1), .second] [(.int (lcmpW q1 (wa0_limit - wa0_held)))])) _
    refine XS.ifYes X2.here hx rfl (pc0 := 11) (pc' := 26) rfl (hb hby d17_11) rfl ((if0 _ _).trans (flt (mt (lw_gt q1 (wa0_limit - wa0_held)).mp hc11)).2.2.2) (by decide) (by decide) ?_
    exact k)
  obtain ⟨fs, hr, hrun, hended, hW, hsame⟩ := X2.leave (v := none) (fun _ => rfl) hlk
  exact ⟨_, _, pre3 _ (X2.returnOut hx Bd.returns (hb hby d17_26) hr), hrun, hended, _, _, rfl, ⟨rfl, N0, e2⟩, ⟨_, rfl⟩, hW, hsame.mono (by decide) (by decide)⟩
theorem ef16 (m : MethodId) (x0 : Addr) (x1 : Int64) : entryFrame m #[(.ref x0), (.long x1)] 3 = mkF m 0 #[.val (.ref x0), .val (.long x1), .second] [] := by first | (simp [entryFrame, mkF, argsToLocals, Value.category]; done) | rfl
def Q16 (Z : State) (a0 : Addr) (q1 : Int64) (wa0_limit : Int64) (wa0_held : Int64) (h0 : Heap) (n0 : Nat) (v : Option Value) (h : Heap) (L : List Loc) : Prop := v = none ∧ Fr n0 L ∧ Keep h0 h [a0] ∧ Exa Z h a0 "com/example/tenon/tenon/Budget" ∧ Fld Z h a0 "com/example/tenon/tenon/Budget" "limit" "J" (.long wa0_limit) ∧ Fld Z h a0 "com/example/tenon/tenon/Budget" "held" "J" (.long (wa0_held + q1))
set_option maxRecDepth 65536 in
set_option maxHeartbeats 40000000 in
theorem rm16 (l : Launch) (Z : State) (a0' : Array Value) (hw : ∀ d ∈ tables_1, d.before a0' Z = true) (ws : List Jvm.Cond) (a0 : Addr) (q1 : Int64) (wa0_limit : Int64) (wa0_held : Int64) (h0 : Heap) (n0 : Nat) (Z0 : n0 ≤ h0.size) (E_a0 : Exa Z h0 a0 "com/example/tenon/tenon/Budget") (F_wa0_limit : Fld Z h0 a0 "com/example/tenon/tenon/Budget" "limit" "J" (.long wa0_limit)) (F_wa0_held : Fld Z h0 a0 "com/example/tenon/tenon/Budget" "held" "J" (.long wa0_held)) (g_a0 : n0 ≤ a0) (hp2_0 : ¬ ((wa0_limit - wa0_held) < q1)) :
    MetFree l (⟨"com/example/tenon/tenon/Budget", "take", "(J)V"⟩ : MethodName) (head1 (Jvm.Cond.code (⟨"com/example/tenon/tenon/Budget", "take", "(J)V"⟩ : MethodName) prog_22_method_4_code 3 none :: ws) ({ frames := 1, cells := 0, slots := 0, locals := 14 } : Room)) (fun a U => a = #[(.ref a0), (.long q1)] ∧ Z.Warmed39 U.vm ∧ U.heap = h0) (fun _ _ _ _ _ => True) (fun _ U o U' => ∃ v L, o = .returned v ∧ Q16 Z a0 q1 wa0_limit wa0_held h0 n0 v U'.heap L ∧ FrameEnd U o U' L ({ frames := 1, cells := 0, slots := 0, locals := 14 } : Room).cells ({ frames := 1, cells := 0, slots := 0, locals := 14 } : Room).slots) := by
  refine MetFree.of_bodySF (plainFor_of_name pn6) hisR ?_
  intro p e s m args below meth c s₁ Bd hml0 hP hK
  obtain ⟨rfl, hZ, hh⟩ := hP
  have hx := Bd.exec
  have hby := Bd.bytes
  have hml : c.maxLocals = 3 := hml0
  have hown' := findClass_of_methodNamed Bd.named
  have hown : s.vm.findClass "com/example/tenon/tenon/Budget" = some m.cls := hown'
  have hnm := (name_of_methodNamed Bd.named Bd.method).1
  have X0 : Stand p l e ({ frames := 1, cells := 0, slots := 0, locals := 14 } : Room) s m #[(.ref a0), (.long q1)] below meth c s₁ [] 0 0 := Stand.of_body Bd
  have e0 : s₁.heap = h0 := by rw [← hh, Bd.state]; rfl
  have N0 := Fr.nil n0
  have hlk : meth.locks = false := by first | exact BodyLoose.notSynchronized Bd | exact Body.notSynchronized Bd
  have pre0 : ∀ t, Steps p.tables e below (s₁.setTop (mkF m 0 #[.val (.ref a0), .val (.long q1), .second] [])) t → Steps p.tables e below (s₁.setTop (entryFrame m #[(.ref a0), (.long q1)] 3)) t := fun t k => castTop (ef16 m a0 q1) k
  obtain ⟨cq1, kq1, q1a, q1b, q1c⟩ := isOf hZ e0 E_a0
  obtain ⟨_, _, ⟨T1, L1, k1, n1⟩, -, X1, ⟨Lc1, hQ1, l1, y1, z1⟩, st1⟩ := X0.virtualBack hx (y := (⟨"com/example/tenon/tenon/Budget", "check", "(J)V"⟩ : MethodName)) (z := (⟨"com/example/tenon/tenon/Budget", "check", "(J)V"⟩ : MethodName)) hown (mvT hZ (hw _ (List.mem_of_getElem? (i := 120) rfl))) (mvT hZ (hw _ (List.mem_of_getElem? (i := 121) rfl))) (notFace_of_selects (args := #[]) (mvT hZ (hw _ (List.mem_of_getElem? (i := 123) rfl)))) (mvT hZ (hw _ (List.mem_of_getElem? (i := 123) rfl))) (mvT hZ (hw _ (List.mem_of_getElem? (i := 122) rfl))) (by decide) (backOf (W := 0) (rm17 l Z a0' hw [] a0 q1 wa0_limit wa0_held h0 n0 Z0 F_wa0_limit F_wa0_held hp2_0) hZ (hw _ (List.mem_of_getElem? (i := 124) rfl)) (hw _ (List.mem_of_getElem? (i := 2) rfl)) (by decide) (by decide)) q1a q1c (g := (mkF m 2 #[.val (.ref a0), .val (.long q1), .second] [(.long q1), (.ref a0)])) rfl (by rw [hml]; rfl) (Steps.refl _) (argsL := [(.long q1)]) (rest := []) (lenOf pd1 rfl) rfl (by show 2 * 0 + _ ≤ _; exact Nat.le_of_eq rfl) (hb hby d16_2) (fun _ _ => ⟨rfl, e0, (by decide : 0 + 0 ≤ _), (by decide : 0 + 0 ≤ _)⟩)
  dsimp only [Pt.U, Pt.locs, Pt.cells, Pt.slots] at X1 l1 y1 z1 st1 hQ1
  subst l1 y1 z1
  obtain ⟨rfl, N1q, e1⟩ := hQ1
  have N1 := Fr.app N0 N1q
  obtain ⟨T2, X2, e2, st2⟩ := getF X1 hx hZ hown (host := "") (Or.inl (hw _ (List.mem_of_getElem? (i := 125) rfl))) Via.refl e1 F_wa0_held (g := (mkF m 7 #[.val (.ref a0), .val (.long q1), .second] [(.ref a0), (.ref a0)])) rfl rfl (hb hby d16_7)
  obtain ⟨T3, h3, X3, e3, W3, st3⟩ := putF X2 hx hZ hown (host := "") (Or.inl (hw _ (List.mem_of_getElem? (i := 125) rfl))) Via.refl e2 F_wa0_held E_a0 (Or.inl (hw _ (List.mem_of_getElem? (i := 126) rfl))) (hw _ (List.mem_of_getElem? (i := 5) rfl)) (ty := .long) (by decide) rfl rfl (g := (mkF m 12 #[.val (.ref a0), .val (.long q1), .second] [(.long (wa0_held + q1)), (.ref a0)])) rfl rfl (hb hby d16_12)
  have Z3 : n0 ≤ h3.size := Nat.le_trans Z0 (Keep.of_wr W3).1
  have N3 := Fr.snoc X3 N1 g_a0
  have KC3 : Keep h0 h3 [a0] := (Keep.refl h0 [a0]).wr W3 (Or.inl (List.mem_of_getElem? (i := 0) rfl))
  have Fw3 := F_wa0_held.same W3
  have pre4 : ∀ t, Steps p.tables e below (T3.setTop (mkF m 15 #[.val (.ref a0), .val (.long q1), .second] [])) t → Steps p.tables e below (s₁.setTop (entryFrame m #[(.ref a0), (.long q1)] 3)) t := fun t k => pre0 t (by
    show Steps p.tables e below (s₁.setTop (mkF m 0 #[.val (.ref a0), .val (.long q1), .second] [])) _
    refine XS.aloadN X0.here hx rfl (hb hby d16_0) rfl rfl ?_
    show Steps p.tables e below (s₁.setTop (mkF m 1 #[.val (.ref a0), .val (.long q1), .second] [(.ref a0)])) _
    refine XS.lloadN X0.here hx rfl (hb hby d16_1) rfl ?_
    show Steps p.tables e below (s₁.setTop (mkF m 2 #[.val (.ref a0), .val (.long q1), .second] [(.long q1), (.ref a0)])) _
    refine st1.trans ?_
    show Steps p.tables e below (T1.setTop (mkF m 5 #[.val (.ref a0), .val (.long q1), .second] [])) _
    refine XS.aloadN X1.here hx rfl (hb hby d16_5) rfl rfl ?_
    show Steps p.tables e below (T1.setTop (mkF m 6 #[.val (.ref a0), .val (.long q1), .second] [(.ref a0)])) _
    refine XS.dup X1.here hx rfl (hb hby d16_6) rfl rfl ?_
    show Steps p.tables e below (T1.setTop (mkF m 7 #[.val (.ref a0), .val (.long q1), .second] [(.ref a0), (.ref a0)])) _
    refine st2 _ ?_
    show Steps p.tables e below (T2.setTop (mkF m 10 #[.val (.ref a0), .val (.long q1), .second] [(.long wa0_held), (.ref a0)])) _
    refine XS.lloadN X2.here hx rfl (hb hby d16_10) rfl ?_
    show Steps p.tables e below (T2.setTop (mkF m 11 #[.val (.ref a0), .val (.long q1), .second] [(.long q1), (.long wa0_held), (.ref a0)])) _
    refine XS.ladd X2.here hx rfl (hb hby d16_11) rfl ?_
    show Steps p.tables e below (T2.setTop (mkF m 12 #[.val (.ref a0), .val (.long q1), .second] [(.long (wa0_held + q1)), (.ref a0)])) _
    refine st3 _ ?_
    exact k)
  obtain ⟨fs, hr, hrun, hended, hW, hsame⟩ := X3.leave (v := none) (fun _ => rfl) hlk
  have y5 := (E_a0.wr W3)
  have y6 := (F_wa0_limit.other W3 (Or.inr (slot_ne (Or.inr (hw _ (List.mem_of_getElem? (i := 14) rfl))) (Or.inl (hw _ (List.mem_of_getElem? (i := 126) rfl))) (by decide) (t := .long) (t' := .long) (by decide) (by decide))))
  exact ⟨_, _, pre4 _ (X3.returnOut hx Bd.returns (hb hby d16_15) hr), hrun, hended, _, _, rfl, (by show Q16 Z a0 q1 wa0_limit wa0_held h0 n0 _ T3.heap _; rw [e3]; exact ⟨rfl, N3, KC3, y5, y6, Fw3⟩), ⟨_, rfl⟩, hW, hsame.mono (by decide) (by decide)⟩
theorem ef32 (m : MethodId) (x0 : Addr) (x1 : Int64) : entryFrame m #[(.ref x0), (.long x1)] 3 = mkF m 0 #[.val (.ref x0), .val (.long x1), .second] [] := by first | (simp [entryFrame, mkF, argsToLocals, Value.category]; done) | rfl
def Q32 (Z : State) (a0 : Addr) (q1 : Int64) (wa0_limit : Int64) (wa0_held : Int64) (h0 : Heap) (n0 : Nat) (v : Option Value) (h : Heap) (L : List Loc) : Prop := v = none ∧ Fr n0 L ∧ Keep h0 h [a0] ∧ Exa Z h a0 "com/example/tenon/tenon/Budget" ∧ Fld Z h a0 "com/example/tenon/tenon/Budget" "limit" "J" (.long wa0_limit) ∧ Fld Z h a0 "com/example/tenon/tenon/Budget" "held" "J" (.long (wa0_held - q1))
set_option maxRecDepth 65536 in
set_option maxHeartbeats 40000000 in
theorem rm32 (l : Launch) (Z : State) (a0' : Array Value) (hw : ∀ d ∈ tables_1, d.before a0' Z = true) (ws : List Jvm.Cond) (a0 : Addr) (q1 : Int64) (wa0_limit : Int64) (wa0_held : Int64) (h0 : Heap) (n0 : Nat) (Z0 : n0 ≤ h0.size) (E_a0 : Exa Z h0 a0 "com/example/tenon/tenon/Budget") (F_wa0_limit : Fld Z h0 a0 "com/example/tenon/tenon/Budget" "limit" "J" (.long wa0_limit)) (F_wa0_held : Fld Z h0 a0 "com/example/tenon/tenon/Budget" "held" "J" (.long wa0_held)) (g_a0 : n0 ≤ a0) :
    MetFree l (⟨"com/example/tenon/tenon/Budget", "give", "(J)V"⟩ : MethodName) (head1 (Jvm.Cond.code (⟨"com/example/tenon/tenon/Budget", "give", "(J)V"⟩ : MethodName) prog_22_method_5_code 3 none :: ws) ({ frames := 0, cells := 0, slots := 0, locals := 0 } : Room)) (fun a U => a = #[(.ref a0), (.long q1)] ∧ Z.Warmed39 U.vm ∧ U.heap = h0) (fun _ _ _ _ _ => True) (fun _ U o U' => ∃ v L, o = .returned v ∧ Q32 Z a0 q1 wa0_limit wa0_held h0 n0 v U'.heap L ∧ FrameEnd U o U' L ({ frames := 0, cells := 0, slots := 0, locals := 0 } : Room).cells ({ frames := 0, cells := 0, slots := 0, locals := 0 } : Room).slots) := by
  refine MetFree.of_bodySF (plainFor_of_name pn6) hisR ?_
  intro p e s m args below meth c s₁ Bd hml0 hP hK
  obtain ⟨rfl, hZ, hh⟩ := hP
  have hx := Bd.exec
  have hby := Bd.bytes
  have hml : c.maxLocals = 3 := hml0
  have hown' := findClass_of_methodNamed Bd.named
  have hown : s.vm.findClass "com/example/tenon/tenon/Budget" = some m.cls := hown'
  have hnm := (name_of_methodNamed Bd.named Bd.method).1
  have X0 : Stand p l e ({ frames := 0, cells := 0, slots := 0, locals := 0 } : Room) s m #[(.ref a0), (.long q1)] below meth c s₁ [] 0 0 := Stand.of_body Bd
  have e0 : s₁.heap = h0 := by rw [← hh, Bd.state]; rfl
  have N0 := Fr.nil n0
  have hlk : meth.locks = false := by first | exact BodyLoose.notSynchronized Bd | exact Body.notSynchronized Bd
  have pre0 : ∀ t, Steps p.tables e below (s₁.setTop (mkF m 0 #[.val (.ref a0), .val (.long q1), .second] [])) t → Steps p.tables e below (s₁.setTop (entryFrame m #[(.ref a0), (.long q1)] 3)) t := fun t k => castTop (ef32 m a0 q1) k
  obtain ⟨T1, X1, e1, st1⟩ := getF X0 hx hZ hown (host := "") (Or.inl (hw _ (List.mem_of_getElem? (i := 125) rfl))) Via.refl e0 F_wa0_held (g := (mkF m 2 #[.val (.ref a0), .val (.long q1), .second] [(.ref a0), (.ref a0)])) rfl rfl (hb hby d32_2)
  obtain ⟨T2, h2, X2, e2, W2, st2⟩ := putF X1 hx hZ hown (host := "") (Or.inl (hw _ (List.mem_of_getElem? (i := 125) rfl))) Via.refl e1 F_wa0_held E_a0 (Or.inl (hw _ (List.mem_of_getElem? (i := 126) rfl))) (hw _ (List.mem_of_getElem? (i := 5) rfl)) (ty := .long) (by decide) rfl rfl (g := (mkF m 7 #[.val (.ref a0), .val (.long q1), .second] [(.long (wa0_held - q1)), (.ref a0)])) rfl rfl (hb hby d32_7)
  have Z2 : n0 ≤ h2.size := Nat.le_trans Z0 (Keep.of_wr W2).1
  have N2 := Fr.snoc X2 N0 g_a0
  have KC2 : Keep h0 h2 [a0] := (Keep.refl h0 [a0]).wr W2 (Or.inl (List.mem_of_getElem? (i := 0) rfl))
  have Fw2 := F_wa0_held.same W2
  have pre3 : ∀ t, Steps p.tables e below (T2.setTop (mkF m 10 #[.val (.ref a0), .val (.long q1), .second] [])) t → Steps p.tables e below (s₁.setTop (entryFrame m #[(.ref a0), (.long q1)] 3)) t := fun t k => pre0 t (by
    show Steps p.tables e below (s₁.setTop (mkF m 0 #[.val (.ref a0), .val (.long q1), .second] [])) _
    refine XS.aloadN X0.here hx rfl (hb hby d32_0) rfl rfl ?_
    show Steps p.tables e below (s₁.setTop (mkF m 1 #[.val (.ref a0), .val (.long q1), .second] [(.ref a0)])) _
    refine XS.dup X0.here hx rfl (hb hby d32_1) rfl rfl ?_
    show Steps p.tables e below (s₁.setTop (mkF m 2 #[.val (.ref a0), .val (.long q1), .second] [(.ref a0), (.ref a0)])) _
    refine st1 _ ?_
    show Steps p.tables e below (T1.setTop (mkF m 5 #[.val (.ref a0), .val (.long q1), .second] [(.long wa0_held), (.ref a0)])) _
    refine XS.lloadN X1.here hx rfl (hb hby d32_5) rfl ?_
    show Steps p.tables e below (T1.setTop (mkF m 6 #[.val (.ref a0), .val (.long q1), .second] [(.long q1), (.long wa0_held), (.ref a0)])) _
    refine XS.lsub X1.here hx rfl (hb hby d32_6) rfl ?_
    show Steps p.tables e below (T1.setTop (mkF m 7 #[.val (.ref a0), .val (.long q1), .second] [(.long (wa0_held - q1)), (.ref a0)])) _
    refine st2 _ ?_
    exact k)
  obtain ⟨fs, hr, hrun, hended, hW, hsame⟩ := X2.leave (v := none) (fun _ => rfl) hlk
  have y4 := (E_a0.wr W2)
  have y5 := (F_wa0_limit.other W2 (Or.inr (slot_ne (Or.inr (hw _ (List.mem_of_getElem? (i := 14) rfl))) (Or.inl (hw _ (List.mem_of_getElem? (i := 126) rfl))) (by decide) (t := .long) (t' := .long) (by decide) (by decide))))
  exact ⟨_, _, pre3 _ (X2.returnOut hx Bd.returns (hb hby d32_10) hr), hrun, hended, _, _, rfl, (by show Q32 Z a0 q1 wa0_limit wa0_held h0 n0 _ T2.heap _; rw [e2]; exact ⟨rfl, N2, KC2, y4, y5, Fw2⟩), ⟨_, rfl⟩, hW, hsame.mono (by decide) (by decide)⟩
theorem ef19 (m : MethodId) (x0 : Addr) : entryFrame m #[(.ref x0)] 1 = mkF m 0 #[.val (.ref x0)] [] := by first | (simp [entryFrame, mkF, argsToLocals, Value.category]; done) | rfl
def Q19 (Z : State) (a0 : Addr) (h0 : Heap) (n0 : Nat) (v : Option Value) (h : Heap) (L : List Loc) : Prop := v = none ∧ Fr n0 L ∧ h = h0
set_option maxRecDepth 65536 in
set_option maxHeartbeats 40000000 in
theorem rm19 (l : Launch) (Z : State) (a0' : Array Value) (hw : ∀ d ∈ tables_1, d.before a0' Z = true) (ws : List Jvm.Cond) (a0 : Addr) (h0 : Heap) (n0 : Nat) (Z0 : n0 ≤ h0.size) :
    MetFree l (⟨"java/lang/Record", "<init>", "()V"⟩ : MethodName) (head1 (Jvm.Cond.code (⟨"java/lang/Record", "<init>", "()V"⟩ : MethodName) jdk_30_method_1_code 1 none :: ws) ({ frames := 1, cells := 0, slots := 0, locals := 12 } : Room)) (fun a U => a = #[(.ref a0)] ∧ Z.Warmed39 U.vm ∧ U.heap = h0) (fun _ _ _ _ _ => True) (fun _ U o U' => ∃ v L, o = .returned v ∧ Q19 Z a0 h0 n0 v U'.heap L ∧ FrameEnd U o U' L ({ frames := 1, cells := 0, slots := 0, locals := 12 } : Room).cells ({ frames := 1, cells := 0, slots := 0, locals := 12 } : Room).slots) := by
  refine MetFree.of_bodySF (plainFor_of_name pn8) hisR ?_
  intro p e s m args below meth c s₁ Bd hml0 hP hK
  obtain ⟨rfl, hZ, hh⟩ := hP
  have hx := Bd.exec
  have hby := Bd.bytes
  have hml : c.maxLocals = 1 := hml0
  have hown' := findClass_of_methodNamed Bd.named
  have hown : s.vm.findClass "java/lang/Record" = some m.cls := hown'
  have hnm := (name_of_methodNamed Bd.named Bd.method).1
  have X0 : Stand p l e ({ frames := 1, cells := 0, slots := 0, locals := 12 } : Room) s m #[(.ref a0)] below meth c s₁ [] 0 0 := Stand.of_body Bd
  have e0 : s₁.heap = h0 := by rw [← hh, Bd.state]; rfl
  have N0 := Fr.nil n0
  have hlk : meth.locks = false := by first | exact BodyLoose.notSynchronized Bd | exact Body.notSynchronized Bd
  have pre0 : ∀ t, Steps p.tables e below (s₁.setTop (mkF m 0 #[.val (.ref a0)] [])) t → Steps p.tables e below (s₁.setTop (entryFrame m #[(.ref a0)] 1)) t := fun t k => castTop (ef19 m a0) k
  obtain ⟨T1, X1, e1, st1⟩ := initO X0 hx hZ hown (hw _ (List.mem_of_getElem? (i := 138) rfl)) (hw _ (List.mem_of_getElem? (i := 11) rfl)) (hw _ (List.mem_of_getElem? (i := 12) rfl)) e0 (g := (mkF m 1 #[.val (.ref a0)] [(.ref a0)])) rfl (by rw [hml]; rfl) rfl (hb hby d19_1) (by decide) (W := 0) (by show 2 * 0 + _ ≤ _; exact Nat.le_of_eq rfl) (by decide)
  have pre2 : ∀ t, Steps p.tables e below (T1.setTop (mkF m 4 #[.val (.ref a0)] [])) t → Steps p.tables e below (s₁.setTop (entryFrame m #[(.ref a0)] 1)) t := fun t k => pre0 t (by
    show Steps p.tables e below (s₁.setTop (mkF m 0 #[.val (.ref a0)] [])) _
    refine XS.aloadN X0.here hx rfl (hb hby d19_0) rfl rfl ?_
    show Steps p.tables e below (s₁.setTop (mkF m 1 #[.val (.ref a0)] [(.ref a0)])) _
    refine st1 _ ?_
    exact k)
  obtain ⟨fs, hr, hrun, hended, hW, hsame⟩ := X1.leave (v := none) (fun _ => rfl) hlk
  exact ⟨_, _, pre2 _ (X1.returnOut hx Bd.returns (hb hby d19_4) hr), hrun, hended, _, _, rfl, ⟨rfl, N0, e1⟩, ⟨_, rfl⟩, hW, hsame.mono (by decide) (by decide)⟩
theorem ef18 (m : MethodId) (x0 : Addr) : entryFrame m #[(.ref x0), .null, .null] 3 = mkF m 0 #[.val (.ref x0), .val .null, .val .null] [] := by first | (simp [entryFrame, mkF, argsToLocals, Value.category]; done) | rfl
def Q18 (Z : State) (a0 : Addr) (wa0_name : Value) (wa0_replaced : Value) (h0 : Heap) (n0 : Nat) (v : Option Value) (h : Heap) (L : List Loc) : Prop := v = none ∧ Fr n0 L ∧ Keep h0 h [a0] ∧ Exa Z h a0 "com/example/tenon/tenon/Assignments$Changed" ∧ Fld Z h a0 "com/example/tenon/tenon/Assignments$Changed" "name" "Ljava/lang/String;" .null ∧ Fld Z h a0 "com/example/tenon/tenon/Assignments$Changed" "replaced" "Lcom/example/tenon/tenon/Assignments$Assigned;" .null
set_option maxRecDepth 65536 in
set_option maxHeartbeats 40000000 in
theorem rm18 (l : Launch) (Z : State) (a0' : Array Value) (hw : ∀ d ∈ tables_1, d.before a0' Z = true) (ws : List Jvm.Cond) (a0 : Addr) (wa0_name : Value) (wa0_replaced : Value) (h0 : Heap) (n0 : Nat) (Z0 : n0 ≤ h0.size) (E_a0 : Exa Z h0 a0 "com/example/tenon/tenon/Assignments$Changed") (F_wa0_name : Fld Z h0 a0 "com/example/tenon/tenon/Assignments$Changed" "name" "Ljava/lang/String;" wa0_name) (F_wa0_replaced : Fld Z h0 a0 "com/example/tenon/tenon/Assignments$Changed" "replaced" "Lcom/example/tenon/tenon/Assignments$Assigned;" wa0_replaced) (g_a0 : n0 ≤ a0) :
    MetFree l (⟨"com/example/tenon/tenon/Assignments$Changed", "<init>", "(Ljava/lang/String;Lcom/example/tenon/tenon/Assignments$Assigned;)V"⟩ : MethodName) (head1 (Jvm.Cond.code (⟨"com/example/tenon/tenon/Assignments$Changed", "<init>", "(Ljava/lang/String;Lcom/example/tenon/tenon/Assignments$Assigned;)V"⟩ : MethodName) prog_6_method_1_code 3 none :: ws) ({ frames := 2, cells := 0, slots := 0, locals := 24 } : Room)) (fun a U => a = #[(.ref a0), .null, .null] ∧ Z.Warmed39 U.vm ∧ U.heap = h0) (fun _ _ _ _ _ => True) (fun _ U o U' => ∃ v L, o = .returned v ∧ Q18 Z a0 wa0_name wa0_replaced h0 n0 v U'.heap L ∧ FrameEnd U o U' L ({ frames := 2, cells := 0, slots := 0, locals := 24 } : Room).cells ({ frames := 2, cells := 0, slots := 0, locals := 24 } : Room).slots) := by
  refine MetFree.of_bodySF (plainFor_of_name pn9) hisR ?_
  intro p e s m args below meth c s₁ Bd hml0 hP hK
  obtain ⟨rfl, hZ, hh⟩ := hP
  have hx := Bd.exec
  have hby := Bd.bytes
  have hml : c.maxLocals = 3 := hml0
  have hown' := findClass_of_methodNamed Bd.named
  have hown : s.vm.findClass "com/example/tenon/tenon/Assignments$Changed" = some m.cls := hown'
  have hnm := (name_of_methodNamed Bd.named Bd.method).1
  have X0 : Stand p l e ({ frames := 2, cells := 0, slots := 0, locals := 24 } : Room) s m #[(.ref a0), .null, .null] below meth c s₁ [] 0 0 := Stand.of_body Bd
  have e0 : s₁.heap = h0 := by rw [← hh, Bd.state]; rfl
  have N0 := Fr.nil n0
  have hlk : meth.locks = false := by first | exact BodyLoose.notSynchronized Bd | exact Body.notSynchronized Bd
  have pre0 : ∀ t, Steps p.tables e below (s₁.setTop (mkF m 0 #[.val (.ref a0), .val .null, .val .null] [])) t → Steps p.tables e below (s₁.setTop (entryFrame m #[(.ref a0), .null, .null] 3)) t := fun t k => castTop (ef18 m a0) k
  obtain ⟨_, _, ⟨T1, L1, k1, n1⟩, -, X1, ⟨Lc1, hQ1, l1, y1, z1⟩, st1⟩ := X0.specialBack hx (y := (⟨"java/lang/Record", "<init>", "()V"⟩ : MethodName)) rfl hown (mvT hZ (hw _ (List.mem_of_getElem? (i := 133) rfl))) (mvT hZ (hw _ (List.mem_of_getElem? (i := 134) rfl))) (mvT hZ (hw _ (List.mem_of_getElem? (i := 137) rfl))) (by decide) (backOf (W := 0) (rm19 l Z a0' hw [] a0 h0 n0 Z0) hZ (hw _ (List.mem_of_getElem? (i := 137) rfl)) (hw _ (List.mem_of_getElem? (i := 136) rfl)) (by decide) (by decide)) (g := (mkF m 1 #[.val (.ref a0), .val .null, .val .null] [(.ref a0)])) rfl (by rw [hml]; rfl) (Steps.refl _) (a := a0) (argsL := []) (rest := []) (lenOf pd0 rfl) rfl (by show 2 * 0 + _ ≤ _; exact Nat.le_of_eq rfl) (hb hby d18_1) (fun _ _ => ⟨rfl, e0, (by decide : 0 + 0 ≤ _), (by decide : 0 + 0 ≤ _)⟩)
  dsimp only [Pt.U, Pt.locs, Pt.cells, Pt.slots] at X1 l1 y1 z1 st1 hQ1
  subst l1 y1 z1
  obtain ⟨rfl, N1q, e1⟩ := hQ1
  have N1 := Fr.app N0 N1q
  obtain ⟨T2, h2, X2, e2, W2, st2⟩ := putF X1 hx hZ hown (host := "") (Or.inl (hw _ (List.mem_of_getElem? (i := 139) rfl))) Via.refl e1 F_wa0_name E_a0 (Or.inr ⟨(hw _ (List.mem_of_getElem? (i := 140) rfl)), rfl, hnm⟩) (hw _ (List.mem_of_getElem? (i := 128) rfl)) (ty := (.object "java/lang/String")) (by decide) rfl rfl (g := (mkF m 6 #[.val (.ref a0), .val .null, .val .null] [.null, (.ref a0)])) rfl rfl (hb hby d18_6)
  have Z2 : n0 ≤ h2.size := Nat.le_trans Z0 (Keep.of_wr W2).1
  have N2 := Fr.snoc X2 N1 g_a0
  have KC2 : Keep h0 h2 [a0] := (Keep.refl h0 [a0]).wr W2 (Or.inl (List.mem_of_getElem? (i := 0) rfl))
  have Fw2 := F_wa0_name.same W2
  have y3 := (E_a0.wr W2)
  have y4 := (F_wa0_replaced.other W2 (Or.inr (slot_ne (Or.inr (hw _ (List.mem_of_getElem? (i := 142) rfl))) (Or.inr (hw _ (List.mem_of_getElem? (i := 140) rfl))) (by decide) (t := (.object "com/example/tenon/tenon/Assignments$Assigned")) (t' := (.object "java/lang/String")) (by decide) (by decide))))
  obtain ⟨T5, h5, X5, e5, W5, st5⟩ := putF X2 hx hZ hown (host := "") (Or.inl (hw _ (List.mem_of_getElem? (i := 141) rfl))) Via.refl e2 y4 y3 (Or.inr ⟨(hw _ (List.mem_of_getElem? (i := 142) rfl)), rfl, hnm⟩) (hw _ (List.mem_of_getElem? (i := 128) rfl)) (ty := (.object "com/example/tenon/tenon/Assignments$Assigned")) (by decide) rfl rfl (g := (mkF m 11 #[.val (.ref a0), .val .null, .val .null] [.null, (.ref a0)])) rfl rfl (hb hby d18_11)
  have Z5 : n0 ≤ h5.size := Nat.le_trans Z2 (Keep.of_wr W5).1
  have N5 := Fr.snoc X5 N2 g_a0
  have KC5 : Keep h0 h5 [a0] := KC2.wr W5 (Or.inl (List.mem_of_getElem? (i := 0) rfl))
  have Fw5 := y4.same W5
  have pre6 : ∀ t, Steps p.tables e below (T5.setTop (mkF m 14 #[.val (.ref a0), .val .null, .val .null] [])) t → Steps p.tables e below (s₁.setTop (entryFrame m #[(.ref a0), .null, .null] 3)) t := fun t k => pre0 t (by
    show Steps p.tables e below (s₁.setTop (mkF m 0 #[.val (.ref a0), .val .null, .val .null] [])) _
    refine XS.aloadN X0.here hx rfl (hb hby d18_0) rfl rfl ?_
    show Steps p.tables e below (s₁.setTop (mkF m 1 #[.val (.ref a0), .val .null, .val .null] [(.ref a0)])) _
    refine st1.trans ?_
    show Steps p.tables e below (T1.setTop (mkF m 4 #[.val (.ref a0), .val .null, .val .null] [])) _
    refine XS.aloadN X1.here hx rfl (hb hby d18_4) rfl rfl ?_
    show Steps p.tables e below (T1.setTop (mkF m 5 #[.val (.ref a0), .val .null, .val .null] [(.ref a0)])) _
    refine XS.aloadN X1.here hx rfl (hb hby d18_5) rfl rfl ?_
    show Steps p.tables e below (T1.setTop (mkF m 6 #[.val (.ref a0), .val .null, .val .null] [.null, (.ref a0)])) _
    refine st2 _ ?_
    show Steps p.tables e below (T2.setTop (mkF m 9 #[.val (.ref a0), .val .null, .val .null] [])) _
    refine XS.aloadN X2.here hx rfl (hb hby d18_9) rfl rfl ?_
    show Steps p.tables e below (T2.setTop (mkF m 10 #[.val (.ref a0), .val .null, .val .null] [(.ref a0)])) _
    refine XS.aloadN X2.here hx rfl (hb hby d18_10) rfl rfl ?_
    show Steps p.tables e below (T2.setTop (mkF m 11 #[.val (.ref a0), .val .null, .val .null] [.null, (.ref a0)])) _
    refine st5 _ ?_
    exact k)
  obtain ⟨fs, hr, hrun, hended, hW, hsame⟩ := X5.leave (v := none) (fun _ => rfl) hlk
  have y7 := (y3.wr W5)
  have y8 := (Fw2.other W5 (Or.inr (slot_ne (Or.inr (hw _ (List.mem_of_getElem? (i := 140) rfl))) (Or.inr (hw _ (List.mem_of_getElem? (i := 142) rfl))) (by decide) (t := (.object "java/lang/String")) (t' := (.object "com/example/tenon/tenon/Assignments$Assigned")) (by decide) (by decide))))
  exact ⟨_, _, pre6 _ (X5.returnOut hx Bd.returns (hb hby d18_14) hr), hrun, hended, _, _, rfl, (by show Q18 Z a0 wa0_name wa0_replaced h0 n0 _ T5.heap _; rw [e5]; exact ⟨rfl, N5, KC5, y7, y8, Fw5⟩), ⟨_, rfl⟩, hW, hsame.mono (by decide) (by decide)⟩
def F24  : Int32 := (10 : Int32)
theorem ef24 (m : MethodId)  : entryFrame m #[(.int (10 : Int32)), (.int (1 : Int32))] 2 = mkF m 0 #[.val (.int (10 : Int32)), .val (.int (1 : Int32))] [] := by first | (simp [entryFrame, mkF, argsToLocals, Value.category]; done) | rfl
def Q24 (Z : State)  (h0 : Heap) (n0 : Nat) (v : Option Value) (h : Heap) (L : List Loc) : Prop := v = some (.int F24) ∧ Fr n0 L ∧ h = h0
set_option maxRecDepth 65536 in
set_option maxHeartbeats 40000000 in
theorem rm24 (l : Launch) (Z : State) (a0' : Array Value) (hw : ∀ d ∈ tables_1, d.before a0' Z = true) (ws : List Jvm.Cond)  (h0 : Heap) (n0 : Nat) (Z0 : n0 ≤ h0.size) :
    MetFree l (⟨"java/lang/Math", "max", "(II)I"⟩ : MethodName) (head1 (Jvm.Cond.code (⟨"java/lang/Math", "max", "(II)I"⟩ : MethodName) jdk_29_method_65_code 2 (some .int) :: ws) ({ frames := 0, cells := 0, slots := 0, locals := 0 } : Room)) (fun a U => a = #[(.int (10 : Int32)), (.int (1 : Int32))] ∧ Z.Warmed39 U.vm ∧ U.heap = h0) (fun _ _ _ _ _ => True) (fun _ U o U' => ∃ v L, o = .returned v ∧ Q24 Z  h0 n0 v U'.heap L ∧ FrameEnd U o U' L ({ frames := 0, cells := 0, slots := 0, locals := 0 } : Room).cells ({ frames := 0, cells := 0, slots := 0, locals := 0 } : Room).slots) := by
  refine MetFree.of_bodySF (Jvm.Free.JP.mathPlain rfl (by decide +kernel)) hisR ?_
  intro p e s m args below meth c s₁ Bd hml0 hP hK
  obtain ⟨rfl, hZ, hh⟩ := hP
  have hx := Bd.exec
  have hby := Bd.bytes
  have hml : c.maxLocals = 2 := hml0
  have hown' := findClass_of_methodNamed Bd.named
  have hown : s.vm.findClass "java/lang/Math" = some m.cls := hown'
  have hnm := (name_of_methodNamed Bd.named Bd.method).1
  have X0 : Stand p l e ({ frames := 0, cells := 0, slots := 0, locals := 0 } : Room) s m #[(.int (10 : Int32)), (.int (1 : Int32))] below meth c s₁ [] 0 0 := Stand.of_body Bd
  have e0 : s₁.heap = h0 := by rw [← hh, Bd.state]; rfl
  have N0 := Fr.nil n0
  have hlk : meth.locks = false := by first | exact BodyLoose.notSynchronized Bd | exact Body.notSynchronized Bd
  have pre0 : ∀ t, Steps p.tables e below (s₁.setTop (mkF m 0 #[.val (.int (10 : Int32)), .val (.int (1 : Int32))] [])) t → Steps p.tables e below (s₁.setTop (entryFrame m #[(.int (10 : Int32)), (.int (1 : Int32))] 2)) t := fun t k => castTop (ef24 m ) k
  have pre1 : ∀ t, Steps p.tables e below (s₁.setTop (mkF m 10 #[.val (.int (10 : Int32)), .val (.int (1 : Int32))] [(.int (10 : Int32))])) t → Steps p.tables e below (s₁.setTop (entryFrame m #[(.int (10 : Int32)), (.int (1 : Int32))] 2)) t := fun t k => pre0 t (by
    show Steps p.tables e below (s₁.setTop (mkF m 0 #[.val (.int (10 : Int32)), .val (.int (1 : Int32))] [])) _
    refine XS.iloadN X0.here hx rfl (hb hby d24_0) rfl ?_
    show Steps p.tables e below (s₁.setTop (mkF m 1 #[.val (.int (10 : Int32)), .val (.int (1 : Int32))] [(.int (10 : Int32))])) _
    refine XS.iloadN X0.here hx rfl (hb hby d24_1) rfl ?_
    show Steps p.tables e below (s₁.setTop (mkF m 2 #[.val (.int (10 : Int32)), .val (.int (1 : Int32))] [(.int (1 : Int32)), (.int (10 : Int32))])) _
    refine XS.icmpNo X0.here hx rfl (hb hby d24_2) rfl (flt (by decide : ¬ ((10 : Int32) < (1 : Int32)))).1 ?_
    show Steps p.tables e below (s₁.setTop (mkF m 5 #[.val (.int (10 : Int32)), .val (.int (1 : Int32))] [])) _
    refine XS.iloadN X0.here hx rfl (hb hby d24_5) rfl ?_
    show Steps p.tables e below (s₁.setTop (mkF m 6 #[.val (.int (10 : Int32)), .val (.int (1 : Int32))] [(.int (10 : Int32))])) _
    refine XS.goto X0.here hx rfl (pc0 := 6) (pc' := 10) rfl (hb hby d24_6) (by decide) (by decide) ?_
    exact k)
  obtain ⟨fs, hr, hrun, hended, hW, hsame⟩ := X0.leave (v := some (.int (10 : Int32))) (fun h => by rw [Bd.returns] at h; cases h) hlk
  have hF : F24 = (10 : Int32) := by rfl
  exact ⟨_, _, pre1 _ (retI X0 hx Bd.returns (hb hby d24_10) hr), hrun, hended, _, _, rfl, ⟨by rw [hF], N0, e0⟩, ⟨_, rfl⟩, hW, hsame.mono (by decide) (by decide)⟩
theorem ef23 (m : MethodId) (x0 : Addr) : entryFrame m #[(.ref x0), (.int (1 : Int32))] 4 = mkF m 0 #[.val (.ref x0), .val (.int (1 : Int32)), .unset, .unset] [] := by first | (simp [entryFrame, mkF, argsToLocals, Value.category]; done) | rfl
def Q23 (Z : State) (a0 : Addr) (wa0_modCount : Int32) (wa0_size : Int32) (sD : Addr) (kS_sD : ClassId) (h0 : Heap) (n0 : Nat) (v : Option Value) (h : Heap) (L : List Loc) : Prop := ∃ c1 : Addr, v = some (.ref c1) ∧ Fr n0 L ∧ h0.size ≤ c1 ∧ n0 ≤ c1 ∧ Keep h0 h [a0] ∧ Exa Z h a0 "java/util/ArrayList" ∧ Fld Z h a0 "java/util/AbstractList" "modCount" "I" (.int wa0_modCount) ∧ Fld Z h a0 "java/util/ArrayList" "elementData" "[Ljava/lang/Object;" (.ref c1) ∧ Fld Z h a0 "java/util/ArrayList" "size" "I" (.int wa0_size) ∧ (∃ kk : ClassId, Arv Z h c1 kk (.object "java/lang/Object") (10 : Int32) [.null, .null, .null, .null, .null, .null, .null, .null, .null, .null] .null ∧ Ovr Z kk "java/lang/Object")
set_option maxRecDepth 65536 in
set_option maxHeartbeats 40000000 in
theorem rm23 (l : Launch) (Z : State) (a0' : Array Value) (hw : ∀ d ∈ tables_1, d.before a0' Z = true) (ws : List Jvm.Cond) (a0 : Addr) (wa0_modCount : Int32) (wa0_size : Int32) (sD : Addr) (kS_sD : ClassId) (h0 : Heap) (n0 : Nat) (Z0 : n0 ≤ h0.size) (E_a0 : Exa Z h0 a0 "java/util/ArrayList") (F_wa0_modCount : Fld Z h0 a0 "java/util/AbstractList" "modCount" "I" (.int wa0_modCount)) (F_wa0_elementData : Fld Z h0 a0 "java/util/ArrayList" "elementData" "[Ljava/lang/Object;" (.ref sD)) (F_wa0_size : Fld Z h0 a0 "java/util/ArrayList" "size" "I" (.int wa0_size)) (g_a0 : n0 ≤ a0) (OLD0 : Old Z n0 h0) (VS_sD : Arv Z Z.heap sD kS_sD (.object "java/lang/Object") (0 : Int32) [] .null) (S_sD : Sta Z Z.heap "java/util/ArrayList" "DEFAULTCAPACITY_EMPTY_ELEMENTDATA" "[Ljava/lang/Object;" (.ref sD)) :
    MetFree l (⟨"java/util/ArrayList", "grow", "(I)[Ljava/lang/Object;"⟩ : MethodName) (head1 (Jvm.Cond.code (⟨"java/util/ArrayList", "grow", "(I)[Ljava/lang/Object;"⟩ : MethodName) jdk_38_method_6_code 4 (some (.array (.object "java/lang/Object"))) :: ws) ({ frames := 1, cells := 1, slots := 10, locals := 14 } : Room)) (fun a U => a = #[(.ref a0), (.int (1 : Int32))] ∧ Z.Warmed39 U.vm ∧ U.heap = h0) (fun _ _ _ _ _ => True) (fun _ U o U' => ∃ v L, o = .returned v ∧ Q23 Z a0 wa0_modCount wa0_size sD kS_sD h0 n0 v U'.heap L ∧ FrameEnd U o U' L ({ frames := 1, cells := 1, slots := 10, locals := 14 } : Room).cells ({ frames := 1, cells := 1, slots := 10, locals := 14 } : Room).slots) := by
  refine MetFree.of_bodySF (plainFor_of_name pn5) hisR ?_
  intro p e s m args below meth c s₁ Bd hml0 hP hK
  obtain ⟨rfl, hZ, hh⟩ := hP
  have hx := Bd.exec
  have hby := Bd.bytes
  have hml : c.maxLocals = 4 := hml0
  have hown' := findClass_of_methodNamed Bd.named
  have hown : s.vm.findClass "java/util/ArrayList" = some m.cls := hown'
  have hnm := (name_of_methodNamed Bd.named Bd.method).1
  have X0 : Stand p l e ({ frames := 1, cells := 1, slots := 10, locals := 14 } : Room) s m #[(.ref a0), (.int (1 : Int32))] below meth c s₁ [] 0 0 := Stand.of_body Bd
  have e0 : s₁.heap = h0 := by rw [← hh, Bd.state]; rfl
  have N0 := Fr.nil n0
  have hlk : meth.locks = false := by first | exact BodyLoose.notSynchronized Bd | exact Body.notSynchronized Bd
  have pre0 : ∀ t, Steps p.tables e below (s₁.setTop (mkF m 0 #[.val (.ref a0), .val (.int (1 : Int32)), .unset, .unset] [])) t → Steps p.tables e below (s₁.setTop (entryFrame m #[(.ref a0), (.int (1 : Int32))] 4)) t := fun t k => castTop (ef23 m a0) k
  obtain ⟨T1, X1, e1, st1⟩ := getF X0 hx hZ hown (host := "") (Or.inl (hw _ (List.mem_of_getElem? (i := 75) rfl))) Via.refl e0 F_wa0_elementData (g := (mkF m 1 #[.val (.ref a0), .val (.int (1 : Int32)), .unset, .unset] [(.ref a0)])) rfl rfl (hb hby d23_1)
  obtain ⟨cl2, Ar2, q2, S2, M2, H2, G2⟩ := id (VS_sD.ext OLD0.2)
  obtain ⟨T3, X3, e3, st3⟩ := getF X1 hx hZ hown (host := "") (Or.inl (hw _ (List.mem_of_getElem? (i := 75) rfl))) Via.refl e1 F_wa0_elementData (g := (mkF m 11 #[.val (.ref a0), .val (.int (1 : Int32)), .val (.int (0 : Int32)), .unset] [(.ref a0)])) rfl rfl (hb hby d23_11)
  obtain ⟨T4, X4, e4, st4⟩ := getS2 X3 hx hZ hown (host := "") (Or.inl (hw _ (List.mem_of_getElem? (i := 74) rfl))) Via.refl e3 (S_sD.ext OLD0.2) (g := (mkF m 14 #[.val (.ref a0), .val (.int (1 : Int32)), .val (.int (0 : Int32)), .unset] [(.ref sD)])) rfl (hb hby d23_14)
  obtain ⟨_, _, ⟨T5, L5, k5, n5⟩, -, X5, ⟨Lc5, hQ5, l5, y5, z5⟩, st5⟩ := Jvm.LawKit.callS X4 hx (y := (⟨"java/lang/Math", "max", "(II)I"⟩ : MethodName)) hown (mvT hZ (hw _ (List.mem_of_getElem? (i := 168) rfl))) (mvT hZ (hw _ (List.mem_of_getElem? (i := 169) rfl))) (mvT hZ (hw _ (List.mem_of_getElem? (i := 170) rfl))) (mvT hZ (hw _ (List.mem_of_getElem? (i := 171) rfl))) (by decide) (backOf (W := 1) (rm24 l Z a0' hw []  h0 n0 Z0) hZ (hw _ (List.mem_of_getElem? (i := 171) rfl)) (hw _ (List.mem_of_getElem? (i := 170) rfl)) (by decide) (by decide)) (g := (mkF m 49 #[.val (.ref a0), .val (.int (1 : Int32)), .val (.int (0 : Int32)), .unset] [(.int (1 : Int32)), (.int (10 : Int32)), (.ref a0)])) rfl (by rw [hml]; rfl) (argsL := [(.int (10 : Int32)), (.int (1 : Int32))]) (rest := [(.ref a0)]) (lenOf pd4 rfl) rfl (by show 2 * 0 + _ ≤ _; exact Nat.le_of_eq rfl) (hb hby d23_49) (fun _ _ => ⟨rfl, e4, (by decide : 0 + 0 ≤ _), (by decide : 0 + 0 ≤ _)⟩)
  dsimp only [Pt.U, Pt.locs, Pt.cells, Pt.slots] at X5 l5 y5 z5 st5 hQ5
  subst l5 y5 z5
  obtain ⟨rfl, N5q, e5⟩ := hQ5
  have N5 := Fr.app N0 N5q
  obtain ⟨T6, h6, k6, X6, e6, E6, A6, Ov6, st6⟩ := newR X5 hx hZ hown (hw _ (List.mem_of_getElem? (i := 172) rfl)) (hw _ (List.mem_of_getElem? (i := 173) rfl)) e5 (g := (mkF m 52 #[.val (.ref a0), .val (.int (1 : Int32)), .val (.int (0 : Int32)), .unset] [(.int (10 : Int32)), (.ref a0)])) rfl (hb hby d23_52) rfl (by decide) (cap := 10) (by decide) (by decide) (by decide) (by decide)
  obtain ⟨b6, g6⟩ : ∃ z, z = h0.size := ⟨_, rfl⟩
  rw [← g6] at A6 st6
  have ne_a0_b6 : a0 ≠ b6 := Nat.ne_of_lt (Nat.lt_of_lt_of_le E_a0.lt (Nat.le_of_eq g6.symm))
  have g_b6 : n0 ≤ b6 := Nat.le_trans Z0 (Nat.le_of_eq g6.symm)
  have sz_b6 : h0.size ≤ b6 := Nat.le_trans (Keep.refl h0 [a0]).1 (Nat.le_of_eq g6.symm)
  have Z6 : n0 ≤ h6.size := Nat.le_trans Z0 E6.1
  have KC6 : Keep h0 h6 [a0] := (Keep.refl h0 [a0]).ext E6
  have O6 : Old Z n0 h6 := OLD0.ext E6
  have V6 : Arv Z h6 b6 k6 (.object "java/lang/Object") (10 : Int32) [.null, .null, .null, .null, .null, .null, .null, .null, .null, .null] .null := (Arv.new A6 (by decide)).pad (pad_rep [] .null 10)
  have y7 := (E_a0.ext E6)
  have y8 := (F_wa0_elementData.ext E6)
  obtain ⟨T9, h9, X9, e9, W9, st9⟩ := putF X6 hx hZ hown (host := "") (Or.inl (hw _ (List.mem_of_getElem? (i := 75) rfl))) Via.refl e6 y8 y7 (Or.inl (hw _ (List.mem_of_getElem? (i := 76) rfl))) (hw _ (List.mem_of_getElem? (i := 54) rfl)) (ty := (.array (.object "java/lang/Object"))) (by decide) rfl rfl (g := (mkF m 56 #[.val (.ref a0), .val (.int (1 : Int32)), .val (.int (0 : Int32)), .unset] [(.ref b6), (.ref a0), (.ref b6)])) rfl rfl (hb hby d23_56)
  have Z9 : n0 ≤ h9.size := Nat.le_trans Z6 (Keep.of_wr W9).1
  have N9 := Fr.snoc X9 N5 g_a0
  have KC9 : Keep h0 h9 [a0] := KC6.wr W9 (Or.inl (List.mem_of_getElem? (i := 0) rfl))
  have O9 : Old Z n0 h9 := O6.wr W9 g_a0
  have Fw9 := y8.same W9
  have pre10 : ∀ t, Steps p.tables e below (T9.setTop (mkF m 59 #[.val (.ref a0), .val (.int (1 : Int32)), .val (.int (0 : Int32)), .unset] [(.ref b6)])) t → Steps p.tables e below (s₁.setTop (entryFrame m #[(.ref a0), (.int (1 : Int32))] 4)) t := fun t k => pre0 t (by
    show Steps p.tables e below (s₁.setTop (mkF m 0 #[.val (.ref a0), .val (.int (1 : Int32)), .unset, .unset] [])) _
    refine XS.aloadN X0.here hx rfl (hb hby d23_0) rfl rfl ?_
    show Steps p.tables e below (s₁.setTop (mkF m 1 #[.val (.ref a0), .val (.int (1 : Int32)), .unset, .unset] [(.ref a0)])) _
    refine st1 _ ?_
    show Steps p.tables e below (T1.setTop (mkF m 4 #[.val (.ref a0), .val (.int (1 : Int32)), .unset, .unset] [(.ref sD)])) _
    refine X1.arraylength hx (by rw [e1]; exact Ar2.1) (State.isArrayOf_alike hZ.alike Ar2.2.1) (g := (mkF m 4 #[.val (.ref a0), .val (.int (1 : Int32)), .unset, .unset] [(.ref sD)])) rfl rfl (hb hby d23_4) _ ?_
    rw [len_of S2 M2]
    show Steps p.tables e below (T1.setTop (mkF m 5 #[.val (.ref a0), .val (.int (1 : Int32)), .unset, .unset] [(.int (0 : Int32))])) _
    refine XS.istoreN X1.here hx rfl (hb hby d23_5) rfl (l' := #[.val (.ref a0), .val (.int (1 : Int32)), .val (.int (0 : Int32)), .unset]) rfl ?_
    show Steps p.tables e below (T1.setTop (mkF m 6 #[.val (.ref a0), .val (.int (1 : Int32)), .val (.int (0 : Int32)), .unset] [])) _
    refine XS.iloadN X1.here hx rfl (hb hby d23_6) rfl ?_
    show Steps p.tables e below (T1.setTop (mkF m 7 #[.val (.ref a0), .val (.int (1 : Int32)), .val (.int (0 : Int32)), .unset] [(.int (0 : Int32))])) _
    refine XS.ifNo X1.here hx rfl (hb hby d23_7) rfl ((if0 _ _).trans (flt (by decide : ¬ ((0 : Int32) < (0 : Int32)))).2.2.1) ?_
    show Steps p.tables e below (T1.setTop (mkF m 10 #[.val (.ref a0), .val (.int (1 : Int32)), .val (.int (0 : Int32)), .unset] [])) _
    refine XS.aloadN X1.here hx rfl (hb hby d23_10) rfl rfl ?_
    show Steps p.tables e below (T1.setTop (mkF m 11 #[.val (.ref a0), .val (.int (1 : Int32)), .val (.int (0 : Int32)), .unset] [(.ref a0)])) _
    refine st3 _ ?_
    show Steps p.tables e below (T3.setTop (mkF m 14 #[.val (.ref a0), .val (.int (1 : Int32)), .val (.int (0 : Int32)), .unset] [(.ref sD)])) _
    refine st4 _ ?_
    show Steps p.tables e below (T4.setTop (mkF m 17 #[.val (.ref a0), .val (.int (1 : Int32)), .val (.int (0 : Int32)), .unset] [(.ref sD), (.ref sD)])) _
    refine Jvm.RoadKit.acmp (g := (mkF m 17 #[.val (.ref a0), .val (.int (1 : Int32)), .val (.int (0 : Int32)), .unset] [(.ref sD), (.ref sD)])) X4 hx rfl rfl rfl (pc0 := 17) (pc' := 45) (same := true) rfl (hb hby d23_17) rfl (decide_eq_true rfl) (by decide) (by decide) ?_
    show Steps p.tables e below (T4.setTop (mkF m 45 #[.val (.ref a0), .val (.int (1 : Int32)), .val (.int (0 : Int32)), .unset] [])) _
    refine XS.aloadN X4.here hx rfl (hb hby d23_45) rfl rfl ?_
    show Steps p.tables e below (T4.setTop (mkF m 46 #[.val (.ref a0), .val (.int (1 : Int32)), .val (.int (0 : Int32)), .unset] [(.ref a0)])) _
    refine XS.bipush X4.here hx rfl (hb hby d23_46) ?_
    show Steps p.tables e below (T4.setTop (mkF m 48 #[.val (.ref a0), .val (.int (1 : Int32)), .val (.int (0 : Int32)), .unset] [(.int (10 : Int32)), (.ref a0)])) _
    refine XS.iloadN X4.here hx rfl (hb hby d23_48) rfl ?_
    show Steps p.tables e below (T4.setTop (mkF m 49 #[.val (.ref a0), .val (.int (1 : Int32)), .val (.int (0 : Int32)), .unset] [(.int (1 : Int32)), (.int (10 : Int32)), (.ref a0)])) _
    refine st5 _ ?_
    show Steps p.tables e below (T5.setTop (mkF m 52 #[.val (.ref a0), .val (.int (1 : Int32)), .val (.int (0 : Int32)), .unset] [(.int (10 : Int32)), (.ref a0)])) _
    refine st6 _ ?_
    show Steps p.tables e below (T6.setTop (mkF m 55 #[.val (.ref a0), .val (.int (1 : Int32)), .val (.int (0 : Int32)), .unset] [(.ref b6), (.ref a0)])) _
    refine XS.dupX1 X6.here hx rfl (hb hby d23_55) rfl rfl rfl ?_
    show Steps p.tables e below (T6.setTop (mkF m 56 #[.val (.ref a0), .val (.int (1 : Int32)), .val (.int (0 : Int32)), .unset] [(.ref b6), (.ref a0), (.ref b6)])) _
    refine st9 _ ?_
    exact k)
  obtain ⟨fs, hr, hrun, hended, hW, hsame⟩ := X9.leave (v := some (.ref b6)) (fun h => by rw [Bd.returns] at h; cases h) hlk
  have y11 := (y7.wr W9)
  have y12 := ((F_wa0_modCount.ext E6).other W9 (Or.inr (slot_ne (Or.inl (hw _ (List.mem_of_getElem? (i := 73) rfl))) (Or.inl (hw _ (List.mem_of_getElem? (i := 76) rfl))) (by decide) (t := .int) (t' := (.array (.object "java/lang/Object"))) (by decide) (by decide))))
  have y13 := ((F_wa0_size.ext E6).other W9 (Or.inr (slot_ne (Or.inl (hw _ (List.mem_of_getElem? (i := 113) rfl))) (Or.inl (hw _ (List.mem_of_getElem? (i := 76) rfl))) (by decide) (t := .int) (t' := (.array (.object "java/lang/Object"))) (by decide) (by decide))))
  have y14 := (V6.other W9 (Ne.symm ne_a0_b6))
  exact ⟨_, _, pre10 _ (by jvm_step X9.here [X9.here.top, hx, (hb hby d23_59), X9.method', Bd.returns, Value.isRef, FieldType.isReference]; (first | (intro acts; rw [hr _ acts rfl rfl rfl]) | rw [hr _ _ rfl rfl rfl]); exact Steps.refl _), hrun, hended, _, _, rfl, (by show Q23 Z a0 wa0_modCount wa0_size sD kS_sD h0 n0 _ T9.heap _; rw [e9]; exact ⟨b6, rfl, N9, sz_b6, g_b6, KC9, y11, y12, Fw9, y13, ⟨_, y14, Ov6⟩⟩), ⟨_, rfl⟩, hW, hsame.mono (by decide) (by decide)⟩
theorem ef22 (m : MethodId) (x0 : Addr) : entryFrame m #[(.ref x0)] 1 = mkF m 0 #[.val (.ref x0)] [] := by first | (simp [entryFrame, mkF, argsToLocals, Value.category]; done) | rfl
def Q22 (Z : State) (a0 : Addr) (wa0_modCount : Int32) (sD : Addr) (kS_sD : ClassId) (h0 : Heap) (n0 : Nat) (v : Option Value) (h : Heap) (L : List Loc) : Prop := ∃ c1 : Addr, v = some (.ref c1) ∧ Fr n0 L ∧ h0.size ≤ c1 ∧ n0 ≤ c1 ∧ Keep h0 h [a0] ∧ Exa Z h a0 "java/util/ArrayList" ∧ Fld Z h a0 "java/util/AbstractList" "modCount" "I" (.int wa0_modCount) ∧ Fld Z h a0 "java/util/ArrayList" "elementData" "[Ljava/lang/Object;" (.ref c1) ∧ Fld Z h a0 "java/util/ArrayList" "size" "I" (.int (0 : Int32)) ∧ (∃ kk : ClassId, Arv Z h c1 kk (.object "java/lang/Object") (10 : Int32) [.null, .null, .null, .null, .null, .null, .null, .null, .null, .null] .null ∧ Ovr Z kk "java/lang/Object")
set_option maxRecDepth 65536 in
set_option maxHeartbeats 40000000 in
theorem rm22 (l : Launch) (Z : State) (a0' : Array Value) (hw : ∀ d ∈ tables_1, d.before a0' Z = true) (ws : List Jvm.Cond) (a0 : Addr) (wa0_modCount : Int32) (sD : Addr) (kS_sD : ClassId) (h0 : Heap) (n0 : Nat) (Z0 : n0 ≤ h0.size) (E_a0 : Exa Z h0 a0 "java/util/ArrayList") (F_wa0_modCount : Fld Z h0 a0 "java/util/AbstractList" "modCount" "I" (.int wa0_modCount)) (F_wa0_elementData : Fld Z h0 a0 "java/util/ArrayList" "elementData" "[Ljava/lang/Object;" (.ref sD)) (F_wa0_size : Fld Z h0 a0 "java/util/ArrayList" "size" "I" (.int (0 : Int32))) (g_a0 : n0 ≤ a0) (OLD0 : Old Z n0 h0) (VS_sD : Arv Z Z.heap sD kS_sD (.object "java/lang/Object") (0 : Int32) [] .null) (S_sD : Sta Z Z.heap "java/util/ArrayList" "DEFAULTCAPACITY_EMPTY_ELEMENTDATA" "[Ljava/lang/Object;" (.ref sD)) :
    MetFree l (⟨"java/util/ArrayList", "grow", "()[Ljava/lang/Object;"⟩ : MethodName) (head1 (Jvm.Cond.code (⟨"java/util/ArrayList", "grow", "()[Ljava/lang/Object;"⟩ : MethodName) jdk_38_method_7_code 1 (some (.array (.object "java/lang/Object"))) :: ws) ({ frames := 2, cells := 1, slots := 10, locals := 29 } : Room)) (fun a U => a = #[(.ref a0)] ∧ Z.Warmed39 U.vm ∧ U.heap = h0) (fun _ _ _ _ _ => True) (fun _ U o U' => ∃ v L, o = .returned v ∧ Q22 Z a0 wa0_modCount sD kS_sD h0 n0 v U'.heap L ∧ FrameEnd U o U' L ({ frames := 2, cells := 1, slots := 10, locals := 29 } : Room).cells ({ frames := 2, cells := 1, slots := 10, locals := 29 } : Room).slots) := by
  refine MetFree.of_bodySF (plainFor_of_name pn5) hisR ?_
  intro p e s m args below meth c s₁ Bd hml0 hP hK
  obtain ⟨rfl, hZ, hh⟩ := hP
  have hx := Bd.exec
  have hby := Bd.bytes
  have hml : c.maxLocals = 1 := hml0
  have hown' := findClass_of_methodNamed Bd.named
  have hown : s.vm.findClass "java/util/ArrayList" = some m.cls := hown'
  have hnm := (name_of_methodNamed Bd.named Bd.method).1
  have X0 : Stand p l e ({ frames := 2, cells := 1, slots := 10, locals := 29 } : Room) s m #[(.ref a0)] below meth c s₁ [] 0 0 := Stand.of_body Bd
  have e0 : s₁.heap = h0 := by rw [← hh, Bd.state]; rfl
  have N0 := Fr.nil n0
  have hlk : meth.locks = false := by first | exact BodyLoose.notSynchronized Bd | exact Body.notSynchronized Bd
  have pre0 : ∀ t, Steps p.tables e below (s₁.setTop (mkF m 0 #[.val (.ref a0)] [])) t → Steps p.tables e below (s₁.setTop (entryFrame m #[(.ref a0)] 1)) t := fun t k => castTop (ef22 m a0) k
  obtain ⟨T1, X1, e1, st1⟩ := getF X0 hx hZ hown (host := "") (Or.inl (hw _ (List.mem_of_getElem? (i := 112) rfl))) Via.refl e0 F_wa0_size (g := (mkF m 2 #[.val (.ref a0)] [(.ref a0), (.ref a0)])) rfl rfl (hb hby d22_2)
  obtain ⟨cq2, q2, q2'⟩ := E_a0.cell
  obtain ⟨_, _, ⟨T2, L2, k2, n2⟩, -, X2, ⟨Lc2, hQ2, l2, y2, z2⟩, st2⟩ := X1.privateBack hx (y := (⟨"java/util/ArrayList", "grow", "(I)[Ljava/lang/Object;"⟩ : MethodName)) hown (mvT hZ (hw _ (List.mem_of_getElem? (i := 163) rfl))) (mvT hZ (hw _ (List.mem_of_getElem? (i := 164) rfl))) (mvT hZ (hw _ (List.mem_of_getElem? (i := 166) rfl))) (Cond.privateMethod_at (mvP hZ (hw _ (List.mem_of_getElem? (i := 165) rfl)) (args := #[]))) (mvT hZ (hw _ (List.mem_of_getElem? (i := 167) rfl))) (by decide) (backOf (W := 0) (rm23 l Z a0' hw [] a0 wa0_modCount (0 : Int32) sD kS_sD h0 n0 Z0 E_a0 F_wa0_modCount F_wa0_elementData F_wa0_size g_a0 OLD0 VS_sD S_sD) hZ (hw _ (List.mem_of_getElem? (i := 167) rfl)) (hw _ (List.mem_of_getElem? (i := 55) rfl)) (by decide) (by decide)) (g := (mkF m 7 #[.val (.ref a0)] [(.int (1 : Int32)), (.ref a0)])) rfl (by rw [hml]; rfl) (Steps.refl _) (a := a0) (by rw [e1]; exact q2) q2' (argsL := [(.int (1 : Int32))]) (rest := []) (lenOf pd5 rfl) rfl (by show 2 * 0 + _ ≤ _; exact Nat.le_of_eq rfl) (hb hby d22_7) (fun _ _ => ⟨rfl, e1, (by decide : 0 + 1 ≤ _), (by decide : 0 + 10 ≤ _)⟩)
  dsimp only [Pt.U, Pt.locs, Pt.cells, Pt.slots] at X2 l2 y2 z2 st2 hQ2
  subst l2 y2 z2
  obtain ⟨b2_0, rfl, N2q, gs_b2_0, g_b2_0, K2, u2_0, u2_1, u2_2, u2_3, u2_4⟩ := hQ2
  have N2 := Fr.app N0 N2q
  have ne_a0_b2_0 : a0 ≠ b2_0 := Nat.ne_of_lt (Nat.lt_of_lt_of_le E_a0.lt gs_b2_0)
  have sz_b2_0 : h0.size ≤ b2_0 := Nat.le_trans (Keep.refl h0 [a0]).1 gs_b2_0
  have Z2 : n0 ≤ T2.heap.size := Nat.le_trans Z0 K2.1
  have KC2 : Keep h0 T2.heap [a0] := (Keep.refl h0 [a0]).trans K2 (allS (Or.inl (List.mem_of_getElem? (i := 0) rfl)) all0)
  have O2 : Old Z n0 T2.heap := OLD0.keep K2 (allS g_a0 all0)
  obtain ⟨kk_u2_4, u2_4, ov_u2_4⟩ := u2_4
  have pre3 : ∀ t, Steps p.tables e below (T2.setTop (mkF m 10 #[.val (.ref a0)] [(.ref b2_0)])) t → Steps p.tables e below (s₁.setTop (entryFrame m #[(.ref a0)] 1)) t := fun t k => pre0 t (by
    show Steps p.tables e below (s₁.setTop (mkF m 0 #[.val (.ref a0)] [])) _
    refine XS.aloadN X0.here hx rfl (hb hby d22_0) rfl rfl ?_
    show Steps p.tables e below (s₁.setTop (mkF m 1 #[.val (.ref a0)] [(.ref a0)])) _
    refine XS.aloadN X0.here hx rfl (hb hby d22_1) rfl rfl ?_
    show Steps p.tables e below (s₁.setTop (mkF m 2 #[.val (.ref a0)] [(.ref a0), (.ref a0)])) _
    refine st1 _ ?_
    show Steps p.tables e below (T1.setTop (mkF m 5 #[.val (.ref a0)] [(.int (0 : Int32)), (.ref a0)])) _
    refine XS.iconst X1.here hx rfl (hb hby d22_5) ?_
    show Steps p.tables e below (T1.setTop (mkF m 6 #[.val (.ref a0)] [(.int (1 : Int32)), (.int (0 : Int32)), (.ref a0)])) _
    refine XS.iadd X1.here hx rfl (hb hby d22_6) rfl ?_
    show Steps p.tables e below (T1.setTop (mkF m 7 #[.val (.ref a0)] [(.int (1 : Int32)), (.ref a0)])) _
    refine st2.trans ?_
    exact k)
  obtain ⟨fs, hr, hrun, hended, hW, hsame⟩ := X2.leave (v := some (.ref b2_0)) (fun h => by rw [Bd.returns] at h; cases h) hlk
  exact ⟨_, _, pre3 _ (by jvm_step X2.here [X2.here.top, hx, (hb hby d22_10), X2.method', Bd.returns, Value.isRef, FieldType.isReference]; (first | (intro acts; rw [hr _ acts rfl rfl rfl]) | rw [hr _ _ rfl rfl rfl]); exact Steps.refl _), hrun, hended, _, _, rfl, ⟨b2_0, rfl, N2, sz_b2_0, g_b2_0, KC2, u2_0, u2_1, u2_2, u2_3, ⟨_, u2_4, ov_u2_4⟩⟩, ⟨_, rfl⟩, hW, hsame.mono (by decide) (by decide)⟩
theorem ef21 (m : MethodId) (x0 : Addr) (x1 : Addr) (x2 : Addr) : entryFrame m #[(.ref x0), (.ref x1), (.ref x2), (.int (0 : Int32))] 4 = mkF m 0 #[.val (.ref x0), .val (.ref x1), .val (.ref x2), .val (.int (0 : Int32))] [] := by first | (simp [entryFrame, mkF, argsToLocals, Value.category]; done) | rfl
def Q21 (Z : State) (a0 : Addr) (a1 : Addr) (a2 : Addr) (wa0_modCount : Int32) (k_a2 : ClassId) (sD : Addr) (kS_sD : ClassId) (h0 : Heap) (n0 : Nat) (v : Option Value) (h : Heap) (L : List Loc) : Prop := ∃ c1 : Addr, v = none ∧ Fr n0 L ∧ h0.size ≤ c1 ∧ n0 ≤ c1 ∧ Keep h0 h [a0] ∧ Exa Z h a0 "java/util/ArrayList" ∧ Fld Z h a0 "java/util/AbstractList" "modCount" "I" (.int wa0_modCount) ∧ Fld Z h a0 "java/util/ArrayList" "elementData" "[Ljava/lang/Object;" (.ref c1) ∧ Fld Z h a0 "java/util/ArrayList" "size" "I" (.int (1 : Int32)) ∧ (∃ kk : ClassId, Arv Z h c1 kk (.object "java/lang/Object") (10 : Int32) [(.ref a1), .null, .null, .null, .null, .null, .null, .null, .null, .null] .null ∧ Ovr Z kk "java/lang/Object")
set_option maxRecDepth 65536 in
set_option maxHeartbeats 40000000 in
theorem rm21 (l : Launch) (Z : State) (a0' : Array Value) (hw : ∀ d ∈ tables_1, d.before a0' Z = true) (ws : List Jvm.Cond) (a0 : Addr) (a1 : Addr) (a2 : Addr) (wa0_modCount : Int32) (k_a2 : ClassId) (sD : Addr) (kS_sD : ClassId) (h0 : Heap) (n0 : Nat) (Z0 : n0 ≤ h0.size) (E_a0 : Exa Z h0 a0 "java/util/ArrayList") (V_a2 : Arv Z h0 a2 k_a2 (.object "java/lang/Object") (0 : Int32) [] .null) (E_a1 : Exa Z h0 a1 "com/example/tenon/tenon/Assignments$Changed") (F_wa0_modCount : Fld Z h0 a0 "java/util/AbstractList" "modCount" "I" (.int wa0_modCount)) (F_wa0_elementData : Fld Z h0 a0 "java/util/ArrayList" "elementData" "[Ljava/lang/Object;" (.ref sD)) (F_wa0_size : Fld Z h0 a0 "java/util/ArrayList" "size" "I" (.int (0 : Int32))) (g_a0 : n0 ≤ a0) (OLD0 : Old Z n0 h0) (VS_sD : Arv Z Z.heap sD kS_sD (.object "java/lang/Object") (0 : Int32) [] .null) (S_sD : Sta Z Z.heap "java/util/ArrayList" "DEFAULTCAPACITY_EMPTY_ELEMENTDATA" "[Ljava/lang/Object;" (.ref sD)) :
    MetFree l (⟨"java/util/ArrayList", "add", "(Ljava/lang/Object;[Ljava/lang/Object;I)V"⟩ : MethodName) (head1 (Jvm.Cond.code (⟨"java/util/ArrayList", "add", "(Ljava/lang/Object;[Ljava/lang/Object;I)V"⟩ : MethodName) jdk_38_method_24_code 4 none :: ws) ({ frames := 3, cells := 1, slots := 10, locals := 41 } : Room)) (fun a U => a = #[(.ref a0), (.ref a1), (.ref a2), (.int (0 : Int32))] ∧ Z.Warmed39 U.vm ∧ U.heap = h0) (fun _ _ _ _ _ => True) (fun _ U o U' => ∃ v L, o = .returned v ∧ Q21 Z a0 a1 a2 wa0_modCount k_a2 sD kS_sD h0 n0 v U'.heap L ∧ FrameEnd U o U' L ({ frames := 3, cells := 1, slots := 10, locals := 41 } : Room).cells ({ frames := 3, cells := 1, slots := 10, locals := 41 } : Room).slots) := by
  refine MetFree.of_bodySF (plainFor_of_name pn5) hisR ?_
  intro p e s m args below meth c s₁ Bd hml0 hP hK
  obtain ⟨rfl, hZ, hh⟩ := hP
  have hx := Bd.exec
  have hby := Bd.bytes
  have hml : c.maxLocals = 4 := hml0
  have hown' := findClass_of_methodNamed Bd.named
  have hown : s.vm.findClass "java/util/ArrayList" = some m.cls := hown'
  have hnm := (name_of_methodNamed Bd.named Bd.method).1
  have X0 : Stand p l e ({ frames := 3, cells := 1, slots := 10, locals := 41 } : Room) s m #[(.ref a0), (.ref a1), (.ref a2), (.int (0 : Int32))] below meth c s₁ [] 0 0 := Stand.of_body Bd
  have e0 : s₁.heap = h0 := by rw [← hh, Bd.state]; rfl
  have N0 := Fr.nil n0
  have hlk : meth.locks = false := by first | exact BodyLoose.notSynchronized Bd | exact Body.notSynchronized Bd
  have pre0 : ∀ t, Steps p.tables e below (s₁.setTop (mkF m 0 #[.val (.ref a0), .val (.ref a1), .val (.ref a2), .val (.int (0 : Int32))] [])) t → Steps p.tables e below (s₁.setTop (entryFrame m #[(.ref a0), (.ref a1), (.ref a2), (.int (0 : Int32))] 4)) t := fun t k => castTop (ef21 m a0 a1 a2) k
  obtain ⟨cl1, Ar1, q1, S1, M1, H1, G1⟩ := id V_a2
  obtain ⟨cq2, q2, q2'⟩ := E_a0.cell
  obtain ⟨_, _, ⟨T2, L2, k2, n2⟩, -, X2, ⟨Lc2, hQ2, l2, y2, z2⟩, st2⟩ := X0.privateBack hx (y := (⟨"java/util/ArrayList", "grow", "()[Ljava/lang/Object;"⟩ : MethodName)) hown (mvT hZ (hw _ (List.mem_of_getElem? (i := 158) rfl))) (mvT hZ (hw _ (List.mem_of_getElem? (i := 159) rfl))) (mvT hZ (hw _ (List.mem_of_getElem? (i := 161) rfl))) (Cond.privateMethod_at (mvP hZ (hw _ (List.mem_of_getElem? (i := 160) rfl)) (args := #[]))) (mvT hZ (hw _ (List.mem_of_getElem? (i := 162) rfl))) (by decide) (backOf (W := 0) (rm22 l Z a0' hw [] a0 wa0_modCount sD kS_sD h0 n0 Z0 E_a0 F_wa0_modCount F_wa0_elementData F_wa0_size g_a0 OLD0 VS_sD S_sD) hZ (hw _ (List.mem_of_getElem? (i := 162) rfl)) (hw _ (List.mem_of_getElem? (i := 55) rfl)) (by decide) (by decide)) (g := (mkF m 7 #[.val (.ref a0), .val (.ref a1), .val (.ref a2), .val (.int (0 : Int32))] [(.ref a0)])) rfl (by rw [hml]; rfl) (Steps.refl _) (a := a0) (by rw [e0]; exact q2) q2' (argsL := []) (rest := []) (lenOf pd6 rfl) rfl (by show 2 * 0 + _ ≤ _; exact Nat.le_of_eq rfl) (hb hby d21_7) (fun _ _ => ⟨rfl, e0, (by decide : 0 + 1 ≤ _), (by decide : 0 + 10 ≤ _)⟩)
  dsimp only [Pt.U, Pt.locs, Pt.cells, Pt.slots] at X2 l2 y2 z2 st2 hQ2
  subst l2 y2 z2
  obtain ⟨b2_0, rfl, N2q, gs_b2_0, g_b2_0, K2, u2_0, u2_1, u2_2, u2_3, u2_4⟩ := hQ2
  have N2 := Fr.app N0 N2q
  have ne_a0_b2_0 : a0 ≠ b2_0 := Nat.ne_of_lt (Nat.lt_of_lt_of_le E_a0.lt gs_b2_0)
  have ne_a2_b2_0 : a2 ≠ b2_0 := Nat.ne_of_lt (Nat.lt_of_lt_of_le V_a2.lt gs_b2_0)
  have sz_b2_0 : h0.size ≤ b2_0 := Nat.le_trans (Keep.refl h0 [a0]).1 gs_b2_0
  have Z2 : n0 ≤ T2.heap.size := Nat.le_trans Z0 K2.1
  have KC2 : Keep h0 T2.heap [a0] := (Keep.refl h0 [a0]).trans K2 (allS (Or.inl (List.mem_of_getElem? (i := 0) rfl)) all0)
  have O2 : Old Z n0 T2.heap := OLD0.keep K2 (allS g_a0 all0)
  obtain ⟨kk_u2_4, u2_4, ov_u2_4⟩ := u2_4
  have y4 := (E_a1.keep K2)
  obtain ⟨cl3, Ar3, q3, S3, M3, H3, G3⟩ := id u2_4
  have hin3 : ¬ ((0 : Int32) < 0 ∨ cl3.slots.size ≤ ((0 : Int32)).toNatClampNeg) := inb_of S3 ⟨by decide, by decide⟩
  obtain ⟨T5, h5, X5, e5, W5, st5⟩ := stR X2 hx hZ rfl Ar3 (j := (0 : Int32)) hin3 rfl (Sto.ofV Ar3 q3 ov_u2_4 (Ins.of_exa y4 (hw _ (List.mem_of_getElem? (i := 174) rfl)))) (g := (mkF m 14 #[.val (.ref a0), .val (.ref a1), .val (.ref b2_0), .val (.int (0 : Int32))] [(.ref a1), (.int (0 : Int32)), (.ref b2_0)])) rfl rfl (hb hby d21_14)
  have Z5 : n0 ≤ h5.size := Nat.le_trans Z2 (Keep.of_wr W5).1
  have N5 := Fr.snoc X5 N2 g_b2_0
  have KC5 : Keep h0 h5 [a0] := KC2.wr W5 (Or.inr sz_b2_0)
  have O5 : Old Z n0 h5 := O2.wr W5 g_b2_0
  have V5 : Arv Z h5 b2_0 kk_u2_4 (.object "java/lang/Object") (10 : Int32) [(.ref a1), .null, .null, .null, .null, .null, .null, .null, .null, .null] .null := Arv.set Ar3 q3 S3 M3 H3 G3 rfl W5 0 rfl (Nat.le_of_ble_eq_true rfl)
  have y6 := (u2_0.wr W5)
  have y7 := (u2_3.other W5 (Or.inl ne_a0_b2_0))
  obtain ⟨T8, h8, X8, e8, W8, st8⟩ := putF X5 hx hZ hown (host := "") (Or.inl (hw _ (List.mem_of_getElem? (i := 112) rfl))) Via.refl e5 y7 y6 (Or.inl (hw _ (List.mem_of_getElem? (i := 113) rfl))) (hw _ (List.mem_of_getElem? (i := 54) rfl)) (ty := .int) (by decide) rfl rfl (g := (mkF m 19 #[.val (.ref a0), .val (.ref a1), .val (.ref b2_0), .val (.int (0 : Int32))] [(.int (1 : Int32)), (.ref a0)])) rfl rfl (hb hby d21_19)
  have Z8 : n0 ≤ h8.size := Nat.le_trans Z5 (Keep.of_wr W8).1
  have N8 := Fr.snoc X8 N5 g_a0
  have KC8 : Keep h0 h8 [a0] := KC5.wr W8 (Or.inl (List.mem_of_getElem? (i := 0) rfl))
  have O8 : Old Z n0 h8 := O5.wr W8 g_a0
  have Fw8 := y7.same W8
  have pre9 : ∀ t, Steps p.tables e below (T8.setTop (mkF m 22 #[.val (.ref a0), .val (.ref a1), .val (.ref b2_0), .val (.int (0 : Int32))] [])) t → Steps p.tables e below (s₁.setTop (entryFrame m #[(.ref a0), (.ref a1), (.ref a2), (.int (0 : Int32))] 4)) t := fun t k => pre0 t (by
    show Steps p.tables e below (s₁.setTop (mkF m 0 #[.val (.ref a0), .val (.ref a1), .val (.ref a2), .val (.int (0 : Int32))] [])) _
    refine XS.iloadN X0.here hx rfl (hb hby d21_0) rfl ?_
    show Steps p.tables e below (s₁.setTop (mkF m 1 #[.val (.ref a0), .val (.ref a1), .val (.ref a2), .val (.int (0 : Int32))] [(.int (0 : Int32))])) _
    refine XS.aloadN X0.here hx rfl (hb hby d21_1) rfl rfl ?_
    show Steps p.tables e below (s₁.setTop (mkF m 2 #[.val (.ref a0), .val (.ref a1), .val (.ref a2), .val (.int (0 : Int32))] [(.ref a2), (.int (0 : Int32))])) _
    refine X0.arraylength hx (by rw [e0]; exact Ar1.1) (State.isArrayOf_alike hZ.alike Ar1.2.1) (g := (mkF m 2 #[.val (.ref a0), .val (.ref a1), .val (.ref a2), .val (.int (0 : Int32))] [(.ref a2), (.int (0 : Int32))])) rfl rfl (hb hby d21_2) _ ?_
    rw [len_of S1 M1]
    show Steps p.tables e below (s₁.setTop (mkF m 3 #[.val (.ref a0), .val (.ref a1), .val (.ref a2), .val (.int (0 : Int32))] [(.int (0 : Int32)), (.int (0 : Int32))])) _
    refine XS.icmpNo X0.here hx rfl (hb hby d21_3) rfl (teq (rfl : (0 : Int32) = (0 : Int32))).2 ?_
    show Steps p.tables e below (s₁.setTop (mkF m 6 #[.val (.ref a0), .val (.ref a1), .val (.ref a2), .val (.int (0 : Int32))] [])) _
    refine XS.aloadN X0.here hx rfl (hb hby d21_6) rfl rfl ?_
    show Steps p.tables e below (s₁.setTop (mkF m 7 #[.val (.ref a0), .val (.ref a1), .val (.ref a2), .val (.int (0 : Int32))] [(.ref a0)])) _
    refine st2.trans ?_
    show Steps p.tables e below (T2.setTop (mkF m 10 #[.val (.ref a0), .val (.ref a1), .val (.ref a2), .val (.int (0 : Int32))] [(.ref b2_0)])) _
    refine XS.astoreN X2.here hx rfl (hb hby d21_10) rfl rfl (l' := #[.val (.ref a0), .val (.ref a1), .val (.ref b2_0), .val (.int (0 : Int32))]) rfl ?_
    show Steps p.tables e below (T2.setTop (mkF m 11 #[.val (.ref a0), .val (.ref a1), .val (.ref b2_0), .val (.int (0 : Int32))] [])) _
    refine XS.aloadN X2.here hx rfl (hb hby d21_11) rfl rfl ?_
    show Steps p.tables e below (T2.setTop (mkF m 12 #[.val (.ref a0), .val (.ref a1), .val (.ref b2_0), .val (.int (0 : Int32))] [(.ref b2_0)])) _
    refine XS.iloadN X2.here hx rfl (hb hby d21_12) rfl ?_
    show Steps p.tables e below (T2.setTop (mkF m 13 #[.val (.ref a0), .val (.ref a1), .val (.ref b2_0), .val (.int (0 : Int32))] [(.int (0 : Int32)), (.ref b2_0)])) _
    refine XS.aloadN X2.here hx rfl (hb hby d21_13) rfl rfl ?_
    show Steps p.tables e below (T2.setTop (mkF m 14 #[.val (.ref a0), .val (.ref a1), .val (.ref b2_0), .val (.int (0 : Int32))] [(.ref a1), (.int (0 : Int32)), (.ref b2_0)])) _
    refine st5 _ ?_
    show Steps p.tables e below (T5.setTop (mkF m 15 #[.val (.ref a0), .val (.ref a1), .val (.ref b2_0), .val (.int (0 : Int32))] [])) _
    refine XS.aloadN X5.here hx rfl (hb hby d21_15) rfl rfl ?_
    show Steps p.tables e below (T5.setTop (mkF m 16 #[.val (.ref a0), .val (.ref a1), .val (.ref b2_0), .val (.int (0 : Int32))] [(.ref a0)])) _
    refine XS.iloadN X5.here hx rfl (hb hby d21_16) rfl ?_
    show Steps p.tables e below (T5.setTop (mkF m 17 #[.val (.ref a0), .val (.ref a1), .val (.ref b2_0), .val (.int (0 : Int32))] [(.int (0 : Int32)), (.ref a0)])) _
    refine XS.iconst X5.here hx rfl (hb hby d21_17) ?_
    show Steps p.tables e below (T5.setTop (mkF m 18 #[.val (.ref a0), .val (.ref a1), .val (.ref b2_0), .val (.int (0 : Int32))] [(.int (1 : Int32)), (.int (0 : Int32)), (.ref a0)])) _
    refine XS.iadd X5.here hx rfl (hb hby d21_18) rfl ?_
    show Steps p.tables e below (T5.setTop (mkF m 19 #[.val (.ref a0), .val (.ref a1), .val (.ref b2_0), .val (.int (0 : Int32))] [(.int (1 : Int32)), (.ref a0)])) _
    refine st8 _ ?_
    exact k)
  obtain ⟨fs, hr, hrun, hended, hW, hsame⟩ := X8.leave (v := none) (fun _ => rfl) hlk
  have y10 := (y6.wr W8)
  have y11 := ((u2_1.other W5 (Or.inl ne_a0_b2_0)).other W8 (Or.inr (slot_ne (Or.inl (hw _ (List.mem_of_getElem? (i := 73) rfl))) (Or.inl (hw _ (List.mem_of_getElem? (i := 113) rfl))) (by decide) (t := .int) (t' := .int) (by decide) (by decide))))
  have y12 := ((u2_2.other W5 (Or.inl ne_a0_b2_0)).other W8 (Or.inr (slot_ne (Or.inl (hw _ (List.mem_of_getElem? (i := 76) rfl))) (Or.inl (hw _ (List.mem_of_getElem? (i := 113) rfl))) (by decide) (t := (.array (.object "java/lang/Object"))) (t' := .int) (by decide) (by decide))))
  have y13 := (V5.other W8 (Ne.symm ne_a0_b2_0))
  exact ⟨_, _, pre9 _ (X8.returnOut hx Bd.returns (hb hby d21_22) hr), hrun, hended, _, _, rfl, (by show Q21 Z a0 a1 a2 wa0_modCount k_a2 sD kS_sD h0 n0 _ T8.heap _; rw [e8]; exact ⟨b2_0, rfl, N8, sz_b2_0, g_b2_0, KC8, y10, y11, y12, Fw8, ⟨_, y13, ov_u2_4⟩⟩), ⟨_, rfl⟩, hW, hsame.mono (by decide) (by decide)⟩
def F20 (wa0_modCount : Int32) : Int32 := (1 : Int32)
theorem ef20 (m : MethodId) (x0 : Addr) (x1 : Addr) : entryFrame m #[(.ref x0), (.ref x1)] 2 = mkF m 0 #[.val (.ref x0), .val (.ref x1)] [] := by first | (simp [entryFrame, mkF, argsToLocals, Value.category]; done) | rfl
def Q20 (Z : State) (a0 : Addr) (a1 : Addr) (wa0_modCount : Int32) (sD : Addr) (kS_sD : ClassId) (h0 : Heap) (n0 : Nat) (v : Option Value) (h : Heap) (L : List Loc) : Prop := ∃ c1 : Addr, v = some (.int (F20 wa0_modCount)) ∧ Fr n0 L ∧ h0.size ≤ c1 ∧ n0 ≤ c1 ∧ Keep h0 h [a0] ∧ Exa Z h a0 "java/util/ArrayList" ∧ Fld Z h a0 "java/util/AbstractList" "modCount" "I" (.int (wa0_modCount + (1 : Int32))) ∧ Fld Z h a0 "java/util/ArrayList" "elementData" "[Ljava/lang/Object;" (.ref c1) ∧ Fld Z h a0 "java/util/ArrayList" "size" "I" (.int (1 : Int32)) ∧ (∃ kk : ClassId, Arv Z h c1 kk (.object "java/lang/Object") (10 : Int32) [(.ref a1), .null, .null, .null, .null, .null, .null, .null, .null, .null] .null ∧ Ovr Z kk "java/lang/Object")
set_option maxRecDepth 65536 in
set_option maxHeartbeats 40000000 in
theorem rm20 (l : Launch) (Z : State) (a0' : Array Value) (hw : ∀ d ∈ tables_1, d.before a0' Z = true) (ws : List Jvm.Cond) (a0 : Addr) (a1 : Addr) (wa0_modCount : Int32) (sD : Addr) (kS_sD : ClassId) (h0 : Heap) (n0 : Nat) (Z0 : n0 ≤ h0.size) (E_a0 : Exa Z h0 a0 "java/util/ArrayList") (E_a1 : Exa Z h0 a1 "com/example/tenon/tenon/Assignments$Changed") (F_wa0_modCount : Fld Z h0 a0 "java/util/AbstractList" "modCount" "I" (.int wa0_modCount)) (F_wa0_elementData : Fld Z h0 a0 "java/util/ArrayList" "elementData" "[Ljava/lang/Object;" (.ref sD)) (F_wa0_size : Fld Z h0 a0 "java/util/ArrayList" "size" "I" (.int (0 : Int32))) (g_a0 : n0 ≤ a0) (OLD0 : Old Z n0 h0) (VS_sD : Arv Z Z.heap sD kS_sD (.object "java/lang/Object") (0 : Int32) [] .null) (S_sD : Sta Z Z.heap "java/util/ArrayList" "DEFAULTCAPACITY_EMPTY_ELEMENTDATA" "[Ljava/lang/Object;" (.ref sD)) :
    MetFree l (⟨"java/util/ArrayList", "add", "(Ljava/lang/Object;)Z"⟩ : MethodName) (head1 (Jvm.Cond.code (⟨"java/util/ArrayList", "add", "(Ljava/lang/Object;)Z"⟩ : MethodName) jdk_38_method_25_code 2 (some .boolean) :: ws) ({ frames := 4, cells := 1, slots := 10, locals := 56 } : Room)) (fun a U => a = #[(.ref a0), (.ref a1)] ∧ Z.Warmed39 U.vm ∧ U.heap = h0) (fun _ _ _ _ _ => True) (fun _ U o U' => ∃ v L, o = .returned v ∧ Q20 Z a0 a1 wa0_modCount sD kS_sD h0 n0 v U'.heap L ∧ FrameEnd U o U' L ({ frames := 4, cells := 1, slots := 10, locals := 56 } : Room).cells ({ frames := 4, cells := 1, slots := 10, locals := 56 } : Room).slots) := by
  refine MetFree.of_bodySF (plainFor_of_name pn5) hisR ?_
  intro p e s m args below meth c s₁ Bd hml0 hP hK
  obtain ⟨rfl, hZ, hh⟩ := hP
  have hx := Bd.exec
  have hby := Bd.bytes
  have hml : c.maxLocals = 2 := hml0
  have hown' := findClass_of_methodNamed Bd.named
  have hown : s.vm.findClass "java/util/ArrayList" = some m.cls := hown'
  have hnm := (name_of_methodNamed Bd.named Bd.method).1
  have X0 : Stand p l e ({ frames := 4, cells := 1, slots := 10, locals := 56 } : Room) s m #[(.ref a0), (.ref a1)] below meth c s₁ [] 0 0 := Stand.of_body Bd
  have e0 : s₁.heap = h0 := by rw [← hh, Bd.state]; rfl
  have N0 := Fr.nil n0
  have hlk : meth.locks = false := by first | exact BodyLoose.notSynchronized Bd | exact Body.notSynchronized Bd
  have pre0 : ∀ t, Steps p.tables e below (s₁.setTop (mkF m 0 #[.val (.ref a0), .val (.ref a1)] [])) t → Steps p.tables e below (s₁.setTop (entryFrame m #[(.ref a0), (.ref a1)] 2)) t := fun t k => castTop (ef20 m a0 a1) k
  obtain ⟨T1, X1, e1, st1⟩ := getF X0 hx hZ hown (host := "") (Or.inl (hw _ (List.mem_of_getElem? (i := 151) rfl))) (Via.of (hw _ (List.mem_of_getElem? (i := 152) rfl))) e0 F_wa0_modCount (g := (mkF m 2 #[.val (.ref a0), .val (.ref a1)] [(.ref a0), (.ref a0)])) rfl rfl (hb hby d20_2)
  obtain ⟨T2, h2, X2, e2, W2, st2⟩ := putF X1 hx hZ hown (host := "") (Or.inl (hw _ (List.mem_of_getElem? (i := 151) rfl))) (Via.of (hw _ (List.mem_of_getElem? (i := 152) rfl))) e1 F_wa0_modCount E_a0 (Or.inl (hw _ (List.mem_of_getElem? (i := 73) rfl))) (hw _ (List.mem_of_getElem? (i := 54) rfl)) (ty := .int) (by decide) rfl rfl (g := (mkF m 7 #[.val (.ref a0), .val (.ref a1)] [(.int (wa0_modCount + (1 : Int32))), (.ref a0)])) rfl rfl (hb hby d20_7)
  have Z2 : n0 ≤ h2.size := Nat.le_trans Z0 (Keep.of_wr W2).1
  have N2 := Fr.snoc X2 N0 g_a0
  have KC2 : Keep h0 h2 [a0] := (Keep.refl h0 [a0]).wr W2 (Or.inl (List.mem_of_getElem? (i := 0) rfl))
  have O2 : Old Z n0 h2 := OLD0.wr W2 g_a0
  have Fw2 := F_wa0_modCount.same W2
  have y3 := (F_wa0_elementData.other W2 (Or.inr (slot_ne (Or.inl (hw _ (List.mem_of_getElem? (i := 76) rfl))) (Or.inl (hw _ (List.mem_of_getElem? (i := 73) rfl))) (by decide) (t := (.array (.object "java/lang/Object"))) (t' := .int) (by decide) (by decide))))
  obtain ⟨T4, X4, e4, st4⟩ := getF X2 hx hZ hown (host := "") (Or.inl (hw _ (List.mem_of_getElem? (i := 75) rfl))) Via.refl e2 y3 (g := (mkF m 13 #[.val (.ref a0), .val (.ref a1)] [(.ref a0), (.ref a1), (.ref a0)])) rfl rfl (hb hby d20_13)
  have y5 := (F_wa0_size.other W2 (Or.inr (slot_ne (Or.inl (hw _ (List.mem_of_getElem? (i := 113) rfl))) (Or.inl (hw _ (List.mem_of_getElem? (i := 73) rfl))) (by decide) (t := .int) (t' := .int) (by decide) (by decide))))
  obtain ⟨T6, X6, e6, st6⟩ := getF X4 hx hZ hown (host := "") (Or.inl (hw _ (List.mem_of_getElem? (i := 112) rfl))) Via.refl e4 y5 (g := (mkF m 17 #[.val (.ref a0), .val (.ref a1)] [(.ref a0), (.ref sD), (.ref a1), (.ref a0)])) rfl rfl (hb hby d20_17)
  have y8 := (E_a0.wr W2)
  have y9 := (E_a1.wr W2)
  obtain ⟨cq7, q7, q7'⟩ := y8.cell
  obtain ⟨_, _, ⟨T7, L7, k7, n7⟩, -, X7, ⟨Lc7, hQ7, l7, y7, z7⟩, st7⟩ := X6.privateBack hx (y := (⟨"java/util/ArrayList", "add", "(Ljava/lang/Object;[Ljava/lang/Object;I)V"⟩ : MethodName)) hown (mvT hZ (hw _ (List.mem_of_getElem? (i := 153) rfl))) (mvT hZ (hw _ (List.mem_of_getElem? (i := 154) rfl))) (mvT hZ (hw _ (List.mem_of_getElem? (i := 156) rfl))) (Cond.privateMethod_at (mvP hZ (hw _ (List.mem_of_getElem? (i := 155) rfl)) (args := #[]))) (mvT hZ (hw _ (List.mem_of_getElem? (i := 157) rfl))) (by decide) (backOf (W := 0) (rm21 l Z a0' hw [] a0 a1 sD (wa0_modCount + (1 : Int32)) kS_sD sD kS_sD h2 n0 Z2 y8 (VS_sD.ext O2.2) y9 Fw2 y3 y5 g_a0 O2 VS_sD S_sD) hZ (hw _ (List.mem_of_getElem? (i := 157) rfl)) (hw _ (List.mem_of_getElem? (i := 55) rfl)) (by decide) (by decide)) (g := (mkF m 20 #[.val (.ref a0), .val (.ref a1)] [(.int (0 : Int32)), (.ref sD), (.ref a1), (.ref a0)])) rfl (by rw [hml]; rfl) (Steps.refl _) (a := a0) (by rw [e6]; exact q7) q7' (argsL := [(.ref a1), (.ref sD), (.int (0 : Int32))]) (rest := []) (lenOf pd7 rfl) rfl (by show 2 * 0 + _ ≤ _; exact Nat.le_of_eq rfl) (hb hby d20_20) (fun _ _ => ⟨rfl, e6, (by decide : 0 + 1 ≤ _), (by decide : 0 + 10 ≤ _)⟩)
  dsimp only [Pt.U, Pt.locs, Pt.cells, Pt.slots] at X7 l7 y7 z7 st7 hQ7
  subst l7 y7 z7
  obtain ⟨b7_0, rfl, N7q, gs_b7_0, g_b7_0, K7, u7_0, u7_1, u7_2, u7_3, u7_4⟩ := hQ7
  have N7 := Fr.app N2 N7q
  have ne_a0_b7_0 : a0 ≠ b7_0 := Nat.ne_of_lt (Nat.lt_of_lt_of_le y8.lt gs_b7_0)
  have ne_a1_b7_0 : a1 ≠ b7_0 := Nat.ne_of_lt (Nat.lt_of_lt_of_le y9.lt gs_b7_0)
  have sz_b7_0 : h0.size ≤ b7_0 := Nat.le_trans KC2.1 gs_b7_0
  have Z7 : n0 ≤ T7.heap.size := Nat.le_trans Z2 K7.1
  have KC7 : Keep h0 T7.heap [a0] := KC2.trans K7 (allS (Or.inl (List.mem_of_getElem? (i := 0) rfl)) all0)
  have O7 : Old Z n0 T7.heap := O2.keep K7 (allS g_a0 all0)
  obtain ⟨kk_u7_4, u7_4, ov_u7_4⟩ := u7_4
  have pre10 : ∀ t, Steps p.tables e below (T7.setTop (mkF m 24 #[.val (.ref a0), .val (.ref a1)] [(.int (1 : Int32))])) t → Steps p.tables e below (s₁.setTop (entryFrame m #[(.ref a0), (.ref a1)] 2)) t := fun t k => pre0 t (by
    show Steps p.tables e below (s₁.setTop (mkF m 0 #[.val (.ref a0), .val (.ref a1)] [])) _
    refine XS.aloadN X0.here hx rfl (hb hby d20_0) rfl rfl ?_
    show Steps p.tables e below (s₁.setTop (mkF m 1 #[.val (.ref a0), .val (.ref a1)] [(.ref a0)])) _
    refine XS.dup X0.here hx rfl (hb hby d20_1) rfl rfl ?_
    show Steps p.tables e below (s₁.setTop (mkF m 2 #[.val (.ref a0), .val (.ref a1)] [(.ref a0), (.ref a0)])) _
    refine st1 _ ?_
    show Steps p.tables e below (T1.setTop (mkF m 5 #[.val (.ref a0), .val (.ref a1)] [(.int wa0_modCount), (.ref a0)])) _
    refine XS.iconst X1.here hx rfl (hb hby d20_5) ?_
    show Steps p.tables e below (T1.setTop (mkF m 6 #[.val (.ref a0), .val (.ref a1)] [(.int (1 : Int32)), (.int wa0_modCount), (.ref a0)])) _
    refine XS.iadd X1.here hx rfl (hb hby d20_6) rfl ?_
    show Steps p.tables e below (T1.setTop (mkF m 7 #[.val (.ref a0), .val (.ref a1)] [(.int (wa0_modCount + (1 : Int32))), (.ref a0)])) _
    refine st2 _ ?_
    show Steps p.tables e below (T2.setTop (mkF m 10 #[.val (.ref a0), .val (.ref a1)] [])) _
    refine XS.aloadN X2.here hx rfl (hb hby d20_10) rfl rfl ?_
    show Steps p.tables e below (T2.setTop (mkF m 11 #[.val (.ref a0), .val (.ref a1)] [(.ref a0)])) _
    refine XS.aloadN X2.here hx rfl (hb hby d20_11) rfl rfl ?_
    show Steps p.tables e below (T2.setTop (mkF m 12 #[.val (.ref a0), .val (.ref a1)] [(.ref a1), (.ref a0)])) _
    refine XS.aloadN X2.here hx rfl (hb hby d20_12) rfl rfl ?_
    show Steps p.tables e below (T2.setTop (mkF m 13 #[.val (.ref a0), .val (.ref a1)] [(.ref a0), (.ref a1), (.ref a0)])) _
    refine st4 _ ?_
    show Steps p.tables e below (T4.setTop (mkF m 16 #[.val (.ref a0), .val (.ref a1)] [(.ref sD), (.ref a1), (.ref a0)])) _
    refine XS.aloadN X4.here hx rfl (hb hby d20_16) rfl rfl ?_
    show Steps p.tables e below (T4.setTop (mkF m 17 #[.val (.ref a0), .val (.ref a1)] [(.ref a0), (.ref sD), (.ref a1), (.ref a0)])) _
    refine st6 _ ?_
    show Steps p.tables e below (T6.setTop (mkF m 20 #[.val (.ref a0), .val (.ref a1)] [(.int (0 : Int32)), (.ref sD), (.ref a1), (.ref a0)])) _
    refine st7.trans ?_
    show Steps p.tables e below (T7.setTop (mkF m 23 #[.val (.ref a0), .val (.ref a1)] [])) _
    refine XS.iconst X7.here hx rfl (hb hby d20_23) ?_
    exact k)
  obtain ⟨fs, hr, hrun, hended, hW, hsame⟩ := X7.leave (v := some (.int (1 : Int32))) (fun h => by rw [Bd.returns] at h; cases h) hlk
  have hF : (F20 wa0_modCount) = (1 : Int32) := by rfl
  exact ⟨_, _, pre10 _ (retN X7 hx (t := .boolean) Bd.returns (by simp) (hb hby d20_24) hr), hrun, hended, _, _, rfl, ⟨b7_0, by rw [hF], N7, sz_b7_0, g_b7_0, KC7, u7_0, u7_1, u7_2, u7_3, ⟨_, u7_4, ov_u7_4⟩⟩, ⟨_, rfl⟩, hW, hsame.mono (by decide) (by decide)⟩
theorem ef13 (m : MethodId) (x0 : Addr) : entryFrame m #[(.ref x0)] 1 = mkF m 0 #[.val (.ref x0)] [] := by first | (simp [entryFrame, mkF, argsToLocals, Value.category]; done) | rfl
def Q13 (Z : State) (a0 : Addr) (wa0_changed : Value) (wa0_budget : Value) (wa0_below : Value) (wa0_blindness : Int32) (h0 : Heap) (n0 : Nat) (v : Option Value) (h : Heap) (L : List Loc) : Prop := v = none ∧ Fr n0 L ∧ Keep h0 h [a0] ∧ Exa Z h a0 "com/example/tenon/tenon/Assignments" ∧ Fld Z h a0 "com/example/tenon/tenon/Assignments" "changed" "Ljava/util/List;" wa0_changed ∧ Fld Z h a0 "com/example/tenon/tenon/Assignments" "budget" "Lcom/example/tenon/tenon/Budget;" wa0_budget ∧ Fld Z h a0 "com/example/tenon/tenon/Assignments" "below" "Lcom/example/tenon/tenon/Assignments;" wa0_below ∧ Fld Z h a0 "com/example/tenon/tenon/Assignments" "blindness" "I" (.int (wa0_blindness + (1 : Int32))) ∧ Fld Z h a0 "com/example/tenon/tenon/Assignments" "marks" "I" (.int (0 : Int32))
set_option maxRecDepth 65536 in
set_option maxHeartbeats 40000000 in
theorem rm13 (l : Launch) (Z : State) (a0' : Array Value) (hw : ∀ d ∈ tables_1, d.before a0' Z = true) (ws : List Jvm.Cond) (a0 : Addr) (wa0_changed : Value) (wa0_budget : Value) (wa0_below : Value) (wa0_blindness : Int32) (h0 : Heap) (n0 : Nat) (Z0 : n0 ≤ h0.size) (E_a0 : Exa Z h0 a0 "com/example/tenon/tenon/Assignments") (F_wa0_changed : Fld Z h0 a0 "com/example/tenon/tenon/Assignments" "changed" "Ljava/util/List;" wa0_changed) (F_wa0_budget : Fld Z h0 a0 "com/example/tenon/tenon/Assignments" "budget" "Lcom/example/tenon/tenon/Budget;" wa0_budget) (F_wa0_below : Fld Z h0 a0 "com/example/tenon/tenon/Assignments" "below" "Lcom/example/tenon/tenon/Assignments;" wa0_below) (F_wa0_blindness : Fld Z h0 a0 "com/example/tenon/tenon/Assignments" "blindness" "I" (.int wa0_blindness)) (F_wa0_marks : Fld Z h0 a0 "com/example/tenon/tenon/Assignments" "marks" "I" (.int (0 : Int32))) (g_a0 : n0 ≤ a0) :
    MetFree l (⟨"com/example/tenon/tenon/Assignments", "notKnown", "()V"⟩ : MethodName) (head1 (Jvm.Cond.code (⟨"com/example/tenon/tenon/Assignments", "notKnown", "()V"⟩ : MethodName) prog_4_method_4_code 1 none :: ws) ({ frames := 0, cells := 0, slots := 0, locals := 0 } : Room)) (fun a U => a = #[(.ref a0)] ∧ Z.Warmed39 U.vm ∧ U.heap = h0) (fun _ _ _ _ _ => True) (fun _ U o U' => ∃ v L, o = .returned v ∧ Q13 Z a0 wa0_changed wa0_budget wa0_below wa0_blindness h0 n0 v U'.heap L ∧ FrameEnd U o U' L ({ frames := 0, cells := 0, slots := 0, locals := 0 } : Room).cells ({ frames := 0, cells := 0, slots := 0, locals := 0 } : Room).slots) := by
  refine MetFree.of_bodySF (plainFor_of_name pn7) hisR ?_
  intro p e s m args below meth c s₁ Bd hml0 hP hK
  obtain ⟨rfl, hZ, hh⟩ := hP
  have hx := Bd.exec
  have hby := Bd.bytes
  have hml : c.maxLocals = 1 := hml0
  have hown' := findClass_of_methodNamed Bd.named
  have hown : s.vm.findClass "com/example/tenon/tenon/Assignments" = some m.cls := hown'
  have hnm := (name_of_methodNamed Bd.named Bd.method).1
  have X0 : Stand p l e ({ frames := 0, cells := 0, slots := 0, locals := 0 } : Room) s m #[(.ref a0)] below meth c s₁ [] 0 0 := Stand.of_body Bd
  have e0 : s₁.heap = h0 := by rw [← hh, Bd.state]; rfl
  have N0 := Fr.nil n0
  have hlk : meth.locks = false := by first | exact BodyLoose.notSynchronized Bd | exact Body.notSynchronized Bd
  have pre0 : ∀ t, Steps p.tables e below (s₁.setTop (mkF m 0 #[.val (.ref a0)] [])) t → Steps p.tables e below (s₁.setTop (entryFrame m #[(.ref a0)] 1)) t := fun t k => castTop (ef13 m a0) k
  obtain ⟨T1, X1, e1, st1⟩ := getF X0 hx hZ hown (host := "") (Or.inl (hw _ (List.mem_of_getElem? (i := 96) rfl))) Via.refl e0 F_wa0_marks (g := (mkF m 1 #[.val (.ref a0)] [(.ref a0)])) rfl rfl (hb hby d13_1)
  obtain ⟨T2, X2, e2, st2⟩ := getF X1 hx hZ hown (host := "") (Or.inl (hw _ (List.mem_of_getElem? (i := 89) rfl))) Via.refl e1 F_wa0_blindness (g := (mkF m 38 #[.val (.ref a0)] [(.ref a0), (.ref a0)])) rfl rfl (hb hby d13_38)
  obtain ⟨T3, h3, X3, e3, W3, st3⟩ := putF X2 hx hZ hown (host := "") (Or.inl (hw _ (List.mem_of_getElem? (i := 89) rfl))) Via.refl e2 F_wa0_blindness E_a0 (Or.inl (hw _ (List.mem_of_getElem? (i := 90) rfl))) (hw _ (List.mem_of_getElem? (i := 16) rfl)) (ty := .int) (by decide) rfl rfl (g := (mkF m 43 #[.val (.ref a0)] [(.int (wa0_blindness + (1 : Int32))), (.ref a0)])) rfl rfl (hb hby d13_43)
  have Z3 : n0 ≤ h3.size := Nat.le_trans Z0 (Keep.of_wr W3).1
  have N3 := Fr.snoc X3 N0 g_a0
  have KC3 : Keep h0 h3 [a0] := (Keep.refl h0 [a0]).wr W3 (Or.inl (List.mem_of_getElem? (i := 0) rfl))
  have Fw3 := F_wa0_blindness.same W3
  have pre4 : ∀ t, Steps p.tables e below (T3.setTop (mkF m 46 #[.val (.ref a0)] [])) t → Steps p.tables e below (s₁.setTop (entryFrame m #[(.ref a0)] 1)) t := fun t k => pre0 t (by
    show Steps p.tables e below (s₁.setTop (mkF m 0 #[.val (.ref a0)] [])) _
    refine XS.aloadN X0.here hx rfl (hb hby d13_0) rfl rfl ?_
    show Steps p.tables e below (s₁.setTop (mkF m 1 #[.val (.ref a0)] [(.ref a0)])) _
    refine st1 _ ?_
    show Steps p.tables e below (T1.setTop (mkF m 4 #[.val (.ref a0)] [(.int (0 : Int32))])) _
    refine XS.ifYes X1.here hx rfl (pc0 := 4) (pc' := 36) rfl (hb hby d13_4) rfl ((if0 _ _).trans (flt (by decide : ¬ ((0 : Int32) < (0 : Int32)))).2.2.2) (by decide) (by decide) ?_
    show Steps p.tables e below (T1.setTop (mkF m 36 #[.val (.ref a0)] [])) _
    refine XS.aloadN X1.here hx rfl (hb hby d13_36) rfl rfl ?_
    show Steps p.tables e below (T1.setTop (mkF m 37 #[.val (.ref a0)] [(.ref a0)])) _
    refine XS.dup X1.here hx rfl (hb hby d13_37) rfl rfl ?_
    show Steps p.tables e below (T1.setTop (mkF m 38 #[.val (.ref a0)] [(.ref a0), (.ref a0)])) _
    refine st2 _ ?_
    show Steps p.tables e below (T2.setTop (mkF m 41 #[.val (.ref a0)] [(.int wa0_blindness), (.ref a0)])) _
    refine XS.iconst X2.here hx rfl (hb hby d13_41) ?_
    show Steps p.tables e below (T2.setTop (mkF m 42 #[.val (.ref a0)] [(.int (1 : Int32)), (.int wa0_blindness), (.ref a0)])) _
    refine XS.iadd X2.here hx rfl (hb hby d13_42) rfl ?_
    show Steps p.tables e below (T2.setTop (mkF m 43 #[.val (.ref a0)] [(.int (wa0_blindness + (1 : Int32))), (.ref a0)])) _
    refine st3 _ ?_
    exact k)
  obtain ⟨fs, hr, hrun, hended, hW, hsame⟩ := X3.leave (v := none) (fun _ => rfl) hlk
  have y5 := (E_a0.wr W3)
  have y6 := (F_wa0_changed.other W3 (Or.inr (slot_ne (Or.inr (hw _ (List.mem_of_getElem? (i := 78) rfl))) (Or.inl (hw _ (List.mem_of_getElem? (i := 90) rfl))) (by decide) (t := (.object "java/util/List")) (t' := .int) (by decide) (by decide))))
  have y7 := (F_wa0_budget.other W3 (Or.inr (slot_ne (Or.inr (hw _ (List.mem_of_getElem? (i := 80) rfl))) (Or.inl (hw _ (List.mem_of_getElem? (i := 90) rfl))) (by decide) (t := (.object "com/example/tenon/tenon/Budget")) (t' := .int) (by decide) (by decide))))
  have y8 := (F_wa0_below.other W3 (Or.inr (slot_ne (Or.inr (hw _ (List.mem_of_getElem? (i := 82) rfl))) (Or.inl (hw _ (List.mem_of_getElem? (i := 90) rfl))) (by decide) (t := (.object "com/example/tenon/tenon/Assignments")) (t' := .int) (by decide) (by decide))))
  have y9 := (F_wa0_marks.other W3 (Or.inr (slot_ne (Or.inl (hw _ (List.mem_of_getElem? (i := 97) rfl))) (Or.inl (hw _ (List.mem_of_getElem? (i := 90) rfl))) (by decide) (t := .int) (t' := .int) (by decide) (by decide))))
  exact ⟨_, _, pre4 _ (X3.returnOut hx Bd.returns (hb hby d13_46) hr), hrun, hended, _, _, rfl, (by show Q13 Z a0 wa0_changed wa0_budget wa0_below wa0_blindness h0 n0 _ T3.heap _; rw [e3]; exact ⟨rfl, N3, KC3, y5, y6, y7, y8, Fw3, y9⟩), ⟨_, rfl⟩, hW, hsame.mono (by decide) (by decide)⟩
theorem ef13m (m : MethodId) (x0 : Addr) : entryFrame m #[(.ref x0)] 1 = mkF m 0 #[.val (.ref x0)] [] := by first | (simp [entryFrame, mkF, argsToLocals, Value.category]; done) | rfl
def Q13m (Z : State) (a0 : Addr) (wa0_changed : Addr) (wa0_budget : Addr) (wa0_below : Value) (wa0_blindness : Int32) (wwa0_budget_limit : Int64) (wwa0_budget_held : Int64) (wwa0_changed_modCount : Int32) (sD : Addr) (kS_sD : ClassId) (h0 : Heap) (n0 : Nat) (v : Option Value) (h : Heap) (L : List Loc) : Prop := ∃ c1 c2 : Addr, v = none ∧ Fr n0 L ∧ h0.size ≤ c1 ∧ n0 ≤ c1 ∧ h0.size ≤ c2 ∧ n0 ≤ c2 ∧ Keep h0 h [wa0_budget, wa0_changed, a0] ∧ Exa Z h wa0_budget "com/example/tenon/tenon/Budget" ∧ Fld Z h wa0_budget "com/example/tenon/tenon/Budget" "limit" "J" (.long wwa0_budget_limit) ∧ Fld Z h wa0_budget "com/example/tenon/tenon/Budget" "held" "J" (.long (wwa0_budget_held + (56 : Int64))) ∧ Exa Z h wa0_changed "java/util/ArrayList" ∧ Fld Z h wa0_changed "java/util/AbstractList" "modCount" "I" (.int (wwa0_changed_modCount + (1 : Int32))) ∧ Fld Z h wa0_changed "java/util/ArrayList" "elementData" "[Ljava/lang/Object;" (.ref c1) ∧ Fld Z h wa0_changed "java/util/ArrayList" "size" "I" (.int (1 : Int32)) ∧ Exa Z h a0 "com/example/tenon/tenon/Assignments" ∧ Fld Z h a0 "com/example/tenon/tenon/Assignments" "changed" "Ljava/util/List;" (.ref wa0_changed) ∧ Fld Z h a0 "com/example/tenon/tenon/Assignments" "budget" "Lcom/example/tenon/tenon/Budget;" (.ref wa0_budget) ∧ Fld Z h a0 "com/example/tenon/tenon/Assignments" "below" "Lcom/example/tenon/tenon/Assignments;" wa0_below ∧ Fld Z h a0 "com/example/tenon/tenon/Assignments" "blindness" "I" (.int (wa0_blindness + (1 : Int32))) ∧ Fld Z h a0 "com/example/tenon/tenon/Assignments" "marks" "I" (.int (1 : Int32)) ∧ (∃ kk : ClassId, Arv Z h c1 kk (.object "java/lang/Object") (10 : Int32) [(.ref c2), .null, .null, .null, .null, .null, .null, .null, .null, .null] .null ∧ Ovr Z kk "java/lang/Object") ∧ Exa Z h c2 "com/example/tenon/tenon/Assignments$Changed" ∧ Fld Z h c2 "com/example/tenon/tenon/Assignments$Changed" "name" "Ljava/lang/String;" .null ∧ Fld Z h c2 "com/example/tenon/tenon/Assignments$Changed" "replaced" "Lcom/example/tenon/tenon/Assignments$Assigned;" .null
set_option maxRecDepth 65536 in
set_option maxHeartbeats 40000000 in
theorem rm13m (l : Launch) (Z : State) (a0' : Array Value) (hw : ∀ d ∈ tables_1, d.before a0' Z = true) (ws : List Jvm.Cond) (a0 : Addr) (wa0_changed : Addr) (wa0_budget : Addr) (wa0_below : Value) (wa0_blindness : Int32) (wwa0_budget_limit : Int64) (wwa0_budget_held : Int64) (wwa0_changed_modCount : Int32) (sD : Addr) (kS_sD : ClassId) (h0 : Heap) (n0 : Nat) (Z0 : n0 ≤ h0.size) (E_a0 : Exa Z h0 a0 "com/example/tenon/tenon/Assignments") (E_wa0_budget : Exa Z h0 wa0_budget "com/example/tenon/tenon/Budget") (E_wa0_changed : Exa Z h0 wa0_changed "java/util/ArrayList") (F_wa0_changed : Fld Z h0 a0 "com/example/tenon/tenon/Assignments" "changed" "Ljava/util/List;" (.ref wa0_changed)) (F_wa0_budget : Fld Z h0 a0 "com/example/tenon/tenon/Assignments" "budget" "Lcom/example/tenon/tenon/Budget;" (.ref wa0_budget)) (F_wa0_below : Fld Z h0 a0 "com/example/tenon/tenon/Assignments" "below" "Lcom/example/tenon/tenon/Assignments;" wa0_below) (F_wa0_blindness : Fld Z h0 a0 "com/example/tenon/tenon/Assignments" "blindness" "I" (.int wa0_blindness)) (F_wa0_marks : Fld Z h0 a0 "com/example/tenon/tenon/Assignments" "marks" "I" (.int (1 : Int32))) (F_wwa0_budget_limit : Fld Z h0 wa0_budget "com/example/tenon/tenon/Budget" "limit" "J" (.long wwa0_budget_limit)) (F_wwa0_budget_held : Fld Z h0 wa0_budget "com/example/tenon/tenon/Budget" "held" "J" (.long wwa0_budget_held)) (F_wwa0_changed_modCount : Fld Z h0 wa0_changed "java/util/AbstractList" "modCount" "I" (.int wwa0_changed_modCount)) (F_wwa0_changed_elementData : Fld Z h0 wa0_changed "java/util/ArrayList" "elementData" "[Ljava/lang/Object;" (.ref sD)) (F_wwa0_changed_size : Fld Z h0 wa0_changed "java/util/ArrayList" "size" "I" (.int (0 : Int32))) (g_wa0_budget : n0 ≤ wa0_budget) (g_wa0_changed : n0 ≤ wa0_changed) (g_a0 : n0 ≤ a0) (OLD0 : Old Z n0 h0) (VS_sD : Arv Z Z.heap sD kS_sD (.object "java/lang/Object") (0 : Int32) [] .null) (S_sD : Sta Z Z.heap "java/util/ArrayList" "DEFAULTCAPACITY_EMPTY_ELEMENTDATA" "[Ljava/lang/Object;" (.ref sD)) (hp14_0 : ¬ ((wwa0_budget_limit - wwa0_budget_held) < (56 : Int64))) :
    MetFree l (⟨"com/example/tenon/tenon/Assignments", "notKnown", "()V"⟩ : MethodName) (head1 (Jvm.Cond.code (⟨"com/example/tenon/tenon/Assignments", "notKnown", "()V"⟩ : MethodName) prog_4_method_4_code 1 none :: ws) ({ frames := 5, cells := 2, slots := 12, locals := 69 } : Room)) (fun a U => a = #[(.ref a0)] ∧ Z.Warmed39 U.vm ∧ U.heap = h0) (fun _ _ _ _ _ => True) (fun _ U o U' => ∃ v L, o = .returned v ∧ Q13m Z a0 wa0_changed wa0_budget wa0_below wa0_blindness wwa0_budget_limit wwa0_budget_held wwa0_changed_modCount sD kS_sD h0 n0 v U'.heap L ∧ FrameEnd U o U' L ({ frames := 5, cells := 2, slots := 12, locals := 69 } : Room).cells ({ frames := 5, cells := 2, slots := 12, locals := 69 } : Room).slots) := by
  refine MetFree.of_bodySF (plainFor_of_name pn7) hisR ?_
  intro p e s m args below meth c s₁ Bd hml0 hP hK
  obtain ⟨rfl, hZ, hh⟩ := hP
  have hx := Bd.exec
  have hby := Bd.bytes
  have hml : c.maxLocals = 1 := hml0
  have hown' := findClass_of_methodNamed Bd.named
  have hown : s.vm.findClass "com/example/tenon/tenon/Assignments" = some m.cls := hown'
  have hnm := (name_of_methodNamed Bd.named Bd.method).1
  have X0 : Stand p l e ({ frames := 5, cells := 2, slots := 12, locals := 69 } : Room) s m #[(.ref a0)] below meth c s₁ [] 0 0 := Stand.of_body Bd
  have e0 : s₁.heap = h0 := by rw [← hh, Bd.state]; rfl
  have N0 := Fr.nil n0
  have hlk : meth.locks = false := by first | exact BodyLoose.notSynchronized Bd | exact Body.notSynchronized Bd
  have pre0 : ∀ t, Steps p.tables e below (s₁.setTop (mkF m 0 #[.val (.ref a0)] [])) t → Steps p.tables e below (s₁.setTop (entryFrame m #[(.ref a0)] 1)) t := fun t k => castTop (ef13m m a0) k
  obtain ⟨T1, X1, e1, st1⟩ := getF X0 hx hZ hown (host := "") (Or.inl (hw _ (List.mem_of_getElem? (i := 96) rfl))) Via.refl e0 F_wa0_marks (g := (mkF m 1 #[.val (.ref a0)] [(.ref a0)])) rfl rfl (hb hby d13_1)
  obtain ⟨T2, X2, e2, st2⟩ := getF X1 hx hZ hown (host := "") (Or.inl (hw _ (List.mem_of_getElem? (i := 79) rfl))) Via.refl e1 F_wa0_budget (g := (mkF m 8 #[.val (.ref a0)] [(.ref a0)])) rfl rfl (hb hby d13_8)
  obtain ⟨cq3, kq3, q3a, q3b, q3c⟩ := isOf hZ e2 E_wa0_budget
  obtain ⟨_, _, ⟨T3, L3, k3, n3⟩, -, X3, ⟨Lc3, hQ3, l3, y3, z3⟩, st3⟩ := X2.virtualBack hx (y := (⟨"com/example/tenon/tenon/Budget", "take", "(J)V"⟩ : MethodName)) (z := (⟨"com/example/tenon/tenon/Budget", "take", "(J)V"⟩ : MethodName)) hown (mvT hZ (hw _ (List.mem_of_getElem? (i := 115) rfl))) (mvT hZ (hw _ (List.mem_of_getElem? (i := 116) rfl))) (notFace_of_selects (args := #[]) (mvT hZ (hw _ (List.mem_of_getElem? (i := 118) rfl)))) (mvT hZ (hw _ (List.mem_of_getElem? (i := 118) rfl))) (mvT hZ (hw _ (List.mem_of_getElem? (i := 117) rfl))) (by decide) (backOf (W := 0) (rm16 l Z a0' hw [] wa0_budget (56 : Int64) wwa0_budget_limit wwa0_budget_held h0 n0 Z0 E_wa0_budget F_wwa0_budget_limit F_wwa0_budget_held g_wa0_budget hp14_0) hZ (hw _ (List.mem_of_getElem? (i := 119) rfl)) (hw _ (List.mem_of_getElem? (i := 2) rfl)) (by decide) (by decide)) q3a q3c (g := (mkF m 14 #[.val (.ref a0)] [(.long (56 : Int64)), (.ref wa0_budget)])) rfl (by rw [hml]; rfl) (Steps.refl _) (argsL := [(.long (56 : Int64))]) (rest := []) (lenOf pd1 rfl) rfl (by show 2 * 0 + _ ≤ _; exact Nat.le_of_eq rfl) (hb hby d13_14) (fun _ _ => ⟨rfl, e2, (by decide : 0 + 0 ≤ _), (by decide : 0 + 0 ≤ _)⟩)
  dsimp only [Pt.U, Pt.locs, Pt.cells, Pt.slots] at X3 l3 y3 z3 st3 hQ3
  subst l3 y3 z3
  obtain ⟨rfl, N3q, K3, u3_0, u3_1, u3_2⟩ := hQ3
  have N3 := Fr.app N0 N3q
  have Z3 : n0 ≤ T3.heap.size := Nat.le_trans Z0 K3.1
  have KC3 : Keep h0 T3.heap [wa0_budget, wa0_changed, a0] := (Keep.refl h0 [wa0_budget, wa0_changed, a0]).trans K3 (allS (Or.inl (List.mem_of_getElem? (i := 0) rfl)) all0)
  have O3 : Old Z n0 T3.heap := OLD0.keep K3 (allS g_wa0_budget all0)
  have y5 := (E_a0.keep K3)
  have ne4 : a0 ≠ wa0_budget := ne_exa y5 u3_0 (by decide)
  have y6 := (F_wa0_changed.keep K3 (ninS ne4 nin0))
  obtain ⟨T7, X7, e7, st7⟩ := getF X3 hx hZ hown (host := "") (Or.inl (hw _ (List.mem_of_getElem? (i := 77) rfl))) Via.refl rfl y6 (g := (mkF m 18 #[.val (.ref a0)] [(.ref a0)])) rfl rfl (hb hby d13_18)
  obtain ⟨T8, h8, X8, e8, E8, A8, D8, -, st8⟩ := newO X7 hx hZ hown (hw _ (List.mem_of_getElem? (i := 127) rfl)) (hw _ (List.mem_of_getElem? (i := 128) rfl)) (hw _ (List.mem_of_getElem? (i := 129) rfl)) e7 (g := (mkF m 21 #[.val (.ref a0)] [(.ref wa0_changed)])) rfl (hb hby d13_21) (by decide) (by decide)
  obtain ⟨b8, g8⟩ : ∃ z, z = T3.heap.size := ⟨_, rfl⟩
  rw [← g8] at A8 D8 st8
  have ne_a0_b8 : a0 ≠ b8 := Nat.ne_of_lt (Nat.lt_of_lt_of_le y5.lt (Nat.le_of_eq g8.symm))
  have ne_wa0_budget_b8 : wa0_budget ≠ b8 := Nat.ne_of_lt (Nat.lt_of_lt_of_le u3_0.lt (Nat.le_of_eq g8.symm))
  have g_b8 : n0 ≤ b8 := Nat.le_trans Z3 (Nat.le_of_eq g8.symm)
  have sz_b8 : h0.size ≤ b8 := Nat.le_trans KC3.1 (Nat.le_of_eq g8.symm)
  have Z8 : n0 ≤ h8.size := Nat.le_trans Z3 E8.1
  have KC8 : Keep h0 h8 [wa0_budget, wa0_changed, a0] := KC3.ext E8
  have O8 : Old Z n0 h8 := O3.ext E8
  have F8_name : Fld Z h8 b8 "com/example/tenon/tenon/Assignments$Changed" "name" "Ljava/lang/String;" .null := D8 (Or.inr (hw _ (List.mem_of_getElem? (i := 140) rfl))) (ty := (.object "java/lang/String")) (by decide)
  have F8_replaced : Fld Z h8 b8 "com/example/tenon/tenon/Assignments$Changed" "replaced" "Lcom/example/tenon/tenon/Assignments$Assigned;" .null := D8 (Or.inr (hw _ (List.mem_of_getElem? (i := 142) rfl))) (ty := (.object "com/example/tenon/tenon/Assignments$Assigned")) (by decide)
  obtain ⟨_, _, ⟨T9, L9, k9, n9⟩, -, X9, ⟨Lc9, hQ9, l9, y9, z9⟩, st9⟩ := Jvm.RoadKit.own_specialRef X8 hx (y := (⟨"com/example/tenon/tenon/Assignments$Changed", "<init>", "(Ljava/lang/String;Lcom/example/tenon/tenon/Assignments$Assigned;)V"⟩ : MethodName)) rfl hown (own_mvR hZ (hw _ (List.mem_of_getElem? (i := 131) rfl)) (by decide) (hw _ (List.mem_of_getElem? (i := 130) rfl))) (mvT hZ (hw _ (List.mem_of_getElem? (i := 131) rfl))) (mvT hZ (hw _ (List.mem_of_getElem? (i := 132) rfl))) (by decide) (backOf (W := 2) (rm18 l Z a0' hw [] b8 .null .null h8 n0 Z8 A8 F8_name F8_replaced g_b8) hZ (hw _ (List.mem_of_getElem? (i := 132) rfl)) (hw _ (List.mem_of_getElem? (i := 129) rfl)) (by decide) (by decide)) (g := (mkF m 27 #[.val (.ref a0)] [.null, .null, (.ref b8), (.ref b8), (.ref wa0_changed)])) rfl (by rw [hml]; rfl) (Steps.refl _) (a := b8) (argsL := [.null, .null]) (rest := [(.ref b8), (.ref wa0_changed)]) (lenOf pd8 rfl) rfl (by show 2 * 0 + _ ≤ _; exact Nat.le_of_eq rfl) (hb hby d13_27) (fun _ _ => ⟨rfl, e8, (by decide : 1 + 0 ≤ _), (by decide : 2 + 0 ≤ _)⟩)
  dsimp only [Pt.U, Pt.locs, Pt.cells, Pt.slots] at X9 l9 y9 z9 st9 hQ9
  subst l9 y9 z9
  obtain ⟨rfl, N9q, K9, u9_0, u9_1, u9_2⟩ := hQ9
  have N9 := Fr.app N3 N9q
  have Z9 : n0 ≤ T9.heap.size := Nat.le_trans Z8 K9.1
  have KC9 : Keep h0 T9.heap [wa0_budget, wa0_changed, a0] := KC8.trans K9 (allS (Or.inr sz_b8) all0)
  have O9 : Old Z n0 T9.heap := O8.keep K9 (allS g_b8 all0)
  have y12 := (((E_wa0_changed.keep K3).ext E8).keep K9)
  have y13 := ((u3_0.ext E8).keep K9)
  have ne11 : wa0_changed ≠ wa0_budget := ne_exa y12 y13 (by decide)
  have ne14 : wa0_changed ≠ b8 := ne_exa y12 u9_0 (by decide)
  have y15 := (((F_wwa0_changed_modCount.keep K3 (ninS ne11 nin0)).ext E8).keep K9 (ninS ne14 nin0))
  have y16 := (((F_wwa0_changed_elementData.keep K3 (ninS ne11 nin0)).ext E8).keep K9 (ninS ne14 nin0))
  have y17 := (((F_wwa0_changed_size.keep K3 (ninS ne11 nin0)).ext E8).keep K9 (ninS ne14 nin0))
  obtain ⟨cq10, kq10, q10a, q10b, q10c⟩ := isOf hZ rfl y12
  obtain ⟨_, _, ⟨T10, L10, k10, n10⟩, -, X10, ⟨Lc10, hQ10, l10, y10, z10⟩, st10⟩ := X9.interfaceBack hx (xi := (⟨"java/util/List", "add", "(Ljava/lang/Object;)Z"⟩ : MethodName)) (y := (⟨"java/util/ArrayList", "add", "(Ljava/lang/Object;)Z"⟩ : MethodName)) hown (mvT hZ (hw _ (List.mem_of_getElem? (i := 143) rfl))) (mvT hZ (hw _ (List.mem_of_getElem? (i := 144) rfl))) (mvT hZ (hw _ (List.mem_of_getElem? (i := 145) rfl))) (mvT hZ (hw _ (List.mem_of_getElem? (i := 146) rfl))) (mvT hZ (hw _ (List.mem_of_getElem? (i := 147) rfl))) (mvT hZ (hw _ (List.mem_of_getElem? (i := 148) rfl))) (mvT hZ (hw _ (List.mem_of_getElem? (i := 149) rfl))) (mvT hZ (hw _ (List.mem_of_getElem? (i := 110) rfl))) (by decide) (backOf (W := 0) (rm20 l Z a0' hw [] wa0_changed b8 wwa0_changed_modCount sD kS_sD T9.heap n0 Z9 y12 u9_0 y15 y16 y17 g_wa0_changed O9 VS_sD S_sD) hZ (hw _ (List.mem_of_getElem? (i := 150) rfl)) (hw _ (List.mem_of_getElem? (i := 55) rfl)) (by decide) (by decide)) q10a q10b q10c (g := (mkF m 30 #[.val (.ref a0)] [(.ref b8), (.ref wa0_changed)])) rfl (by rw [hml]; rfl) (Steps.refl _) (argsL := [(.ref b8)]) (rest := []) (lenOf pd9 rfl) rfl (by show 2 * 0 + _ ≤ _; exact Nat.le_of_eq rfl) (hb hby d13_30) (fun _ _ => ⟨rfl, rfl, (by decide : 1 + 1 ≤ _), (by decide : 2 + 10 ≤ _)⟩)
  dsimp only [Pt.U, Pt.locs, Pt.cells, Pt.slots] at X10 l10 y10 z10 st10 hQ10
  subst l10 y10 z10
  have y18 := ((y5.ext E8).keep K9)
  obtain ⟨b10_0, rfl, N10q, gs_b10_0, g_b10_0, K10, u10_0, u10_1, u10_2, u10_3, u10_4⟩ := hQ10
  have N10 := Fr.app N9 N10q
  have ne_a0_b10_0 : a0 ≠ b10_0 := Nat.ne_of_lt (Nat.lt_of_lt_of_le y18.lt gs_b10_0)
  have ne_wa0_budget_b10_0 : wa0_budget ≠ b10_0 := Nat.ne_of_lt (Nat.lt_of_lt_of_le y13.lt gs_b10_0)
  have ne_b8_b10_0 : b8 ≠ b10_0 := Nat.ne_of_lt (Nat.lt_of_lt_of_le u9_0.lt gs_b10_0)
  have ne_wa0_changed_b10_0 : wa0_changed ≠ b10_0 := Nat.ne_of_lt (Nat.lt_of_lt_of_le y15.lt gs_b10_0)
  have sz_b10_0 : h0.size ≤ b10_0 := Nat.le_trans KC9.1 gs_b10_0
  have Z10 : n0 ≤ T10.heap.size := Nat.le_trans Z9 K10.1
  have KC10 : Keep h0 T10.heap [wa0_budget, wa0_changed, a0] := KC9.trans K10 (allS (Or.inl (List.mem_of_getElem? (i := 1) rfl)) all0)
  have O10 : Old Z n0 T10.heap := O9.keep K10 (allS g_wa0_changed all0)
  obtain ⟨kk_u10_4, u10_4, ov_u10_4⟩ := u10_4
  have y20 := (y18.keep K10)
  have ne19 : a0 ≠ wa0_changed := ne_exa y20 u10_0 (by decide)
  have y21 := ((((F_wa0_blindness.keep K3 (ninS ne4 nin0)).ext E8).keep K9 (ninS ne_a0_b8 nin0)).keep K10 (ninS ne19 nin0))
  obtain ⟨T22, X22, e22, st22⟩ := getF X10 hx hZ hown (host := "") (Or.inl (hw _ (List.mem_of_getElem? (i := 89) rfl))) Via.refl rfl y21 (g := (mkF m 38 #[.val (.ref a0)] [(.ref a0), (.ref a0)])) rfl rfl (hb hby d13_38)
  obtain ⟨T23, h23, X23, e23, W23, st23⟩ := putF X22 hx hZ hown (host := "") (Or.inl (hw _ (List.mem_of_getElem? (i := 89) rfl))) Via.refl e22 y21 y20 (Or.inl (hw _ (List.mem_of_getElem? (i := 90) rfl))) (hw _ (List.mem_of_getElem? (i := 16) rfl)) (ty := .int) (by decide) rfl rfl (g := (mkF m 43 #[.val (.ref a0)] [(.int (wa0_blindness + (1 : Int32))), (.ref a0)])) rfl rfl (hb hby d13_43)
  have Z23 : n0 ≤ h23.size := Nat.le_trans Z10 (Keep.of_wr W23).1
  have N23 := Fr.snoc X23 N10 g_a0
  have KC23 : Keep h0 h23 [wa0_budget, wa0_changed, a0] := KC10.wr W23 (Or.inl (List.mem_of_getElem? (i := 2) rfl))
  have O23 : Old Z n0 h23 := O10.wr W23 g_a0
  have Fw23 := y21.same W23
  have pre24 : ∀ t, Steps p.tables e below (T23.setTop (mkF m 46 #[.val (.ref a0)] [])) t → Steps p.tables e below (s₁.setTop (entryFrame m #[(.ref a0)] 1)) t := fun t k => pre0 t (by
    show Steps p.tables e below (s₁.setTop (mkF m 0 #[.val (.ref a0)] [])) _
    refine XS.aloadN X0.here hx rfl (hb hby d13_0) rfl rfl ?_
    show Steps p.tables e below (s₁.setTop (mkF m 1 #[.val (.ref a0)] [(.ref a0)])) _
    refine st1 _ ?_
    show Steps p.tables e below (T1.setTop (mkF m 4 #[.val (.ref a0)] [(.int (1 : Int32))])) _
    refine XS.ifNo X1.here hx rfl (hb hby d13_4) rfl ((if0 _ _).trans (tlt (by decide : (0 : Int32) < (1 : Int32))).2.2.2) ?_
    show Steps p.tables e below (T1.setTop (mkF m 7 #[.val (.ref a0)] [])) _
    refine XS.aloadN X1.here hx rfl (hb hby d13_7) rfl rfl ?_
    show Steps p.tables e below (T1.setTop (mkF m 8 #[.val (.ref a0)] [(.ref a0)])) _
    refine st2 _ ?_
    show Steps p.tables e below (T2.setTop (mkF m 11 #[.val (.ref a0)] [(.ref wa0_budget)])) _
    refine X2.ldc2Long hx hown (mvT hZ (hw _ (List.mem_of_getElem? (i := 114) rfl))) (g := (mkF m 11 #[.val (.ref a0)] [(.ref wa0_budget)])) rfl (hb hby d13_11) _ ?_
    show Steps p.tables e below (T2.setTop (mkF m 14 #[.val (.ref a0)] [(.long (56 : Int64)), (.ref wa0_budget)])) _
    refine st3.trans ?_
    show Steps p.tables e below (T3.setTop (mkF m 17 #[.val (.ref a0)] [])) _
    refine XS.aloadN X3.here hx rfl (hb hby d13_17) rfl rfl ?_
    show Steps p.tables e below (T3.setTop (mkF m 18 #[.val (.ref a0)] [(.ref a0)])) _
    refine st7 _ ?_
    show Steps p.tables e below (T7.setTop (mkF m 21 #[.val (.ref a0)] [(.ref wa0_changed)])) _
    refine st8 _ ?_
    show Steps p.tables e below (T8.setTop (mkF m 24 #[.val (.ref a0)] [(.ref b8), (.ref wa0_changed)])) _
    refine XS.dup X8.here hx rfl (hb hby d13_24) rfl rfl ?_
    show Steps p.tables e below (T8.setTop (mkF m 25 #[.val (.ref a0)] [(.ref b8), (.ref b8), (.ref wa0_changed)])) _
    refine XS.aconstNull X8.here hx rfl (hb hby d13_25) ?_
    show Steps p.tables e below (T8.setTop (mkF m 26 #[.val (.ref a0)] [.null, (.ref b8), (.ref b8), (.ref wa0_changed)])) _
    refine XS.aconstNull X8.here hx rfl (hb hby d13_26) ?_
    show Steps p.tables e below (T8.setTop (mkF m 27 #[.val (.ref a0)] [.null, .null, (.ref b8), (.ref b8), (.ref wa0_changed)])) _
    refine st9.trans ?_
    show Steps p.tables e below (T9.setTop (mkF m 30 #[.val (.ref a0)] [(.ref b8), (.ref wa0_changed)])) _
    refine st10.trans ?_
    show Steps p.tables e below (T10.setTop (mkF m 35 #[.val (.ref a0)] [(.int (1 : Int32))])) _
    refine XS.pop X10.here hx rfl (hb hby d13_35) rfl rfl ?_
    show Steps p.tables e below (T10.setTop (mkF m 36 #[.val (.ref a0)] [])) _
    refine XS.aloadN X10.here hx rfl (hb hby d13_36) rfl rfl ?_
    show Steps p.tables e below (T10.setTop (mkF m 37 #[.val (.ref a0)] [(.ref a0)])) _
    refine XS.dup X10.here hx rfl (hb hby d13_37) rfl rfl ?_
    show Steps p.tables e below (T10.setTop (mkF m 38 #[.val (.ref a0)] [(.ref a0), (.ref a0)])) _
    refine st22 _ ?_
    show Steps p.tables e below (T22.setTop (mkF m 41 #[.val (.ref a0)] [(.int wa0_blindness), (.ref a0)])) _
    refine XS.iconst X22.here hx rfl (hb hby d13_41) ?_
    show Steps p.tables e below (T22.setTop (mkF m 42 #[.val (.ref a0)] [(.int (1 : Int32)), (.int wa0_blindness), (.ref a0)])) _
    refine XS.iadd X22.here hx rfl (hb hby d13_42) rfl ?_
    show Steps p.tables e below (T22.setTop (mkF m 43 #[.val (.ref a0)] [(.int (wa0_blindness + (1 : Int32))), (.ref a0)])) _
    refine st23 _ ?_
    exact k)
  obtain ⟨fs, hr, hrun, hended, hW, hsame⟩ := X23.leave (v := none) (fun _ => rfl) hlk
  have y25 := ((y13.keep K10).wr W23)
  have y26 := ((((u3_1.ext E8).keep K9 (ninS ne_wa0_budget_b8 nin0)).keep K10 (ninS (Ne.symm ne11) nin0)).other W23 (Or.inl (Ne.symm ne4)))
  have y27 := ((((u3_2.ext E8).keep K9 (ninS ne_wa0_budget_b8 nin0)).keep K10 (ninS (Ne.symm ne11) nin0)).other W23 (Or.inl (Ne.symm ne4)))
  have y28 := (u10_0.wr W23)
  have y29 := (u10_1.other W23 (Or.inl (Ne.symm ne19)))
  have y30 := (u10_2.other W23 (Or.inl (Ne.symm ne19)))
  have y31 := (u10_3.other W23 (Or.inl (Ne.symm ne19)))
  have y32 := (y20.wr W23)
  have y33 := ((((y6.ext E8).keep K9 (ninS ne_a0_b8 nin0)).keep K10 (ninS ne19 nin0)).other W23 (Or.inr (slot_ne (Or.inr (hw _ (List.mem_of_getElem? (i := 78) rfl))) (Or.inl (hw _ (List.mem_of_getElem? (i := 90) rfl))) (by decide) (t := (.object "java/util/List")) (t' := .int) (by decide) (by decide))))
  have y34 := (((((F_wa0_budget.keep K3 (ninS ne4 nin0)).ext E8).keep K9 (ninS ne_a0_b8 nin0)).keep K10 (ninS ne19 nin0)).other W23 (Or.inr (slot_ne (Or.inr (hw _ (List.mem_of_getElem? (i := 80) rfl))) (Or.inl (hw _ (List.mem_of_getElem? (i := 90) rfl))) (by decide) (t := (.object "com/example/tenon/tenon/Budget")) (t' := .int) (by decide) (by decide))))
  have y35 := (((((F_wa0_below.keep K3 (ninS ne4 nin0)).ext E8).keep K9 (ninS ne_a0_b8 nin0)).keep K10 (ninS ne19 nin0)).other W23 (Or.inr (slot_ne (Or.inr (hw _ (List.mem_of_getElem? (i := 82) rfl))) (Or.inl (hw _ (List.mem_of_getElem? (i := 90) rfl))) (by decide) (t := (.object "com/example/tenon/tenon/Assignments")) (t' := .int) (by decide) (by decide))))
  have y36 := (((((F_wa0_marks.keep K3 (ninS ne4 nin0)).ext E8).keep K9 (ninS ne_a0_b8 nin0)).keep K10 (ninS ne19 nin0)).other W23 (Or.inr (slot_ne (Or.inl (hw _ (List.mem_of_getElem? (i := 97) rfl))) (Or.inl (hw _ (List.mem_of_getElem? (i := 90) rfl))) (by decide) (t := .int) (t' := .int) (by decide) (by decide))))
  have y37 := (u10_4.other W23 (Ne.symm ne_a0_b10_0))
  have y38 := ((u9_0.keep K10).wr W23)
  have y39 := ((u9_1.keep K10 (ninS (Ne.symm ne14) nin0)).other W23 (Or.inl (Ne.symm ne_a0_b8)))
  have y40 := ((u9_2.keep K10 (ninS (Ne.symm ne14) nin0)).other W23 (Or.inl (Ne.symm ne_a0_b8)))
  exact ⟨_, _, pre24 _ (X23.returnOut hx Bd.returns (hb hby d13_46) hr), hrun, hended, _, _, rfl, (by show Q13m Z a0 wa0_changed wa0_budget wa0_below wa0_blindness wwa0_budget_limit wwa0_budget_held wwa0_changed_modCount sD kS_sD h0 n0 _ T23.heap _; rw [e23]; exact ⟨b10_0, b8, rfl, N23, sz_b10_0, g_b10_0, sz_b8, g_b8, KC23, y25, y26, y27, y28, y29, y30, y31, y32, y33, y34, y35, Fw23, y36, ⟨_, y37, ov_u10_4⟩, y38, y39, y40⟩), ⟨_, rfl⟩, hW, hsame.mono (by decide) (by decide)⟩
def F14 (wa0_blindness : Int32) : Int32 := (0 : Int32)
theorem ef14 (m : MethodId) (x0 : Addr) : entryFrame m #[(.ref x0)] 1 = mkF m 0 #[.val (.ref x0)] [] := by first | (simp [entryFrame, mkF, argsToLocals, Value.category]; done) | rfl
def Q14 (Z : State) (a0 : Addr) (wa0_changed : Addr) (wa0_budget : Value) (wa0_below : Value) (wa0_blindness : Int32) (h0 : Heap) (n0 : Nat) (v : Option Value) (h : Heap) (L : List Loc) : Prop := v = some (.int (F14 wa0_blindness)) ∧ Fr n0 L ∧ Keep h0 h [a0] ∧ Exa Z h a0 "com/example/tenon/tenon/Assignments" ∧ Fld Z h a0 "com/example/tenon/tenon/Assignments" "changed" "Ljava/util/List;" (.ref wa0_changed) ∧ Fld Z h a0 "com/example/tenon/tenon/Assignments" "budget" "Lcom/example/tenon/tenon/Budget;" wa0_budget ∧ Fld Z h a0 "com/example/tenon/tenon/Assignments" "below" "Lcom/example/tenon/tenon/Assignments;" wa0_below ∧ Fld Z h a0 "com/example/tenon/tenon/Assignments" "blindness" "I" (.int wa0_blindness) ∧ Fld Z h a0 "com/example/tenon/tenon/Assignments" "marks" "I" (.int (1 : Int32))
set_option maxRecDepth 65536 in
set_option maxHeartbeats 40000000 in
theorem rm14 (l : Launch) (Z : State) (a0' : Array Value) (hw : ∀ d ∈ tables_1, d.before a0' Z = true) (ws : List Jvm.Cond) (a0 : Addr) (wa0_changed : Addr) (wa0_budget : Value) (wa0_below : Value) (wa0_blindness : Int32) (h0 : Heap) (n0 : Nat) (Z0 : n0 ≤ h0.size) (E_a0 : Exa Z h0 a0 "com/example/tenon/tenon/Assignments") (E_wa0_changed : Exa Z h0 wa0_changed "java/util/ArrayList") (F_wa0_changed : Fld Z h0 a0 "com/example/tenon/tenon/Assignments" "changed" "Ljava/util/List;" (.ref wa0_changed)) (F_wa0_budget : Fld Z h0 a0 "com/example/tenon/tenon/Assignments" "budget" "Lcom/example/tenon/tenon/Budget;" wa0_budget) (F_wa0_below : Fld Z h0 a0 "com/example/tenon/tenon/Assignments" "below" "Lcom/example/tenon/tenon/Assignments;" wa0_below) (F_wa0_blindness : Fld Z h0 a0 "com/example/tenon/tenon/Assignments" "blindness" "I" (.int wa0_blindness)) (F_wa0_marks : Fld Z h0 a0 "com/example/tenon/tenon/Assignments" "marks" "I" (.int (0 : Int32))) (F_wwa0_changed_size : Fld Z h0 wa0_changed "java/util/ArrayList" "size" "I" (.int (0 : Int32))) (g_a0 : n0 ≤ a0) :
    MetFree l (⟨"com/example/tenon/tenon/Assignments", "mark", "()I"⟩ : MethodName) (head1 (Jvm.Cond.code (⟨"com/example/tenon/tenon/Assignments", "mark", "()I"⟩ : MethodName) prog_4_method_5_code 1 (some .int) :: ws) ({ frames := 1, cells := 0, slots := 0, locals := 12 } : Room)) (fun a U => a = #[(.ref a0)] ∧ Z.Warmed39 U.vm ∧ U.heap = h0) (fun _ _ _ _ _ => True) (fun _ U o U' => ∃ v L, o = .returned v ∧ Q14 Z a0 wa0_changed wa0_budget wa0_below wa0_blindness h0 n0 v U'.heap L ∧ FrameEnd U o U' L ({ frames := 1, cells := 0, slots := 0, locals := 12 } : Room).cells ({ frames := 1, cells := 0, slots := 0, locals := 12 } : Room).slots) := by
  refine MetFree.of_bodySF (plainFor_of_name pn7) hisR ?_
  intro p e s m args below meth c s₁ Bd hml0 hP hK
  obtain ⟨rfl, hZ, hh⟩ := hP
  have hx := Bd.exec
  have hby := Bd.bytes
  have hml : c.maxLocals = 1 := hml0
  have hown' := findClass_of_methodNamed Bd.named
  have hown : s.vm.findClass "com/example/tenon/tenon/Assignments" = some m.cls := hown'
  have hnm := (name_of_methodNamed Bd.named Bd.method).1
  have X0 : Stand p l e ({ frames := 1, cells := 0, slots := 0, locals := 12 } : Room) s m #[(.ref a0)] below meth c s₁ [] 0 0 := Stand.of_body Bd
  have e0 : s₁.heap = h0 := by rw [← hh, Bd.state]; rfl
  have N0 := Fr.nil n0
  have hlk : meth.locks = false := by first | exact BodyLoose.notSynchronized Bd | exact Body.notSynchronized Bd
  have pre0 : ∀ t, Steps p.tables e below (s₁.setTop (mkF m 0 #[.val (.ref a0)] [])) t → Steps p.tables e below (s₁.setTop (entryFrame m #[(.ref a0)] 1)) t := fun t k => castTop (ef14 m a0) k
  obtain ⟨T1, X1, e1, st1⟩ := getF X0 hx hZ hown (host := "") (Or.inl (hw _ (List.mem_of_getElem? (i := 96) rfl))) Via.refl e0 F_wa0_marks (g := (mkF m 2 #[.val (.ref a0)] [(.ref a0), (.ref a0)])) rfl rfl (hb hby d14_2)
  obtain ⟨T2, h2, X2, e2, W2, st2⟩ := putF X1 hx hZ hown (host := "") (Or.inl (hw _ (List.mem_of_getElem? (i := 96) rfl))) Via.refl e1 F_wa0_marks E_a0 (Or.inl (hw _ (List.mem_of_getElem? (i := 97) rfl))) (hw _ (List.mem_of_getElem? (i := 16) rfl)) (ty := .int) (by decide) rfl rfl (g := (mkF m 7 #[.val (.ref a0)] [(.int (1 : Int32)), (.ref a0)])) rfl rfl (hb hby d14_7)
  have Z2 : n0 ≤ h2.size := Nat.le_trans Z0 (Keep.of_wr W2).1
  have N2 := Fr.snoc X2 N0 g_a0
  have KC2 : Keep h0 h2 [a0] := (Keep.refl h0 [a0]).wr W2 (Or.inl (List.mem_of_getElem? (i := 0) rfl))
  have Fw2 := F_wa0_marks.same W2
  have y3 := (F_wa0_changed.other W2 (Or.inr (slot_ne (Or.inr (hw _ (List.mem_of_getElem? (i := 78) rfl))) (Or.inl (hw _ (List.mem_of_getElem? (i := 97) rfl))) (by decide) (t := (.object "java/util/List")) (t' := .int) (by decide) (by decide))))
  obtain ⟨T4, X4, e4, st4⟩ := getF X2 hx hZ hown (host := "") (Or.inl (hw _ (List.mem_of_getElem? (i := 77) rfl))) Via.refl e2 y3 (g := (mkF m 11 #[.val (.ref a0)] [(.ref a0)])) rfl rfl (hb hby d14_11)
  have y7 := (E_wa0_changed.wr W2)
  have y8 := (E_a0.wr W2)
  have ne6 : wa0_changed ≠ a0 := ne_exa y7 y8 (by decide)
  have y9 := (F_wwa0_changed_size.other W2 (Or.inl ne6))
  obtain ⟨cq5, kq5, q5a, q5b, q5c⟩ := isOf hZ e4 y7
  obtain ⟨_, _, ⟨T5, L5, k5, n5⟩, -, X5, ⟨Lc5, hQ5, l5, y5, z5⟩, st5⟩ := X4.interfaceBack hx (xi := (⟨"java/util/List", "size", "()I"⟩ : MethodName)) (y := (⟨"java/util/ArrayList", "size", "()I"⟩ : MethodName)) hown (mvT hZ (hw _ (List.mem_of_getElem? (i := 103) rfl))) (mvT hZ (hw _ (List.mem_of_getElem? (i := 104) rfl))) (mvT hZ (hw _ (List.mem_of_getElem? (i := 105) rfl))) (mvT hZ (hw _ (List.mem_of_getElem? (i := 106) rfl))) (mvT hZ (hw _ (List.mem_of_getElem? (i := 107) rfl))) (mvT hZ (hw _ (List.mem_of_getElem? (i := 108) rfl))) (mvT hZ (hw _ (List.mem_of_getElem? (i := 109) rfl))) (mvT hZ (hw _ (List.mem_of_getElem? (i := 110) rfl))) (by decide) (backOf (W := 0) (rm15 l Z a0' hw [] wa0_changed (0 : Int32) h2 n0 Z2 y9) hZ (hw _ (List.mem_of_getElem? (i := 111) rfl)) (hw _ (List.mem_of_getElem? (i := 55) rfl)) (by decide) (by decide)) q5a q5b q5c (g := (mkF m 14 #[.val (.ref a0)] [(.ref wa0_changed)])) rfl (by rw [hml]; rfl) (Steps.refl _) (argsL := []) (rest := []) (lenOf pd10 rfl) rfl (by show 2 * 0 + _ ≤ _; exact Nat.le_of_eq rfl) (hb hby d14_14) (fun _ _ => ⟨rfl, e4, (by decide : 0 + 0 ≤ _), (by decide : 0 + 0 ≤ _)⟩)
  dsimp only [Pt.U, Pt.locs, Pt.cells, Pt.slots] at X5 l5 y5 z5 st5 hQ5
  subst l5 y5 z5
  obtain ⟨rfl, N5q, e5⟩ := hQ5
  have N5 := Fr.app N2 N5q
  have pre10 : ∀ t, Steps p.tables e below (T5.setTop (mkF m 19 #[.val (.ref a0)] [(.int (0 : Int32))])) t → Steps p.tables e below (s₁.setTop (entryFrame m #[(.ref a0)] 1)) t := fun t k => pre0 t (by
    show Steps p.tables e below (s₁.setTop (mkF m 0 #[.val (.ref a0)] [])) _
    refine XS.aloadN X0.here hx rfl (hb hby d14_0) rfl rfl ?_
    show Steps p.tables e below (s₁.setTop (mkF m 1 #[.val (.ref a0)] [(.ref a0)])) _
    refine XS.dup X0.here hx rfl (hb hby d14_1) rfl rfl ?_
    show Steps p.tables e below (s₁.setTop (mkF m 2 #[.val (.ref a0)] [(.ref a0), (.ref a0)])) _
    refine st1 _ ?_
    show Steps p.tables e below (T1.setTop (mkF m 5 #[.val (.ref a0)] [(.int (0 : Int32)), (.ref a0)])) _
    refine XS.iconst X1.here hx rfl (hb hby d14_5) ?_
    show Steps p.tables e below (T1.setTop (mkF m 6 #[.val (.ref a0)] [(.int (1 : Int32)), (.int (0 : Int32)), (.ref a0)])) _
    refine XS.iadd X1.here hx rfl (hb hby d14_6) rfl ?_
    show Steps p.tables e below (T1.setTop (mkF m 7 #[.val (.ref a0)] [(.int (1 : Int32)), (.ref a0)])) _
    refine st2 _ ?_
    show Steps p.tables e below (T2.setTop (mkF m 10 #[.val (.ref a0)] [])) _
    refine XS.aloadN X2.here hx rfl (hb hby d14_10) rfl rfl ?_
    show Steps p.tables e below (T2.setTop (mkF m 11 #[.val (.ref a0)] [(.ref a0)])) _
    refine st4 _ ?_
    show Steps p.tables e below (T4.setTop (mkF m 14 #[.val (.ref a0)] [(.ref wa0_changed)])) _
    refine st5.trans ?_
    exact k)
  obtain ⟨fs, hr, hrun, hended, hW, hsame⟩ := X5.leave (v := some (.int (0 : Int32))) (fun h => by rw [Bd.returns] at h; cases h) hlk
  have hF : (F14 wa0_blindness) = (0 : Int32) := by rfl
  have y11 := (F_wa0_budget.other W2 (Or.inr (slot_ne (Or.inr (hw _ (List.mem_of_getElem? (i := 80) rfl))) (Or.inl (hw _ (List.mem_of_getElem? (i := 97) rfl))) (by decide) (t := (.object "com/example/tenon/tenon/Budget")) (t' := .int) (by decide) (by decide))))
  have y12 := (F_wa0_below.other W2 (Or.inr (slot_ne (Or.inr (hw _ (List.mem_of_getElem? (i := 82) rfl))) (Or.inl (hw _ (List.mem_of_getElem? (i := 97) rfl))) (by decide) (t := (.object "com/example/tenon/tenon/Assignments")) (t' := .int) (by decide) (by decide))))
  have y13 := (F_wa0_blindness.other W2 (Or.inr (slot_ne (Or.inl (hw _ (List.mem_of_getElem? (i := 90) rfl))) (Or.inl (hw _ (List.mem_of_getElem? (i := 97) rfl))) (by decide) (t := .int) (t' := .int) (by decide) (by decide))))
  exact ⟨_, _, pre10 _ (retI X5 hx Bd.returns (hb hby d14_19) hr), hrun, hended, _, _, rfl, (by show Q14 Z a0 wa0_changed wa0_budget wa0_below wa0_blindness h0 n0 _ T5.heap _; rw [e5]; exact ⟨by rw [hF], N5, KC2, y8, y3, y11, y12, y13, Fw2⟩), ⟨_, rfl⟩, hW, hsame.mono (by decide) (by decide)⟩
def F29  : Int32 := (0 : Int32)
theorem ef29 (m : MethodId)  : entryFrame m #[(.int (0 : Int32)), (.int (1 : Int32)), .null] 3 = mkF m 0 #[.val (.int (0 : Int32)), .val (.int (1 : Int32)), .val .null] [] := by first | (simp [entryFrame, mkF, argsToLocals, Value.category]; done) | rfl
def Q29 (Z : State)  (h0 : Heap) (n0 : Nat) (v : Option Value) (h : Heap) (L : List Loc) : Prop := v = some (.int F29) ∧ Fr n0 L ∧ h = h0
set_option maxRecDepth 65536 in
set_option maxHeartbeats 40000000 in
theorem rm29 (l : Launch) (Z : State) (a0' : Array Value) (hw : ∀ d ∈ tables_1, d.before a0' Z = true) (ws : List Jvm.Cond)  (h0 : Heap) (n0 : Nat) (Z0 : n0 ≤ h0.size) :
    MetFree l (⟨"jdk/internal/util/Preconditions", "checkIndex", "(IILjava/util/function/BiFunction;)I"⟩ : MethodName) (head1 (Jvm.Cond.code (⟨"jdk/internal/util/Preconditions", "checkIndex", "(IILjava/util/function/BiFunction;)I"⟩ : MethodName) jdk_41_method_11_code 3 (some .int) :: ws) ({ frames := 0, cells := 0, slots := 0, locals := 0 } : Room)) (fun a U => a = #[(.int (0 : Int32)), (.int (1 : Int32)), .null] ∧ Z.Warmed39 U.vm ∧ U.heap = h0) (fun _ _ _ _ _ => True) (fun _ U o U' => ∃ v L, o = .returned v ∧ Q29 Z  h0 n0 v U'.heap L ∧ FrameEnd U o U' L ({ frames := 0, cells := 0, slots := 0, locals := 0 } : Room).cells ({ frames := 0, cells := 0, slots := 0, locals := 0 } : Room).slots) := by
  refine MetFree.of_bodySF (plainFor_of_name pn10) hisR ?_
  intro p e s m args below meth c s₁ Bd hml0 hP hK
  obtain ⟨rfl, hZ, hh⟩ := hP
  have hx := Bd.exec
  have hby := Bd.bytes
  have hml : c.maxLocals = 3 := hml0
  have hown' := findClass_of_methodNamed Bd.named
  have hown : s.vm.findClass "jdk/internal/util/Preconditions" = some m.cls := hown'
  have hnm := (name_of_methodNamed Bd.named Bd.method).1
  have X0 : Stand p l e ({ frames := 0, cells := 0, slots := 0, locals := 0 } : Room) s m #[(.int (0 : Int32)), (.int (1 : Int32)), .null] below meth c s₁ [] 0 0 := Stand.of_body Bd
  have e0 : s₁.heap = h0 := by rw [← hh, Bd.state]; rfl
  have N0 := Fr.nil n0
  have hlk : meth.locks = false := by first | exact BodyLoose.notSynchronized Bd | exact Body.notSynchronized Bd
  have pre0 : ∀ t, Steps p.tables e below (s₁.setTop (mkF m 0 #[.val (.int (0 : Int32)), .val (.int (1 : Int32)), .val .null] [])) t → Steps p.tables e below (s₁.setTop (entryFrame m #[(.int (0 : Int32)), (.int (1 : Int32)), .null] 3)) t := fun t k => castTop (ef29 m ) k
  have pre1 : ∀ t, Steps p.tables e below (s₁.setTop (mkF m 17 #[.val (.int (0 : Int32)), .val (.int (1 : Int32)), .val .null] [(.int (0 : Int32))])) t → Steps p.tables e below (s₁.setTop (entryFrame m #[(.int (0 : Int32)), (.int (1 : Int32)), .null] 3)) t := fun t k => pre0 t (by
    show Steps p.tables e below (s₁.setTop (mkF m 0 #[.val (.int (0 : Int32)), .val (.int (1 : Int32)), .val .null] [])) _
    refine XS.iloadN X0.here hx rfl (hb hby d29_0) rfl ?_
    show Steps p.tables e below (s₁.setTop (mkF m 1 #[.val (.int (0 : Int32)), .val (.int (1 : Int32)), .val .null] [(.int (0 : Int32))])) _
    refine XS.ifNo X0.here hx rfl (hb hby d29_1) rfl ((if0 _ _).trans (flt (by decide : ¬ ((0 : Int32) < (0 : Int32)))).1) ?_
    show Steps p.tables e below (s₁.setTop (mkF m 4 #[.val (.int (0 : Int32)), .val (.int (1 : Int32)), .val .null] [])) _
    refine XS.iloadN X0.here hx rfl (hb hby d29_4) rfl ?_
    show Steps p.tables e below (s₁.setTop (mkF m 5 #[.val (.int (0 : Int32)), .val (.int (1 : Int32)), .val .null] [(.int (0 : Int32))])) _
    refine XS.iloadN X0.here hx rfl (hb hby d29_5) rfl ?_
    show Steps p.tables e below (s₁.setTop (mkF m 6 #[.val (.int (0 : Int32)), .val (.int (1 : Int32)), .val .null] [(.int (1 : Int32)), (.int (0 : Int32))])) _
    refine XS.icmpYes X0.here hx rfl (pc0 := 6) (pc' := 16) rfl (hb hby d29_6) rfl (tlt (by decide : (0 : Int32) < (1 : Int32))).1 (by decide) (by decide) ?_
    show Steps p.tables e below (s₁.setTop (mkF m 16 #[.val (.int (0 : Int32)), .val (.int (1 : Int32)), .val .null] [])) _
    refine XS.iloadN X0.here hx rfl (hb hby d29_16) rfl ?_
    exact k)
  obtain ⟨fs, hr, hrun, hended, hW, hsame⟩ := X0.leave (v := some (.int (0 : Int32))) (fun h => by rw [Bd.returns] at h; cases h) hlk
  have hF : F29 = (0 : Int32) := by rfl
  exact ⟨_, _, pre1 _ (retI X0 hx Bd.returns (hb hby d29_17) hr), hrun, hended, _, _, rfl, ⟨by rw [hF], N0, e0⟩, ⟨_, rfl⟩, hW, hsame.mono (by decide) (by decide)⟩
def F28  : Int32 := (0 : Int32)
theorem ef28 (m : MethodId)  : entryFrame m #[(.int (0 : Int32)), (.int (1 : Int32))] 2 = mkF m 0 #[.val (.int (0 : Int32)), .val (.int (1 : Int32))] [] := by first | (simp [entryFrame, mkF, argsToLocals, Value.category]; done) | rfl
def Q28 (Z : State)  (h0 : Heap) (n0 : Nat) (v : Option Value) (h : Heap) (L : List Loc) : Prop := v = some (.int F28) ∧ Fr n0 L ∧ h = h0
set_option maxRecDepth 65536 in
set_option maxHeartbeats 40000000 in
theorem rm28 (l : Launch) (Z : State) (a0' : Array Value) (hw : ∀ d ∈ tables_1, d.before a0' Z = true) (ws : List Jvm.Cond)  (h0 : Heap) (n0 : Nat) (Z0 : n0 ≤ h0.size) :
    MetFree l (⟨"java/util/Objects", "checkIndex", "(II)I"⟩ : MethodName) (head1 (Jvm.Cond.code (⟨"java/util/Objects", "checkIndex", "(II)I"⟩ : MethodName) jdk_31_method_17_code 2 (some .int) :: ws) ({ frames := 1, cells := 0, slots := 0, locals := 14 } : Room)) (fun a U => a = #[(.int (0 : Int32)), (.int (1 : Int32))] ∧ Z.Warmed39 U.vm ∧ U.heap = h0) (fun _ _ _ _ _ => True) (fun _ U o U' => ∃ v L, o = .returned v ∧ Q28 Z  h0 n0 v U'.heap L ∧ FrameEnd U o U' L ({ frames := 1, cells := 0, slots := 0, locals := 14 } : Room).cells ({ frames := 1, cells := 0, slots := 0, locals := 14 } : Room).slots) := by
  refine MetFree.of_bodySF (plainFor_of_name pn11) hisR ?_
  intro p e s m args below meth c s₁ Bd hml0 hP hK
  obtain ⟨rfl, hZ, hh⟩ := hP
  have hx := Bd.exec
  have hby := Bd.bytes
  have hml : c.maxLocals = 2 := hml0
  have hown' := findClass_of_methodNamed Bd.named
  have hown : s.vm.findClass "java/util/Objects" = some m.cls := hown'
  have hnm := (name_of_methodNamed Bd.named Bd.method).1
  have X0 : Stand p l e ({ frames := 1, cells := 0, slots := 0, locals := 14 } : Room) s m #[(.int (0 : Int32)), (.int (1 : Int32))] below meth c s₁ [] 0 0 := Stand.of_body Bd
  have e0 : s₁.heap = h0 := by rw [← hh, Bd.state]; rfl
  have N0 := Fr.nil n0
  have hlk : meth.locks = false := by first | exact BodyLoose.notSynchronized Bd | exact Body.notSynchronized Bd
  have pre0 : ∀ t, Steps p.tables e below (s₁.setTop (mkF m 0 #[.val (.int (0 : Int32)), .val (.int (1 : Int32))] [])) t → Steps p.tables e below (s₁.setTop (entryFrame m #[(.int (0 : Int32)), (.int (1 : Int32))] 2)) t := fun t k => castTop (ef28 m ) k
  obtain ⟨_, _, ⟨T1, L1, k1, n1⟩, -, X1, ⟨Lc1, hQ1, l1, y1, z1⟩, st1⟩ := Jvm.LawKit.callS X0 hx (y := (⟨"jdk/internal/util/Preconditions", "checkIndex", "(IILjava/util/function/BiFunction;)I"⟩ : MethodName)) hown (mvT hZ (hw _ (List.mem_of_getElem? (i := 196) rfl))) (mvT hZ (hw _ (List.mem_of_getElem? (i := 197) rfl))) (mvT hZ (hw _ (List.mem_of_getElem? (i := 198) rfl))) (mvT hZ (hw _ (List.mem_of_getElem? (i := 199) rfl))) (by decide) (backOf (W := 0) (rm29 l Z a0' hw []  h0 n0 Z0) hZ (hw _ (List.mem_of_getElem? (i := 199) rfl)) (hw _ (List.mem_of_getElem? (i := 198) rfl)) (by decide) (by decide)) (g := (mkF m 3 #[.val (.int (0 : Int32)), .val (.int (1 : Int32))] [.null, (.int (1 : Int32)), (.int (0 : Int32))])) rfl (by rw [hml]; rfl) (argsL := [(.int (0 : Int32)), (.int (1 : Int32)), .null]) (rest := []) (lenOf pd11 rfl) rfl (by show 2 * 0 + _ ≤ _; exact Nat.le_of_eq rfl) (hb hby d28_3) (fun _ _ => ⟨rfl, e0, (by decide : 0 + 0 ≤ _), (by decide : 0 + 0 ≤ _)⟩)
  dsimp only [Pt.U, Pt.locs, Pt.cells, Pt.slots] at X1 l1 y1 z1 st1 hQ1
  subst l1 y1 z1
  obtain ⟨rfl, N1q, e1⟩ := hQ1
  have N1 := Fr.app N0 N1q
  have pre2 : ∀ t, Steps p.tables e below (T1.setTop (mkF m 6 #[.val (.int (0 : Int32)), .val (.int (1 : Int32))] [(.int (0 : Int32))])) t → Steps p.tables e below (s₁.setTop (entryFrame m #[(.int (0 : Int32)), (.int (1 : Int32))] 2)) t := fun t k => pre0 t (by
    show Steps p.tables e below (s₁.setTop (mkF m 0 #[.val (.int (0 : Int32)), .val (.int (1 : Int32))] [])) _
    refine XS.iloadN X0.here hx rfl (hb hby d28_0) rfl ?_
    show Steps p.tables e below (s₁.setTop (mkF m 1 #[.val (.int (0 : Int32)), .val (.int (1 : Int32))] [(.int (0 : Int32))])) _
    refine XS.iloadN X0.here hx rfl (hb hby d28_1) rfl ?_
    show Steps p.tables e below (s₁.setTop (mkF m 2 #[.val (.int (0 : Int32)), .val (.int (1 : Int32))] [(.int (1 : Int32)), (.int (0 : Int32))])) _
    refine XS.aconstNull X0.here hx rfl (hb hby d28_2) ?_
    show Steps p.tables e below (s₁.setTop (mkF m 3 #[.val (.int (0 : Int32)), .val (.int (1 : Int32))] [.null, (.int (1 : Int32)), (.int (0 : Int32))])) _
    refine st1 _ ?_
    exact k)
  obtain ⟨fs, hr, hrun, hended, hW, hsame⟩ := X1.leave (v := some (.int (0 : Int32))) (fun h => by rw [Bd.returns] at h; cases h) hlk
  have hF : F28 = (0 : Int32) := by rfl
  exact ⟨_, _, pre2 _ (retI X1 hx Bd.returns (hb hby d28_6) hr), hrun, hended, _, _, rfl, ⟨by rw [hF], N1, e1⟩, ⟨_, rfl⟩, hW, hsame.mono (by decide) (by decide)⟩
theorem ef30 (m : MethodId) (x0 : Addr) (x1 : Addr) : entryFrame m #[(.ref x0), (.ref x1), (.int (0 : Int32))] 4 = mkF m 0 #[.val (.ref x0), .val (.ref x1), .val (.int (0 : Int32)), .unset] [] := by first | (simp [entryFrame, mkF, argsToLocals, Value.category]; done) | rfl
def Q30 (Z : State) (a0 : Addr) (a1 : Addr) (wa0_modCount : Int32) (wa0_elementData : Value) (k_a1 : ClassId) (el0 : Addr) (h0 : Heap) (n0 : Nat) (v : Option Value) (h : Heap) (L : List Loc) : Prop := v = none ∧ Fr n0 L ∧ Keep h0 h [a0, a1] ∧ Exa Z h a0 "java/util/ArrayList" ∧ Fld Z h a0 "java/util/AbstractList" "modCount" "I" (.int (wa0_modCount + (1 : Int32))) ∧ Fld Z h a0 "java/util/ArrayList" "elementData" "[Ljava/lang/Object;" wa0_elementData ∧ Fld Z h a0 "java/util/ArrayList" "size" "I" (.int (0 : Int32)) ∧ (∃ kk : ClassId, Arv Z h a1 kk (.object "java/lang/Object") (10 : Int32) [.null, .null, .null, .null, .null, .null, .null, .null, .null, .null] .null)
set_option maxRecDepth 65536 in
set_option maxHeartbeats 40000000 in
theorem rm30 (l : Launch) (Z : State) (a0' : Array Value) (hw : ∀ d ∈ tables_1, d.before a0' Z = true) (ws : List Jvm.Cond) (a0 : Addr) (a1 : Addr) (wa0_modCount : Int32) (wa0_elementData : Value) (k_a1 : ClassId) (el0 : Addr) (h0 : Heap) (n0 : Nat) (Z0 : n0 ≤ h0.size) (E_a0 : Exa Z h0 a0 "java/util/ArrayList") (V_a1 : Arv Z h0 a1 k_a1 (.object "java/lang/Object") (10 : Int32) [(.ref el0), .null, .null, .null, .null, .null, .null, .null, .null, .null] .null) (F_wa0_modCount : Fld Z h0 a0 "java/util/AbstractList" "modCount" "I" (.int wa0_modCount)) (F_wa0_elementData : Fld Z h0 a0 "java/util/ArrayList" "elementData" "[Ljava/lang/Object;" wa0_elementData) (F_wa0_size : Fld Z h0 a0 "java/util/ArrayList" "size" "I" (.int (1 : Int32))) (g_a0 : n0 ≤ a0) (g_a1 : n0 ≤ a1) :
    MetFree l (⟨"java/util/ArrayList", "fastRemove", "([Ljava/lang/Object;I)V"⟩ : MethodName) (head1 (Jvm.Cond.code (⟨"java/util/ArrayList", "fastRemove", "([Ljava/lang/Object;I)V"⟩ : MethodName) jdk_38_method_39_code 4 none :: ws) ({ frames := 0, cells := 0, slots := 0, locals := 0 } : Room)) (fun a U => a = #[(.ref a0), (.ref a1), (.int (0 : Int32))] ∧ Z.Warmed39 U.vm ∧ U.heap = h0) (fun _ _ _ _ _ => True) (fun _ U o U' => ∃ v L, o = .returned v ∧ Q30 Z a0 a1 wa0_modCount wa0_elementData k_a1 el0 h0 n0 v U'.heap L ∧ FrameEnd U o U' L ({ frames := 0, cells := 0, slots := 0, locals := 0 } : Room).cells ({ frames := 0, cells := 0, slots := 0, locals := 0 } : Room).slots) := by
  refine MetFree.of_bodySF (plainFor_of_name pn5) hisR ?_
  intro p e s m args below meth c s₁ Bd hml0 hP hK
  obtain ⟨rfl, hZ, hh⟩ := hP
  have hx := Bd.exec
  have hby := Bd.bytes
  have hml : c.maxLocals = 4 := hml0
  have hown' := findClass_of_methodNamed Bd.named
  have hown : s.vm.findClass "java/util/ArrayList" = some m.cls := hown'
  have hnm := (name_of_methodNamed Bd.named Bd.method).1
  have X0 : Stand p l e ({ frames := 0, cells := 0, slots := 0, locals := 0 } : Room) s m #[(.ref a0), (.ref a1), (.int (0 : Int32))] below meth c s₁ [] 0 0 := Stand.of_body Bd
  have e0 : s₁.heap = h0 := by rw [← hh, Bd.state]; rfl
  have N0 := Fr.nil n0
  have hlk : meth.locks = false := by first | exact BodyLoose.notSynchronized Bd | exact Body.notSynchronized Bd
  have pre0 : ∀ t, Steps p.tables e below (s₁.setTop (mkF m 0 #[.val (.ref a0), .val (.ref a1), .val (.int (0 : Int32)), .unset] [])) t → Steps p.tables e below (s₁.setTop (entryFrame m #[(.ref a0), (.ref a1), (.int (0 : Int32))] 4)) t := fun t k => castTop (ef30 m a0 a1) k
  obtain ⟨T1, X1, e1, st1⟩ := getF X0 hx hZ hown (host := "") (Or.inl (hw _ (List.mem_of_getElem? (i := 151) rfl))) (Via.of (hw _ (List.mem_of_getElem? (i := 152) rfl))) e0 F_wa0_modCount (g := (mkF m 2 #[.val (.ref a0), .val (.ref a1), .val (.int (0 : Int32)), .unset] [(.ref a0), (.ref a0)])) rfl rfl (hb hby d30_2)
  obtain ⟨T2, h2, X2, e2, W2, st2⟩ := putF X1 hx hZ hown (host := "") (Or.inl (hw _ (List.mem_of_getElem? (i := 151) rfl))) (Via.of (hw _ (List.mem_of_getElem? (i := 152) rfl))) e1 F_wa0_modCount E_a0 (Or.inl (hw _ (List.mem_of_getElem? (i := 73) rfl))) (hw _ (List.mem_of_getElem? (i := 54) rfl)) (ty := .int) (by decide) rfl rfl (g := (mkF m 7 #[.val (.ref a0), .val (.ref a1), .val (.int (0 : Int32)), .unset] [(.int (wa0_modCount + (1 : Int32))), (.ref a0)])) rfl rfl (hb hby d30_7)
  have Z2 : n0 ≤ h2.size := Nat.le_trans Z0 (Keep.of_wr W2).1
  have N2 := Fr.snoc X2 N0 g_a0
  have KC2 : Keep h0 h2 [a0, a1] := (Keep.refl h0 [a0, a1]).wr W2 (Or.inl (List.mem_of_getElem? (i := 0) rfl))
  have Fw2 := F_wa0_modCount.same W2
  have y3 := (F_wa0_size.other W2 (Or.inr (slot_ne (Or.inl (hw _ (List.mem_of_getElem? (i := 113) rfl))) (Or.inl (hw _ (List.mem_of_getElem? (i := 73) rfl))) (by decide) (t := .int) (t' := .int) (by decide) (by decide))))
  obtain ⟨T4, X4, e4, st4⟩ := getF X2 hx hZ hown (host := "") (Or.inl (hw _ (List.mem_of_getElem? (i := 112) rfl))) Via.refl e2 y3 (g := (mkF m 11 #[.val (.ref a0), .val (.ref a1), .val (.int (0 : Int32)), .unset] [(.ref a0)])) rfl rfl (hb hby d30_11)
  have y5 := (E_a0.wr W2)
  obtain ⟨T6, h6, X6, e6, W6, st6⟩ := putF X4 hx hZ hown (host := "") (Or.inl (hw _ (List.mem_of_getElem? (i := 112) rfl))) Via.refl e4 y3 y5 (Or.inl (hw _ (List.mem_of_getElem? (i := 113) rfl))) (hw _ (List.mem_of_getElem? (i := 54) rfl)) (ty := .int) (by decide) rfl rfl (g := (mkF m 38 #[.val (.ref a0), .val (.ref a1), .val (.int (0 : Int32)), .val (.int (0 : Int32))] [(.int (0 : Int32)), (.ref a0), (.int (0 : Int32)), (.ref a1)])) rfl rfl (hb hby d30_38)
  have Z6 : n0 ≤ h6.size := Nat.le_trans Z2 (Keep.of_wr W6).1
  have N6 := Fr.snoc X6 N2 g_a0
  have KC6 : Keep h0 h6 [a0, a1] := KC2.wr W6 (Or.inl (List.mem_of_getElem? (i := 0) rfl))
  have Fw6 := y3.same W6
  have ne7 : a1 ≠ a0 := Ne.symm (Exa.neArv E_a0 V_a1 (hw _ (List.mem_of_getElem? (i := 54) rfl)))
  have y8 := ((V_a1.other W2 ne7).other W6 ne7)
  obtain ⟨cl9, Ar9, q9, S9, M9, H9, G9⟩ := id y8
  have hin9 : ¬ ((0 : Int32) < 0 ∨ cl9.slots.size ≤ ((0 : Int32)).toNatClampNeg) := inb_of S9 ⟨by decide, by decide⟩
  obtain ⟨T10, h10, X10, e10, W10, st10⟩ := stR X6 hx hZ e6 Ar9 (j := (0 : Int32)) hin9 rfl (Or.inl rfl) (g := (mkF m 42 #[.val (.ref a0), .val (.ref a1), .val (.int (0 : Int32)), .val (.int (0 : Int32))] [.null, (.int (0 : Int32)), (.ref a1)])) rfl rfl (hb hby d30_42)
  have Z10 : n0 ≤ h10.size := Nat.le_trans Z6 (Keep.of_wr W10).1
  have N10 := Fr.snoc X10 N6 g_a1
  have KC10 : Keep h0 h10 [a0, a1] := KC6.wr W10 (Or.inl (List.mem_of_getElem? (i := 1) rfl))
  have V10 : Arv Z h10 a1 k_a1 (.object "java/lang/Object") (10 : Int32) [.null, .null, .null, .null, .null, .null, .null, .null, .null, .null] .null := Arv.set Ar9 q9 S9 M9 H9 G9 rfl W10 0 rfl (Nat.le_of_ble_eq_true rfl)
  have pre11 : ∀ t, Steps p.tables e below (T10.setTop (mkF m 43 #[.val (.ref a0), .val (.ref a1), .val (.int (0 : Int32)), .val (.int (0 : Int32))] [])) t → Steps p.tables e below (s₁.setTop (entryFrame m #[(.ref a0), (.ref a1), (.int (0 : Int32))] 4)) t := fun t k => pre0 t (by
    show Steps p.tables e below (s₁.setTop (mkF m 0 #[.val (.ref a0), .val (.ref a1), .val (.int (0 : Int32)), .unset] [])) _
    refine XS.aloadN X0.here hx rfl (hb hby d30_0) rfl rfl ?_
    show Steps p.tables e below (s₁.setTop (mkF m 1 #[.val (.ref a0), .val (.ref a1), .val (.int (0 : Int32)), .unset] [(.ref a0)])) _
    refine XS.dup X0.here hx rfl (hb hby d30_1) rfl rfl ?_
    show Steps p.tables e below (s₁.setTop (mkF m 2 #[.val (.ref a0), .val (.ref a1), .val (.int (0 : Int32)), .unset] [(.ref a0), (.ref a0)])) _
    refine st1 _ ?_
    show Steps p.tables e below (T1.setTop (mkF m 5 #[.val (.ref a0), .val (.ref a1), .val (.int (0 : Int32)), .unset] [(.int wa0_modCount), (.ref a0)])) _
    refine XS.iconst X1.here hx rfl (hb hby d30_5) ?_
    show Steps p.tables e below (T1.setTop (mkF m 6 #[.val (.ref a0), .val (.ref a1), .val (.int (0 : Int32)), .unset] [(.int (1 : Int32)), (.int wa0_modCount), (.ref a0)])) _
    refine XS.iadd X1.here hx rfl (hb hby d30_6) rfl ?_
    show Steps p.tables e below (T1.setTop (mkF m 7 #[.val (.ref a0), .val (.ref a1), .val (.int (0 : Int32)), .unset] [(.int (wa0_modCount + (1 : Int32))), (.ref a0)])) _
    refine st2 _ ?_
    show Steps p.tables e below (T2.setTop (mkF m 10 #[.val (.ref a0), .val (.ref a1), .val (.int (0 : Int32)), .unset] [])) _
    refine XS.aloadN X2.here hx rfl (hb hby d30_10) rfl rfl ?_
    show Steps p.tables e below (T2.setTop (mkF m 11 #[.val (.ref a0), .val (.ref a1), .val (.int (0 : Int32)), .unset] [(.ref a0)])) _
    refine st4 _ ?_
    show Steps p.tables e below (T4.setTop (mkF m 14 #[.val (.ref a0), .val (.ref a1), .val (.int (0 : Int32)), .unset] [(.int (1 : Int32))])) _
    refine XS.iconst X4.here hx rfl (hb hby d30_14) ?_
    show Steps p.tables e below (T4.setTop (mkF m 15 #[.val (.ref a0), .val (.ref a1), .val (.int (0 : Int32)), .unset] [(.int (1 : Int32)), (.int (1 : Int32))])) _
    refine XS.isub X4.here hx rfl (hb hby d30_15) rfl ?_
    show Steps p.tables e below (T4.setTop (mkF m 16 #[.val (.ref a0), .val (.ref a1), .val (.int (0 : Int32)), .unset] [(.int (0 : Int32))])) _
    refine XS.dup X4.here hx rfl (hb hby d30_16) rfl rfl ?_
    show Steps p.tables e below (T4.setTop (mkF m 17 #[.val (.ref a0), .val (.ref a1), .val (.int (0 : Int32)), .unset] [(.int (0 : Int32)), (.int (0 : Int32))])) _
    refine XS.istoreN X4.here hx rfl (hb hby d30_17) rfl (l' := #[.val (.ref a0), .val (.ref a1), .val (.int (0 : Int32)), .val (.int (0 : Int32))]) rfl ?_
    show Steps p.tables e below (T4.setTop (mkF m 18 #[.val (.ref a0), .val (.ref a1), .val (.int (0 : Int32)), .val (.int (0 : Int32))] [(.int (0 : Int32))])) _
    refine XS.iloadN X4.here hx rfl (hb hby d30_18) rfl ?_
    show Steps p.tables e below (T4.setTop (mkF m 19 #[.val (.ref a0), .val (.ref a1), .val (.int (0 : Int32)), .val (.int (0 : Int32))] [(.int (0 : Int32)), (.int (0 : Int32))])) _
    refine XS.icmpYes X4.here hx rfl (pc0 := 19) (pc' := 34) rfl (hb hby d30_19) rfl (flt (by decide : ¬ ((0 : Int32) < (0 : Int32)))).2.2.2 (by decide) (by decide) ?_
    show Steps p.tables e below (T4.setTop (mkF m 34 #[.val (.ref a0), .val (.ref a1), .val (.int (0 : Int32)), .val (.int (0 : Int32))] [])) _
    refine XS.aloadN X4.here hx rfl (hb hby d30_34) rfl rfl ?_
    show Steps p.tables e below (T4.setTop (mkF m 35 #[.val (.ref a0), .val (.ref a1), .val (.int (0 : Int32)), .val (.int (0 : Int32))] [(.ref a1)])) _
    refine XS.aloadN X4.here hx rfl (hb hby d30_35) rfl rfl ?_
    show Steps p.tables e below (T4.setTop (mkF m 36 #[.val (.ref a0), .val (.ref a1), .val (.int (0 : Int32)), .val (.int (0 : Int32))] [(.ref a0), (.ref a1)])) _
    refine XS.iloadN X4.here hx rfl (hb hby d30_36) rfl ?_
    show Steps p.tables e below (T4.setTop (mkF m 37 #[.val (.ref a0), .val (.ref a1), .val (.int (0 : Int32)), .val (.int (0 : Int32))] [(.int (0 : Int32)), (.ref a0), (.ref a1)])) _
    refine XS.dupX1 X4.here hx rfl (hb hby d30_37) rfl rfl rfl ?_
    show Steps p.tables e below (T4.setTop (mkF m 38 #[.val (.ref a0), .val (.ref a1), .val (.int (0 : Int32)), .val (.int (0 : Int32))] [(.int (0 : Int32)), (.ref a0), (.int (0 : Int32)), (.ref a1)])) _
    refine st6 _ ?_
    show Steps p.tables e below (T6.setTop (mkF m 41 #[.val (.ref a0), .val (.ref a1), .val (.int (0 : Int32)), .val (.int (0 : Int32))] [(.int (0 : Int32)), (.ref a1)])) _
    refine XS.aconstNull X6.here hx rfl (hb hby d30_41) ?_
    show Steps p.tables e below (T6.setTop (mkF m 42 #[.val (.ref a0), .val (.ref a1), .val (.int (0 : Int32)), .val (.int (0 : Int32))] [.null, (.int (0 : Int32)), (.ref a1)])) _
    refine st10 _ ?_
    exact k)
  obtain ⟨fs, hr, hrun, hended, hW, hsame⟩ := X10.leave (v := none) (fun _ => rfl) hlk
  have y12 := ((y5.wr W6).wr W10)
  have y13 := ((Fw2.other W6 (Or.inr (slot_ne (Or.inl (hw _ (List.mem_of_getElem? (i := 73) rfl))) (Or.inl (hw _ (List.mem_of_getElem? (i := 113) rfl))) (by decide) (t := .int) (t' := .int) (by decide) (by decide)))).other W10 (Or.inl (Ne.symm ne7)))
  have y14 := (((F_wa0_elementData.other W2 (Or.inr (slot_ne (Or.inl (hw _ (List.mem_of_getElem? (i := 76) rfl))) (Or.inl (hw _ (List.mem_of_getElem? (i := 73) rfl))) (by decide) (t := (.array (.object "java/lang/Object"))) (t' := .int) (by decide) (by decide)))).other W6 (Or.inr (slot_ne (Or.inl (hw _ (List.mem_of_getElem? (i := 76) rfl))) (Or.inl (hw _ (List.mem_of_getElem? (i := 113) rfl))) (by decide) (t := (.array (.object "java/lang/Object"))) (t' := .int) (by decide) (by decide)))).other W10 (Or.inl (Ne.symm ne7)))
  have y15 := (Fw6.other W10 (Or.inl (Ne.symm ne7)))
  exact ⟨_, _, pre11 _ (X10.returnOut hx Bd.returns (hb hby d30_43) hr), hrun, hended, _, _, rfl, (by show Q30 Z a0 a1 wa0_modCount wa0_elementData k_a1 el0 h0 n0 _ T10.heap _; rw [e10]; exact ⟨rfl, N10, KC10, y12, y13, y14, y15, ⟨_, V10⟩⟩), ⟨_, rfl⟩, hW, hsame.mono (by decide) (by decide)⟩
theorem ef27 (m : MethodId) (x0 : Addr) : entryFrame m #[(.ref x0), (.int (0 : Int32))] 4 = mkF m 0 #[.val (.ref x0), .val (.int (0 : Int32)), .unset, .unset] [] := by first | (simp [entryFrame, mkF, argsToLocals, Value.category]; done) | rfl
def Q27 (Z : State) (a0 : Addr) (wa0_modCount : Int32) (wa0_elementData : Addr) (k_wa0_elementData : ClassId) (el0 : Addr) (h0 : Heap) (n0 : Nat) (v : Option Value) (h : Heap) (L : List Loc) : Prop := v = some (.ref el0) ∧ Fr n0 L ∧ Keep h0 h [wa0_elementData, a0] ∧ (∃ kk : ClassId, Arv Z h wa0_elementData kk (.object "java/lang/Object") (10 : Int32) [.null, .null, .null, .null, .null, .null, .null, .null, .null, .null] .null) ∧ Exa Z h a0 "java/util/ArrayList" ∧ Fld Z h a0 "java/util/AbstractList" "modCount" "I" (.int (wa0_modCount + (1 : Int32))) ∧ Fld Z h a0 "java/util/ArrayList" "elementData" "[Ljava/lang/Object;" (.ref wa0_elementData) ∧ Fld Z h a0 "java/util/ArrayList" "size" "I" (.int (0 : Int32))
set_option maxRecDepth 65536 in
set_option maxHeartbeats 40000000 in
theorem rm27 (l : Launch) (Z : State) (a0' : Array Value) (hw : ∀ d ∈ tables_1, d.before a0' Z = true) (ws : List Jvm.Cond) (a0 : Addr) (wa0_modCount : Int32) (wa0_elementData : Addr) (k_wa0_elementData : ClassId) (el0 : Addr) (h0 : Heap) (n0 : Nat) (Z0 : n0 ≤ h0.size) (E_a0 : Exa Z h0 a0 "java/util/ArrayList") (V_wa0_elementData : Arv Z h0 wa0_elementData k_wa0_elementData (.object "java/lang/Object") (10 : Int32) [(.ref el0), .null, .null, .null, .null, .null, .null, .null, .null, .null] .null) (F_wa0_modCount : Fld Z h0 a0 "java/util/AbstractList" "modCount" "I" (.int wa0_modCount)) (F_wa0_elementData : Fld Z h0 a0 "java/util/ArrayList" "elementData" "[Ljava/lang/Object;" (.ref wa0_elementData)) (F_wa0_size : Fld Z h0 a0 "java/util/ArrayList" "size" "I" (.int (1 : Int32))) (g_a0 : n0 ≤ a0) (g_wa0_elementData : n0 ≤ wa0_elementData) :
    MetFree l (⟨"java/util/ArrayList", "remove", "(I)Ljava/lang/Object;"⟩ : MethodName) (head1 (Jvm.Cond.code (⟨"java/util/ArrayList", "remove", "(I)Ljava/lang/Object;"⟩ : MethodName) jdk_38_method_29_code 4 (some (.object "java/lang/Object")) :: ws) ({ frames := 2, cells := 0, slots := 0, locals := 27 } : Room)) (fun a U => a = #[(.ref a0), (.int (0 : Int32))] ∧ Z.Warmed39 U.vm ∧ U.heap = h0) (fun _ _ _ _ _ => True) (fun _ U o U' => ∃ v L, o = .returned v ∧ Q27 Z a0 wa0_modCount wa0_elementData k_wa0_elementData el0 h0 n0 v U'.heap L ∧ FrameEnd U o U' L ({ frames := 2, cells := 0, slots := 0, locals := 27 } : Room).cells ({ frames := 2, cells := 0, slots := 0, locals := 27 } : Room).slots) := by
  refine MetFree.of_bodySF (plainFor_of_name pn5) hisR ?_
  intro p e s m args below meth c s₁ Bd hml0 hP hK
  obtain ⟨rfl, hZ, hh⟩ := hP
  have hx := Bd.exec
  have hby := Bd.bytes
  have hml : c.maxLocals = 4 := hml0
  have hown' := findClass_of_methodNamed Bd.named
  have hown : s.vm.findClass "java/util/ArrayList" = some m.cls := hown'
  have hnm := (name_of_methodNamed Bd.named Bd.method).1
  have X0 : Stand p l e ({ frames := 2, cells := 0, slots := 0, locals := 27 } : Room) s m #[(.ref a0), (.int (0 : Int32))] below meth c s₁ [] 0 0 := Stand.of_body Bd
  have e0 : s₁.heap = h0 := by rw [← hh, Bd.state]; rfl
  have N0 := Fr.nil n0
  have hlk : meth.locks = false := by first | exact BodyLoose.notSynchronized Bd | exact Body.notSynchronized Bd
  have pre0 : ∀ t, Steps p.tables e below (s₁.setTop (mkF m 0 #[.val (.ref a0), .val (.int (0 : Int32)), .unset, .unset] [])) t → Steps p.tables e below (s₁.setTop (entryFrame m #[(.ref a0), (.int (0 : Int32))] 4)) t := fun t k => castTop (ef27 m a0) k
  obtain ⟨T1, X1, e1, st1⟩ := getF X0 hx hZ hown (host := "") (Or.inl (hw _ (List.mem_of_getElem? (i := 112) rfl))) Via.refl e0 F_wa0_size (g := (mkF m 2 #[.val (.ref a0), .val (.int (0 : Int32)), .unset, .unset] [(.ref a0), (.int (0 : Int32))])) rfl rfl (hb hby d27_2)
  obtain ⟨_, _, ⟨T2, L2, k2, n2⟩, -, X2, ⟨Lc2, hQ2, l2, y2, z2⟩, st2⟩ := Jvm.LawKit.callS X1 hx (y := (⟨"java/util/Objects", "checkIndex", "(II)I"⟩ : MethodName)) hown (mvT hZ (hw _ (List.mem_of_getElem? (i := 192) rfl))) (mvT hZ (hw _ (List.mem_of_getElem? (i := 193) rfl))) (mvT hZ (hw _ (List.mem_of_getElem? (i := 194) rfl))) (mvT hZ (hw _ (List.mem_of_getElem? (i := 195) rfl))) (by decide) (backOf (W := 0) (rm28 l Z a0' hw []  h0 n0 Z0) hZ (hw _ (List.mem_of_getElem? (i := 195) rfl)) (hw _ (List.mem_of_getElem? (i := 194) rfl)) (by decide) (by decide)) (g := (mkF m 5 #[.val (.ref a0), .val (.int (0 : Int32)), .unset, .unset] [(.int (1 : Int32)), (.int (0 : Int32))])) rfl (by rw [hml]; rfl) (argsL := [(.int (0 : Int32)), (.int (1 : Int32))]) (rest := []) (lenOf pd4 rfl) rfl (by show 2 * 0 + _ ≤ _; exact Nat.le_of_eq rfl) (hb hby d27_5) (fun _ _ => ⟨rfl, e1, (by decide : 0 + 0 ≤ _), (by decide : 0 + 0 ≤ _)⟩)
  dsimp only [Pt.U, Pt.locs, Pt.cells, Pt.slots] at X2 l2 y2 z2 st2 hQ2
  subst l2 y2 z2
  obtain ⟨rfl, N2q, e2⟩ := hQ2
  have N2 := Fr.app N0 N2q
  obtain ⟨T3, X3, e3, st3⟩ := getF X2 hx hZ hown (host := "") (Or.inl (hw _ (List.mem_of_getElem? (i := 75) rfl))) Via.refl e2 F_wa0_elementData (g := (mkF m 10 #[.val (.ref a0), .val (.int (0 : Int32)), .unset, .unset] [(.ref a0)])) rfl rfl (hb hby d27_10)
  obtain ⟨cl4, Ar4, q4, S4, M4, H4, G4⟩ := id V_wa0_elementData
  have hin4 : ¬ ((0 : Int32) < 0 ∨ cl4.slots.size ≤ ((0 : Int32)).toNatClampNeg) := inb_of S4 ⟨by decide, by decide⟩
  have hat4 : cl4.slots[((0 : Int32)).toNatClampNeg]? = some (.ref el0) := H4.at hin4 rfl
  obtain ⟨cq5, q5, q5'⟩ := E_a0.cell
  obtain ⟨_, _, ⟨T5, L5, k5, n5⟩, -, X5, ⟨Lc5, hQ5, l5, y5, z5⟩, st5⟩ := X3.privateBack hx (y := (⟨"java/util/ArrayList", "fastRemove", "([Ljava/lang/Object;I)V"⟩ : MethodName)) hown (mvT hZ (hw _ (List.mem_of_getElem? (i := 200) rfl))) (mvT hZ (hw _ (List.mem_of_getElem? (i := 201) rfl))) (mvT hZ (hw _ (List.mem_of_getElem? (i := 203) rfl))) (Cond.privateMethod_at (mvP hZ (hw _ (List.mem_of_getElem? (i := 202) rfl)) (args := #[]))) (mvT hZ (hw _ (List.mem_of_getElem? (i := 204) rfl))) (by decide) (backOf (W := 0) (rm30 l Z a0' hw [] a0 wa0_elementData wa0_modCount (.ref wa0_elementData) k_wa0_elementData el0 h0 n0 Z0 E_a0 V_wa0_elementData F_wa0_modCount F_wa0_elementData F_wa0_size g_a0 g_wa0_elementData) hZ (hw _ (List.mem_of_getElem? (i := 204) rfl)) (hw _ (List.mem_of_getElem? (i := 55) rfl)) (by decide) (by decide)) (g := (mkF m 21 #[.val (.ref a0), .val (.int (0 : Int32)), .val (.ref wa0_elementData), .val (.ref el0)] [(.int (0 : Int32)), (.ref wa0_elementData), (.ref a0)])) rfl (by rw [hml]; rfl) (Steps.refl _) (a := a0) (by rw [e3]; exact q5) q5' (argsL := [(.ref wa0_elementData), (.int (0 : Int32))]) (rest := []) (lenOf pd12 rfl) rfl (by show 2 * 0 + _ ≤ _; exact Nat.le_of_eq rfl) (hb hby d27_21) (fun _ _ => ⟨rfl, e3, (by decide : 0 + 0 ≤ _), (by decide : 0 + 0 ≤ _)⟩)
  dsimp only [Pt.U, Pt.locs, Pt.cells, Pt.slots] at X5 l5 y5 z5 st5 hQ5
  subst l5 y5 z5
  obtain ⟨rfl, N5q, K5, u5_0, u5_1, u5_2, u5_3, u5_4⟩ := hQ5
  have N5 := Fr.app N2 N5q
  have Z5 : n0 ≤ T5.heap.size := Nat.le_trans Z0 K5.1
  have KC5 : Keep h0 T5.heap [wa0_elementData, a0] := (Keep.refl h0 [wa0_elementData, a0]).trans K5 (allS (Or.inl (List.mem_of_getElem? (i := 1) rfl)) (allS (Or.inl (List.mem_of_getElem? (i := 0) rfl)) all0))
  obtain ⟨kk_u5_4, u5_4⟩ := u5_4
  have pre6 : ∀ t, Steps p.tables e below (T5.setTop (mkF m 25 #[.val (.ref a0), .val (.int (0 : Int32)), .val (.ref wa0_elementData), .val (.ref el0)] [(.ref el0)])) t → Steps p.tables e below (s₁.setTop (entryFrame m #[(.ref a0), (.int (0 : Int32))] 4)) t := fun t k => pre0 t (by
    show Steps p.tables e below (s₁.setTop (mkF m 0 #[.val (.ref a0), .val (.int (0 : Int32)), .unset, .unset] [])) _
    refine XS.iloadN X0.here hx rfl (hb hby d27_0) rfl ?_
    show Steps p.tables e below (s₁.setTop (mkF m 1 #[.val (.ref a0), .val (.int (0 : Int32)), .unset, .unset] [(.int (0 : Int32))])) _
    refine XS.aloadN X0.here hx rfl (hb hby d27_1) rfl rfl ?_
    show Steps p.tables e below (s₁.setTop (mkF m 2 #[.val (.ref a0), .val (.int (0 : Int32)), .unset, .unset] [(.ref a0), (.int (0 : Int32))])) _
    refine st1 _ ?_
    show Steps p.tables e below (T1.setTop (mkF m 5 #[.val (.ref a0), .val (.int (0 : Int32)), .unset, .unset] [(.int (1 : Int32)), (.int (0 : Int32))])) _
    refine st2 _ ?_
    show Steps p.tables e below (T2.setTop (mkF m 8 #[.val (.ref a0), .val (.int (0 : Int32)), .unset, .unset] [(.int (0 : Int32))])) _
    refine XS.pop X2.here hx rfl (hb hby d27_8) rfl rfl ?_
    show Steps p.tables e below (T2.setTop (mkF m 9 #[.val (.ref a0), .val (.int (0 : Int32)), .unset, .unset] [])) _
    refine XS.aloadN X2.here hx rfl (hb hby d27_9) rfl rfl ?_
    show Steps p.tables e below (T2.setTop (mkF m 10 #[.val (.ref a0), .val (.int (0 : Int32)), .unset, .unset] [(.ref a0)])) _
    refine st3 _ ?_
    show Steps p.tables e below (T3.setTop (mkF m 13 #[.val (.ref a0), .val (.int (0 : Int32)), .unset, .unset] [(.ref wa0_elementData)])) _
    refine XS.astoreN X3.here hx rfl (hb hby d27_13) rfl rfl (l' := #[.val (.ref a0), .val (.int (0 : Int32)), .val (.ref wa0_elementData), .unset]) rfl ?_
    show Steps p.tables e below (T3.setTop (mkF m 14 #[.val (.ref a0), .val (.int (0 : Int32)), .val (.ref wa0_elementData), .unset] [])) _
    refine XS.aloadN X3.here hx rfl (hb hby d27_14) rfl rfl ?_
    show Steps p.tables e below (T3.setTop (mkF m 15 #[.val (.ref a0), .val (.int (0 : Int32)), .val (.ref wa0_elementData), .unset] [(.ref wa0_elementData)])) _
    refine XS.iloadN X3.here hx rfl (hb hby d27_15) rfl ?_
    show Steps p.tables e below (T3.setTop (mkF m 16 #[.val (.ref a0), .val (.int (0 : Int32)), .val (.ref wa0_elementData), .unset] [(.int (0 : Int32)), (.ref wa0_elementData)])) _
    refine X3.aaload hx (j := (0 : Int32)) (v := (.ref el0)) (by rw [e3]; exact Ar4.1) (State.isArrayOf_alike hZ.alike Ar4.2.1) rfl Ar4.2.2 hin4 hat4 (g := (mkF m 16 #[.val (.ref a0), .val (.int (0 : Int32)), .val (.ref wa0_elementData), .unset] [(.int (0 : Int32)), (.ref wa0_elementData)])) rfl rfl (hb hby d27_16) _ ?_
    show Steps p.tables e below (T3.setTop (mkF m 17 #[.val (.ref a0), .val (.int (0 : Int32)), .val (.ref wa0_elementData), .unset] [(.ref el0)])) _
    refine XS.astoreN X3.here hx rfl (hb hby d27_17) rfl rfl (l' := #[.val (.ref a0), .val (.int (0 : Int32)), .val (.ref wa0_elementData), .val (.ref el0)]) rfl ?_
    show Steps p.tables e below (T3.setTop (mkF m 18 #[.val (.ref a0), .val (.int (0 : Int32)), .val (.ref wa0_elementData), .val (.ref el0)] [])) _
    refine XS.aloadN X3.here hx rfl (hb hby d27_18) rfl rfl ?_
    show Steps p.tables e below (T3.setTop (mkF m 19 #[.val (.ref a0), .val (.int (0 : Int32)), .val (.ref wa0_elementData), .val (.ref el0)] [(.ref a0)])) _
    refine XS.aloadN X3.here hx rfl (hb hby d27_19) rfl rfl ?_
    show Steps p.tables e below (T3.setTop (mkF m 20 #[.val (.ref a0), .val (.int (0 : Int32)), .val (.ref wa0_elementData), .val (.ref el0)] [(.ref wa0_elementData), (.ref a0)])) _
    refine XS.iloadN X3.here hx rfl (hb hby d27_20) rfl ?_
    show Steps p.tables e below (T3.setTop (mkF m 21 #[.val (.ref a0), .val (.int (0 : Int32)), .val (.ref wa0_elementData), .val (.ref el0)] [(.int (0 : Int32)), (.ref wa0_elementData), (.ref a0)])) _
    refine st5.trans ?_
    show Steps p.tables e below (T5.setTop (mkF m 24 #[.val (.ref a0), .val (.int (0 : Int32)), .val (.ref wa0_elementData), .val (.ref el0)] [])) _
    refine XS.aloadN X5.here hx rfl (hb hby d27_24) rfl rfl ?_
    exact k)
  obtain ⟨fs, hr, hrun, hended, hW, hsame⟩ := X5.leave (v := some (.ref el0)) (fun h => by rw [Bd.returns] at h; cases h) hlk
  exact ⟨_, _, pre6 _ (by jvm_step X5.here [X5.here.top, hx, (hb hby d27_25), X5.method', Bd.returns, Value.isRef, FieldType.isReference]; (first | (intro acts; rw [hr _ acts rfl rfl rfl]) | rw [hr _ _ rfl rfl rfl]); exact Steps.refl _), hrun, hended, _, _, rfl, ⟨rfl, N5, KC5, ⟨_, u5_4⟩, u5_0, u5_1, u5_2, u5_3⟩, ⟨_, rfl⟩, hW, hsame.mono (by decide) (by decide)⟩
theorem ef31 (m : MethodId) (x0 : Addr) : entryFrame m #[(.ref x0)] 1 = mkF m 0 #[.val (.ref x0)] [] := by first | (simp [entryFrame, mkF, argsToLocals, Value.category]; done) | rfl
def Q31 (Z : State) (a0 : Addr) (h0 : Heap) (n0 : Nat) (v : Option Value) (h : Heap) (L : List Loc) : Prop := v = some .null ∧ Fr n0 L ∧ h = h0
set_option maxRecDepth 65536 in
set_option maxHeartbeats 40000000 in
theorem rm31 (l : Launch) (Z : State) (a0' : Array Value) (hw : ∀ d ∈ tables_1, d.before a0' Z = true) (ws : List Jvm.Cond) (a0 : Addr) (h0 : Heap) (n0 : Nat) (Z0 : n0 ≤ h0.size) (F_wa0_name : Fld Z h0 a0 "com/example/tenon/tenon/Assignments$Changed" "name" "Ljava/lang/String;" .null) :
    MetFree l (⟨"com/example/tenon/tenon/Assignments$Changed", "name", "()Ljava/lang/String;"⟩ : MethodName) (head1 (Jvm.Cond.code (⟨"com/example/tenon/tenon/Assignments$Changed", "name", "()Ljava/lang/String;"⟩ : MethodName) prog_6_method_5_code 1 (some (.object "java/lang/String")) :: ws) ({ frames := 0, cells := 0, slots := 0, locals := 0 } : Room)) (fun a U => a = #[(.ref a0)] ∧ Z.Warmed39 U.vm ∧ U.heap = h0) (fun _ _ _ _ _ => True) (fun _ U o U' => ∃ v L, o = .returned v ∧ Q31 Z a0 h0 n0 v U'.heap L ∧ FrameEnd U o U' L ({ frames := 0, cells := 0, slots := 0, locals := 0 } : Room).cells ({ frames := 0, cells := 0, slots := 0, locals := 0 } : Room).slots) := by
  refine MetFree.of_bodySF (plainFor_of_name pn9) hisR ?_
  intro p e s m args below meth c s₁ Bd hml0 hP hK
  obtain ⟨rfl, hZ, hh⟩ := hP
  have hx := Bd.exec
  have hby := Bd.bytes
  have hml : c.maxLocals = 1 := hml0
  have hown' := findClass_of_methodNamed Bd.named
  have hown : s.vm.findClass "com/example/tenon/tenon/Assignments$Changed" = some m.cls := hown'
  have hnm := (name_of_methodNamed Bd.named Bd.method).1
  have X0 : Stand p l e ({ frames := 0, cells := 0, slots := 0, locals := 0 } : Room) s m #[(.ref a0)] below meth c s₁ [] 0 0 := Stand.of_body Bd
  have e0 : s₁.heap = h0 := by rw [← hh, Bd.state]; rfl
  have N0 := Fr.nil n0
  have hlk : meth.locks = false := by first | exact BodyLoose.notSynchronized Bd | exact Body.notSynchronized Bd
  have pre0 : ∀ t, Steps p.tables e below (s₁.setTop (mkF m 0 #[.val (.ref a0)] [])) t → Steps p.tables e below (s₁.setTop (entryFrame m #[(.ref a0)] 1)) t := fun t k => castTop (ef31 m a0) k
  obtain ⟨T1, X1, e1, st1⟩ := getF X0 hx hZ hown (host := "") (Or.inl (hw _ (List.mem_of_getElem? (i := 139) rfl))) Via.refl e0 F_wa0_name (g := (mkF m 1 #[.val (.ref a0)] [(.ref a0)])) rfl rfl (hb hby d31_1)
  have pre2 : ∀ t, Steps p.tables e below (T1.setTop (mkF m 4 #[.val (.ref a0)] [.null])) t → Steps p.tables e below (s₁.setTop (entryFrame m #[(.ref a0)] 1)) t := fun t k => pre0 t (by
    show Steps p.tables e below (s₁.setTop (mkF m 0 #[.val (.ref a0)] [])) _
    refine XS.aloadN X0.here hx rfl (hb hby d31_0) rfl rfl ?_
    show Steps p.tables e below (s₁.setTop (mkF m 1 #[.val (.ref a0)] [(.ref a0)])) _
    refine st1 _ ?_
    exact k)
  obtain ⟨fs, hr, hrun, hended, hW, hsame⟩ := X1.leave (v := some .null) (fun h => by rw [Bd.returns] at h; cases h) hlk
  exact ⟨_, _, pre2 _ (by jvm_step X1.here [X1.here.top, hx, (hb hby d31_4), X1.method', Bd.returns, Value.isRef, FieldType.isReference]; (first | (intro acts; rw [hr _ acts rfl rfl rfl]) | rw [hr _ _ rfl rfl rfl]); exact Steps.refl _), hrun, hended, _, _, rfl, ⟨rfl, N0, e1⟩, ⟨_, rfl⟩, hW, hsame.mono (by decide) (by decide)⟩
theorem ef26 (m : MethodId) (x0 : Addr) : entryFrame m #[(.ref x0), (.int (0 : Int32))] 7 = mkF m 0 #[.val (.ref x0), .val (.int (0 : Int32)), .unset, .unset, .unset, .unset, .unset] [] := by first | (simp [entryFrame, mkF, argsToLocals, Value.category]; done) | rfl
def Q26 (Z : State) (a0 : Addr) (wa0_changed : Addr) (wa0_budget : Addr) (wa0_below : Value) (wa0_blindness : Int32) (wwa0_changed_modCount : Int32) (wwa0_changed_elementData : Addr) (wwa0_budget_limit : Int64) (wwa0_budget_held : Int64) (k_wwa0_changed_elementData : ClassId) (el0 : Addr) (h0 : Heap) (n0 : Nat) (v : Option Value) (h : Heap) (L : List Loc) : Prop := v = none ∧ Fr n0 L ∧ Keep h0 h [wa0_changed, wwa0_changed_elementData, a0, wa0_budget] ∧ Exa Z h wa0_changed "java/util/ArrayList" ∧ Fld Z h wa0_changed "java/util/AbstractList" "modCount" "I" (.int (wwa0_changed_modCount + (1 : Int32))) ∧ Fld Z h wa0_changed "java/util/ArrayList" "elementData" "[Ljava/lang/Object;" (.ref wwa0_changed_elementData) ∧ Fld Z h wa0_changed "java/util/ArrayList" "size" "I" (.int (0 : Int32)) ∧ (∃ kk : ClassId, Arv Z h wwa0_changed_elementData kk (.object "java/lang/Object") (10 : Int32) [.null, .null, .null, .null, .null, .null, .null, .null, .null, .null] .null) ∧ Exa Z h a0 "com/example/tenon/tenon/Assignments" ∧ Fld Z h a0 "com/example/tenon/tenon/Assignments" "changed" "Ljava/util/List;" (.ref wa0_changed) ∧ Fld Z h a0 "com/example/tenon/tenon/Assignments" "budget" "Lcom/example/tenon/tenon/Budget;" (.ref wa0_budget) ∧ Fld Z h a0 "com/example/tenon/tenon/Assignments" "below" "Lcom/example/tenon/tenon/Assignments;" wa0_below ∧ Fld Z h a0 "com/example/tenon/tenon/Assignments" "blindness" "I" (.int (wa0_blindness - (1 : Int32))) ∧ Fld Z h a0 "com/example/tenon/tenon/Assignments" "marks" "I" (.int (1 : Int32)) ∧ Exa Z h wa0_budget "com/example/tenon/tenon/Budget" ∧ Fld Z h wa0_budget "com/example/tenon/tenon/Budget" "limit" "J" (.long wwa0_budget_limit) ∧ Fld Z h wa0_budget "com/example/tenon/tenon/Budget" "held" "J" (.long (wwa0_budget_held - (56 : Int64)))
set_option maxRecDepth 65536 in
set_option maxHeartbeats 40000000 in
theorem rm26 (l : Launch) (Z : State) (a0' : Array Value) (hw : ∀ d ∈ tables_1, d.before a0' Z = true) (ws : List Jvm.Cond) (a0 : Addr) (wa0_changed : Addr) (wa0_budget : Addr) (wa0_below : Value) (wa0_blindness : Int32) (wwa0_changed_modCount : Int32) (wwa0_changed_elementData : Addr) (wwa0_budget_limit : Int64) (wwa0_budget_held : Int64) (k_wwa0_changed_elementData : ClassId) (el0 : Addr) (h0 : Heap) (n0 : Nat) (Z0 : n0 ≤ h0.size) (E_a0 : Exa Z h0 a0 "com/example/tenon/tenon/Assignments") (E_wa0_changed : Exa Z h0 wa0_changed "java/util/ArrayList") (V_wwa0_changed_elementData : Arv Z h0 wwa0_changed_elementData k_wwa0_changed_elementData (.object "java/lang/Object") (10 : Int32) [(.ref el0), .null, .null, .null, .null, .null, .null, .null, .null, .null] .null) (E_el0 : Exa Z h0 el0 "com/example/tenon/tenon/Assignments$Changed") (E_wa0_budget : Exa Z h0 wa0_budget "com/example/tenon/tenon/Budget") (F_wa0_changed : Fld Z h0 a0 "com/example/tenon/tenon/Assignments" "changed" "Ljava/util/List;" (.ref wa0_changed)) (F_wa0_budget : Fld Z h0 a0 "com/example/tenon/tenon/Assignments" "budget" "Lcom/example/tenon/tenon/Budget;" (.ref wa0_budget)) (F_wa0_below : Fld Z h0 a0 "com/example/tenon/tenon/Assignments" "below" "Lcom/example/tenon/tenon/Assignments;" wa0_below) (F_wa0_blindness : Fld Z h0 a0 "com/example/tenon/tenon/Assignments" "blindness" "I" (.int wa0_blindness)) (F_wa0_marks : Fld Z h0 a0 "com/example/tenon/tenon/Assignments" "marks" "I" (.int (1 : Int32))) (F_wwa0_changed_size : Fld Z h0 wa0_changed "java/util/ArrayList" "size" "I" (.int (1 : Int32))) (F_wwa0_changed_modCount : Fld Z h0 wa0_changed "java/util/AbstractList" "modCount" "I" (.int wwa0_changed_modCount)) (F_wwa0_changed_elementData : Fld Z h0 wa0_changed "java/util/ArrayList" "elementData" "[Ljava/lang/Object;" (.ref wwa0_changed_elementData)) (F_wel0_name : Fld Z h0 el0 "com/example/tenon/tenon/Assignments$Changed" "name" "Ljava/lang/String;" .null) (F_wwa0_budget_limit : Fld Z h0 wa0_budget "com/example/tenon/tenon/Budget" "limit" "J" (.long wwa0_budget_limit)) (F_wwa0_budget_held : Fld Z h0 wa0_budget "com/example/tenon/tenon/Budget" "held" "J" (.long wwa0_budget_held)) (g_wa0_changed : n0 ≤ wa0_changed) (g_wwa0_changed_elementData : n0 ≤ wwa0_changed_elementData) (g_a0 : n0 ≤ a0) (g_wa0_budget : n0 ≤ wa0_budget) :
    MetFree l (⟨"com/example/tenon/tenon/Assignments", "takeBack", "(I)V"⟩ : MethodName) (head1 (Jvm.Cond.code (⟨"com/example/tenon/tenon/Assignments", "takeBack", "(I)V"⟩ : MethodName) prog_4_method_7_code 7 none :: ws) ({ frames := 3, cells := 0, slots := 0, locals := 42 } : Room)) (fun a U => a = #[(.ref a0), (.int (0 : Int32))] ∧ Z.Warmed39 U.vm ∧ U.heap = h0) (fun _ _ _ _ _ => True) (fun _ U o U' => ∃ v L, o = .returned v ∧ Q26 Z a0 wa0_changed wa0_budget wa0_below wa0_blindness wwa0_changed_modCount wwa0_changed_elementData wwa0_budget_limit wwa0_budget_held k_wwa0_changed_elementData el0 h0 n0 v U'.heap L ∧ FrameEnd U o U' L ({ frames := 3, cells := 0, slots := 0, locals := 42 } : Room).cells ({ frames := 3, cells := 0, slots := 0, locals := 42 } : Room).slots) := by
  refine MetFree.of_bodySF (plainFor_of_name pn7) hisR ?_
  intro p e s m args below meth c s₁ Bd hml0 hP hK
  obtain ⟨rfl, hZ, hh⟩ := hP
  have hx := Bd.exec
  have hby := Bd.bytes
  have hml : c.maxLocals = 7 := hml0
  have hown' := findClass_of_methodNamed Bd.named
  have hown : s.vm.findClass "com/example/tenon/tenon/Assignments" = some m.cls := hown'
  have hnm := (name_of_methodNamed Bd.named Bd.method).1
  have X0 : Stand p l e ({ frames := 3, cells := 0, slots := 0, locals := 42 } : Room) s m #[(.ref a0), (.int (0 : Int32))] below meth c s₁ [] 0 0 := Stand.of_body Bd
  have e0 : s₁.heap = h0 := by rw [← hh, Bd.state]; rfl
  have N0 := Fr.nil n0
  have hlk : meth.locks = false := by first | exact BodyLoose.notSynchronized Bd | exact Body.notSynchronized Bd
  have pre0 : ∀ t, Steps p.tables e below (s₁.setTop (mkF m 0 #[.val (.ref a0), .val (.int (0 : Int32)), .unset, .unset, .unset, .unset, .unset] [])) t → Steps p.tables e below (s₁.setTop (entryFrame m #[(.ref a0), (.int (0 : Int32))] 7)) t := fun t k => castTop (ef26 m a0) k
  obtain ⟨T1, X1, e1, st1⟩ := getF X0 hx hZ hown (host := "") (Or.inl (hw _ (List.mem_of_getElem? (i := 77) rfl))) Via.refl e0 F_wa0_changed (g := (mkF m 1 #[.val (.ref a0), .val (.int (0 : Int32)), .unset, .unset, .unset, .unset, .unset] [(.ref a0)])) rfl rfl (hb hby d26_1)
  obtain ⟨cq2, kq2, q2a, q2b, q2c⟩ := isOf hZ e1 E_wa0_changed
  obtain ⟨_, _, ⟨T2, L2, k2, n2⟩, -, X2, ⟨Lc2, hQ2, l2, y2, z2⟩, st2⟩ := X1.interfaceBack hx (xi := (⟨"java/util/List", "size", "()I"⟩ : MethodName)) (y := (⟨"java/util/ArrayList", "size", "()I"⟩ : MethodName)) hown (mvT hZ (hw _ (List.mem_of_getElem? (i := 103) rfl))) (mvT hZ (hw _ (List.mem_of_getElem? (i := 104) rfl))) (mvT hZ (hw _ (List.mem_of_getElem? (i := 105) rfl))) (mvT hZ (hw _ (List.mem_of_getElem? (i := 106) rfl))) (mvT hZ (hw _ (List.mem_of_getElem? (i := 107) rfl))) (mvT hZ (hw _ (List.mem_of_getElem? (i := 108) rfl))) (mvT hZ (hw _ (List.mem_of_getElem? (i := 109) rfl))) (mvT hZ (hw _ (List.mem_of_getElem? (i := 110) rfl))) (by decide) (backOf (W := 0) (rm15 l Z a0' hw [] wa0_changed (1 : Int32) h0 n0 Z0 F_wwa0_changed_size) hZ (hw _ (List.mem_of_getElem? (i := 111) rfl)) (hw _ (List.mem_of_getElem? (i := 55) rfl)) (by decide) (by decide)) q2a q2b q2c (g := (mkF m 4 #[.val (.ref a0), .val (.int (0 : Int32)), .unset, .unset, .unset, .unset, .unset] [(.ref wa0_changed)])) rfl (by rw [hml]; rfl) (Steps.refl _) (argsL := []) (rest := []) (lenOf pd10 rfl) rfl (by show 2 * 0 + _ ≤ _; exact Nat.le_of_eq rfl) (hb hby d26_4) (fun _ _ => ⟨rfl, e1, (by decide : 0 + 0 ≤ _), (by decide : 0 + 0 ≤ _)⟩)
  dsimp only [Pt.U, Pt.locs, Pt.cells, Pt.slots] at X2 l2 y2 z2 st2 hQ2
  subst l2 y2 z2
  obtain ⟨rfl, N2q, e2⟩ := hQ2
  have N2 := Fr.app N0 N2q
  obtain ⟨T3, X3, e3, st3⟩ := getF X2 hx hZ hown (host := "") (Or.inl (hw _ (List.mem_of_getElem? (i := 77) rfl))) Via.refl e2 F_wa0_changed (g := (mkF m 18 #[.val (.ref a0), .val (.int (0 : Int32)), .val (.int (0 : Int32)), .unset, .unset, .unset, .unset] [(.ref a0)])) rfl rfl (hb hby d26_18)
  obtain ⟨cq4, kq4, q4a, q4b, q4c⟩ := isOf hZ e3 E_wa0_changed
  obtain ⟨_, _, ⟨T4, L4, k4, n4⟩, -, X4, ⟨Lc4, hQ4, l4, y4, z4⟩, st4⟩ := X3.interfaceBack hx (xi := (⟨"java/util/List", "remove", "(I)Ljava/lang/Object;"⟩ : MethodName)) (y := (⟨"java/util/ArrayList", "remove", "(I)Ljava/lang/Object;"⟩ : MethodName)) hown (mvT hZ (hw _ (List.mem_of_getElem? (i := 184) rfl))) (mvT hZ (hw _ (List.mem_of_getElem? (i := 185) rfl))) (mvT hZ (hw _ (List.mem_of_getElem? (i := 186) rfl))) (mvT hZ (hw _ (List.mem_of_getElem? (i := 187) rfl))) (mvT hZ (hw _ (List.mem_of_getElem? (i := 188) rfl))) (mvT hZ (hw _ (List.mem_of_getElem? (i := 189) rfl))) (mvT hZ (hw _ (List.mem_of_getElem? (i := 190) rfl))) (mvT hZ (hw _ (List.mem_of_getElem? (i := 110) rfl))) (by decide) (backOf (W := 0) (rm27 l Z a0' hw [] wa0_changed wwa0_changed_modCount wwa0_changed_elementData k_wwa0_changed_elementData el0 h0 n0 Z0 E_wa0_changed V_wwa0_changed_elementData F_wwa0_changed_modCount F_wwa0_changed_elementData F_wwa0_changed_size g_wa0_changed g_wwa0_changed_elementData) hZ (hw _ (List.mem_of_getElem? (i := 191) rfl)) (hw _ (List.mem_of_getElem? (i := 55) rfl)) (by decide) (by decide)) q4a q4b q4c (g := (mkF m 22 #[.val (.ref a0), .val (.int (0 : Int32)), .val (.int (0 : Int32)), .unset, .unset, .unset, .unset] [(.int (0 : Int32)), (.ref wa0_changed)])) rfl (by rw [hml]; rfl) (Steps.refl _) (argsL := [(.int (0 : Int32))]) (rest := []) (lenOf pd13 rfl) rfl (by show 2 * 0 + _ ≤ _; exact Nat.le_of_eq rfl) (hb hby d26_22) (fun _ _ => ⟨rfl, e3, (by decide : 0 + 0 ≤ _), (by decide : 0 + 0 ≤ _)⟩)
  dsimp only [Pt.U, Pt.locs, Pt.cells, Pt.slots] at X4 l4 y4 z4 st4 hQ4
  subst l4 y4 z4
  obtain ⟨rfl, N4q, K4, u4_0, u4_1, u4_2, u4_3, u4_4⟩ := hQ4
  have N4 := Fr.app N2 N4q
  have Z4 : n0 ≤ T4.heap.size := Nat.le_trans Z0 K4.1
  have KC4 : Keep h0 T4.heap [wa0_changed, wwa0_changed_elementData, a0, wa0_budget] := (Keep.refl h0 [wa0_changed, wwa0_changed_elementData, a0, wa0_budget]).trans K4 (allS (Or.inl (List.mem_of_getElem? (i := 1) rfl)) (allS (Or.inl (List.mem_of_getElem? (i := 0) rfl)) all0))
  obtain ⟨kk_u4_0, u4_0⟩ := u4_0
  have y5 := (E_el0.keep K4)
  obtain ⟨T6, X6, e6, st6⟩ := castY X4 hx hZ hown (hw _ (List.mem_of_getElem? (i := 127) rfl)) rfl (Ins.self y5) (g := (mkF m 27 #[.val (.ref a0), .val (.int (0 : Int32)), .val (.int (0 : Int32)), .unset, .unset, .unset, .unset] [(.ref el0)])) rfl rfl (hb hby d26_27)
  have ne8 : el0 ≠ wa0_changed := ne_exa y5 u4_1 (by decide)
  have ne9 : el0 ≠ wwa0_changed_elementData := Exa.neArv y5 u4_0 (hw _ (List.mem_of_getElem? (i := 128) rfl))
  have y10 := (F_wel0_name.keep K4 (ninS ne9 (ninS ne8 nin0)))
  obtain ⟨cq7, kq7, q7a, q7b, q7c⟩ := isOf hZ e6 y5
  obtain ⟨_, _, ⟨T7, L7, k7, n7⟩, -, X7, ⟨Lc7, hQ7, l7, y7, z7⟩, st7⟩ := X6.virtualBack hx (y := (⟨"com/example/tenon/tenon/Assignments$Changed", "name", "()Ljava/lang/String;"⟩ : MethodName)) (z := (⟨"com/example/tenon/tenon/Assignments$Changed", "name", "()Ljava/lang/String;"⟩ : MethodName)) hown (mvT hZ (hw _ (List.mem_of_getElem? (i := 206) rfl))) (mvT hZ (hw _ (List.mem_of_getElem? (i := 207) rfl))) (notFace_of_selects (args := #[]) (mvT hZ (hw _ (List.mem_of_getElem? (i := 209) rfl)))) (mvT hZ (hw _ (List.mem_of_getElem? (i := 209) rfl))) (mvT hZ (hw _ (List.mem_of_getElem? (i := 208) rfl))) (by decide) (backOf (W := 0) (rm31 l Z a0' hw [] el0 T4.heap n0 Z4 y10) hZ (hw _ (List.mem_of_getElem? (i := 210) rfl)) (hw _ (List.mem_of_getElem? (i := 129) rfl)) (by decide) (by decide)) q7a q7c (g := (mkF m 37 #[.val (.ref a0), .val (.int (0 : Int32)), .val (.int (0 : Int32)), .val (.ref el0), .val (.long (56 : Int64)), .second, .unset] [(.ref el0)])) rfl (by rw [hml]; rfl) (Steps.refl _) (argsL := []) (rest := []) (lenOf pd14 rfl) rfl (by show 2 * 0 + _ ≤ _; exact Nat.le_of_eq rfl) (hb hby d26_37) (fun _ _ => ⟨rfl, e6, (by decide : 0 + 0 ≤ _), (by decide : 0 + 0 ≤ _)⟩)
  dsimp only [Pt.U, Pt.locs, Pt.cells, Pt.slots] at X7 l7 y7 z7 st7 hQ7
  subst l7 y7 z7
  obtain ⟨rfl, N7q, e7⟩ := hQ7
  have N7 := Fr.app N4 N7q
  have y12 := (E_a0.keep K4)
  have ne11 : a0 ≠ wa0_changed := ne_exa y12 u4_1 (by decide)
  have ne13 : a0 ≠ wwa0_changed_elementData := Exa.neArv y12 u4_0 (hw _ (List.mem_of_getElem? (i := 16) rfl))
  have y14 := (F_wa0_blindness.keep K4 (ninS ne13 (ninS ne11 nin0)))
  obtain ⟨T15, X15, e15, st15⟩ := getF X7 hx hZ hown (host := "") (Or.inl (hw _ (List.mem_of_getElem? (i := 89) rfl))) Via.refl e7 y14 (g := (mkF m 49 #[.val (.ref a0), .val (.int (0 : Int32)), .val (.int (0 : Int32)), .val (.ref el0), .val (.long (56 : Int64)), .second, .val .null] [(.ref a0), (.ref a0)])) rfl rfl (hb hby d26_49)
  obtain ⟨T16, h16, X16, e16, W16, st16⟩ := putF X15 hx hZ hown (host := "") (Or.inl (hw _ (List.mem_of_getElem? (i := 89) rfl))) Via.refl e15 y14 y12 (Or.inl (hw _ (List.mem_of_getElem? (i := 90) rfl))) (hw _ (List.mem_of_getElem? (i := 16) rfl)) (ty := .int) (by decide) rfl rfl (g := (mkF m 54 #[.val (.ref a0), .val (.int (0 : Int32)), .val (.int (0 : Int32)), .val (.ref el0), .val (.long (56 : Int64)), .second, .val .null] [(.int (wa0_blindness - (1 : Int32))), (.ref a0)])) rfl rfl (hb hby d26_54)
  have Z16 : n0 ≤ h16.size := Nat.le_trans Z4 (Keep.of_wr W16).1
  have N16 := Fr.snoc X16 N7 g_a0
  have KC16 : Keep h0 h16 [wa0_changed, wwa0_changed_elementData, a0, wa0_budget] := KC4.wr W16 (Or.inl (List.mem_of_getElem? (i := 2) rfl))
  have Fw16 := y14.same W16
  have y17 := ((F_wa0_budget.keep K4 (ninS ne13 (ninS ne11 nin0))).other W16 (Or.inr (slot_ne (Or.inr (hw _ (List.mem_of_getElem? (i := 80) rfl))) (Or.inl (hw _ (List.mem_of_getElem? (i := 90) rfl))) (by decide) (t := (.object "com/example/tenon/tenon/Budget")) (t' := .int) (by decide) (by decide))))
  obtain ⟨T18, X18, e18, st18⟩ := getF X16 hx hZ hown (host := "") (Or.inl (hw _ (List.mem_of_getElem? (i := 79) rfl))) Via.refl e16 y17 (g := (mkF m 135 #[.val (.ref a0), .val (.int (0 : Int32)), .val (.int (0 : Int32)), .val (.ref el0), .val (.long (56 : Int64)), .second, .val .null] [(.ref a0)])) rfl rfl (hb hby d26_135)
  have y21 := ((E_wa0_budget.keep K4).wr W16)
  have y22 := (u4_1.wr W16)
  have ne20 : wa0_budget ≠ wa0_changed := ne_exa y21 y22 (by decide)
  have y24 := (u4_0.other W16 (Ne.symm ne13))
  have ne23 : wa0_budget ≠ wwa0_changed_elementData := Exa.neArv y21 y24 (hw _ (List.mem_of_getElem? (i := 5) rfl))
  have y26 := (y12.wr W16)
  have ne25 : wa0_budget ≠ a0 := ne_exa y21 y26 (by decide)
  have y27 := ((F_wwa0_budget_limit.keep K4 (ninS ne23 (ninS ne20 nin0))).other W16 (Or.inl ne25))
  have y28 := ((F_wwa0_budget_held.keep K4 (ninS ne23 (ninS ne20 nin0))).other W16 (Or.inl ne25))
  obtain ⟨cq19, kq19, q19a, q19b, q19c⟩ := isOf hZ e18 y21
  obtain ⟨_, _, ⟨T19, L19, k19, n19⟩, -, X19, ⟨Lc19, hQ19, l19, y19, z19⟩, st19⟩ := X18.virtualBack hx (y := (⟨"com/example/tenon/tenon/Budget", "give", "(J)V"⟩ : MethodName)) (z := (⟨"com/example/tenon/tenon/Budget", "give", "(J)V"⟩ : MethodName)) hown (mvT hZ (hw _ (List.mem_of_getElem? (i := 211) rfl))) (mvT hZ (hw _ (List.mem_of_getElem? (i := 212) rfl))) (notFace_of_selects (args := #[]) (mvT hZ (hw _ (List.mem_of_getElem? (i := 214) rfl)))) (mvT hZ (hw _ (List.mem_of_getElem? (i := 214) rfl))) (mvT hZ (hw _ (List.mem_of_getElem? (i := 213) rfl))) (by decide) (backOf (W := 0) (rm32 l Z a0' hw [] wa0_budget (56 : Int64) wwa0_budget_limit wwa0_budget_held h16 n0 Z16 y21 y27 y28 g_wa0_budget) hZ (hw _ (List.mem_of_getElem? (i := 215) rfl)) (hw _ (List.mem_of_getElem? (i := 2) rfl)) (by decide) (by decide)) q19a q19c (g := (mkF m 140 #[.val (.ref a0), .val (.int (0 : Int32)), .val (.int (0 : Int32)), .val (.ref el0), .val (.long (56 : Int64)), .second, .val .null] [(.long (56 : Int64)), (.ref wa0_budget)])) rfl (by rw [hml]; rfl) (Steps.refl _) (argsL := [(.long (56 : Int64))]) (rest := []) (lenOf pd1 rfl) rfl (by show 2 * 0 + _ ≤ _; exact Nat.le_of_eq rfl) (hb hby d26_140) (fun _ _ => ⟨rfl, e18, (by decide : 0 + 0 ≤ _), (by decide : 0 + 0 ≤ _)⟩)
  dsimp only [Pt.U, Pt.locs, Pt.cells, Pt.slots] at X19 l19 y19 z19 st19 hQ19
  subst l19 y19 z19
  obtain ⟨rfl, N19q, K19, u19_0, u19_1, u19_2⟩ := hQ19
  have N19 := Fr.app N16 N19q
  have Z19 : n0 ≤ T19.heap.size := Nat.le_trans Z16 K19.1
  have KC19 : Keep h0 T19.heap [wa0_changed, wwa0_changed_elementData, a0, wa0_budget] := KC16.trans K19 (allS (Or.inl (List.mem_of_getElem? (i := 3) rfl)) all0)
  have pre29 : ∀ t, Steps p.tables e below (T19.setTop (mkF m 149 #[.val (.ref a0), .val (.int (0 : Int32)), .val (.int (-1 : Int32)), .val (.ref el0), .val (.long (56 : Int64)), .second, .val .null] [])) t → Steps p.tables e below (s₁.setTop (entryFrame m #[(.ref a0), (.int (0 : Int32))] 7)) t := fun t k => pre0 t (by
    show Steps p.tables e below (s₁.setTop (mkF m 0 #[.val (.ref a0), .val (.int (0 : Int32)), .unset, .unset, .unset, .unset, .unset] [])) _
    refine XS.aloadN X0.here hx rfl (hb hby d26_0) rfl rfl ?_
    show Steps p.tables e below (s₁.setTop (mkF m 1 #[.val (.ref a0), .val (.int (0 : Int32)), .unset, .unset, .unset, .unset, .unset] [(.ref a0)])) _
    refine st1 _ ?_
    show Steps p.tables e below (T1.setTop (mkF m 4 #[.val (.ref a0), .val (.int (0 : Int32)), .unset, .unset, .unset, .unset, .unset] [(.ref wa0_changed)])) _
    refine st2.trans ?_
    show Steps p.tables e below (T2.setTop (mkF m 9 #[.val (.ref a0), .val (.int (0 : Int32)), .unset, .unset, .unset, .unset, .unset] [(.int (1 : Int32))])) _
    refine XS.iconst X2.here hx rfl (hb hby d26_9) ?_
    show Steps p.tables e below (T2.setTop (mkF m 10 #[.val (.ref a0), .val (.int (0 : Int32)), .unset, .unset, .unset, .unset, .unset] [(.int (1 : Int32)), (.int (1 : Int32))])) _
    refine XS.isub X2.here hx rfl (hb hby d26_10) rfl ?_
    show Steps p.tables e below (T2.setTop (mkF m 11 #[.val (.ref a0), .val (.int (0 : Int32)), .unset, .unset, .unset, .unset, .unset] [(.int (0 : Int32))])) _
    refine XS.istoreN X2.here hx rfl (hb hby d26_11) rfl (l' := #[.val (.ref a0), .val (.int (0 : Int32)), .val (.int (0 : Int32)), .unset, .unset, .unset, .unset]) rfl ?_
    show Steps p.tables e below (T2.setTop (mkF m 12 #[.val (.ref a0), .val (.int (0 : Int32)), .val (.int (0 : Int32)), .unset, .unset, .unset, .unset] [])) _
    refine XS.iloadN X2.here hx rfl (hb hby d26_12) rfl ?_
    show Steps p.tables e below (T2.setTop (mkF m 13 #[.val (.ref a0), .val (.int (0 : Int32)), .val (.int (0 : Int32)), .unset, .unset, .unset, .unset] [(.int (0 : Int32))])) _
    refine XS.iloadN X2.here hx rfl (hb hby d26_13) rfl ?_
    show Steps p.tables e below (T2.setTop (mkF m 14 #[.val (.ref a0), .val (.int (0 : Int32)), .val (.int (0 : Int32)), .unset, .unset, .unset, .unset] [(.int (0 : Int32)), (.int (0 : Int32))])) _
    refine XS.icmpNo X2.here hx rfl (hb hby d26_14) rfl (flt (by decide : ¬ ((0 : Int32) < (0 : Int32)))).1 ?_
    show Steps p.tables e below (T2.setTop (mkF m 17 #[.val (.ref a0), .val (.int (0 : Int32)), .val (.int (0 : Int32)), .unset, .unset, .unset, .unset] [])) _
    refine XS.aloadN X2.here hx rfl (hb hby d26_17) rfl rfl ?_
    show Steps p.tables e below (T2.setTop (mkF m 18 #[.val (.ref a0), .val (.int (0 : Int32)), .val (.int (0 : Int32)), .unset, .unset, .unset, .unset] [(.ref a0)])) _
    refine st3 _ ?_
    show Steps p.tables e below (T3.setTop (mkF m 21 #[.val (.ref a0), .val (.int (0 : Int32)), .val (.int (0 : Int32)), .unset, .unset, .unset, .unset] [(.ref wa0_changed)])) _
    refine XS.iloadN X3.here hx rfl (hb hby d26_21) rfl ?_
    show Steps p.tables e below (T3.setTop (mkF m 22 #[.val (.ref a0), .val (.int (0 : Int32)), .val (.int (0 : Int32)), .unset, .unset, .unset, .unset] [(.int (0 : Int32)), (.ref wa0_changed)])) _
    refine st4.trans ?_
    show Steps p.tables e below (T4.setTop (mkF m 27 #[.val (.ref a0), .val (.int (0 : Int32)), .val (.int (0 : Int32)), .unset, .unset, .unset, .unset] [(.ref el0)])) _
    refine st6 _ ?_
    show Steps p.tables e below (T6.setTop (mkF m 30 #[.val (.ref a0), .val (.int (0 : Int32)), .val (.int (0 : Int32)), .unset, .unset, .unset, .unset] [(.ref el0)])) _
    refine XS.astoreN X6.here hx rfl (hb hby d26_30) rfl rfl (l' := #[.val (.ref a0), .val (.int (0 : Int32)), .val (.int (0 : Int32)), .val (.ref el0), .unset, .unset, .unset]) rfl ?_
    show Steps p.tables e below (T6.setTop (mkF m 31 #[.val (.ref a0), .val (.int (0 : Int32)), .val (.int (0 : Int32)), .val (.ref el0), .unset, .unset, .unset] [])) _
    refine X6.ldc2Long hx hown (mvT hZ (hw _ (List.mem_of_getElem? (i := 114) rfl))) (g := (mkF m 31 #[.val (.ref a0), .val (.int (0 : Int32)), .val (.int (0 : Int32)), .val (.ref el0), .unset, .unset, .unset] [])) rfl (hb hby d26_31) _ ?_
    show Steps p.tables e below (T6.setTop (mkF m 34 #[.val (.ref a0), .val (.int (0 : Int32)), .val (.int (0 : Int32)), .val (.ref el0), .unset, .unset, .unset] [(.long (56 : Int64))])) _
    refine XS.lstore X6.here hx rfl (hb hby d26_34) rfl (l' := #[.val (.ref a0), .val (.int (0 : Int32)), .val (.int (0 : Int32)), .val (.ref el0), .val (.long (56 : Int64)), .second, .unset]) rfl ?_
    show Steps p.tables e below (T6.setTop (mkF m 36 #[.val (.ref a0), .val (.int (0 : Int32)), .val (.int (0 : Int32)), .val (.ref el0), .val (.long (56 : Int64)), .second, .unset] [])) _
    refine XS.aloadN X6.here hx rfl (hb hby d26_36) rfl rfl ?_
    show Steps p.tables e below (T6.setTop (mkF m 37 #[.val (.ref a0), .val (.int (0 : Int32)), .val (.int (0 : Int32)), .val (.ref el0), .val (.long (56 : Int64)), .second, .unset] [(.ref el0)])) _
    refine st7.trans ?_
    show Steps p.tables e below (T7.setTop (mkF m 40 #[.val (.ref a0), .val (.int (0 : Int32)), .val (.int (0 : Int32)), .val (.ref el0), .val (.long (56 : Int64)), .second, .unset] [.null])) _
    refine XS.astore X7.here hx rfl (hb hby d26_40) rfl rfl (l' := #[.val (.ref a0), .val (.int (0 : Int32)), .val (.int (0 : Int32)), .val (.ref el0), .val (.long (56 : Int64)), .second, .val .null]) rfl ?_
    show Steps p.tables e below (T7.setTop (mkF m 42 #[.val (.ref a0), .val (.int (0 : Int32)), .val (.int (0 : Int32)), .val (.ref el0), .val (.long (56 : Int64)), .second, .val .null] [])) _
    refine XS.aload X7.here hx rfl (hb hby d26_42) rfl rfl ?_
    show Steps p.tables e below (T7.setTop (mkF m 44 #[.val (.ref a0), .val (.int (0 : Int32)), .val (.int (0 : Int32)), .val (.ref el0), .val (.long (56 : Int64)), .second, .val .null] [.null])) _
    refine XS.ifnonnullNo X7.here hx rfl (hb hby d26_44) rfl ?_
    show Steps p.tables e below (T7.setTop (mkF m 47 #[.val (.ref a0), .val (.int (0 : Int32)), .val (.int (0 : Int32)), .val (.ref el0), .val (.long (56 : Int64)), .second, .val .null] [])) _
    refine XS.aloadN X7.here hx rfl (hb hby d26_47) rfl rfl ?_
    show Steps p.tables e below (T7.setTop (mkF m 48 #[.val (.ref a0), .val (.int (0 : Int32)), .val (.int (0 : Int32)), .val (.ref el0), .val (.long (56 : Int64)), .second, .val .null] [(.ref a0)])) _
    refine XS.dup X7.here hx rfl (hb hby d26_48) rfl rfl ?_
    show Steps p.tables e below (T7.setTop (mkF m 49 #[.val (.ref a0), .val (.int (0 : Int32)), .val (.int (0 : Int32)), .val (.ref el0), .val (.long (56 : Int64)), .second, .val .null] [(.ref a0), (.ref a0)])) _
    refine st15 _ ?_
    show Steps p.tables e below (T15.setTop (mkF m 52 #[.val (.ref a0), .val (.int (0 : Int32)), .val (.int (0 : Int32)), .val (.ref el0), .val (.long (56 : Int64)), .second, .val .null] [(.int wa0_blindness), (.ref a0)])) _
    refine XS.iconst X15.here hx rfl (hb hby d26_52) ?_
    show Steps p.tables e below (T15.setTop (mkF m 53 #[.val (.ref a0), .val (.int (0 : Int32)), .val (.int (0 : Int32)), .val (.ref el0), .val (.long (56 : Int64)), .second, .val .null] [(.int (1 : Int32)), (.int wa0_blindness), (.ref a0)])) _
    refine XS.isub X15.here hx rfl (hb hby d26_53) rfl ?_
    show Steps p.tables e below (T15.setTop (mkF m 54 #[.val (.ref a0), .val (.int (0 : Int32)), .val (.int (0 : Int32)), .val (.ref el0), .val (.long (56 : Int64)), .second, .val .null] [(.int (wa0_blindness - (1 : Int32))), (.ref a0)])) _
    refine st16 _ ?_
    show Steps p.tables e below (T16.setTop (mkF m 57 #[.val (.ref a0), .val (.int (0 : Int32)), .val (.int (0 : Int32)), .val (.ref el0), .val (.long (56 : Int64)), .second, .val .null] [])) _
    refine XS.goto X16.here hx rfl (pc0 := 57) (pc' := 134) rfl (hb hby d26_57) (by decide) (by decide) ?_
    show Steps p.tables e below (T16.setTop (mkF m 134 #[.val (.ref a0), .val (.int (0 : Int32)), .val (.int (0 : Int32)), .val (.ref el0), .val (.long (56 : Int64)), .second, .val .null] [])) _
    refine XS.aloadN X16.here hx rfl (hb hby d26_134) rfl rfl ?_
    show Steps p.tables e below (T16.setTop (mkF m 135 #[.val (.ref a0), .val (.int (0 : Int32)), .val (.int (0 : Int32)), .val (.ref el0), .val (.long (56 : Int64)), .second, .val .null] [(.ref a0)])) _
    refine st18 _ ?_
    show Steps p.tables e below (T18.setTop (mkF m 138 #[.val (.ref a0), .val (.int (0 : Int32)), .val (.int (0 : Int32)), .val (.ref el0), .val (.long (56 : Int64)), .second, .val .null] [(.ref wa0_budget)])) _
    refine XS.lload X18.here hx rfl (hb hby d26_138) rfl ?_
    show Steps p.tables e below (T18.setTop (mkF m 140 #[.val (.ref a0), .val (.int (0 : Int32)), .val (.int (0 : Int32)), .val (.ref el0), .val (.long (56 : Int64)), .second, .val .null] [(.long (56 : Int64)), (.ref wa0_budget)])) _
    refine st19.trans ?_
    show Steps p.tables e below (T19.setTop (mkF m 143 #[.val (.ref a0), .val (.int (0 : Int32)), .val (.int (0 : Int32)), .val (.ref el0), .val (.long (56 : Int64)), .second, .val .null] [])) _
    refine XS.iinc X19.here hx rfl (hb hby d26_143) rfl (l' := #[.val (.ref a0), .val (.int (0 : Int32)), .val (.int ((0 : Int32) + (-1 : Int32))), .val (.ref el0), .val (.long (56 : Int64)), .second, .val .null]) rfl ?_
    show Steps p.tables e below (T19.setTop (mkF m 146 #[.val (.ref a0), .val (.int (0 : Int32)), .val (.int (-1 : Int32)), .val (.ref el0), .val (.long (56 : Int64)), .second, .val .null] [])) _
    refine XS.goto X19.here hx rfl (pc0 := 146) (pc' := 12) rfl (hb hby d26_146) (by decide) (by decide) ?_
    show Steps p.tables e below (T19.setTop (mkF m 12 #[.val (.ref a0), .val (.int (0 : Int32)), .val (.int (-1 : Int32)), .val (.ref el0), .val (.long (56 : Int64)), .second, .val .null] [])) _
    refine XS.iloadN X19.here hx rfl (hb hby d26_12) rfl ?_
    show Steps p.tables e below (T19.setTop (mkF m 13 #[.val (.ref a0), .val (.int (0 : Int32)), .val (.int (-1 : Int32)), .val (.ref el0), .val (.long (56 : Int64)), .second, .val .null] [(.int (-1 : Int32))])) _
    refine XS.iloadN X19.here hx rfl (hb hby d26_13) rfl ?_
    show Steps p.tables e below (T19.setTop (mkF m 14 #[.val (.ref a0), .val (.int (0 : Int32)), .val (.int (-1 : Int32)), .val (.ref el0), .val (.long (56 : Int64)), .second, .val .null] [(.int (0 : Int32)), (.int (-1 : Int32))])) _
    refine XS.icmpYes X19.here hx rfl (pc0 := 14) (pc' := 149) rfl (hb hby d26_14) rfl (tlt (by decide : (-1 : Int32) < (0 : Int32))).1 (by decide) (by decide) ?_
    exact k)
  obtain ⟨fs, hr, hrun, hended, hW, hsame⟩ := X19.leave (v := none) (fun _ => rfl) hlk
  have y30 := (y22.keep K19)
  have y31 := ((u4_2.other W16 (Or.inl (Ne.symm ne11))).keep K19 (ninS (Ne.symm ne20) nin0))
  have y32 := ((u4_3.other W16 (Or.inl (Ne.symm ne11))).keep K19 (ninS (Ne.symm ne20) nin0))
  have y33 := ((u4_4.other W16 (Or.inl (Ne.symm ne11))).keep K19 (ninS (Ne.symm ne20) nin0))
  have y34 := (y24.keep K19 (ninS (Ne.symm ne23) nin0))
  have y35 := (y26.keep K19)
  have y36 := (((F_wa0_changed.keep K4 (ninS ne13 (ninS ne11 nin0))).other W16 (Or.inr (slot_ne (Or.inr (hw _ (List.mem_of_getElem? (i := 78) rfl))) (Or.inl (hw _ (List.mem_of_getElem? (i := 90) rfl))) (by decide) (t := (.object "java/util/List")) (t' := .int) (by decide) (by decide)))).keep K19 (ninS (Ne.symm ne25) nin0))
  have y37 := (y17.keep K19 (ninS (Ne.symm ne25) nin0))
  have y38 := (((F_wa0_below.keep K4 (ninS ne13 (ninS ne11 nin0))).other W16 (Or.inr (slot_ne (Or.inr (hw _ (List.mem_of_getElem? (i := 82) rfl))) (Or.inl (hw _ (List.mem_of_getElem? (i := 90) rfl))) (by decide) (t := (.object "com/example/tenon/tenon/Assignments")) (t' := .int) (by decide) (by decide)))).keep K19 (ninS (Ne.symm ne25) nin0))
  have y39 := (Fw16.keep K19 (ninS (Ne.symm ne25) nin0))
  have y40 := (((F_wa0_marks.keep K4 (ninS ne13 (ninS ne11 nin0))).other W16 (Or.inr (slot_ne (Or.inl (hw _ (List.mem_of_getElem? (i := 97) rfl))) (Or.inl (hw _ (List.mem_of_getElem? (i := 90) rfl))) (by decide) (t := .int) (t' := .int) (by decide) (by decide)))).keep K19 (ninS (Ne.symm ne25) nin0))
  exact ⟨_, _, pre29 _ (X19.returnOut hx Bd.returns (hb hby d26_149) hr), hrun, hended, _, _, rfl, ⟨rfl, N19, KC19, y30, y31, y32, y33, ⟨_, y34⟩, y35, y36, y37, y38, y39, y40, u19_0, u19_1, u19_2⟩, ⟨_, rfl⟩, hW, hsame.mono (by decide) (by decide)⟩
theorem ef25 (m : MethodId) (x0 : Addr) : entryFrame m #[(.ref x0), (.int (0 : Int32))] 2 = mkF m 0 #[.val (.ref x0), .val (.int (0 : Int32))] [] := by first | (simp [entryFrame, mkF, argsToLocals, Value.category]; done) | rfl
def Q25 (Z : State) (a0 : Addr) (wa0_changed : Addr) (wa0_budget : Addr) (wa0_below : Value) (wa0_blindness : Int32) (wwa0_changed_modCount : Int32) (wwa0_changed_elementData : Addr) (wwa0_budget_limit : Int64) (wwa0_budget_held : Int64) (k_wwa0_changed_elementData : ClassId) (el0 : Addr) (h0 : Heap) (n0 : Nat) (v : Option Value) (h : Heap) (L : List Loc) : Prop := v = none ∧ Fr n0 L ∧ Keep h0 h [wa0_budget, a0, wwa0_changed_elementData, wa0_changed] ∧ Exa Z h wa0_budget "com/example/tenon/tenon/Budget" ∧ Fld Z h wa0_budget "com/example/tenon/tenon/Budget" "limit" "J" (.long wwa0_budget_limit) ∧ Fld Z h wa0_budget "com/example/tenon/tenon/Budget" "held" "J" (.long (wwa0_budget_held - (56 : Int64))) ∧ Exa Z h a0 "com/example/tenon/tenon/Assignments" ∧ Fld Z h a0 "com/example/tenon/tenon/Assignments" "changed" "Ljava/util/List;" (.ref wa0_changed) ∧ Fld Z h a0 "com/example/tenon/tenon/Assignments" "budget" "Lcom/example/tenon/tenon/Budget;" (.ref wa0_budget) ∧ Fld Z h a0 "com/example/tenon/tenon/Assignments" "below" "Lcom/example/tenon/tenon/Assignments;" wa0_below ∧ Fld Z h a0 "com/example/tenon/tenon/Assignments" "blindness" "I" (.int (wa0_blindness - (1 : Int32))) ∧ Fld Z h a0 "com/example/tenon/tenon/Assignments" "marks" "I" (.int (0 : Int32)) ∧ (∃ kk : ClassId, Arv Z h wwa0_changed_elementData kk (.object "java/lang/Object") (10 : Int32) [.null, .null, .null, .null, .null, .null, .null, .null, .null, .null] .null) ∧ Exa Z h wa0_changed "java/util/ArrayList" ∧ Fld Z h wa0_changed "java/util/AbstractList" "modCount" "I" (.int (wwa0_changed_modCount + (1 : Int32))) ∧ Fld Z h wa0_changed "java/util/ArrayList" "elementData" "[Ljava/lang/Object;" (.ref wwa0_changed_elementData) ∧ Fld Z h wa0_changed "java/util/ArrayList" "size" "I" (.int (0 : Int32))
set_option maxRecDepth 65536 in
set_option maxHeartbeats 40000000 in
theorem rm25 (l : Launch) (Z : State) (a0' : Array Value) (hw : ∀ d ∈ tables_1, d.before a0' Z = true) (ws : List Jvm.Cond) (a0 : Addr) (wa0_changed : Addr) (wa0_budget : Addr) (wa0_below : Value) (wa0_blindness : Int32) (wwa0_changed_modCount : Int32) (wwa0_changed_elementData : Addr) (wwa0_budget_limit : Int64) (wwa0_budget_held : Int64) (k_wwa0_changed_elementData : ClassId) (el0 : Addr) (h0 : Heap) (n0 : Nat) (Z0 : n0 ≤ h0.size) (E_a0 : Exa Z h0 a0 "com/example/tenon/tenon/Assignments") (V_wwa0_changed_elementData : Arv Z h0 wwa0_changed_elementData k_wwa0_changed_elementData (.object "java/lang/Object") (10 : Int32) [(.ref el0), .null, .null, .null, .null, .null, .null, .null, .null, .null] .null) (E_wa0_changed : Exa Z h0 wa0_changed "java/util/ArrayList") (E_el0 : Exa Z h0 el0 "com/example/tenon/tenon/Assignments$Changed") (E_wa0_budget : Exa Z h0 wa0_budget "com/example/tenon/tenon/Budget") (F_wa0_changed : Fld Z h0 a0 "com/example/tenon/tenon/Assignments" "changed" "Ljava/util/List;" (.ref wa0_changed)) (F_wa0_budget : Fld Z h0 a0 "com/example/tenon/tenon/Assignments" "budget" "Lcom/example/tenon/tenon/Budget;" (.ref wa0_budget)) (F_wa0_below : Fld Z h0 a0 "com/example/tenon/tenon/Assignments" "below" "Lcom/example/tenon/tenon/Assignments;" wa0_below) (F_wa0_blindness : Fld Z h0 a0 "com/example/tenon/tenon/Assignments" "blindness" "I" (.int wa0_blindness)) (F_wa0_marks : Fld Z h0 a0 "com/example/tenon/tenon/Assignments" "marks" "I" (.int (1 : Int32))) (F_wwa0_changed_modCount : Fld Z h0 wa0_changed "java/util/AbstractList" "modCount" "I" (.int wwa0_changed_modCount)) (F_wwa0_changed_elementData : Fld Z h0 wa0_changed "java/util/ArrayList" "elementData" "[Ljava/lang/Object;" (.ref wwa0_changed_elementData)) (F_wwa0_budget_limit : Fld Z h0 wa0_budget "com/example/tenon/tenon/Budget" "limit" "J" (.long wwa0_budget_limit)) (F_wwa0_budget_held : Fld Z h0 wa0_budget "com/example/tenon/tenon/Budget" "held" "J" (.long wwa0_budget_held)) (F_wwa0_changed_size : Fld Z h0 wa0_changed "java/util/ArrayList" "size" "I" (.int (1 : Int32))) (F_wel0_name : Fld Z h0 el0 "com/example/tenon/tenon/Assignments$Changed" "name" "Ljava/lang/String;" .null) (g_wa0_changed : n0 ≤ wa0_changed) (g_wwa0_changed_elementData : n0 ≤ wwa0_changed_elementData) (g_a0 : n0 ≤ a0) (g_wa0_budget : n0 ≤ wa0_budget) :
    MetFree l (⟨"com/example/tenon/tenon/Assignments", "undo", "(I)V"⟩ : MethodName) (head1 (Jvm.Cond.code (⟨"com/example/tenon/tenon/Assignments", "undo", "(I)V"⟩ : MethodName) prog_4_method_6_code 2 none :: ws) ({ frames := 4, cells := 0, slots := 0, locals := 60 } : Room)) (fun a U => a = #[(.ref a0), (.int (0 : Int32))] ∧ Z.Warmed39 U.vm ∧ U.heap = h0) (fun _ _ _ _ _ => True) (fun _ U o U' => ∃ v L, o = .returned v ∧ Q25 Z a0 wa0_changed wa0_budget wa0_below wa0_blindness wwa0_changed_modCount wwa0_changed_elementData wwa0_budget_limit wwa0_budget_held k_wwa0_changed_elementData el0 h0 n0 v U'.heap L ∧ FrameEnd U o U' L ({ frames := 4, cells := 0, slots := 0, locals := 60 } : Room).cells ({ frames := 4, cells := 0, slots := 0, locals := 60 } : Room).slots) := by
  refine MetFree.of_bodySF (plainFor_of_name pn7) hisR ?_
  intro p e s m args below meth c s₁ Bd hml0 hP hK
  obtain ⟨rfl, hZ, hh⟩ := hP
  have hx := Bd.exec
  have hby := Bd.bytes
  have hml : c.maxLocals = 2 := hml0
  have hown' := findClass_of_methodNamed Bd.named
  have hown : s.vm.findClass "com/example/tenon/tenon/Assignments" = some m.cls := hown'
  have hnm := (name_of_methodNamed Bd.named Bd.method).1
  have X0 : Stand p l e ({ frames := 4, cells := 0, slots := 0, locals := 60 } : Room) s m #[(.ref a0), (.int (0 : Int32))] below meth c s₁ [] 0 0 := Stand.of_body Bd
  have e0 : s₁.heap = h0 := by rw [← hh, Bd.state]; rfl
  have N0 := Fr.nil n0
  have hlk : meth.locks = false := by first | exact BodyLoose.notSynchronized Bd | exact Body.notSynchronized Bd
  have pre0 : ∀ t, Steps p.tables e below (s₁.setTop (mkF m 0 #[.val (.ref a0), .val (.int (0 : Int32))] [])) t → Steps p.tables e below (s₁.setTop (entryFrame m #[(.ref a0), (.int (0 : Int32))] 2)) t := fun t k => castTop (ef25 m a0) k
  obtain ⟨cq1, q1, q1'⟩ := E_a0.cell
  obtain ⟨_, _, ⟨T1, L1, k1, n1⟩, -, X1, ⟨Lc1, hQ1, l1, y1, z1⟩, st1⟩ := X0.privateBack hx (y := (⟨"com/example/tenon/tenon/Assignments", "takeBack", "(I)V"⟩ : MethodName)) hown (mvT hZ (hw _ (List.mem_of_getElem? (i := 180) rfl))) (mvT hZ (hw _ (List.mem_of_getElem? (i := 181) rfl))) (own_selP hZ (hw _ (List.mem_of_getElem? (i := 181) rfl)) (hw _ (List.mem_of_getElem? (i := 182) rfl)) (hw _ (List.mem_of_getElem? (i := 87) rfl)) rfl (by decide)) (Cond.privateMethod_at (mvP hZ (hw _ (List.mem_of_getElem? (i := 182) rfl)) (args := #[]))) (mvT hZ (hw _ (List.mem_of_getElem? (i := 183) rfl))) (by decide) (backOf (W := 0) (rm26 l Z a0' hw [] a0 wa0_changed wa0_budget wa0_below wa0_blindness wwa0_changed_modCount wwa0_changed_elementData wwa0_budget_limit wwa0_budget_held k_wwa0_changed_elementData el0 h0 n0 Z0 E_a0 E_wa0_changed V_wwa0_changed_elementData E_el0 E_wa0_budget F_wa0_changed F_wa0_budget F_wa0_below F_wa0_blindness F_wa0_marks F_wwa0_changed_size F_wwa0_changed_modCount F_wwa0_changed_elementData F_wel0_name F_wwa0_budget_limit F_wwa0_budget_held g_wa0_changed g_wwa0_changed_elementData g_a0 g_wa0_budget) hZ (hw _ (List.mem_of_getElem? (i := 183) rfl)) (hw _ (List.mem_of_getElem? (i := 17) rfl)) (by decide) (by decide)) (g := (mkF m 2 #[.val (.ref a0), .val (.int (0 : Int32))] [(.int (0 : Int32)), (.ref a0)])) rfl (by rw [hml]; rfl) (Steps.refl _) (a := a0) (by rw [e0]; exact q1) q1' (argsL := [(.int (0 : Int32))]) (rest := []) (lenOf pd15 rfl) rfl (by show 2 * 0 + _ ≤ _; exact Nat.le_of_eq rfl) (hb hby d25_2) (fun _ _ => ⟨rfl, e0, (by decide : 0 + 0 ≤ _), (by decide : 0 + 0 ≤ _)⟩)
  dsimp only [Pt.U, Pt.locs, Pt.cells, Pt.slots] at X1 l1 y1 z1 st1 hQ1
  subst l1 y1 z1
  obtain ⟨rfl, N1q, K1, u1_0, u1_1, u1_2, u1_3, u1_4, u1_5, u1_6, u1_7, u1_8, u1_9, u1_10, u1_11, u1_12, u1_13⟩ := hQ1
  have N1 := Fr.app N0 N1q
  have Z1 : n0 ≤ T1.heap.size := Nat.le_trans Z0 K1.1
  have KC1 : Keep h0 T1.heap [wa0_budget, a0, wwa0_changed_elementData, wa0_changed] := (Keep.refl h0 [wa0_budget, a0, wwa0_changed_elementData, wa0_changed]).trans K1 (allS (Or.inl (List.mem_of_getElem? (i := 3) rfl)) (allS (Or.inl (List.mem_of_getElem? (i := 2) rfl)) (allS (Or.inl (List.mem_of_getElem? (i := 1) rfl)) (allS (Or.inl (List.mem_of_getElem? (i := 0) rfl)) all0))))
  obtain ⟨kk_u1_4, u1_4⟩ := u1_4
  obtain ⟨T2, X2, e2, st2⟩ := getF X1 hx hZ hown (host := "") (Or.inl (hw _ (List.mem_of_getElem? (i := 96) rfl))) Via.refl rfl u1_10 (g := (mkF m 7 #[.val (.ref a0), .val (.int (0 : Int32))] [(.ref a0), (.ref a0)])) rfl rfl (hb hby d25_7)
  obtain ⟨T3, h3, X3, e3, W3, st3⟩ := putF X2 hx hZ hown (host := "") (Or.inl (hw _ (List.mem_of_getElem? (i := 96) rfl))) Via.refl e2 u1_10 u1_5 (Or.inl (hw _ (List.mem_of_getElem? (i := 97) rfl))) (hw _ (List.mem_of_getElem? (i := 16) rfl)) (ty := .int) (by decide) rfl rfl (g := (mkF m 12 #[.val (.ref a0), .val (.int (0 : Int32))] [(.int (0 : Int32)), (.ref a0)])) rfl rfl (hb hby d25_12)
  have Z3 : n0 ≤ h3.size := Nat.le_trans Z1 (Keep.of_wr W3).1
  have N3 := Fr.snoc X3 N1 g_a0
  have KC3 : Keep h0 h3 [wa0_budget, a0, wwa0_changed_elementData, wa0_changed] := KC1.wr W3 (Or.inl (List.mem_of_getElem? (i := 1) rfl))
  have Fw3 := u1_10.same W3
  have pre4 : ∀ t, Steps p.tables e below (T3.setTop (mkF m 15 #[.val (.ref a0), .val (.int (0 : Int32))] [])) t → Steps p.tables e below (s₁.setTop (entryFrame m #[(.ref a0), (.int (0 : Int32))] 2)) t := fun t k => pre0 t (by
    show Steps p.tables e below (s₁.setTop (mkF m 0 #[.val (.ref a0), .val (.int (0 : Int32))] [])) _
    refine XS.aloadN X0.here hx rfl (hb hby d25_0) rfl rfl ?_
    show Steps p.tables e below (s₁.setTop (mkF m 1 #[.val (.ref a0), .val (.int (0 : Int32))] [(.ref a0)])) _
    refine XS.iloadN X0.here hx rfl (hb hby d25_1) rfl ?_
    show Steps p.tables e below (s₁.setTop (mkF m 2 #[.val (.ref a0), .val (.int (0 : Int32))] [(.int (0 : Int32)), (.ref a0)])) _
    refine st1.trans ?_
    show Steps p.tables e below (T1.setTop (mkF m 5 #[.val (.ref a0), .val (.int (0 : Int32))] [])) _
    refine XS.aloadN X1.here hx rfl (hb hby d25_5) rfl rfl ?_
    show Steps p.tables e below (T1.setTop (mkF m 6 #[.val (.ref a0), .val (.int (0 : Int32))] [(.ref a0)])) _
    refine XS.dup X1.here hx rfl (hb hby d25_6) rfl rfl ?_
    show Steps p.tables e below (T1.setTop (mkF m 7 #[.val (.ref a0), .val (.int (0 : Int32))] [(.ref a0), (.ref a0)])) _
    refine st2 _ ?_
    show Steps p.tables e below (T2.setTop (mkF m 10 #[.val (.ref a0), .val (.int (0 : Int32))] [(.int (1 : Int32)), (.ref a0)])) _
    refine XS.iconst X2.here hx rfl (hb hby d25_10) ?_
    show Steps p.tables e below (T2.setTop (mkF m 11 #[.val (.ref a0), .val (.int (0 : Int32))] [(.int (1 : Int32)), (.int (1 : Int32)), (.ref a0)])) _
    refine XS.isub X2.here hx rfl (hb hby d25_11) rfl ?_
    show Steps p.tables e below (T2.setTop (mkF m 12 #[.val (.ref a0), .val (.int (0 : Int32))] [(.int (0 : Int32)), (.ref a0)])) _
    refine st3 _ ?_
    exact k)
  obtain ⟨fs, hr, hrun, hended, hW, hsame⟩ := X3.leave (v := none) (fun _ => rfl) hlk
  have y5 := (u1_11.wr W3)
  have y7 := (u1_5.wr W3)
  have ne6 : wa0_budget ≠ a0 := ne_exa y5 y7 (by decide)
  have y8 := (u1_12.other W3 (Or.inl ne6))
  have y9 := (u1_13.other W3 (Or.inl ne6))
  have y10 := (u1_6.other W3 (Or.inr (slot_ne (Or.inr (hw _ (List.mem_of_getElem? (i := 78) rfl))) (Or.inl (hw _ (List.mem_of_getElem? (i := 97) rfl))) (by decide) (t := (.object "java/util/List")) (t' := .int) (by decide) (by decide))))
  have y11 := (u1_7.other W3 (Or.inr (slot_ne (Or.inr (hw _ (List.mem_of_getElem? (i := 80) rfl))) (Or.inl (hw _ (List.mem_of_getElem? (i := 97) rfl))) (by decide) (t := (.object "com/example/tenon/tenon/Budget")) (t' := .int) (by decide) (by decide))))
  have y12 := (u1_8.other W3 (Or.inr (slot_ne (Or.inr (hw _ (List.mem_of_getElem? (i := 82) rfl))) (Or.inl (hw _ (List.mem_of_getElem? (i := 97) rfl))) (by decide) (t := (.object "com/example/tenon/tenon/Assignments")) (t' := .int) (by decide) (by decide))))
  have y13 := (u1_9.other W3 (Or.inr (slot_ne (Or.inl (hw _ (List.mem_of_getElem? (i := 90) rfl))) (Or.inl (hw _ (List.mem_of_getElem? (i := 97) rfl))) (by decide) (t := .int) (t' := .int) (by decide) (by decide))))
  have ne14 : wwa0_changed_elementData ≠ a0 := Ne.symm (Exa.neArv u1_5 u1_4 (hw _ (List.mem_of_getElem? (i := 16) rfl)))
  have y15 := (u1_4.other W3 ne14)
  have y16 := (u1_0.wr W3)
  have ne17 : wa0_changed ≠ a0 := ne_exa y16 y7 (by decide)
  have y18 := (u1_1.other W3 (Or.inl ne17))
  have y19 := (u1_2.other W3 (Or.inl ne17))
  have y20 := (u1_3.other W3 (Or.inl ne17))
  exact ⟨_, _, pre4 _ (X3.returnOut hx Bd.returns (hb hby d25_15) hr), hrun, hended, _, _, rfl, (by show Q25 Z a0 wa0_changed wa0_budget wa0_below wa0_blindness wwa0_changed_modCount wwa0_changed_elementData wwa0_budget_limit wwa0_budget_held k_wwa0_changed_elementData el0 h0 n0 _ T3.heap _; rw [e3]; exact ⟨rfl, N3, KC3, y5, y8, y9, y7, y10, y11, y12, y13, Fw3, ⟨_, y15⟩, y16, y18, y19, y20⟩), ⟨_, rfl⟩, hW, hsame.mono (by decide) (by decide)⟩
def f0_m5 (p0 : Int32) : Int32 := (if (p0 &&& (1 : Int32)) = (0 : Int32) then (0 : Int32) else (1 : Int32))
def f0_m10 (p0 : Int32) : Int32 := (if (p0 &&& (2 : Int32)) = (0 : Int32) then (0 : Int32) else (1 : Int32))
def f0_m15 (p0 : Int32) : Int32 := (if (p0 &&& (4 : Int32)) = (0 : Int32) then (0 : Int32) else (1 : Int32))
def f0_m20 (p0 : Int32) : Int32 := (if (p0 &&& (8 : Int32)) = (0 : Int32) then (0 : Int32) else (1 : Int32))
def f0_m25 (p0 : Int32) : Int32 := (if (p0 &&& (16 : Int32)) = (0 : Int32) then (0 : Int32) else (1 : Int32))
def f0_m30 (p0 : Int32) : Int32 := (if (p0 &&& (32 : Int32)) = (0 : Int32) then (0 : Int32) else (1 : Int32))
def f0_m35 (p0 : Int32) : Int32 := (if (p0 &&& (64 : Int32)) = (0 : Int32) then (0 : Int32) else (1 : Int32))
def f0_m71 (p0 : Int32) : Int32 := (if (f0_m30 p0) = (0 : Int32) then (0 : Int32) else (1 : Int32))
def f0_m108 (p0 : Int32) : Int32 := (if (f0_m35 p0) = (0 : Int32) then (0 : Int32) else (1 : Int32))
def f0_m130 (p0 : Int32) : Int32 := (if (f0_m5 p0) = (0 : Int32) then (0 : Int32) else (1 : Int32))
def f0_m163 (p0 : Int32) : Int32 := (if (f0_m10 p0) = (0 : Int32) then (f0_m130 p0) else (if (f0_m15 p0) = (0 : Int32) then ((f0_m130 p0) + (1 : Int32)) else (((f0_m130 p0) + (1 : Int32)) - (1 : Int32))))
def f0_m186 (p0 : Int32) : Int32 := (if (f0_m5 p0) = (0 : Int32) then (if (f0_m10 p0) = (0 : Int32) then (0 : Int32) else (if (f0_m15 p0) = (0 : Int32) then (1 : Int32) else (0 : Int32))) else (1 : Int32))
def f0_m192 (p0 : Int32) : Int32 := (if (f0_m35 p0) = (0 : Int32) then (0 : Int32) else (1 : Int32))
def f0_m197 (p0 : Int32) : Int32 := (if (f0_m186 p0) = (0 : Int32) then (0 : Int32) else (1 : Int32))
def f0_m220 (p0 : Int32) : Int32 := (if (f0_m30 p0) = (0 : Int32) then (0 : Int32) else (1 : Int32))
def f0_m257 (p0 : Int32) : Int32 := (if (f0_m35 p0) = (0 : Int32) then (0 : Int32) else (1 : Int32))
def f0_m279 (p0 : Int32) : Int32 := (if (f0_m5 p0) = (0 : Int32) then (0 : Int32) else (1 : Int32))
def f0_m312 (p0 : Int32) : Int32 := (if (f0_m10 p0) = (0 : Int32) then (f0_m279 p0) else (if (f0_m15 p0) = (0 : Int32) then ((f0_m279 p0) + (1 : Int32)) else (((f0_m279 p0) + (1 : Int32)) - (1 : Int32))))
def f0_m335 (p0 : Int32) : Int32 := (if (f0_m5 p0) = (0 : Int32) then (if (f0_m10 p0) = (0 : Int32) then (0 : Int32) else (if (f0_m15 p0) = (0 : Int32) then (1 : Int32) else (0 : Int32))) else (1 : Int32))
def f0_m341 (p0 : Int32) : Int32 := (if (f0_m35 p0) = (0 : Int32) then (0 : Int32) else (1 : Int32))
def f0_m349 (p0 : Int32) : Int32 := (if (f0_m335 p0) = (0 : Int32) then (if (f0_m341 p0) = (0 : Int32) then (0 : Int32) else (1 : Int32)) else (1 : Int32))
def f0_m382 (p0 : Int32) : Int32 := (if (f0_m30 p0) = (0 : Int32) then (0 : Int32) else (1 : Int32))
def f0_m419 (p0 : Int32) : Int32 := (if (f0_m35 p0) = (0 : Int32) then (0 : Int32) else (1 : Int32))
def f0_m441 (p0 : Int32) : Int32 := (if (f0_m5 p0) = (0 : Int32) then (0 : Int32) else (1 : Int32))
def f0_m474 (p0 : Int32) : Int32 := (if (f0_m10 p0) = (0 : Int32) then (f0_m441 p0) else (if (f0_m15 p0) = (0 : Int32) then ((f0_m441 p0) + (1 : Int32)) else (((f0_m441 p0) + (1 : Int32)) - (1 : Int32))))
def f0_m497 (p0 : Int32) : Int32 := (if (f0_m5 p0) = (0 : Int32) then (if (f0_m10 p0) = (0 : Int32) then (0 : Int32) else (if (f0_m15 p0) = (0 : Int32) then (1 : Int32) else (0 : Int32))) else (1 : Int32))
def f0_m506 (p0 : Int32) : Int32 := (if (f0_m35 p0) = (0 : Int32) then (if (f0_m30 p0) = (0 : Int32) then (0 : Int32) else (1 : Int32)) else (1 : Int32))
def f0_m511 (p0 : Int32) : Int32 := (if (f0_m497 p0) = (0 : Int32) then (0 : Int32) else (1 : Int32))
def f0_m534 (p0 : Int32) : Int32 := (if (f0_m30 p0) = (0 : Int32) then (0 : Int32) else (1 : Int32))
def f0_m571 (p0 : Int32) : Int32 := (if (f0_m35 p0) = (0 : Int32) then (0 : Int32) else (1 : Int32))
def f0_m593 (p0 : Int32) : Int32 := (if (f0_m5 p0) = (0 : Int32) then (0 : Int32) else (1 : Int32))
def f0_m626 (p0 : Int32) : Int32 := (if (f0_m10 p0) = (0 : Int32) then (f0_m593 p0) else (if (f0_m15 p0) = (0 : Int32) then ((f0_m593 p0) + (1 : Int32)) else (((f0_m593 p0) + (1 : Int32)) - (1 : Int32))))
def f0_m649 (p0 : Int32) : Int32 := (if (f0_m5 p0) = (0 : Int32) then (if (f0_m10 p0) = (0 : Int32) then (0 : Int32) else (if (f0_m15 p0) = (0 : Int32) then (1 : Int32) else (0 : Int32))) else (1 : Int32))
def f0_m658 (p0 : Int32) : Int32 := (if (f0_m35 p0) = (0 : Int32) then (if (f0_m30 p0) = (0 : Int32) then (0 : Int32) else (1 : Int32)) else (1 : Int32))
def f0_m666 (p0 : Int32) : Int32 := (if (f0_m649 p0) = (0 : Int32) then (if (f0_m658 p0) = (0 : Int32) then (0 : Int32) else (1 : Int32)) else (1 : Int32))
def F0 (p0 : Int32) : Int32 := (if (f0_m20 p0) = (0 : Int32) then (if (f0_m25 p0) = (0 : Int32) then (if (F12a (f0_m163 p0)) = (f0_m197 p0) then (1 : Int32) else (0 : Int32)) else (if (F12b (f0_m312 p0) (f0_m257 p0)) = (f0_m349 p0) then (1 : Int32) else (0 : Int32))) else (if (f0_m25 p0) = (0 : Int32) then (if (F12a (f0_m474 p0)) = (f0_m511 p0) then (1 : Int32) else (0 : Int32)) else (if (F12c (f0_m626 p0) (f0_m571 p0) (f0_m534 p0)) = (f0_m666 p0) then (1 : Int32) else (0 : Int32))))
theorem ef0 (m : MethodId) (x0 : Int32) : entryFrame m #[(.int x0)] maxLocals = mkF m 0 #[.val (.int x0), .unset, .unset, .unset, .unset, .unset, .unset, .unset, .unset, .unset, .unset, .unset, .unset, .unset, .unset] [] := by first | (simp [entryFrame, mkF, argsToLocals, Value.category, maxLocals]; done) | rfl
def Q0 (Z : State) (p0 : Int32) (sD : Addr) (kS_sD : ClassId) (h0 : Heap) (n0 : Nat) (v : Option Value) (h : Heap) (L : List Loc) : Prop := v = some (.int (F0 p0)) ∧ Fr n0 L
set_option maxRecDepth 65536 in
set_option maxHeartbeats 40000000 in
theorem rm0 (l : Launch) (Z : State) (a0' : Array Value) (hw : ∀ d ∈ tables_1, d.before a0' Z = true) (ws : List Jvm.Cond) (p0 : Int32) (sD : Addr) (kS_sD : ClassId) (h0 : Heap) (n0 : Nat) (Z0 : n0 ≤ h0.size) (OLD0 : Old Z n0 h0) (S_sD : Sta Z Z.heap "java/util/ArrayList" "DEFAULTCAPACITY_EMPTY_ELEMENTDATA" "[Ljava/lang/Object;" (.ref sD)) (VS_sD : Arv Z Z.heap sD kS_sD (.object "java/lang/Object") (0 : Int32) [] .null) :
    MetFree l x (head1 (Jvm.Cond.code x code maxLocals ret :: ws) room_1) (fun a U => a = #[(.int p0)] ∧ Z.Warmed39 U.vm ∧ U.heap = h0) (fun _ _ _ _ _ => True) (fun _ U o U' => ∃ v L, o = .returned v ∧ Q0 Z p0 sD kS_sD h0 n0 v U'.heap L ∧ FrameEnd U o U' L 12 77) := by
  refine MetFree.of_bodySF (plainFor_of_name pn12) hisR ?_
  intro p e s m args below meth c s₁ Bd hml0 hP hK
  obtain ⟨rfl, hZ, hh⟩ := hP
  have hx := Bd.exec
  have hby := Bd.bytes
  have hml : c.maxLocals = 15 := hml0
  have hown' := findClass_of_methodNamed Bd.named
  have hown : s.vm.findClass "com/example/tenon/tenon/AssignmentsIsBlindPinLaw" = some m.cls := hown'
  have hnm := (name_of_methodNamed Bd.named Bd.method).1
  have X0 : Stand p l e room_1 s m #[(.int p0)] below meth c s₁ [] 0 0 := Stand.of_body Bd
  have e0 : s₁.heap = h0 := by rw [← hh, Bd.state]; rfl
  have N0 := Fr.nil n0
  have hlk : meth.locks = false := by first | exact BodyLoose.notSynchronized Bd | exact Body.notSynchronized Bd
  have pre0 : ∀ t, Steps p.tables e below (s₁.setTop (mkF m 0 #[.val (.int p0), .unset, .unset, .unset, .unset, .unset, .unset, .unset, .unset, .unset, .unset, .unset, .unset, .unset, .unset] [])) t → Steps p.tables e below (s₁.setTop (entryFrame m #[(.int p0)] maxLocals)) t := fun t k => castTop (ef0 m p0) k
  have pre1 : ∀ t, Steps p.tables e below (s₁.setTop (mkF m 3 #[.val (.int p0), .unset, .unset, .unset, .unset, .unset, .unset, .unset, .unset, .unset, .unset, .unset, .unset, .unset, .unset] [(.int (p0 &&& (1 : Int32)))])) t → Steps p.tables e below (s₁.setTop (entryFrame m #[(.int p0)] maxLocals)) t := fun t k => pre0 t (by
    show Steps p.tables e below (s₁.setTop (mkF m 0 #[.val (.int p0), .unset, .unset, .unset, .unset, .unset, .unset, .unset, .unset, .unset, .unset, .unset, .unset, .unset, .unset] [])) _
    refine XS.iloadN X0.here hx rfl (hb hby at_0) rfl ?_
    show Steps p.tables e below (s₁.setTop (mkF m 1 #[.val (.int p0), .unset, .unset, .unset, .unset, .unset, .unset, .unset, .unset, .unset, .unset, .unset, .unset, .unset, .unset] [(.int p0)])) _
    refine XS.iconst X0.here hx rfl (hb hby at_1) ?_
    show Steps p.tables e below (s₁.setTop (mkF m 2 #[.val (.int p0), .unset, .unset, .unset, .unset, .unset, .unset, .unset, .unset, .unset, .unset, .unset, .unset, .unset, .unset] [(.int (1 : Int32)), (.int p0)])) _
    refine XS.iand X0.here hx rfl (hb hby at_2) rfl ?_
    exact k)
  obtain ⟨T2, L2, X2, e2, N2, pre2⟩ : ∃ (T' : State) (locs' : List Loc), Stand p l e room_1 s m #[(.int p0)] below meth c T' locs' 0 0 ∧ T'.heap = h0 ∧ Fr n0 locs' ∧ ∀ t, Steps p.tables e below (T'.setTop (mkF m 11 #[.val (.int p0), .unset, .unset, .unset, .unset, .unset, .unset, .unset, .unset, .unset, .unset, .unset, .unset, .unset, .unset] [(.int (f0_m5 p0))])) t → Steps p.tables e below (s₁.setTop (entryFrame m #[(.int p0)] maxLocals)) t := by
    by_cases hc3_2 : (p0 &&& (1 : Int32)) = (0 : Int32)
    · have pre3 : ∀ t, Steps p.tables e below (s₁.setTop (mkF m 11 #[.val (.int p0), .unset, .unset, .unset, .unset, .unset, .unset, .unset, .unset, .unset, .unset, .unset, .unset, .unset, .unset] [(.int (0 : Int32))])) t → Steps p.tables e below (s₁.setTop (entryFrame m #[(.int p0)] maxLocals)) t := fun t k => pre1 t (by
        show Steps p.tables e below (s₁.setTop (mkF m 3 #[.val (.int p0), .unset, .unset, .unset, .unset, .unset, .unset, .unset, .unset, .unset, .unset, .unset, .unset, .unset, .unset] [(.int (p0 &&& (1 : Int32)))])) _
        refine XS.ifYes X0.here hx rfl (pc0 := 3) (pc' := 10) rfl (hb hby at_3) rfl ((if0 _ _).trans (teq hc3_2).1) (by decide) (by decide) ?_
        show Steps p.tables e below (s₁.setTop (mkF m 10 #[.val (.int p0), .unset, .unset, .unset, .unset, .unset, .unset, .unset, .unset, .unset, .unset, .unset, .unset, .unset, .unset] [])) _
        refine XS.iconst X0.here hx rfl (hb hby at_10) ?_
        exact k)
      have q_f0_m5 : f0_m5 p0 = (0 : Int32) := by unfold f0_m5; rw [if_pos hc3_2]
      rw [q_f0_m5]
      exact ⟨s₁, _, X0, e0, N0, pre3⟩
    have pre4 : ∀ t, Steps p.tables e below (s₁.setTop (mkF m 11 #[.val (.int p0), .unset, .unset, .unset, .unset, .unset, .unset, .unset, .unset, .unset, .unset, .unset, .unset, .unset, .unset] [(.int (1 : Int32))])) t → Steps p.tables e below (s₁.setTop (entryFrame m #[(.int p0)] maxLocals)) t := fun t k => pre1 t (by
      show Steps p.tables e below (s₁.setTop (mkF m 3 #[.val (.int p0), .unset, .unset, .unset, .unset, .unset, .unset, .unset, .unset, .unset, .unset, .unset, .unset, .unset, .unset] [(.int (p0 &&& (1 : Int32)))])) _
      refine XS.ifNo X0.here hx rfl (hb hby at_3) rfl ((if0 _ _).trans (feq hc3_2).1) ?_
      show Steps p.tables e below (s₁.setTop (mkF m 6 #[.val (.int p0), .unset, .unset, .unset, .unset, .unset, .unset, .unset, .unset, .unset, .unset, .unset, .unset, .unset, .unset] [])) _
      refine XS.iconst X0.here hx rfl (hb hby at_6) ?_
      show Steps p.tables e below (s₁.setTop (mkF m 7 #[.val (.int p0), .unset, .unset, .unset, .unset, .unset, .unset, .unset, .unset, .unset, .unset, .unset, .unset, .unset, .unset] [(.int (1 : Int32))])) _
      refine XS.goto X0.here hx rfl (pc0 := 7) (pc' := 11) rfl (hb hby at_7) (by decide) (by decide) ?_
      exact k)
    have q_f0_m5 : f0_m5 p0 = (1 : Int32) := by unfold f0_m5; rw [if_neg hc3_2]
    rw [q_f0_m5]
    exact ⟨s₁, _, X0, e0, N0, pre4⟩
  have pre6 : ∀ t, Steps p.tables e below (T2.setTop (mkF m 15 #[.val (.int p0), .val (.int (f0_m5 p0)), .unset, .unset, .unset, .unset, .unset, .unset, .unset, .unset, .unset, .unset, .unset, .unset, .unset] [(.int (p0 &&& (2 : Int32)))])) t → Steps p.tables e below (s₁.setTop (entryFrame m #[(.int p0)] maxLocals)) t := fun t k => pre2 t (by
    show Steps p.tables e below (T2.setTop (mkF m 11 #[.val (.int p0), .unset, .unset, .unset, .unset, .unset, .unset, .unset, .unset, .unset, .unset, .unset, .unset, .unset, .unset] [(.int (f0_m5 p0))])) _
    refine XS.istoreN X2.here hx rfl (hb hby at_11) rfl (l' := #[.val (.int p0), .val (.int (f0_m5 p0)), .unset, .unset, .unset, .unset, .unset, .unset, .unset, .unset, .unset, .unset, .unset, .unset, .unset]) rfl ?_
    show Steps p.tables e below (T2.setTop (mkF m 12 #[.val (.int p0), .val (.int (f0_m5 p0)), .unset, .unset, .unset, .unset, .unset, .unset, .unset, .unset, .unset, .unset, .unset, .unset, .unset] [])) _
    refine XS.iloadN X2.here hx rfl (hb hby at_12) rfl ?_
    show Steps p.tables e below (T2.setTop (mkF m 13 #[.val (.int p0), .val (.int (f0_m5 p0)), .unset, .unset, .unset, .unset, .unset, .unset, .unset, .unset, .unset, .unset, .unset, .unset, .unset] [(.int p0)])) _
    refine XS.iconst X2.here hx rfl (hb hby at_13) ?_
    show Steps p.tables e below (T2.setTop (mkF m 14 #[.val (.int p0), .val (.int (f0_m5 p0)), .unset, .unset, .unset, .unset, .unset, .unset, .unset, .unset, .unset, .unset, .unset, .unset, .unset] [(.int (2 : Int32)), (.int p0)])) _
    refine XS.iand X2.here hx rfl (hb hby at_14) rfl ?_
    exact k)
  obtain ⟨T7, L7, X7, e7, N7, pre7⟩ : ∃ (T' : State) (locs' : List Loc), Stand p l e room_1 s m #[(.int p0)] below meth c T' locs' 0 0 ∧ T'.heap = h0 ∧ Fr n0 locs' ∧ ∀ t, Steps p.tables e below (T'.setTop (mkF m 23 #[.val (.int p0), .val (.int (f0_m5 p0)), .unset, .unset, .unset, .unset, .unset, .unset, .unset, .unset, .unset, .unset, .unset, .unset, .unset] [(.int (f0_m10 p0))])) t → Steps p.tables e below (s₁.setTop (entryFrame m #[(.int p0)] maxLocals)) t := by
    by_cases hc15_7 : (p0 &&& (2 : Int32)) = (0 : Int32)
    · have pre8 : ∀ t, Steps p.tables e below (T2.setTop (mkF m 23 #[.val (.int p0), .val (.int (f0_m5 p0)), .unset, .unset, .unset, .unset, .unset, .unset, .unset, .unset, .unset, .unset, .unset, .unset, .unset] [(.int (0 : Int32))])) t → Steps p.tables e below (s₁.setTop (entryFrame m #[(.int p0)] maxLocals)) t := fun t k => pre6 t (by
        show Steps p.tables e below (T2.setTop (mkF m 15 #[.val (.int p0), .val (.int (f0_m5 p0)), .unset, .unset, .unset, .unset, .unset, .unset, .unset, .unset, .unset, .unset, .unset, .unset, .unset] [(.int (p0 &&& (2 : Int32)))])) _
        refine XS.ifYes X2.here hx rfl (pc0 := 15) (pc' := 22) rfl (hb hby at_15) rfl ((if0 _ _).trans (teq hc15_7).1) (by decide) (by decide) ?_
        show Steps p.tables e below (T2.setTop (mkF m 22 #[.val (.int p0), .val (.int (f0_m5 p0)), .unset, .unset, .unset, .unset, .unset, .unset, .unset, .unset, .unset, .unset, .unset, .unset, .unset] [])) _
        refine XS.iconst X2.here hx rfl (hb hby at_22) ?_
        exact k)
      have q_f0_m10 : f0_m10 p0 = (0 : Int32) := by unfold f0_m10; rw [if_pos hc15_7]
      rw [q_f0_m10]
      exact ⟨T2, _, X2, e2, N2, pre8⟩
    have pre9 : ∀ t, Steps p.tables e below (T2.setTop (mkF m 23 #[.val (.int p0), .val (.int (f0_m5 p0)), .unset, .unset, .unset, .unset, .unset, .unset, .unset, .unset, .unset, .unset, .unset, .unset, .unset] [(.int (1 : Int32))])) t → Steps p.tables e below (s₁.setTop (entryFrame m #[(.int p0)] maxLocals)) t := fun t k => pre6 t (by
      show Steps p.tables e below (T2.setTop (mkF m 15 #[.val (.int p0), .val (.int (f0_m5 p0)), .unset, .unset, .unset, .unset, .unset, .unset, .unset, .unset, .unset, .unset, .unset, .unset, .unset] [(.int (p0 &&& (2 : Int32)))])) _
      refine XS.ifNo X2.here hx rfl (hb hby at_15) rfl ((if0 _ _).trans (feq hc15_7).1) ?_
      show Steps p.tables e below (T2.setTop (mkF m 18 #[.val (.int p0), .val (.int (f0_m5 p0)), .unset, .unset, .unset, .unset, .unset, .unset, .unset, .unset, .unset, .unset, .unset, .unset, .unset] [])) _
      refine XS.iconst X2.here hx rfl (hb hby at_18) ?_
      show Steps p.tables e below (T2.setTop (mkF m 19 #[.val (.int p0), .val (.int (f0_m5 p0)), .unset, .unset, .unset, .unset, .unset, .unset, .unset, .unset, .unset, .unset, .unset, .unset, .unset] [(.int (1 : Int32))])) _
      refine XS.goto X2.here hx rfl (pc0 := 19) (pc' := 23) rfl (hb hby at_19) (by decide) (by decide) ?_
      exact k)
    have q_f0_m10 : f0_m10 p0 = (1 : Int32) := by unfold f0_m10; rw [if_neg hc15_7]
    rw [q_f0_m10]
    exact ⟨T2, _, X2, e2, N2, pre9⟩
  have pre11 : ∀ t, Steps p.tables e below (T7.setTop (mkF m 27 #[.val (.int p0), .val (.int (f0_m5 p0)), .val (.int (f0_m10 p0)), .unset, .unset, .unset, .unset, .unset, .unset, .unset, .unset, .unset, .unset, .unset, .unset] [(.int (p0 &&& (4 : Int32)))])) t → Steps p.tables e below (s₁.setTop (entryFrame m #[(.int p0)] maxLocals)) t := fun t k => pre7 t (by
    show Steps p.tables e below (T7.setTop (mkF m 23 #[.val (.int p0), .val (.int (f0_m5 p0)), .unset, .unset, .unset, .unset, .unset, .unset, .unset, .unset, .unset, .unset, .unset, .unset, .unset] [(.int (f0_m10 p0))])) _
    refine XS.istoreN X7.here hx rfl (hb hby at_23) rfl (l' := #[.val (.int p0), .val (.int (f0_m5 p0)), .val (.int (f0_m10 p0)), .unset, .unset, .unset, .unset, .unset, .unset, .unset, .unset, .unset, .unset, .unset, .unset]) rfl ?_
    show Steps p.tables e below (T7.setTop (mkF m 24 #[.val (.int p0), .val (.int (f0_m5 p0)), .val (.int (f0_m10 p0)), .unset, .unset, .unset, .unset, .unset, .unset, .unset, .unset, .unset, .unset, .unset, .unset] [])) _
    refine XS.iloadN X7.here hx rfl (hb hby at_24) rfl ?_
    show Steps p.tables e below (T7.setTop (mkF m 25 #[.val (.int p0), .val (.int (f0_m5 p0)), .val (.int (f0_m10 p0)), .unset, .unset, .unset, .unset, .unset, .unset, .unset, .unset, .unset, .unset, .unset, .unset] [(.int p0)])) _
    refine XS.iconst X7.here hx rfl (hb hby at_25) ?_
    show Steps p.tables e below (T7.setTop (mkF m 26 #[.val (.int p0), .val (.int (f0_m5 p0)), .val (.int (f0_m10 p0)), .unset, .unset, .unset, .unset, .unset, .unset, .unset, .unset, .unset, .unset, .unset, .unset] [(.int (4 : Int32)), (.int p0)])) _
    refine XS.iand X7.here hx rfl (hb hby at_26) rfl ?_
    exact k)
  obtain ⟨T12, L12, X12, e12, N12, pre12⟩ : ∃ (T' : State) (locs' : List Loc), Stand p l e room_1 s m #[(.int p0)] below meth c T' locs' 0 0 ∧ T'.heap = h0 ∧ Fr n0 locs' ∧ ∀ t, Steps p.tables e below (T'.setTop (mkF m 35 #[.val (.int p0), .val (.int (f0_m5 p0)), .val (.int (f0_m10 p0)), .unset, .unset, .unset, .unset, .unset, .unset, .unset, .unset, .unset, .unset, .unset, .unset] [(.int (f0_m15 p0))])) t → Steps p.tables e below (s₁.setTop (entryFrame m #[(.int p0)] maxLocals)) t := by
    by_cases hc27_12 : (p0 &&& (4 : Int32)) = (0 : Int32)
    · have pre13 : ∀ t, Steps p.tables e below (T7.setTop (mkF m 35 #[.val (.int p0), .val (.int (f0_m5 p0)), .val (.int (f0_m10 p0)), .unset, .unset, .unset, .unset, .unset, .unset, .unset, .unset, .unset, .unset, .unset, .unset] [(.int (0 : Int32))])) t → Steps p.tables e below (s₁.setTop (entryFrame m #[(.int p0)] maxLocals)) t := fun t k => pre11 t (by
        show Steps p.tables e below (T7.setTop (mkF m 27 #[.val (.int p0), .val (.int (f0_m5 p0)), .val (.int (f0_m10 p0)), .unset, .unset, .unset, .unset, .unset, .unset, .unset, .unset, .unset, .unset, .unset, .unset] [(.int (p0 &&& (4 : Int32)))])) _
        refine XS.ifYes X7.here hx rfl (pc0 := 27) (pc' := 34) rfl (hb hby at_27) rfl ((if0 _ _).trans (teq hc27_12).1) (by decide) (by decide) ?_
        show Steps p.tables e below (T7.setTop (mkF m 34 #[.val (.int p0), .val (.int (f0_m5 p0)), .val (.int (f0_m10 p0)), .unset, .unset, .unset, .unset, .unset, .unset, .unset, .unset, .unset, .unset, .unset, .unset] [])) _
        refine XS.iconst X7.here hx rfl (hb hby at_34) ?_
        exact k)
      have q_f0_m15 : f0_m15 p0 = (0 : Int32) := by unfold f0_m15; rw [if_pos hc27_12]
      rw [q_f0_m15]
      exact ⟨T7, _, X7, e7, N7, pre13⟩
    have pre14 : ∀ t, Steps p.tables e below (T7.setTop (mkF m 35 #[.val (.int p0), .val (.int (f0_m5 p0)), .val (.int (f0_m10 p0)), .unset, .unset, .unset, .unset, .unset, .unset, .unset, .unset, .unset, .unset, .unset, .unset] [(.int (1 : Int32))])) t → Steps p.tables e below (s₁.setTop (entryFrame m #[(.int p0)] maxLocals)) t := fun t k => pre11 t (by
      show Steps p.tables e below (T7.setTop (mkF m 27 #[.val (.int p0), .val (.int (f0_m5 p0)), .val (.int (f0_m10 p0)), .unset, .unset, .unset, .unset, .unset, .unset, .unset, .unset, .unset, .unset, .unset, .unset] [(.int (p0 &&& (4 : Int32)))])) _
      refine XS.ifNo X7.here hx rfl (hb hby at_27) rfl ((if0 _ _).trans (feq hc27_12).1) ?_
      show Steps p.tables e below (T7.setTop (mkF m 30 #[.val (.int p0), .val (.int (f0_m5 p0)), .val (.int (f0_m10 p0)), .unset, .unset, .unset, .unset, .unset, .unset, .unset, .unset, .unset, .unset, .unset, .unset] [])) _
      refine XS.iconst X7.here hx rfl (hb hby at_30) ?_
      show Steps p.tables e below (T7.setTop (mkF m 31 #[.val (.int p0), .val (.int (f0_m5 p0)), .val (.int (f0_m10 p0)), .unset, .unset, .unset, .unset, .unset, .unset, .unset, .unset, .unset, .unset, .unset, .unset] [(.int (1 : Int32))])) _
      refine XS.goto X7.here hx rfl (pc0 := 31) (pc' := 35) rfl (hb hby at_31) (by decide) (by decide) ?_
      exact k)
    have q_f0_m15 : f0_m15 p0 = (1 : Int32) := by unfold f0_m15; rw [if_neg hc27_12]
    rw [q_f0_m15]
    exact ⟨T7, _, X7, e7, N7, pre14⟩
  have pre16 : ∀ t, Steps p.tables e below (T12.setTop (mkF m 40 #[.val (.int p0), .val (.int (f0_m5 p0)), .val (.int (f0_m10 p0)), .val (.int (f0_m15 p0)), .unset, .unset, .unset, .unset, .unset, .unset, .unset, .unset, .unset, .unset, .unset] [(.int (p0 &&& (8 : Int32)))])) t → Steps p.tables e below (s₁.setTop (entryFrame m #[(.int p0)] maxLocals)) t := fun t k => pre12 t (by
    show Steps p.tables e below (T12.setTop (mkF m 35 #[.val (.int p0), .val (.int (f0_m5 p0)), .val (.int (f0_m10 p0)), .unset, .unset, .unset, .unset, .unset, .unset, .unset, .unset, .unset, .unset, .unset, .unset] [(.int (f0_m15 p0))])) _
    refine XS.istoreN X12.here hx rfl (hb hby at_35) rfl (l' := #[.val (.int p0), .val (.int (f0_m5 p0)), .val (.int (f0_m10 p0)), .val (.int (f0_m15 p0)), .unset, .unset, .unset, .unset, .unset, .unset, .unset, .unset, .unset, .unset, .unset]) rfl ?_
    show Steps p.tables e below (T12.setTop (mkF m 36 #[.val (.int p0), .val (.int (f0_m5 p0)), .val (.int (f0_m10 p0)), .val (.int (f0_m15 p0)), .unset, .unset, .unset, .unset, .unset, .unset, .unset, .unset, .unset, .unset, .unset] [])) _
    refine XS.iloadN X12.here hx rfl (hb hby at_36) rfl ?_
    show Steps p.tables e below (T12.setTop (mkF m 37 #[.val (.int p0), .val (.int (f0_m5 p0)), .val (.int (f0_m10 p0)), .val (.int (f0_m15 p0)), .unset, .unset, .unset, .unset, .unset, .unset, .unset, .unset, .unset, .unset, .unset] [(.int p0)])) _
    refine XS.bipush X12.here hx rfl (hb hby at_37) ?_
    show Steps p.tables e below (T12.setTop (mkF m 39 #[.val (.int p0), .val (.int (f0_m5 p0)), .val (.int (f0_m10 p0)), .val (.int (f0_m15 p0)), .unset, .unset, .unset, .unset, .unset, .unset, .unset, .unset, .unset, .unset, .unset] [(.int (8 : Int32)), (.int p0)])) _
    refine XS.iand X12.here hx rfl (hb hby at_39) rfl ?_
    exact k)
  obtain ⟨T17, L17, X17, e17, N17, pre17⟩ : ∃ (T' : State) (locs' : List Loc), Stand p l e room_1 s m #[(.int p0)] below meth c T' locs' 0 0 ∧ T'.heap = h0 ∧ Fr n0 locs' ∧ ∀ t, Steps p.tables e below (T'.setTop (mkF m 48 #[.val (.int p0), .val (.int (f0_m5 p0)), .val (.int (f0_m10 p0)), .val (.int (f0_m15 p0)), .unset, .unset, .unset, .unset, .unset, .unset, .unset, .unset, .unset, .unset, .unset] [(.int (f0_m20 p0))])) t → Steps p.tables e below (s₁.setTop (entryFrame m #[(.int p0)] maxLocals)) t := by
    by_cases hc40_17 : (p0 &&& (8 : Int32)) = (0 : Int32)
    · have pre18 : ∀ t, Steps p.tables e below (T12.setTop (mkF m 48 #[.val (.int p0), .val (.int (f0_m5 p0)), .val (.int (f0_m10 p0)), .val (.int (f0_m15 p0)), .unset, .unset, .unset, .unset, .unset, .unset, .unset, .unset, .unset, .unset, .unset] [(.int (0 : Int32))])) t → Steps p.tables e below (s₁.setTop (entryFrame m #[(.int p0)] maxLocals)) t := fun t k => pre16 t (by
        show Steps p.tables e below (T12.setTop (mkF m 40 #[.val (.int p0), .val (.int (f0_m5 p0)), .val (.int (f0_m10 p0)), .val (.int (f0_m15 p0)), .unset, .unset, .unset, .unset, .unset, .unset, .unset, .unset, .unset, .unset, .unset] [(.int (p0 &&& (8 : Int32)))])) _
        refine XS.ifYes X12.here hx rfl (pc0 := 40) (pc' := 47) rfl (hb hby at_40) rfl ((if0 _ _).trans (teq hc40_17).1) (by decide) (by decide) ?_
        show Steps p.tables e below (T12.setTop (mkF m 47 #[.val (.int p0), .val (.int (f0_m5 p0)), .val (.int (f0_m10 p0)), .val (.int (f0_m15 p0)), .unset, .unset, .unset, .unset, .unset, .unset, .unset, .unset, .unset, .unset, .unset] [])) _
        refine XS.iconst X12.here hx rfl (hb hby at_47) ?_
        exact k)
      have q_f0_m20 : f0_m20 p0 = (0 : Int32) := by unfold f0_m20; rw [if_pos hc40_17]
      rw [q_f0_m20]
      exact ⟨T12, _, X12, e12, N12, pre18⟩
    have pre19 : ∀ t, Steps p.tables e below (T12.setTop (mkF m 48 #[.val (.int p0), .val (.int (f0_m5 p0)), .val (.int (f0_m10 p0)), .val (.int (f0_m15 p0)), .unset, .unset, .unset, .unset, .unset, .unset, .unset, .unset, .unset, .unset, .unset] [(.int (1 : Int32))])) t → Steps p.tables e below (s₁.setTop (entryFrame m #[(.int p0)] maxLocals)) t := fun t k => pre16 t (by
      show Steps p.tables e below (T12.setTop (mkF m 40 #[.val (.int p0), .val (.int (f0_m5 p0)), .val (.int (f0_m10 p0)), .val (.int (f0_m15 p0)), .unset, .unset, .unset, .unset, .unset, .unset, .unset, .unset, .unset, .unset, .unset] [(.int (p0 &&& (8 : Int32)))])) _
      refine XS.ifNo X12.here hx rfl (hb hby at_40) rfl ((if0 _ _).trans (feq hc40_17).1) ?_
      show Steps p.tables e below (T12.setTop (mkF m 43 #[.val (.int p0), .val (.int (f0_m5 p0)), .val (.int (f0_m10 p0)), .val (.int (f0_m15 p0)), .unset, .unset, .unset, .unset, .unset, .unset, .unset, .unset, .unset, .unset, .unset] [])) _
      refine XS.iconst X12.here hx rfl (hb hby at_43) ?_
      show Steps p.tables e below (T12.setTop (mkF m 44 #[.val (.int p0), .val (.int (f0_m5 p0)), .val (.int (f0_m10 p0)), .val (.int (f0_m15 p0)), .unset, .unset, .unset, .unset, .unset, .unset, .unset, .unset, .unset, .unset, .unset] [(.int (1 : Int32))])) _
      refine XS.goto X12.here hx rfl (pc0 := 44) (pc' := 48) rfl (hb hby at_44) (by decide) (by decide) ?_
      exact k)
    have q_f0_m20 : f0_m20 p0 = (1 : Int32) := by unfold f0_m20; rw [if_neg hc40_17]
    rw [q_f0_m20]
    exact ⟨T12, _, X12, e12, N12, pre19⟩
  have pre21 : ∀ t, Steps p.tables e below (T17.setTop (mkF m 54 #[.val (.int p0), .val (.int (f0_m5 p0)), .val (.int (f0_m10 p0)), .val (.int (f0_m15 p0)), .val (.int (f0_m20 p0)), .unset, .unset, .unset, .unset, .unset, .unset, .unset, .unset, .unset, .unset] [(.int (p0 &&& (16 : Int32)))])) t → Steps p.tables e below (s₁.setTop (entryFrame m #[(.int p0)] maxLocals)) t := fun t k => pre17 t (by
    show Steps p.tables e below (T17.setTop (mkF m 48 #[.val (.int p0), .val (.int (f0_m5 p0)), .val (.int (f0_m10 p0)), .val (.int (f0_m15 p0)), .unset, .unset, .unset, .unset, .unset, .unset, .unset, .unset, .unset, .unset, .unset] [(.int (f0_m20 p0))])) _
    refine XS.istore X17.here hx rfl (hb hby at_48) rfl (l' := #[.val (.int p0), .val (.int (f0_m5 p0)), .val (.int (f0_m10 p0)), .val (.int (f0_m15 p0)), .val (.int (f0_m20 p0)), .unset, .unset, .unset, .unset, .unset, .unset, .unset, .unset, .unset, .unset]) rfl ?_
    show Steps p.tables e below (T17.setTop (mkF m 50 #[.val (.int p0), .val (.int (f0_m5 p0)), .val (.int (f0_m10 p0)), .val (.int (f0_m15 p0)), .val (.int (f0_m20 p0)), .unset, .unset, .unset, .unset, .unset, .unset, .unset, .unset, .unset, .unset] [])) _
    refine XS.iloadN X17.here hx rfl (hb hby at_50) rfl ?_
    show Steps p.tables e below (T17.setTop (mkF m 51 #[.val (.int p0), .val (.int (f0_m5 p0)), .val (.int (f0_m10 p0)), .val (.int (f0_m15 p0)), .val (.int (f0_m20 p0)), .unset, .unset, .unset, .unset, .unset, .unset, .unset, .unset, .unset, .unset] [(.int p0)])) _
    refine XS.bipush X17.here hx rfl (hb hby at_51) ?_
    show Steps p.tables e below (T17.setTop (mkF m 53 #[.val (.int p0), .val (.int (f0_m5 p0)), .val (.int (f0_m10 p0)), .val (.int (f0_m15 p0)), .val (.int (f0_m20 p0)), .unset, .unset, .unset, .unset, .unset, .unset, .unset, .unset, .unset, .unset] [(.int (16 : Int32)), (.int p0)])) _
    refine XS.iand X17.here hx rfl (hb hby at_53) rfl ?_
    exact k)
  obtain ⟨T22, L22, X22, e22, N22, pre22⟩ : ∃ (T' : State) (locs' : List Loc), Stand p l e room_1 s m #[(.int p0)] below meth c T' locs' 0 0 ∧ T'.heap = h0 ∧ Fr n0 locs' ∧ ∀ t, Steps p.tables e below (T'.setTop (mkF m 62 #[.val (.int p0), .val (.int (f0_m5 p0)), .val (.int (f0_m10 p0)), .val (.int (f0_m15 p0)), .val (.int (f0_m20 p0)), .unset, .unset, .unset, .unset, .unset, .unset, .unset, .unset, .unset, .unset] [(.int (f0_m25 p0))])) t → Steps p.tables e below (s₁.setTop (entryFrame m #[(.int p0)] maxLocals)) t := by
    by_cases hc54_22 : (p0 &&& (16 : Int32)) = (0 : Int32)
    · have pre23 : ∀ t, Steps p.tables e below (T17.setTop (mkF m 62 #[.val (.int p0), .val (.int (f0_m5 p0)), .val (.int (f0_m10 p0)), .val (.int (f0_m15 p0)), .val (.int (f0_m20 p0)), .unset, .unset, .unset, .unset, .unset, .unset, .unset, .unset, .unset, .unset] [(.int (0 : Int32))])) t → Steps p.tables e below (s₁.setTop (entryFrame m #[(.int p0)] maxLocals)) t := fun t k => pre21 t (by
        show Steps p.tables e below (T17.setTop (mkF m 54 #[.val (.int p0), .val (.int (f0_m5 p0)), .val (.int (f0_m10 p0)), .val (.int (f0_m15 p0)), .val (.int (f0_m20 p0)), .unset, .unset, .unset, .unset, .unset, .unset, .unset, .unset, .unset, .unset] [(.int (p0 &&& (16 : Int32)))])) _
        refine XS.ifYes X17.here hx rfl (pc0 := 54) (pc' := 61) rfl (hb hby at_54) rfl ((if0 _ _).trans (teq hc54_22).1) (by decide) (by decide) ?_
        show Steps p.tables e below (T17.setTop (mkF m 61 #[.val (.int p0), .val (.int (f0_m5 p0)), .val (.int (f0_m10 p0)), .val (.int (f0_m15 p0)), .val (.int (f0_m20 p0)), .unset, .unset, .unset, .unset, .unset, .unset, .unset, .unset, .unset, .unset] [])) _
        refine XS.iconst X17.here hx rfl (hb hby at_61) ?_
        exact k)
      have q_f0_m25 : f0_m25 p0 = (0 : Int32) := by unfold f0_m25; rw [if_pos hc54_22]
      rw [q_f0_m25]
      exact ⟨T17, _, X17, e17, N17, pre23⟩
    have pre24 : ∀ t, Steps p.tables e below (T17.setTop (mkF m 62 #[.val (.int p0), .val (.int (f0_m5 p0)), .val (.int (f0_m10 p0)), .val (.int (f0_m15 p0)), .val (.int (f0_m20 p0)), .unset, .unset, .unset, .unset, .unset, .unset, .unset, .unset, .unset, .unset] [(.int (1 : Int32))])) t → Steps p.tables e below (s₁.setTop (entryFrame m #[(.int p0)] maxLocals)) t := fun t k => pre21 t (by
      show Steps p.tables e below (T17.setTop (mkF m 54 #[.val (.int p0), .val (.int (f0_m5 p0)), .val (.int (f0_m10 p0)), .val (.int (f0_m15 p0)), .val (.int (f0_m20 p0)), .unset, .unset, .unset, .unset, .unset, .unset, .unset, .unset, .unset, .unset] [(.int (p0 &&& (16 : Int32)))])) _
      refine XS.ifNo X17.here hx rfl (hb hby at_54) rfl ((if0 _ _).trans (feq hc54_22).1) ?_
      show Steps p.tables e below (T17.setTop (mkF m 57 #[.val (.int p0), .val (.int (f0_m5 p0)), .val (.int (f0_m10 p0)), .val (.int (f0_m15 p0)), .val (.int (f0_m20 p0)), .unset, .unset, .unset, .unset, .unset, .unset, .unset, .unset, .unset, .unset] [])) _
      refine XS.iconst X17.here hx rfl (hb hby at_57) ?_
      show Steps p.tables e below (T17.setTop (mkF m 58 #[.val (.int p0), .val (.int (f0_m5 p0)), .val (.int (f0_m10 p0)), .val (.int (f0_m15 p0)), .val (.int (f0_m20 p0)), .unset, .unset, .unset, .unset, .unset, .unset, .unset, .unset, .unset, .unset] [(.int (1 : Int32))])) _
      refine XS.goto X17.here hx rfl (pc0 := 58) (pc' := 62) rfl (hb hby at_58) (by decide) (by decide) ?_
      exact k)
    have q_f0_m25 : f0_m25 p0 = (1 : Int32) := by unfold f0_m25; rw [if_neg hc54_22]
    rw [q_f0_m25]
    exact ⟨T17, _, X17, e17, N17, pre24⟩
  have pre26 : ∀ t, Steps p.tables e below (T22.setTop (mkF m 68 #[.val (.int p0), .val (.int (f0_m5 p0)), .val (.int (f0_m10 p0)), .val (.int (f0_m15 p0)), .val (.int (f0_m20 p0)), .val (.int (f0_m25 p0)), .unset, .unset, .unset, .unset, .unset, .unset, .unset, .unset, .unset] [(.int (p0 &&& (32 : Int32)))])) t → Steps p.tables e below (s₁.setTop (entryFrame m #[(.int p0)] maxLocals)) t := fun t k => pre22 t (by
    show Steps p.tables e below (T22.setTop (mkF m 62 #[.val (.int p0), .val (.int (f0_m5 p0)), .val (.int (f0_m10 p0)), .val (.int (f0_m15 p0)), .val (.int (f0_m20 p0)), .unset, .unset, .unset, .unset, .unset, .unset, .unset, .unset, .unset, .unset] [(.int (f0_m25 p0))])) _
    refine XS.istore X22.here hx rfl (hb hby at_62) rfl (l' := #[.val (.int p0), .val (.int (f0_m5 p0)), .val (.int (f0_m10 p0)), .val (.int (f0_m15 p0)), .val (.int (f0_m20 p0)), .val (.int (f0_m25 p0)), .unset, .unset, .unset, .unset, .unset, .unset, .unset, .unset, .unset]) rfl ?_
    show Steps p.tables e below (T22.setTop (mkF m 64 #[.val (.int p0), .val (.int (f0_m5 p0)), .val (.int (f0_m10 p0)), .val (.int (f0_m15 p0)), .val (.int (f0_m20 p0)), .val (.int (f0_m25 p0)), .unset, .unset, .unset, .unset, .unset, .unset, .unset, .unset, .unset] [])) _
    refine XS.iloadN X22.here hx rfl (hb hby at_64) rfl ?_
    show Steps p.tables e below (T22.setTop (mkF m 65 #[.val (.int p0), .val (.int (f0_m5 p0)), .val (.int (f0_m10 p0)), .val (.int (f0_m15 p0)), .val (.int (f0_m20 p0)), .val (.int (f0_m25 p0)), .unset, .unset, .unset, .unset, .unset, .unset, .unset, .unset, .unset] [(.int p0)])) _
    refine XS.bipush X22.here hx rfl (hb hby at_65) ?_
    show Steps p.tables e below (T22.setTop (mkF m 67 #[.val (.int p0), .val (.int (f0_m5 p0)), .val (.int (f0_m10 p0)), .val (.int (f0_m15 p0)), .val (.int (f0_m20 p0)), .val (.int (f0_m25 p0)), .unset, .unset, .unset, .unset, .unset, .unset, .unset, .unset, .unset] [(.int (32 : Int32)), (.int p0)])) _
    refine XS.iand X22.here hx rfl (hb hby at_67) rfl ?_
    exact k)
  obtain ⟨T27, L27, X27, e27, N27, pre27⟩ : ∃ (T' : State) (locs' : List Loc), Stand p l e room_1 s m #[(.int p0)] below meth c T' locs' 0 0 ∧ T'.heap = h0 ∧ Fr n0 locs' ∧ ∀ t, Steps p.tables e below (T'.setTop (mkF m 76 #[.val (.int p0), .val (.int (f0_m5 p0)), .val (.int (f0_m10 p0)), .val (.int (f0_m15 p0)), .val (.int (f0_m20 p0)), .val (.int (f0_m25 p0)), .unset, .unset, .unset, .unset, .unset, .unset, .unset, .unset, .unset] [(.int (f0_m30 p0))])) t → Steps p.tables e below (s₁.setTop (entryFrame m #[(.int p0)] maxLocals)) t := by
    by_cases hc68_27 : (p0 &&& (32 : Int32)) = (0 : Int32)
    · have pre28 : ∀ t, Steps p.tables e below (T22.setTop (mkF m 76 #[.val (.int p0), .val (.int (f0_m5 p0)), .val (.int (f0_m10 p0)), .val (.int (f0_m15 p0)), .val (.int (f0_m20 p0)), .val (.int (f0_m25 p0)), .unset, .unset, .unset, .unset, .unset, .unset, .unset, .unset, .unset] [(.int (0 : Int32))])) t → Steps p.tables e below (s₁.setTop (entryFrame m #[(.int p0)] maxLocals)) t := fun t k => pre26 t (by
        show Steps p.tables e below (T22.setTop (mkF m 68 #[.val (.int p0), .val (.int (f0_m5 p0)), .val (.int (f0_m10 p0)), .val (.int (f0_m15 p0)), .val (.int (f0_m20 p0)), .val (.int (f0_m25 p0)), .unset, .unset, .unset, .unset, .unset, .unset, .unset, .unset, .unset] [(.int (p0 &&& (32 : Int32)))])) _
        refine XS.ifYes X22.here hx rfl (pc0 := 68) (pc' := 75) rfl (hb hby at_68) rfl ((if0 _ _).trans (teq hc68_27).1) (by decide) (by decide) ?_
        show Steps p.tables e below (T22.setTop (mkF m 75 #[.val (.int p0), .val (.int (f0_m5 p0)), .val (.int (f0_m10 p0)), .val (.int (f0_m15 p0)), .val (.int (f0_m20 p0)), .val (.int (f0_m25 p0)), .unset, .unset, .unset, .unset, .unset, .unset, .unset, .unset, .unset] [])) _
        refine XS.iconst X22.here hx rfl (hb hby at_75) ?_
        exact k)
      have q_f0_m30 : f0_m30 p0 = (0 : Int32) := by unfold f0_m30; rw [if_pos hc68_27]
      rw [q_f0_m30]
      exact ⟨T22, _, X22, e22, N22, pre28⟩
    have pre29 : ∀ t, Steps p.tables e below (T22.setTop (mkF m 76 #[.val (.int p0), .val (.int (f0_m5 p0)), .val (.int (f0_m10 p0)), .val (.int (f0_m15 p0)), .val (.int (f0_m20 p0)), .val (.int (f0_m25 p0)), .unset, .unset, .unset, .unset, .unset, .unset, .unset, .unset, .unset] [(.int (1 : Int32))])) t → Steps p.tables e below (s₁.setTop (entryFrame m #[(.int p0)] maxLocals)) t := fun t k => pre26 t (by
      show Steps p.tables e below (T22.setTop (mkF m 68 #[.val (.int p0), .val (.int (f0_m5 p0)), .val (.int (f0_m10 p0)), .val (.int (f0_m15 p0)), .val (.int (f0_m20 p0)), .val (.int (f0_m25 p0)), .unset, .unset, .unset, .unset, .unset, .unset, .unset, .unset, .unset] [(.int (p0 &&& (32 : Int32)))])) _
      refine XS.ifNo X22.here hx rfl (hb hby at_68) rfl ((if0 _ _).trans (feq hc68_27).1) ?_
      show Steps p.tables e below (T22.setTop (mkF m 71 #[.val (.int p0), .val (.int (f0_m5 p0)), .val (.int (f0_m10 p0)), .val (.int (f0_m15 p0)), .val (.int (f0_m20 p0)), .val (.int (f0_m25 p0)), .unset, .unset, .unset, .unset, .unset, .unset, .unset, .unset, .unset] [])) _
      refine XS.iconst X22.here hx rfl (hb hby at_71) ?_
      show Steps p.tables e below (T22.setTop (mkF m 72 #[.val (.int p0), .val (.int (f0_m5 p0)), .val (.int (f0_m10 p0)), .val (.int (f0_m15 p0)), .val (.int (f0_m20 p0)), .val (.int (f0_m25 p0)), .unset, .unset, .unset, .unset, .unset, .unset, .unset, .unset, .unset] [(.int (1 : Int32))])) _
      refine XS.goto X22.here hx rfl (pc0 := 72) (pc' := 76) rfl (hb hby at_72) (by decide) (by decide) ?_
      exact k)
    have q_f0_m30 : f0_m30 p0 = (1 : Int32) := by unfold f0_m30; rw [if_neg hc68_27]
    rw [q_f0_m30]
    exact ⟨T22, _, X22, e22, N22, pre29⟩
  have pre31 : ∀ t, Steps p.tables e below (T27.setTop (mkF m 82 #[.val (.int p0), .val (.int (f0_m5 p0)), .val (.int (f0_m10 p0)), .val (.int (f0_m15 p0)), .val (.int (f0_m20 p0)), .val (.int (f0_m25 p0)), .val (.int (f0_m30 p0)), .unset, .unset, .unset, .unset, .unset, .unset, .unset, .unset] [(.int (p0 &&& (64 : Int32)))])) t → Steps p.tables e below (s₁.setTop (entryFrame m #[(.int p0)] maxLocals)) t := fun t k => pre27 t (by
    show Steps p.tables e below (T27.setTop (mkF m 76 #[.val (.int p0), .val (.int (f0_m5 p0)), .val (.int (f0_m10 p0)), .val (.int (f0_m15 p0)), .val (.int (f0_m20 p0)), .val (.int (f0_m25 p0)), .unset, .unset, .unset, .unset, .unset, .unset, .unset, .unset, .unset] [(.int (f0_m30 p0))])) _
    refine XS.istore X27.here hx rfl (hb hby at_76) rfl (l' := #[.val (.int p0), .val (.int (f0_m5 p0)), .val (.int (f0_m10 p0)), .val (.int (f0_m15 p0)), .val (.int (f0_m20 p0)), .val (.int (f0_m25 p0)), .val (.int (f0_m30 p0)), .unset, .unset, .unset, .unset, .unset, .unset, .unset, .unset]) rfl ?_
    show Steps p.tables e below (T27.setTop (mkF m 78 #[.val (.int p0), .val (.int (f0_m5 p0)), .val (.int (f0_m10 p0)), .val (.int (f0_m15 p0)), .val (.int (f0_m20 p0)), .val (.int (f0_m25 p0)), .val (.int (f0_m30 p0)), .unset, .unset, .unset, .unset, .unset, .unset, .unset, .unset] [])) _
    refine XS.iloadN X27.here hx rfl (hb hby at_78) rfl ?_
    show Steps p.tables e below (T27.setTop (mkF m 79 #[.val (.int p0), .val (.int (f0_m5 p0)), .val (.int (f0_m10 p0)), .val (.int (f0_m15 p0)), .val (.int (f0_m20 p0)), .val (.int (f0_m25 p0)), .val (.int (f0_m30 p0)), .unset, .unset, .unset, .unset, .unset, .unset, .unset, .unset] [(.int p0)])) _
    refine XS.bipush X27.here hx rfl (hb hby at_79) ?_
    show Steps p.tables e below (T27.setTop (mkF m 81 #[.val (.int p0), .val (.int (f0_m5 p0)), .val (.int (f0_m10 p0)), .val (.int (f0_m15 p0)), .val (.int (f0_m20 p0)), .val (.int (f0_m25 p0)), .val (.int (f0_m30 p0)), .unset, .unset, .unset, .unset, .unset, .unset, .unset, .unset] [(.int (64 : Int32)), (.int p0)])) _
    refine XS.iand X27.here hx rfl (hb hby at_81) rfl ?_
    exact k)
  obtain ⟨T32, L32, X32, e32, N32, pre32⟩ : ∃ (T' : State) (locs' : List Loc), Stand p l e room_1 s m #[(.int p0)] below meth c T' locs' 0 0 ∧ T'.heap = h0 ∧ Fr n0 locs' ∧ ∀ t, Steps p.tables e below (T'.setTop (mkF m 90 #[.val (.int p0), .val (.int (f0_m5 p0)), .val (.int (f0_m10 p0)), .val (.int (f0_m15 p0)), .val (.int (f0_m20 p0)), .val (.int (f0_m25 p0)), .val (.int (f0_m30 p0)), .unset, .unset, .unset, .unset, .unset, .unset, .unset, .unset] [(.int (f0_m35 p0))])) t → Steps p.tables e below (s₁.setTop (entryFrame m #[(.int p0)] maxLocals)) t := by
    by_cases hc82_32 : (p0 &&& (64 : Int32)) = (0 : Int32)
    · have pre33 : ∀ t, Steps p.tables e below (T27.setTop (mkF m 90 #[.val (.int p0), .val (.int (f0_m5 p0)), .val (.int (f0_m10 p0)), .val (.int (f0_m15 p0)), .val (.int (f0_m20 p0)), .val (.int (f0_m25 p0)), .val (.int (f0_m30 p0)), .unset, .unset, .unset, .unset, .unset, .unset, .unset, .unset] [(.int (0 : Int32))])) t → Steps p.tables e below (s₁.setTop (entryFrame m #[(.int p0)] maxLocals)) t := fun t k => pre31 t (by
        show Steps p.tables e below (T27.setTop (mkF m 82 #[.val (.int p0), .val (.int (f0_m5 p0)), .val (.int (f0_m10 p0)), .val (.int (f0_m15 p0)), .val (.int (f0_m20 p0)), .val (.int (f0_m25 p0)), .val (.int (f0_m30 p0)), .unset, .unset, .unset, .unset, .unset, .unset, .unset, .unset] [(.int (p0 &&& (64 : Int32)))])) _
        refine XS.ifYes X27.here hx rfl (pc0 := 82) (pc' := 89) rfl (hb hby at_82) rfl ((if0 _ _).trans (teq hc82_32).1) (by decide) (by decide) ?_
        show Steps p.tables e below (T27.setTop (mkF m 89 #[.val (.int p0), .val (.int (f0_m5 p0)), .val (.int (f0_m10 p0)), .val (.int (f0_m15 p0)), .val (.int (f0_m20 p0)), .val (.int (f0_m25 p0)), .val (.int (f0_m30 p0)), .unset, .unset, .unset, .unset, .unset, .unset, .unset, .unset] [])) _
        refine XS.iconst X27.here hx rfl (hb hby at_89) ?_
        exact k)
      have q_f0_m35 : f0_m35 p0 = (0 : Int32) := by unfold f0_m35; rw [if_pos hc82_32]
      rw [q_f0_m35]
      exact ⟨T27, _, X27, e27, N27, pre33⟩
    have pre34 : ∀ t, Steps p.tables e below (T27.setTop (mkF m 90 #[.val (.int p0), .val (.int (f0_m5 p0)), .val (.int (f0_m10 p0)), .val (.int (f0_m15 p0)), .val (.int (f0_m20 p0)), .val (.int (f0_m25 p0)), .val (.int (f0_m30 p0)), .unset, .unset, .unset, .unset, .unset, .unset, .unset, .unset] [(.int (1 : Int32))])) t → Steps p.tables e below (s₁.setTop (entryFrame m #[(.int p0)] maxLocals)) t := fun t k => pre31 t (by
      show Steps p.tables e below (T27.setTop (mkF m 82 #[.val (.int p0), .val (.int (f0_m5 p0)), .val (.int (f0_m10 p0)), .val (.int (f0_m15 p0)), .val (.int (f0_m20 p0)), .val (.int (f0_m25 p0)), .val (.int (f0_m30 p0)), .unset, .unset, .unset, .unset, .unset, .unset, .unset, .unset] [(.int (p0 &&& (64 : Int32)))])) _
      refine XS.ifNo X27.here hx rfl (hb hby at_82) rfl ((if0 _ _).trans (feq hc82_32).1) ?_
      show Steps p.tables e below (T27.setTop (mkF m 85 #[.val (.int p0), .val (.int (f0_m5 p0)), .val (.int (f0_m10 p0)), .val (.int (f0_m15 p0)), .val (.int (f0_m20 p0)), .val (.int (f0_m25 p0)), .val (.int (f0_m30 p0)), .unset, .unset, .unset, .unset, .unset, .unset, .unset, .unset] [])) _
      refine XS.iconst X27.here hx rfl (hb hby at_85) ?_
      show Steps p.tables e below (T27.setTop (mkF m 86 #[.val (.int p0), .val (.int (f0_m5 p0)), .val (.int (f0_m10 p0)), .val (.int (f0_m15 p0)), .val (.int (f0_m20 p0)), .val (.int (f0_m25 p0)), .val (.int (f0_m30 p0)), .unset, .unset, .unset, .unset, .unset, .unset, .unset, .unset] [(.int (1 : Int32))])) _
      refine XS.goto X27.here hx rfl (pc0 := 86) (pc' := 90) rfl (hb hby at_86) (by decide) (by decide) ?_
      exact k)
    have q_f0_m35 : f0_m35 p0 = (1 : Int32) := by unfold f0_m35; rw [if_neg hc82_32]
    rw [q_f0_m35]
    exact ⟨T27, _, X27, e27, N27, pre34⟩
  obtain ⟨_, _, ⟨T36, L36, k36, n36⟩, -, X36, ⟨Lc36, hQ36, l36, y36, z36⟩, st36⟩ := Jvm.LawKit.callS X32 hx (y := (⟨"com/example/tenon/tenon/Budget", "unlimited", "()Lcom/example/tenon/tenon/Budget;"⟩ : MethodName)) hown (mvT hZ (hw _ (List.mem_of_getElem? (i := 0) rfl))) (mvT hZ (hw _ (List.mem_of_getElem? (i := 1) rfl))) (mvT hZ (hw _ (List.mem_of_getElem? (i := 2) rfl))) (mvT hZ (hw _ (List.mem_of_getElem? (i := 3) rfl))) (by decide) (backOf (W := 0) (rm1 l Z a0' hw []  h0 n0 Z0) hZ (hw _ (List.mem_of_getElem? (i := 3) rfl)) (hw _ (List.mem_of_getElem? (i := 2) rfl)) (by decide) (by decide)) (g := (mkF m 92 #[.val (.int p0), .val (.int (f0_m5 p0)), .val (.int (f0_m10 p0)), .val (.int (f0_m15 p0)), .val (.int (f0_m20 p0)), .val (.int (f0_m25 p0)), .val (.int (f0_m30 p0)), .val (.int (f0_m35 p0)), .unset, .unset, .unset, .unset, .unset, .unset, .unset] [])) rfl (by rw [hml]; rfl) (argsL := []) (rest := []) (lenOf pd16 rfl) rfl (by show 2 * 0 + _ ≤ _; exact Nat.le_of_eq rfl) (hb hby at_92) (fun _ _ => ⟨rfl, e32, (by decide : 0 + 1 ≤ _), (by decide : 0 + 2 ≤ _)⟩)
  dsimp only [Pt.U, Pt.locs, Pt.cells, Pt.slots] at X36 l36 y36 z36 st36 hQ36
  subst l36 y36 z36
  obtain ⟨b36_0, rfl, N36q, gs_b36_0, g_b36_0, K36, u36_0, u36_1, u36_2⟩ := hQ36
  have N36 := Fr.app N32 N36q
  have Z36 : n0 ≤ T36.heap.size := Nat.le_trans Z0 K36.1
  have O36 : Old Z n0 T36.heap := OLD0.keep K36 all0
  obtain ⟨T37, h37, X37, e37, E37, A37, D37, -, st37⟩ := newO X36 hx hZ hown (hw _ (List.mem_of_getElem? (i := 15) rfl)) (hw _ (List.mem_of_getElem? (i := 16) rfl)) (hw _ (List.mem_of_getElem? (i := 17) rfl)) rfl (g := (mkF m 97 #[.val (.int p0), .val (.int (f0_m5 p0)), .val (.int (f0_m10 p0)), .val (.int (f0_m15 p0)), .val (.int (f0_m20 p0)), .val (.int (f0_m25 p0)), .val (.int (f0_m30 p0)), .val (.int (f0_m35 p0)), .val (.ref b36_0), .unset, .unset, .unset, .unset, .unset, .unset] [])) rfl (hb hby at_97) (by decide) (by decide)
  obtain ⟨b37, g37⟩ : ∃ z, z = T36.heap.size := ⟨_, rfl⟩
  rw [← g37] at A37 D37 st37
  have ne_b36_0_b37 : b36_0 ≠ b37 := Nat.ne_of_lt (Nat.lt_of_lt_of_le u36_0.lt (Nat.le_of_eq g37.symm))
  have g_b37 : n0 ≤ b37 := Nat.le_trans Z36 (Nat.le_of_eq g37.symm)
  have Z37 : n0 ≤ h37.size := Nat.le_trans Z36 E37.1
  have O37 : Old Z n0 h37 := O36.ext E37
  have F37_assigned : Fld Z h37 b37 "com/example/tenon/tenon/Assignments" "assigned" "Ljava/util/Map;" .null := D37 (Or.inr (hw _ (List.mem_of_getElem? (i := 52) rfl))) (ty := (.object "java/util/Map")) (by decide)
  have F37_changed : Fld Z h37 b37 "com/example/tenon/tenon/Assignments" "changed" "Ljava/util/List;" .null := D37 (Or.inr (hw _ (List.mem_of_getElem? (i := 78) rfl))) (ty := (.object "java/util/List")) (by decide)
  have F37_budget : Fld Z h37 b37 "com/example/tenon/tenon/Assignments" "budget" "Lcom/example/tenon/tenon/Budget;" .null := D37 (Or.inr (hw _ (List.mem_of_getElem? (i := 80) rfl))) (ty := (.object "com/example/tenon/tenon/Budget")) (by decide)
  have F37_below : Fld Z h37 b37 "com/example/tenon/tenon/Assignments" "below" "Lcom/example/tenon/tenon/Assignments;" .null := D37 (Or.inr (hw _ (List.mem_of_getElem? (i := 82) rfl))) (ty := (.object "com/example/tenon/tenon/Assignments")) (by decide)
  have F37_blindness : Fld Z h37 b37 "com/example/tenon/tenon/Assignments" "blindness" "I" (.int (0 : Int32)) := D37 (Or.inl (hw _ (List.mem_of_getElem? (i := 90) rfl))) (ty := .int) (by decide)
  have F37_marks : Fld Z h37 b37 "com/example/tenon/tenon/Assignments" "marks" "I" (.int (0 : Int32)) := D37 (Or.inl (hw _ (List.mem_of_getElem? (i := 97) rfl))) (ty := .int) (by decide)
  obtain ⟨_, _, ⟨T38, L38, k38, n38⟩, -, X38, ⟨Lc38, hQ38, l38, y38, z38⟩, st38⟩ := X37.specialBack hx (y := (⟨"com/example/tenon/tenon/Assignments", "<init>", "(Lcom/example/tenon/tenon/Budget;)V"⟩ : MethodName)) rfl hown (mvT hZ (hw _ (List.mem_of_getElem? (i := 18) rfl))) (mvT hZ (hw _ (List.mem_of_getElem? (i := 19) rfl))) (mvT hZ (hw _ (List.mem_of_getElem? (i := 20) rfl))) (by decide) (backOf (W := 1) (rm4 l Z a0' hw [] b37 b36_0 .null .null .null .null (0 : Int32) (0 : Int32) sD h37 n0 Z37 A37 F37_assigned F37_changed F37_budget F37_below F37_blindness F37_marks g_b37 O37 S_sD) hZ (hw _ (List.mem_of_getElem? (i := 20) rfl)) (hw _ (List.mem_of_getElem? (i := 17) rfl)) (by decide) (by decide)) (g := (mkF m 103 #[.val (.int p0), .val (.int (f0_m5 p0)), .val (.int (f0_m10 p0)), .val (.int (f0_m15 p0)), .val (.int (f0_m20 p0)), .val (.int (f0_m25 p0)), .val (.int (f0_m30 p0)), .val (.int (f0_m35 p0)), .val (.ref b36_0), .unset, .unset, .unset, .unset, .unset, .unset] [(.ref b36_0), (.ref b37), (.ref b37)])) rfl (by rw [hml]; rfl) (Steps.refl _) (a := b37) (argsL := [(.ref b36_0)]) (rest := [(.ref b37)]) (lenOf pd17 rfl) rfl (by show 2 * 0 + _ ≤ _; exact Nat.le_of_eq rfl) (hb hby at_103) (fun _ _ => ⟨rfl, e37, (by decide : 2 + 2 ≤ _), (by decide : 8 + 15 ≤ _)⟩)
  dsimp only [Pt.U, Pt.locs, Pt.cells, Pt.slots] at X38 l38 y38 z38 st38 hQ38
  subst l38 y38 z38
  have y39 := (u36_0.ext E37)
  obtain ⟨b38_0, rfl, N38q, gs_b38_0, g_b38_0, K38, u38_0, u38_1, u38_2, u38_3, u38_4, u38_5, u38_6, u38_7, u38_8, u38_9⟩ := hQ38
  have N38 := Fr.app N36 N38q
  have ne_b36_0_b38_0 : b36_0 ≠ b38_0 := Nat.ne_of_lt (Nat.lt_of_lt_of_le y39.lt gs_b38_0)
  have ne_b37_b38_0 : b37 ≠ b38_0 := Nat.ne_of_lt (Nat.lt_of_lt_of_le A37.lt gs_b38_0)
  have Z38 : n0 ≤ T38.heap.size := Nat.le_trans Z37 K38.1
  have O38 : Old Z n0 T38.heap := O37.keep K38 (allS g_b37 all0)
  obtain ⟨T40, h40, X40, e40, E40, A40, D40, -, st40⟩ := newO X38 hx hZ hown (hw _ (List.mem_of_getElem? (i := 15) rfl)) (hw _ (List.mem_of_getElem? (i := 16) rfl)) (hw _ (List.mem_of_getElem? (i := 17) rfl)) rfl (g := (mkF m 108 #[.val (.int p0), .val (.int (f0_m5 p0)), .val (.int (f0_m10 p0)), .val (.int (f0_m15 p0)), .val (.int (f0_m20 p0)), .val (.int (f0_m25 p0)), .val (.int (f0_m30 p0)), .val (.int (f0_m35 p0)), .val (.ref b36_0), .val (.ref b37), .unset, .unset, .unset, .unset, .unset] [])) rfl (hb hby at_108) (by decide) (by decide)
  obtain ⟨b40, g40⟩ : ∃ z, z = T38.heap.size := ⟨_, rfl⟩
  rw [← g40] at A40 D40 st40
  have y41 := (y39.keep K38)
  have ne_b36_0_b40 : b36_0 ≠ b40 := Nat.ne_of_lt (Nat.lt_of_lt_of_le y41.lt (Nat.le_of_eq g40.symm))
  have ne_b37_b40 : b37 ≠ b40 := Nat.ne_of_lt (Nat.lt_of_lt_of_le u38_0.lt (Nat.le_of_eq g40.symm))
  have ne_b38_0_b40 : b38_0 ≠ b40 := Nat.ne_of_lt (Nat.lt_of_lt_of_le u38_6.lt (Nat.le_of_eq g40.symm))
  have g_b40 : n0 ≤ b40 := Nat.le_trans Z38 (Nat.le_of_eq g40.symm)
  have Z40 : n0 ≤ h40.size := Nat.le_trans Z38 E40.1
  have O40 : Old Z n0 h40 := O38.ext E40
  have F40_assigned : Fld Z h40 b40 "com/example/tenon/tenon/Assignments" "assigned" "Ljava/util/Map;" .null := D40 (Or.inr (hw _ (List.mem_of_getElem? (i := 52) rfl))) (ty := (.object "java/util/Map")) (by decide)
  have F40_changed : Fld Z h40 b40 "com/example/tenon/tenon/Assignments" "changed" "Ljava/util/List;" .null := D40 (Or.inr (hw _ (List.mem_of_getElem? (i := 78) rfl))) (ty := (.object "java/util/List")) (by decide)
  have F40_budget : Fld Z h40 b40 "com/example/tenon/tenon/Assignments" "budget" "Lcom/example/tenon/tenon/Budget;" .null := D40 (Or.inr (hw _ (List.mem_of_getElem? (i := 80) rfl))) (ty := (.object "com/example/tenon/tenon/Budget")) (by decide)
  have F40_below : Fld Z h40 b40 "com/example/tenon/tenon/Assignments" "below" "Lcom/example/tenon/tenon/Assignments;" .null := D40 (Or.inr (hw _ (List.mem_of_getElem? (i := 82) rfl))) (ty := (.object "com/example/tenon/tenon/Assignments")) (by decide)
  have F40_blindness : Fld Z h40 b40 "com/example/tenon/tenon/Assignments" "blindness" "I" (.int (0 : Int32)) := D40 (Or.inl (hw _ (List.mem_of_getElem? (i := 90) rfl))) (ty := .int) (by decide)
  have F40_marks : Fld Z h40 b40 "com/example/tenon/tenon/Assignments" "marks" "I" (.int (0 : Int32)) := D40 (Or.inl (hw _ (List.mem_of_getElem? (i := 97) rfl))) (ty := .int) (by decide)
  have pre42 : ∀ t, Steps p.tables e below (T40.setTop (mkF m 116 #[.val (.int p0), .val (.int (f0_m5 p0)), .val (.int (f0_m10 p0)), .val (.int (f0_m15 p0)), .val (.int (f0_m20 p0)), .val (.int (f0_m25 p0)), .val (.int (f0_m30 p0)), .val (.int (f0_m35 p0)), .val (.ref b36_0), .val (.ref b37), .unset, .unset, .unset, .unset, .unset] [(.int (f0_m20 p0)), (.ref b36_0), (.ref b40), (.ref b40)])) t → Steps p.tables e below (s₁.setTop (entryFrame m #[(.int p0)] maxLocals)) t := fun t k => pre32 t (by
    show Steps p.tables e below (T32.setTop (mkF m 90 #[.val (.int p0), .val (.int (f0_m5 p0)), .val (.int (f0_m10 p0)), .val (.int (f0_m15 p0)), .val (.int (f0_m20 p0)), .val (.int (f0_m25 p0)), .val (.int (f0_m30 p0)), .unset, .unset, .unset, .unset, .unset, .unset, .unset, .unset] [(.int (f0_m35 p0))])) _
    refine XS.istore X32.here hx rfl (hb hby at_90) rfl (l' := #[.val (.int p0), .val (.int (f0_m5 p0)), .val (.int (f0_m10 p0)), .val (.int (f0_m15 p0)), .val (.int (f0_m20 p0)), .val (.int (f0_m25 p0)), .val (.int (f0_m30 p0)), .val (.int (f0_m35 p0)), .unset, .unset, .unset, .unset, .unset, .unset, .unset]) rfl ?_
    show Steps p.tables e below (T32.setTop (mkF m 92 #[.val (.int p0), .val (.int (f0_m5 p0)), .val (.int (f0_m10 p0)), .val (.int (f0_m15 p0)), .val (.int (f0_m20 p0)), .val (.int (f0_m25 p0)), .val (.int (f0_m30 p0)), .val (.int (f0_m35 p0)), .unset, .unset, .unset, .unset, .unset, .unset, .unset] [])) _
    refine st36 _ ?_
    show Steps p.tables e below (T36.setTop (mkF m 95 #[.val (.int p0), .val (.int (f0_m5 p0)), .val (.int (f0_m10 p0)), .val (.int (f0_m15 p0)), .val (.int (f0_m20 p0)), .val (.int (f0_m25 p0)), .val (.int (f0_m30 p0)), .val (.int (f0_m35 p0)), .unset, .unset, .unset, .unset, .unset, .unset, .unset] [(.ref b36_0)])) _
    refine XS.astore X36.here hx rfl (hb hby at_95) rfl rfl (l' := #[.val (.int p0), .val (.int (f0_m5 p0)), .val (.int (f0_m10 p0)), .val (.int (f0_m15 p0)), .val (.int (f0_m20 p0)), .val (.int (f0_m25 p0)), .val (.int (f0_m30 p0)), .val (.int (f0_m35 p0)), .val (.ref b36_0), .unset, .unset, .unset, .unset, .unset, .unset]) rfl ?_
    show Steps p.tables e below (T36.setTop (mkF m 97 #[.val (.int p0), .val (.int (f0_m5 p0)), .val (.int (f0_m10 p0)), .val (.int (f0_m15 p0)), .val (.int (f0_m20 p0)), .val (.int (f0_m25 p0)), .val (.int (f0_m30 p0)), .val (.int (f0_m35 p0)), .val (.ref b36_0), .unset, .unset, .unset, .unset, .unset, .unset] [])) _
    refine st37 _ ?_
    show Steps p.tables e below (T37.setTop (mkF m 100 #[.val (.int p0), .val (.int (f0_m5 p0)), .val (.int (f0_m10 p0)), .val (.int (f0_m15 p0)), .val (.int (f0_m20 p0)), .val (.int (f0_m25 p0)), .val (.int (f0_m30 p0)), .val (.int (f0_m35 p0)), .val (.ref b36_0), .unset, .unset, .unset, .unset, .unset, .unset] [(.ref b37)])) _
    refine XS.dup X37.here hx rfl (hb hby at_100) rfl rfl ?_
    show Steps p.tables e below (T37.setTop (mkF m 101 #[.val (.int p0), .val (.int (f0_m5 p0)), .val (.int (f0_m10 p0)), .val (.int (f0_m15 p0)), .val (.int (f0_m20 p0)), .val (.int (f0_m25 p0)), .val (.int (f0_m30 p0)), .val (.int (f0_m35 p0)), .val (.ref b36_0), .unset, .unset, .unset, .unset, .unset, .unset] [(.ref b37), (.ref b37)])) _
    refine XS.aload X37.here hx rfl (hb hby at_101) rfl rfl ?_
    show Steps p.tables e below (T37.setTop (mkF m 103 #[.val (.int p0), .val (.int (f0_m5 p0)), .val (.int (f0_m10 p0)), .val (.int (f0_m15 p0)), .val (.int (f0_m20 p0)), .val (.int (f0_m25 p0)), .val (.int (f0_m30 p0)), .val (.int (f0_m35 p0)), .val (.ref b36_0), .unset, .unset, .unset, .unset, .unset, .unset] [(.ref b36_0), (.ref b37), (.ref b37)])) _
    refine st38.trans ?_
    show Steps p.tables e below (T38.setTop (mkF m 106 #[.val (.int p0), .val (.int (f0_m5 p0)), .val (.int (f0_m10 p0)), .val (.int (f0_m15 p0)), .val (.int (f0_m20 p0)), .val (.int (f0_m25 p0)), .val (.int (f0_m30 p0)), .val (.int (f0_m35 p0)), .val (.ref b36_0), .unset, .unset, .unset, .unset, .unset, .unset] [(.ref b37)])) _
    refine XS.astore X38.here hx rfl (hb hby at_106) rfl rfl (l' := #[.val (.int p0), .val (.int (f0_m5 p0)), .val (.int (f0_m10 p0)), .val (.int (f0_m15 p0)), .val (.int (f0_m20 p0)), .val (.int (f0_m25 p0)), .val (.int (f0_m30 p0)), .val (.int (f0_m35 p0)), .val (.ref b36_0), .val (.ref b37), .unset, .unset, .unset, .unset, .unset]) rfl ?_
    show Steps p.tables e below (T38.setTop (mkF m 108 #[.val (.int p0), .val (.int (f0_m5 p0)), .val (.int (f0_m10 p0)), .val (.int (f0_m15 p0)), .val (.int (f0_m20 p0)), .val (.int (f0_m25 p0)), .val (.int (f0_m30 p0)), .val (.int (f0_m35 p0)), .val (.ref b36_0), .val (.ref b37), .unset, .unset, .unset, .unset, .unset] [])) _
    refine st40 _ ?_
    show Steps p.tables e below (T40.setTop (mkF m 111 #[.val (.int p0), .val (.int (f0_m5 p0)), .val (.int (f0_m10 p0)), .val (.int (f0_m15 p0)), .val (.int (f0_m20 p0)), .val (.int (f0_m25 p0)), .val (.int (f0_m30 p0)), .val (.int (f0_m35 p0)), .val (.ref b36_0), .val (.ref b37), .unset, .unset, .unset, .unset, .unset] [(.ref b40)])) _
    refine XS.dup X40.here hx rfl (hb hby at_111) rfl rfl ?_
    show Steps p.tables e below (T40.setTop (mkF m 112 #[.val (.int p0), .val (.int (f0_m5 p0)), .val (.int (f0_m10 p0)), .val (.int (f0_m15 p0)), .val (.int (f0_m20 p0)), .val (.int (f0_m25 p0)), .val (.int (f0_m30 p0)), .val (.int (f0_m35 p0)), .val (.ref b36_0), .val (.ref b37), .unset, .unset, .unset, .unset, .unset] [(.ref b40), (.ref b40)])) _
    refine XS.aload X40.here hx rfl (hb hby at_112) rfl rfl ?_
    show Steps p.tables e below (T40.setTop (mkF m 114 #[.val (.int p0), .val (.int (f0_m5 p0)), .val (.int (f0_m10 p0)), .val (.int (f0_m15 p0)), .val (.int (f0_m20 p0)), .val (.int (f0_m25 p0)), .val (.int (f0_m30 p0)), .val (.int (f0_m35 p0)), .val (.ref b36_0), .val (.ref b37), .unset, .unset, .unset, .unset, .unset] [(.ref b36_0), (.ref b40), (.ref b40)])) _
    refine XS.iload X40.here hx rfl (hb hby at_114) rfl ?_
    exact k)
  by_cases hc116_43 : (f0_m20 p0) = (0 : Int32)
  · obtain ⟨_, _, ⟨T44, L44, k44, n44⟩, -, X44, ⟨Lc44, hQ44, l44, y44, z44⟩, st44⟩ := X40.specialBack hx (y := (⟨"com/example/tenon/tenon/Assignments", "<init>", "(Lcom/example/tenon/tenon/Budget;Lcom/example/tenon/tenon/Assignments;)V"⟩ : MethodName)) rfl hown (mvT hZ (hw _ (List.mem_of_getElem? (i := 83) rfl))) (mvT hZ (hw _ (List.mem_of_getElem? (i := 22) rfl))) (mvT hZ (hw _ (List.mem_of_getElem? (i := 23) rfl))) (by decide) (backOf (W := 1) (rm5n l Z a0' hw [] b40 b36_0 .null .null .null .null (0 : Int32) (0 : Int32) sD h40 n0 Z40 A40 F40_assigned F40_changed F40_budget F40_below F40_blindness F40_marks g_b40 O40 S_sD) hZ (hw _ (List.mem_of_getElem? (i := 23) rfl)) (hw _ (List.mem_of_getElem? (i := 17) rfl)) (by decide) (by decide)) (g := (mkF m 125 #[.val (.int p0), .val (.int (f0_m5 p0)), .val (.int (f0_m10 p0)), .val (.int (f0_m15 p0)), .val (.int (f0_m20 p0)), .val (.int (f0_m25 p0)), .val (.int (f0_m30 p0)), .val (.int (f0_m35 p0)), .val (.ref b36_0), .val (.ref b37), .unset, .unset, .unset, .unset, .unset] [.null, (.ref b36_0), (.ref b40), (.ref b40)])) rfl (by rw [hml]; rfl) (Steps.refl _) (a := b40) (argsL := [(.ref b36_0), .null]) (rest := [(.ref b40)]) (lenOf pd2 rfl) rfl (by show 2 * 0 + _ ≤ _; exact Nat.le_of_eq rfl) (hb hby at_125) (fun _ _ => ⟨rfl, e40, (by decide : 5 + 2 ≤ _), (by decide : 29 + 15 ≤ _)⟩)
    dsimp only [Pt.U, Pt.locs, Pt.cells, Pt.slots] at X44 l44 y44 z44 st44 hQ44
    subst l44 y44 z44
    have y45 := (y41.ext E40)
    have y46 := (u38_0.ext E40)
    have y47 := (u38_6.ext E40)
    obtain ⟨b44_0, rfl, N44q, gs_b44_0, g_b44_0, K44, u44_0, u44_1, u44_2, u44_3, u44_4, u44_5, u44_6, u44_7, u44_8, u44_9⟩ := hQ44
    have N44 := Fr.app N38 N44q
    have ne_b36_0_b44_0 : b36_0 ≠ b44_0 := Nat.ne_of_lt (Nat.lt_of_lt_of_le y45.lt gs_b44_0)
    have ne_b37_b44_0 : b37 ≠ b44_0 := Nat.ne_of_lt (Nat.lt_of_lt_of_le y46.lt gs_b44_0)
    have ne_b38_0_b44_0 : b38_0 ≠ b44_0 := Nat.ne_of_lt (Nat.lt_of_lt_of_le y47.lt gs_b44_0)
    have ne_b40_b44_0 : b40 ≠ b44_0 := Nat.ne_of_lt (Nat.lt_of_lt_of_le A40.lt gs_b44_0)
    have Z44 : n0 ≤ T44.heap.size := Nat.le_trans Z40 K44.1
    have O44 : Old Z n0 T44.heap := O40.keep K44 (allS g_b40 all0)
    obtain ⟨T48, h48, X48, e48, E48, A48, D48, -, st48⟩ := newO X44 hx hZ hown (hw _ (List.mem_of_getElem? (i := 15) rfl)) (hw _ (List.mem_of_getElem? (i := 16) rfl)) (hw _ (List.mem_of_getElem? (i := 17) rfl)) rfl (g := (mkF m 130 #[.val (.int p0), .val (.int (f0_m5 p0)), .val (.int (f0_m10 p0)), .val (.int (f0_m15 p0)), .val (.int (f0_m20 p0)), .val (.int (f0_m25 p0)), .val (.int (f0_m30 p0)), .val (.int (f0_m35 p0)), .val (.ref b36_0), .val (.ref b37), .val (.ref b40), .unset, .unset, .unset, .unset] [])) rfl (hb hby at_130) (by decide) (by decide)
    obtain ⟨b48, g48⟩ : ∃ z, z = T44.heap.size := ⟨_, rfl⟩
    rw [← g48] at A48 D48 st48
    have y49 := (y45.keep K44)
    have ne_b36_0_b48 : b36_0 ≠ b48 := Nat.ne_of_lt (Nat.lt_of_lt_of_le y49.lt (Nat.le_of_eq g48.symm))
    have y50 := (y46.keep K44)
    have ne_b37_b48 : b37 ≠ b48 := Nat.ne_of_lt (Nat.lt_of_lt_of_le y50.lt (Nat.le_of_eq g48.symm))
    have y51 := (y47.keep K44)
    have ne_b38_0_b48 : b38_0 ≠ b48 := Nat.ne_of_lt (Nat.lt_of_lt_of_le y51.lt (Nat.le_of_eq g48.symm))
    have ne_b40_b48 : b40 ≠ b48 := Nat.ne_of_lt (Nat.lt_of_lt_of_le u44_0.lt (Nat.le_of_eq g48.symm))
    have ne_b44_0_b48 : b44_0 ≠ b48 := Nat.ne_of_lt (Nat.lt_of_lt_of_le u44_6.lt (Nat.le_of_eq g48.symm))
    have g_b48 : n0 ≤ b48 := Nat.le_trans Z44 (Nat.le_of_eq g48.symm)
    have Z48 : n0 ≤ h48.size := Nat.le_trans Z44 E48.1
    have O48 : Old Z n0 h48 := O44.ext E48
    have F48_assigned : Fld Z h48 b48 "com/example/tenon/tenon/Assignments" "assigned" "Ljava/util/Map;" .null := D48 (Or.inr (hw _ (List.mem_of_getElem? (i := 52) rfl))) (ty := (.object "java/util/Map")) (by decide)
    have F48_changed : Fld Z h48 b48 "com/example/tenon/tenon/Assignments" "changed" "Ljava/util/List;" .null := D48 (Or.inr (hw _ (List.mem_of_getElem? (i := 78) rfl))) (ty := (.object "java/util/List")) (by decide)
    have F48_budget : Fld Z h48 b48 "com/example/tenon/tenon/Assignments" "budget" "Lcom/example/tenon/tenon/Budget;" .null := D48 (Or.inr (hw _ (List.mem_of_getElem? (i := 80) rfl))) (ty := (.object "com/example/tenon/tenon/Budget")) (by decide)
    have F48_below : Fld Z h48 b48 "com/example/tenon/tenon/Assignments" "below" "Lcom/example/tenon/tenon/Assignments;" .null := D48 (Or.inr (hw _ (List.mem_of_getElem? (i := 82) rfl))) (ty := (.object "com/example/tenon/tenon/Assignments")) (by decide)
    have F48_blindness : Fld Z h48 b48 "com/example/tenon/tenon/Assignments" "blindness" "I" (.int (0 : Int32)) := D48 (Or.inl (hw _ (List.mem_of_getElem? (i := 90) rfl))) (ty := .int) (by decide)
    have F48_marks : Fld Z h48 b48 "com/example/tenon/tenon/Assignments" "marks" "I" (.int (0 : Int32)) := D48 (Or.inl (hw _ (List.mem_of_getElem? (i := 97) rfl))) (ty := .int) (by decide)
    have pre52 : ∀ t, Steps p.tables e below (T48.setTop (mkF m 138 #[.val (.int p0), .val (.int (f0_m5 p0)), .val (.int (f0_m10 p0)), .val (.int (f0_m15 p0)), .val (.int (f0_m20 p0)), .val (.int (f0_m25 p0)), .val (.int (f0_m30 p0)), .val (.int (f0_m35 p0)), .val (.ref b36_0), .val (.ref b37), .val (.ref b40), .unset, .unset, .unset, .unset] [(.int (f0_m25 p0)), (.ref b36_0), (.ref b48), (.ref b48)])) t → Steps p.tables e below (s₁.setTop (entryFrame m #[(.int p0)] maxLocals)) t := fun t k => pre42 t (by
      show Steps p.tables e below (T40.setTop (mkF m 116 #[.val (.int p0), .val (.int (f0_m5 p0)), .val (.int (f0_m10 p0)), .val (.int (f0_m15 p0)), .val (.int (f0_m20 p0)), .val (.int (f0_m25 p0)), .val (.int (f0_m30 p0)), .val (.int (f0_m35 p0)), .val (.ref b36_0), .val (.ref b37), .unset, .unset, .unset, .unset, .unset] [(.int (f0_m20 p0)), (.ref b36_0), (.ref b40), (.ref b40)])) _
      refine XS.ifYes X40.here hx rfl (pc0 := 116) (pc' := 124) rfl (hb hby at_116) rfl ((if0 _ _).trans (teq hc116_43).1) (by decide) (by decide) ?_
      show Steps p.tables e below (T40.setTop (mkF m 124 #[.val (.int p0), .val (.int (f0_m5 p0)), .val (.int (f0_m10 p0)), .val (.int (f0_m15 p0)), .val (.int (f0_m20 p0)), .val (.int (f0_m25 p0)), .val (.int (f0_m30 p0)), .val (.int (f0_m35 p0)), .val (.ref b36_0), .val (.ref b37), .unset, .unset, .unset, .unset, .unset] [(.ref b36_0), (.ref b40), (.ref b40)])) _
      refine XS.aconstNull X40.here hx rfl (hb hby at_124) ?_
      show Steps p.tables e below (T40.setTop (mkF m 125 #[.val (.int p0), .val (.int (f0_m5 p0)), .val (.int (f0_m10 p0)), .val (.int (f0_m15 p0)), .val (.int (f0_m20 p0)), .val (.int (f0_m25 p0)), .val (.int (f0_m30 p0)), .val (.int (f0_m35 p0)), .val (.ref b36_0), .val (.ref b37), .unset, .unset, .unset, .unset, .unset] [.null, (.ref b36_0), (.ref b40), (.ref b40)])) _
      refine st44.trans ?_
      show Steps p.tables e below (T44.setTop (mkF m 128 #[.val (.int p0), .val (.int (f0_m5 p0)), .val (.int (f0_m10 p0)), .val (.int (f0_m15 p0)), .val (.int (f0_m20 p0)), .val (.int (f0_m25 p0)), .val (.int (f0_m30 p0)), .val (.int (f0_m35 p0)), .val (.ref b36_0), .val (.ref b37), .unset, .unset, .unset, .unset, .unset] [(.ref b40)])) _
      refine XS.astore X44.here hx rfl (hb hby at_128) rfl rfl (l' := #[.val (.int p0), .val (.int (f0_m5 p0)), .val (.int (f0_m10 p0)), .val (.int (f0_m15 p0)), .val (.int (f0_m20 p0)), .val (.int (f0_m25 p0)), .val (.int (f0_m30 p0)), .val (.int (f0_m35 p0)), .val (.ref b36_0), .val (.ref b37), .val (.ref b40), .unset, .unset, .unset, .unset]) rfl ?_
      show Steps p.tables e below (T44.setTop (mkF m 130 #[.val (.int p0), .val (.int (f0_m5 p0)), .val (.int (f0_m10 p0)), .val (.int (f0_m15 p0)), .val (.int (f0_m20 p0)), .val (.int (f0_m25 p0)), .val (.int (f0_m30 p0)), .val (.int (f0_m35 p0)), .val (.ref b36_0), .val (.ref b37), .val (.ref b40), .unset, .unset, .unset, .unset] [])) _
      refine st48 _ ?_
      show Steps p.tables e below (T48.setTop (mkF m 133 #[.val (.int p0), .val (.int (f0_m5 p0)), .val (.int (f0_m10 p0)), .val (.int (f0_m15 p0)), .val (.int (f0_m20 p0)), .val (.int (f0_m25 p0)), .val (.int (f0_m30 p0)), .val (.int (f0_m35 p0)), .val (.ref b36_0), .val (.ref b37), .val (.ref b40), .unset, .unset, .unset, .unset] [(.ref b48)])) _
      refine XS.dup X48.here hx rfl (hb hby at_133) rfl rfl ?_
      show Steps p.tables e below (T48.setTop (mkF m 134 #[.val (.int p0), .val (.int (f0_m5 p0)), .val (.int (f0_m10 p0)), .val (.int (f0_m15 p0)), .val (.int (f0_m20 p0)), .val (.int (f0_m25 p0)), .val (.int (f0_m30 p0)), .val (.int (f0_m35 p0)), .val (.ref b36_0), .val (.ref b37), .val (.ref b40), .unset, .unset, .unset, .unset] [(.ref b48), (.ref b48)])) _
      refine XS.aload X48.here hx rfl (hb hby at_134) rfl rfl ?_
      show Steps p.tables e below (T48.setTop (mkF m 136 #[.val (.int p0), .val (.int (f0_m5 p0)), .val (.int (f0_m10 p0)), .val (.int (f0_m15 p0)), .val (.int (f0_m20 p0)), .val (.int (f0_m25 p0)), .val (.int (f0_m30 p0)), .val (.int (f0_m35 p0)), .val (.ref b36_0), .val (.ref b37), .val (.ref b40), .unset, .unset, .unset, .unset] [(.ref b36_0), (.ref b48), (.ref b48)])) _
      refine XS.iload X48.here hx rfl (hb hby at_136) rfl ?_
      exact k)
    by_cases hc138_53 : (f0_m25 p0) = (0 : Int32)
    · obtain ⟨_, _, ⟨T54, L54, k54, n54⟩, -, X54, ⟨Lc54, hQ54, l54, y54, z54⟩, st54⟩ := X48.specialBack hx (y := (⟨"com/example/tenon/tenon/Assignments", "<init>", "(Lcom/example/tenon/tenon/Budget;Lcom/example/tenon/tenon/Assignments;)V"⟩ : MethodName)) rfl hown (mvT hZ (hw _ (List.mem_of_getElem? (i := 83) rfl))) (mvT hZ (hw _ (List.mem_of_getElem? (i := 22) rfl))) (mvT hZ (hw _ (List.mem_of_getElem? (i := 23) rfl))) (by decide) (backOf (W := 1) (rm5n l Z a0' hw [] b48 b36_0 .null .null .null .null (0 : Int32) (0 : Int32) sD h48 n0 Z48 A48 F48_assigned F48_changed F48_budget F48_below F48_blindness F48_marks g_b48 O48 S_sD) hZ (hw _ (List.mem_of_getElem? (i := 23) rfl)) (hw _ (List.mem_of_getElem? (i := 17) rfl)) (by decide) (by decide)) (g := (mkF m 147 #[.val (.int p0), .val (.int (f0_m5 p0)), .val (.int (f0_m10 p0)), .val (.int (f0_m15 p0)), .val (.int (f0_m20 p0)), .val (.int (f0_m25 p0)), .val (.int (f0_m30 p0)), .val (.int (f0_m35 p0)), .val (.ref b36_0), .val (.ref b37), .val (.ref b40), .unset, .unset, .unset, .unset] [.null, (.ref b36_0), (.ref b48), (.ref b48)])) rfl (by rw [hml]; rfl) (Steps.refl _) (a := b48) (argsL := [(.ref b36_0), .null]) (rest := [(.ref b48)]) (lenOf pd2 rfl) rfl (by show 2 * 0 + _ ≤ _; exact Nat.le_of_eq rfl) (hb hby at_147) (fun _ _ => ⟨rfl, e48, (by decide : 8 + 2 ≤ _), (by decide : 50 + 15 ≤ _)⟩)
      dsimp only [Pt.U, Pt.locs, Pt.cells, Pt.slots] at X54 l54 y54 z54 st54 hQ54
      subst l54 y54 z54
      have y55 := (y49.ext E48)
      have y56 := (y50.ext E48)
      have y57 := (y51.ext E48)
      have y58 := (u44_0.ext E48)
      have y59 := (u44_6.ext E48)
      obtain ⟨b54_0, rfl, N54q, gs_b54_0, g_b54_0, K54, u54_0, u54_1, u54_2, u54_3, u54_4, u54_5, u54_6, u54_7, u54_8, u54_9⟩ := hQ54
      have N54 := Fr.app N44 N54q
      have ne_b36_0_b54_0 : b36_0 ≠ b54_0 := Nat.ne_of_lt (Nat.lt_of_lt_of_le y55.lt gs_b54_0)
      have ne_b37_b54_0 : b37 ≠ b54_0 := Nat.ne_of_lt (Nat.lt_of_lt_of_le y56.lt gs_b54_0)
      have ne_b38_0_b54_0 : b38_0 ≠ b54_0 := Nat.ne_of_lt (Nat.lt_of_lt_of_le y57.lt gs_b54_0)
      have ne_b40_b54_0 : b40 ≠ b54_0 := Nat.ne_of_lt (Nat.lt_of_lt_of_le y58.lt gs_b54_0)
      have ne_b44_0_b54_0 : b44_0 ≠ b54_0 := Nat.ne_of_lt (Nat.lt_of_lt_of_le y59.lt gs_b54_0)
      have ne_b48_b54_0 : b48 ≠ b54_0 := Nat.ne_of_lt (Nat.lt_of_lt_of_le A48.lt gs_b54_0)
      have Z54 : n0 ≤ T54.heap.size := Nat.le_trans Z48 K54.1
      have O54 : Old Z n0 T54.heap := O48.keep K54 (allS g_b48 all0)
      have pre60 : ∀ t, Steps p.tables e below (T54.setTop (mkF m 154 #[.val (.int p0), .val (.int (f0_m5 p0)), .val (.int (f0_m10 p0)), .val (.int (f0_m15 p0)), .val (.int (f0_m20 p0)), .val (.int (f0_m25 p0)), .val (.int (f0_m30 p0)), .val (.int (f0_m35 p0)), .val (.ref b36_0), .val (.ref b37), .val (.ref b40), .val (.ref b48), .unset, .unset, .unset] [(.int (f0_m30 p0))])) t → Steps p.tables e below (s₁.setTop (entryFrame m #[(.int p0)] maxLocals)) t := fun t k => pre52 t (by
        show Steps p.tables e below (T48.setTop (mkF m 138 #[.val (.int p0), .val (.int (f0_m5 p0)), .val (.int (f0_m10 p0)), .val (.int (f0_m15 p0)), .val (.int (f0_m20 p0)), .val (.int (f0_m25 p0)), .val (.int (f0_m30 p0)), .val (.int (f0_m35 p0)), .val (.ref b36_0), .val (.ref b37), .val (.ref b40), .unset, .unset, .unset, .unset] [(.int (f0_m25 p0)), (.ref b36_0), (.ref b48), (.ref b48)])) _
        refine XS.ifYes X48.here hx rfl (pc0 := 138) (pc' := 146) rfl (hb hby at_138) rfl ((if0 _ _).trans (teq hc138_53).1) (by decide) (by decide) ?_
        show Steps p.tables e below (T48.setTop (mkF m 146 #[.val (.int p0), .val (.int (f0_m5 p0)), .val (.int (f0_m10 p0)), .val (.int (f0_m15 p0)), .val (.int (f0_m20 p0)), .val (.int (f0_m25 p0)), .val (.int (f0_m30 p0)), .val (.int (f0_m35 p0)), .val (.ref b36_0), .val (.ref b37), .val (.ref b40), .unset, .unset, .unset, .unset] [(.ref b36_0), (.ref b48), (.ref b48)])) _
        refine XS.aconstNull X48.here hx rfl (hb hby at_146) ?_
        show Steps p.tables e below (T48.setTop (mkF m 147 #[.val (.int p0), .val (.int (f0_m5 p0)), .val (.int (f0_m10 p0)), .val (.int (f0_m15 p0)), .val (.int (f0_m20 p0)), .val (.int (f0_m25 p0)), .val (.int (f0_m30 p0)), .val (.int (f0_m35 p0)), .val (.ref b36_0), .val (.ref b37), .val (.ref b40), .unset, .unset, .unset, .unset] [.null, (.ref b36_0), (.ref b48), (.ref b48)])) _
        refine st54.trans ?_
        show Steps p.tables e below (T54.setTop (mkF m 150 #[.val (.int p0), .val (.int (f0_m5 p0)), .val (.int (f0_m10 p0)), .val (.int (f0_m15 p0)), .val (.int (f0_m20 p0)), .val (.int (f0_m25 p0)), .val (.int (f0_m30 p0)), .val (.int (f0_m35 p0)), .val (.ref b36_0), .val (.ref b37), .val (.ref b40), .unset, .unset, .unset, .unset] [(.ref b48)])) _
        refine XS.astore X54.here hx rfl (hb hby at_150) rfl rfl (l' := #[.val (.int p0), .val (.int (f0_m5 p0)), .val (.int (f0_m10 p0)), .val (.int (f0_m15 p0)), .val (.int (f0_m20 p0)), .val (.int (f0_m25 p0)), .val (.int (f0_m30 p0)), .val (.int (f0_m35 p0)), .val (.ref b36_0), .val (.ref b37), .val (.ref b40), .val (.ref b48), .unset, .unset, .unset]) rfl ?_
        show Steps p.tables e below (T54.setTop (mkF m 152 #[.val (.int p0), .val (.int (f0_m5 p0)), .val (.int (f0_m10 p0)), .val (.int (f0_m15 p0)), .val (.int (f0_m20 p0)), .val (.int (f0_m25 p0)), .val (.int (f0_m30 p0)), .val (.int (f0_m35 p0)), .val (.ref b36_0), .val (.ref b37), .val (.ref b40), .val (.ref b48), .unset, .unset, .unset] [])) _
        refine XS.iload X54.here hx rfl (hb hby at_152) rfl ?_
        exact k)
      obtain ⟨T61, L61, h61, X61, e61, N61, Z61, O61, fm61_0, fm61_1, fm61_2, fm61_3, fm61_4, fm61_5, fm61_6, fm61_7, fm61_8, fm61_9, fm61_10, fm61_11, fm61_12, fm61_13, fm61_14, fm61_15, fm61_16, fm61_17, fm61_18, fm61_19, fm61_20, fm61_21, pre61⟩ : ∃ (T' : State) (locs' : List Loc) (h' : Heap), Stand p l e room_1 s m #[(.int p0)] below meth c T' locs' 10 65 ∧ T'.heap = h' ∧ Fr n0 locs' ∧ n0 ≤ h'.size ∧ Old Z n0 h' ∧ Exa Z h' b36_0 "com/example/tenon/tenon/Budget" ∧ Fld Z h' b36_0 "com/example/tenon/tenon/Budget" "limit" "J" (.long (9223372036854775807 : Int64)) ∧ Fld Z h' b36_0 "com/example/tenon/tenon/Budget" "held" "J" (.long (0 : Int64)) ∧ Exa Z h' b37 "com/example/tenon/tenon/Assignments" ∧ Fld Z h' b37 "com/example/tenon/tenon/Assignments" "below" "Lcom/example/tenon/tenon/Assignments;" .null ∧ Fld Z h' b37 "com/example/tenon/tenon/Assignments" "blindness" "I" (.int (f0_m71 p0)) ∧ Exa Z h' b40 "com/example/tenon/tenon/Assignments" ∧ Fld Z h' b40 "com/example/tenon/tenon/Assignments" "changed" "Ljava/util/List;" (.ref b44_0) ∧ Fld Z h' b40 "com/example/tenon/tenon/Assignments" "budget" "Lcom/example/tenon/tenon/Budget;" (.ref b36_0) ∧ Fld Z h' b40 "com/example/tenon/tenon/Assignments" "below" "Lcom/example/tenon/tenon/Assignments;" .null ∧ Fld Z h' b40 "com/example/tenon/tenon/Assignments" "blindness" "I" (.int (0 : Int32)) ∧ Fld Z h' b40 "com/example/tenon/tenon/Assignments" "marks" "I" (.int (0 : Int32)) ∧ Exa Z h' b48 "com/example/tenon/tenon/Assignments" ∧ Fld Z h' b48 "com/example/tenon/tenon/Assignments" "changed" "Ljava/util/List;" (.ref b54_0) ∧ Fld Z h' b48 "com/example/tenon/tenon/Assignments" "budget" "Lcom/example/tenon/tenon/Budget;" (.ref b36_0) ∧ Fld Z h' b48 "com/example/tenon/tenon/Assignments" "below" "Lcom/example/tenon/tenon/Assignments;" .null ∧ Fld Z h' b48 "com/example/tenon/tenon/Assignments" "blindness" "I" (.int (0 : Int32)) ∧ Fld Z h' b48 "com/example/tenon/tenon/Assignments" "marks" "I" (.int (0 : Int32)) ∧ Exa Z h' b54_0 "java/util/ArrayList" ∧ Fld Z h' b54_0 "java/util/AbstractList" "modCount" "I" (.int (0 : Int32)) ∧ Fld Z h' b54_0 "java/util/ArrayList" "elementData" "[Ljava/lang/Object;" (.ref sD) ∧ Fld Z h' b54_0 "java/util/ArrayList" "size" "I" (.int (0 : Int32)) ∧ ∀ t, Steps p.tables e below (T'.setTop (mkF m 162 #[.val (.int p0), .val (.int (f0_m5 p0)), .val (.int (f0_m10 p0)), .val (.int (f0_m15 p0)), .val (.int (f0_m20 p0)), .val (.int (f0_m25 p0)), .val (.int (f0_m30 p0)), .val (.int (f0_m35 p0)), .val (.ref b36_0), .val (.ref b37), .val (.ref b40), .val (.ref b48), .unset, .unset, .unset] [])) t → Steps p.tables e below (s₁.setTop (entryFrame m #[(.int p0)] maxLocals)) t := by
        by_cases hc154_61 : (f0_m30 p0) = (0 : Int32)
        · have pre62 : ∀ t, Steps p.tables e below (T54.setTop (mkF m 162 #[.val (.int p0), .val (.int (f0_m5 p0)), .val (.int (f0_m10 p0)), .val (.int (f0_m15 p0)), .val (.int (f0_m20 p0)), .val (.int (f0_m25 p0)), .val (.int (f0_m30 p0)), .val (.int (f0_m35 p0)), .val (.ref b36_0), .val (.ref b37), .val (.ref b40), .val (.ref b48), .unset, .unset, .unset] [])) t → Steps p.tables e below (s₁.setTop (entryFrame m #[(.int p0)] maxLocals)) t := fun t k => pre60 t (by
            show Steps p.tables e below (T54.setTop (mkF m 154 #[.val (.int p0), .val (.int (f0_m5 p0)), .val (.int (f0_m10 p0)), .val (.int (f0_m15 p0)), .val (.int (f0_m20 p0)), .val (.int (f0_m25 p0)), .val (.int (f0_m30 p0)), .val (.int (f0_m35 p0)), .val (.ref b36_0), .val (.ref b37), .val (.ref b40), .val (.ref b48), .unset, .unset, .unset] [(.int (f0_m30 p0))])) _
            refine XS.ifYes X54.here hx rfl (pc0 := 154) (pc' := 162) rfl (hb hby at_154) rfl ((if0 _ _).trans (teq hc154_61).1) (by decide) (by decide) ?_
            exact k)
          have q_f0_m71 : f0_m71 p0 = (0 : Int32) := by unfold f0_m71; rw [if_pos hc154_61]
          rw [q_f0_m71]
          have y72 := (y55.keep K54)
          have y73 := ((((((u36_1.ext E37).keep K38 (ninS ne_b36_0_b37 nin0)).ext E40).keep K44 (ninS ne_b36_0_b40 nin0)).ext E48).keep K54 (ninS ne_b36_0_b48 nin0))
          have y74 := ((((((u36_2.ext E37).keep K38 (ninS ne_b36_0_b37 nin0)).ext E40).keep K44 (ninS ne_b36_0_b40 nin0)).ext E48).keep K54 (ninS ne_b36_0_b48 nin0))
          have y75 := (y56.keep K54)
          have y76 := ((((u38_3.ext E40).keep K44 (ninS ne_b37_b40 nin0)).ext E48).keep K54 (ninS ne_b37_b48 nin0))
          have y77 := ((((u38_4.ext E40).keep K44 (ninS ne_b37_b40 nin0)).ext E48).keep K54 (ninS ne_b37_b48 nin0))
          have y78 := (y58.keep K54)
          have y79 := ((u44_1.ext E48).keep K54 (ninS ne_b40_b48 nin0))
          have y80 := ((u44_2.ext E48).keep K54 (ninS ne_b40_b48 nin0))
          have y81 := ((u44_3.ext E48).keep K54 (ninS ne_b40_b48 nin0))
          have y82 := ((u44_4.ext E48).keep K54 (ninS ne_b40_b48 nin0))
          have y83 := ((u44_5.ext E48).keep K54 (ninS ne_b40_b48 nin0))
          exact ⟨T54, _, T54.heap, X54, rfl, N54, Z54, O54, y72, y73, y74, y75, y76, y77, y78, y79, y80, y81, y82, y83, u54_0, u54_1, u54_2, u54_3, u54_4, u54_5, u54_6, u54_7, u54_8, u54_9, pre62⟩
        have y64 := ((((u38_1.ext E40).keep K44 (ninS ne_b37_b40 nin0)).ext E48).keep K54 (ninS ne_b37_b48 nin0))
        have y65 := ((((u38_2.ext E40).keep K44 (ninS ne_b37_b40 nin0)).ext E48).keep K54 (ninS ne_b37_b48 nin0))
        have y66 := ((((u38_3.ext E40).keep K44 (ninS ne_b37_b40 nin0)).ext E48).keep K54 (ninS ne_b37_b48 nin0))
        have y67 := ((((u38_4.ext E40).keep K44 (ninS ne_b37_b40 nin0)).ext E48).keep K54 (ninS ne_b37_b48 nin0))
        have y68 := (y56.keep K54)
        have y69 := ((((u38_5.ext E40).keep K44 (ninS ne_b37_b40 nin0)).ext E48).keep K54 (ninS ne_b37_b48 nin0))
        obtain ⟨cq63, kq63, q63a, q63b, q63c⟩ := isOf hZ rfl y68
        obtain ⟨_, _, ⟨T63, L63, k63, n63⟩, -, X63, ⟨Lc63, hQ63, l63, y63, z63⟩, st63⟩ := X54.virtualBack hx (y := (⟨"com/example/tenon/tenon/Assignments", "notKnown", "()V"⟩ : MethodName)) (z := (⟨"com/example/tenon/tenon/Assignments", "notKnown", "()V"⟩ : MethodName)) hown (mvT hZ (hw _ (List.mem_of_getElem? (i := 91) rfl))) (mvT hZ (hw _ (List.mem_of_getElem? (i := 92) rfl))) (notFace_of_selects (args := #[]) (mvT hZ (hw _ (List.mem_of_getElem? (i := 94) rfl)))) (mvT hZ (hw _ (List.mem_of_getElem? (i := 94) rfl))) (mvT hZ (hw _ (List.mem_of_getElem? (i := 93) rfl))) (by decide) (backOf (W := 0) (rm13 l Z a0' hw [] b37 (.ref b38_0) (.ref b36_0) .null (0 : Int32) T54.heap n0 Z54 y68 y64 y65 y66 y67 y69 g_b37) hZ (hw _ (List.mem_of_getElem? (i := 95) rfl)) (hw _ (List.mem_of_getElem? (i := 17) rfl)) (by decide) (by decide)) q63a q63c (g := (mkF m 159 #[.val (.int p0), .val (.int (f0_m5 p0)), .val (.int (f0_m10 p0)), .val (.int (f0_m15 p0)), .val (.int (f0_m20 p0)), .val (.int (f0_m25 p0)), .val (.int (f0_m30 p0)), .val (.int (f0_m35 p0)), .val (.ref b36_0), .val (.ref b37), .val (.ref b40), .val (.ref b48), .unset, .unset, .unset] [(.ref b37)])) rfl (by rw [hml]; rfl) (Steps.refl _) (argsL := []) (rest := []) (lenOf pd0 rfl) rfl (by show 2 * 0 + _ ≤ _; exact Nat.le_of_eq rfl) (hb hby at_159) (fun _ _ => ⟨rfl, rfl, (by decide : 10 + 0 ≤ _), (by decide : 65 + 0 ≤ _)⟩)
        dsimp only [Pt.U, Pt.locs, Pt.cells, Pt.slots] at X63 l63 y63 z63 st63 hQ63
        subst l63 y63 z63
        obtain ⟨rfl, N63q, K63, u63_0, u63_1, u63_2, u63_3, u63_4, u63_5⟩ := hQ63
        have N63 := Fr.app N54 N63q
        have Z63 : n0 ≤ T63.heap.size := Nat.le_trans Z54 K63.1
        have O63 : Old Z n0 T63.heap := O54.keep K63 (allS g_b37 all0)
        have pre70 : ∀ t, Steps p.tables e below (T63.setTop (mkF m 162 #[.val (.int p0), .val (.int (f0_m5 p0)), .val (.int (f0_m10 p0)), .val (.int (f0_m15 p0)), .val (.int (f0_m20 p0)), .val (.int (f0_m25 p0)), .val (.int (f0_m30 p0)), .val (.int (f0_m35 p0)), .val (.ref b36_0), .val (.ref b37), .val (.ref b40), .val (.ref b48), .unset, .unset, .unset] [])) t → Steps p.tables e below (s₁.setTop (entryFrame m #[(.int p0)] maxLocals)) t := fun t k => pre60 t (by
          show Steps p.tables e below (T54.setTop (mkF m 154 #[.val (.int p0), .val (.int (f0_m5 p0)), .val (.int (f0_m10 p0)), .val (.int (f0_m15 p0)), .val (.int (f0_m20 p0)), .val (.int (f0_m25 p0)), .val (.int (f0_m30 p0)), .val (.int (f0_m35 p0)), .val (.ref b36_0), .val (.ref b37), .val (.ref b40), .val (.ref b48), .unset, .unset, .unset] [(.int (f0_m30 p0))])) _
          refine XS.ifNo X54.here hx rfl (hb hby at_154) rfl ((if0 _ _).trans (feq hc154_61).1) ?_
          show Steps p.tables e below (T54.setTop (mkF m 157 #[.val (.int p0), .val (.int (f0_m5 p0)), .val (.int (f0_m10 p0)), .val (.int (f0_m15 p0)), .val (.int (f0_m20 p0)), .val (.int (f0_m25 p0)), .val (.int (f0_m30 p0)), .val (.int (f0_m35 p0)), .val (.ref b36_0), .val (.ref b37), .val (.ref b40), .val (.ref b48), .unset, .unset, .unset] [])) _
          refine XS.aload X54.here hx rfl (hb hby at_157) rfl rfl ?_
          show Steps p.tables e below (T54.setTop (mkF m 159 #[.val (.int p0), .val (.int (f0_m5 p0)), .val (.int (f0_m10 p0)), .val (.int (f0_m15 p0)), .val (.int (f0_m20 p0)), .val (.int (f0_m25 p0)), .val (.int (f0_m30 p0)), .val (.int (f0_m35 p0)), .val (.ref b36_0), .val (.ref b37), .val (.ref b40), .val (.ref b48), .unset, .unset, .unset] [(.ref b37)])) _
          refine st63.trans ?_
          exact k)
        have q_f0_m71 : f0_m71 p0 = (1 : Int32) := by unfold f0_m71; rw [if_neg hc154_61]
        rw [q_f0_m71]
        have y84 := ((y55.keep K54).keep K63)
        have y85 := (((((((u36_1.ext E37).keep K38 (ninS ne_b36_0_b37 nin0)).ext E40).keep K44 (ninS ne_b36_0_b40 nin0)).ext E48).keep K54 (ninS ne_b36_0_b48 nin0)).keep K63 (ninS ne_b36_0_b37 nin0))
        have y86 := (((((((u36_2.ext E37).keep K38 (ninS ne_b36_0_b37 nin0)).ext E40).keep K44 (ninS ne_b36_0_b40 nin0)).ext E48).keep K54 (ninS ne_b36_0_b48 nin0)).keep K63 (ninS ne_b36_0_b37 nin0))
        have y87 := ((y58.keep K54).keep K63)
        have y88 := (((u44_1.ext E48).keep K54 (ninS ne_b40_b48 nin0)).keep K63 (ninS (Ne.symm ne_b37_b40) nin0))
        have y89 := (((u44_2.ext E48).keep K54 (ninS ne_b40_b48 nin0)).keep K63 (ninS (Ne.symm ne_b37_b40) nin0))
        have y90 := (((u44_3.ext E48).keep K54 (ninS ne_b40_b48 nin0)).keep K63 (ninS (Ne.symm ne_b37_b40) nin0))
        have y91 := (((u44_4.ext E48).keep K54 (ninS ne_b40_b48 nin0)).keep K63 (ninS (Ne.symm ne_b37_b40) nin0))
        have y92 := (((u44_5.ext E48).keep K54 (ninS ne_b40_b48 nin0)).keep K63 (ninS (Ne.symm ne_b37_b40) nin0))
        have y93 := (u54_0.keep K63)
        have y94 := (u54_1.keep K63 (ninS (Ne.symm ne_b37_b48) nin0))
        have y95 := (u54_2.keep K63 (ninS (Ne.symm ne_b37_b48) nin0))
        have y96 := (u54_3.keep K63 (ninS (Ne.symm ne_b37_b48) nin0))
        have y97 := (u54_4.keep K63 (ninS (Ne.symm ne_b37_b48) nin0))
        have y98 := (u54_5.keep K63 (ninS (Ne.symm ne_b37_b48) nin0))
        have y99 := (u54_6.keep K63)
        have y100 := (u54_7.keep K63 (ninS (Ne.symm ne_b37_b54_0) nin0))
        have y101 := (u54_8.keep K63 (ninS (Ne.symm ne_b37_b54_0) nin0))
        have y102 := (u54_9.keep K63 (ninS (Ne.symm ne_b37_b54_0) nin0))
        exact ⟨T63, _, T63.heap, X63, rfl, N63, Z63, O63, y84, y85, y86, u63_0, u63_3, u63_4, y87, y88, y89, y90, y91, y92, y93, y94, y95, y96, y97, y98, y99, y100, y101, y102, pre70⟩
      have pre103 : ∀ t, Steps p.tables e below (T61.setTop (mkF m 164 #[.val (.int p0), .val (.int (f0_m5 p0)), .val (.int (f0_m10 p0)), .val (.int (f0_m15 p0)), .val (.int (f0_m20 p0)), .val (.int (f0_m25 p0)), .val (.int (f0_m30 p0)), .val (.int (f0_m35 p0)), .val (.ref b36_0), .val (.ref b37), .val (.ref b40), .val (.ref b48), .unset, .unset, .unset] [(.int (f0_m35 p0))])) t → Steps p.tables e below (s₁.setTop (entryFrame m #[(.int p0)] maxLocals)) t := fun t k => pre61 t (by
        show Steps p.tables e below (T61.setTop (mkF m 162 #[.val (.int p0), .val (.int (f0_m5 p0)), .val (.int (f0_m10 p0)), .val (.int (f0_m15 p0)), .val (.int (f0_m20 p0)), .val (.int (f0_m25 p0)), .val (.int (f0_m30 p0)), .val (.int (f0_m35 p0)), .val (.ref b36_0), .val (.ref b37), .val (.ref b40), .val (.ref b48), .unset, .unset, .unset] [])) _
        refine XS.iload X61.here hx rfl (hb hby at_162) rfl ?_
        exact k)
      obtain ⟨T104, L104, h104, X104, e104, N104, Z104, O104, fm104_0, fm104_1, fm104_2, fm104_3, fm104_4, fm104_5, fm104_6, fm104_7, fm104_8, fm104_9, fm104_10, fm104_11, fm104_12, fm104_13, fm104_14, fm104_15, fm104_16, fm104_17, fm104_18, pre104⟩ : ∃ (T' : State) (locs' : List Loc) (h' : Heap), Stand p l e room_1 s m #[(.int p0)] below meth c T' locs' 10 65 ∧ T'.heap = h' ∧ Fr n0 locs' ∧ n0 ≤ h'.size ∧ Old Z n0 h' ∧ Exa Z h' b36_0 "com/example/tenon/tenon/Budget" ∧ Fld Z h' b36_0 "com/example/tenon/tenon/Budget" "limit" "J" (.long (9223372036854775807 : Int64)) ∧ Fld Z h' b36_0 "com/example/tenon/tenon/Budget" "held" "J" (.long (0 : Int64)) ∧ Exa Z h' b37 "com/example/tenon/tenon/Assignments" ∧ Fld Z h' b37 "com/example/tenon/tenon/Assignments" "below" "Lcom/example/tenon/tenon/Assignments;" .null ∧ Fld Z h' b37 "com/example/tenon/tenon/Assignments" "blindness" "I" (.int (f0_m71 p0)) ∧ Exa Z h' b40 "com/example/tenon/tenon/Assignments" ∧ Fld Z h' b40 "com/example/tenon/tenon/Assignments" "below" "Lcom/example/tenon/tenon/Assignments;" .null ∧ Fld Z h' b40 "com/example/tenon/tenon/Assignments" "blindness" "I" (.int (f0_m108 p0)) ∧ Exa Z h' b48 "com/example/tenon/tenon/Assignments" ∧ Fld Z h' b48 "com/example/tenon/tenon/Assignments" "changed" "Ljava/util/List;" (.ref b54_0) ∧ Fld Z h' b48 "com/example/tenon/tenon/Assignments" "budget" "Lcom/example/tenon/tenon/Budget;" (.ref b36_0) ∧ Fld Z h' b48 "com/example/tenon/tenon/Assignments" "below" "Lcom/example/tenon/tenon/Assignments;" .null ∧ Fld Z h' b48 "com/example/tenon/tenon/Assignments" "blindness" "I" (.int (0 : Int32)) ∧ Fld Z h' b48 "com/example/tenon/tenon/Assignments" "marks" "I" (.int (0 : Int32)) ∧ Exa Z h' b54_0 "java/util/ArrayList" ∧ Fld Z h' b54_0 "java/util/AbstractList" "modCount" "I" (.int (0 : Int32)) ∧ Fld Z h' b54_0 "java/util/ArrayList" "elementData" "[Ljava/lang/Object;" (.ref sD) ∧ Fld Z h' b54_0 "java/util/ArrayList" "size" "I" (.int (0 : Int32)) ∧ ∀ t, Steps p.tables e below (T'.setTop (mkF m 172 #[.val (.int p0), .val (.int (f0_m5 p0)), .val (.int (f0_m10 p0)), .val (.int (f0_m15 p0)), .val (.int (f0_m20 p0)), .val (.int (f0_m25 p0)), .val (.int (f0_m30 p0)), .val (.int (f0_m35 p0)), .val (.ref b36_0), .val (.ref b37), .val (.ref b40), .val (.ref b48), .unset, .unset, .unset] [])) t → Steps p.tables e below (s₁.setTop (entryFrame m #[(.int p0)] maxLocals)) t := by
        by_cases hc164_104 : (f0_m35 p0) = (0 : Int32)
        · have pre105 : ∀ t, Steps p.tables e below (T61.setTop (mkF m 172 #[.val (.int p0), .val (.int (f0_m5 p0)), .val (.int (f0_m10 p0)), .val (.int (f0_m15 p0)), .val (.int (f0_m20 p0)), .val (.int (f0_m25 p0)), .val (.int (f0_m30 p0)), .val (.int (f0_m35 p0)), .val (.ref b36_0), .val (.ref b37), .val (.ref b40), .val (.ref b48), .unset, .unset, .unset] [])) t → Steps p.tables e below (s₁.setTop (entryFrame m #[(.int p0)] maxLocals)) t := fun t k => pre103 t (by
            show Steps p.tables e below (T61.setTop (mkF m 164 #[.val (.int p0), .val (.int (f0_m5 p0)), .val (.int (f0_m10 p0)), .val (.int (f0_m15 p0)), .val (.int (f0_m20 p0)), .val (.int (f0_m25 p0)), .val (.int (f0_m30 p0)), .val (.int (f0_m35 p0)), .val (.ref b36_0), .val (.ref b37), .val (.ref b40), .val (.ref b48), .unset, .unset, .unset] [(.int (f0_m35 p0))])) _
            refine XS.ifYes X61.here hx rfl (pc0 := 164) (pc' := 172) rfl (hb hby at_164) rfl ((if0 _ _).trans (teq hc164_104).1) (by decide) (by decide) ?_
            exact k)
          have q_f0_m108 : f0_m108 p0 = (0 : Int32) := by unfold f0_m108; rw [if_pos hc164_104]
          rw [q_f0_m108]
          exact ⟨T61, _, h61, X61, e61, N61, Z61, O61, fm61_0, fm61_1, fm61_2, fm61_3, fm61_4, fm61_5, fm61_6, fm61_9, fm61_10, fm61_12, fm61_13, fm61_14, fm61_15, fm61_16, fm61_17, fm61_18, fm61_19, fm61_20, fm61_21, pre105⟩
        obtain ⟨cq106, kq106, q106a, q106b, q106c⟩ := isOf hZ e61 fm61_6
        obtain ⟨_, _, ⟨T106, L106, k106, n106⟩, -, X106, ⟨Lc106, hQ106, l106, y106, z106⟩, st106⟩ := X61.virtualBack hx (y := (⟨"com/example/tenon/tenon/Assignments", "notKnown", "()V"⟩ : MethodName)) (z := (⟨"com/example/tenon/tenon/Assignments", "notKnown", "()V"⟩ : MethodName)) hown (mvT hZ (hw _ (List.mem_of_getElem? (i := 91) rfl))) (mvT hZ (hw _ (List.mem_of_getElem? (i := 92) rfl))) (notFace_of_selects (args := #[]) (mvT hZ (hw _ (List.mem_of_getElem? (i := 94) rfl)))) (mvT hZ (hw _ (List.mem_of_getElem? (i := 94) rfl))) (mvT hZ (hw _ (List.mem_of_getElem? (i := 93) rfl))) (by decide) (backOf (W := 0) (rm13 l Z a0' hw [] b40 (.ref b44_0) (.ref b36_0) .null (0 : Int32) h61 n0 Z61 fm61_6 fm61_7 fm61_8 fm61_9 fm61_10 fm61_11 g_b40) hZ (hw _ (List.mem_of_getElem? (i := 95) rfl)) (hw _ (List.mem_of_getElem? (i := 17) rfl)) (by decide) (by decide)) q106a q106c (g := (mkF m 169 #[.val (.int p0), .val (.int (f0_m5 p0)), .val (.int (f0_m10 p0)), .val (.int (f0_m15 p0)), .val (.int (f0_m20 p0)), .val (.int (f0_m25 p0)), .val (.int (f0_m30 p0)), .val (.int (f0_m35 p0)), .val (.ref b36_0), .val (.ref b37), .val (.ref b40), .val (.ref b48), .unset, .unset, .unset] [(.ref b40)])) rfl (by rw [hml]; rfl) (Steps.refl _) (argsL := []) (rest := []) (lenOf pd0 rfl) rfl (by show 2 * 0 + _ ≤ _; exact Nat.le_of_eq rfl) (hb hby at_169) (fun _ _ => ⟨rfl, e61, (by decide : 10 + 0 ≤ _), (by decide : 65 + 0 ≤ _)⟩)
        dsimp only [Pt.U, Pt.locs, Pt.cells, Pt.slots] at X106 l106 y106 z106 st106 hQ106
        subst l106 y106 z106
        obtain ⟨rfl, N106q, K106, u106_0, u106_1, u106_2, u106_3, u106_4, u106_5⟩ := hQ106
        have N106 := Fr.app N61 N106q
        have Z106 : n0 ≤ T106.heap.size := Nat.le_trans Z61 K106.1
        have O106 : Old Z n0 T106.heap := O61.keep K106 (allS g_b40 all0)
        have pre107 : ∀ t, Steps p.tables e below (T106.setTop (mkF m 172 #[.val (.int p0), .val (.int (f0_m5 p0)), .val (.int (f0_m10 p0)), .val (.int (f0_m15 p0)), .val (.int (f0_m20 p0)), .val (.int (f0_m25 p0)), .val (.int (f0_m30 p0)), .val (.int (f0_m35 p0)), .val (.ref b36_0), .val (.ref b37), .val (.ref b40), .val (.ref b48), .unset, .unset, .unset] [])) t → Steps p.tables e below (s₁.setTop (entryFrame m #[(.int p0)] maxLocals)) t := fun t k => pre103 t (by
          show Steps p.tables e below (T61.setTop (mkF m 164 #[.val (.int p0), .val (.int (f0_m5 p0)), .val (.int (f0_m10 p0)), .val (.int (f0_m15 p0)), .val (.int (f0_m20 p0)), .val (.int (f0_m25 p0)), .val (.int (f0_m30 p0)), .val (.int (f0_m35 p0)), .val (.ref b36_0), .val (.ref b37), .val (.ref b40), .val (.ref b48), .unset, .unset, .unset] [(.int (f0_m35 p0))])) _
          refine XS.ifNo X61.here hx rfl (hb hby at_164) rfl ((if0 _ _).trans (feq hc164_104).1) ?_
          show Steps p.tables e below (T61.setTop (mkF m 167 #[.val (.int p0), .val (.int (f0_m5 p0)), .val (.int (f0_m10 p0)), .val (.int (f0_m15 p0)), .val (.int (f0_m20 p0)), .val (.int (f0_m25 p0)), .val (.int (f0_m30 p0)), .val (.int (f0_m35 p0)), .val (.ref b36_0), .val (.ref b37), .val (.ref b40), .val (.ref b48), .unset, .unset, .unset] [])) _
          refine XS.aload X61.here hx rfl (hb hby at_167) rfl rfl ?_
          show Steps p.tables e below (T61.setTop (mkF m 169 #[.val (.int p0), .val (.int (f0_m5 p0)), .val (.int (f0_m10 p0)), .val (.int (f0_m15 p0)), .val (.int (f0_m20 p0)), .val (.int (f0_m25 p0)), .val (.int (f0_m30 p0)), .val (.int (f0_m35 p0)), .val (.ref b36_0), .val (.ref b37), .val (.ref b40), .val (.ref b48), .unset, .unset, .unset] [(.ref b40)])) _
          refine st106.trans ?_
          exact k)
        have q_f0_m108 : f0_m108 p0 = (1 : Int32) := by unfold f0_m108; rw [if_neg hc164_104]
        rw [q_f0_m108]
        have y109 := (fm61_0.keep K106)
        have y110 := (fm61_1.keep K106 (ninS ne_b36_0_b40 nin0))
        have y111 := (fm61_2.keep K106 (ninS ne_b36_0_b40 nin0))
        have y112 := (fm61_3.keep K106)
        have y113 := (fm61_4.keep K106 (ninS ne_b37_b40 nin0))
        have y114 := (fm61_5.keep K106 (ninS ne_b37_b40 nin0))
        have y115 := (fm61_12.keep K106)
        have y116 := (fm61_13.keep K106 (ninS (Ne.symm ne_b40_b48) nin0))
        have y117 := (fm61_14.keep K106 (ninS (Ne.symm ne_b40_b48) nin0))
        have y118 := (fm61_15.keep K106 (ninS (Ne.symm ne_b40_b48) nin0))
        have y119 := (fm61_16.keep K106 (ninS (Ne.symm ne_b40_b48) nin0))
        have y120 := (fm61_17.keep K106 (ninS (Ne.symm ne_b40_b48) nin0))
        have y121 := (fm61_18.keep K106)
        have y122 := (fm61_19.keep K106 (ninS (Ne.symm ne_b40_b54_0) nin0))
        have y123 := (fm61_20.keep K106 (ninS (Ne.symm ne_b40_b54_0) nin0))
        have y124 := (fm61_21.keep K106 (ninS (Ne.symm ne_b40_b54_0) nin0))
        exact ⟨T106, _, T106.heap, X106, rfl, N106, Z106, O106, y109, y110, y111, y112, y113, y114, u106_0, u106_3, u106_4, y115, y116, y117, y118, y119, y120, y121, y122, y123, y124, pre107⟩
      have pre125 : ∀ t, Steps p.tables e below (T104.setTop (mkF m 173 #[.val (.int p0), .val (.int (f0_m5 p0)), .val (.int (f0_m10 p0)), .val (.int (f0_m15 p0)), .val (.int (f0_m20 p0)), .val (.int (f0_m25 p0)), .val (.int (f0_m30 p0)), .val (.int (f0_m35 p0)), .val (.ref b36_0), .val (.ref b37), .val (.ref b40), .val (.ref b48), .unset, .unset, .unset] [(.int (f0_m5 p0))])) t → Steps p.tables e below (s₁.setTop (entryFrame m #[(.int p0)] maxLocals)) t := fun t k => pre104 t (by
        show Steps p.tables e below (T104.setTop (mkF m 172 #[.val (.int p0), .val (.int (f0_m5 p0)), .val (.int (f0_m10 p0)), .val (.int (f0_m15 p0)), .val (.int (f0_m20 p0)), .val (.int (f0_m25 p0)), .val (.int (f0_m30 p0)), .val (.int (f0_m35 p0)), .val (.ref b36_0), .val (.ref b37), .val (.ref b40), .val (.ref b48), .unset, .unset, .unset] [])) _
        refine XS.iloadN X104.here hx rfl (hb hby at_172) rfl ?_
        exact k)
      obtain ⟨T126, L126, h126, X126, e126, N126, Z126, O126, fm126_0, fm126_1, fm126_2, fm126_3, fm126_4, fm126_5, fm126_6, fm126_7, fm126_8, fm126_9, fm126_10, fm126_11, fm126_12, fm126_13, fm126_14, fm126_15, fm126_16, fm126_17, fm126_18, pre126⟩ : ∃ (T' : State) (locs' : List Loc) (h' : Heap), Stand p l e room_1 s m #[(.int p0)] below meth c T' locs' 10 65 ∧ T'.heap = h' ∧ Fr n0 locs' ∧ n0 ≤ h'.size ∧ Old Z n0 h' ∧ Exa Z h' b36_0 "com/example/tenon/tenon/Budget" ∧ Fld Z h' b36_0 "com/example/tenon/tenon/Budget" "limit" "J" (.long (9223372036854775807 : Int64)) ∧ Fld Z h' b36_0 "com/example/tenon/tenon/Budget" "held" "J" (.long (0 : Int64)) ∧ Exa Z h' b37 "com/example/tenon/tenon/Assignments" ∧ Fld Z h' b37 "com/example/tenon/tenon/Assignments" "below" "Lcom/example/tenon/tenon/Assignments;" .null ∧ Fld Z h' b37 "com/example/tenon/tenon/Assignments" "blindness" "I" (.int (f0_m71 p0)) ∧ Exa Z h' b40 "com/example/tenon/tenon/Assignments" ∧ Fld Z h' b40 "com/example/tenon/tenon/Assignments" "below" "Lcom/example/tenon/tenon/Assignments;" .null ∧ Fld Z h' b40 "com/example/tenon/tenon/Assignments" "blindness" "I" (.int (f0_m108 p0)) ∧ Exa Z h' b48 "com/example/tenon/tenon/Assignments" ∧ Fld Z h' b48 "com/example/tenon/tenon/Assignments" "changed" "Ljava/util/List;" (.ref b54_0) ∧ Fld Z h' b48 "com/example/tenon/tenon/Assignments" "budget" "Lcom/example/tenon/tenon/Budget;" (.ref b36_0) ∧ Fld Z h' b48 "com/example/tenon/tenon/Assignments" "below" "Lcom/example/tenon/tenon/Assignments;" .null ∧ Fld Z h' b48 "com/example/tenon/tenon/Assignments" "blindness" "I" (.int (f0_m130 p0)) ∧ Fld Z h' b48 "com/example/tenon/tenon/Assignments" "marks" "I" (.int (0 : Int32)) ∧ Exa Z h' b54_0 "java/util/ArrayList" ∧ Fld Z h' b54_0 "java/util/AbstractList" "modCount" "I" (.int (0 : Int32)) ∧ Fld Z h' b54_0 "java/util/ArrayList" "elementData" "[Ljava/lang/Object;" (.ref sD) ∧ Fld Z h' b54_0 "java/util/ArrayList" "size" "I" (.int (0 : Int32)) ∧ ∀ t, Steps p.tables e below (T'.setTop (mkF m 181 #[.val (.int p0), .val (.int (f0_m5 p0)), .val (.int (f0_m10 p0)), .val (.int (f0_m15 p0)), .val (.int (f0_m20 p0)), .val (.int (f0_m25 p0)), .val (.int (f0_m30 p0)), .val (.int (f0_m35 p0)), .val (.ref b36_0), .val (.ref b37), .val (.ref b40), .val (.ref b48), .unset, .unset, .unset] [])) t → Steps p.tables e below (s₁.setTop (entryFrame m #[(.int p0)] maxLocals)) t := by
        by_cases hc173_126 : (f0_m5 p0) = (0 : Int32)
        · have pre127 : ∀ t, Steps p.tables e below (T104.setTop (mkF m 181 #[.val (.int p0), .val (.int (f0_m5 p0)), .val (.int (f0_m10 p0)), .val (.int (f0_m15 p0)), .val (.int (f0_m20 p0)), .val (.int (f0_m25 p0)), .val (.int (f0_m30 p0)), .val (.int (f0_m35 p0)), .val (.ref b36_0), .val (.ref b37), .val (.ref b40), .val (.ref b48), .unset, .unset, .unset] [])) t → Steps p.tables e below (s₁.setTop (entryFrame m #[(.int p0)] maxLocals)) t := fun t k => pre125 t (by
            show Steps p.tables e below (T104.setTop (mkF m 173 #[.val (.int p0), .val (.int (f0_m5 p0)), .val (.int (f0_m10 p0)), .val (.int (f0_m15 p0)), .val (.int (f0_m20 p0)), .val (.int (f0_m25 p0)), .val (.int (f0_m30 p0)), .val (.int (f0_m35 p0)), .val (.ref b36_0), .val (.ref b37), .val (.ref b40), .val (.ref b48), .unset, .unset, .unset] [(.int (f0_m5 p0))])) _
            refine XS.ifYes X104.here hx rfl (pc0 := 173) (pc' := 181) rfl (hb hby at_173) rfl ((if0 _ _).trans (teq hc173_126).1) (by decide) (by decide) ?_
            exact k)
          have q_f0_m130 : f0_m130 p0 = (0 : Int32) := by unfold f0_m130; rw [if_pos hc173_126]
          rw [q_f0_m130]
          exact ⟨T104, _, h104, X104, e104, N104, Z104, O104, fm104_0, fm104_1, fm104_2, fm104_3, fm104_4, fm104_5, fm104_6, fm104_7, fm104_8, fm104_9, fm104_10, fm104_11, fm104_12, fm104_13, fm104_14, fm104_15, fm104_16, fm104_17, fm104_18, pre127⟩
        obtain ⟨cq128, kq128, q128a, q128b, q128c⟩ := isOf hZ e104 fm104_9
        obtain ⟨_, _, ⟨T128, L128, k128, n128⟩, -, X128, ⟨Lc128, hQ128, l128, y128, z128⟩, st128⟩ := X104.virtualBack hx (y := (⟨"com/example/tenon/tenon/Assignments", "notKnown", "()V"⟩ : MethodName)) (z := (⟨"com/example/tenon/tenon/Assignments", "notKnown", "()V"⟩ : MethodName)) hown (mvT hZ (hw _ (List.mem_of_getElem? (i := 91) rfl))) (mvT hZ (hw _ (List.mem_of_getElem? (i := 92) rfl))) (notFace_of_selects (args := #[]) (mvT hZ (hw _ (List.mem_of_getElem? (i := 94) rfl)))) (mvT hZ (hw _ (List.mem_of_getElem? (i := 94) rfl))) (mvT hZ (hw _ (List.mem_of_getElem? (i := 93) rfl))) (by decide) (backOf (W := 0) (rm13 l Z a0' hw [] b48 (.ref b54_0) (.ref b36_0) .null (0 : Int32) h104 n0 Z104 fm104_9 fm104_10 fm104_11 fm104_12 fm104_13 fm104_14 g_b48) hZ (hw _ (List.mem_of_getElem? (i := 95) rfl)) (hw _ (List.mem_of_getElem? (i := 17) rfl)) (by decide) (by decide)) q128a q128c (g := (mkF m 178 #[.val (.int p0), .val (.int (f0_m5 p0)), .val (.int (f0_m10 p0)), .val (.int (f0_m15 p0)), .val (.int (f0_m20 p0)), .val (.int (f0_m25 p0)), .val (.int (f0_m30 p0)), .val (.int (f0_m35 p0)), .val (.ref b36_0), .val (.ref b37), .val (.ref b40), .val (.ref b48), .unset, .unset, .unset] [(.ref b48)])) rfl (by rw [hml]; rfl) (Steps.refl _) (argsL := []) (rest := []) (lenOf pd0 rfl) rfl (by show 2 * 0 + _ ≤ _; exact Nat.le_of_eq rfl) (hb hby at_178) (fun _ _ => ⟨rfl, e104, (by decide : 10 + 0 ≤ _), (by decide : 65 + 0 ≤ _)⟩)
        dsimp only [Pt.U, Pt.locs, Pt.cells, Pt.slots] at X128 l128 y128 z128 st128 hQ128
        subst l128 y128 z128
        obtain ⟨rfl, N128q, K128, u128_0, u128_1, u128_2, u128_3, u128_4, u128_5⟩ := hQ128
        have N128 := Fr.app N104 N128q
        have Z128 : n0 ≤ T128.heap.size := Nat.le_trans Z104 K128.1
        have O128 : Old Z n0 T128.heap := O104.keep K128 (allS g_b48 all0)
        have pre129 : ∀ t, Steps p.tables e below (T128.setTop (mkF m 181 #[.val (.int p0), .val (.int (f0_m5 p0)), .val (.int (f0_m10 p0)), .val (.int (f0_m15 p0)), .val (.int (f0_m20 p0)), .val (.int (f0_m25 p0)), .val (.int (f0_m30 p0)), .val (.int (f0_m35 p0)), .val (.ref b36_0), .val (.ref b37), .val (.ref b40), .val (.ref b48), .unset, .unset, .unset] [])) t → Steps p.tables e below (s₁.setTop (entryFrame m #[(.int p0)] maxLocals)) t := fun t k => pre125 t (by
          show Steps p.tables e below (T104.setTop (mkF m 173 #[.val (.int p0), .val (.int (f0_m5 p0)), .val (.int (f0_m10 p0)), .val (.int (f0_m15 p0)), .val (.int (f0_m20 p0)), .val (.int (f0_m25 p0)), .val (.int (f0_m30 p0)), .val (.int (f0_m35 p0)), .val (.ref b36_0), .val (.ref b37), .val (.ref b40), .val (.ref b48), .unset, .unset, .unset] [(.int (f0_m5 p0))])) _
          refine XS.ifNo X104.here hx rfl (hb hby at_173) rfl ((if0 _ _).trans (feq hc173_126).1) ?_
          show Steps p.tables e below (T104.setTop (mkF m 176 #[.val (.int p0), .val (.int (f0_m5 p0)), .val (.int (f0_m10 p0)), .val (.int (f0_m15 p0)), .val (.int (f0_m20 p0)), .val (.int (f0_m25 p0)), .val (.int (f0_m30 p0)), .val (.int (f0_m35 p0)), .val (.ref b36_0), .val (.ref b37), .val (.ref b40), .val (.ref b48), .unset, .unset, .unset] [])) _
          refine XS.aload X104.here hx rfl (hb hby at_176) rfl rfl ?_
          show Steps p.tables e below (T104.setTop (mkF m 178 #[.val (.int p0), .val (.int (f0_m5 p0)), .val (.int (f0_m10 p0)), .val (.int (f0_m15 p0)), .val (.int (f0_m20 p0)), .val (.int (f0_m25 p0)), .val (.int (f0_m30 p0)), .val (.int (f0_m35 p0)), .val (.ref b36_0), .val (.ref b37), .val (.ref b40), .val (.ref b48), .unset, .unset, .unset] [(.ref b48)])) _
          refine st128.trans ?_
          exact k)
        have q_f0_m130 : f0_m130 p0 = (1 : Int32) := by unfold f0_m130; rw [if_neg hc173_126]
        rw [q_f0_m130]
        have y131 := (fm104_0.keep K128)
        have y132 := (fm104_1.keep K128 (ninS ne_b36_0_b48 nin0))
        have y133 := (fm104_2.keep K128 (ninS ne_b36_0_b48 nin0))
        have y134 := (fm104_3.keep K128)
        have y135 := (fm104_4.keep K128 (ninS ne_b37_b48 nin0))
        have y136 := (fm104_5.keep K128 (ninS ne_b37_b48 nin0))
        have y137 := (fm104_6.keep K128)
        have y138 := (fm104_7.keep K128 (ninS ne_b40_b48 nin0))
        have y139 := (fm104_8.keep K128 (ninS ne_b40_b48 nin0))
        have y140 := (fm104_15.keep K128)
        have y141 := (fm104_16.keep K128 (ninS (Ne.symm ne_b48_b54_0) nin0))
        have y142 := (fm104_17.keep K128 (ninS (Ne.symm ne_b48_b54_0) nin0))
        have y143 := (fm104_18.keep K128 (ninS (Ne.symm ne_b48_b54_0) nin0))
        exact ⟨T128, _, T128.heap, X128, rfl, N128, Z128, O128, y131, y132, y133, y134, y135, y136, y137, y138, y139, u128_0, u128_1, u128_2, u128_3, u128_4, u128_5, y140, y141, y142, y143, pre129⟩
      have pre144 : ∀ t, Steps p.tables e below (T126.setTop (mkF m 182 #[.val (.int p0), .val (.int (f0_m5 p0)), .val (.int (f0_m10 p0)), .val (.int (f0_m15 p0)), .val (.int (f0_m20 p0)), .val (.int (f0_m25 p0)), .val (.int (f0_m30 p0)), .val (.int (f0_m35 p0)), .val (.ref b36_0), .val (.ref b37), .val (.ref b40), .val (.ref b48), .unset, .unset, .unset] [(.int (f0_m10 p0))])) t → Steps p.tables e below (s₁.setTop (entryFrame m #[(.int p0)] maxLocals)) t := fun t k => pre126 t (by
        show Steps p.tables e below (T126.setTop (mkF m 181 #[.val (.int p0), .val (.int (f0_m5 p0)), .val (.int (f0_m10 p0)), .val (.int (f0_m15 p0)), .val (.int (f0_m20 p0)), .val (.int (f0_m25 p0)), .val (.int (f0_m30 p0)), .val (.int (f0_m35 p0)), .val (.ref b36_0), .val (.ref b37), .val (.ref b40), .val (.ref b48), .unset, .unset, .unset] [])) _
        refine XS.iloadN X126.here hx rfl (hb hby at_181) rfl ?_
        exact k)
      obtain ⟨T145, L145, h145, s145_12, X145, e145, N145, Z145, O145, fm145_0, fm145_1, fm145_2, fm145_3, fm145_4, fm145_5, fm145_6, fm145_7, fm145_8, hs145_12, pre145⟩ : ∃ (T' : State) (locs' : List Loc) (h' : Heap) (s145_12 : Slot), Stand p l e room_1 s m #[(.int p0)] below meth c T' locs' 12 77 ∧ T'.heap = h' ∧ Fr n0 locs' ∧ n0 ≤ h'.size ∧ Old Z n0 h' ∧ Exa Z h' b37 "com/example/tenon/tenon/Assignments" ∧ Fld Z h' b37 "com/example/tenon/tenon/Assignments" "below" "Lcom/example/tenon/tenon/Assignments;" .null ∧ Fld Z h' b37 "com/example/tenon/tenon/Assignments" "blindness" "I" (.int (f0_m71 p0)) ∧ Exa Z h' b40 "com/example/tenon/tenon/Assignments" ∧ Fld Z h' b40 "com/example/tenon/tenon/Assignments" "below" "Lcom/example/tenon/tenon/Assignments;" .null ∧ Fld Z h' b40 "com/example/tenon/tenon/Assignments" "blindness" "I" (.int (f0_m108 p0)) ∧ Exa Z h' b48 "com/example/tenon/tenon/Assignments" ∧ Fld Z h' b48 "com/example/tenon/tenon/Assignments" "below" "Lcom/example/tenon/tenon/Assignments;" .null ∧ Fld Z h' b48 "com/example/tenon/tenon/Assignments" "blindness" "I" (.int (f0_m163 p0)) ∧ One s145_12 ∧ ∀ t, Steps p.tables e below (T'.setTop (mkF m 208 #[.val (.int p0), .val (.int (f0_m5 p0)), .val (.int (f0_m10 p0)), .val (.int (f0_m15 p0)), .val (.int (f0_m20 p0)), .val (.int (f0_m25 p0)), .val (.int (f0_m30 p0)), .val (.int (f0_m35 p0)), .val (.ref b36_0), .val (.ref b37), .val (.ref b40), .val (.ref b48), s145_12, .unset, .unset] [])) t → Steps p.tables e below (s₁.setTop (entryFrame m #[(.int p0)] maxLocals)) t := by
        by_cases hc182_145 : (f0_m10 p0) = (0 : Int32)
        · have pre146 : ∀ t, Steps p.tables e below (T126.setTop (mkF m 208 #[.val (.int p0), .val (.int (f0_m5 p0)), .val (.int (f0_m10 p0)), .val (.int (f0_m15 p0)), .val (.int (f0_m20 p0)), .val (.int (f0_m25 p0)), .val (.int (f0_m30 p0)), .val (.int (f0_m35 p0)), .val (.ref b36_0), .val (.ref b37), .val (.ref b40), .val (.ref b48), .unset, .unset, .unset] [])) t → Steps p.tables e below (s₁.setTop (entryFrame m #[(.int p0)] maxLocals)) t := fun t k => pre144 t (by
            show Steps p.tables e below (T126.setTop (mkF m 182 #[.val (.int p0), .val (.int (f0_m5 p0)), .val (.int (f0_m10 p0)), .val (.int (f0_m15 p0)), .val (.int (f0_m20 p0)), .val (.int (f0_m25 p0)), .val (.int (f0_m30 p0)), .val (.int (f0_m35 p0)), .val (.ref b36_0), .val (.ref b37), .val (.ref b40), .val (.ref b48), .unset, .unset, .unset] [(.int (f0_m10 p0))])) _
            refine XS.ifYes X126.here hx rfl (pc0 := 182) (pc' := 208) rfl (hb hby at_182) rfl ((if0 _ _).trans (teq hc182_145).1) (by decide) (by decide) ?_
            exact k)
          have q_f0_m163 : f0_m163 p0 = (f0_m130 p0) := by unfold f0_m163; rw [if_pos hc182_145]
          rw [q_f0_m163]
          exact ⟨T126, _, h126, .unset, (X126.more (by decide) (by decide)), e126, N126, Z126, O126, fm126_3, fm126_4, fm126_5, fm126_6, fm126_7, fm126_8, fm126_9, fm126_12, fm126_13, One.u, pre146⟩
        obtain ⟨cq147, kq147, q147a, q147b, q147c⟩ := isOf hZ e126 fm126_9
        obtain ⟨_, _, ⟨T147, L147, k147, n147⟩, -, X147, ⟨Lc147, hQ147, l147, y147, z147⟩, st147⟩ := X126.virtualBack hx (y := (⟨"com/example/tenon/tenon/Assignments", "mark", "()I"⟩ : MethodName)) (z := (⟨"com/example/tenon/tenon/Assignments", "mark", "()I"⟩ : MethodName)) hown (mvT hZ (hw _ (List.mem_of_getElem? (i := 98) rfl))) (mvT hZ (hw _ (List.mem_of_getElem? (i := 99) rfl))) (notFace_of_selects (args := #[]) (mvT hZ (hw _ (List.mem_of_getElem? (i := 101) rfl)))) (mvT hZ (hw _ (List.mem_of_getElem? (i := 101) rfl))) (mvT hZ (hw _ (List.mem_of_getElem? (i := 100) rfl))) (by decide) (backOf (W := 0) (rm14 l Z a0' hw [] b48 b54_0 (.ref b36_0) .null (f0_m130 p0) h126 n0 Z126 fm126_9 fm126_15 fm126_10 fm126_11 fm126_12 fm126_13 fm126_14 fm126_18 g_b48) hZ (hw _ (List.mem_of_getElem? (i := 102) rfl)) (hw _ (List.mem_of_getElem? (i := 17) rfl)) (by decide) (by decide)) q147a q147c (g := (mkF m 187 #[.val (.int p0), .val (.int (f0_m5 p0)), .val (.int (f0_m10 p0)), .val (.int (f0_m15 p0)), .val (.int (f0_m20 p0)), .val (.int (f0_m25 p0)), .val (.int (f0_m30 p0)), .val (.int (f0_m35 p0)), .val (.ref b36_0), .val (.ref b37), .val (.ref b40), .val (.ref b48), .unset, .unset, .unset] [(.ref b48)])) rfl (by rw [hml]; rfl) (Steps.refl _) (argsL := []) (rest := []) (lenOf pd10 rfl) rfl (by show 2 * 0 + _ ≤ _; exact Nat.le_of_eq rfl) (hb hby at_187) (fun _ _ => ⟨rfl, e126, (by decide : 10 + 0 ≤ _), (by decide : 65 + 0 ≤ _)⟩)
        dsimp only [Pt.U, Pt.locs, Pt.cells, Pt.slots] at X147 l147 y147 z147 st147 hQ147
        subst l147 y147 z147
        obtain ⟨rfl, N147q, K147, u147_0, u147_1, u147_2, u147_3, u147_4, u147_5⟩ := hQ147
        have N147 := Fr.app N126 N147q
        have Z147 : n0 ≤ T147.heap.size := Nat.le_trans Z126 K147.1
        have O147 : Old Z n0 T147.heap := O126.keep K147 (allS g_b48 all0)
        have y149 := (fm126_1.keep K147 (ninS ne_b36_0_b48 nin0))
        have y150 := (fm126_2.keep K147 (ninS ne_b36_0_b48 nin0))
        have y151 := (fm126_16.keep K147 (ninS (Ne.symm ne_b48_b54_0) nin0))
        have y152 := (fm126_0.keep K147)
        have y153 := (fm126_15.keep K147)
        have y154 := (fm126_17.keep K147 (ninS (Ne.symm ne_b48_b54_0) nin0))
        have y155 := (fm126_18.keep K147 (ninS (Ne.symm ne_b48_b54_0) nin0))
        obtain ⟨cq148, kq148, q148a, q148b, q148c⟩ := isOf hZ rfl u147_0
        obtain ⟨_, _, ⟨T148, L148, k148, n148⟩, -, X148, ⟨Lc148, hQ148, l148, y148, z148⟩, st148⟩ := X147.virtualBack hx (y := (⟨"com/example/tenon/tenon/Assignments", "notKnown", "()V"⟩ : MethodName)) (z := (⟨"com/example/tenon/tenon/Assignments", "notKnown", "()V"⟩ : MethodName)) hown (mvT hZ (hw _ (List.mem_of_getElem? (i := 91) rfl))) (mvT hZ (hw _ (List.mem_of_getElem? (i := 92) rfl))) (notFace_of_selects (args := #[]) (mvT hZ (hw _ (List.mem_of_getElem? (i := 94) rfl)))) (mvT hZ (hw _ (List.mem_of_getElem? (i := 94) rfl))) (mvT hZ (hw _ (List.mem_of_getElem? (i := 93) rfl))) (by decide) (backOf (W := 0) (rm13m l Z a0' hw [] b48 b54_0 b36_0 .null (f0_m130 p0) (9223372036854775807 : Int64) (0 : Int64) (0 : Int32) sD kS_sD T147.heap n0 Z147 u147_0 y152 y153 u147_1 u147_2 u147_3 u147_4 u147_5 y149 y150 y151 y154 y155 g_b36_0 g_b54_0 g_b48 O147 VS_sD S_sD (by decide)) hZ (hw _ (List.mem_of_getElem? (i := 95) rfl)) (hw _ (List.mem_of_getElem? (i := 17) rfl)) (by decide) (by decide)) q148a q148c (g := (mkF m 194 #[.val (.int p0), .val (.int (f0_m5 p0)), .val (.int (f0_m10 p0)), .val (.int (f0_m15 p0)), .val (.int (f0_m20 p0)), .val (.int (f0_m25 p0)), .val (.int (f0_m30 p0)), .val (.int (f0_m35 p0)), .val (.ref b36_0), .val (.ref b37), .val (.ref b40), .val (.ref b48), .val (.int (0 : Int32)), .unset, .unset] [(.ref b48)])) rfl (by rw [hml]; rfl) (Steps.refl _) (argsL := []) (rest := []) (lenOf pd0 rfl) rfl (by show 2 * 0 + _ ≤ _; exact Nat.le_of_eq rfl) (hb hby at_194) (fun _ _ => ⟨rfl, rfl, (by decide : 10 + 2 ≤ _), (by decide : 65 + 12 ≤ _)⟩)
        dsimp only [Pt.U, Pt.locs, Pt.cells, Pt.slots] at X148 l148 y148 z148 st148 hQ148
        subst l148 y148 z148
        have y156 := (fm126_3.keep K147)
        have y157 := (fm126_6.keep K147)
        obtain ⟨b148_0, b148_1, rfl, N148q, gs_b148_0, g_b148_0, gs_b148_1, g_b148_1, K148, u148_0, u148_1, u148_2, u148_3, u148_4, u148_5, u148_6, u148_7, u148_8, u148_9, u148_10, u148_11, u148_12, u148_13, u148_14, u148_15, u148_16⟩ := hQ148
        have N148 := Fr.app N147 N148q
        have ne_b36_0_b148_0 : b36_0 ≠ b148_0 := Nat.ne_of_lt (Nat.lt_of_lt_of_le y152.lt gs_b148_0)
        have ne_b37_b148_0 : b37 ≠ b148_0 := Nat.ne_of_lt (Nat.lt_of_lt_of_le y156.lt gs_b148_0)
        have ne_b40_b148_0 : b40 ≠ b148_0 := Nat.ne_of_lt (Nat.lt_of_lt_of_le y157.lt gs_b148_0)
        have ne_b48_b148_0 : b48 ≠ b148_0 := Nat.ne_of_lt (Nat.lt_of_lt_of_le u147_0.lt gs_b148_0)
        have ne_b54_0_b148_0 : b54_0 ≠ b148_0 := Nat.ne_of_lt (Nat.lt_of_lt_of_le y153.lt gs_b148_0)
        have ne_b36_0_b148_1 : b36_0 ≠ b148_1 := Nat.ne_of_lt (Nat.lt_of_lt_of_le y152.lt gs_b148_1)
        have ne_b37_b148_1 : b37 ≠ b148_1 := Nat.ne_of_lt (Nat.lt_of_lt_of_le y156.lt gs_b148_1)
        have ne_b40_b148_1 : b40 ≠ b148_1 := Nat.ne_of_lt (Nat.lt_of_lt_of_le y157.lt gs_b148_1)
        have ne_b48_b148_1 : b48 ≠ b148_1 := Nat.ne_of_lt (Nat.lt_of_lt_of_le u147_0.lt gs_b148_1)
        have ne_b54_0_b148_1 : b54_0 ≠ b148_1 := Nat.ne_of_lt (Nat.lt_of_lt_of_le y153.lt gs_b148_1)
        have Z148 : n0 ≤ T148.heap.size := Nat.le_trans Z147 K148.1
        have O148 : Old Z n0 T148.heap := O147.keep K148 (allS g_b36_0 (allS g_b54_0 (allS g_b48 all0)))
        obtain ⟨kk_u148_13, u148_13, ov_u148_13⟩ := u148_13
        have pre158 : ∀ t, Steps p.tables e below (T148.setTop (mkF m 198 #[.val (.int p0), .val (.int (f0_m5 p0)), .val (.int (f0_m10 p0)), .val (.int (f0_m15 p0)), .val (.int (f0_m20 p0)), .val (.int (f0_m25 p0)), .val (.int (f0_m30 p0)), .val (.int (f0_m35 p0)), .val (.ref b36_0), .val (.ref b37), .val (.ref b40), .val (.ref b48), .val (.int (0 : Int32)), .unset, .unset] [(.int (f0_m15 p0))])) t → Steps p.tables e below (s₁.setTop (entryFrame m #[(.int p0)] maxLocals)) t := fun t k => pre144 t (by
          show Steps p.tables e below (T126.setTop (mkF m 182 #[.val (.int p0), .val (.int (f0_m5 p0)), .val (.int (f0_m10 p0)), .val (.int (f0_m15 p0)), .val (.int (f0_m20 p0)), .val (.int (f0_m25 p0)), .val (.int (f0_m30 p0)), .val (.int (f0_m35 p0)), .val (.ref b36_0), .val (.ref b37), .val (.ref b40), .val (.ref b48), .unset, .unset, .unset] [(.int (f0_m10 p0))])) _
          refine XS.ifNo X126.here hx rfl (hb hby at_182) rfl ((if0 _ _).trans (feq hc182_145).1) ?_
          show Steps p.tables e below (T126.setTop (mkF m 185 #[.val (.int p0), .val (.int (f0_m5 p0)), .val (.int (f0_m10 p0)), .val (.int (f0_m15 p0)), .val (.int (f0_m20 p0)), .val (.int (f0_m25 p0)), .val (.int (f0_m30 p0)), .val (.int (f0_m35 p0)), .val (.ref b36_0), .val (.ref b37), .val (.ref b40), .val (.ref b48), .unset, .unset, .unset] [])) _
          refine XS.aload X126.here hx rfl (hb hby at_185) rfl rfl ?_
          show Steps p.tables e below (T126.setTop (mkF m 187 #[.val (.int p0), .val (.int (f0_m5 p0)), .val (.int (f0_m10 p0)), .val (.int (f0_m15 p0)), .val (.int (f0_m20 p0)), .val (.int (f0_m25 p0)), .val (.int (f0_m30 p0)), .val (.int (f0_m35 p0)), .val (.ref b36_0), .val (.ref b37), .val (.ref b40), .val (.ref b48), .unset, .unset, .unset] [(.ref b48)])) _
          refine st147.trans ?_
          show Steps p.tables e below (T147.setTop (mkF m 190 #[.val (.int p0), .val (.int (f0_m5 p0)), .val (.int (f0_m10 p0)), .val (.int (f0_m15 p0)), .val (.int (f0_m20 p0)), .val (.int (f0_m25 p0)), .val (.int (f0_m30 p0)), .val (.int (f0_m35 p0)), .val (.ref b36_0), .val (.ref b37), .val (.ref b40), .val (.ref b48), .unset, .unset, .unset] [(.int (0 : Int32))])) _
          refine XS.istore X147.here hx rfl (hb hby at_190) rfl (l' := #[.val (.int p0), .val (.int (f0_m5 p0)), .val (.int (f0_m10 p0)), .val (.int (f0_m15 p0)), .val (.int (f0_m20 p0)), .val (.int (f0_m25 p0)), .val (.int (f0_m30 p0)), .val (.int (f0_m35 p0)), .val (.ref b36_0), .val (.ref b37), .val (.ref b40), .val (.ref b48), .val (.int (0 : Int32)), .unset, .unset]) rfl ?_
          show Steps p.tables e below (T147.setTop (mkF m 192 #[.val (.int p0), .val (.int (f0_m5 p0)), .val (.int (f0_m10 p0)), .val (.int (f0_m15 p0)), .val (.int (f0_m20 p0)), .val (.int (f0_m25 p0)), .val (.int (f0_m30 p0)), .val (.int (f0_m35 p0)), .val (.ref b36_0), .val (.ref b37), .val (.ref b40), .val (.ref b48), .val (.int (0 : Int32)), .unset, .unset] [])) _
          refine XS.aload X147.here hx rfl (hb hby at_192) rfl rfl ?_
          show Steps p.tables e below (T147.setTop (mkF m 194 #[.val (.int p0), .val (.int (f0_m5 p0)), .val (.int (f0_m10 p0)), .val (.int (f0_m15 p0)), .val (.int (f0_m20 p0)), .val (.int (f0_m25 p0)), .val (.int (f0_m30 p0)), .val (.int (f0_m35 p0)), .val (.ref b36_0), .val (.ref b37), .val (.ref b40), .val (.ref b48), .val (.int (0 : Int32)), .unset, .unset] [(.ref b48)])) _
          refine st148.trans ?_
          show Steps p.tables e below (T148.setTop (mkF m 197 #[.val (.int p0), .val (.int (f0_m5 p0)), .val (.int (f0_m10 p0)), .val (.int (f0_m15 p0)), .val (.int (f0_m20 p0)), .val (.int (f0_m25 p0)), .val (.int (f0_m30 p0)), .val (.int (f0_m35 p0)), .val (.ref b36_0), .val (.ref b37), .val (.ref b40), .val (.ref b48), .val (.int (0 : Int32)), .unset, .unset] [])) _
          refine XS.iloadN X148.here hx rfl (hb hby at_197) rfl ?_
          exact k)
        by_cases hc198_159 : (f0_m15 p0) = (0 : Int32)
        · have pre160 : ∀ t, Steps p.tables e below (T148.setTop (mkF m 208 #[.val (.int p0), .val (.int (f0_m5 p0)), .val (.int (f0_m10 p0)), .val (.int (f0_m15 p0)), .val (.int (f0_m20 p0)), .val (.int (f0_m25 p0)), .val (.int (f0_m30 p0)), .val (.int (f0_m35 p0)), .val (.ref b36_0), .val (.ref b37), .val (.ref b40), .val (.ref b48), .val (.int (0 : Int32)), .unset, .unset] [])) t → Steps p.tables e below (s₁.setTop (entryFrame m #[(.int p0)] maxLocals)) t := fun t k => pre158 t (by
            show Steps p.tables e below (T148.setTop (mkF m 198 #[.val (.int p0), .val (.int (f0_m5 p0)), .val (.int (f0_m10 p0)), .val (.int (f0_m15 p0)), .val (.int (f0_m20 p0)), .val (.int (f0_m25 p0)), .val (.int (f0_m30 p0)), .val (.int (f0_m35 p0)), .val (.ref b36_0), .val (.ref b37), .val (.ref b40), .val (.ref b48), .val (.int (0 : Int32)), .unset, .unset] [(.int (f0_m15 p0))])) _
            refine XS.ifYes X148.here hx rfl (pc0 := 198) (pc' := 208) rfl (hb hby at_198) rfl ((if0 _ _).trans (teq hc198_159).1) (by decide) (by decide) ?_
            exact k)
          have q_f0_m163 : f0_m163 p0 = ((f0_m130 p0) + (1 : Int32)) := by unfold f0_m163; rw [if_neg hc182_145, if_pos hc198_159]
          rw [q_f0_m163]
          have y164 := (y156.keep K148)
          have y165 := ((fm126_4.keep K147 (ninS ne_b37_b48 nin0)).keep K148 (ninS (Ne.symm ne_b36_0_b37) (ninS ne_b37_b54_0 (ninS ne_b37_b48 nin0))))
          have y166 := ((fm126_5.keep K147 (ninS ne_b37_b48 nin0)).keep K148 (ninS (Ne.symm ne_b36_0_b37) (ninS ne_b37_b54_0 (ninS ne_b37_b48 nin0))))
          have y167 := (y157.keep K148)
          have y168 := ((fm126_7.keep K147 (ninS ne_b40_b48 nin0)).keep K148 (ninS (Ne.symm ne_b36_0_b40) (ninS ne_b40_b54_0 (ninS ne_b40_b48 nin0))))
          have y169 := ((fm126_8.keep K147 (ninS ne_b40_b48 nin0)).keep K148 (ninS (Ne.symm ne_b36_0_b40) (ninS ne_b40_b54_0 (ninS ne_b40_b48 nin0))))
          exact ⟨T148, _, T148.heap, .val (.int (0 : Int32)), X148, rfl, N148, Z148, O148, y164, y165, y166, y167, y168, y169, u148_7, u148_10, u148_11, One.val rfl, pre160⟩
        obtain ⟨cq161, kq161, q161a, q161b, q161c⟩ := isOf hZ rfl u148_7
        obtain ⟨_, _, ⟨T161, L161, k161, n161⟩, -, X161, ⟨Lc161, hQ161, l161, y161, z161⟩, st161⟩ := X148.virtualBack hx (y := (⟨"com/example/tenon/tenon/Assignments", "undo", "(I)V"⟩ : MethodName)) (z := (⟨"com/example/tenon/tenon/Assignments", "undo", "(I)V"⟩ : MethodName)) hown (mvT hZ (hw _ (List.mem_of_getElem? (i := 175) rfl))) (mvT hZ (hw _ (List.mem_of_getElem? (i := 176) rfl))) (notFace_of_selects (args := #[]) (mvT hZ (hw _ (List.mem_of_getElem? (i := 178) rfl)))) (mvT hZ (hw _ (List.mem_of_getElem? (i := 178) rfl))) (mvT hZ (hw _ (List.mem_of_getElem? (i := 177) rfl))) (by decide) (backOf (W := 0) (rm25 l Z a0' hw [] b48 b54_0 b36_0 .null ((f0_m130 p0) + (1 : Int32)) (1 : Int32) b148_0 (9223372036854775807 : Int64) (56 : Int64) kk_u148_13 b148_1 T148.heap n0 Z148 u148_7 u148_13 u148_3 u148_14 u148_0 u148_8 u148_9 u148_10 u148_11 u148_12 u148_4 u148_5 u148_1 u148_2 u148_6 u148_15 g_b54_0 g_b148_0 g_b48 g_b36_0) hZ (hw _ (List.mem_of_getElem? (i := 179) rfl)) (hw _ (List.mem_of_getElem? (i := 17) rfl)) (by decide) (by decide)) q161a q161c (g := (mkF m 205 #[.val (.int p0), .val (.int (f0_m5 p0)), .val (.int (f0_m10 p0)), .val (.int (f0_m15 p0)), .val (.int (f0_m20 p0)), .val (.int (f0_m25 p0)), .val (.int (f0_m30 p0)), .val (.int (f0_m35 p0)), .val (.ref b36_0), .val (.ref b37), .val (.ref b40), .val (.ref b48), .val (.int (0 : Int32)), .unset, .unset] [(.int (0 : Int32)), (.ref b48)])) rfl (by rw [hml]; rfl) (Steps.refl _) (argsL := [(.int (0 : Int32))]) (rest := []) (lenOf pd15 rfl) rfl (by show 2 * 0 + _ ≤ _; exact Nat.le_of_eq rfl) (hb hby at_205) (fun _ _ => ⟨rfl, rfl, (by decide : 12 + 0 ≤ _), (by decide : 77 + 0 ≤ _)⟩)
        dsimp only [Pt.U, Pt.locs, Pt.cells, Pt.slots] at X161 l161 y161 z161 st161 hQ161
        subst l161 y161 z161
        obtain ⟨rfl, N161q, K161, u161_0, u161_1, u161_2, u161_3, u161_4, u161_5, u161_6, u161_7, u161_8, u161_9, u161_10, u161_11, u161_12, u161_13⟩ := hQ161
        have N161 := Fr.app N148 N161q
        have Z161 : n0 ≤ T161.heap.size := Nat.le_trans Z148 K161.1
        have O161 : Old Z n0 T161.heap := O148.keep K161 (allS g_b36_0 (allS g_b48 (allS g_b148_0 (allS g_b54_0 all0))))
        obtain ⟨kk_u161_9, u161_9⟩ := u161_9
        have pre162 : ∀ t, Steps p.tables e below (T161.setTop (mkF m 208 #[.val (.int p0), .val (.int (f0_m5 p0)), .val (.int (f0_m10 p0)), .val (.int (f0_m15 p0)), .val (.int (f0_m20 p0)), .val (.int (f0_m25 p0)), .val (.int (f0_m30 p0)), .val (.int (f0_m35 p0)), .val (.ref b36_0), .val (.ref b37), .val (.ref b40), .val (.ref b48), .val (.int (0 : Int32)), .unset, .unset] [])) t → Steps p.tables e below (s₁.setTop (entryFrame m #[(.int p0)] maxLocals)) t := fun t k => pre158 t (by
          show Steps p.tables e below (T148.setTop (mkF m 198 #[.val (.int p0), .val (.int (f0_m5 p0)), .val (.int (f0_m10 p0)), .val (.int (f0_m15 p0)), .val (.int (f0_m20 p0)), .val (.int (f0_m25 p0)), .val (.int (f0_m30 p0)), .val (.int (f0_m35 p0)), .val (.ref b36_0), .val (.ref b37), .val (.ref b40), .val (.ref b48), .val (.int (0 : Int32)), .unset, .unset] [(.int (f0_m15 p0))])) _
          refine XS.ifNo X148.here hx rfl (hb hby at_198) rfl ((if0 _ _).trans (feq hc198_159).1) ?_
          show Steps p.tables e below (T148.setTop (mkF m 201 #[.val (.int p0), .val (.int (f0_m5 p0)), .val (.int (f0_m10 p0)), .val (.int (f0_m15 p0)), .val (.int (f0_m20 p0)), .val (.int (f0_m25 p0)), .val (.int (f0_m30 p0)), .val (.int (f0_m35 p0)), .val (.ref b36_0), .val (.ref b37), .val (.ref b40), .val (.ref b48), .val (.int (0 : Int32)), .unset, .unset] [])) _
          refine XS.aload X148.here hx rfl (hb hby at_201) rfl rfl ?_
          show Steps p.tables e below (T148.setTop (mkF m 203 #[.val (.int p0), .val (.int (f0_m5 p0)), .val (.int (f0_m10 p0)), .val (.int (f0_m15 p0)), .val (.int (f0_m20 p0)), .val (.int (f0_m25 p0)), .val (.int (f0_m30 p0)), .val (.int (f0_m35 p0)), .val (.ref b36_0), .val (.ref b37), .val (.ref b40), .val (.ref b48), .val (.int (0 : Int32)), .unset, .unset] [(.ref b48)])) _
          refine XS.iload X148.here hx rfl (hb hby at_203) rfl ?_
          show Steps p.tables e below (T148.setTop (mkF m 205 #[.val (.int p0), .val (.int (f0_m5 p0)), .val (.int (f0_m10 p0)), .val (.int (f0_m15 p0)), .val (.int (f0_m20 p0)), .val (.int (f0_m25 p0)), .val (.int (f0_m30 p0)), .val (.int (f0_m35 p0)), .val (.ref b36_0), .val (.ref b37), .val (.ref b40), .val (.ref b48), .val (.int (0 : Int32)), .unset, .unset] [(.int (0 : Int32)), (.ref b48)])) _
          refine st161.trans ?_
          exact k)
        have q_f0_m163 : f0_m163 p0 = (((f0_m130 p0) + (1 : Int32)) - (1 : Int32)) := by unfold f0_m163; rw [if_neg hc182_145, if_neg hc198_159]
        rw [q_f0_m163]
        have y170 := ((y156.keep K148).keep K161)
        have y171 := (((fm126_4.keep K147 (ninS ne_b37_b48 nin0)).keep K148 (ninS (Ne.symm ne_b36_0_b37) (ninS ne_b37_b54_0 (ninS ne_b37_b48 nin0)))).keep K161 (ninS (Ne.symm ne_b36_0_b37) (ninS ne_b37_b48 (ninS ne_b37_b148_0 (ninS ne_b37_b54_0 nin0)))))
        have y172 := (((fm126_5.keep K147 (ninS ne_b37_b48 nin0)).keep K148 (ninS (Ne.symm ne_b36_0_b37) (ninS ne_b37_b54_0 (ninS ne_b37_b48 nin0)))).keep K161 (ninS (Ne.symm ne_b36_0_b37) (ninS ne_b37_b48 (ninS ne_b37_b148_0 (ninS ne_b37_b54_0 nin0)))))
        have y173 := ((y157.keep K148).keep K161)
        have y174 := (((fm126_7.keep K147 (ninS ne_b40_b48 nin0)).keep K148 (ninS (Ne.symm ne_b36_0_b40) (ninS ne_b40_b54_0 (ninS ne_b40_b48 nin0)))).keep K161 (ninS (Ne.symm ne_b36_0_b40) (ninS ne_b40_b48 (ninS ne_b40_b148_0 (ninS ne_b40_b54_0 nin0)))))
        have y175 := (((fm126_8.keep K147 (ninS ne_b40_b48 nin0)).keep K148 (ninS (Ne.symm ne_b36_0_b40) (ninS ne_b40_b54_0 (ninS ne_b40_b48 nin0)))).keep K161 (ninS (Ne.symm ne_b36_0_b40) (ninS ne_b40_b48 (ninS ne_b40_b148_0 (ninS ne_b40_b54_0 nin0)))))
        exact ⟨T161, _, T161.heap, .val (.int (0 : Int32)), X161, rfl, N161, Z161, O161, y170, y171, y172, y173, y174, y175, u161_3, u161_6, u161_7, One.val rfl, pre162⟩
      have pre176 : ∀ t, Steps p.tables e below (T145.setTop (mkF m 209 #[.val (.int p0), .val (.int (f0_m5 p0)), .val (.int (f0_m10 p0)), .val (.int (f0_m15 p0)), .val (.int (f0_m20 p0)), .val (.int (f0_m25 p0)), .val (.int (f0_m30 p0)), .val (.int (f0_m35 p0)), .val (.ref b36_0), .val (.ref b37), .val (.ref b40), .val (.ref b48), s145_12, .unset, .unset] [(.int (f0_m5 p0))])) t → Steps p.tables e below (s₁.setTop (entryFrame m #[(.int p0)] maxLocals)) t := fun t k => pre145 t (by
        show Steps p.tables e below (T145.setTop (mkF m 208 #[.val (.int p0), .val (.int (f0_m5 p0)), .val (.int (f0_m10 p0)), .val (.int (f0_m15 p0)), .val (.int (f0_m20 p0)), .val (.int (f0_m25 p0)), .val (.int (f0_m30 p0)), .val (.int (f0_m35 p0)), .val (.ref b36_0), .val (.ref b37), .val (.ref b40), .val (.ref b48), s145_12, .unset, .unset] [])) _
        refine XS.iloadN X145.here hx rfl (hb hby at_208) rfl ?_
        exact k)
      obtain ⟨T177, L177, X177, e177, N177, pre177⟩ : ∃ (T' : State) (locs' : List Loc), Stand p l e room_1 s m #[(.int p0)] below meth c T' locs' 12 77 ∧ T'.heap = h145 ∧ Fr n0 locs' ∧ ∀ t, Steps p.tables e below (T'.setTop (mkF m 225 #[.val (.int p0), .val (.int (f0_m5 p0)), .val (.int (f0_m10 p0)), .val (.int (f0_m15 p0)), .val (.int (f0_m20 p0)), .val (.int (f0_m25 p0)), .val (.int (f0_m30 p0)), .val (.int (f0_m35 p0)), .val (.ref b36_0), .val (.ref b37), .val (.ref b40), .val (.ref b48), s145_12, .unset, .unset] [(.int (f0_m186 p0))])) t → Steps p.tables e below (s₁.setTop (entryFrame m #[(.int p0)] maxLocals)) t := by
        by_cases hc209_177 : (f0_m5 p0) = (0 : Int32)
        · have pre178 : ∀ t, Steps p.tables e below (T145.setTop (mkF m 213 #[.val (.int p0), .val (.int (f0_m5 p0)), .val (.int (f0_m10 p0)), .val (.int (f0_m15 p0)), .val (.int (f0_m20 p0)), .val (.int (f0_m25 p0)), .val (.int (f0_m30 p0)), .val (.int (f0_m35 p0)), .val (.ref b36_0), .val (.ref b37), .val (.ref b40), .val (.ref b48), s145_12, .unset, .unset] [(.int (f0_m10 p0))])) t → Steps p.tables e below (s₁.setTop (entryFrame m #[(.int p0)] maxLocals)) t := fun t k => pre176 t (by
            show Steps p.tables e below (T145.setTop (mkF m 209 #[.val (.int p0), .val (.int (f0_m5 p0)), .val (.int (f0_m10 p0)), .val (.int (f0_m15 p0)), .val (.int (f0_m20 p0)), .val (.int (f0_m25 p0)), .val (.int (f0_m30 p0)), .val (.int (f0_m35 p0)), .val (.ref b36_0), .val (.ref b37), .val (.ref b40), .val (.ref b48), s145_12, .unset, .unset] [(.int (f0_m5 p0))])) _
            refine XS.ifNo X145.here hx rfl (hb hby at_209) rfl ((if0 _ _).trans (teq hc209_177).2) ?_
            show Steps p.tables e below (T145.setTop (mkF m 212 #[.val (.int p0), .val (.int (f0_m5 p0)), .val (.int (f0_m10 p0)), .val (.int (f0_m15 p0)), .val (.int (f0_m20 p0)), .val (.int (f0_m25 p0)), .val (.int (f0_m30 p0)), .val (.int (f0_m35 p0)), .val (.ref b36_0), .val (.ref b37), .val (.ref b40), .val (.ref b48), s145_12, .unset, .unset] [])) _
            refine XS.iloadN X145.here hx rfl (hb hby at_212) rfl ?_
            exact k)
          by_cases hc213_179 : (f0_m10 p0) = (0 : Int32)
          · have pre180 : ∀ t, Steps p.tables e below (T145.setTop (mkF m 225 #[.val (.int p0), .val (.int (f0_m5 p0)), .val (.int (f0_m10 p0)), .val (.int (f0_m15 p0)), .val (.int (f0_m20 p0)), .val (.int (f0_m25 p0)), .val (.int (f0_m30 p0)), .val (.int (f0_m35 p0)), .val (.ref b36_0), .val (.ref b37), .val (.ref b40), .val (.ref b48), s145_12, .unset, .unset] [(.int (0 : Int32))])) t → Steps p.tables e below (s₁.setTop (entryFrame m #[(.int p0)] maxLocals)) t := fun t k => pre178 t (by
              show Steps p.tables e below (T145.setTop (mkF m 213 #[.val (.int p0), .val (.int (f0_m5 p0)), .val (.int (f0_m10 p0)), .val (.int (f0_m15 p0)), .val (.int (f0_m20 p0)), .val (.int (f0_m25 p0)), .val (.int (f0_m30 p0)), .val (.int (f0_m35 p0)), .val (.ref b36_0), .val (.ref b37), .val (.ref b40), .val (.ref b48), s145_12, .unset, .unset] [(.int (f0_m10 p0))])) _
              refine XS.ifYes X145.here hx rfl (pc0 := 213) (pc' := 224) rfl (hb hby at_213) rfl ((if0 _ _).trans (teq hc213_179).1) (by decide) (by decide) ?_
              show Steps p.tables e below (T145.setTop (mkF m 224 #[.val (.int p0), .val (.int (f0_m5 p0)), .val (.int (f0_m10 p0)), .val (.int (f0_m15 p0)), .val (.int (f0_m20 p0)), .val (.int (f0_m25 p0)), .val (.int (f0_m30 p0)), .val (.int (f0_m35 p0)), .val (.ref b36_0), .val (.ref b37), .val (.ref b40), .val (.ref b48), s145_12, .unset, .unset] [])) _
              refine XS.iconst X145.here hx rfl (hb hby at_224) ?_
              exact k)
            have q_f0_m186 : f0_m186 p0 = (0 : Int32) := by unfold f0_m186; rw [if_pos hc209_177, if_pos hc213_179]
            rw [q_f0_m186]
            exact ⟨T145, _, X145, e145, N145, pre180⟩
          have pre181 : ∀ t, Steps p.tables e below (T145.setTop (mkF m 217 #[.val (.int p0), .val (.int (f0_m5 p0)), .val (.int (f0_m10 p0)), .val (.int (f0_m15 p0)), .val (.int (f0_m20 p0)), .val (.int (f0_m25 p0)), .val (.int (f0_m30 p0)), .val (.int (f0_m35 p0)), .val (.ref b36_0), .val (.ref b37), .val (.ref b40), .val (.ref b48), s145_12, .unset, .unset] [(.int (f0_m15 p0))])) t → Steps p.tables e below (s₁.setTop (entryFrame m #[(.int p0)] maxLocals)) t := fun t k => pre178 t (by
            show Steps p.tables e below (T145.setTop (mkF m 213 #[.val (.int p0), .val (.int (f0_m5 p0)), .val (.int (f0_m10 p0)), .val (.int (f0_m15 p0)), .val (.int (f0_m20 p0)), .val (.int (f0_m25 p0)), .val (.int (f0_m30 p0)), .val (.int (f0_m35 p0)), .val (.ref b36_0), .val (.ref b37), .val (.ref b40), .val (.ref b48), s145_12, .unset, .unset] [(.int (f0_m10 p0))])) _
            refine XS.ifNo X145.here hx rfl (hb hby at_213) rfl ((if0 _ _).trans (feq hc213_179).1) ?_
            show Steps p.tables e below (T145.setTop (mkF m 216 #[.val (.int p0), .val (.int (f0_m5 p0)), .val (.int (f0_m10 p0)), .val (.int (f0_m15 p0)), .val (.int (f0_m20 p0)), .val (.int (f0_m25 p0)), .val (.int (f0_m30 p0)), .val (.int (f0_m35 p0)), .val (.ref b36_0), .val (.ref b37), .val (.ref b40), .val (.ref b48), s145_12, .unset, .unset] [])) _
            refine XS.iloadN X145.here hx rfl (hb hby at_216) rfl ?_
            exact k)
          by_cases hc217_182 : (f0_m15 p0) = (0 : Int32)
          · have pre183 : ∀ t, Steps p.tables e below (T145.setTop (mkF m 225 #[.val (.int p0), .val (.int (f0_m5 p0)), .val (.int (f0_m10 p0)), .val (.int (f0_m15 p0)), .val (.int (f0_m20 p0)), .val (.int (f0_m25 p0)), .val (.int (f0_m30 p0)), .val (.int (f0_m35 p0)), .val (.ref b36_0), .val (.ref b37), .val (.ref b40), .val (.ref b48), s145_12, .unset, .unset] [(.int (1 : Int32))])) t → Steps p.tables e below (s₁.setTop (entryFrame m #[(.int p0)] maxLocals)) t := fun t k => pre181 t (by
              show Steps p.tables e below (T145.setTop (mkF m 217 #[.val (.int p0), .val (.int (f0_m5 p0)), .val (.int (f0_m10 p0)), .val (.int (f0_m15 p0)), .val (.int (f0_m20 p0)), .val (.int (f0_m25 p0)), .val (.int (f0_m30 p0)), .val (.int (f0_m35 p0)), .val (.ref b36_0), .val (.ref b37), .val (.ref b40), .val (.ref b48), s145_12, .unset, .unset] [(.int (f0_m15 p0))])) _
              refine XS.ifNo X145.here hx rfl (hb hby at_217) rfl ((if0 _ _).trans (teq hc217_182).2) ?_
              show Steps p.tables e below (T145.setTop (mkF m 220 #[.val (.int p0), .val (.int (f0_m5 p0)), .val (.int (f0_m10 p0)), .val (.int (f0_m15 p0)), .val (.int (f0_m20 p0)), .val (.int (f0_m25 p0)), .val (.int (f0_m30 p0)), .val (.int (f0_m35 p0)), .val (.ref b36_0), .val (.ref b37), .val (.ref b40), .val (.ref b48), s145_12, .unset, .unset] [])) _
              refine XS.iconst X145.here hx rfl (hb hby at_220) ?_
              show Steps p.tables e below (T145.setTop (mkF m 221 #[.val (.int p0), .val (.int (f0_m5 p0)), .val (.int (f0_m10 p0)), .val (.int (f0_m15 p0)), .val (.int (f0_m20 p0)), .val (.int (f0_m25 p0)), .val (.int (f0_m30 p0)), .val (.int (f0_m35 p0)), .val (.ref b36_0), .val (.ref b37), .val (.ref b40), .val (.ref b48), s145_12, .unset, .unset] [(.int (1 : Int32))])) _
              refine XS.goto X145.here hx rfl (pc0 := 221) (pc' := 225) rfl (hb hby at_221) (by decide) (by decide) ?_
              exact k)
            have q_f0_m186 : f0_m186 p0 = (1 : Int32) := by unfold f0_m186; rw [if_pos hc209_177, if_neg hc213_179, if_pos hc217_182]
            rw [q_f0_m186]
            exact ⟨T145, _, X145, e145, N145, pre183⟩
          have pre184 : ∀ t, Steps p.tables e below (T145.setTop (mkF m 225 #[.val (.int p0), .val (.int (f0_m5 p0)), .val (.int (f0_m10 p0)), .val (.int (f0_m15 p0)), .val (.int (f0_m20 p0)), .val (.int (f0_m25 p0)), .val (.int (f0_m30 p0)), .val (.int (f0_m35 p0)), .val (.ref b36_0), .val (.ref b37), .val (.ref b40), .val (.ref b48), s145_12, .unset, .unset] [(.int (0 : Int32))])) t → Steps p.tables e below (s₁.setTop (entryFrame m #[(.int p0)] maxLocals)) t := fun t k => pre181 t (by
            show Steps p.tables e below (T145.setTop (mkF m 217 #[.val (.int p0), .val (.int (f0_m5 p0)), .val (.int (f0_m10 p0)), .val (.int (f0_m15 p0)), .val (.int (f0_m20 p0)), .val (.int (f0_m25 p0)), .val (.int (f0_m30 p0)), .val (.int (f0_m35 p0)), .val (.ref b36_0), .val (.ref b37), .val (.ref b40), .val (.ref b48), s145_12, .unset, .unset] [(.int (f0_m15 p0))])) _
            refine XS.ifYes X145.here hx rfl (pc0 := 217) (pc' := 224) rfl (hb hby at_217) rfl ((if0 _ _).trans (feq hc217_182).2) (by decide) (by decide) ?_
            show Steps p.tables e below (T145.setTop (mkF m 224 #[.val (.int p0), .val (.int (f0_m5 p0)), .val (.int (f0_m10 p0)), .val (.int (f0_m15 p0)), .val (.int (f0_m20 p0)), .val (.int (f0_m25 p0)), .val (.int (f0_m30 p0)), .val (.int (f0_m35 p0)), .val (.ref b36_0), .val (.ref b37), .val (.ref b40), .val (.ref b48), s145_12, .unset, .unset] [])) _
            refine XS.iconst X145.here hx rfl (hb hby at_224) ?_
            exact k)
          have q_f0_m186 : f0_m186 p0 = (0 : Int32) := by unfold f0_m186; rw [if_pos hc209_177, if_neg hc213_179, if_neg hc217_182]
          rw [q_f0_m186]
          exact ⟨T145, _, X145, e145, N145, pre184⟩
        have pre185 : ∀ t, Steps p.tables e below (T145.setTop (mkF m 225 #[.val (.int p0), .val (.int (f0_m5 p0)), .val (.int (f0_m10 p0)), .val (.int (f0_m15 p0)), .val (.int (f0_m20 p0)), .val (.int (f0_m25 p0)), .val (.int (f0_m30 p0)), .val (.int (f0_m35 p0)), .val (.ref b36_0), .val (.ref b37), .val (.ref b40), .val (.ref b48), s145_12, .unset, .unset] [(.int (1 : Int32))])) t → Steps p.tables e below (s₁.setTop (entryFrame m #[(.int p0)] maxLocals)) t := fun t k => pre176 t (by
          show Steps p.tables e below (T145.setTop (mkF m 209 #[.val (.int p0), .val (.int (f0_m5 p0)), .val (.int (f0_m10 p0)), .val (.int (f0_m15 p0)), .val (.int (f0_m20 p0)), .val (.int (f0_m25 p0)), .val (.int (f0_m30 p0)), .val (.int (f0_m35 p0)), .val (.ref b36_0), .val (.ref b37), .val (.ref b40), .val (.ref b48), s145_12, .unset, .unset] [(.int (f0_m5 p0))])) _
          refine XS.ifYes X145.here hx rfl (pc0 := 209) (pc' := 220) rfl (hb hby at_209) rfl ((if0 _ _).trans (feq hc209_177).2) (by decide) (by decide) ?_
          show Steps p.tables e below (T145.setTop (mkF m 220 #[.val (.int p0), .val (.int (f0_m5 p0)), .val (.int (f0_m10 p0)), .val (.int (f0_m15 p0)), .val (.int (f0_m20 p0)), .val (.int (f0_m25 p0)), .val (.int (f0_m30 p0)), .val (.int (f0_m35 p0)), .val (.ref b36_0), .val (.ref b37), .val (.ref b40), .val (.ref b48), s145_12, .unset, .unset] [])) _
          refine XS.iconst X145.here hx rfl (hb hby at_220) ?_
          show Steps p.tables e below (T145.setTop (mkF m 221 #[.val (.int p0), .val (.int (f0_m5 p0)), .val (.int (f0_m10 p0)), .val (.int (f0_m15 p0)), .val (.int (f0_m20 p0)), .val (.int (f0_m25 p0)), .val (.int (f0_m30 p0)), .val (.int (f0_m35 p0)), .val (.ref b36_0), .val (.ref b37), .val (.ref b40), .val (.ref b48), s145_12, .unset, .unset] [(.int (1 : Int32))])) _
          refine XS.goto X145.here hx rfl (pc0 := 221) (pc' := 225) rfl (hb hby at_221) (by decide) (by decide) ?_
          exact k)
        have q_f0_m186 : f0_m186 p0 = (1 : Int32) := by unfold f0_m186; rw [if_neg hc209_177]
        rw [q_f0_m186]
        exact ⟨T145, _, X145, e145, N145, pre185⟩
      have os187 : storeLocals #[.val (.int p0), .val (.int (f0_m5 p0)), .val (.int (f0_m10 p0)), .val (.int (f0_m15 p0)), .val (.int (f0_m20 p0)), .val (.int (f0_m25 p0)), .val (.int (f0_m30 p0)), .val (.int (f0_m35 p0)), .val (.ref b36_0), .val (.ref b37), .val (.ref b40), .val (.ref b48), s145_12, .unset, .unset] 12 (.int (f0_m186 p0)) = some #[.val (.int p0), .val (.int (f0_m5 p0)), .val (.int (f0_m10 p0)), .val (.int (f0_m15 p0)), .val (.int (f0_m20 p0)), .val (.int (f0_m25 p0)), .val (.int (f0_m30 p0)), .val (.int (f0_m35 p0)), .val (.ref b36_0), .val (.ref b37), .val (.ref b40), .val (.ref b48), .val (.int (f0_m186 p0)), .unset, .unset] := by rcases hs145_12 with q | ⟨w, q, hw⟩ <;> rw [q] <;> first | rfl | (cases w <;> first | rfl | (simp [Value.category] at hw)) 
      have pre188 : ∀ t, Steps p.tables e below (T177.setTop (mkF m 229 #[.val (.int p0), .val (.int (f0_m5 p0)), .val (.int (f0_m10 p0)), .val (.int (f0_m15 p0)), .val (.int (f0_m20 p0)), .val (.int (f0_m25 p0)), .val (.int (f0_m30 p0)), .val (.int (f0_m35 p0)), .val (.ref b36_0), .val (.ref b37), .val (.ref b40), .val (.ref b48), .val (.int (f0_m186 p0)), .unset, .unset] [(.int (f0_m35 p0))])) t → Steps p.tables e below (s₁.setTop (entryFrame m #[(.int p0)] maxLocals)) t := fun t k => pre177 t (by
        show Steps p.tables e below (T177.setTop (mkF m 225 #[.val (.int p0), .val (.int (f0_m5 p0)), .val (.int (f0_m10 p0)), .val (.int (f0_m15 p0)), .val (.int (f0_m20 p0)), .val (.int (f0_m25 p0)), .val (.int (f0_m30 p0)), .val (.int (f0_m35 p0)), .val (.ref b36_0), .val (.ref b37), .val (.ref b40), .val (.ref b48), s145_12, .unset, .unset] [(.int (f0_m186 p0))])) _
        refine XS.istore X177.here hx rfl (hb hby at_225) rfl (l' := #[.val (.int p0), .val (.int (f0_m5 p0)), .val (.int (f0_m10 p0)), .val (.int (f0_m15 p0)), .val (.int (f0_m20 p0)), .val (.int (f0_m25 p0)), .val (.int (f0_m30 p0)), .val (.int (f0_m35 p0)), .val (.ref b36_0), .val (.ref b37), .val (.ref b40), .val (.ref b48), .val (.int (f0_m186 p0)), .unset, .unset]) os187 ?_
        show Steps p.tables e below (T177.setTop (mkF m 227 #[.val (.int p0), .val (.int (f0_m5 p0)), .val (.int (f0_m10 p0)), .val (.int (f0_m15 p0)), .val (.int (f0_m20 p0)), .val (.int (f0_m25 p0)), .val (.int (f0_m30 p0)), .val (.int (f0_m35 p0)), .val (.ref b36_0), .val (.ref b37), .val (.ref b40), .val (.ref b48), .val (.int (f0_m186 p0)), .unset, .unset] [])) _
        refine XS.iload X177.here hx rfl (hb hby at_227) rfl ?_
        exact k)
      obtain ⟨T189, L189, X189, e189, N189, pre189⟩ : ∃ (T' : State) (locs' : List Loc), Stand p l e room_1 s m #[(.int p0)] below meth c T' locs' 12 77 ∧ T'.heap = h145 ∧ Fr n0 locs' ∧ ∀ t, Steps p.tables e below (T'.setTop (mkF m 247 #[.val (.int p0), .val (.int (f0_m5 p0)), .val (.int (f0_m10 p0)), .val (.int (f0_m15 p0)), .val (.int (f0_m20 p0)), .val (.int (f0_m25 p0)), .val (.int (f0_m30 p0)), .val (.int (f0_m35 p0)), .val (.ref b36_0), .val (.ref b37), .val (.ref b40), .val (.ref b48), .val (.int (f0_m186 p0)), .unset, .unset] [(.int (f0_m192 p0))])) t → Steps p.tables e below (s₁.setTop (entryFrame m #[(.int p0)] maxLocals)) t := by
        by_cases hc229_189 : (f0_m35 p0) = (0 : Int32)
        · have pre190 : ∀ t, Steps p.tables e below (T177.setTop (mkF m 247 #[.val (.int p0), .val (.int (f0_m5 p0)), .val (.int (f0_m10 p0)), .val (.int (f0_m15 p0)), .val (.int (f0_m20 p0)), .val (.int (f0_m25 p0)), .val (.int (f0_m30 p0)), .val (.int (f0_m35 p0)), .val (.ref b36_0), .val (.ref b37), .val (.ref b40), .val (.ref b48), .val (.int (f0_m186 p0)), .unset, .unset] [(.int (0 : Int32))])) t → Steps p.tables e below (s₁.setTop (entryFrame m #[(.int p0)] maxLocals)) t := fun t k => pre188 t (by
            show Steps p.tables e below (T177.setTop (mkF m 229 #[.val (.int p0), .val (.int (f0_m5 p0)), .val (.int (f0_m10 p0)), .val (.int (f0_m15 p0)), .val (.int (f0_m20 p0)), .val (.int (f0_m25 p0)), .val (.int (f0_m30 p0)), .val (.int (f0_m35 p0)), .val (.ref b36_0), .val (.ref b37), .val (.ref b40), .val (.ref b48), .val (.int (f0_m186 p0)), .unset, .unset] [(.int (f0_m35 p0))])) _
            refine XS.ifNo X177.here hx rfl (hb hby at_229) rfl ((if0 _ _).trans (teq hc229_189).2) ?_
            show Steps p.tables e below (T177.setTop (mkF m 232 #[.val (.int p0), .val (.int (f0_m5 p0)), .val (.int (f0_m10 p0)), .val (.int (f0_m15 p0)), .val (.int (f0_m20 p0)), .val (.int (f0_m25 p0)), .val (.int (f0_m30 p0)), .val (.int (f0_m35 p0)), .val (.ref b36_0), .val (.ref b37), .val (.ref b40), .val (.ref b48), .val (.int (f0_m186 p0)), .unset, .unset] [])) _
            refine XS.iload X177.here hx rfl (hb hby at_232) rfl ?_
            show Steps p.tables e below (T177.setTop (mkF m 234 #[.val (.int p0), .val (.int (f0_m5 p0)), .val (.int (f0_m10 p0)), .val (.int (f0_m15 p0)), .val (.int (f0_m20 p0)), .val (.int (f0_m25 p0)), .val (.int (f0_m30 p0)), .val (.int (f0_m35 p0)), .val (.ref b36_0), .val (.ref b37), .val (.ref b40), .val (.ref b48), .val (.int (f0_m186 p0)), .unset, .unset] [(.int (f0_m20 p0))])) _
            refine XS.ifYes X177.here hx rfl (pc0 := 234) (pc' := 246) rfl (hb hby at_234) rfl ((if0 _ _).trans (teq hc116_43).1) (by decide) (by decide) ?_
            show Steps p.tables e below (T177.setTop (mkF m 246 #[.val (.int p0), .val (.int (f0_m5 p0)), .val (.int (f0_m10 p0)), .val (.int (f0_m15 p0)), .val (.int (f0_m20 p0)), .val (.int (f0_m25 p0)), .val (.int (f0_m30 p0)), .val (.int (f0_m35 p0)), .val (.ref b36_0), .val (.ref b37), .val (.ref b40), .val (.ref b48), .val (.int (f0_m186 p0)), .unset, .unset] [])) _
            refine XS.iconst X177.here hx rfl (hb hby at_246) ?_
            exact k)
          have q_f0_m192 : f0_m192 p0 = (0 : Int32) := by unfold f0_m192; rw [if_pos hc229_189]
          rw [q_f0_m192]
          exact ⟨T177, _, X177, e177, N177, pre190⟩
        have pre191 : ∀ t, Steps p.tables e below (T177.setTop (mkF m 247 #[.val (.int p0), .val (.int (f0_m5 p0)), .val (.int (f0_m10 p0)), .val (.int (f0_m15 p0)), .val (.int (f0_m20 p0)), .val (.int (f0_m25 p0)), .val (.int (f0_m30 p0)), .val (.int (f0_m35 p0)), .val (.ref b36_0), .val (.ref b37), .val (.ref b40), .val (.ref b48), .val (.int (f0_m186 p0)), .unset, .unset] [(.int (1 : Int32))])) t → Steps p.tables e below (s₁.setTop (entryFrame m #[(.int p0)] maxLocals)) t := fun t k => pre188 t (by
          show Steps p.tables e below (T177.setTop (mkF m 229 #[.val (.int p0), .val (.int (f0_m5 p0)), .val (.int (f0_m10 p0)), .val (.int (f0_m15 p0)), .val (.int (f0_m20 p0)), .val (.int (f0_m25 p0)), .val (.int (f0_m30 p0)), .val (.int (f0_m35 p0)), .val (.ref b36_0), .val (.ref b37), .val (.ref b40), .val (.ref b48), .val (.int (f0_m186 p0)), .unset, .unset] [(.int (f0_m35 p0))])) _
          refine XS.ifYes X177.here hx rfl (pc0 := 229) (pc' := 242) rfl (hb hby at_229) rfl ((if0 _ _).trans (feq hc229_189).2) (by decide) (by decide) ?_
          show Steps p.tables e below (T177.setTop (mkF m 242 #[.val (.int p0), .val (.int (f0_m5 p0)), .val (.int (f0_m10 p0)), .val (.int (f0_m15 p0)), .val (.int (f0_m20 p0)), .val (.int (f0_m25 p0)), .val (.int (f0_m30 p0)), .val (.int (f0_m35 p0)), .val (.ref b36_0), .val (.ref b37), .val (.ref b40), .val (.ref b48), .val (.int (f0_m186 p0)), .unset, .unset] [])) _
          refine XS.iconst X177.here hx rfl (hb hby at_242) ?_
          show Steps p.tables e below (T177.setTop (mkF m 243 #[.val (.int p0), .val (.int (f0_m5 p0)), .val (.int (f0_m10 p0)), .val (.int (f0_m15 p0)), .val (.int (f0_m20 p0)), .val (.int (f0_m25 p0)), .val (.int (f0_m30 p0)), .val (.int (f0_m35 p0)), .val (.ref b36_0), .val (.ref b37), .val (.ref b40), .val (.ref b48), .val (.int (f0_m186 p0)), .unset, .unset] [(.int (1 : Int32))])) _
          refine XS.goto X177.here hx rfl (pc0 := 243) (pc' := 247) rfl (hb hby at_243) (by decide) (by decide) ?_
          exact k)
        have q_f0_m192 : f0_m192 p0 = (1 : Int32) := by unfold f0_m192; rw [if_neg hc229_189]
        rw [q_f0_m192]
        exact ⟨T177, _, X177, e177, N177, pre191⟩
      have pre193 : ∀ t, Steps p.tables e below (T189.setTop (mkF m 251 #[.val (.int p0), .val (.int (f0_m5 p0)), .val (.int (f0_m10 p0)), .val (.int (f0_m15 p0)), .val (.int (f0_m20 p0)), .val (.int (f0_m25 p0)), .val (.int (f0_m30 p0)), .val (.int (f0_m35 p0)), .val (.ref b36_0), .val (.ref b37), .val (.ref b40), .val (.ref b48), .val (.int (f0_m186 p0)), .val (.int (f0_m192 p0)), .unset] [(.int (f0_m186 p0))])) t → Steps p.tables e below (s₁.setTop (entryFrame m #[(.int p0)] maxLocals)) t := fun t k => pre189 t (by
        show Steps p.tables e below (T189.setTop (mkF m 247 #[.val (.int p0), .val (.int (f0_m5 p0)), .val (.int (f0_m10 p0)), .val (.int (f0_m15 p0)), .val (.int (f0_m20 p0)), .val (.int (f0_m25 p0)), .val (.int (f0_m30 p0)), .val (.int (f0_m35 p0)), .val (.ref b36_0), .val (.ref b37), .val (.ref b40), .val (.ref b48), .val (.int (f0_m186 p0)), .unset, .unset] [(.int (f0_m192 p0))])) _
        refine XS.istore X189.here hx rfl (hb hby at_247) rfl (l' := #[.val (.int p0), .val (.int (f0_m5 p0)), .val (.int (f0_m10 p0)), .val (.int (f0_m15 p0)), .val (.int (f0_m20 p0)), .val (.int (f0_m25 p0)), .val (.int (f0_m30 p0)), .val (.int (f0_m35 p0)), .val (.ref b36_0), .val (.ref b37), .val (.ref b40), .val (.ref b48), .val (.int (f0_m186 p0)), .val (.int (f0_m192 p0)), .unset]) rfl ?_
        show Steps p.tables e below (T189.setTop (mkF m 249 #[.val (.int p0), .val (.int (f0_m5 p0)), .val (.int (f0_m10 p0)), .val (.int (f0_m15 p0)), .val (.int (f0_m20 p0)), .val (.int (f0_m25 p0)), .val (.int (f0_m30 p0)), .val (.int (f0_m35 p0)), .val (.ref b36_0), .val (.ref b37), .val (.ref b40), .val (.ref b48), .val (.int (f0_m186 p0)), .val (.int (f0_m192 p0)), .unset] [])) _
        refine XS.iload X189.here hx rfl (hb hby at_249) rfl ?_
        exact k)
      obtain ⟨T194, L194, X194, e194, N194, pre194⟩ : ∃ (T' : State) (locs' : List Loc), Stand p l e room_1 s m #[(.int p0)] below meth c T' locs' 12 77 ∧ T'.heap = h145 ∧ Fr n0 locs' ∧ ∀ t, Steps p.tables e below (T'.setTop (mkF m 269 #[.val (.int p0), .val (.int (f0_m5 p0)), .val (.int (f0_m10 p0)), .val (.int (f0_m15 p0)), .val (.int (f0_m20 p0)), .val (.int (f0_m25 p0)), .val (.int (f0_m30 p0)), .val (.int (f0_m35 p0)), .val (.ref b36_0), .val (.ref b37), .val (.ref b40), .val (.ref b48), .val (.int (f0_m186 p0)), .val (.int (f0_m192 p0)), .unset] [(.int (f0_m197 p0))])) t → Steps p.tables e below (s₁.setTop (entryFrame m #[(.int p0)] maxLocals)) t := by
        by_cases hc251_194 : (f0_m186 p0) = (0 : Int32)
        · have pre195 : ∀ t, Steps p.tables e below (T189.setTop (mkF m 269 #[.val (.int p0), .val (.int (f0_m5 p0)), .val (.int (f0_m10 p0)), .val (.int (f0_m15 p0)), .val (.int (f0_m20 p0)), .val (.int (f0_m25 p0)), .val (.int (f0_m30 p0)), .val (.int (f0_m35 p0)), .val (.ref b36_0), .val (.ref b37), .val (.ref b40), .val (.ref b48), .val (.int (f0_m186 p0)), .val (.int (f0_m192 p0)), .unset] [(.int (0 : Int32))])) t → Steps p.tables e below (s₁.setTop (entryFrame m #[(.int p0)] maxLocals)) t := fun t k => pre193 t (by
            show Steps p.tables e below (T189.setTop (mkF m 251 #[.val (.int p0), .val (.int (f0_m5 p0)), .val (.int (f0_m10 p0)), .val (.int (f0_m15 p0)), .val (.int (f0_m20 p0)), .val (.int (f0_m25 p0)), .val (.int (f0_m30 p0)), .val (.int (f0_m35 p0)), .val (.ref b36_0), .val (.ref b37), .val (.ref b40), .val (.ref b48), .val (.int (f0_m186 p0)), .val (.int (f0_m192 p0)), .unset] [(.int (f0_m186 p0))])) _
            refine XS.ifNo X189.here hx rfl (hb hby at_251) rfl ((if0 _ _).trans (teq hc251_194).2) ?_
            show Steps p.tables e below (T189.setTop (mkF m 254 #[.val (.int p0), .val (.int (f0_m5 p0)), .val (.int (f0_m10 p0)), .val (.int (f0_m15 p0)), .val (.int (f0_m20 p0)), .val (.int (f0_m25 p0)), .val (.int (f0_m30 p0)), .val (.int (f0_m35 p0)), .val (.ref b36_0), .val (.ref b37), .val (.ref b40), .val (.ref b48), .val (.int (f0_m186 p0)), .val (.int (f0_m192 p0)), .unset] [])) _
            refine XS.iload X189.here hx rfl (hb hby at_254) rfl ?_
            show Steps p.tables e below (T189.setTop (mkF m 256 #[.val (.int p0), .val (.int (f0_m5 p0)), .val (.int (f0_m10 p0)), .val (.int (f0_m15 p0)), .val (.int (f0_m20 p0)), .val (.int (f0_m25 p0)), .val (.int (f0_m30 p0)), .val (.int (f0_m35 p0)), .val (.ref b36_0), .val (.ref b37), .val (.ref b40), .val (.ref b48), .val (.int (f0_m186 p0)), .val (.int (f0_m192 p0)), .unset] [(.int (f0_m25 p0))])) _
            refine XS.ifYes X189.here hx rfl (pc0 := 256) (pc' := 268) rfl (hb hby at_256) rfl ((if0 _ _).trans (teq hc138_53).1) (by decide) (by decide) ?_
            show Steps p.tables e below (T189.setTop (mkF m 268 #[.val (.int p0), .val (.int (f0_m5 p0)), .val (.int (f0_m10 p0)), .val (.int (f0_m15 p0)), .val (.int (f0_m20 p0)), .val (.int (f0_m25 p0)), .val (.int (f0_m30 p0)), .val (.int (f0_m35 p0)), .val (.ref b36_0), .val (.ref b37), .val (.ref b40), .val (.ref b48), .val (.int (f0_m186 p0)), .val (.int (f0_m192 p0)), .unset] [])) _
            refine XS.iconst X189.here hx rfl (hb hby at_268) ?_
            exact k)
          have q_f0_m197 : f0_m197 p0 = (0 : Int32) := by unfold f0_m197; rw [if_pos hc251_194]
          rw [q_f0_m197]
          exact ⟨T189, _, X189, e189, N189, pre195⟩
        have pre196 : ∀ t, Steps p.tables e below (T189.setTop (mkF m 269 #[.val (.int p0), .val (.int (f0_m5 p0)), .val (.int (f0_m10 p0)), .val (.int (f0_m15 p0)), .val (.int (f0_m20 p0)), .val (.int (f0_m25 p0)), .val (.int (f0_m30 p0)), .val (.int (f0_m35 p0)), .val (.ref b36_0), .val (.ref b37), .val (.ref b40), .val (.ref b48), .val (.int (f0_m186 p0)), .val (.int (f0_m192 p0)), .unset] [(.int (1 : Int32))])) t → Steps p.tables e below (s₁.setTop (entryFrame m #[(.int p0)] maxLocals)) t := fun t k => pre193 t (by
          show Steps p.tables e below (T189.setTop (mkF m 251 #[.val (.int p0), .val (.int (f0_m5 p0)), .val (.int (f0_m10 p0)), .val (.int (f0_m15 p0)), .val (.int (f0_m20 p0)), .val (.int (f0_m25 p0)), .val (.int (f0_m30 p0)), .val (.int (f0_m35 p0)), .val (.ref b36_0), .val (.ref b37), .val (.ref b40), .val (.ref b48), .val (.int (f0_m186 p0)), .val (.int (f0_m192 p0)), .unset] [(.int (f0_m186 p0))])) _
          refine XS.ifYes X189.here hx rfl (pc0 := 251) (pc' := 264) rfl (hb hby at_251) rfl ((if0 _ _).trans (feq hc251_194).2) (by decide) (by decide) ?_
          show Steps p.tables e below (T189.setTop (mkF m 264 #[.val (.int p0), .val (.int (f0_m5 p0)), .val (.int (f0_m10 p0)), .val (.int (f0_m15 p0)), .val (.int (f0_m20 p0)), .val (.int (f0_m25 p0)), .val (.int (f0_m30 p0)), .val (.int (f0_m35 p0)), .val (.ref b36_0), .val (.ref b37), .val (.ref b40), .val (.ref b48), .val (.int (f0_m186 p0)), .val (.int (f0_m192 p0)), .unset] [])) _
          refine XS.iconst X189.here hx rfl (hb hby at_264) ?_
          show Steps p.tables e below (T189.setTop (mkF m 265 #[.val (.int p0), .val (.int (f0_m5 p0)), .val (.int (f0_m10 p0)), .val (.int (f0_m15 p0)), .val (.int (f0_m20 p0)), .val (.int (f0_m25 p0)), .val (.int (f0_m30 p0)), .val (.int (f0_m35 p0)), .val (.ref b36_0), .val (.ref b37), .val (.ref b40), .val (.ref b48), .val (.int (f0_m186 p0)), .val (.int (f0_m192 p0)), .unset] [(.int (1 : Int32))])) _
          refine XS.goto X189.here hx rfl (pc0 := 265) (pc' := 269) rfl (hb hby at_265) (by decide) (by decide) ?_
          exact k)
        have q_f0_m197 : f0_m197 p0 = (1 : Int32) := by unfold f0_m197; rw [if_neg hc251_194]
        rw [q_f0_m197]
        exact ⟨T189, _, X189, e189, N189, pre196⟩
      obtain ⟨cq198, kq198, q198a, q198b, q198c⟩ := isOf hZ e194 fm145_6
      obtain ⟨_, _, ⟨T198, L198, k198, n198⟩, -, X198, ⟨Lc198, hQ198, l198, y198, z198⟩, st198⟩ := X194.virtualBack hx (y := (⟨"com/example/tenon/tenon/Assignments", "isBlind", "()Z"⟩ : MethodName)) (z := (⟨"com/example/tenon/tenon/Assignments", "isBlind", "()Z"⟩ : MethodName)) hown (mvT hZ (hw _ (List.mem_of_getElem? (i := 84) rfl))) (mvT hZ (hw _ (List.mem_of_getElem? (i := 85) rfl))) (notFace_of_selects (args := #[]) (mvT hZ (hw _ (List.mem_of_getElem? (i := 87) rfl)))) (mvT hZ (hw _ (List.mem_of_getElem? (i := 87) rfl))) (mvT hZ (hw _ (List.mem_of_getElem? (i := 86) rfl))) (by decide) (backOf (W := 0) (rm12a l Z a0' hw [] b48 (f0_m163 p0) h145 n0 Z145 fm145_8 fm145_7) hZ (hw _ (List.mem_of_getElem? (i := 88) rfl)) (hw _ (List.mem_of_getElem? (i := 17) rfl)) (by decide) (by decide)) q198a q198c (g := (mkF m 273 #[.val (.int p0), .val (.int (f0_m5 p0)), .val (.int (f0_m10 p0)), .val (.int (f0_m15 p0)), .val (.int (f0_m20 p0)), .val (.int (f0_m25 p0)), .val (.int (f0_m30 p0)), .val (.int (f0_m35 p0)), .val (.ref b36_0), .val (.ref b37), .val (.ref b40), .val (.ref b48), .val (.int (f0_m186 p0)), .val (.int (f0_m192 p0)), .val (.int (f0_m197 p0))] [(.ref b48)])) rfl (by rw [hml]; rfl) (Steps.refl _) (argsL := []) (rest := []) (lenOf pd3 rfl) rfl (by show 2 * 0 + _ ≤ _; exact Nat.le_of_eq rfl) (hb hby at_273) (fun _ _ => ⟨rfl, e194, (by decide : 12 + 0 ≤ _), (by decide : 77 + 0 ≤ _)⟩)
      dsimp only [Pt.U, Pt.locs, Pt.cells, Pt.slots] at X198 l198 y198 z198 st198 hQ198
      subst l198 y198 z198
      obtain ⟨rfl, N198q, e198⟩ := hQ198
      have N198 := Fr.app N194 N198q
      have pre199 : ∀ t, Steps p.tables e below (T198.setTop (mkF m 278 #[.val (.int p0), .val (.int (f0_m5 p0)), .val (.int (f0_m10 p0)), .val (.int (f0_m15 p0)), .val (.int (f0_m20 p0)), .val (.int (f0_m25 p0)), .val (.int (f0_m30 p0)), .val (.int (f0_m35 p0)), .val (.ref b36_0), .val (.ref b37), .val (.ref b40), .val (.ref b48), .val (.int (f0_m186 p0)), .val (.int (f0_m192 p0)), .val (.int (f0_m197 p0))] [(.int (f0_m197 p0)), (.int (F12a (f0_m163 p0)))])) t → Steps p.tables e below (s₁.setTop (entryFrame m #[(.int p0)] maxLocals)) t := fun t k => pre194 t (by
        show Steps p.tables e below (T194.setTop (mkF m 269 #[.val (.int p0), .val (.int (f0_m5 p0)), .val (.int (f0_m10 p0)), .val (.int (f0_m15 p0)), .val (.int (f0_m20 p0)), .val (.int (f0_m25 p0)), .val (.int (f0_m30 p0)), .val (.int (f0_m35 p0)), .val (.ref b36_0), .val (.ref b37), .val (.ref b40), .val (.ref b48), .val (.int (f0_m186 p0)), .val (.int (f0_m192 p0)), .unset] [(.int (f0_m197 p0))])) _
        refine XS.istore X194.here hx rfl (hb hby at_269) rfl (l' := #[.val (.int p0), .val (.int (f0_m5 p0)), .val (.int (f0_m10 p0)), .val (.int (f0_m15 p0)), .val (.int (f0_m20 p0)), .val (.int (f0_m25 p0)), .val (.int (f0_m30 p0)), .val (.int (f0_m35 p0)), .val (.ref b36_0), .val (.ref b37), .val (.ref b40), .val (.ref b48), .val (.int (f0_m186 p0)), .val (.int (f0_m192 p0)), .val (.int (f0_m197 p0))]) rfl ?_
        show Steps p.tables e below (T194.setTop (mkF m 271 #[.val (.int p0), .val (.int (f0_m5 p0)), .val (.int (f0_m10 p0)), .val (.int (f0_m15 p0)), .val (.int (f0_m20 p0)), .val (.int (f0_m25 p0)), .val (.int (f0_m30 p0)), .val (.int (f0_m35 p0)), .val (.ref b36_0), .val (.ref b37), .val (.ref b40), .val (.ref b48), .val (.int (f0_m186 p0)), .val (.int (f0_m192 p0)), .val (.int (f0_m197 p0))] [])) _
        refine XS.aload X194.here hx rfl (hb hby at_271) rfl rfl ?_
        show Steps p.tables e below (T194.setTop (mkF m 273 #[.val (.int p0), .val (.int (f0_m5 p0)), .val (.int (f0_m10 p0)), .val (.int (f0_m15 p0)), .val (.int (f0_m20 p0)), .val (.int (f0_m25 p0)), .val (.int (f0_m30 p0)), .val (.int (f0_m35 p0)), .val (.ref b36_0), .val (.ref b37), .val (.ref b40), .val (.ref b48), .val (.int (f0_m186 p0)), .val (.int (f0_m192 p0)), .val (.int (f0_m197 p0))] [(.ref b48)])) _
        refine st198.trans ?_
        show Steps p.tables e below (T198.setTop (mkF m 276 #[.val (.int p0), .val (.int (f0_m5 p0)), .val (.int (f0_m10 p0)), .val (.int (f0_m15 p0)), .val (.int (f0_m20 p0)), .val (.int (f0_m25 p0)), .val (.int (f0_m30 p0)), .val (.int (f0_m35 p0)), .val (.ref b36_0), .val (.ref b37), .val (.ref b40), .val (.ref b48), .val (.int (f0_m186 p0)), .val (.int (f0_m192 p0)), .val (.int (f0_m197 p0))] [(.int (F12a (f0_m163 p0)))])) _
        refine XS.iload X198.here hx rfl (hb hby at_276) rfl ?_
        exact k)
      by_cases hc278_200 : (F12a (f0_m163 p0)) = (f0_m197 p0)
      · have pre201 : ∀ t, Steps p.tables e below (T198.setTop (mkF m 286 #[.val (.int p0), .val (.int (f0_m5 p0)), .val (.int (f0_m10 p0)), .val (.int (f0_m15 p0)), .val (.int (f0_m20 p0)), .val (.int (f0_m25 p0)), .val (.int (f0_m30 p0)), .val (.int (f0_m35 p0)), .val (.ref b36_0), .val (.ref b37), .val (.ref b40), .val (.ref b48), .val (.int (f0_m186 p0)), .val (.int (f0_m192 p0)), .val (.int (f0_m197 p0))] [(.int (1 : Int32))])) t → Steps p.tables e below (s₁.setTop (entryFrame m #[(.int p0)] maxLocals)) t := fun t k => pre199 t (by
          show Steps p.tables e below (T198.setTop (mkF m 278 #[.val (.int p0), .val (.int (f0_m5 p0)), .val (.int (f0_m10 p0)), .val (.int (f0_m15 p0)), .val (.int (f0_m20 p0)), .val (.int (f0_m25 p0)), .val (.int (f0_m30 p0)), .val (.int (f0_m35 p0)), .val (.ref b36_0), .val (.ref b37), .val (.ref b40), .val (.ref b48), .val (.int (f0_m186 p0)), .val (.int (f0_m192 p0)), .val (.int (f0_m197 p0))] [(.int (f0_m197 p0)), (.int (F12a (f0_m163 p0)))])) _
          refine XS.icmpNo X198.here hx rfl (hb hby at_278) rfl (teq hc278_200).2 ?_
          show Steps p.tables e below (T198.setTop (mkF m 281 #[.val (.int p0), .val (.int (f0_m5 p0)), .val (.int (f0_m10 p0)), .val (.int (f0_m15 p0)), .val (.int (f0_m20 p0)), .val (.int (f0_m25 p0)), .val (.int (f0_m30 p0)), .val (.int (f0_m35 p0)), .val (.ref b36_0), .val (.ref b37), .val (.ref b40), .val (.ref b48), .val (.int (f0_m186 p0)), .val (.int (f0_m192 p0)), .val (.int (f0_m197 p0))] [])) _
          refine XS.iconst X198.here hx rfl (hb hby at_281) ?_
          show Steps p.tables e below (T198.setTop (mkF m 282 #[.val (.int p0), .val (.int (f0_m5 p0)), .val (.int (f0_m10 p0)), .val (.int (f0_m15 p0)), .val (.int (f0_m20 p0)), .val (.int (f0_m25 p0)), .val (.int (f0_m30 p0)), .val (.int (f0_m35 p0)), .val (.ref b36_0), .val (.ref b37), .val (.ref b40), .val (.ref b48), .val (.int (f0_m186 p0)), .val (.int (f0_m192 p0)), .val (.int (f0_m197 p0))] [(.int (1 : Int32))])) _
          refine XS.goto X198.here hx rfl (pc0 := 282) (pc' := 286) rfl (hb hby at_282) (by decide) (by decide) ?_
          exact k)
        obtain ⟨fs, hr, hrun, hended, hW, hsame⟩ := X198.leave (v := some (.int (1 : Int32))) (fun h => by rw [Bd.returns] at h; cases h) hlk
        have hF : (F0 p0) = (1 : Int32) := by unfold F0; rw [if_pos hc116_43, if_pos hc138_53, if_pos hc278_200]
        exact ⟨_, _, pre201 _ (retN X198 hx (t := .boolean) Bd.returns (by simp) (hb hby at_286) hr), hrun, hended, _, _, rfl, ⟨by rw [hF], N198⟩, ⟨_, rfl⟩, hW, hsame.mono (by decide) (by decide)⟩
      have pre202 : ∀ t, Steps p.tables e below (T198.setTop (mkF m 286 #[.val (.int p0), .val (.int (f0_m5 p0)), .val (.int (f0_m10 p0)), .val (.int (f0_m15 p0)), .val (.int (f0_m20 p0)), .val (.int (f0_m25 p0)), .val (.int (f0_m30 p0)), .val (.int (f0_m35 p0)), .val (.ref b36_0), .val (.ref b37), .val (.ref b40), .val (.ref b48), .val (.int (f0_m186 p0)), .val (.int (f0_m192 p0)), .val (.int (f0_m197 p0))] [(.int (0 : Int32))])) t → Steps p.tables e below (s₁.setTop (entryFrame m #[(.int p0)] maxLocals)) t := fun t k => pre199 t (by
        show Steps p.tables e below (T198.setTop (mkF m 278 #[.val (.int p0), .val (.int (f0_m5 p0)), .val (.int (f0_m10 p0)), .val (.int (f0_m15 p0)), .val (.int (f0_m20 p0)), .val (.int (f0_m25 p0)), .val (.int (f0_m30 p0)), .val (.int (f0_m35 p0)), .val (.ref b36_0), .val (.ref b37), .val (.ref b40), .val (.ref b48), .val (.int (f0_m186 p0)), .val (.int (f0_m192 p0)), .val (.int (f0_m197 p0))] [(.int (f0_m197 p0)), (.int (F12a (f0_m163 p0)))])) _
        refine XS.icmpYes X198.here hx rfl (pc0 := 278) (pc' := 285) rfl (hb hby at_278) rfl (feq hc278_200).2 (by decide) (by decide) ?_
        show Steps p.tables e below (T198.setTop (mkF m 285 #[.val (.int p0), .val (.int (f0_m5 p0)), .val (.int (f0_m10 p0)), .val (.int (f0_m15 p0)), .val (.int (f0_m20 p0)), .val (.int (f0_m25 p0)), .val (.int (f0_m30 p0)), .val (.int (f0_m35 p0)), .val (.ref b36_0), .val (.ref b37), .val (.ref b40), .val (.ref b48), .val (.int (f0_m186 p0)), .val (.int (f0_m192 p0)), .val (.int (f0_m197 p0))] [])) _
        refine XS.iconst X198.here hx rfl (hb hby at_285) ?_
        exact k)
      obtain ⟨fs, hr, hrun, hended, hW, hsame⟩ := X198.leave (v := some (.int (0 : Int32))) (fun h => by rw [Bd.returns] at h; cases h) hlk
      have hF : (F0 p0) = (0 : Int32) := by unfold F0; rw [if_pos hc116_43, if_pos hc138_53, if_neg hc278_200]
      exact ⟨_, _, pre202 _ (retN X198 hx (t := .boolean) Bd.returns (by simp) (hb hby at_286) hr), hrun, hended, _, _, rfl, ⟨by rw [hF], N198⟩, ⟨_, rfl⟩, hW, hsame.mono (by decide) (by decide)⟩
    obtain ⟨_, _, ⟨T203, L203, k203, n203⟩, -, X203, ⟨Lc203, hQ203, l203, y203, z203⟩, st203⟩ := X48.specialBack hx (y := (⟨"com/example/tenon/tenon/Assignments", "<init>", "(Lcom/example/tenon/tenon/Budget;Lcom/example/tenon/tenon/Assignments;)V"⟩ : MethodName)) rfl hown (mvT hZ (hw _ (List.mem_of_getElem? (i := 83) rfl))) (mvT hZ (hw _ (List.mem_of_getElem? (i := 22) rfl))) (mvT hZ (hw _ (List.mem_of_getElem? (i := 23) rfl))) (by decide) (backOf (W := 1) (rm5 l Z a0' hw [] b48 b36_0 b40 .null .null .null .null (0 : Int32) (0 : Int32) sD h48 n0 Z48 A48 F48_assigned F48_changed F48_budget F48_below F48_blindness F48_marks g_b48 O48 S_sD) hZ (hw _ (List.mem_of_getElem? (i := 23) rfl)) (hw _ (List.mem_of_getElem? (i := 17) rfl)) (by decide) (by decide)) (g := (mkF m 147 #[.val (.int p0), .val (.int (f0_m5 p0)), .val (.int (f0_m10 p0)), .val (.int (f0_m15 p0)), .val (.int (f0_m20 p0)), .val (.int (f0_m25 p0)), .val (.int (f0_m30 p0)), .val (.int (f0_m35 p0)), .val (.ref b36_0), .val (.ref b37), .val (.ref b40), .unset, .unset, .unset, .unset] [(.ref b40), (.ref b36_0), (.ref b48), (.ref b48)])) rfl (by rw [hml]; rfl) (Steps.refl _) (a := b48) (argsL := [(.ref b36_0), (.ref b40)]) (rest := [(.ref b48)]) (lenOf pd2 rfl) rfl (by show 2 * 0 + _ ≤ _; exact Nat.le_of_eq rfl) (hb hby at_147) (fun _ _ => ⟨rfl, e48, (by decide : 8 + 2 ≤ _), (by decide : 50 + 15 ≤ _)⟩)
    dsimp only [Pt.U, Pt.locs, Pt.cells, Pt.slots] at X203 l203 y203 z203 st203 hQ203
    subst l203 y203 z203
    have y204 := (y49.ext E48)
    have y205 := (y50.ext E48)
    have y206 := (y51.ext E48)
    have y207 := (u44_0.ext E48)
    have y208 := (u44_6.ext E48)
    obtain ⟨b203_0, rfl, N203q, gs_b203_0, g_b203_0, K203, u203_0, u203_1, u203_2, u203_3, u203_4, u203_5, u203_6, u203_7, u203_8, u203_9⟩ := hQ203
    have N203 := Fr.app N44 N203q
    have ne_b36_0_b203_0 : b36_0 ≠ b203_0 := Nat.ne_of_lt (Nat.lt_of_lt_of_le y204.lt gs_b203_0)
    have ne_b37_b203_0 : b37 ≠ b203_0 := Nat.ne_of_lt (Nat.lt_of_lt_of_le y205.lt gs_b203_0)
    have ne_b38_0_b203_0 : b38_0 ≠ b203_0 := Nat.ne_of_lt (Nat.lt_of_lt_of_le y206.lt gs_b203_0)
    have ne_b40_b203_0 : b40 ≠ b203_0 := Nat.ne_of_lt (Nat.lt_of_lt_of_le y207.lt gs_b203_0)
    have ne_b44_0_b203_0 : b44_0 ≠ b203_0 := Nat.ne_of_lt (Nat.lt_of_lt_of_le y208.lt gs_b203_0)
    have ne_b48_b203_0 : b48 ≠ b203_0 := Nat.ne_of_lt (Nat.lt_of_lt_of_le A48.lt gs_b203_0)
    have Z203 : n0 ≤ T203.heap.size := Nat.le_trans Z48 K203.1
    have O203 : Old Z n0 T203.heap := O48.keep K203 (allS g_b48 all0)
    have pre209 : ∀ t, Steps p.tables e below (T203.setTop (mkF m 154 #[.val (.int p0), .val (.int (f0_m5 p0)), .val (.int (f0_m10 p0)), .val (.int (f0_m15 p0)), .val (.int (f0_m20 p0)), .val (.int (f0_m25 p0)), .val (.int (f0_m30 p0)), .val (.int (f0_m35 p0)), .val (.ref b36_0), .val (.ref b37), .val (.ref b40), .val (.ref b48), .unset, .unset, .unset] [(.int (f0_m30 p0))])) t → Steps p.tables e below (s₁.setTop (entryFrame m #[(.int p0)] maxLocals)) t := fun t k => pre52 t (by
      show Steps p.tables e below (T48.setTop (mkF m 138 #[.val (.int p0), .val (.int (f0_m5 p0)), .val (.int (f0_m10 p0)), .val (.int (f0_m15 p0)), .val (.int (f0_m20 p0)), .val (.int (f0_m25 p0)), .val (.int (f0_m30 p0)), .val (.int (f0_m35 p0)), .val (.ref b36_0), .val (.ref b37), .val (.ref b40), .unset, .unset, .unset, .unset] [(.int (f0_m25 p0)), (.ref b36_0), (.ref b48), (.ref b48)])) _
      refine XS.ifNo X48.here hx rfl (hb hby at_138) rfl ((if0 _ _).trans (feq hc138_53).1) ?_
      show Steps p.tables e below (T48.setTop (mkF m 141 #[.val (.int p0), .val (.int (f0_m5 p0)), .val (.int (f0_m10 p0)), .val (.int (f0_m15 p0)), .val (.int (f0_m20 p0)), .val (.int (f0_m25 p0)), .val (.int (f0_m30 p0)), .val (.int (f0_m35 p0)), .val (.ref b36_0), .val (.ref b37), .val (.ref b40), .unset, .unset, .unset, .unset] [(.ref b36_0), (.ref b48), (.ref b48)])) _
      refine XS.aload X48.here hx rfl (hb hby at_141) rfl rfl ?_
      show Steps p.tables e below (T48.setTop (mkF m 143 #[.val (.int p0), .val (.int (f0_m5 p0)), .val (.int (f0_m10 p0)), .val (.int (f0_m15 p0)), .val (.int (f0_m20 p0)), .val (.int (f0_m25 p0)), .val (.int (f0_m30 p0)), .val (.int (f0_m35 p0)), .val (.ref b36_0), .val (.ref b37), .val (.ref b40), .unset, .unset, .unset, .unset] [(.ref b40), (.ref b36_0), (.ref b48), (.ref b48)])) _
      refine XS.goto X48.here hx rfl (pc0 := 143) (pc' := 147) rfl (hb hby at_143) (by decide) (by decide) ?_
      show Steps p.tables e below (T48.setTop (mkF m 147 #[.val (.int p0), .val (.int (f0_m5 p0)), .val (.int (f0_m10 p0)), .val (.int (f0_m15 p0)), .val (.int (f0_m20 p0)), .val (.int (f0_m25 p0)), .val (.int (f0_m30 p0)), .val (.int (f0_m35 p0)), .val (.ref b36_0), .val (.ref b37), .val (.ref b40), .unset, .unset, .unset, .unset] [(.ref b40), (.ref b36_0), (.ref b48), (.ref b48)])) _
      refine st203.trans ?_
      show Steps p.tables e below (T203.setTop (mkF m 150 #[.val (.int p0), .val (.int (f0_m5 p0)), .val (.int (f0_m10 p0)), .val (.int (f0_m15 p0)), .val (.int (f0_m20 p0)), .val (.int (f0_m25 p0)), .val (.int (f0_m30 p0)), .val (.int (f0_m35 p0)), .val (.ref b36_0), .val (.ref b37), .val (.ref b40), .unset, .unset, .unset, .unset] [(.ref b48)])) _
      refine XS.astore X203.here hx rfl (hb hby at_150) rfl rfl (l' := #[.val (.int p0), .val (.int (f0_m5 p0)), .val (.int (f0_m10 p0)), .val (.int (f0_m15 p0)), .val (.int (f0_m20 p0)), .val (.int (f0_m25 p0)), .val (.int (f0_m30 p0)), .val (.int (f0_m35 p0)), .val (.ref b36_0), .val (.ref b37), .val (.ref b40), .val (.ref b48), .unset, .unset, .unset]) rfl ?_
      show Steps p.tables e below (T203.setTop (mkF m 152 #[.val (.int p0), .val (.int (f0_m5 p0)), .val (.int (f0_m10 p0)), .val (.int (f0_m15 p0)), .val (.int (f0_m20 p0)), .val (.int (f0_m25 p0)), .val (.int (f0_m30 p0)), .val (.int (f0_m35 p0)), .val (.ref b36_0), .val (.ref b37), .val (.ref b40), .val (.ref b48), .unset, .unset, .unset] [])) _
      refine XS.iload X203.here hx rfl (hb hby at_152) rfl ?_
      exact k)
    obtain ⟨T210, L210, h210, X210, e210, N210, Z210, O210, fm210_0, fm210_1, fm210_2, fm210_3, fm210_4, fm210_5, fm210_6, fm210_7, fm210_8, fm210_9, fm210_10, fm210_11, fm210_12, fm210_13, fm210_14, fm210_15, fm210_16, fm210_17, fm210_18, fm210_19, fm210_20, fm210_21, pre210⟩ : ∃ (T' : State) (locs' : List Loc) (h' : Heap), Stand p l e room_1 s m #[(.int p0)] below meth c T' locs' 10 65 ∧ T'.heap = h' ∧ Fr n0 locs' ∧ n0 ≤ h'.size ∧ Old Z n0 h' ∧ Exa Z h' b36_0 "com/example/tenon/tenon/Budget" ∧ Fld Z h' b36_0 "com/example/tenon/tenon/Budget" "limit" "J" (.long (9223372036854775807 : Int64)) ∧ Fld Z h' b36_0 "com/example/tenon/tenon/Budget" "held" "J" (.long (0 : Int64)) ∧ Exa Z h' b37 "com/example/tenon/tenon/Assignments" ∧ Fld Z h' b37 "com/example/tenon/tenon/Assignments" "below" "Lcom/example/tenon/tenon/Assignments;" .null ∧ Fld Z h' b37 "com/example/tenon/tenon/Assignments" "blindness" "I" (.int (f0_m220 p0)) ∧ Exa Z h' b40 "com/example/tenon/tenon/Assignments" ∧ Fld Z h' b40 "com/example/tenon/tenon/Assignments" "changed" "Ljava/util/List;" (.ref b44_0) ∧ Fld Z h' b40 "com/example/tenon/tenon/Assignments" "budget" "Lcom/example/tenon/tenon/Budget;" (.ref b36_0) ∧ Fld Z h' b40 "com/example/tenon/tenon/Assignments" "below" "Lcom/example/tenon/tenon/Assignments;" .null ∧ Fld Z h' b40 "com/example/tenon/tenon/Assignments" "blindness" "I" (.int (0 : Int32)) ∧ Fld Z h' b40 "com/example/tenon/tenon/Assignments" "marks" "I" (.int (0 : Int32)) ∧ Exa Z h' b48 "com/example/tenon/tenon/Assignments" ∧ Fld Z h' b48 "com/example/tenon/tenon/Assignments" "changed" "Ljava/util/List;" (.ref b203_0) ∧ Fld Z h' b48 "com/example/tenon/tenon/Assignments" "budget" "Lcom/example/tenon/tenon/Budget;" (.ref b36_0) ∧ Fld Z h' b48 "com/example/tenon/tenon/Assignments" "below" "Lcom/example/tenon/tenon/Assignments;" (.ref b40) ∧ Fld Z h' b48 "com/example/tenon/tenon/Assignments" "blindness" "I" (.int (0 : Int32)) ∧ Fld Z h' b48 "com/example/tenon/tenon/Assignments" "marks" "I" (.int (0 : Int32)) ∧ Exa Z h' b203_0 "java/util/ArrayList" ∧ Fld Z h' b203_0 "java/util/AbstractList" "modCount" "I" (.int (0 : Int32)) ∧ Fld Z h' b203_0 "java/util/ArrayList" "elementData" "[Ljava/lang/Object;" (.ref sD) ∧ Fld Z h' b203_0 "java/util/ArrayList" "size" "I" (.int (0 : Int32)) ∧ ∀ t, Steps p.tables e below (T'.setTop (mkF m 162 #[.val (.int p0), .val (.int (f0_m5 p0)), .val (.int (f0_m10 p0)), .val (.int (f0_m15 p0)), .val (.int (f0_m20 p0)), .val (.int (f0_m25 p0)), .val (.int (f0_m30 p0)), .val (.int (f0_m35 p0)), .val (.ref b36_0), .val (.ref b37), .val (.ref b40), .val (.ref b48), .unset, .unset, .unset] [])) t → Steps p.tables e below (s₁.setTop (entryFrame m #[(.int p0)] maxLocals)) t := by
      by_cases hc154_210 : (f0_m30 p0) = (0 : Int32)
      · have pre211 : ∀ t, Steps p.tables e below (T203.setTop (mkF m 162 #[.val (.int p0), .val (.int (f0_m5 p0)), .val (.int (f0_m10 p0)), .val (.int (f0_m15 p0)), .val (.int (f0_m20 p0)), .val (.int (f0_m25 p0)), .val (.int (f0_m30 p0)), .val (.int (f0_m35 p0)), .val (.ref b36_0), .val (.ref b37), .val (.ref b40), .val (.ref b48), .unset, .unset, .unset] [])) t → Steps p.tables e below (s₁.setTop (entryFrame m #[(.int p0)] maxLocals)) t := fun t k => pre209 t (by
          show Steps p.tables e below (T203.setTop (mkF m 154 #[.val (.int p0), .val (.int (f0_m5 p0)), .val (.int (f0_m10 p0)), .val (.int (f0_m15 p0)), .val (.int (f0_m20 p0)), .val (.int (f0_m25 p0)), .val (.int (f0_m30 p0)), .val (.int (f0_m35 p0)), .val (.ref b36_0), .val (.ref b37), .val (.ref b40), .val (.ref b48), .unset, .unset, .unset] [(.int (f0_m30 p0))])) _
          refine XS.ifYes X203.here hx rfl (pc0 := 154) (pc' := 162) rfl (hb hby at_154) rfl ((if0 _ _).trans (teq hc154_210).1) (by decide) (by decide) ?_
          exact k)
        have q_f0_m220 : f0_m220 p0 = (0 : Int32) := by unfold f0_m220; rw [if_pos hc154_210]
        rw [q_f0_m220]
        have y221 := (y204.keep K203)
        have y222 := ((((((u36_1.ext E37).keep K38 (ninS ne_b36_0_b37 nin0)).ext E40).keep K44 (ninS ne_b36_0_b40 nin0)).ext E48).keep K203 (ninS ne_b36_0_b48 nin0))
        have y223 := ((((((u36_2.ext E37).keep K38 (ninS ne_b36_0_b37 nin0)).ext E40).keep K44 (ninS ne_b36_0_b40 nin0)).ext E48).keep K203 (ninS ne_b36_0_b48 nin0))
        have y224 := (y205.keep K203)
        have y225 := ((((u38_3.ext E40).keep K44 (ninS ne_b37_b40 nin0)).ext E48).keep K203 (ninS ne_b37_b48 nin0))
        have y226 := ((((u38_4.ext E40).keep K44 (ninS ne_b37_b40 nin0)).ext E48).keep K203 (ninS ne_b37_b48 nin0))
        have y227 := (y207.keep K203)
        have y228 := ((u44_1.ext E48).keep K203 (ninS ne_b40_b48 nin0))
        have y229 := ((u44_2.ext E48).keep K203 (ninS ne_b40_b48 nin0))
        have y230 := ((u44_3.ext E48).keep K203 (ninS ne_b40_b48 nin0))
        have y231 := ((u44_4.ext E48).keep K203 (ninS ne_b40_b48 nin0))
        have y232 := ((u44_5.ext E48).keep K203 (ninS ne_b40_b48 nin0))
        exact ⟨T203, _, T203.heap, X203, rfl, N203, Z203, O203, y221, y222, y223, y224, y225, y226, y227, y228, y229, y230, y231, y232, u203_0, u203_1, u203_2, u203_3, u203_4, u203_5, u203_6, u203_7, u203_8, u203_9, pre211⟩
      have y213 := ((((u38_1.ext E40).keep K44 (ninS ne_b37_b40 nin0)).ext E48).keep K203 (ninS ne_b37_b48 nin0))
      have y214 := ((((u38_2.ext E40).keep K44 (ninS ne_b37_b40 nin0)).ext E48).keep K203 (ninS ne_b37_b48 nin0))
      have y215 := ((((u38_3.ext E40).keep K44 (ninS ne_b37_b40 nin0)).ext E48).keep K203 (ninS ne_b37_b48 nin0))
      have y216 := ((((u38_4.ext E40).keep K44 (ninS ne_b37_b40 nin0)).ext E48).keep K203 (ninS ne_b37_b48 nin0))
      have y217 := (y205.keep K203)
      have y218 := ((((u38_5.ext E40).keep K44 (ninS ne_b37_b40 nin0)).ext E48).keep K203 (ninS ne_b37_b48 nin0))
      obtain ⟨cq212, kq212, q212a, q212b, q212c⟩ := isOf hZ rfl y217
      obtain ⟨_, _, ⟨T212, L212, k212, n212⟩, -, X212, ⟨Lc212, hQ212, l212, y212, z212⟩, st212⟩ := X203.virtualBack hx (y := (⟨"com/example/tenon/tenon/Assignments", "notKnown", "()V"⟩ : MethodName)) (z := (⟨"com/example/tenon/tenon/Assignments", "notKnown", "()V"⟩ : MethodName)) hown (mvT hZ (hw _ (List.mem_of_getElem? (i := 91) rfl))) (mvT hZ (hw _ (List.mem_of_getElem? (i := 92) rfl))) (notFace_of_selects (args := #[]) (mvT hZ (hw _ (List.mem_of_getElem? (i := 94) rfl)))) (mvT hZ (hw _ (List.mem_of_getElem? (i := 94) rfl))) (mvT hZ (hw _ (List.mem_of_getElem? (i := 93) rfl))) (by decide) (backOf (W := 0) (rm13 l Z a0' hw [] b37 (.ref b38_0) (.ref b36_0) .null (0 : Int32) T203.heap n0 Z203 y217 y213 y214 y215 y216 y218 g_b37) hZ (hw _ (List.mem_of_getElem? (i := 95) rfl)) (hw _ (List.mem_of_getElem? (i := 17) rfl)) (by decide) (by decide)) q212a q212c (g := (mkF m 159 #[.val (.int p0), .val (.int (f0_m5 p0)), .val (.int (f0_m10 p0)), .val (.int (f0_m15 p0)), .val (.int (f0_m20 p0)), .val (.int (f0_m25 p0)), .val (.int (f0_m30 p0)), .val (.int (f0_m35 p0)), .val (.ref b36_0), .val (.ref b37), .val (.ref b40), .val (.ref b48), .unset, .unset, .unset] [(.ref b37)])) rfl (by rw [hml]; rfl) (Steps.refl _) (argsL := []) (rest := []) (lenOf pd0 rfl) rfl (by show 2 * 0 + _ ≤ _; exact Nat.le_of_eq rfl) (hb hby at_159) (fun _ _ => ⟨rfl, rfl, (by decide : 10 + 0 ≤ _), (by decide : 65 + 0 ≤ _)⟩)
      dsimp only [Pt.U, Pt.locs, Pt.cells, Pt.slots] at X212 l212 y212 z212 st212 hQ212
      subst l212 y212 z212
      obtain ⟨rfl, N212q, K212, u212_0, u212_1, u212_2, u212_3, u212_4, u212_5⟩ := hQ212
      have N212 := Fr.app N203 N212q
      have Z212 : n0 ≤ T212.heap.size := Nat.le_trans Z203 K212.1
      have O212 : Old Z n0 T212.heap := O203.keep K212 (allS g_b37 all0)
      have pre219 : ∀ t, Steps p.tables e below (T212.setTop (mkF m 162 #[.val (.int p0), .val (.int (f0_m5 p0)), .val (.int (f0_m10 p0)), .val (.int (f0_m15 p0)), .val (.int (f0_m20 p0)), .val (.int (f0_m25 p0)), .val (.int (f0_m30 p0)), .val (.int (f0_m35 p0)), .val (.ref b36_0), .val (.ref b37), .val (.ref b40), .val (.ref b48), .unset, .unset, .unset] [])) t → Steps p.tables e below (s₁.setTop (entryFrame m #[(.int p0)] maxLocals)) t := fun t k => pre209 t (by
        show Steps p.tables e below (T203.setTop (mkF m 154 #[.val (.int p0), .val (.int (f0_m5 p0)), .val (.int (f0_m10 p0)), .val (.int (f0_m15 p0)), .val (.int (f0_m20 p0)), .val (.int (f0_m25 p0)), .val (.int (f0_m30 p0)), .val (.int (f0_m35 p0)), .val (.ref b36_0), .val (.ref b37), .val (.ref b40), .val (.ref b48), .unset, .unset, .unset] [(.int (f0_m30 p0))])) _
        refine XS.ifNo X203.here hx rfl (hb hby at_154) rfl ((if0 _ _).trans (feq hc154_210).1) ?_
        show Steps p.tables e below (T203.setTop (mkF m 157 #[.val (.int p0), .val (.int (f0_m5 p0)), .val (.int (f0_m10 p0)), .val (.int (f0_m15 p0)), .val (.int (f0_m20 p0)), .val (.int (f0_m25 p0)), .val (.int (f0_m30 p0)), .val (.int (f0_m35 p0)), .val (.ref b36_0), .val (.ref b37), .val (.ref b40), .val (.ref b48), .unset, .unset, .unset] [])) _
        refine XS.aload X203.here hx rfl (hb hby at_157) rfl rfl ?_
        show Steps p.tables e below (T203.setTop (mkF m 159 #[.val (.int p0), .val (.int (f0_m5 p0)), .val (.int (f0_m10 p0)), .val (.int (f0_m15 p0)), .val (.int (f0_m20 p0)), .val (.int (f0_m25 p0)), .val (.int (f0_m30 p0)), .val (.int (f0_m35 p0)), .val (.ref b36_0), .val (.ref b37), .val (.ref b40), .val (.ref b48), .unset, .unset, .unset] [(.ref b37)])) _
        refine st212.trans ?_
        exact k)
      have q_f0_m220 : f0_m220 p0 = (1 : Int32) := by unfold f0_m220; rw [if_neg hc154_210]
      rw [q_f0_m220]
      have y233 := ((y204.keep K203).keep K212)
      have y234 := (((((((u36_1.ext E37).keep K38 (ninS ne_b36_0_b37 nin0)).ext E40).keep K44 (ninS ne_b36_0_b40 nin0)).ext E48).keep K203 (ninS ne_b36_0_b48 nin0)).keep K212 (ninS ne_b36_0_b37 nin0))
      have y235 := (((((((u36_2.ext E37).keep K38 (ninS ne_b36_0_b37 nin0)).ext E40).keep K44 (ninS ne_b36_0_b40 nin0)).ext E48).keep K203 (ninS ne_b36_0_b48 nin0)).keep K212 (ninS ne_b36_0_b37 nin0))
      have y236 := ((y207.keep K203).keep K212)
      have y237 := (((u44_1.ext E48).keep K203 (ninS ne_b40_b48 nin0)).keep K212 (ninS (Ne.symm ne_b37_b40) nin0))
      have y238 := (((u44_2.ext E48).keep K203 (ninS ne_b40_b48 nin0)).keep K212 (ninS (Ne.symm ne_b37_b40) nin0))
      have y239 := (((u44_3.ext E48).keep K203 (ninS ne_b40_b48 nin0)).keep K212 (ninS (Ne.symm ne_b37_b40) nin0))
      have y240 := (((u44_4.ext E48).keep K203 (ninS ne_b40_b48 nin0)).keep K212 (ninS (Ne.symm ne_b37_b40) nin0))
      have y241 := (((u44_5.ext E48).keep K203 (ninS ne_b40_b48 nin0)).keep K212 (ninS (Ne.symm ne_b37_b40) nin0))
      have y242 := (u203_0.keep K212)
      have y243 := (u203_1.keep K212 (ninS (Ne.symm ne_b37_b48) nin0))
      have y244 := (u203_2.keep K212 (ninS (Ne.symm ne_b37_b48) nin0))
      have y245 := (u203_3.keep K212 (ninS (Ne.symm ne_b37_b48) nin0))
      have y246 := (u203_4.keep K212 (ninS (Ne.symm ne_b37_b48) nin0))
      have y247 := (u203_5.keep K212 (ninS (Ne.symm ne_b37_b48) nin0))
      have y248 := (u203_6.keep K212)
      have y249 := (u203_7.keep K212 (ninS (Ne.symm ne_b37_b203_0) nin0))
      have y250 := (u203_8.keep K212 (ninS (Ne.symm ne_b37_b203_0) nin0))
      have y251 := (u203_9.keep K212 (ninS (Ne.symm ne_b37_b203_0) nin0))
      exact ⟨T212, _, T212.heap, X212, rfl, N212, Z212, O212, y233, y234, y235, u212_0, u212_3, u212_4, y236, y237, y238, y239, y240, y241, y242, y243, y244, y245, y246, y247, y248, y249, y250, y251, pre219⟩
    have pre252 : ∀ t, Steps p.tables e below (T210.setTop (mkF m 164 #[.val (.int p0), .val (.int (f0_m5 p0)), .val (.int (f0_m10 p0)), .val (.int (f0_m15 p0)), .val (.int (f0_m20 p0)), .val (.int (f0_m25 p0)), .val (.int (f0_m30 p0)), .val (.int (f0_m35 p0)), .val (.ref b36_0), .val (.ref b37), .val (.ref b40), .val (.ref b48), .unset, .unset, .unset] [(.int (f0_m35 p0))])) t → Steps p.tables e below (s₁.setTop (entryFrame m #[(.int p0)] maxLocals)) t := fun t k => pre210 t (by
      show Steps p.tables e below (T210.setTop (mkF m 162 #[.val (.int p0), .val (.int (f0_m5 p0)), .val (.int (f0_m10 p0)), .val (.int (f0_m15 p0)), .val (.int (f0_m20 p0)), .val (.int (f0_m25 p0)), .val (.int (f0_m30 p0)), .val (.int (f0_m35 p0)), .val (.ref b36_0), .val (.ref b37), .val (.ref b40), .val (.ref b48), .unset, .unset, .unset] [])) _
      refine XS.iload X210.here hx rfl (hb hby at_162) rfl ?_
      exact k)
    obtain ⟨T253, L253, h253, X253, e253, N253, Z253, O253, fm253_0, fm253_1, fm253_2, fm253_3, fm253_4, fm253_5, fm253_6, fm253_7, fm253_8, fm253_9, fm253_10, fm253_11, fm253_12, fm253_13, fm253_14, fm253_15, fm253_16, fm253_17, fm253_18, pre253⟩ : ∃ (T' : State) (locs' : List Loc) (h' : Heap), Stand p l e room_1 s m #[(.int p0)] below meth c T' locs' 10 65 ∧ T'.heap = h' ∧ Fr n0 locs' ∧ n0 ≤ h'.size ∧ Old Z n0 h' ∧ Exa Z h' b36_0 "com/example/tenon/tenon/Budget" ∧ Fld Z h' b36_0 "com/example/tenon/tenon/Budget" "limit" "J" (.long (9223372036854775807 : Int64)) ∧ Fld Z h' b36_0 "com/example/tenon/tenon/Budget" "held" "J" (.long (0 : Int64)) ∧ Exa Z h' b37 "com/example/tenon/tenon/Assignments" ∧ Fld Z h' b37 "com/example/tenon/tenon/Assignments" "below" "Lcom/example/tenon/tenon/Assignments;" .null ∧ Fld Z h' b37 "com/example/tenon/tenon/Assignments" "blindness" "I" (.int (f0_m220 p0)) ∧ Exa Z h' b40 "com/example/tenon/tenon/Assignments" ∧ Fld Z h' b40 "com/example/tenon/tenon/Assignments" "below" "Lcom/example/tenon/tenon/Assignments;" .null ∧ Fld Z h' b40 "com/example/tenon/tenon/Assignments" "blindness" "I" (.int (f0_m257 p0)) ∧ Exa Z h' b48 "com/example/tenon/tenon/Assignments" ∧ Fld Z h' b48 "com/example/tenon/tenon/Assignments" "changed" "Ljava/util/List;" (.ref b203_0) ∧ Fld Z h' b48 "com/example/tenon/tenon/Assignments" "budget" "Lcom/example/tenon/tenon/Budget;" (.ref b36_0) ∧ Fld Z h' b48 "com/example/tenon/tenon/Assignments" "below" "Lcom/example/tenon/tenon/Assignments;" (.ref b40) ∧ Fld Z h' b48 "com/example/tenon/tenon/Assignments" "blindness" "I" (.int (0 : Int32)) ∧ Fld Z h' b48 "com/example/tenon/tenon/Assignments" "marks" "I" (.int (0 : Int32)) ∧ Exa Z h' b203_0 "java/util/ArrayList" ∧ Fld Z h' b203_0 "java/util/AbstractList" "modCount" "I" (.int (0 : Int32)) ∧ Fld Z h' b203_0 "java/util/ArrayList" "elementData" "[Ljava/lang/Object;" (.ref sD) ∧ Fld Z h' b203_0 "java/util/ArrayList" "size" "I" (.int (0 : Int32)) ∧ ∀ t, Steps p.tables e below (T'.setTop (mkF m 172 #[.val (.int p0), .val (.int (f0_m5 p0)), .val (.int (f0_m10 p0)), .val (.int (f0_m15 p0)), .val (.int (f0_m20 p0)), .val (.int (f0_m25 p0)), .val (.int (f0_m30 p0)), .val (.int (f0_m35 p0)), .val (.ref b36_0), .val (.ref b37), .val (.ref b40), .val (.ref b48), .unset, .unset, .unset] [])) t → Steps p.tables e below (s₁.setTop (entryFrame m #[(.int p0)] maxLocals)) t := by
      by_cases hc164_253 : (f0_m35 p0) = (0 : Int32)
      · have pre254 : ∀ t, Steps p.tables e below (T210.setTop (mkF m 172 #[.val (.int p0), .val (.int (f0_m5 p0)), .val (.int (f0_m10 p0)), .val (.int (f0_m15 p0)), .val (.int (f0_m20 p0)), .val (.int (f0_m25 p0)), .val (.int (f0_m30 p0)), .val (.int (f0_m35 p0)), .val (.ref b36_0), .val (.ref b37), .val (.ref b40), .val (.ref b48), .unset, .unset, .unset] [])) t → Steps p.tables e below (s₁.setTop (entryFrame m #[(.int p0)] maxLocals)) t := fun t k => pre252 t (by
          show Steps p.tables e below (T210.setTop (mkF m 164 #[.val (.int p0), .val (.int (f0_m5 p0)), .val (.int (f0_m10 p0)), .val (.int (f0_m15 p0)), .val (.int (f0_m20 p0)), .val (.int (f0_m25 p0)), .val (.int (f0_m30 p0)), .val (.int (f0_m35 p0)), .val (.ref b36_0), .val (.ref b37), .val (.ref b40), .val (.ref b48), .unset, .unset, .unset] [(.int (f0_m35 p0))])) _
          refine XS.ifYes X210.here hx rfl (pc0 := 164) (pc' := 172) rfl (hb hby at_164) rfl ((if0 _ _).trans (teq hc164_253).1) (by decide) (by decide) ?_
          exact k)
        have q_f0_m257 : f0_m257 p0 = (0 : Int32) := by unfold f0_m257; rw [if_pos hc164_253]
        rw [q_f0_m257]
        exact ⟨T210, _, h210, X210, e210, N210, Z210, O210, fm210_0, fm210_1, fm210_2, fm210_3, fm210_4, fm210_5, fm210_6, fm210_9, fm210_10, fm210_12, fm210_13, fm210_14, fm210_15, fm210_16, fm210_17, fm210_18, fm210_19, fm210_20, fm210_21, pre254⟩
      obtain ⟨cq255, kq255, q255a, q255b, q255c⟩ := isOf hZ e210 fm210_6
      obtain ⟨_, _, ⟨T255, L255, k255, n255⟩, -, X255, ⟨Lc255, hQ255, l255, y255, z255⟩, st255⟩ := X210.virtualBack hx (y := (⟨"com/example/tenon/tenon/Assignments", "notKnown", "()V"⟩ : MethodName)) (z := (⟨"com/example/tenon/tenon/Assignments", "notKnown", "()V"⟩ : MethodName)) hown (mvT hZ (hw _ (List.mem_of_getElem? (i := 91) rfl))) (mvT hZ (hw _ (List.mem_of_getElem? (i := 92) rfl))) (notFace_of_selects (args := #[]) (mvT hZ (hw _ (List.mem_of_getElem? (i := 94) rfl)))) (mvT hZ (hw _ (List.mem_of_getElem? (i := 94) rfl))) (mvT hZ (hw _ (List.mem_of_getElem? (i := 93) rfl))) (by decide) (backOf (W := 0) (rm13 l Z a0' hw [] b40 (.ref b44_0) (.ref b36_0) .null (0 : Int32) h210 n0 Z210 fm210_6 fm210_7 fm210_8 fm210_9 fm210_10 fm210_11 g_b40) hZ (hw _ (List.mem_of_getElem? (i := 95) rfl)) (hw _ (List.mem_of_getElem? (i := 17) rfl)) (by decide) (by decide)) q255a q255c (g := (mkF m 169 #[.val (.int p0), .val (.int (f0_m5 p0)), .val (.int (f0_m10 p0)), .val (.int (f0_m15 p0)), .val (.int (f0_m20 p0)), .val (.int (f0_m25 p0)), .val (.int (f0_m30 p0)), .val (.int (f0_m35 p0)), .val (.ref b36_0), .val (.ref b37), .val (.ref b40), .val (.ref b48), .unset, .unset, .unset] [(.ref b40)])) rfl (by rw [hml]; rfl) (Steps.refl _) (argsL := []) (rest := []) (lenOf pd0 rfl) rfl (by show 2 * 0 + _ ≤ _; exact Nat.le_of_eq rfl) (hb hby at_169) (fun _ _ => ⟨rfl, e210, (by decide : 10 + 0 ≤ _), (by decide : 65 + 0 ≤ _)⟩)
      dsimp only [Pt.U, Pt.locs, Pt.cells, Pt.slots] at X255 l255 y255 z255 st255 hQ255
      subst l255 y255 z255
      obtain ⟨rfl, N255q, K255, u255_0, u255_1, u255_2, u255_3, u255_4, u255_5⟩ := hQ255
      have N255 := Fr.app N210 N255q
      have Z255 : n0 ≤ T255.heap.size := Nat.le_trans Z210 K255.1
      have O255 : Old Z n0 T255.heap := O210.keep K255 (allS g_b40 all0)
      have pre256 : ∀ t, Steps p.tables e below (T255.setTop (mkF m 172 #[.val (.int p0), .val (.int (f0_m5 p0)), .val (.int (f0_m10 p0)), .val (.int (f0_m15 p0)), .val (.int (f0_m20 p0)), .val (.int (f0_m25 p0)), .val (.int (f0_m30 p0)), .val (.int (f0_m35 p0)), .val (.ref b36_0), .val (.ref b37), .val (.ref b40), .val (.ref b48), .unset, .unset, .unset] [])) t → Steps p.tables e below (s₁.setTop (entryFrame m #[(.int p0)] maxLocals)) t := fun t k => pre252 t (by
        show Steps p.tables e below (T210.setTop (mkF m 164 #[.val (.int p0), .val (.int (f0_m5 p0)), .val (.int (f0_m10 p0)), .val (.int (f0_m15 p0)), .val (.int (f0_m20 p0)), .val (.int (f0_m25 p0)), .val (.int (f0_m30 p0)), .val (.int (f0_m35 p0)), .val (.ref b36_0), .val (.ref b37), .val (.ref b40), .val (.ref b48), .unset, .unset, .unset] [(.int (f0_m35 p0))])) _
        refine XS.ifNo X210.here hx rfl (hb hby at_164) rfl ((if0 _ _).trans (feq hc164_253).1) ?_
        show Steps p.tables e below (T210.setTop (mkF m 167 #[.val (.int p0), .val (.int (f0_m5 p0)), .val (.int (f0_m10 p0)), .val (.int (f0_m15 p0)), .val (.int (f0_m20 p0)), .val (.int (f0_m25 p0)), .val (.int (f0_m30 p0)), .val (.int (f0_m35 p0)), .val (.ref b36_0), .val (.ref b37), .val (.ref b40), .val (.ref b48), .unset, .unset, .unset] [])) _
        refine XS.aload X210.here hx rfl (hb hby at_167) rfl rfl ?_
        show Steps p.tables e below (T210.setTop (mkF m 169 #[.val (.int p0), .val (.int (f0_m5 p0)), .val (.int (f0_m10 p0)), .val (.int (f0_m15 p0)), .val (.int (f0_m20 p0)), .val (.int (f0_m25 p0)), .val (.int (f0_m30 p0)), .val (.int (f0_m35 p0)), .val (.ref b36_0), .val (.ref b37), .val (.ref b40), .val (.ref b48), .unset, .unset, .unset] [(.ref b40)])) _
        refine st255.trans ?_
        exact k)
      have q_f0_m257 : f0_m257 p0 = (1 : Int32) := by unfold f0_m257; rw [if_neg hc164_253]
      rw [q_f0_m257]
      have y258 := (fm210_0.keep K255)
      have y259 := (fm210_1.keep K255 (ninS ne_b36_0_b40 nin0))
      have y260 := (fm210_2.keep K255 (ninS ne_b36_0_b40 nin0))
      have y261 := (fm210_3.keep K255)
      have y262 := (fm210_4.keep K255 (ninS ne_b37_b40 nin0))
      have y263 := (fm210_5.keep K255 (ninS ne_b37_b40 nin0))
      have y264 := (fm210_12.keep K255)
      have y265 := (fm210_13.keep K255 (ninS (Ne.symm ne_b40_b48) nin0))
      have y266 := (fm210_14.keep K255 (ninS (Ne.symm ne_b40_b48) nin0))
      have y267 := (fm210_15.keep K255 (ninS (Ne.symm ne_b40_b48) nin0))
      have y268 := (fm210_16.keep K255 (ninS (Ne.symm ne_b40_b48) nin0))
      have y269 := (fm210_17.keep K255 (ninS (Ne.symm ne_b40_b48) nin0))
      have y270 := (fm210_18.keep K255)
      have y271 := (fm210_19.keep K255 (ninS (Ne.symm ne_b40_b203_0) nin0))
      have y272 := (fm210_20.keep K255 (ninS (Ne.symm ne_b40_b203_0) nin0))
      have y273 := (fm210_21.keep K255 (ninS (Ne.symm ne_b40_b203_0) nin0))
      exact ⟨T255, _, T255.heap, X255, rfl, N255, Z255, O255, y258, y259, y260, y261, y262, y263, u255_0, u255_3, u255_4, y264, y265, y266, y267, y268, y269, y270, y271, y272, y273, pre256⟩
    have pre274 : ∀ t, Steps p.tables e below (T253.setTop (mkF m 173 #[.val (.int p0), .val (.int (f0_m5 p0)), .val (.int (f0_m10 p0)), .val (.int (f0_m15 p0)), .val (.int (f0_m20 p0)), .val (.int (f0_m25 p0)), .val (.int (f0_m30 p0)), .val (.int (f0_m35 p0)), .val (.ref b36_0), .val (.ref b37), .val (.ref b40), .val (.ref b48), .unset, .unset, .unset] [(.int (f0_m5 p0))])) t → Steps p.tables e below (s₁.setTop (entryFrame m #[(.int p0)] maxLocals)) t := fun t k => pre253 t (by
      show Steps p.tables e below (T253.setTop (mkF m 172 #[.val (.int p0), .val (.int (f0_m5 p0)), .val (.int (f0_m10 p0)), .val (.int (f0_m15 p0)), .val (.int (f0_m20 p0)), .val (.int (f0_m25 p0)), .val (.int (f0_m30 p0)), .val (.int (f0_m35 p0)), .val (.ref b36_0), .val (.ref b37), .val (.ref b40), .val (.ref b48), .unset, .unset, .unset] [])) _
      refine XS.iloadN X253.here hx rfl (hb hby at_172) rfl ?_
      exact k)
    obtain ⟨T275, L275, h275, X275, e275, N275, Z275, O275, fm275_0, fm275_1, fm275_2, fm275_3, fm275_4, fm275_5, fm275_6, fm275_7, fm275_8, fm275_9, fm275_10, fm275_11, fm275_12, fm275_13, fm275_14, fm275_15, fm275_16, fm275_17, fm275_18, pre275⟩ : ∃ (T' : State) (locs' : List Loc) (h' : Heap), Stand p l e room_1 s m #[(.int p0)] below meth c T' locs' 10 65 ∧ T'.heap = h' ∧ Fr n0 locs' ∧ n0 ≤ h'.size ∧ Old Z n0 h' ∧ Exa Z h' b36_0 "com/example/tenon/tenon/Budget" ∧ Fld Z h' b36_0 "com/example/tenon/tenon/Budget" "limit" "J" (.long (9223372036854775807 : Int64)) ∧ Fld Z h' b36_0 "com/example/tenon/tenon/Budget" "held" "J" (.long (0 : Int64)) ∧ Exa Z h' b37 "com/example/tenon/tenon/Assignments" ∧ Fld Z h' b37 "com/example/tenon/tenon/Assignments" "below" "Lcom/example/tenon/tenon/Assignments;" .null ∧ Fld Z h' b37 "com/example/tenon/tenon/Assignments" "blindness" "I" (.int (f0_m220 p0)) ∧ Exa Z h' b40 "com/example/tenon/tenon/Assignments" ∧ Fld Z h' b40 "com/example/tenon/tenon/Assignments" "below" "Lcom/example/tenon/tenon/Assignments;" .null ∧ Fld Z h' b40 "com/example/tenon/tenon/Assignments" "blindness" "I" (.int (f0_m257 p0)) ∧ Exa Z h' b48 "com/example/tenon/tenon/Assignments" ∧ Fld Z h' b48 "com/example/tenon/tenon/Assignments" "changed" "Ljava/util/List;" (.ref b203_0) ∧ Fld Z h' b48 "com/example/tenon/tenon/Assignments" "budget" "Lcom/example/tenon/tenon/Budget;" (.ref b36_0) ∧ Fld Z h' b48 "com/example/tenon/tenon/Assignments" "below" "Lcom/example/tenon/tenon/Assignments;" (.ref b40) ∧ Fld Z h' b48 "com/example/tenon/tenon/Assignments" "blindness" "I" (.int (f0_m279 p0)) ∧ Fld Z h' b48 "com/example/tenon/tenon/Assignments" "marks" "I" (.int (0 : Int32)) ∧ Exa Z h' b203_0 "java/util/ArrayList" ∧ Fld Z h' b203_0 "java/util/AbstractList" "modCount" "I" (.int (0 : Int32)) ∧ Fld Z h' b203_0 "java/util/ArrayList" "elementData" "[Ljava/lang/Object;" (.ref sD) ∧ Fld Z h' b203_0 "java/util/ArrayList" "size" "I" (.int (0 : Int32)) ∧ ∀ t, Steps p.tables e below (T'.setTop (mkF m 181 #[.val (.int p0), .val (.int (f0_m5 p0)), .val (.int (f0_m10 p0)), .val (.int (f0_m15 p0)), .val (.int (f0_m20 p0)), .val (.int (f0_m25 p0)), .val (.int (f0_m30 p0)), .val (.int (f0_m35 p0)), .val (.ref b36_0), .val (.ref b37), .val (.ref b40), .val (.ref b48), .unset, .unset, .unset] [])) t → Steps p.tables e below (s₁.setTop (entryFrame m #[(.int p0)] maxLocals)) t := by
      by_cases hc173_275 : (f0_m5 p0) = (0 : Int32)
      · have pre276 : ∀ t, Steps p.tables e below (T253.setTop (mkF m 181 #[.val (.int p0), .val (.int (f0_m5 p0)), .val (.int (f0_m10 p0)), .val (.int (f0_m15 p0)), .val (.int (f0_m20 p0)), .val (.int (f0_m25 p0)), .val (.int (f0_m30 p0)), .val (.int (f0_m35 p0)), .val (.ref b36_0), .val (.ref b37), .val (.ref b40), .val (.ref b48), .unset, .unset, .unset] [])) t → Steps p.tables e below (s₁.setTop (entryFrame m #[(.int p0)] maxLocals)) t := fun t k => pre274 t (by
          show Steps p.tables e below (T253.setTop (mkF m 173 #[.val (.int p0), .val (.int (f0_m5 p0)), .val (.int (f0_m10 p0)), .val (.int (f0_m15 p0)), .val (.int (f0_m20 p0)), .val (.int (f0_m25 p0)), .val (.int (f0_m30 p0)), .val (.int (f0_m35 p0)), .val (.ref b36_0), .val (.ref b37), .val (.ref b40), .val (.ref b48), .unset, .unset, .unset] [(.int (f0_m5 p0))])) _
          refine XS.ifYes X253.here hx rfl (pc0 := 173) (pc' := 181) rfl (hb hby at_173) rfl ((if0 _ _).trans (teq hc173_275).1) (by decide) (by decide) ?_
          exact k)
        have q_f0_m279 : f0_m279 p0 = (0 : Int32) := by unfold f0_m279; rw [if_pos hc173_275]
        rw [q_f0_m279]
        exact ⟨T253, _, h253, X253, e253, N253, Z253, O253, fm253_0, fm253_1, fm253_2, fm253_3, fm253_4, fm253_5, fm253_6, fm253_7, fm253_8, fm253_9, fm253_10, fm253_11, fm253_12, fm253_13, fm253_14, fm253_15, fm253_16, fm253_17, fm253_18, pre276⟩
      obtain ⟨cq277, kq277, q277a, q277b, q277c⟩ := isOf hZ e253 fm253_9
      obtain ⟨_, _, ⟨T277, L277, k277, n277⟩, -, X277, ⟨Lc277, hQ277, l277, y277, z277⟩, st277⟩ := X253.virtualBack hx (y := (⟨"com/example/tenon/tenon/Assignments", "notKnown", "()V"⟩ : MethodName)) (z := (⟨"com/example/tenon/tenon/Assignments", "notKnown", "()V"⟩ : MethodName)) hown (mvT hZ (hw _ (List.mem_of_getElem? (i := 91) rfl))) (mvT hZ (hw _ (List.mem_of_getElem? (i := 92) rfl))) (notFace_of_selects (args := #[]) (mvT hZ (hw _ (List.mem_of_getElem? (i := 94) rfl)))) (mvT hZ (hw _ (List.mem_of_getElem? (i := 94) rfl))) (mvT hZ (hw _ (List.mem_of_getElem? (i := 93) rfl))) (by decide) (backOf (W := 0) (rm13 l Z a0' hw [] b48 (.ref b203_0) (.ref b36_0) (.ref b40) (0 : Int32) h253 n0 Z253 fm253_9 fm253_10 fm253_11 fm253_12 fm253_13 fm253_14 g_b48) hZ (hw _ (List.mem_of_getElem? (i := 95) rfl)) (hw _ (List.mem_of_getElem? (i := 17) rfl)) (by decide) (by decide)) q277a q277c (g := (mkF m 178 #[.val (.int p0), .val (.int (f0_m5 p0)), .val (.int (f0_m10 p0)), .val (.int (f0_m15 p0)), .val (.int (f0_m20 p0)), .val (.int (f0_m25 p0)), .val (.int (f0_m30 p0)), .val (.int (f0_m35 p0)), .val (.ref b36_0), .val (.ref b37), .val (.ref b40), .val (.ref b48), .unset, .unset, .unset] [(.ref b48)])) rfl (by rw [hml]; rfl) (Steps.refl _) (argsL := []) (rest := []) (lenOf pd0 rfl) rfl (by show 2 * 0 + _ ≤ _; exact Nat.le_of_eq rfl) (hb hby at_178) (fun _ _ => ⟨rfl, e253, (by decide : 10 + 0 ≤ _), (by decide : 65 + 0 ≤ _)⟩)
      dsimp only [Pt.U, Pt.locs, Pt.cells, Pt.slots] at X277 l277 y277 z277 st277 hQ277
      subst l277 y277 z277
      obtain ⟨rfl, N277q, K277, u277_0, u277_1, u277_2, u277_3, u277_4, u277_5⟩ := hQ277
      have N277 := Fr.app N253 N277q
      have Z277 : n0 ≤ T277.heap.size := Nat.le_trans Z253 K277.1
      have O277 : Old Z n0 T277.heap := O253.keep K277 (allS g_b48 all0)
      have pre278 : ∀ t, Steps p.tables e below (T277.setTop (mkF m 181 #[.val (.int p0), .val (.int (f0_m5 p0)), .val (.int (f0_m10 p0)), .val (.int (f0_m15 p0)), .val (.int (f0_m20 p0)), .val (.int (f0_m25 p0)), .val (.int (f0_m30 p0)), .val (.int (f0_m35 p0)), .val (.ref b36_0), .val (.ref b37), .val (.ref b40), .val (.ref b48), .unset, .unset, .unset] [])) t → Steps p.tables e below (s₁.setTop (entryFrame m #[(.int p0)] maxLocals)) t := fun t k => pre274 t (by
        show Steps p.tables e below (T253.setTop (mkF m 173 #[.val (.int p0), .val (.int (f0_m5 p0)), .val (.int (f0_m10 p0)), .val (.int (f0_m15 p0)), .val (.int (f0_m20 p0)), .val (.int (f0_m25 p0)), .val (.int (f0_m30 p0)), .val (.int (f0_m35 p0)), .val (.ref b36_0), .val (.ref b37), .val (.ref b40), .val (.ref b48), .unset, .unset, .unset] [(.int (f0_m5 p0))])) _
        refine XS.ifNo X253.here hx rfl (hb hby at_173) rfl ((if0 _ _).trans (feq hc173_275).1) ?_
        show Steps p.tables e below (T253.setTop (mkF m 176 #[.val (.int p0), .val (.int (f0_m5 p0)), .val (.int (f0_m10 p0)), .val (.int (f0_m15 p0)), .val (.int (f0_m20 p0)), .val (.int (f0_m25 p0)), .val (.int (f0_m30 p0)), .val (.int (f0_m35 p0)), .val (.ref b36_0), .val (.ref b37), .val (.ref b40), .val (.ref b48), .unset, .unset, .unset] [])) _
        refine XS.aload X253.here hx rfl (hb hby at_176) rfl rfl ?_
        show Steps p.tables e below (T253.setTop (mkF m 178 #[.val (.int p0), .val (.int (f0_m5 p0)), .val (.int (f0_m10 p0)), .val (.int (f0_m15 p0)), .val (.int (f0_m20 p0)), .val (.int (f0_m25 p0)), .val (.int (f0_m30 p0)), .val (.int (f0_m35 p0)), .val (.ref b36_0), .val (.ref b37), .val (.ref b40), .val (.ref b48), .unset, .unset, .unset] [(.ref b48)])) _
        refine st277.trans ?_
        exact k)
      have q_f0_m279 : f0_m279 p0 = (1 : Int32) := by unfold f0_m279; rw [if_neg hc173_275]
      rw [q_f0_m279]
      have y280 := (fm253_0.keep K277)
      have y281 := (fm253_1.keep K277 (ninS ne_b36_0_b48 nin0))
      have y282 := (fm253_2.keep K277 (ninS ne_b36_0_b48 nin0))
      have y283 := (fm253_3.keep K277)
      have y284 := (fm253_4.keep K277 (ninS ne_b37_b48 nin0))
      have y285 := (fm253_5.keep K277 (ninS ne_b37_b48 nin0))
      have y286 := (fm253_6.keep K277)
      have y287 := (fm253_7.keep K277 (ninS ne_b40_b48 nin0))
      have y288 := (fm253_8.keep K277 (ninS ne_b40_b48 nin0))
      have y289 := (fm253_15.keep K277)
      have y290 := (fm253_16.keep K277 (ninS (Ne.symm ne_b48_b203_0) nin0))
      have y291 := (fm253_17.keep K277 (ninS (Ne.symm ne_b48_b203_0) nin0))
      have y292 := (fm253_18.keep K277 (ninS (Ne.symm ne_b48_b203_0) nin0))
      exact ⟨T277, _, T277.heap, X277, rfl, N277, Z277, O277, y280, y281, y282, y283, y284, y285, y286, y287, y288, u277_0, u277_1, u277_2, u277_3, u277_4, u277_5, y289, y290, y291, y292, pre278⟩
    have pre293 : ∀ t, Steps p.tables e below (T275.setTop (mkF m 182 #[.val (.int p0), .val (.int (f0_m5 p0)), .val (.int (f0_m10 p0)), .val (.int (f0_m15 p0)), .val (.int (f0_m20 p0)), .val (.int (f0_m25 p0)), .val (.int (f0_m30 p0)), .val (.int (f0_m35 p0)), .val (.ref b36_0), .val (.ref b37), .val (.ref b40), .val (.ref b48), .unset, .unset, .unset] [(.int (f0_m10 p0))])) t → Steps p.tables e below (s₁.setTop (entryFrame m #[(.int p0)] maxLocals)) t := fun t k => pre275 t (by
      show Steps p.tables e below (T275.setTop (mkF m 181 #[.val (.int p0), .val (.int (f0_m5 p0)), .val (.int (f0_m10 p0)), .val (.int (f0_m15 p0)), .val (.int (f0_m20 p0)), .val (.int (f0_m25 p0)), .val (.int (f0_m30 p0)), .val (.int (f0_m35 p0)), .val (.ref b36_0), .val (.ref b37), .val (.ref b40), .val (.ref b48), .unset, .unset, .unset] [])) _
      refine XS.iloadN X275.here hx rfl (hb hby at_181) rfl ?_
      exact k)
    obtain ⟨T294, L294, h294, s294_12, X294, e294, N294, Z294, O294, fm294_0, fm294_1, fm294_2, fm294_3, fm294_4, fm294_5, fm294_6, fm294_7, fm294_8, hs294_12, pre294⟩ : ∃ (T' : State) (locs' : List Loc) (h' : Heap) (s294_12 : Slot), Stand p l e room_1 s m #[(.int p0)] below meth c T' locs' 12 77 ∧ T'.heap = h' ∧ Fr n0 locs' ∧ n0 ≤ h'.size ∧ Old Z n0 h' ∧ Exa Z h' b37 "com/example/tenon/tenon/Assignments" ∧ Fld Z h' b37 "com/example/tenon/tenon/Assignments" "below" "Lcom/example/tenon/tenon/Assignments;" .null ∧ Fld Z h' b37 "com/example/tenon/tenon/Assignments" "blindness" "I" (.int (f0_m220 p0)) ∧ Exa Z h' b40 "com/example/tenon/tenon/Assignments" ∧ Fld Z h' b40 "com/example/tenon/tenon/Assignments" "below" "Lcom/example/tenon/tenon/Assignments;" .null ∧ Fld Z h' b40 "com/example/tenon/tenon/Assignments" "blindness" "I" (.int (f0_m257 p0)) ∧ Exa Z h' b48 "com/example/tenon/tenon/Assignments" ∧ Fld Z h' b48 "com/example/tenon/tenon/Assignments" "below" "Lcom/example/tenon/tenon/Assignments;" (.ref b40) ∧ Fld Z h' b48 "com/example/tenon/tenon/Assignments" "blindness" "I" (.int (f0_m312 p0)) ∧ One s294_12 ∧ ∀ t, Steps p.tables e below (T'.setTop (mkF m 208 #[.val (.int p0), .val (.int (f0_m5 p0)), .val (.int (f0_m10 p0)), .val (.int (f0_m15 p0)), .val (.int (f0_m20 p0)), .val (.int (f0_m25 p0)), .val (.int (f0_m30 p0)), .val (.int (f0_m35 p0)), .val (.ref b36_0), .val (.ref b37), .val (.ref b40), .val (.ref b48), s294_12, .unset, .unset] [])) t → Steps p.tables e below (s₁.setTop (entryFrame m #[(.int p0)] maxLocals)) t := by
      by_cases hc182_294 : (f0_m10 p0) = (0 : Int32)
      · have pre295 : ∀ t, Steps p.tables e below (T275.setTop (mkF m 208 #[.val (.int p0), .val (.int (f0_m5 p0)), .val (.int (f0_m10 p0)), .val (.int (f0_m15 p0)), .val (.int (f0_m20 p0)), .val (.int (f0_m25 p0)), .val (.int (f0_m30 p0)), .val (.int (f0_m35 p0)), .val (.ref b36_0), .val (.ref b37), .val (.ref b40), .val (.ref b48), .unset, .unset, .unset] [])) t → Steps p.tables e below (s₁.setTop (entryFrame m #[(.int p0)] maxLocals)) t := fun t k => pre293 t (by
          show Steps p.tables e below (T275.setTop (mkF m 182 #[.val (.int p0), .val (.int (f0_m5 p0)), .val (.int (f0_m10 p0)), .val (.int (f0_m15 p0)), .val (.int (f0_m20 p0)), .val (.int (f0_m25 p0)), .val (.int (f0_m30 p0)), .val (.int (f0_m35 p0)), .val (.ref b36_0), .val (.ref b37), .val (.ref b40), .val (.ref b48), .unset, .unset, .unset] [(.int (f0_m10 p0))])) _
          refine XS.ifYes X275.here hx rfl (pc0 := 182) (pc' := 208) rfl (hb hby at_182) rfl ((if0 _ _).trans (teq hc182_294).1) (by decide) (by decide) ?_
          exact k)
        have q_f0_m312 : f0_m312 p0 = (f0_m279 p0) := by unfold f0_m312; rw [if_pos hc182_294]
        rw [q_f0_m312]
        exact ⟨T275, _, h275, .unset, (X275.more (by decide) (by decide)), e275, N275, Z275, O275, fm275_3, fm275_4, fm275_5, fm275_6, fm275_7, fm275_8, fm275_9, fm275_12, fm275_13, One.u, pre295⟩
      obtain ⟨cq296, kq296, q296a, q296b, q296c⟩ := isOf hZ e275 fm275_9
      obtain ⟨_, _, ⟨T296, L296, k296, n296⟩, -, X296, ⟨Lc296, hQ296, l296, y296, z296⟩, st296⟩ := X275.virtualBack hx (y := (⟨"com/example/tenon/tenon/Assignments", "mark", "()I"⟩ : MethodName)) (z := (⟨"com/example/tenon/tenon/Assignments", "mark", "()I"⟩ : MethodName)) hown (mvT hZ (hw _ (List.mem_of_getElem? (i := 98) rfl))) (mvT hZ (hw _ (List.mem_of_getElem? (i := 99) rfl))) (notFace_of_selects (args := #[]) (mvT hZ (hw _ (List.mem_of_getElem? (i := 101) rfl)))) (mvT hZ (hw _ (List.mem_of_getElem? (i := 101) rfl))) (mvT hZ (hw _ (List.mem_of_getElem? (i := 100) rfl))) (by decide) (backOf (W := 0) (rm14 l Z a0' hw [] b48 b203_0 (.ref b36_0) (.ref b40) (f0_m279 p0) h275 n0 Z275 fm275_9 fm275_15 fm275_10 fm275_11 fm275_12 fm275_13 fm275_14 fm275_18 g_b48) hZ (hw _ (List.mem_of_getElem? (i := 102) rfl)) (hw _ (List.mem_of_getElem? (i := 17) rfl)) (by decide) (by decide)) q296a q296c (g := (mkF m 187 #[.val (.int p0), .val (.int (f0_m5 p0)), .val (.int (f0_m10 p0)), .val (.int (f0_m15 p0)), .val (.int (f0_m20 p0)), .val (.int (f0_m25 p0)), .val (.int (f0_m30 p0)), .val (.int (f0_m35 p0)), .val (.ref b36_0), .val (.ref b37), .val (.ref b40), .val (.ref b48), .unset, .unset, .unset] [(.ref b48)])) rfl (by rw [hml]; rfl) (Steps.refl _) (argsL := []) (rest := []) (lenOf pd10 rfl) rfl (by show 2 * 0 + _ ≤ _; exact Nat.le_of_eq rfl) (hb hby at_187) (fun _ _ => ⟨rfl, e275, (by decide : 10 + 0 ≤ _), (by decide : 65 + 0 ≤ _)⟩)
      dsimp only [Pt.U, Pt.locs, Pt.cells, Pt.slots] at X296 l296 y296 z296 st296 hQ296
      subst l296 y296 z296
      obtain ⟨rfl, N296q, K296, u296_0, u296_1, u296_2, u296_3, u296_4, u296_5⟩ := hQ296
      have N296 := Fr.app N275 N296q
      have Z296 : n0 ≤ T296.heap.size := Nat.le_trans Z275 K296.1
      have O296 : Old Z n0 T296.heap := O275.keep K296 (allS g_b48 all0)
      have y298 := (fm275_1.keep K296 (ninS ne_b36_0_b48 nin0))
      have y299 := (fm275_2.keep K296 (ninS ne_b36_0_b48 nin0))
      have y300 := (fm275_16.keep K296 (ninS (Ne.symm ne_b48_b203_0) nin0))
      have y301 := (fm275_0.keep K296)
      have y302 := (fm275_15.keep K296)
      have y303 := (fm275_17.keep K296 (ninS (Ne.symm ne_b48_b203_0) nin0))
      have y304 := (fm275_18.keep K296 (ninS (Ne.symm ne_b48_b203_0) nin0))
      obtain ⟨cq297, kq297, q297a, q297b, q297c⟩ := isOf hZ rfl u296_0
      obtain ⟨_, _, ⟨T297, L297, k297, n297⟩, -, X297, ⟨Lc297, hQ297, l297, y297, z297⟩, st297⟩ := X296.virtualBack hx (y := (⟨"com/example/tenon/tenon/Assignments", "notKnown", "()V"⟩ : MethodName)) (z := (⟨"com/example/tenon/tenon/Assignments", "notKnown", "()V"⟩ : MethodName)) hown (mvT hZ (hw _ (List.mem_of_getElem? (i := 91) rfl))) (mvT hZ (hw _ (List.mem_of_getElem? (i := 92) rfl))) (notFace_of_selects (args := #[]) (mvT hZ (hw _ (List.mem_of_getElem? (i := 94) rfl)))) (mvT hZ (hw _ (List.mem_of_getElem? (i := 94) rfl))) (mvT hZ (hw _ (List.mem_of_getElem? (i := 93) rfl))) (by decide) (backOf (W := 0) (rm13m l Z a0' hw [] b48 b203_0 b36_0 (.ref b40) (f0_m279 p0) (9223372036854775807 : Int64) (0 : Int64) (0 : Int32) sD kS_sD T296.heap n0 Z296 u296_0 y301 y302 u296_1 u296_2 u296_3 u296_4 u296_5 y298 y299 y300 y303 y304 g_b36_0 g_b203_0 g_b48 O296 VS_sD S_sD (by decide)) hZ (hw _ (List.mem_of_getElem? (i := 95) rfl)) (hw _ (List.mem_of_getElem? (i := 17) rfl)) (by decide) (by decide)) q297a q297c (g := (mkF m 194 #[.val (.int p0), .val (.int (f0_m5 p0)), .val (.int (f0_m10 p0)), .val (.int (f0_m15 p0)), .val (.int (f0_m20 p0)), .val (.int (f0_m25 p0)), .val (.int (f0_m30 p0)), .val (.int (f0_m35 p0)), .val (.ref b36_0), .val (.ref b37), .val (.ref b40), .val (.ref b48), .val (.int (0 : Int32)), .unset, .unset] [(.ref b48)])) rfl (by rw [hml]; rfl) (Steps.refl _) (argsL := []) (rest := []) (lenOf pd0 rfl) rfl (by show 2 * 0 + _ ≤ _; exact Nat.le_of_eq rfl) (hb hby at_194) (fun _ _ => ⟨rfl, rfl, (by decide : 10 + 2 ≤ _), (by decide : 65 + 12 ≤ _)⟩)
      dsimp only [Pt.U, Pt.locs, Pt.cells, Pt.slots] at X297 l297 y297 z297 st297 hQ297
      subst l297 y297 z297
      have y305 := (fm275_3.keep K296)
      have y306 := (fm275_6.keep K296)
      obtain ⟨b297_0, b297_1, rfl, N297q, gs_b297_0, g_b297_0, gs_b297_1, g_b297_1, K297, u297_0, u297_1, u297_2, u297_3, u297_4, u297_5, u297_6, u297_7, u297_8, u297_9, u297_10, u297_11, u297_12, u297_13, u297_14, u297_15, u297_16⟩ := hQ297
      have N297 := Fr.app N296 N297q
      have ne_b36_0_b297_0 : b36_0 ≠ b297_0 := Nat.ne_of_lt (Nat.lt_of_lt_of_le y301.lt gs_b297_0)
      have ne_b37_b297_0 : b37 ≠ b297_0 := Nat.ne_of_lt (Nat.lt_of_lt_of_le y305.lt gs_b297_0)
      have ne_b40_b297_0 : b40 ≠ b297_0 := Nat.ne_of_lt (Nat.lt_of_lt_of_le y306.lt gs_b297_0)
      have ne_b48_b297_0 : b48 ≠ b297_0 := Nat.ne_of_lt (Nat.lt_of_lt_of_le u296_0.lt gs_b297_0)
      have ne_b203_0_b297_0 : b203_0 ≠ b297_0 := Nat.ne_of_lt (Nat.lt_of_lt_of_le y302.lt gs_b297_0)
      have ne_b36_0_b297_1 : b36_0 ≠ b297_1 := Nat.ne_of_lt (Nat.lt_of_lt_of_le y301.lt gs_b297_1)
      have ne_b37_b297_1 : b37 ≠ b297_1 := Nat.ne_of_lt (Nat.lt_of_lt_of_le y305.lt gs_b297_1)
      have ne_b40_b297_1 : b40 ≠ b297_1 := Nat.ne_of_lt (Nat.lt_of_lt_of_le y306.lt gs_b297_1)
      have ne_b48_b297_1 : b48 ≠ b297_1 := Nat.ne_of_lt (Nat.lt_of_lt_of_le u296_0.lt gs_b297_1)
      have ne_b203_0_b297_1 : b203_0 ≠ b297_1 := Nat.ne_of_lt (Nat.lt_of_lt_of_le y302.lt gs_b297_1)
      have Z297 : n0 ≤ T297.heap.size := Nat.le_trans Z296 K297.1
      have O297 : Old Z n0 T297.heap := O296.keep K297 (allS g_b36_0 (allS g_b203_0 (allS g_b48 all0)))
      obtain ⟨kk_u297_13, u297_13, ov_u297_13⟩ := u297_13
      have pre307 : ∀ t, Steps p.tables e below (T297.setTop (mkF m 198 #[.val (.int p0), .val (.int (f0_m5 p0)), .val (.int (f0_m10 p0)), .val (.int (f0_m15 p0)), .val (.int (f0_m20 p0)), .val (.int (f0_m25 p0)), .val (.int (f0_m30 p0)), .val (.int (f0_m35 p0)), .val (.ref b36_0), .val (.ref b37), .val (.ref b40), .val (.ref b48), .val (.int (0 : Int32)), .unset, .unset] [(.int (f0_m15 p0))])) t → Steps p.tables e below (s₁.setTop (entryFrame m #[(.int p0)] maxLocals)) t := fun t k => pre293 t (by
        show Steps p.tables e below (T275.setTop (mkF m 182 #[.val (.int p0), .val (.int (f0_m5 p0)), .val (.int (f0_m10 p0)), .val (.int (f0_m15 p0)), .val (.int (f0_m20 p0)), .val (.int (f0_m25 p0)), .val (.int (f0_m30 p0)), .val (.int (f0_m35 p0)), .val (.ref b36_0), .val (.ref b37), .val (.ref b40), .val (.ref b48), .unset, .unset, .unset] [(.int (f0_m10 p0))])) _
        refine XS.ifNo X275.here hx rfl (hb hby at_182) rfl ((if0 _ _).trans (feq hc182_294).1) ?_
        show Steps p.tables e below (T275.setTop (mkF m 185 #[.val (.int p0), .val (.int (f0_m5 p0)), .val (.int (f0_m10 p0)), .val (.int (f0_m15 p0)), .val (.int (f0_m20 p0)), .val (.int (f0_m25 p0)), .val (.int (f0_m30 p0)), .val (.int (f0_m35 p0)), .val (.ref b36_0), .val (.ref b37), .val (.ref b40), .val (.ref b48), .unset, .unset, .unset] [])) _
        refine XS.aload X275.here hx rfl (hb hby at_185) rfl rfl ?_
        show Steps p.tables e below (T275.setTop (mkF m 187 #[.val (.int p0), .val (.int (f0_m5 p0)), .val (.int (f0_m10 p0)), .val (.int (f0_m15 p0)), .val (.int (f0_m20 p0)), .val (.int (f0_m25 p0)), .val (.int (f0_m30 p0)), .val (.int (f0_m35 p0)), .val (.ref b36_0), .val (.ref b37), .val (.ref b40), .val (.ref b48), .unset, .unset, .unset] [(.ref b48)])) _
        refine st296.trans ?_
        show Steps p.tables e below (T296.setTop (mkF m 190 #[.val (.int p0), .val (.int (f0_m5 p0)), .val (.int (f0_m10 p0)), .val (.int (f0_m15 p0)), .val (.int (f0_m20 p0)), .val (.int (f0_m25 p0)), .val (.int (f0_m30 p0)), .val (.int (f0_m35 p0)), .val (.ref b36_0), .val (.ref b37), .val (.ref b40), .val (.ref b48), .unset, .unset, .unset] [(.int (0 : Int32))])) _
        refine XS.istore X296.here hx rfl (hb hby at_190) rfl (l' := #[.val (.int p0), .val (.int (f0_m5 p0)), .val (.int (f0_m10 p0)), .val (.int (f0_m15 p0)), .val (.int (f0_m20 p0)), .val (.int (f0_m25 p0)), .val (.int (f0_m30 p0)), .val (.int (f0_m35 p0)), .val (.ref b36_0), .val (.ref b37), .val (.ref b40), .val (.ref b48), .val (.int (0 : Int32)), .unset, .unset]) rfl ?_
        show Steps p.tables e below (T296.setTop (mkF m 192 #[.val (.int p0), .val (.int (f0_m5 p0)), .val (.int (f0_m10 p0)), .val (.int (f0_m15 p0)), .val (.int (f0_m20 p0)), .val (.int (f0_m25 p0)), .val (.int (f0_m30 p0)), .val (.int (f0_m35 p0)), .val (.ref b36_0), .val (.ref b37), .val (.ref b40), .val (.ref b48), .val (.int (0 : Int32)), .unset, .unset] [])) _
        refine XS.aload X296.here hx rfl (hb hby at_192) rfl rfl ?_
        show Steps p.tables e below (T296.setTop (mkF m 194 #[.val (.int p0), .val (.int (f0_m5 p0)), .val (.int (f0_m10 p0)), .val (.int (f0_m15 p0)), .val (.int (f0_m20 p0)), .val (.int (f0_m25 p0)), .val (.int (f0_m30 p0)), .val (.int (f0_m35 p0)), .val (.ref b36_0), .val (.ref b37), .val (.ref b40), .val (.ref b48), .val (.int (0 : Int32)), .unset, .unset] [(.ref b48)])) _
        refine st297.trans ?_
        show Steps p.tables e below (T297.setTop (mkF m 197 #[.val (.int p0), .val (.int (f0_m5 p0)), .val (.int (f0_m10 p0)), .val (.int (f0_m15 p0)), .val (.int (f0_m20 p0)), .val (.int (f0_m25 p0)), .val (.int (f0_m30 p0)), .val (.int (f0_m35 p0)), .val (.ref b36_0), .val (.ref b37), .val (.ref b40), .val (.ref b48), .val (.int (0 : Int32)), .unset, .unset] [])) _
        refine XS.iloadN X297.here hx rfl (hb hby at_197) rfl ?_
        exact k)
      by_cases hc198_308 : (f0_m15 p0) = (0 : Int32)
      · have pre309 : ∀ t, Steps p.tables e below (T297.setTop (mkF m 208 #[.val (.int p0), .val (.int (f0_m5 p0)), .val (.int (f0_m10 p0)), .val (.int (f0_m15 p0)), .val (.int (f0_m20 p0)), .val (.int (f0_m25 p0)), .val (.int (f0_m30 p0)), .val (.int (f0_m35 p0)), .val (.ref b36_0), .val (.ref b37), .val (.ref b40), .val (.ref b48), .val (.int (0 : Int32)), .unset, .unset] [])) t → Steps p.tables e below (s₁.setTop (entryFrame m #[(.int p0)] maxLocals)) t := fun t k => pre307 t (by
          show Steps p.tables e below (T297.setTop (mkF m 198 #[.val (.int p0), .val (.int (f0_m5 p0)), .val (.int (f0_m10 p0)), .val (.int (f0_m15 p0)), .val (.int (f0_m20 p0)), .val (.int (f0_m25 p0)), .val (.int (f0_m30 p0)), .val (.int (f0_m35 p0)), .val (.ref b36_0), .val (.ref b37), .val (.ref b40), .val (.ref b48), .val (.int (0 : Int32)), .unset, .unset] [(.int (f0_m15 p0))])) _
          refine XS.ifYes X297.here hx rfl (pc0 := 198) (pc' := 208) rfl (hb hby at_198) rfl ((if0 _ _).trans (teq hc198_308).1) (by decide) (by decide) ?_
          exact k)
        have q_f0_m312 : f0_m312 p0 = ((f0_m279 p0) + (1 : Int32)) := by unfold f0_m312; rw [if_neg hc182_294, if_pos hc198_308]
        rw [q_f0_m312]
        have y313 := (y305.keep K297)
        have y314 := ((fm275_4.keep K296 (ninS ne_b37_b48 nin0)).keep K297 (ninS (Ne.symm ne_b36_0_b37) (ninS ne_b37_b203_0 (ninS ne_b37_b48 nin0))))
        have y315 := ((fm275_5.keep K296 (ninS ne_b37_b48 nin0)).keep K297 (ninS (Ne.symm ne_b36_0_b37) (ninS ne_b37_b203_0 (ninS ne_b37_b48 nin0))))
        have y316 := (y306.keep K297)
        have y317 := ((fm275_7.keep K296 (ninS ne_b40_b48 nin0)).keep K297 (ninS (Ne.symm ne_b36_0_b40) (ninS ne_b40_b203_0 (ninS ne_b40_b48 nin0))))
        have y318 := ((fm275_8.keep K296 (ninS ne_b40_b48 nin0)).keep K297 (ninS (Ne.symm ne_b36_0_b40) (ninS ne_b40_b203_0 (ninS ne_b40_b48 nin0))))
        exact ⟨T297, _, T297.heap, .val (.int (0 : Int32)), X297, rfl, N297, Z297, O297, y313, y314, y315, y316, y317, y318, u297_7, u297_10, u297_11, One.val rfl, pre309⟩
      obtain ⟨cq310, kq310, q310a, q310b, q310c⟩ := isOf hZ rfl u297_7
      obtain ⟨_, _, ⟨T310, L310, k310, n310⟩, -, X310, ⟨Lc310, hQ310, l310, y310, z310⟩, st310⟩ := X297.virtualBack hx (y := (⟨"com/example/tenon/tenon/Assignments", "undo", "(I)V"⟩ : MethodName)) (z := (⟨"com/example/tenon/tenon/Assignments", "undo", "(I)V"⟩ : MethodName)) hown (mvT hZ (hw _ (List.mem_of_getElem? (i := 175) rfl))) (mvT hZ (hw _ (List.mem_of_getElem? (i := 176) rfl))) (notFace_of_selects (args := #[]) (mvT hZ (hw _ (List.mem_of_getElem? (i := 178) rfl)))) (mvT hZ (hw _ (List.mem_of_getElem? (i := 178) rfl))) (mvT hZ (hw _ (List.mem_of_getElem? (i := 177) rfl))) (by decide) (backOf (W := 0) (rm25 l Z a0' hw [] b48 b203_0 b36_0 (.ref b40) ((f0_m279 p0) + (1 : Int32)) (1 : Int32) b297_0 (9223372036854775807 : Int64) (56 : Int64) kk_u297_13 b297_1 T297.heap n0 Z297 u297_7 u297_13 u297_3 u297_14 u297_0 u297_8 u297_9 u297_10 u297_11 u297_12 u297_4 u297_5 u297_1 u297_2 u297_6 u297_15 g_b203_0 g_b297_0 g_b48 g_b36_0) hZ (hw _ (List.mem_of_getElem? (i := 179) rfl)) (hw _ (List.mem_of_getElem? (i := 17) rfl)) (by decide) (by decide)) q310a q310c (g := (mkF m 205 #[.val (.int p0), .val (.int (f0_m5 p0)), .val (.int (f0_m10 p0)), .val (.int (f0_m15 p0)), .val (.int (f0_m20 p0)), .val (.int (f0_m25 p0)), .val (.int (f0_m30 p0)), .val (.int (f0_m35 p0)), .val (.ref b36_0), .val (.ref b37), .val (.ref b40), .val (.ref b48), .val (.int (0 : Int32)), .unset, .unset] [(.int (0 : Int32)), (.ref b48)])) rfl (by rw [hml]; rfl) (Steps.refl _) (argsL := [(.int (0 : Int32))]) (rest := []) (lenOf pd15 rfl) rfl (by show 2 * 0 + _ ≤ _; exact Nat.le_of_eq rfl) (hb hby at_205) (fun _ _ => ⟨rfl, rfl, (by decide : 12 + 0 ≤ _), (by decide : 77 + 0 ≤ _)⟩)
      dsimp only [Pt.U, Pt.locs, Pt.cells, Pt.slots] at X310 l310 y310 z310 st310 hQ310
      subst l310 y310 z310
      obtain ⟨rfl, N310q, K310, u310_0, u310_1, u310_2, u310_3, u310_4, u310_5, u310_6, u310_7, u310_8, u310_9, u310_10, u310_11, u310_12, u310_13⟩ := hQ310
      have N310 := Fr.app N297 N310q
      have Z310 : n0 ≤ T310.heap.size := Nat.le_trans Z297 K310.1
      have O310 : Old Z n0 T310.heap := O297.keep K310 (allS g_b36_0 (allS g_b48 (allS g_b297_0 (allS g_b203_0 all0))))
      obtain ⟨kk_u310_9, u310_9⟩ := u310_9
      have pre311 : ∀ t, Steps p.tables e below (T310.setTop (mkF m 208 #[.val (.int p0), .val (.int (f0_m5 p0)), .val (.int (f0_m10 p0)), .val (.int (f0_m15 p0)), .val (.int (f0_m20 p0)), .val (.int (f0_m25 p0)), .val (.int (f0_m30 p0)), .val (.int (f0_m35 p0)), .val (.ref b36_0), .val (.ref b37), .val (.ref b40), .val (.ref b48), .val (.int (0 : Int32)), .unset, .unset] [])) t → Steps p.tables e below (s₁.setTop (entryFrame m #[(.int p0)] maxLocals)) t := fun t k => pre307 t (by
        show Steps p.tables e below (T297.setTop (mkF m 198 #[.val (.int p0), .val (.int (f0_m5 p0)), .val (.int (f0_m10 p0)), .val (.int (f0_m15 p0)), .val (.int (f0_m20 p0)), .val (.int (f0_m25 p0)), .val (.int (f0_m30 p0)), .val (.int (f0_m35 p0)), .val (.ref b36_0), .val (.ref b37), .val (.ref b40), .val (.ref b48), .val (.int (0 : Int32)), .unset, .unset] [(.int (f0_m15 p0))])) _
        refine XS.ifNo X297.here hx rfl (hb hby at_198) rfl ((if0 _ _).trans (feq hc198_308).1) ?_
        show Steps p.tables e below (T297.setTop (mkF m 201 #[.val (.int p0), .val (.int (f0_m5 p0)), .val (.int (f0_m10 p0)), .val (.int (f0_m15 p0)), .val (.int (f0_m20 p0)), .val (.int (f0_m25 p0)), .val (.int (f0_m30 p0)), .val (.int (f0_m35 p0)), .val (.ref b36_0), .val (.ref b37), .val (.ref b40), .val (.ref b48), .val (.int (0 : Int32)), .unset, .unset] [])) _
        refine XS.aload X297.here hx rfl (hb hby at_201) rfl rfl ?_
        show Steps p.tables e below (T297.setTop (mkF m 203 #[.val (.int p0), .val (.int (f0_m5 p0)), .val (.int (f0_m10 p0)), .val (.int (f0_m15 p0)), .val (.int (f0_m20 p0)), .val (.int (f0_m25 p0)), .val (.int (f0_m30 p0)), .val (.int (f0_m35 p0)), .val (.ref b36_0), .val (.ref b37), .val (.ref b40), .val (.ref b48), .val (.int (0 : Int32)), .unset, .unset] [(.ref b48)])) _
        refine XS.iload X297.here hx rfl (hb hby at_203) rfl ?_
        show Steps p.tables e below (T297.setTop (mkF m 205 #[.val (.int p0), .val (.int (f0_m5 p0)), .val (.int (f0_m10 p0)), .val (.int (f0_m15 p0)), .val (.int (f0_m20 p0)), .val (.int (f0_m25 p0)), .val (.int (f0_m30 p0)), .val (.int (f0_m35 p0)), .val (.ref b36_0), .val (.ref b37), .val (.ref b40), .val (.ref b48), .val (.int (0 : Int32)), .unset, .unset] [(.int (0 : Int32)), (.ref b48)])) _
        refine st310.trans ?_
        exact k)
      have q_f0_m312 : f0_m312 p0 = (((f0_m279 p0) + (1 : Int32)) - (1 : Int32)) := by unfold f0_m312; rw [if_neg hc182_294, if_neg hc198_308]
      rw [q_f0_m312]
      have y319 := ((y305.keep K297).keep K310)
      have y320 := (((fm275_4.keep K296 (ninS ne_b37_b48 nin0)).keep K297 (ninS (Ne.symm ne_b36_0_b37) (ninS ne_b37_b203_0 (ninS ne_b37_b48 nin0)))).keep K310 (ninS (Ne.symm ne_b36_0_b37) (ninS ne_b37_b48 (ninS ne_b37_b297_0 (ninS ne_b37_b203_0 nin0)))))
      have y321 := (((fm275_5.keep K296 (ninS ne_b37_b48 nin0)).keep K297 (ninS (Ne.symm ne_b36_0_b37) (ninS ne_b37_b203_0 (ninS ne_b37_b48 nin0)))).keep K310 (ninS (Ne.symm ne_b36_0_b37) (ninS ne_b37_b48 (ninS ne_b37_b297_0 (ninS ne_b37_b203_0 nin0)))))
      have y322 := ((y306.keep K297).keep K310)
      have y323 := (((fm275_7.keep K296 (ninS ne_b40_b48 nin0)).keep K297 (ninS (Ne.symm ne_b36_0_b40) (ninS ne_b40_b203_0 (ninS ne_b40_b48 nin0)))).keep K310 (ninS (Ne.symm ne_b36_0_b40) (ninS ne_b40_b48 (ninS ne_b40_b297_0 (ninS ne_b40_b203_0 nin0)))))
      have y324 := (((fm275_8.keep K296 (ninS ne_b40_b48 nin0)).keep K297 (ninS (Ne.symm ne_b36_0_b40) (ninS ne_b40_b203_0 (ninS ne_b40_b48 nin0)))).keep K310 (ninS (Ne.symm ne_b36_0_b40) (ninS ne_b40_b48 (ninS ne_b40_b297_0 (ninS ne_b40_b203_0 nin0)))))
      exact ⟨T310, _, T310.heap, .val (.int (0 : Int32)), X310, rfl, N310, Z310, O310, y319, y320, y321, y322, y323, y324, u310_3, u310_6, u310_7, One.val rfl, pre311⟩
    have pre325 : ∀ t, Steps p.tables e below (T294.setTop (mkF m 209 #[.val (.int p0), .val (.int (f0_m5 p0)), .val (.int (f0_m10 p0)), .val (.int (f0_m15 p0)), .val (.int (f0_m20 p0)), .val (.int (f0_m25 p0)), .val (.int (f0_m30 p0)), .val (.int (f0_m35 p0)), .val (.ref b36_0), .val (.ref b37), .val (.ref b40), .val (.ref b48), s294_12, .unset, .unset] [(.int (f0_m5 p0))])) t → Steps p.tables e below (s₁.setTop (entryFrame m #[(.int p0)] maxLocals)) t := fun t k => pre294 t (by
      show Steps p.tables e below (T294.setTop (mkF m 208 #[.val (.int p0), .val (.int (f0_m5 p0)), .val (.int (f0_m10 p0)), .val (.int (f0_m15 p0)), .val (.int (f0_m20 p0)), .val (.int (f0_m25 p0)), .val (.int (f0_m30 p0)), .val (.int (f0_m35 p0)), .val (.ref b36_0), .val (.ref b37), .val (.ref b40), .val (.ref b48), s294_12, .unset, .unset] [])) _
      refine XS.iloadN X294.here hx rfl (hb hby at_208) rfl ?_
      exact k)
    obtain ⟨T326, L326, X326, e326, N326, pre326⟩ : ∃ (T' : State) (locs' : List Loc), Stand p l e room_1 s m #[(.int p0)] below meth c T' locs' 12 77 ∧ T'.heap = h294 ∧ Fr n0 locs' ∧ ∀ t, Steps p.tables e below (T'.setTop (mkF m 225 #[.val (.int p0), .val (.int (f0_m5 p0)), .val (.int (f0_m10 p0)), .val (.int (f0_m15 p0)), .val (.int (f0_m20 p0)), .val (.int (f0_m25 p0)), .val (.int (f0_m30 p0)), .val (.int (f0_m35 p0)), .val (.ref b36_0), .val (.ref b37), .val (.ref b40), .val (.ref b48), s294_12, .unset, .unset] [(.int (f0_m335 p0))])) t → Steps p.tables e below (s₁.setTop (entryFrame m #[(.int p0)] maxLocals)) t := by
      by_cases hc209_326 : (f0_m5 p0) = (0 : Int32)
      · have pre327 : ∀ t, Steps p.tables e below (T294.setTop (mkF m 213 #[.val (.int p0), .val (.int (f0_m5 p0)), .val (.int (f0_m10 p0)), .val (.int (f0_m15 p0)), .val (.int (f0_m20 p0)), .val (.int (f0_m25 p0)), .val (.int (f0_m30 p0)), .val (.int (f0_m35 p0)), .val (.ref b36_0), .val (.ref b37), .val (.ref b40), .val (.ref b48), s294_12, .unset, .unset] [(.int (f0_m10 p0))])) t → Steps p.tables e below (s₁.setTop (entryFrame m #[(.int p0)] maxLocals)) t := fun t k => pre325 t (by
          show Steps p.tables e below (T294.setTop (mkF m 209 #[.val (.int p0), .val (.int (f0_m5 p0)), .val (.int (f0_m10 p0)), .val (.int (f0_m15 p0)), .val (.int (f0_m20 p0)), .val (.int (f0_m25 p0)), .val (.int (f0_m30 p0)), .val (.int (f0_m35 p0)), .val (.ref b36_0), .val (.ref b37), .val (.ref b40), .val (.ref b48), s294_12, .unset, .unset] [(.int (f0_m5 p0))])) _
          refine XS.ifNo X294.here hx rfl (hb hby at_209) rfl ((if0 _ _).trans (teq hc209_326).2) ?_
          show Steps p.tables e below (T294.setTop (mkF m 212 #[.val (.int p0), .val (.int (f0_m5 p0)), .val (.int (f0_m10 p0)), .val (.int (f0_m15 p0)), .val (.int (f0_m20 p0)), .val (.int (f0_m25 p0)), .val (.int (f0_m30 p0)), .val (.int (f0_m35 p0)), .val (.ref b36_0), .val (.ref b37), .val (.ref b40), .val (.ref b48), s294_12, .unset, .unset] [])) _
          refine XS.iloadN X294.here hx rfl (hb hby at_212) rfl ?_
          exact k)
        by_cases hc213_328 : (f0_m10 p0) = (0 : Int32)
        · have pre329 : ∀ t, Steps p.tables e below (T294.setTop (mkF m 225 #[.val (.int p0), .val (.int (f0_m5 p0)), .val (.int (f0_m10 p0)), .val (.int (f0_m15 p0)), .val (.int (f0_m20 p0)), .val (.int (f0_m25 p0)), .val (.int (f0_m30 p0)), .val (.int (f0_m35 p0)), .val (.ref b36_0), .val (.ref b37), .val (.ref b40), .val (.ref b48), s294_12, .unset, .unset] [(.int (0 : Int32))])) t → Steps p.tables e below (s₁.setTop (entryFrame m #[(.int p0)] maxLocals)) t := fun t k => pre327 t (by
            show Steps p.tables e below (T294.setTop (mkF m 213 #[.val (.int p0), .val (.int (f0_m5 p0)), .val (.int (f0_m10 p0)), .val (.int (f0_m15 p0)), .val (.int (f0_m20 p0)), .val (.int (f0_m25 p0)), .val (.int (f0_m30 p0)), .val (.int (f0_m35 p0)), .val (.ref b36_0), .val (.ref b37), .val (.ref b40), .val (.ref b48), s294_12, .unset, .unset] [(.int (f0_m10 p0))])) _
            refine XS.ifYes X294.here hx rfl (pc0 := 213) (pc' := 224) rfl (hb hby at_213) rfl ((if0 _ _).trans (teq hc213_328).1) (by decide) (by decide) ?_
            show Steps p.tables e below (T294.setTop (mkF m 224 #[.val (.int p0), .val (.int (f0_m5 p0)), .val (.int (f0_m10 p0)), .val (.int (f0_m15 p0)), .val (.int (f0_m20 p0)), .val (.int (f0_m25 p0)), .val (.int (f0_m30 p0)), .val (.int (f0_m35 p0)), .val (.ref b36_0), .val (.ref b37), .val (.ref b40), .val (.ref b48), s294_12, .unset, .unset] [])) _
            refine XS.iconst X294.here hx rfl (hb hby at_224) ?_
            exact k)
          have q_f0_m335 : f0_m335 p0 = (0 : Int32) := by unfold f0_m335; rw [if_pos hc209_326, if_pos hc213_328]
          rw [q_f0_m335]
          exact ⟨T294, _, X294, e294, N294, pre329⟩
        have pre330 : ∀ t, Steps p.tables e below (T294.setTop (mkF m 217 #[.val (.int p0), .val (.int (f0_m5 p0)), .val (.int (f0_m10 p0)), .val (.int (f0_m15 p0)), .val (.int (f0_m20 p0)), .val (.int (f0_m25 p0)), .val (.int (f0_m30 p0)), .val (.int (f0_m35 p0)), .val (.ref b36_0), .val (.ref b37), .val (.ref b40), .val (.ref b48), s294_12, .unset, .unset] [(.int (f0_m15 p0))])) t → Steps p.tables e below (s₁.setTop (entryFrame m #[(.int p0)] maxLocals)) t := fun t k => pre327 t (by
          show Steps p.tables e below (T294.setTop (mkF m 213 #[.val (.int p0), .val (.int (f0_m5 p0)), .val (.int (f0_m10 p0)), .val (.int (f0_m15 p0)), .val (.int (f0_m20 p0)), .val (.int (f0_m25 p0)), .val (.int (f0_m30 p0)), .val (.int (f0_m35 p0)), .val (.ref b36_0), .val (.ref b37), .val (.ref b40), .val (.ref b48), s294_12, .unset, .unset] [(.int (f0_m10 p0))])) _
          refine XS.ifNo X294.here hx rfl (hb hby at_213) rfl ((if0 _ _).trans (feq hc213_328).1) ?_
          show Steps p.tables e below (T294.setTop (mkF m 216 #[.val (.int p0), .val (.int (f0_m5 p0)), .val (.int (f0_m10 p0)), .val (.int (f0_m15 p0)), .val (.int (f0_m20 p0)), .val (.int (f0_m25 p0)), .val (.int (f0_m30 p0)), .val (.int (f0_m35 p0)), .val (.ref b36_0), .val (.ref b37), .val (.ref b40), .val (.ref b48), s294_12, .unset, .unset] [])) _
          refine XS.iloadN X294.here hx rfl (hb hby at_216) rfl ?_
          exact k)
        by_cases hc217_331 : (f0_m15 p0) = (0 : Int32)
        · have pre332 : ∀ t, Steps p.tables e below (T294.setTop (mkF m 225 #[.val (.int p0), .val (.int (f0_m5 p0)), .val (.int (f0_m10 p0)), .val (.int (f0_m15 p0)), .val (.int (f0_m20 p0)), .val (.int (f0_m25 p0)), .val (.int (f0_m30 p0)), .val (.int (f0_m35 p0)), .val (.ref b36_0), .val (.ref b37), .val (.ref b40), .val (.ref b48), s294_12, .unset, .unset] [(.int (1 : Int32))])) t → Steps p.tables e below (s₁.setTop (entryFrame m #[(.int p0)] maxLocals)) t := fun t k => pre330 t (by
            show Steps p.tables e below (T294.setTop (mkF m 217 #[.val (.int p0), .val (.int (f0_m5 p0)), .val (.int (f0_m10 p0)), .val (.int (f0_m15 p0)), .val (.int (f0_m20 p0)), .val (.int (f0_m25 p0)), .val (.int (f0_m30 p0)), .val (.int (f0_m35 p0)), .val (.ref b36_0), .val (.ref b37), .val (.ref b40), .val (.ref b48), s294_12, .unset, .unset] [(.int (f0_m15 p0))])) _
            refine XS.ifNo X294.here hx rfl (hb hby at_217) rfl ((if0 _ _).trans (teq hc217_331).2) ?_
            show Steps p.tables e below (T294.setTop (mkF m 220 #[.val (.int p0), .val (.int (f0_m5 p0)), .val (.int (f0_m10 p0)), .val (.int (f0_m15 p0)), .val (.int (f0_m20 p0)), .val (.int (f0_m25 p0)), .val (.int (f0_m30 p0)), .val (.int (f0_m35 p0)), .val (.ref b36_0), .val (.ref b37), .val (.ref b40), .val (.ref b48), s294_12, .unset, .unset] [])) _
            refine XS.iconst X294.here hx rfl (hb hby at_220) ?_
            show Steps p.tables e below (T294.setTop (mkF m 221 #[.val (.int p0), .val (.int (f0_m5 p0)), .val (.int (f0_m10 p0)), .val (.int (f0_m15 p0)), .val (.int (f0_m20 p0)), .val (.int (f0_m25 p0)), .val (.int (f0_m30 p0)), .val (.int (f0_m35 p0)), .val (.ref b36_0), .val (.ref b37), .val (.ref b40), .val (.ref b48), s294_12, .unset, .unset] [(.int (1 : Int32))])) _
            refine XS.goto X294.here hx rfl (pc0 := 221) (pc' := 225) rfl (hb hby at_221) (by decide) (by decide) ?_
            exact k)
          have q_f0_m335 : f0_m335 p0 = (1 : Int32) := by unfold f0_m335; rw [if_pos hc209_326, if_neg hc213_328, if_pos hc217_331]
          rw [q_f0_m335]
          exact ⟨T294, _, X294, e294, N294, pre332⟩
        have pre333 : ∀ t, Steps p.tables e below (T294.setTop (mkF m 225 #[.val (.int p0), .val (.int (f0_m5 p0)), .val (.int (f0_m10 p0)), .val (.int (f0_m15 p0)), .val (.int (f0_m20 p0)), .val (.int (f0_m25 p0)), .val (.int (f0_m30 p0)), .val (.int (f0_m35 p0)), .val (.ref b36_0), .val (.ref b37), .val (.ref b40), .val (.ref b48), s294_12, .unset, .unset] [(.int (0 : Int32))])) t → Steps p.tables e below (s₁.setTop (entryFrame m #[(.int p0)] maxLocals)) t := fun t k => pre330 t (by
          show Steps p.tables e below (T294.setTop (mkF m 217 #[.val (.int p0), .val (.int (f0_m5 p0)), .val (.int (f0_m10 p0)), .val (.int (f0_m15 p0)), .val (.int (f0_m20 p0)), .val (.int (f0_m25 p0)), .val (.int (f0_m30 p0)), .val (.int (f0_m35 p0)), .val (.ref b36_0), .val (.ref b37), .val (.ref b40), .val (.ref b48), s294_12, .unset, .unset] [(.int (f0_m15 p0))])) _
          refine XS.ifYes X294.here hx rfl (pc0 := 217) (pc' := 224) rfl (hb hby at_217) rfl ((if0 _ _).trans (feq hc217_331).2) (by decide) (by decide) ?_
          show Steps p.tables e below (T294.setTop (mkF m 224 #[.val (.int p0), .val (.int (f0_m5 p0)), .val (.int (f0_m10 p0)), .val (.int (f0_m15 p0)), .val (.int (f0_m20 p0)), .val (.int (f0_m25 p0)), .val (.int (f0_m30 p0)), .val (.int (f0_m35 p0)), .val (.ref b36_0), .val (.ref b37), .val (.ref b40), .val (.ref b48), s294_12, .unset, .unset] [])) _
          refine XS.iconst X294.here hx rfl (hb hby at_224) ?_
          exact k)
        have q_f0_m335 : f0_m335 p0 = (0 : Int32) := by unfold f0_m335; rw [if_pos hc209_326, if_neg hc213_328, if_neg hc217_331]
        rw [q_f0_m335]
        exact ⟨T294, _, X294, e294, N294, pre333⟩
      have pre334 : ∀ t, Steps p.tables e below (T294.setTop (mkF m 225 #[.val (.int p0), .val (.int (f0_m5 p0)), .val (.int (f0_m10 p0)), .val (.int (f0_m15 p0)), .val (.int (f0_m20 p0)), .val (.int (f0_m25 p0)), .val (.int (f0_m30 p0)), .val (.int (f0_m35 p0)), .val (.ref b36_0), .val (.ref b37), .val (.ref b40), .val (.ref b48), s294_12, .unset, .unset] [(.int (1 : Int32))])) t → Steps p.tables e below (s₁.setTop (entryFrame m #[(.int p0)] maxLocals)) t := fun t k => pre325 t (by
        show Steps p.tables e below (T294.setTop (mkF m 209 #[.val (.int p0), .val (.int (f0_m5 p0)), .val (.int (f0_m10 p0)), .val (.int (f0_m15 p0)), .val (.int (f0_m20 p0)), .val (.int (f0_m25 p0)), .val (.int (f0_m30 p0)), .val (.int (f0_m35 p0)), .val (.ref b36_0), .val (.ref b37), .val (.ref b40), .val (.ref b48), s294_12, .unset, .unset] [(.int (f0_m5 p0))])) _
        refine XS.ifYes X294.here hx rfl (pc0 := 209) (pc' := 220) rfl (hb hby at_209) rfl ((if0 _ _).trans (feq hc209_326).2) (by decide) (by decide) ?_
        show Steps p.tables e below (T294.setTop (mkF m 220 #[.val (.int p0), .val (.int (f0_m5 p0)), .val (.int (f0_m10 p0)), .val (.int (f0_m15 p0)), .val (.int (f0_m20 p0)), .val (.int (f0_m25 p0)), .val (.int (f0_m30 p0)), .val (.int (f0_m35 p0)), .val (.ref b36_0), .val (.ref b37), .val (.ref b40), .val (.ref b48), s294_12, .unset, .unset] [])) _
        refine XS.iconst X294.here hx rfl (hb hby at_220) ?_
        show Steps p.tables e below (T294.setTop (mkF m 221 #[.val (.int p0), .val (.int (f0_m5 p0)), .val (.int (f0_m10 p0)), .val (.int (f0_m15 p0)), .val (.int (f0_m20 p0)), .val (.int (f0_m25 p0)), .val (.int (f0_m30 p0)), .val (.int (f0_m35 p0)), .val (.ref b36_0), .val (.ref b37), .val (.ref b40), .val (.ref b48), s294_12, .unset, .unset] [(.int (1 : Int32))])) _
        refine XS.goto X294.here hx rfl (pc0 := 221) (pc' := 225) rfl (hb hby at_221) (by decide) (by decide) ?_
        exact k)
      have q_f0_m335 : f0_m335 p0 = (1 : Int32) := by unfold f0_m335; rw [if_neg hc209_326]
      rw [q_f0_m335]
      exact ⟨T294, _, X294, e294, N294, pre334⟩
    have os336 : storeLocals #[.val (.int p0), .val (.int (f0_m5 p0)), .val (.int (f0_m10 p0)), .val (.int (f0_m15 p0)), .val (.int (f0_m20 p0)), .val (.int (f0_m25 p0)), .val (.int (f0_m30 p0)), .val (.int (f0_m35 p0)), .val (.ref b36_0), .val (.ref b37), .val (.ref b40), .val (.ref b48), s294_12, .unset, .unset] 12 (.int (f0_m335 p0)) = some #[.val (.int p0), .val (.int (f0_m5 p0)), .val (.int (f0_m10 p0)), .val (.int (f0_m15 p0)), .val (.int (f0_m20 p0)), .val (.int (f0_m25 p0)), .val (.int (f0_m30 p0)), .val (.int (f0_m35 p0)), .val (.ref b36_0), .val (.ref b37), .val (.ref b40), .val (.ref b48), .val (.int (f0_m335 p0)), .unset, .unset] := by rcases hs294_12 with q | ⟨w, q, hw⟩ <;> rw [q] <;> first | rfl | (cases w <;> first | rfl | (simp [Value.category] at hw)) 
    have pre337 : ∀ t, Steps p.tables e below (T326.setTop (mkF m 229 #[.val (.int p0), .val (.int (f0_m5 p0)), .val (.int (f0_m10 p0)), .val (.int (f0_m15 p0)), .val (.int (f0_m20 p0)), .val (.int (f0_m25 p0)), .val (.int (f0_m30 p0)), .val (.int (f0_m35 p0)), .val (.ref b36_0), .val (.ref b37), .val (.ref b40), .val (.ref b48), .val (.int (f0_m335 p0)), .unset, .unset] [(.int (f0_m35 p0))])) t → Steps p.tables e below (s₁.setTop (entryFrame m #[(.int p0)] maxLocals)) t := fun t k => pre326 t (by
      show Steps p.tables e below (T326.setTop (mkF m 225 #[.val (.int p0), .val (.int (f0_m5 p0)), .val (.int (f0_m10 p0)), .val (.int (f0_m15 p0)), .val (.int (f0_m20 p0)), .val (.int (f0_m25 p0)), .val (.int (f0_m30 p0)), .val (.int (f0_m35 p0)), .val (.ref b36_0), .val (.ref b37), .val (.ref b40), .val (.ref b48), s294_12, .unset, .unset] [(.int (f0_m335 p0))])) _
      refine XS.istore X326.here hx rfl (hb hby at_225) rfl (l' := #[.val (.int p0), .val (.int (f0_m5 p0)), .val (.int (f0_m10 p0)), .val (.int (f0_m15 p0)), .val (.int (f0_m20 p0)), .val (.int (f0_m25 p0)), .val (.int (f0_m30 p0)), .val (.int (f0_m35 p0)), .val (.ref b36_0), .val (.ref b37), .val (.ref b40), .val (.ref b48), .val (.int (f0_m335 p0)), .unset, .unset]) os336 ?_
      show Steps p.tables e below (T326.setTop (mkF m 227 #[.val (.int p0), .val (.int (f0_m5 p0)), .val (.int (f0_m10 p0)), .val (.int (f0_m15 p0)), .val (.int (f0_m20 p0)), .val (.int (f0_m25 p0)), .val (.int (f0_m30 p0)), .val (.int (f0_m35 p0)), .val (.ref b36_0), .val (.ref b37), .val (.ref b40), .val (.ref b48), .val (.int (f0_m335 p0)), .unset, .unset] [])) _
      refine XS.iload X326.here hx rfl (hb hby at_227) rfl ?_
      exact k)
    obtain ⟨T338, L338, X338, e338, N338, pre338⟩ : ∃ (T' : State) (locs' : List Loc), Stand p l e room_1 s m #[(.int p0)] below meth c T' locs' 12 77 ∧ T'.heap = h294 ∧ Fr n0 locs' ∧ ∀ t, Steps p.tables e below (T'.setTop (mkF m 247 #[.val (.int p0), .val (.int (f0_m5 p0)), .val (.int (f0_m10 p0)), .val (.int (f0_m15 p0)), .val (.int (f0_m20 p0)), .val (.int (f0_m25 p0)), .val (.int (f0_m30 p0)), .val (.int (f0_m35 p0)), .val (.ref b36_0), .val (.ref b37), .val (.ref b40), .val (.ref b48), .val (.int (f0_m335 p0)), .unset, .unset] [(.int (f0_m341 p0))])) t → Steps p.tables e below (s₁.setTop (entryFrame m #[(.int p0)] maxLocals)) t := by
      by_cases hc229_338 : (f0_m35 p0) = (0 : Int32)
      · have pre339 : ∀ t, Steps p.tables e below (T326.setTop (mkF m 247 #[.val (.int p0), .val (.int (f0_m5 p0)), .val (.int (f0_m10 p0)), .val (.int (f0_m15 p0)), .val (.int (f0_m20 p0)), .val (.int (f0_m25 p0)), .val (.int (f0_m30 p0)), .val (.int (f0_m35 p0)), .val (.ref b36_0), .val (.ref b37), .val (.ref b40), .val (.ref b48), .val (.int (f0_m335 p0)), .unset, .unset] [(.int (0 : Int32))])) t → Steps p.tables e below (s₁.setTop (entryFrame m #[(.int p0)] maxLocals)) t := fun t k => pre337 t (by
          show Steps p.tables e below (T326.setTop (mkF m 229 #[.val (.int p0), .val (.int (f0_m5 p0)), .val (.int (f0_m10 p0)), .val (.int (f0_m15 p0)), .val (.int (f0_m20 p0)), .val (.int (f0_m25 p0)), .val (.int (f0_m30 p0)), .val (.int (f0_m35 p0)), .val (.ref b36_0), .val (.ref b37), .val (.ref b40), .val (.ref b48), .val (.int (f0_m335 p0)), .unset, .unset] [(.int (f0_m35 p0))])) _
          refine XS.ifNo X326.here hx rfl (hb hby at_229) rfl ((if0 _ _).trans (teq hc229_338).2) ?_
          show Steps p.tables e below (T326.setTop (mkF m 232 #[.val (.int p0), .val (.int (f0_m5 p0)), .val (.int (f0_m10 p0)), .val (.int (f0_m15 p0)), .val (.int (f0_m20 p0)), .val (.int (f0_m25 p0)), .val (.int (f0_m30 p0)), .val (.int (f0_m35 p0)), .val (.ref b36_0), .val (.ref b37), .val (.ref b40), .val (.ref b48), .val (.int (f0_m335 p0)), .unset, .unset] [])) _
          refine XS.iload X326.here hx rfl (hb hby at_232) rfl ?_
          show Steps p.tables e below (T326.setTop (mkF m 234 #[.val (.int p0), .val (.int (f0_m5 p0)), .val (.int (f0_m10 p0)), .val (.int (f0_m15 p0)), .val (.int (f0_m20 p0)), .val (.int (f0_m25 p0)), .val (.int (f0_m30 p0)), .val (.int (f0_m35 p0)), .val (.ref b36_0), .val (.ref b37), .val (.ref b40), .val (.ref b48), .val (.int (f0_m335 p0)), .unset, .unset] [(.int (f0_m20 p0))])) _
          refine XS.ifYes X326.here hx rfl (pc0 := 234) (pc' := 246) rfl (hb hby at_234) rfl ((if0 _ _).trans (teq hc116_43).1) (by decide) (by decide) ?_
          show Steps p.tables e below (T326.setTop (mkF m 246 #[.val (.int p0), .val (.int (f0_m5 p0)), .val (.int (f0_m10 p0)), .val (.int (f0_m15 p0)), .val (.int (f0_m20 p0)), .val (.int (f0_m25 p0)), .val (.int (f0_m30 p0)), .val (.int (f0_m35 p0)), .val (.ref b36_0), .val (.ref b37), .val (.ref b40), .val (.ref b48), .val (.int (f0_m335 p0)), .unset, .unset] [])) _
          refine XS.iconst X326.here hx rfl (hb hby at_246) ?_
          exact k)
        have q_f0_m341 : f0_m341 p0 = (0 : Int32) := by unfold f0_m341; rw [if_pos hc229_338]
        rw [q_f0_m341]
        exact ⟨T326, _, X326, e326, N326, pre339⟩
      have pre340 : ∀ t, Steps p.tables e below (T326.setTop (mkF m 247 #[.val (.int p0), .val (.int (f0_m5 p0)), .val (.int (f0_m10 p0)), .val (.int (f0_m15 p0)), .val (.int (f0_m20 p0)), .val (.int (f0_m25 p0)), .val (.int (f0_m30 p0)), .val (.int (f0_m35 p0)), .val (.ref b36_0), .val (.ref b37), .val (.ref b40), .val (.ref b48), .val (.int (f0_m335 p0)), .unset, .unset] [(.int (1 : Int32))])) t → Steps p.tables e below (s₁.setTop (entryFrame m #[(.int p0)] maxLocals)) t := fun t k => pre337 t (by
        show Steps p.tables e below (T326.setTop (mkF m 229 #[.val (.int p0), .val (.int (f0_m5 p0)), .val (.int (f0_m10 p0)), .val (.int (f0_m15 p0)), .val (.int (f0_m20 p0)), .val (.int (f0_m25 p0)), .val (.int (f0_m30 p0)), .val (.int (f0_m35 p0)), .val (.ref b36_0), .val (.ref b37), .val (.ref b40), .val (.ref b48), .val (.int (f0_m335 p0)), .unset, .unset] [(.int (f0_m35 p0))])) _
        refine XS.ifYes X326.here hx rfl (pc0 := 229) (pc' := 242) rfl (hb hby at_229) rfl ((if0 _ _).trans (feq hc229_338).2) (by decide) (by decide) ?_
        show Steps p.tables e below (T326.setTop (mkF m 242 #[.val (.int p0), .val (.int (f0_m5 p0)), .val (.int (f0_m10 p0)), .val (.int (f0_m15 p0)), .val (.int (f0_m20 p0)), .val (.int (f0_m25 p0)), .val (.int (f0_m30 p0)), .val (.int (f0_m35 p0)), .val (.ref b36_0), .val (.ref b37), .val (.ref b40), .val (.ref b48), .val (.int (f0_m335 p0)), .unset, .unset] [])) _
        refine XS.iconst X326.here hx rfl (hb hby at_242) ?_
        show Steps p.tables e below (T326.setTop (mkF m 243 #[.val (.int p0), .val (.int (f0_m5 p0)), .val (.int (f0_m10 p0)), .val (.int (f0_m15 p0)), .val (.int (f0_m20 p0)), .val (.int (f0_m25 p0)), .val (.int (f0_m30 p0)), .val (.int (f0_m35 p0)), .val (.ref b36_0), .val (.ref b37), .val (.ref b40), .val (.ref b48), .val (.int (f0_m335 p0)), .unset, .unset] [(.int (1 : Int32))])) _
        refine XS.goto X326.here hx rfl (pc0 := 243) (pc' := 247) rfl (hb hby at_243) (by decide) (by decide) ?_
        exact k)
      have q_f0_m341 : f0_m341 p0 = (1 : Int32) := by unfold f0_m341; rw [if_neg hc229_338]
      rw [q_f0_m341]
      exact ⟨T326, _, X326, e326, N326, pre340⟩
    have pre342 : ∀ t, Steps p.tables e below (T338.setTop (mkF m 251 #[.val (.int p0), .val (.int (f0_m5 p0)), .val (.int (f0_m10 p0)), .val (.int (f0_m15 p0)), .val (.int (f0_m20 p0)), .val (.int (f0_m25 p0)), .val (.int (f0_m30 p0)), .val (.int (f0_m35 p0)), .val (.ref b36_0), .val (.ref b37), .val (.ref b40), .val (.ref b48), .val (.int (f0_m335 p0)), .val (.int (f0_m341 p0)), .unset] [(.int (f0_m335 p0))])) t → Steps p.tables e below (s₁.setTop (entryFrame m #[(.int p0)] maxLocals)) t := fun t k => pre338 t (by
      show Steps p.tables e below (T338.setTop (mkF m 247 #[.val (.int p0), .val (.int (f0_m5 p0)), .val (.int (f0_m10 p0)), .val (.int (f0_m15 p0)), .val (.int (f0_m20 p0)), .val (.int (f0_m25 p0)), .val (.int (f0_m30 p0)), .val (.int (f0_m35 p0)), .val (.ref b36_0), .val (.ref b37), .val (.ref b40), .val (.ref b48), .val (.int (f0_m335 p0)), .unset, .unset] [(.int (f0_m341 p0))])) _
      refine XS.istore X338.here hx rfl (hb hby at_247) rfl (l' := #[.val (.int p0), .val (.int (f0_m5 p0)), .val (.int (f0_m10 p0)), .val (.int (f0_m15 p0)), .val (.int (f0_m20 p0)), .val (.int (f0_m25 p0)), .val (.int (f0_m30 p0)), .val (.int (f0_m35 p0)), .val (.ref b36_0), .val (.ref b37), .val (.ref b40), .val (.ref b48), .val (.int (f0_m335 p0)), .val (.int (f0_m341 p0)), .unset]) rfl ?_
      show Steps p.tables e below (T338.setTop (mkF m 249 #[.val (.int p0), .val (.int (f0_m5 p0)), .val (.int (f0_m10 p0)), .val (.int (f0_m15 p0)), .val (.int (f0_m20 p0)), .val (.int (f0_m25 p0)), .val (.int (f0_m30 p0)), .val (.int (f0_m35 p0)), .val (.ref b36_0), .val (.ref b37), .val (.ref b40), .val (.ref b48), .val (.int (f0_m335 p0)), .val (.int (f0_m341 p0)), .unset] [])) _
      refine XS.iload X338.here hx rfl (hb hby at_249) rfl ?_
      exact k)
    obtain ⟨T343, L343, X343, e343, N343, pre343⟩ : ∃ (T' : State) (locs' : List Loc), Stand p l e room_1 s m #[(.int p0)] below meth c T' locs' 12 77 ∧ T'.heap = h294 ∧ Fr n0 locs' ∧ ∀ t, Steps p.tables e below (T'.setTop (mkF m 269 #[.val (.int p0), .val (.int (f0_m5 p0)), .val (.int (f0_m10 p0)), .val (.int (f0_m15 p0)), .val (.int (f0_m20 p0)), .val (.int (f0_m25 p0)), .val (.int (f0_m30 p0)), .val (.int (f0_m35 p0)), .val (.ref b36_0), .val (.ref b37), .val (.ref b40), .val (.ref b48), .val (.int (f0_m335 p0)), .val (.int (f0_m341 p0)), .unset] [(.int (f0_m349 p0))])) t → Steps p.tables e below (s₁.setTop (entryFrame m #[(.int p0)] maxLocals)) t := by
      by_cases hc251_343 : (f0_m335 p0) = (0 : Int32)
      · have pre344 : ∀ t, Steps p.tables e below (T338.setTop (mkF m 261 #[.val (.int p0), .val (.int (f0_m5 p0)), .val (.int (f0_m10 p0)), .val (.int (f0_m15 p0)), .val (.int (f0_m20 p0)), .val (.int (f0_m25 p0)), .val (.int (f0_m30 p0)), .val (.int (f0_m35 p0)), .val (.ref b36_0), .val (.ref b37), .val (.ref b40), .val (.ref b48), .val (.int (f0_m335 p0)), .val (.int (f0_m341 p0)), .unset] [(.int (f0_m341 p0))])) t → Steps p.tables e below (s₁.setTop (entryFrame m #[(.int p0)] maxLocals)) t := fun t k => pre342 t (by
          show Steps p.tables e below (T338.setTop (mkF m 251 #[.val (.int p0), .val (.int (f0_m5 p0)), .val (.int (f0_m10 p0)), .val (.int (f0_m15 p0)), .val (.int (f0_m20 p0)), .val (.int (f0_m25 p0)), .val (.int (f0_m30 p0)), .val (.int (f0_m35 p0)), .val (.ref b36_0), .val (.ref b37), .val (.ref b40), .val (.ref b48), .val (.int (f0_m335 p0)), .val (.int (f0_m341 p0)), .unset] [(.int (f0_m335 p0))])) _
          refine XS.ifNo X338.here hx rfl (hb hby at_251) rfl ((if0 _ _).trans (teq hc251_343).2) ?_
          show Steps p.tables e below (T338.setTop (mkF m 254 #[.val (.int p0), .val (.int (f0_m5 p0)), .val (.int (f0_m10 p0)), .val (.int (f0_m15 p0)), .val (.int (f0_m20 p0)), .val (.int (f0_m25 p0)), .val (.int (f0_m30 p0)), .val (.int (f0_m35 p0)), .val (.ref b36_0), .val (.ref b37), .val (.ref b40), .val (.ref b48), .val (.int (f0_m335 p0)), .val (.int (f0_m341 p0)), .unset] [])) _
          refine XS.iload X338.here hx rfl (hb hby at_254) rfl ?_
          show Steps p.tables e below (T338.setTop (mkF m 256 #[.val (.int p0), .val (.int (f0_m5 p0)), .val (.int (f0_m10 p0)), .val (.int (f0_m15 p0)), .val (.int (f0_m20 p0)), .val (.int (f0_m25 p0)), .val (.int (f0_m30 p0)), .val (.int (f0_m35 p0)), .val (.ref b36_0), .val (.ref b37), .val (.ref b40), .val (.ref b48), .val (.int (f0_m335 p0)), .val (.int (f0_m341 p0)), .unset] [(.int (f0_m25 p0))])) _
          refine XS.ifNo X338.here hx rfl (hb hby at_256) rfl ((if0 _ _).trans (feq hc138_53).1) ?_
          show Steps p.tables e below (T338.setTop (mkF m 259 #[.val (.int p0), .val (.int (f0_m5 p0)), .val (.int (f0_m10 p0)), .val (.int (f0_m15 p0)), .val (.int (f0_m20 p0)), .val (.int (f0_m25 p0)), .val (.int (f0_m30 p0)), .val (.int (f0_m35 p0)), .val (.ref b36_0), .val (.ref b37), .val (.ref b40), .val (.ref b48), .val (.int (f0_m335 p0)), .val (.int (f0_m341 p0)), .unset] [])) _
          refine XS.iload X338.here hx rfl (hb hby at_259) rfl ?_
          exact k)
        by_cases hc261_345 : (f0_m341 p0) = (0 : Int32)
        · have pre346 : ∀ t, Steps p.tables e below (T338.setTop (mkF m 269 #[.val (.int p0), .val (.int (f0_m5 p0)), .val (.int (f0_m10 p0)), .val (.int (f0_m15 p0)), .val (.int (f0_m20 p0)), .val (.int (f0_m25 p0)), .val (.int (f0_m30 p0)), .val (.int (f0_m35 p0)), .val (.ref b36_0), .val (.ref b37), .val (.ref b40), .val (.ref b48), .val (.int (f0_m335 p0)), .val (.int (f0_m341 p0)), .unset] [(.int (0 : Int32))])) t → Steps p.tables e below (s₁.setTop (entryFrame m #[(.int p0)] maxLocals)) t := fun t k => pre344 t (by
            show Steps p.tables e below (T338.setTop (mkF m 261 #[.val (.int p0), .val (.int (f0_m5 p0)), .val (.int (f0_m10 p0)), .val (.int (f0_m15 p0)), .val (.int (f0_m20 p0)), .val (.int (f0_m25 p0)), .val (.int (f0_m30 p0)), .val (.int (f0_m35 p0)), .val (.ref b36_0), .val (.ref b37), .val (.ref b40), .val (.ref b48), .val (.int (f0_m335 p0)), .val (.int (f0_m341 p0)), .unset] [(.int (f0_m341 p0))])) _
            refine XS.ifYes X338.here hx rfl (pc0 := 261) (pc' := 268) rfl (hb hby at_261) rfl ((if0 _ _).trans (teq hc261_345).1) (by decide) (by decide) ?_
            show Steps p.tables e below (T338.setTop (mkF m 268 #[.val (.int p0), .val (.int (f0_m5 p0)), .val (.int (f0_m10 p0)), .val (.int (f0_m15 p0)), .val (.int (f0_m20 p0)), .val (.int (f0_m25 p0)), .val (.int (f0_m30 p0)), .val (.int (f0_m35 p0)), .val (.ref b36_0), .val (.ref b37), .val (.ref b40), .val (.ref b48), .val (.int (f0_m335 p0)), .val (.int (f0_m341 p0)), .unset] [])) _
            refine XS.iconst X338.here hx rfl (hb hby at_268) ?_
            exact k)
          have q_f0_m349 : f0_m349 p0 = (0 : Int32) := by unfold f0_m349; rw [if_pos hc251_343, if_pos hc261_345]
          rw [q_f0_m349]
          exact ⟨T338, _, X338, e338, N338, pre346⟩
        have pre347 : ∀ t, Steps p.tables e below (T338.setTop (mkF m 269 #[.val (.int p0), .val (.int (f0_m5 p0)), .val (.int (f0_m10 p0)), .val (.int (f0_m15 p0)), .val (.int (f0_m20 p0)), .val (.int (f0_m25 p0)), .val (.int (f0_m30 p0)), .val (.int (f0_m35 p0)), .val (.ref b36_0), .val (.ref b37), .val (.ref b40), .val (.ref b48), .val (.int (f0_m335 p0)), .val (.int (f0_m341 p0)), .unset] [(.int (1 : Int32))])) t → Steps p.tables e below (s₁.setTop (entryFrame m #[(.int p0)] maxLocals)) t := fun t k => pre344 t (by
          show Steps p.tables e below (T338.setTop (mkF m 261 #[.val (.int p0), .val (.int (f0_m5 p0)), .val (.int (f0_m10 p0)), .val (.int (f0_m15 p0)), .val (.int (f0_m20 p0)), .val (.int (f0_m25 p0)), .val (.int (f0_m30 p0)), .val (.int (f0_m35 p0)), .val (.ref b36_0), .val (.ref b37), .val (.ref b40), .val (.ref b48), .val (.int (f0_m335 p0)), .val (.int (f0_m341 p0)), .unset] [(.int (f0_m341 p0))])) _
          refine XS.ifNo X338.here hx rfl (hb hby at_261) rfl ((if0 _ _).trans (feq hc261_345).1) ?_
          show Steps p.tables e below (T338.setTop (mkF m 264 #[.val (.int p0), .val (.int (f0_m5 p0)), .val (.int (f0_m10 p0)), .val (.int (f0_m15 p0)), .val (.int (f0_m20 p0)), .val (.int (f0_m25 p0)), .val (.int (f0_m30 p0)), .val (.int (f0_m35 p0)), .val (.ref b36_0), .val (.ref b37), .val (.ref b40), .val (.ref b48), .val (.int (f0_m335 p0)), .val (.int (f0_m341 p0)), .unset] [])) _
          refine XS.iconst X338.here hx rfl (hb hby at_264) ?_
          show Steps p.tables e below (T338.setTop (mkF m 265 #[.val (.int p0), .val (.int (f0_m5 p0)), .val (.int (f0_m10 p0)), .val (.int (f0_m15 p0)), .val (.int (f0_m20 p0)), .val (.int (f0_m25 p0)), .val (.int (f0_m30 p0)), .val (.int (f0_m35 p0)), .val (.ref b36_0), .val (.ref b37), .val (.ref b40), .val (.ref b48), .val (.int (f0_m335 p0)), .val (.int (f0_m341 p0)), .unset] [(.int (1 : Int32))])) _
          refine XS.goto X338.here hx rfl (pc0 := 265) (pc' := 269) rfl (hb hby at_265) (by decide) (by decide) ?_
          exact k)
        have q_f0_m349 : f0_m349 p0 = (1 : Int32) := by unfold f0_m349; rw [if_pos hc251_343, if_neg hc261_345]
        rw [q_f0_m349]
        exact ⟨T338, _, X338, e338, N338, pre347⟩
      have pre348 : ∀ t, Steps p.tables e below (T338.setTop (mkF m 269 #[.val (.int p0), .val (.int (f0_m5 p0)), .val (.int (f0_m10 p0)), .val (.int (f0_m15 p0)), .val (.int (f0_m20 p0)), .val (.int (f0_m25 p0)), .val (.int (f0_m30 p0)), .val (.int (f0_m35 p0)), .val (.ref b36_0), .val (.ref b37), .val (.ref b40), .val (.ref b48), .val (.int (f0_m335 p0)), .val (.int (f0_m341 p0)), .unset] [(.int (1 : Int32))])) t → Steps p.tables e below (s₁.setTop (entryFrame m #[(.int p0)] maxLocals)) t := fun t k => pre342 t (by
        show Steps p.tables e below (T338.setTop (mkF m 251 #[.val (.int p0), .val (.int (f0_m5 p0)), .val (.int (f0_m10 p0)), .val (.int (f0_m15 p0)), .val (.int (f0_m20 p0)), .val (.int (f0_m25 p0)), .val (.int (f0_m30 p0)), .val (.int (f0_m35 p0)), .val (.ref b36_0), .val (.ref b37), .val (.ref b40), .val (.ref b48), .val (.int (f0_m335 p0)), .val (.int (f0_m341 p0)), .unset] [(.int (f0_m335 p0))])) _
        refine XS.ifYes X338.here hx rfl (pc0 := 251) (pc' := 264) rfl (hb hby at_251) rfl ((if0 _ _).trans (feq hc251_343).2) (by decide) (by decide) ?_
        show Steps p.tables e below (T338.setTop (mkF m 264 #[.val (.int p0), .val (.int (f0_m5 p0)), .val (.int (f0_m10 p0)), .val (.int (f0_m15 p0)), .val (.int (f0_m20 p0)), .val (.int (f0_m25 p0)), .val (.int (f0_m30 p0)), .val (.int (f0_m35 p0)), .val (.ref b36_0), .val (.ref b37), .val (.ref b40), .val (.ref b48), .val (.int (f0_m335 p0)), .val (.int (f0_m341 p0)), .unset] [])) _
        refine XS.iconst X338.here hx rfl (hb hby at_264) ?_
        show Steps p.tables e below (T338.setTop (mkF m 265 #[.val (.int p0), .val (.int (f0_m5 p0)), .val (.int (f0_m10 p0)), .val (.int (f0_m15 p0)), .val (.int (f0_m20 p0)), .val (.int (f0_m25 p0)), .val (.int (f0_m30 p0)), .val (.int (f0_m35 p0)), .val (.ref b36_0), .val (.ref b37), .val (.ref b40), .val (.ref b48), .val (.int (f0_m335 p0)), .val (.int (f0_m341 p0)), .unset] [(.int (1 : Int32))])) _
        refine XS.goto X338.here hx rfl (pc0 := 265) (pc' := 269) rfl (hb hby at_265) (by decide) (by decide) ?_
        exact k)
      have q_f0_m349 : f0_m349 p0 = (1 : Int32) := by unfold f0_m349; rw [if_neg hc251_343]
      rw [q_f0_m349]
      exact ⟨T338, _, X338, e338, N338, pre348⟩
    obtain ⟨cq350, kq350, q350a, q350b, q350c⟩ := isOf hZ e343 fm294_6
    obtain ⟨_, _, ⟨T350, L350, k350, n350⟩, -, X350, ⟨Lc350, hQ350, l350, y350, z350⟩, st350⟩ := X343.virtualBack hx (y := (⟨"com/example/tenon/tenon/Assignments", "isBlind", "()Z"⟩ : MethodName)) (z := (⟨"com/example/tenon/tenon/Assignments", "isBlind", "()Z"⟩ : MethodName)) hown (mvT hZ (hw _ (List.mem_of_getElem? (i := 84) rfl))) (mvT hZ (hw _ (List.mem_of_getElem? (i := 85) rfl))) (notFace_of_selects (args := #[]) (mvT hZ (hw _ (List.mem_of_getElem? (i := 87) rfl)))) (mvT hZ (hw _ (List.mem_of_getElem? (i := 87) rfl))) (mvT hZ (hw _ (List.mem_of_getElem? (i := 86) rfl))) (by decide) (backOf (W := 0) (rm12b l Z a0' hw [] b48 (f0_m312 p0) b40 (f0_m257 p0) h294 n0 Z294 fm294_3 fm294_8 fm294_7 fm294_5 fm294_4) hZ (hw _ (List.mem_of_getElem? (i := 88) rfl)) (hw _ (List.mem_of_getElem? (i := 17) rfl)) (by decide) (by decide)) q350a q350c (g := (mkF m 273 #[.val (.int p0), .val (.int (f0_m5 p0)), .val (.int (f0_m10 p0)), .val (.int (f0_m15 p0)), .val (.int (f0_m20 p0)), .val (.int (f0_m25 p0)), .val (.int (f0_m30 p0)), .val (.int (f0_m35 p0)), .val (.ref b36_0), .val (.ref b37), .val (.ref b40), .val (.ref b48), .val (.int (f0_m335 p0)), .val (.int (f0_m341 p0)), .val (.int (f0_m349 p0))] [(.ref b48)])) rfl (by rw [hml]; rfl) (Steps.refl _) (argsL := []) (rest := []) (lenOf pd3 rfl) rfl (by show 2 * 0 + _ ≤ _; exact Nat.le_of_eq rfl) (hb hby at_273) (fun _ _ => ⟨rfl, e343, (by decide : 12 + 0 ≤ _), (by decide : 77 + 0 ≤ _)⟩)
    dsimp only [Pt.U, Pt.locs, Pt.cells, Pt.slots] at X350 l350 y350 z350 st350 hQ350
    subst l350 y350 z350
    obtain ⟨rfl, N350q, e350⟩ := hQ350
    have N350 := Fr.app N343 N350q
    have pre351 : ∀ t, Steps p.tables e below (T350.setTop (mkF m 278 #[.val (.int p0), .val (.int (f0_m5 p0)), .val (.int (f0_m10 p0)), .val (.int (f0_m15 p0)), .val (.int (f0_m20 p0)), .val (.int (f0_m25 p0)), .val (.int (f0_m30 p0)), .val (.int (f0_m35 p0)), .val (.ref b36_0), .val (.ref b37), .val (.ref b40), .val (.ref b48), .val (.int (f0_m335 p0)), .val (.int (f0_m341 p0)), .val (.int (f0_m349 p0))] [(.int (f0_m349 p0)), (.int (F12b (f0_m312 p0) (f0_m257 p0)))])) t → Steps p.tables e below (s₁.setTop (entryFrame m #[(.int p0)] maxLocals)) t := fun t k => pre343 t (by
      show Steps p.tables e below (T343.setTop (mkF m 269 #[.val (.int p0), .val (.int (f0_m5 p0)), .val (.int (f0_m10 p0)), .val (.int (f0_m15 p0)), .val (.int (f0_m20 p0)), .val (.int (f0_m25 p0)), .val (.int (f0_m30 p0)), .val (.int (f0_m35 p0)), .val (.ref b36_0), .val (.ref b37), .val (.ref b40), .val (.ref b48), .val (.int (f0_m335 p0)), .val (.int (f0_m341 p0)), .unset] [(.int (f0_m349 p0))])) _
      refine XS.istore X343.here hx rfl (hb hby at_269) rfl (l' := #[.val (.int p0), .val (.int (f0_m5 p0)), .val (.int (f0_m10 p0)), .val (.int (f0_m15 p0)), .val (.int (f0_m20 p0)), .val (.int (f0_m25 p0)), .val (.int (f0_m30 p0)), .val (.int (f0_m35 p0)), .val (.ref b36_0), .val (.ref b37), .val (.ref b40), .val (.ref b48), .val (.int (f0_m335 p0)), .val (.int (f0_m341 p0)), .val (.int (f0_m349 p0))]) rfl ?_
      show Steps p.tables e below (T343.setTop (mkF m 271 #[.val (.int p0), .val (.int (f0_m5 p0)), .val (.int (f0_m10 p0)), .val (.int (f0_m15 p0)), .val (.int (f0_m20 p0)), .val (.int (f0_m25 p0)), .val (.int (f0_m30 p0)), .val (.int (f0_m35 p0)), .val (.ref b36_0), .val (.ref b37), .val (.ref b40), .val (.ref b48), .val (.int (f0_m335 p0)), .val (.int (f0_m341 p0)), .val (.int (f0_m349 p0))] [])) _
      refine XS.aload X343.here hx rfl (hb hby at_271) rfl rfl ?_
      show Steps p.tables e below (T343.setTop (mkF m 273 #[.val (.int p0), .val (.int (f0_m5 p0)), .val (.int (f0_m10 p0)), .val (.int (f0_m15 p0)), .val (.int (f0_m20 p0)), .val (.int (f0_m25 p0)), .val (.int (f0_m30 p0)), .val (.int (f0_m35 p0)), .val (.ref b36_0), .val (.ref b37), .val (.ref b40), .val (.ref b48), .val (.int (f0_m335 p0)), .val (.int (f0_m341 p0)), .val (.int (f0_m349 p0))] [(.ref b48)])) _
      refine st350.trans ?_
      show Steps p.tables e below (T350.setTop (mkF m 276 #[.val (.int p0), .val (.int (f0_m5 p0)), .val (.int (f0_m10 p0)), .val (.int (f0_m15 p0)), .val (.int (f0_m20 p0)), .val (.int (f0_m25 p0)), .val (.int (f0_m30 p0)), .val (.int (f0_m35 p0)), .val (.ref b36_0), .val (.ref b37), .val (.ref b40), .val (.ref b48), .val (.int (f0_m335 p0)), .val (.int (f0_m341 p0)), .val (.int (f0_m349 p0))] [(.int (F12b (f0_m312 p0) (f0_m257 p0)))])) _
      refine XS.iload X350.here hx rfl (hb hby at_276) rfl ?_
      exact k)
    by_cases hc278_352 : (F12b (f0_m312 p0) (f0_m257 p0)) = (f0_m349 p0)
    · have pre353 : ∀ t, Steps p.tables e below (T350.setTop (mkF m 286 #[.val (.int p0), .val (.int (f0_m5 p0)), .val (.int (f0_m10 p0)), .val (.int (f0_m15 p0)), .val (.int (f0_m20 p0)), .val (.int (f0_m25 p0)), .val (.int (f0_m30 p0)), .val (.int (f0_m35 p0)), .val (.ref b36_0), .val (.ref b37), .val (.ref b40), .val (.ref b48), .val (.int (f0_m335 p0)), .val (.int (f0_m341 p0)), .val (.int (f0_m349 p0))] [(.int (1 : Int32))])) t → Steps p.tables e below (s₁.setTop (entryFrame m #[(.int p0)] maxLocals)) t := fun t k => pre351 t (by
        show Steps p.tables e below (T350.setTop (mkF m 278 #[.val (.int p0), .val (.int (f0_m5 p0)), .val (.int (f0_m10 p0)), .val (.int (f0_m15 p0)), .val (.int (f0_m20 p0)), .val (.int (f0_m25 p0)), .val (.int (f0_m30 p0)), .val (.int (f0_m35 p0)), .val (.ref b36_0), .val (.ref b37), .val (.ref b40), .val (.ref b48), .val (.int (f0_m335 p0)), .val (.int (f0_m341 p0)), .val (.int (f0_m349 p0))] [(.int (f0_m349 p0)), (.int (F12b (f0_m312 p0) (f0_m257 p0)))])) _
        refine XS.icmpNo X350.here hx rfl (hb hby at_278) rfl (teq hc278_352).2 ?_
        show Steps p.tables e below (T350.setTop (mkF m 281 #[.val (.int p0), .val (.int (f0_m5 p0)), .val (.int (f0_m10 p0)), .val (.int (f0_m15 p0)), .val (.int (f0_m20 p0)), .val (.int (f0_m25 p0)), .val (.int (f0_m30 p0)), .val (.int (f0_m35 p0)), .val (.ref b36_0), .val (.ref b37), .val (.ref b40), .val (.ref b48), .val (.int (f0_m335 p0)), .val (.int (f0_m341 p0)), .val (.int (f0_m349 p0))] [])) _
        refine XS.iconst X350.here hx rfl (hb hby at_281) ?_
        show Steps p.tables e below (T350.setTop (mkF m 282 #[.val (.int p0), .val (.int (f0_m5 p0)), .val (.int (f0_m10 p0)), .val (.int (f0_m15 p0)), .val (.int (f0_m20 p0)), .val (.int (f0_m25 p0)), .val (.int (f0_m30 p0)), .val (.int (f0_m35 p0)), .val (.ref b36_0), .val (.ref b37), .val (.ref b40), .val (.ref b48), .val (.int (f0_m335 p0)), .val (.int (f0_m341 p0)), .val (.int (f0_m349 p0))] [(.int (1 : Int32))])) _
        refine XS.goto X350.here hx rfl (pc0 := 282) (pc' := 286) rfl (hb hby at_282) (by decide) (by decide) ?_
        exact k)
      obtain ⟨fs, hr, hrun, hended, hW, hsame⟩ := X350.leave (v := some (.int (1 : Int32))) (fun h => by rw [Bd.returns] at h; cases h) hlk
      have hF : (F0 p0) = (1 : Int32) := by unfold F0; rw [if_pos hc116_43, if_neg hc138_53, if_pos hc278_352]
      exact ⟨_, _, pre353 _ (retN X350 hx (t := .boolean) Bd.returns (by simp) (hb hby at_286) hr), hrun, hended, _, _, rfl, ⟨by rw [hF], N350⟩, ⟨_, rfl⟩, hW, hsame.mono (by decide) (by decide)⟩
    have pre354 : ∀ t, Steps p.tables e below (T350.setTop (mkF m 286 #[.val (.int p0), .val (.int (f0_m5 p0)), .val (.int (f0_m10 p0)), .val (.int (f0_m15 p0)), .val (.int (f0_m20 p0)), .val (.int (f0_m25 p0)), .val (.int (f0_m30 p0)), .val (.int (f0_m35 p0)), .val (.ref b36_0), .val (.ref b37), .val (.ref b40), .val (.ref b48), .val (.int (f0_m335 p0)), .val (.int (f0_m341 p0)), .val (.int (f0_m349 p0))] [(.int (0 : Int32))])) t → Steps p.tables e below (s₁.setTop (entryFrame m #[(.int p0)] maxLocals)) t := fun t k => pre351 t (by
      show Steps p.tables e below (T350.setTop (mkF m 278 #[.val (.int p0), .val (.int (f0_m5 p0)), .val (.int (f0_m10 p0)), .val (.int (f0_m15 p0)), .val (.int (f0_m20 p0)), .val (.int (f0_m25 p0)), .val (.int (f0_m30 p0)), .val (.int (f0_m35 p0)), .val (.ref b36_0), .val (.ref b37), .val (.ref b40), .val (.ref b48), .val (.int (f0_m335 p0)), .val (.int (f0_m341 p0)), .val (.int (f0_m349 p0))] [(.int (f0_m349 p0)), (.int (F12b (f0_m312 p0) (f0_m257 p0)))])) _
      refine XS.icmpYes X350.here hx rfl (pc0 := 278) (pc' := 285) rfl (hb hby at_278) rfl (feq hc278_352).2 (by decide) (by decide) ?_
      show Steps p.tables e below (T350.setTop (mkF m 285 #[.val (.int p0), .val (.int (f0_m5 p0)), .val (.int (f0_m10 p0)), .val (.int (f0_m15 p0)), .val (.int (f0_m20 p0)), .val (.int (f0_m25 p0)), .val (.int (f0_m30 p0)), .val (.int (f0_m35 p0)), .val (.ref b36_0), .val (.ref b37), .val (.ref b40), .val (.ref b48), .val (.int (f0_m335 p0)), .val (.int (f0_m341 p0)), .val (.int (f0_m349 p0))] [])) _
      refine XS.iconst X350.here hx rfl (hb hby at_285) ?_
      exact k)
    obtain ⟨fs, hr, hrun, hended, hW, hsame⟩ := X350.leave (v := some (.int (0 : Int32))) (fun h => by rw [Bd.returns] at h; cases h) hlk
    have hF : (F0 p0) = (0 : Int32) := by unfold F0; rw [if_pos hc116_43, if_neg hc138_53, if_neg hc278_352]
    exact ⟨_, _, pre354 _ (retN X350 hx (t := .boolean) Bd.returns (by simp) (hb hby at_286) hr), hrun, hended, _, _, rfl, ⟨by rw [hF], N350⟩, ⟨_, rfl⟩, hW, hsame.mono (by decide) (by decide)⟩
  obtain ⟨_, _, ⟨T355, L355, k355, n355⟩, -, X355, ⟨Lc355, hQ355, l355, y355, z355⟩, st355⟩ := X40.specialBack hx (y := (⟨"com/example/tenon/tenon/Assignments", "<init>", "(Lcom/example/tenon/tenon/Budget;Lcom/example/tenon/tenon/Assignments;)V"⟩ : MethodName)) rfl hown (mvT hZ (hw _ (List.mem_of_getElem? (i := 83) rfl))) (mvT hZ (hw _ (List.mem_of_getElem? (i := 22) rfl))) (mvT hZ (hw _ (List.mem_of_getElem? (i := 23) rfl))) (by decide) (backOf (W := 1) (rm5 l Z a0' hw [] b40 b36_0 b37 .null .null .null .null (0 : Int32) (0 : Int32) sD h40 n0 Z40 A40 F40_assigned F40_changed F40_budget F40_below F40_blindness F40_marks g_b40 O40 S_sD) hZ (hw _ (List.mem_of_getElem? (i := 23) rfl)) (hw _ (List.mem_of_getElem? (i := 17) rfl)) (by decide) (by decide)) (g := (mkF m 125 #[.val (.int p0), .val (.int (f0_m5 p0)), .val (.int (f0_m10 p0)), .val (.int (f0_m15 p0)), .val (.int (f0_m20 p0)), .val (.int (f0_m25 p0)), .val (.int (f0_m30 p0)), .val (.int (f0_m35 p0)), .val (.ref b36_0), .val (.ref b37), .unset, .unset, .unset, .unset, .unset] [(.ref b37), (.ref b36_0), (.ref b40), (.ref b40)])) rfl (by rw [hml]; rfl) (Steps.refl _) (a := b40) (argsL := [(.ref b36_0), (.ref b37)]) (rest := [(.ref b40)]) (lenOf pd2 rfl) rfl (by show 2 * 0 + _ ≤ _; exact Nat.le_of_eq rfl) (hb hby at_125) (fun _ _ => ⟨rfl, e40, (by decide : 5 + 2 ≤ _), (by decide : 29 + 15 ≤ _)⟩)
  dsimp only [Pt.U, Pt.locs, Pt.cells, Pt.slots] at X355 l355 y355 z355 st355 hQ355
  subst l355 y355 z355
  have y356 := (y41.ext E40)
  have y357 := (u38_0.ext E40)
  have y358 := (u38_6.ext E40)
  obtain ⟨b355_0, rfl, N355q, gs_b355_0, g_b355_0, K355, u355_0, u355_1, u355_2, u355_3, u355_4, u355_5, u355_6, u355_7, u355_8, u355_9⟩ := hQ355
  have N355 := Fr.app N38 N355q
  have ne_b36_0_b355_0 : b36_0 ≠ b355_0 := Nat.ne_of_lt (Nat.lt_of_lt_of_le y356.lt gs_b355_0)
  have ne_b37_b355_0 : b37 ≠ b355_0 := Nat.ne_of_lt (Nat.lt_of_lt_of_le y357.lt gs_b355_0)
  have ne_b38_0_b355_0 : b38_0 ≠ b355_0 := Nat.ne_of_lt (Nat.lt_of_lt_of_le y358.lt gs_b355_0)
  have ne_b40_b355_0 : b40 ≠ b355_0 := Nat.ne_of_lt (Nat.lt_of_lt_of_le A40.lt gs_b355_0)
  have Z355 : n0 ≤ T355.heap.size := Nat.le_trans Z40 K355.1
  have O355 : Old Z n0 T355.heap := O40.keep K355 (allS g_b40 all0)
  obtain ⟨T359, h359, X359, e359, E359, A359, D359, -, st359⟩ := newO X355 hx hZ hown (hw _ (List.mem_of_getElem? (i := 15) rfl)) (hw _ (List.mem_of_getElem? (i := 16) rfl)) (hw _ (List.mem_of_getElem? (i := 17) rfl)) rfl (g := (mkF m 130 #[.val (.int p0), .val (.int (f0_m5 p0)), .val (.int (f0_m10 p0)), .val (.int (f0_m15 p0)), .val (.int (f0_m20 p0)), .val (.int (f0_m25 p0)), .val (.int (f0_m30 p0)), .val (.int (f0_m35 p0)), .val (.ref b36_0), .val (.ref b37), .val (.ref b40), .unset, .unset, .unset, .unset] [])) rfl (hb hby at_130) (by decide) (by decide)
  obtain ⟨b359, g359⟩ : ∃ z, z = T355.heap.size := ⟨_, rfl⟩
  rw [← g359] at A359 D359 st359
  have y360 := (y356.keep K355)
  have ne_b36_0_b359 : b36_0 ≠ b359 := Nat.ne_of_lt (Nat.lt_of_lt_of_le y360.lt (Nat.le_of_eq g359.symm))
  have y361 := (y357.keep K355)
  have ne_b37_b359 : b37 ≠ b359 := Nat.ne_of_lt (Nat.lt_of_lt_of_le y361.lt (Nat.le_of_eq g359.symm))
  have y362 := (y358.keep K355)
  have ne_b38_0_b359 : b38_0 ≠ b359 := Nat.ne_of_lt (Nat.lt_of_lt_of_le y362.lt (Nat.le_of_eq g359.symm))
  have ne_b40_b359 : b40 ≠ b359 := Nat.ne_of_lt (Nat.lt_of_lt_of_le u355_0.lt (Nat.le_of_eq g359.symm))
  have ne_b355_0_b359 : b355_0 ≠ b359 := Nat.ne_of_lt (Nat.lt_of_lt_of_le u355_6.lt (Nat.le_of_eq g359.symm))
  have g_b359 : n0 ≤ b359 := Nat.le_trans Z355 (Nat.le_of_eq g359.symm)
  have Z359 : n0 ≤ h359.size := Nat.le_trans Z355 E359.1
  have O359 : Old Z n0 h359 := O355.ext E359
  have F359_assigned : Fld Z h359 b359 "com/example/tenon/tenon/Assignments" "assigned" "Ljava/util/Map;" .null := D359 (Or.inr (hw _ (List.mem_of_getElem? (i := 52) rfl))) (ty := (.object "java/util/Map")) (by decide)
  have F359_changed : Fld Z h359 b359 "com/example/tenon/tenon/Assignments" "changed" "Ljava/util/List;" .null := D359 (Or.inr (hw _ (List.mem_of_getElem? (i := 78) rfl))) (ty := (.object "java/util/List")) (by decide)
  have F359_budget : Fld Z h359 b359 "com/example/tenon/tenon/Assignments" "budget" "Lcom/example/tenon/tenon/Budget;" .null := D359 (Or.inr (hw _ (List.mem_of_getElem? (i := 80) rfl))) (ty := (.object "com/example/tenon/tenon/Budget")) (by decide)
  have F359_below : Fld Z h359 b359 "com/example/tenon/tenon/Assignments" "below" "Lcom/example/tenon/tenon/Assignments;" .null := D359 (Or.inr (hw _ (List.mem_of_getElem? (i := 82) rfl))) (ty := (.object "com/example/tenon/tenon/Assignments")) (by decide)
  have F359_blindness : Fld Z h359 b359 "com/example/tenon/tenon/Assignments" "blindness" "I" (.int (0 : Int32)) := D359 (Or.inl (hw _ (List.mem_of_getElem? (i := 90) rfl))) (ty := .int) (by decide)
  have F359_marks : Fld Z h359 b359 "com/example/tenon/tenon/Assignments" "marks" "I" (.int (0 : Int32)) := D359 (Or.inl (hw _ (List.mem_of_getElem? (i := 97) rfl))) (ty := .int) (by decide)
  have pre363 : ∀ t, Steps p.tables e below (T359.setTop (mkF m 138 #[.val (.int p0), .val (.int (f0_m5 p0)), .val (.int (f0_m10 p0)), .val (.int (f0_m15 p0)), .val (.int (f0_m20 p0)), .val (.int (f0_m25 p0)), .val (.int (f0_m30 p0)), .val (.int (f0_m35 p0)), .val (.ref b36_0), .val (.ref b37), .val (.ref b40), .unset, .unset, .unset, .unset] [(.int (f0_m25 p0)), (.ref b36_0), (.ref b359), (.ref b359)])) t → Steps p.tables e below (s₁.setTop (entryFrame m #[(.int p0)] maxLocals)) t := fun t k => pre42 t (by
    show Steps p.tables e below (T40.setTop (mkF m 116 #[.val (.int p0), .val (.int (f0_m5 p0)), .val (.int (f0_m10 p0)), .val (.int (f0_m15 p0)), .val (.int (f0_m20 p0)), .val (.int (f0_m25 p0)), .val (.int (f0_m30 p0)), .val (.int (f0_m35 p0)), .val (.ref b36_0), .val (.ref b37), .unset, .unset, .unset, .unset, .unset] [(.int (f0_m20 p0)), (.ref b36_0), (.ref b40), (.ref b40)])) _
    refine XS.ifNo X40.here hx rfl (hb hby at_116) rfl ((if0 _ _).trans (feq hc116_43).1) ?_
    show Steps p.tables e below (T40.setTop (mkF m 119 #[.val (.int p0), .val (.int (f0_m5 p0)), .val (.int (f0_m10 p0)), .val (.int (f0_m15 p0)), .val (.int (f0_m20 p0)), .val (.int (f0_m25 p0)), .val (.int (f0_m30 p0)), .val (.int (f0_m35 p0)), .val (.ref b36_0), .val (.ref b37), .unset, .unset, .unset, .unset, .unset] [(.ref b36_0), (.ref b40), (.ref b40)])) _
    refine XS.aload X40.here hx rfl (hb hby at_119) rfl rfl ?_
    show Steps p.tables e below (T40.setTop (mkF m 121 #[.val (.int p0), .val (.int (f0_m5 p0)), .val (.int (f0_m10 p0)), .val (.int (f0_m15 p0)), .val (.int (f0_m20 p0)), .val (.int (f0_m25 p0)), .val (.int (f0_m30 p0)), .val (.int (f0_m35 p0)), .val (.ref b36_0), .val (.ref b37), .unset, .unset, .unset, .unset, .unset] [(.ref b37), (.ref b36_0), (.ref b40), (.ref b40)])) _
    refine XS.goto X40.here hx rfl (pc0 := 121) (pc' := 125) rfl (hb hby at_121) (by decide) (by decide) ?_
    show Steps p.tables e below (T40.setTop (mkF m 125 #[.val (.int p0), .val (.int (f0_m5 p0)), .val (.int (f0_m10 p0)), .val (.int (f0_m15 p0)), .val (.int (f0_m20 p0)), .val (.int (f0_m25 p0)), .val (.int (f0_m30 p0)), .val (.int (f0_m35 p0)), .val (.ref b36_0), .val (.ref b37), .unset, .unset, .unset, .unset, .unset] [(.ref b37), (.ref b36_0), (.ref b40), (.ref b40)])) _
    refine st355.trans ?_
    show Steps p.tables e below (T355.setTop (mkF m 128 #[.val (.int p0), .val (.int (f0_m5 p0)), .val (.int (f0_m10 p0)), .val (.int (f0_m15 p0)), .val (.int (f0_m20 p0)), .val (.int (f0_m25 p0)), .val (.int (f0_m30 p0)), .val (.int (f0_m35 p0)), .val (.ref b36_0), .val (.ref b37), .unset, .unset, .unset, .unset, .unset] [(.ref b40)])) _
    refine XS.astore X355.here hx rfl (hb hby at_128) rfl rfl (l' := #[.val (.int p0), .val (.int (f0_m5 p0)), .val (.int (f0_m10 p0)), .val (.int (f0_m15 p0)), .val (.int (f0_m20 p0)), .val (.int (f0_m25 p0)), .val (.int (f0_m30 p0)), .val (.int (f0_m35 p0)), .val (.ref b36_0), .val (.ref b37), .val (.ref b40), .unset, .unset, .unset, .unset]) rfl ?_
    show Steps p.tables e below (T355.setTop (mkF m 130 #[.val (.int p0), .val (.int (f0_m5 p0)), .val (.int (f0_m10 p0)), .val (.int (f0_m15 p0)), .val (.int (f0_m20 p0)), .val (.int (f0_m25 p0)), .val (.int (f0_m30 p0)), .val (.int (f0_m35 p0)), .val (.ref b36_0), .val (.ref b37), .val (.ref b40), .unset, .unset, .unset, .unset] [])) _
    refine st359 _ ?_
    show Steps p.tables e below (T359.setTop (mkF m 133 #[.val (.int p0), .val (.int (f0_m5 p0)), .val (.int (f0_m10 p0)), .val (.int (f0_m15 p0)), .val (.int (f0_m20 p0)), .val (.int (f0_m25 p0)), .val (.int (f0_m30 p0)), .val (.int (f0_m35 p0)), .val (.ref b36_0), .val (.ref b37), .val (.ref b40), .unset, .unset, .unset, .unset] [(.ref b359)])) _
    refine XS.dup X359.here hx rfl (hb hby at_133) rfl rfl ?_
    show Steps p.tables e below (T359.setTop (mkF m 134 #[.val (.int p0), .val (.int (f0_m5 p0)), .val (.int (f0_m10 p0)), .val (.int (f0_m15 p0)), .val (.int (f0_m20 p0)), .val (.int (f0_m25 p0)), .val (.int (f0_m30 p0)), .val (.int (f0_m35 p0)), .val (.ref b36_0), .val (.ref b37), .val (.ref b40), .unset, .unset, .unset, .unset] [(.ref b359), (.ref b359)])) _
    refine XS.aload X359.here hx rfl (hb hby at_134) rfl rfl ?_
    show Steps p.tables e below (T359.setTop (mkF m 136 #[.val (.int p0), .val (.int (f0_m5 p0)), .val (.int (f0_m10 p0)), .val (.int (f0_m15 p0)), .val (.int (f0_m20 p0)), .val (.int (f0_m25 p0)), .val (.int (f0_m30 p0)), .val (.int (f0_m35 p0)), .val (.ref b36_0), .val (.ref b37), .val (.ref b40), .unset, .unset, .unset, .unset] [(.ref b36_0), (.ref b359), (.ref b359)])) _
    refine XS.iload X359.here hx rfl (hb hby at_136) rfl ?_
    exact k)
  by_cases hc138_364 : (f0_m25 p0) = (0 : Int32)
  · obtain ⟨_, _, ⟨T365, L365, k365, n365⟩, -, X365, ⟨Lc365, hQ365, l365, y365, z365⟩, st365⟩ := X359.specialBack hx (y := (⟨"com/example/tenon/tenon/Assignments", "<init>", "(Lcom/example/tenon/tenon/Budget;Lcom/example/tenon/tenon/Assignments;)V"⟩ : MethodName)) rfl hown (mvT hZ (hw _ (List.mem_of_getElem? (i := 83) rfl))) (mvT hZ (hw _ (List.mem_of_getElem? (i := 22) rfl))) (mvT hZ (hw _ (List.mem_of_getElem? (i := 23) rfl))) (by decide) (backOf (W := 1) (rm5n l Z a0' hw [] b359 b36_0 .null .null .null .null (0 : Int32) (0 : Int32) sD h359 n0 Z359 A359 F359_assigned F359_changed F359_budget F359_below F359_blindness F359_marks g_b359 O359 S_sD) hZ (hw _ (List.mem_of_getElem? (i := 23) rfl)) (hw _ (List.mem_of_getElem? (i := 17) rfl)) (by decide) (by decide)) (g := (mkF m 147 #[.val (.int p0), .val (.int (f0_m5 p0)), .val (.int (f0_m10 p0)), .val (.int (f0_m15 p0)), .val (.int (f0_m20 p0)), .val (.int (f0_m25 p0)), .val (.int (f0_m30 p0)), .val (.int (f0_m35 p0)), .val (.ref b36_0), .val (.ref b37), .val (.ref b40), .unset, .unset, .unset, .unset] [.null, (.ref b36_0), (.ref b359), (.ref b359)])) rfl (by rw [hml]; rfl) (Steps.refl _) (a := b359) (argsL := [(.ref b36_0), .null]) (rest := [(.ref b359)]) (lenOf pd2 rfl) rfl (by show 2 * 0 + _ ≤ _; exact Nat.le_of_eq rfl) (hb hby at_147) (fun _ _ => ⟨rfl, e359, (by decide : 8 + 2 ≤ _), (by decide : 50 + 15 ≤ _)⟩)
    dsimp only [Pt.U, Pt.locs, Pt.cells, Pt.slots] at X365 l365 y365 z365 st365 hQ365
    subst l365 y365 z365
    have y366 := (y360.ext E359)
    have y367 := (y361.ext E359)
    have y368 := (y362.ext E359)
    have y369 := (u355_0.ext E359)
    have y370 := (u355_6.ext E359)
    obtain ⟨b365_0, rfl, N365q, gs_b365_0, g_b365_0, K365, u365_0, u365_1, u365_2, u365_3, u365_4, u365_5, u365_6, u365_7, u365_8, u365_9⟩ := hQ365
    have N365 := Fr.app N355 N365q
    have ne_b36_0_b365_0 : b36_0 ≠ b365_0 := Nat.ne_of_lt (Nat.lt_of_lt_of_le y366.lt gs_b365_0)
    have ne_b37_b365_0 : b37 ≠ b365_0 := Nat.ne_of_lt (Nat.lt_of_lt_of_le y367.lt gs_b365_0)
    have ne_b38_0_b365_0 : b38_0 ≠ b365_0 := Nat.ne_of_lt (Nat.lt_of_lt_of_le y368.lt gs_b365_0)
    have ne_b40_b365_0 : b40 ≠ b365_0 := Nat.ne_of_lt (Nat.lt_of_lt_of_le y369.lt gs_b365_0)
    have ne_b355_0_b365_0 : b355_0 ≠ b365_0 := Nat.ne_of_lt (Nat.lt_of_lt_of_le y370.lt gs_b365_0)
    have ne_b359_b365_0 : b359 ≠ b365_0 := Nat.ne_of_lt (Nat.lt_of_lt_of_le A359.lt gs_b365_0)
    have Z365 : n0 ≤ T365.heap.size := Nat.le_trans Z359 K365.1
    have O365 : Old Z n0 T365.heap := O359.keep K365 (allS g_b359 all0)
    have pre371 : ∀ t, Steps p.tables e below (T365.setTop (mkF m 154 #[.val (.int p0), .val (.int (f0_m5 p0)), .val (.int (f0_m10 p0)), .val (.int (f0_m15 p0)), .val (.int (f0_m20 p0)), .val (.int (f0_m25 p0)), .val (.int (f0_m30 p0)), .val (.int (f0_m35 p0)), .val (.ref b36_0), .val (.ref b37), .val (.ref b40), .val (.ref b359), .unset, .unset, .unset] [(.int (f0_m30 p0))])) t → Steps p.tables e below (s₁.setTop (entryFrame m #[(.int p0)] maxLocals)) t := fun t k => pre363 t (by
      show Steps p.tables e below (T359.setTop (mkF m 138 #[.val (.int p0), .val (.int (f0_m5 p0)), .val (.int (f0_m10 p0)), .val (.int (f0_m15 p0)), .val (.int (f0_m20 p0)), .val (.int (f0_m25 p0)), .val (.int (f0_m30 p0)), .val (.int (f0_m35 p0)), .val (.ref b36_0), .val (.ref b37), .val (.ref b40), .unset, .unset, .unset, .unset] [(.int (f0_m25 p0)), (.ref b36_0), (.ref b359), (.ref b359)])) _
      refine XS.ifYes X359.here hx rfl (pc0 := 138) (pc' := 146) rfl (hb hby at_138) rfl ((if0 _ _).trans (teq hc138_364).1) (by decide) (by decide) ?_
      show Steps p.tables e below (T359.setTop (mkF m 146 #[.val (.int p0), .val (.int (f0_m5 p0)), .val (.int (f0_m10 p0)), .val (.int (f0_m15 p0)), .val (.int (f0_m20 p0)), .val (.int (f0_m25 p0)), .val (.int (f0_m30 p0)), .val (.int (f0_m35 p0)), .val (.ref b36_0), .val (.ref b37), .val (.ref b40), .unset, .unset, .unset, .unset] [(.ref b36_0), (.ref b359), (.ref b359)])) _
      refine XS.aconstNull X359.here hx rfl (hb hby at_146) ?_
      show Steps p.tables e below (T359.setTop (mkF m 147 #[.val (.int p0), .val (.int (f0_m5 p0)), .val (.int (f0_m10 p0)), .val (.int (f0_m15 p0)), .val (.int (f0_m20 p0)), .val (.int (f0_m25 p0)), .val (.int (f0_m30 p0)), .val (.int (f0_m35 p0)), .val (.ref b36_0), .val (.ref b37), .val (.ref b40), .unset, .unset, .unset, .unset] [.null, (.ref b36_0), (.ref b359), (.ref b359)])) _
      refine st365.trans ?_
      show Steps p.tables e below (T365.setTop (mkF m 150 #[.val (.int p0), .val (.int (f0_m5 p0)), .val (.int (f0_m10 p0)), .val (.int (f0_m15 p0)), .val (.int (f0_m20 p0)), .val (.int (f0_m25 p0)), .val (.int (f0_m30 p0)), .val (.int (f0_m35 p0)), .val (.ref b36_0), .val (.ref b37), .val (.ref b40), .unset, .unset, .unset, .unset] [(.ref b359)])) _
      refine XS.astore X365.here hx rfl (hb hby at_150) rfl rfl (l' := #[.val (.int p0), .val (.int (f0_m5 p0)), .val (.int (f0_m10 p0)), .val (.int (f0_m15 p0)), .val (.int (f0_m20 p0)), .val (.int (f0_m25 p0)), .val (.int (f0_m30 p0)), .val (.int (f0_m35 p0)), .val (.ref b36_0), .val (.ref b37), .val (.ref b40), .val (.ref b359), .unset, .unset, .unset]) rfl ?_
      show Steps p.tables e below (T365.setTop (mkF m 152 #[.val (.int p0), .val (.int (f0_m5 p0)), .val (.int (f0_m10 p0)), .val (.int (f0_m15 p0)), .val (.int (f0_m20 p0)), .val (.int (f0_m25 p0)), .val (.int (f0_m30 p0)), .val (.int (f0_m35 p0)), .val (.ref b36_0), .val (.ref b37), .val (.ref b40), .val (.ref b359), .unset, .unset, .unset] [])) _
      refine XS.iload X365.here hx rfl (hb hby at_152) rfl ?_
      exact k)
    obtain ⟨T372, L372, h372, X372, e372, N372, Z372, O372, fm372_0, fm372_1, fm372_2, fm372_3, fm372_4, fm372_5, fm372_6, fm372_7, fm372_8, fm372_9, fm372_10, fm372_11, fm372_12, fm372_13, fm372_14, fm372_15, fm372_16, fm372_17, fm372_18, fm372_19, fm372_20, fm372_21, pre372⟩ : ∃ (T' : State) (locs' : List Loc) (h' : Heap), Stand p l e room_1 s m #[(.int p0)] below meth c T' locs' 10 65 ∧ T'.heap = h' ∧ Fr n0 locs' ∧ n0 ≤ h'.size ∧ Old Z n0 h' ∧ Exa Z h' b36_0 "com/example/tenon/tenon/Budget" ∧ Fld Z h' b36_0 "com/example/tenon/tenon/Budget" "limit" "J" (.long (9223372036854775807 : Int64)) ∧ Fld Z h' b36_0 "com/example/tenon/tenon/Budget" "held" "J" (.long (0 : Int64)) ∧ Exa Z h' b37 "com/example/tenon/tenon/Assignments" ∧ Fld Z h' b37 "com/example/tenon/tenon/Assignments" "below" "Lcom/example/tenon/tenon/Assignments;" .null ∧ Fld Z h' b37 "com/example/tenon/tenon/Assignments" "blindness" "I" (.int (f0_m382 p0)) ∧ Exa Z h' b40 "com/example/tenon/tenon/Assignments" ∧ Fld Z h' b40 "com/example/tenon/tenon/Assignments" "changed" "Ljava/util/List;" (.ref b355_0) ∧ Fld Z h' b40 "com/example/tenon/tenon/Assignments" "budget" "Lcom/example/tenon/tenon/Budget;" (.ref b36_0) ∧ Fld Z h' b40 "com/example/tenon/tenon/Assignments" "below" "Lcom/example/tenon/tenon/Assignments;" (.ref b37) ∧ Fld Z h' b40 "com/example/tenon/tenon/Assignments" "blindness" "I" (.int (0 : Int32)) ∧ Fld Z h' b40 "com/example/tenon/tenon/Assignments" "marks" "I" (.int (0 : Int32)) ∧ Exa Z h' b359 "com/example/tenon/tenon/Assignments" ∧ Fld Z h' b359 "com/example/tenon/tenon/Assignments" "changed" "Ljava/util/List;" (.ref b365_0) ∧ Fld Z h' b359 "com/example/tenon/tenon/Assignments" "budget" "Lcom/example/tenon/tenon/Budget;" (.ref b36_0) ∧ Fld Z h' b359 "com/example/tenon/tenon/Assignments" "below" "Lcom/example/tenon/tenon/Assignments;" .null ∧ Fld Z h' b359 "com/example/tenon/tenon/Assignments" "blindness" "I" (.int (0 : Int32)) ∧ Fld Z h' b359 "com/example/tenon/tenon/Assignments" "marks" "I" (.int (0 : Int32)) ∧ Exa Z h' b365_0 "java/util/ArrayList" ∧ Fld Z h' b365_0 "java/util/AbstractList" "modCount" "I" (.int (0 : Int32)) ∧ Fld Z h' b365_0 "java/util/ArrayList" "elementData" "[Ljava/lang/Object;" (.ref sD) ∧ Fld Z h' b365_0 "java/util/ArrayList" "size" "I" (.int (0 : Int32)) ∧ ∀ t, Steps p.tables e below (T'.setTop (mkF m 162 #[.val (.int p0), .val (.int (f0_m5 p0)), .val (.int (f0_m10 p0)), .val (.int (f0_m15 p0)), .val (.int (f0_m20 p0)), .val (.int (f0_m25 p0)), .val (.int (f0_m30 p0)), .val (.int (f0_m35 p0)), .val (.ref b36_0), .val (.ref b37), .val (.ref b40), .val (.ref b359), .unset, .unset, .unset] [])) t → Steps p.tables e below (s₁.setTop (entryFrame m #[(.int p0)] maxLocals)) t := by
      by_cases hc154_372 : (f0_m30 p0) = (0 : Int32)
      · have pre373 : ∀ t, Steps p.tables e below (T365.setTop (mkF m 162 #[.val (.int p0), .val (.int (f0_m5 p0)), .val (.int (f0_m10 p0)), .val (.int (f0_m15 p0)), .val (.int (f0_m20 p0)), .val (.int (f0_m25 p0)), .val (.int (f0_m30 p0)), .val (.int (f0_m35 p0)), .val (.ref b36_0), .val (.ref b37), .val (.ref b40), .val (.ref b359), .unset, .unset, .unset] [])) t → Steps p.tables e below (s₁.setTop (entryFrame m #[(.int p0)] maxLocals)) t := fun t k => pre371 t (by
          show Steps p.tables e below (T365.setTop (mkF m 154 #[.val (.int p0), .val (.int (f0_m5 p0)), .val (.int (f0_m10 p0)), .val (.int (f0_m15 p0)), .val (.int (f0_m20 p0)), .val (.int (f0_m25 p0)), .val (.int (f0_m30 p0)), .val (.int (f0_m35 p0)), .val (.ref b36_0), .val (.ref b37), .val (.ref b40), .val (.ref b359), .unset, .unset, .unset] [(.int (f0_m30 p0))])) _
          refine XS.ifYes X365.here hx rfl (pc0 := 154) (pc' := 162) rfl (hb hby at_154) rfl ((if0 _ _).trans (teq hc154_372).1) (by decide) (by decide) ?_
          exact k)
        have q_f0_m382 : f0_m382 p0 = (0 : Int32) := by unfold f0_m382; rw [if_pos hc154_372]
        rw [q_f0_m382]
        have y383 := (y366.keep K365)
        have y384 := ((((((u36_1.ext E37).keep K38 (ninS ne_b36_0_b37 nin0)).ext E40).keep K355 (ninS ne_b36_0_b40 nin0)).ext E359).keep K365 (ninS ne_b36_0_b359 nin0))
        have y385 := ((((((u36_2.ext E37).keep K38 (ninS ne_b36_0_b37 nin0)).ext E40).keep K355 (ninS ne_b36_0_b40 nin0)).ext E359).keep K365 (ninS ne_b36_0_b359 nin0))
        have y386 := (y367.keep K365)
        have y387 := ((((u38_3.ext E40).keep K355 (ninS ne_b37_b40 nin0)).ext E359).keep K365 (ninS ne_b37_b359 nin0))
        have y388 := ((((u38_4.ext E40).keep K355 (ninS ne_b37_b40 nin0)).ext E359).keep K365 (ninS ne_b37_b359 nin0))
        have y389 := (y369.keep K365)
        have y390 := ((u355_1.ext E359).keep K365 (ninS ne_b40_b359 nin0))
        have y391 := ((u355_2.ext E359).keep K365 (ninS ne_b40_b359 nin0))
        have y392 := ((u355_3.ext E359).keep K365 (ninS ne_b40_b359 nin0))
        have y393 := ((u355_4.ext E359).keep K365 (ninS ne_b40_b359 nin0))
        have y394 := ((u355_5.ext E359).keep K365 (ninS ne_b40_b359 nin0))
        exact ⟨T365, _, T365.heap, X365, rfl, N365, Z365, O365, y383, y384, y385, y386, y387, y388, y389, y390, y391, y392, y393, y394, u365_0, u365_1, u365_2, u365_3, u365_4, u365_5, u365_6, u365_7, u365_8, u365_9, pre373⟩
      have y375 := ((((u38_1.ext E40).keep K355 (ninS ne_b37_b40 nin0)).ext E359).keep K365 (ninS ne_b37_b359 nin0))
      have y376 := ((((u38_2.ext E40).keep K355 (ninS ne_b37_b40 nin0)).ext E359).keep K365 (ninS ne_b37_b359 nin0))
      have y377 := ((((u38_3.ext E40).keep K355 (ninS ne_b37_b40 nin0)).ext E359).keep K365 (ninS ne_b37_b359 nin0))
      have y378 := ((((u38_4.ext E40).keep K355 (ninS ne_b37_b40 nin0)).ext E359).keep K365 (ninS ne_b37_b359 nin0))
      have y379 := (y367.keep K365)
      have y380 := ((((u38_5.ext E40).keep K355 (ninS ne_b37_b40 nin0)).ext E359).keep K365 (ninS ne_b37_b359 nin0))
      obtain ⟨cq374, kq374, q374a, q374b, q374c⟩ := isOf hZ rfl y379
      obtain ⟨_, _, ⟨T374, L374, k374, n374⟩, -, X374, ⟨Lc374, hQ374, l374, y374, z374⟩, st374⟩ := X365.virtualBack hx (y := (⟨"com/example/tenon/tenon/Assignments", "notKnown", "()V"⟩ : MethodName)) (z := (⟨"com/example/tenon/tenon/Assignments", "notKnown", "()V"⟩ : MethodName)) hown (mvT hZ (hw _ (List.mem_of_getElem? (i := 91) rfl))) (mvT hZ (hw _ (List.mem_of_getElem? (i := 92) rfl))) (notFace_of_selects (args := #[]) (mvT hZ (hw _ (List.mem_of_getElem? (i := 94) rfl)))) (mvT hZ (hw _ (List.mem_of_getElem? (i := 94) rfl))) (mvT hZ (hw _ (List.mem_of_getElem? (i := 93) rfl))) (by decide) (backOf (W := 0) (rm13 l Z a0' hw [] b37 (.ref b38_0) (.ref b36_0) .null (0 : Int32) T365.heap n0 Z365 y379 y375 y376 y377 y378 y380 g_b37) hZ (hw _ (List.mem_of_getElem? (i := 95) rfl)) (hw _ (List.mem_of_getElem? (i := 17) rfl)) (by decide) (by decide)) q374a q374c (g := (mkF m 159 #[.val (.int p0), .val (.int (f0_m5 p0)), .val (.int (f0_m10 p0)), .val (.int (f0_m15 p0)), .val (.int (f0_m20 p0)), .val (.int (f0_m25 p0)), .val (.int (f0_m30 p0)), .val (.int (f0_m35 p0)), .val (.ref b36_0), .val (.ref b37), .val (.ref b40), .val (.ref b359), .unset, .unset, .unset] [(.ref b37)])) rfl (by rw [hml]; rfl) (Steps.refl _) (argsL := []) (rest := []) (lenOf pd0 rfl) rfl (by show 2 * 0 + _ ≤ _; exact Nat.le_of_eq rfl) (hb hby at_159) (fun _ _ => ⟨rfl, rfl, (by decide : 10 + 0 ≤ _), (by decide : 65 + 0 ≤ _)⟩)
      dsimp only [Pt.U, Pt.locs, Pt.cells, Pt.slots] at X374 l374 y374 z374 st374 hQ374
      subst l374 y374 z374
      obtain ⟨rfl, N374q, K374, u374_0, u374_1, u374_2, u374_3, u374_4, u374_5⟩ := hQ374
      have N374 := Fr.app N365 N374q
      have Z374 : n0 ≤ T374.heap.size := Nat.le_trans Z365 K374.1
      have O374 : Old Z n0 T374.heap := O365.keep K374 (allS g_b37 all0)
      have pre381 : ∀ t, Steps p.tables e below (T374.setTop (mkF m 162 #[.val (.int p0), .val (.int (f0_m5 p0)), .val (.int (f0_m10 p0)), .val (.int (f0_m15 p0)), .val (.int (f0_m20 p0)), .val (.int (f0_m25 p0)), .val (.int (f0_m30 p0)), .val (.int (f0_m35 p0)), .val (.ref b36_0), .val (.ref b37), .val (.ref b40), .val (.ref b359), .unset, .unset, .unset] [])) t → Steps p.tables e below (s₁.setTop (entryFrame m #[(.int p0)] maxLocals)) t := fun t k => pre371 t (by
        show Steps p.tables e below (T365.setTop (mkF m 154 #[.val (.int p0), .val (.int (f0_m5 p0)), .val (.int (f0_m10 p0)), .val (.int (f0_m15 p0)), .val (.int (f0_m20 p0)), .val (.int (f0_m25 p0)), .val (.int (f0_m30 p0)), .val (.int (f0_m35 p0)), .val (.ref b36_0), .val (.ref b37), .val (.ref b40), .val (.ref b359), .unset, .unset, .unset] [(.int (f0_m30 p0))])) _
        refine XS.ifNo X365.here hx rfl (hb hby at_154) rfl ((if0 _ _).trans (feq hc154_372).1) ?_
        show Steps p.tables e below (T365.setTop (mkF m 157 #[.val (.int p0), .val (.int (f0_m5 p0)), .val (.int (f0_m10 p0)), .val (.int (f0_m15 p0)), .val (.int (f0_m20 p0)), .val (.int (f0_m25 p0)), .val (.int (f0_m30 p0)), .val (.int (f0_m35 p0)), .val (.ref b36_0), .val (.ref b37), .val (.ref b40), .val (.ref b359), .unset, .unset, .unset] [])) _
        refine XS.aload X365.here hx rfl (hb hby at_157) rfl rfl ?_
        show Steps p.tables e below (T365.setTop (mkF m 159 #[.val (.int p0), .val (.int (f0_m5 p0)), .val (.int (f0_m10 p0)), .val (.int (f0_m15 p0)), .val (.int (f0_m20 p0)), .val (.int (f0_m25 p0)), .val (.int (f0_m30 p0)), .val (.int (f0_m35 p0)), .val (.ref b36_0), .val (.ref b37), .val (.ref b40), .val (.ref b359), .unset, .unset, .unset] [(.ref b37)])) _
        refine st374.trans ?_
        exact k)
      have q_f0_m382 : f0_m382 p0 = (1 : Int32) := by unfold f0_m382; rw [if_neg hc154_372]
      rw [q_f0_m382]
      have y395 := ((y366.keep K365).keep K374)
      have y396 := (((((((u36_1.ext E37).keep K38 (ninS ne_b36_0_b37 nin0)).ext E40).keep K355 (ninS ne_b36_0_b40 nin0)).ext E359).keep K365 (ninS ne_b36_0_b359 nin0)).keep K374 (ninS ne_b36_0_b37 nin0))
      have y397 := (((((((u36_2.ext E37).keep K38 (ninS ne_b36_0_b37 nin0)).ext E40).keep K355 (ninS ne_b36_0_b40 nin0)).ext E359).keep K365 (ninS ne_b36_0_b359 nin0)).keep K374 (ninS ne_b36_0_b37 nin0))
      have y398 := ((y369.keep K365).keep K374)
      have y399 := (((u355_1.ext E359).keep K365 (ninS ne_b40_b359 nin0)).keep K374 (ninS (Ne.symm ne_b37_b40) nin0))
      have y400 := (((u355_2.ext E359).keep K365 (ninS ne_b40_b359 nin0)).keep K374 (ninS (Ne.symm ne_b37_b40) nin0))
      have y401 := (((u355_3.ext E359).keep K365 (ninS ne_b40_b359 nin0)).keep K374 (ninS (Ne.symm ne_b37_b40) nin0))
      have y402 := (((u355_4.ext E359).keep K365 (ninS ne_b40_b359 nin0)).keep K374 (ninS (Ne.symm ne_b37_b40) nin0))
      have y403 := (((u355_5.ext E359).keep K365 (ninS ne_b40_b359 nin0)).keep K374 (ninS (Ne.symm ne_b37_b40) nin0))
      have y404 := (u365_0.keep K374)
      have y405 := (u365_1.keep K374 (ninS (Ne.symm ne_b37_b359) nin0))
      have y406 := (u365_2.keep K374 (ninS (Ne.symm ne_b37_b359) nin0))
      have y407 := (u365_3.keep K374 (ninS (Ne.symm ne_b37_b359) nin0))
      have y408 := (u365_4.keep K374 (ninS (Ne.symm ne_b37_b359) nin0))
      have y409 := (u365_5.keep K374 (ninS (Ne.symm ne_b37_b359) nin0))
      have y410 := (u365_6.keep K374)
      have y411 := (u365_7.keep K374 (ninS (Ne.symm ne_b37_b365_0) nin0))
      have y412 := (u365_8.keep K374 (ninS (Ne.symm ne_b37_b365_0) nin0))
      have y413 := (u365_9.keep K374 (ninS (Ne.symm ne_b37_b365_0) nin0))
      exact ⟨T374, _, T374.heap, X374, rfl, N374, Z374, O374, y395, y396, y397, u374_0, u374_3, u374_4, y398, y399, y400, y401, y402, y403, y404, y405, y406, y407, y408, y409, y410, y411, y412, y413, pre381⟩
    have pre414 : ∀ t, Steps p.tables e below (T372.setTop (mkF m 164 #[.val (.int p0), .val (.int (f0_m5 p0)), .val (.int (f0_m10 p0)), .val (.int (f0_m15 p0)), .val (.int (f0_m20 p0)), .val (.int (f0_m25 p0)), .val (.int (f0_m30 p0)), .val (.int (f0_m35 p0)), .val (.ref b36_0), .val (.ref b37), .val (.ref b40), .val (.ref b359), .unset, .unset, .unset] [(.int (f0_m35 p0))])) t → Steps p.tables e below (s₁.setTop (entryFrame m #[(.int p0)] maxLocals)) t := fun t k => pre372 t (by
      show Steps p.tables e below (T372.setTop (mkF m 162 #[.val (.int p0), .val (.int (f0_m5 p0)), .val (.int (f0_m10 p0)), .val (.int (f0_m15 p0)), .val (.int (f0_m20 p0)), .val (.int (f0_m25 p0)), .val (.int (f0_m30 p0)), .val (.int (f0_m35 p0)), .val (.ref b36_0), .val (.ref b37), .val (.ref b40), .val (.ref b359), .unset, .unset, .unset] [])) _
      refine XS.iload X372.here hx rfl (hb hby at_162) rfl ?_
      exact k)
    obtain ⟨T415, L415, h415, X415, e415, N415, Z415, O415, fm415_0, fm415_1, fm415_2, fm415_3, fm415_4, fm415_5, fm415_6, fm415_7, fm415_8, fm415_9, fm415_10, fm415_11, fm415_12, fm415_13, fm415_14, fm415_15, fm415_16, fm415_17, fm415_18, pre415⟩ : ∃ (T' : State) (locs' : List Loc) (h' : Heap), Stand p l e room_1 s m #[(.int p0)] below meth c T' locs' 10 65 ∧ T'.heap = h' ∧ Fr n0 locs' ∧ n0 ≤ h'.size ∧ Old Z n0 h' ∧ Exa Z h' b36_0 "com/example/tenon/tenon/Budget" ∧ Fld Z h' b36_0 "com/example/tenon/tenon/Budget" "limit" "J" (.long (9223372036854775807 : Int64)) ∧ Fld Z h' b36_0 "com/example/tenon/tenon/Budget" "held" "J" (.long (0 : Int64)) ∧ Exa Z h' b37 "com/example/tenon/tenon/Assignments" ∧ Fld Z h' b37 "com/example/tenon/tenon/Assignments" "below" "Lcom/example/tenon/tenon/Assignments;" .null ∧ Fld Z h' b37 "com/example/tenon/tenon/Assignments" "blindness" "I" (.int (f0_m382 p0)) ∧ Exa Z h' b40 "com/example/tenon/tenon/Assignments" ∧ Fld Z h' b40 "com/example/tenon/tenon/Assignments" "below" "Lcom/example/tenon/tenon/Assignments;" (.ref b37) ∧ Fld Z h' b40 "com/example/tenon/tenon/Assignments" "blindness" "I" (.int (f0_m419 p0)) ∧ Exa Z h' b359 "com/example/tenon/tenon/Assignments" ∧ Fld Z h' b359 "com/example/tenon/tenon/Assignments" "changed" "Ljava/util/List;" (.ref b365_0) ∧ Fld Z h' b359 "com/example/tenon/tenon/Assignments" "budget" "Lcom/example/tenon/tenon/Budget;" (.ref b36_0) ∧ Fld Z h' b359 "com/example/tenon/tenon/Assignments" "below" "Lcom/example/tenon/tenon/Assignments;" .null ∧ Fld Z h' b359 "com/example/tenon/tenon/Assignments" "blindness" "I" (.int (0 : Int32)) ∧ Fld Z h' b359 "com/example/tenon/tenon/Assignments" "marks" "I" (.int (0 : Int32)) ∧ Exa Z h' b365_0 "java/util/ArrayList" ∧ Fld Z h' b365_0 "java/util/AbstractList" "modCount" "I" (.int (0 : Int32)) ∧ Fld Z h' b365_0 "java/util/ArrayList" "elementData" "[Ljava/lang/Object;" (.ref sD) ∧ Fld Z h' b365_0 "java/util/ArrayList" "size" "I" (.int (0 : Int32)) ∧ ∀ t, Steps p.tables e below (T'.setTop (mkF m 172 #[.val (.int p0), .val (.int (f0_m5 p0)), .val (.int (f0_m10 p0)), .val (.int (f0_m15 p0)), .val (.int (f0_m20 p0)), .val (.int (f0_m25 p0)), .val (.int (f0_m30 p0)), .val (.int (f0_m35 p0)), .val (.ref b36_0), .val (.ref b37), .val (.ref b40), .val (.ref b359), .unset, .unset, .unset] [])) t → Steps p.tables e below (s₁.setTop (entryFrame m #[(.int p0)] maxLocals)) t := by
      by_cases hc164_415 : (f0_m35 p0) = (0 : Int32)
      · have pre416 : ∀ t, Steps p.tables e below (T372.setTop (mkF m 172 #[.val (.int p0), .val (.int (f0_m5 p0)), .val (.int (f0_m10 p0)), .val (.int (f0_m15 p0)), .val (.int (f0_m20 p0)), .val (.int (f0_m25 p0)), .val (.int (f0_m30 p0)), .val (.int (f0_m35 p0)), .val (.ref b36_0), .val (.ref b37), .val (.ref b40), .val (.ref b359), .unset, .unset, .unset] [])) t → Steps p.tables e below (s₁.setTop (entryFrame m #[(.int p0)] maxLocals)) t := fun t k => pre414 t (by
          show Steps p.tables e below (T372.setTop (mkF m 164 #[.val (.int p0), .val (.int (f0_m5 p0)), .val (.int (f0_m10 p0)), .val (.int (f0_m15 p0)), .val (.int (f0_m20 p0)), .val (.int (f0_m25 p0)), .val (.int (f0_m30 p0)), .val (.int (f0_m35 p0)), .val (.ref b36_0), .val (.ref b37), .val (.ref b40), .val (.ref b359), .unset, .unset, .unset] [(.int (f0_m35 p0))])) _
          refine XS.ifYes X372.here hx rfl (pc0 := 164) (pc' := 172) rfl (hb hby at_164) rfl ((if0 _ _).trans (teq hc164_415).1) (by decide) (by decide) ?_
          exact k)
        have q_f0_m419 : f0_m419 p0 = (0 : Int32) := by unfold f0_m419; rw [if_pos hc164_415]
        rw [q_f0_m419]
        exact ⟨T372, _, h372, X372, e372, N372, Z372, O372, fm372_0, fm372_1, fm372_2, fm372_3, fm372_4, fm372_5, fm372_6, fm372_9, fm372_10, fm372_12, fm372_13, fm372_14, fm372_15, fm372_16, fm372_17, fm372_18, fm372_19, fm372_20, fm372_21, pre416⟩
      obtain ⟨cq417, kq417, q417a, q417b, q417c⟩ := isOf hZ e372 fm372_6
      obtain ⟨_, _, ⟨T417, L417, k417, n417⟩, -, X417, ⟨Lc417, hQ417, l417, y417, z417⟩, st417⟩ := X372.virtualBack hx (y := (⟨"com/example/tenon/tenon/Assignments", "notKnown", "()V"⟩ : MethodName)) (z := (⟨"com/example/tenon/tenon/Assignments", "notKnown", "()V"⟩ : MethodName)) hown (mvT hZ (hw _ (List.mem_of_getElem? (i := 91) rfl))) (mvT hZ (hw _ (List.mem_of_getElem? (i := 92) rfl))) (notFace_of_selects (args := #[]) (mvT hZ (hw _ (List.mem_of_getElem? (i := 94) rfl)))) (mvT hZ (hw _ (List.mem_of_getElem? (i := 94) rfl))) (mvT hZ (hw _ (List.mem_of_getElem? (i := 93) rfl))) (by decide) (backOf (W := 0) (rm13 l Z a0' hw [] b40 (.ref b355_0) (.ref b36_0) (.ref b37) (0 : Int32) h372 n0 Z372 fm372_6 fm372_7 fm372_8 fm372_9 fm372_10 fm372_11 g_b40) hZ (hw _ (List.mem_of_getElem? (i := 95) rfl)) (hw _ (List.mem_of_getElem? (i := 17) rfl)) (by decide) (by decide)) q417a q417c (g := (mkF m 169 #[.val (.int p0), .val (.int (f0_m5 p0)), .val (.int (f0_m10 p0)), .val (.int (f0_m15 p0)), .val (.int (f0_m20 p0)), .val (.int (f0_m25 p0)), .val (.int (f0_m30 p0)), .val (.int (f0_m35 p0)), .val (.ref b36_0), .val (.ref b37), .val (.ref b40), .val (.ref b359), .unset, .unset, .unset] [(.ref b40)])) rfl (by rw [hml]; rfl) (Steps.refl _) (argsL := []) (rest := []) (lenOf pd0 rfl) rfl (by show 2 * 0 + _ ≤ _; exact Nat.le_of_eq rfl) (hb hby at_169) (fun _ _ => ⟨rfl, e372, (by decide : 10 + 0 ≤ _), (by decide : 65 + 0 ≤ _)⟩)
      dsimp only [Pt.U, Pt.locs, Pt.cells, Pt.slots] at X417 l417 y417 z417 st417 hQ417
      subst l417 y417 z417
      obtain ⟨rfl, N417q, K417, u417_0, u417_1, u417_2, u417_3, u417_4, u417_5⟩ := hQ417
      have N417 := Fr.app N372 N417q
      have Z417 : n0 ≤ T417.heap.size := Nat.le_trans Z372 K417.1
      have O417 : Old Z n0 T417.heap := O372.keep K417 (allS g_b40 all0)
      have pre418 : ∀ t, Steps p.tables e below (T417.setTop (mkF m 172 #[.val (.int p0), .val (.int (f0_m5 p0)), .val (.int (f0_m10 p0)), .val (.int (f0_m15 p0)), .val (.int (f0_m20 p0)), .val (.int (f0_m25 p0)), .val (.int (f0_m30 p0)), .val (.int (f0_m35 p0)), .val (.ref b36_0), .val (.ref b37), .val (.ref b40), .val (.ref b359), .unset, .unset, .unset] [])) t → Steps p.tables e below (s₁.setTop (entryFrame m #[(.int p0)] maxLocals)) t := fun t k => pre414 t (by
        show Steps p.tables e below (T372.setTop (mkF m 164 #[.val (.int p0), .val (.int (f0_m5 p0)), .val (.int (f0_m10 p0)), .val (.int (f0_m15 p0)), .val (.int (f0_m20 p0)), .val (.int (f0_m25 p0)), .val (.int (f0_m30 p0)), .val (.int (f0_m35 p0)), .val (.ref b36_0), .val (.ref b37), .val (.ref b40), .val (.ref b359), .unset, .unset, .unset] [(.int (f0_m35 p0))])) _
        refine XS.ifNo X372.here hx rfl (hb hby at_164) rfl ((if0 _ _).trans (feq hc164_415).1) ?_
        show Steps p.tables e below (T372.setTop (mkF m 167 #[.val (.int p0), .val (.int (f0_m5 p0)), .val (.int (f0_m10 p0)), .val (.int (f0_m15 p0)), .val (.int (f0_m20 p0)), .val (.int (f0_m25 p0)), .val (.int (f0_m30 p0)), .val (.int (f0_m35 p0)), .val (.ref b36_0), .val (.ref b37), .val (.ref b40), .val (.ref b359), .unset, .unset, .unset] [])) _
        refine XS.aload X372.here hx rfl (hb hby at_167) rfl rfl ?_
        show Steps p.tables e below (T372.setTop (mkF m 169 #[.val (.int p0), .val (.int (f0_m5 p0)), .val (.int (f0_m10 p0)), .val (.int (f0_m15 p0)), .val (.int (f0_m20 p0)), .val (.int (f0_m25 p0)), .val (.int (f0_m30 p0)), .val (.int (f0_m35 p0)), .val (.ref b36_0), .val (.ref b37), .val (.ref b40), .val (.ref b359), .unset, .unset, .unset] [(.ref b40)])) _
        refine st417.trans ?_
        exact k)
      have q_f0_m419 : f0_m419 p0 = (1 : Int32) := by unfold f0_m419; rw [if_neg hc164_415]
      rw [q_f0_m419]
      have y420 := (fm372_0.keep K417)
      have y421 := (fm372_1.keep K417 (ninS ne_b36_0_b40 nin0))
      have y422 := (fm372_2.keep K417 (ninS ne_b36_0_b40 nin0))
      have y423 := (fm372_3.keep K417)
      have y424 := (fm372_4.keep K417 (ninS ne_b37_b40 nin0))
      have y425 := (fm372_5.keep K417 (ninS ne_b37_b40 nin0))
      have y426 := (fm372_12.keep K417)
      have y427 := (fm372_13.keep K417 (ninS (Ne.symm ne_b40_b359) nin0))
      have y428 := (fm372_14.keep K417 (ninS (Ne.symm ne_b40_b359) nin0))
      have y429 := (fm372_15.keep K417 (ninS (Ne.symm ne_b40_b359) nin0))
      have y430 := (fm372_16.keep K417 (ninS (Ne.symm ne_b40_b359) nin0))
      have y431 := (fm372_17.keep K417 (ninS (Ne.symm ne_b40_b359) nin0))
      have y432 := (fm372_18.keep K417)
      have y433 := (fm372_19.keep K417 (ninS (Ne.symm ne_b40_b365_0) nin0))
      have y434 := (fm372_20.keep K417 (ninS (Ne.symm ne_b40_b365_0) nin0))
      have y435 := (fm372_21.keep K417 (ninS (Ne.symm ne_b40_b365_0) nin0))
      exact ⟨T417, _, T417.heap, X417, rfl, N417, Z417, O417, y420, y421, y422, y423, y424, y425, u417_0, u417_3, u417_4, y426, y427, y428, y429, y430, y431, y432, y433, y434, y435, pre418⟩
    have pre436 : ∀ t, Steps p.tables e below (T415.setTop (mkF m 173 #[.val (.int p0), .val (.int (f0_m5 p0)), .val (.int (f0_m10 p0)), .val (.int (f0_m15 p0)), .val (.int (f0_m20 p0)), .val (.int (f0_m25 p0)), .val (.int (f0_m30 p0)), .val (.int (f0_m35 p0)), .val (.ref b36_0), .val (.ref b37), .val (.ref b40), .val (.ref b359), .unset, .unset, .unset] [(.int (f0_m5 p0))])) t → Steps p.tables e below (s₁.setTop (entryFrame m #[(.int p0)] maxLocals)) t := fun t k => pre415 t (by
      show Steps p.tables e below (T415.setTop (mkF m 172 #[.val (.int p0), .val (.int (f0_m5 p0)), .val (.int (f0_m10 p0)), .val (.int (f0_m15 p0)), .val (.int (f0_m20 p0)), .val (.int (f0_m25 p0)), .val (.int (f0_m30 p0)), .val (.int (f0_m35 p0)), .val (.ref b36_0), .val (.ref b37), .val (.ref b40), .val (.ref b359), .unset, .unset, .unset] [])) _
      refine XS.iloadN X415.here hx rfl (hb hby at_172) rfl ?_
      exact k)
    obtain ⟨T437, L437, h437, X437, e437, N437, Z437, O437, fm437_0, fm437_1, fm437_2, fm437_3, fm437_4, fm437_5, fm437_6, fm437_7, fm437_8, fm437_9, fm437_10, fm437_11, fm437_12, fm437_13, fm437_14, fm437_15, fm437_16, fm437_17, fm437_18, pre437⟩ : ∃ (T' : State) (locs' : List Loc) (h' : Heap), Stand p l e room_1 s m #[(.int p0)] below meth c T' locs' 10 65 ∧ T'.heap = h' ∧ Fr n0 locs' ∧ n0 ≤ h'.size ∧ Old Z n0 h' ∧ Exa Z h' b36_0 "com/example/tenon/tenon/Budget" ∧ Fld Z h' b36_0 "com/example/tenon/tenon/Budget" "limit" "J" (.long (9223372036854775807 : Int64)) ∧ Fld Z h' b36_0 "com/example/tenon/tenon/Budget" "held" "J" (.long (0 : Int64)) ∧ Exa Z h' b37 "com/example/tenon/tenon/Assignments" ∧ Fld Z h' b37 "com/example/tenon/tenon/Assignments" "below" "Lcom/example/tenon/tenon/Assignments;" .null ∧ Fld Z h' b37 "com/example/tenon/tenon/Assignments" "blindness" "I" (.int (f0_m382 p0)) ∧ Exa Z h' b40 "com/example/tenon/tenon/Assignments" ∧ Fld Z h' b40 "com/example/tenon/tenon/Assignments" "below" "Lcom/example/tenon/tenon/Assignments;" (.ref b37) ∧ Fld Z h' b40 "com/example/tenon/tenon/Assignments" "blindness" "I" (.int (f0_m419 p0)) ∧ Exa Z h' b359 "com/example/tenon/tenon/Assignments" ∧ Fld Z h' b359 "com/example/tenon/tenon/Assignments" "changed" "Ljava/util/List;" (.ref b365_0) ∧ Fld Z h' b359 "com/example/tenon/tenon/Assignments" "budget" "Lcom/example/tenon/tenon/Budget;" (.ref b36_0) ∧ Fld Z h' b359 "com/example/tenon/tenon/Assignments" "below" "Lcom/example/tenon/tenon/Assignments;" .null ∧ Fld Z h' b359 "com/example/tenon/tenon/Assignments" "blindness" "I" (.int (f0_m441 p0)) ∧ Fld Z h' b359 "com/example/tenon/tenon/Assignments" "marks" "I" (.int (0 : Int32)) ∧ Exa Z h' b365_0 "java/util/ArrayList" ∧ Fld Z h' b365_0 "java/util/AbstractList" "modCount" "I" (.int (0 : Int32)) ∧ Fld Z h' b365_0 "java/util/ArrayList" "elementData" "[Ljava/lang/Object;" (.ref sD) ∧ Fld Z h' b365_0 "java/util/ArrayList" "size" "I" (.int (0 : Int32)) ∧ ∀ t, Steps p.tables e below (T'.setTop (mkF m 181 #[.val (.int p0), .val (.int (f0_m5 p0)), .val (.int (f0_m10 p0)), .val (.int (f0_m15 p0)), .val (.int (f0_m20 p0)), .val (.int (f0_m25 p0)), .val (.int (f0_m30 p0)), .val (.int (f0_m35 p0)), .val (.ref b36_0), .val (.ref b37), .val (.ref b40), .val (.ref b359), .unset, .unset, .unset] [])) t → Steps p.tables e below (s₁.setTop (entryFrame m #[(.int p0)] maxLocals)) t := by
      by_cases hc173_437 : (f0_m5 p0) = (0 : Int32)
      · have pre438 : ∀ t, Steps p.tables e below (T415.setTop (mkF m 181 #[.val (.int p0), .val (.int (f0_m5 p0)), .val (.int (f0_m10 p0)), .val (.int (f0_m15 p0)), .val (.int (f0_m20 p0)), .val (.int (f0_m25 p0)), .val (.int (f0_m30 p0)), .val (.int (f0_m35 p0)), .val (.ref b36_0), .val (.ref b37), .val (.ref b40), .val (.ref b359), .unset, .unset, .unset] [])) t → Steps p.tables e below (s₁.setTop (entryFrame m #[(.int p0)] maxLocals)) t := fun t k => pre436 t (by
          show Steps p.tables e below (T415.setTop (mkF m 173 #[.val (.int p0), .val (.int (f0_m5 p0)), .val (.int (f0_m10 p0)), .val (.int (f0_m15 p0)), .val (.int (f0_m20 p0)), .val (.int (f0_m25 p0)), .val (.int (f0_m30 p0)), .val (.int (f0_m35 p0)), .val (.ref b36_0), .val (.ref b37), .val (.ref b40), .val (.ref b359), .unset, .unset, .unset] [(.int (f0_m5 p0))])) _
          refine XS.ifYes X415.here hx rfl (pc0 := 173) (pc' := 181) rfl (hb hby at_173) rfl ((if0 _ _).trans (teq hc173_437).1) (by decide) (by decide) ?_
          exact k)
        have q_f0_m441 : f0_m441 p0 = (0 : Int32) := by unfold f0_m441; rw [if_pos hc173_437]
        rw [q_f0_m441]
        exact ⟨T415, _, h415, X415, e415, N415, Z415, O415, fm415_0, fm415_1, fm415_2, fm415_3, fm415_4, fm415_5, fm415_6, fm415_7, fm415_8, fm415_9, fm415_10, fm415_11, fm415_12, fm415_13, fm415_14, fm415_15, fm415_16, fm415_17, fm415_18, pre438⟩
      obtain ⟨cq439, kq439, q439a, q439b, q439c⟩ := isOf hZ e415 fm415_9
      obtain ⟨_, _, ⟨T439, L439, k439, n439⟩, -, X439, ⟨Lc439, hQ439, l439, y439, z439⟩, st439⟩ := X415.virtualBack hx (y := (⟨"com/example/tenon/tenon/Assignments", "notKnown", "()V"⟩ : MethodName)) (z := (⟨"com/example/tenon/tenon/Assignments", "notKnown", "()V"⟩ : MethodName)) hown (mvT hZ (hw _ (List.mem_of_getElem? (i := 91) rfl))) (mvT hZ (hw _ (List.mem_of_getElem? (i := 92) rfl))) (notFace_of_selects (args := #[]) (mvT hZ (hw _ (List.mem_of_getElem? (i := 94) rfl)))) (mvT hZ (hw _ (List.mem_of_getElem? (i := 94) rfl))) (mvT hZ (hw _ (List.mem_of_getElem? (i := 93) rfl))) (by decide) (backOf (W := 0) (rm13 l Z a0' hw [] b359 (.ref b365_0) (.ref b36_0) .null (0 : Int32) h415 n0 Z415 fm415_9 fm415_10 fm415_11 fm415_12 fm415_13 fm415_14 g_b359) hZ (hw _ (List.mem_of_getElem? (i := 95) rfl)) (hw _ (List.mem_of_getElem? (i := 17) rfl)) (by decide) (by decide)) q439a q439c (g := (mkF m 178 #[.val (.int p0), .val (.int (f0_m5 p0)), .val (.int (f0_m10 p0)), .val (.int (f0_m15 p0)), .val (.int (f0_m20 p0)), .val (.int (f0_m25 p0)), .val (.int (f0_m30 p0)), .val (.int (f0_m35 p0)), .val (.ref b36_0), .val (.ref b37), .val (.ref b40), .val (.ref b359), .unset, .unset, .unset] [(.ref b359)])) rfl (by rw [hml]; rfl) (Steps.refl _) (argsL := []) (rest := []) (lenOf pd0 rfl) rfl (by show 2 * 0 + _ ≤ _; exact Nat.le_of_eq rfl) (hb hby at_178) (fun _ _ => ⟨rfl, e415, (by decide : 10 + 0 ≤ _), (by decide : 65 + 0 ≤ _)⟩)
      dsimp only [Pt.U, Pt.locs, Pt.cells, Pt.slots] at X439 l439 y439 z439 st439 hQ439
      subst l439 y439 z439
      obtain ⟨rfl, N439q, K439, u439_0, u439_1, u439_2, u439_3, u439_4, u439_5⟩ := hQ439
      have N439 := Fr.app N415 N439q
      have Z439 : n0 ≤ T439.heap.size := Nat.le_trans Z415 K439.1
      have O439 : Old Z n0 T439.heap := O415.keep K439 (allS g_b359 all0)
      have pre440 : ∀ t, Steps p.tables e below (T439.setTop (mkF m 181 #[.val (.int p0), .val (.int (f0_m5 p0)), .val (.int (f0_m10 p0)), .val (.int (f0_m15 p0)), .val (.int (f0_m20 p0)), .val (.int (f0_m25 p0)), .val (.int (f0_m30 p0)), .val (.int (f0_m35 p0)), .val (.ref b36_0), .val (.ref b37), .val (.ref b40), .val (.ref b359), .unset, .unset, .unset] [])) t → Steps p.tables e below (s₁.setTop (entryFrame m #[(.int p0)] maxLocals)) t := fun t k => pre436 t (by
        show Steps p.tables e below (T415.setTop (mkF m 173 #[.val (.int p0), .val (.int (f0_m5 p0)), .val (.int (f0_m10 p0)), .val (.int (f0_m15 p0)), .val (.int (f0_m20 p0)), .val (.int (f0_m25 p0)), .val (.int (f0_m30 p0)), .val (.int (f0_m35 p0)), .val (.ref b36_0), .val (.ref b37), .val (.ref b40), .val (.ref b359), .unset, .unset, .unset] [(.int (f0_m5 p0))])) _
        refine XS.ifNo X415.here hx rfl (hb hby at_173) rfl ((if0 _ _).trans (feq hc173_437).1) ?_
        show Steps p.tables e below (T415.setTop (mkF m 176 #[.val (.int p0), .val (.int (f0_m5 p0)), .val (.int (f0_m10 p0)), .val (.int (f0_m15 p0)), .val (.int (f0_m20 p0)), .val (.int (f0_m25 p0)), .val (.int (f0_m30 p0)), .val (.int (f0_m35 p0)), .val (.ref b36_0), .val (.ref b37), .val (.ref b40), .val (.ref b359), .unset, .unset, .unset] [])) _
        refine XS.aload X415.here hx rfl (hb hby at_176) rfl rfl ?_
        show Steps p.tables e below (T415.setTop (mkF m 178 #[.val (.int p0), .val (.int (f0_m5 p0)), .val (.int (f0_m10 p0)), .val (.int (f0_m15 p0)), .val (.int (f0_m20 p0)), .val (.int (f0_m25 p0)), .val (.int (f0_m30 p0)), .val (.int (f0_m35 p0)), .val (.ref b36_0), .val (.ref b37), .val (.ref b40), .val (.ref b359), .unset, .unset, .unset] [(.ref b359)])) _
        refine st439.trans ?_
        exact k)
      have q_f0_m441 : f0_m441 p0 = (1 : Int32) := by unfold f0_m441; rw [if_neg hc173_437]
      rw [q_f0_m441]
      have y442 := (fm415_0.keep K439)
      have y443 := (fm415_1.keep K439 (ninS ne_b36_0_b359 nin0))
      have y444 := (fm415_2.keep K439 (ninS ne_b36_0_b359 nin0))
      have y445 := (fm415_3.keep K439)
      have y446 := (fm415_4.keep K439 (ninS ne_b37_b359 nin0))
      have y447 := (fm415_5.keep K439 (ninS ne_b37_b359 nin0))
      have y448 := (fm415_6.keep K439)
      have y449 := (fm415_7.keep K439 (ninS ne_b40_b359 nin0))
      have y450 := (fm415_8.keep K439 (ninS ne_b40_b359 nin0))
      have y451 := (fm415_15.keep K439)
      have y452 := (fm415_16.keep K439 (ninS (Ne.symm ne_b359_b365_0) nin0))
      have y453 := (fm415_17.keep K439 (ninS (Ne.symm ne_b359_b365_0) nin0))
      have y454 := (fm415_18.keep K439 (ninS (Ne.symm ne_b359_b365_0) nin0))
      exact ⟨T439, _, T439.heap, X439, rfl, N439, Z439, O439, y442, y443, y444, y445, y446, y447, y448, y449, y450, u439_0, u439_1, u439_2, u439_3, u439_4, u439_5, y451, y452, y453, y454, pre440⟩
    have pre455 : ∀ t, Steps p.tables e below (T437.setTop (mkF m 182 #[.val (.int p0), .val (.int (f0_m5 p0)), .val (.int (f0_m10 p0)), .val (.int (f0_m15 p0)), .val (.int (f0_m20 p0)), .val (.int (f0_m25 p0)), .val (.int (f0_m30 p0)), .val (.int (f0_m35 p0)), .val (.ref b36_0), .val (.ref b37), .val (.ref b40), .val (.ref b359), .unset, .unset, .unset] [(.int (f0_m10 p0))])) t → Steps p.tables e below (s₁.setTop (entryFrame m #[(.int p0)] maxLocals)) t := fun t k => pre437 t (by
      show Steps p.tables e below (T437.setTop (mkF m 181 #[.val (.int p0), .val (.int (f0_m5 p0)), .val (.int (f0_m10 p0)), .val (.int (f0_m15 p0)), .val (.int (f0_m20 p0)), .val (.int (f0_m25 p0)), .val (.int (f0_m30 p0)), .val (.int (f0_m35 p0)), .val (.ref b36_0), .val (.ref b37), .val (.ref b40), .val (.ref b359), .unset, .unset, .unset] [])) _
      refine XS.iloadN X437.here hx rfl (hb hby at_181) rfl ?_
      exact k)
    obtain ⟨T456, L456, h456, s456_12, X456, e456, N456, Z456, O456, fm456_0, fm456_1, fm456_2, fm456_3, fm456_4, fm456_5, fm456_6, fm456_7, fm456_8, hs456_12, pre456⟩ : ∃ (T' : State) (locs' : List Loc) (h' : Heap) (s456_12 : Slot), Stand p l e room_1 s m #[(.int p0)] below meth c T' locs' 12 77 ∧ T'.heap = h' ∧ Fr n0 locs' ∧ n0 ≤ h'.size ∧ Old Z n0 h' ∧ Exa Z h' b37 "com/example/tenon/tenon/Assignments" ∧ Fld Z h' b37 "com/example/tenon/tenon/Assignments" "below" "Lcom/example/tenon/tenon/Assignments;" .null ∧ Fld Z h' b37 "com/example/tenon/tenon/Assignments" "blindness" "I" (.int (f0_m382 p0)) ∧ Exa Z h' b40 "com/example/tenon/tenon/Assignments" ∧ Fld Z h' b40 "com/example/tenon/tenon/Assignments" "below" "Lcom/example/tenon/tenon/Assignments;" (.ref b37) ∧ Fld Z h' b40 "com/example/tenon/tenon/Assignments" "blindness" "I" (.int (f0_m419 p0)) ∧ Exa Z h' b359 "com/example/tenon/tenon/Assignments" ∧ Fld Z h' b359 "com/example/tenon/tenon/Assignments" "below" "Lcom/example/tenon/tenon/Assignments;" .null ∧ Fld Z h' b359 "com/example/tenon/tenon/Assignments" "blindness" "I" (.int (f0_m474 p0)) ∧ One s456_12 ∧ ∀ t, Steps p.tables e below (T'.setTop (mkF m 208 #[.val (.int p0), .val (.int (f0_m5 p0)), .val (.int (f0_m10 p0)), .val (.int (f0_m15 p0)), .val (.int (f0_m20 p0)), .val (.int (f0_m25 p0)), .val (.int (f0_m30 p0)), .val (.int (f0_m35 p0)), .val (.ref b36_0), .val (.ref b37), .val (.ref b40), .val (.ref b359), s456_12, .unset, .unset] [])) t → Steps p.tables e below (s₁.setTop (entryFrame m #[(.int p0)] maxLocals)) t := by
      by_cases hc182_456 : (f0_m10 p0) = (0 : Int32)
      · have pre457 : ∀ t, Steps p.tables e below (T437.setTop (mkF m 208 #[.val (.int p0), .val (.int (f0_m5 p0)), .val (.int (f0_m10 p0)), .val (.int (f0_m15 p0)), .val (.int (f0_m20 p0)), .val (.int (f0_m25 p0)), .val (.int (f0_m30 p0)), .val (.int (f0_m35 p0)), .val (.ref b36_0), .val (.ref b37), .val (.ref b40), .val (.ref b359), .unset, .unset, .unset] [])) t → Steps p.tables e below (s₁.setTop (entryFrame m #[(.int p0)] maxLocals)) t := fun t k => pre455 t (by
          show Steps p.tables e below (T437.setTop (mkF m 182 #[.val (.int p0), .val (.int (f0_m5 p0)), .val (.int (f0_m10 p0)), .val (.int (f0_m15 p0)), .val (.int (f0_m20 p0)), .val (.int (f0_m25 p0)), .val (.int (f0_m30 p0)), .val (.int (f0_m35 p0)), .val (.ref b36_0), .val (.ref b37), .val (.ref b40), .val (.ref b359), .unset, .unset, .unset] [(.int (f0_m10 p0))])) _
          refine XS.ifYes X437.here hx rfl (pc0 := 182) (pc' := 208) rfl (hb hby at_182) rfl ((if0 _ _).trans (teq hc182_456).1) (by decide) (by decide) ?_
          exact k)
        have q_f0_m474 : f0_m474 p0 = (f0_m441 p0) := by unfold f0_m474; rw [if_pos hc182_456]
        rw [q_f0_m474]
        exact ⟨T437, _, h437, .unset, (X437.more (by decide) (by decide)), e437, N437, Z437, O437, fm437_3, fm437_4, fm437_5, fm437_6, fm437_7, fm437_8, fm437_9, fm437_12, fm437_13, One.u, pre457⟩
      obtain ⟨cq458, kq458, q458a, q458b, q458c⟩ := isOf hZ e437 fm437_9
      obtain ⟨_, _, ⟨T458, L458, k458, n458⟩, -, X458, ⟨Lc458, hQ458, l458, y458, z458⟩, st458⟩ := X437.virtualBack hx (y := (⟨"com/example/tenon/tenon/Assignments", "mark", "()I"⟩ : MethodName)) (z := (⟨"com/example/tenon/tenon/Assignments", "mark", "()I"⟩ : MethodName)) hown (mvT hZ (hw _ (List.mem_of_getElem? (i := 98) rfl))) (mvT hZ (hw _ (List.mem_of_getElem? (i := 99) rfl))) (notFace_of_selects (args := #[]) (mvT hZ (hw _ (List.mem_of_getElem? (i := 101) rfl)))) (mvT hZ (hw _ (List.mem_of_getElem? (i := 101) rfl))) (mvT hZ (hw _ (List.mem_of_getElem? (i := 100) rfl))) (by decide) (backOf (W := 0) (rm14 l Z a0' hw [] b359 b365_0 (.ref b36_0) .null (f0_m441 p0) h437 n0 Z437 fm437_9 fm437_15 fm437_10 fm437_11 fm437_12 fm437_13 fm437_14 fm437_18 g_b359) hZ (hw _ (List.mem_of_getElem? (i := 102) rfl)) (hw _ (List.mem_of_getElem? (i := 17) rfl)) (by decide) (by decide)) q458a q458c (g := (mkF m 187 #[.val (.int p0), .val (.int (f0_m5 p0)), .val (.int (f0_m10 p0)), .val (.int (f0_m15 p0)), .val (.int (f0_m20 p0)), .val (.int (f0_m25 p0)), .val (.int (f0_m30 p0)), .val (.int (f0_m35 p0)), .val (.ref b36_0), .val (.ref b37), .val (.ref b40), .val (.ref b359), .unset, .unset, .unset] [(.ref b359)])) rfl (by rw [hml]; rfl) (Steps.refl _) (argsL := []) (rest := []) (lenOf pd10 rfl) rfl (by show 2 * 0 + _ ≤ _; exact Nat.le_of_eq rfl) (hb hby at_187) (fun _ _ => ⟨rfl, e437, (by decide : 10 + 0 ≤ _), (by decide : 65 + 0 ≤ _)⟩)
      dsimp only [Pt.U, Pt.locs, Pt.cells, Pt.slots] at X458 l458 y458 z458 st458 hQ458
      subst l458 y458 z458
      obtain ⟨rfl, N458q, K458, u458_0, u458_1, u458_2, u458_3, u458_4, u458_5⟩ := hQ458
      have N458 := Fr.app N437 N458q
      have Z458 : n0 ≤ T458.heap.size := Nat.le_trans Z437 K458.1
      have O458 : Old Z n0 T458.heap := O437.keep K458 (allS g_b359 all0)
      have y460 := (fm437_1.keep K458 (ninS ne_b36_0_b359 nin0))
      have y461 := (fm437_2.keep K458 (ninS ne_b36_0_b359 nin0))
      have y462 := (fm437_16.keep K458 (ninS (Ne.symm ne_b359_b365_0) nin0))
      have y463 := (fm437_0.keep K458)
      have y464 := (fm437_15.keep K458)
      have y465 := (fm437_17.keep K458 (ninS (Ne.symm ne_b359_b365_0) nin0))
      have y466 := (fm437_18.keep K458 (ninS (Ne.symm ne_b359_b365_0) nin0))
      obtain ⟨cq459, kq459, q459a, q459b, q459c⟩ := isOf hZ rfl u458_0
      obtain ⟨_, _, ⟨T459, L459, k459, n459⟩, -, X459, ⟨Lc459, hQ459, l459, y459, z459⟩, st459⟩ := X458.virtualBack hx (y := (⟨"com/example/tenon/tenon/Assignments", "notKnown", "()V"⟩ : MethodName)) (z := (⟨"com/example/tenon/tenon/Assignments", "notKnown", "()V"⟩ : MethodName)) hown (mvT hZ (hw _ (List.mem_of_getElem? (i := 91) rfl))) (mvT hZ (hw _ (List.mem_of_getElem? (i := 92) rfl))) (notFace_of_selects (args := #[]) (mvT hZ (hw _ (List.mem_of_getElem? (i := 94) rfl)))) (mvT hZ (hw _ (List.mem_of_getElem? (i := 94) rfl))) (mvT hZ (hw _ (List.mem_of_getElem? (i := 93) rfl))) (by decide) (backOf (W := 0) (rm13m l Z a0' hw [] b359 b365_0 b36_0 .null (f0_m441 p0) (9223372036854775807 : Int64) (0 : Int64) (0 : Int32) sD kS_sD T458.heap n0 Z458 u458_0 y463 y464 u458_1 u458_2 u458_3 u458_4 u458_5 y460 y461 y462 y465 y466 g_b36_0 g_b365_0 g_b359 O458 VS_sD S_sD (by decide)) hZ (hw _ (List.mem_of_getElem? (i := 95) rfl)) (hw _ (List.mem_of_getElem? (i := 17) rfl)) (by decide) (by decide)) q459a q459c (g := (mkF m 194 #[.val (.int p0), .val (.int (f0_m5 p0)), .val (.int (f0_m10 p0)), .val (.int (f0_m15 p0)), .val (.int (f0_m20 p0)), .val (.int (f0_m25 p0)), .val (.int (f0_m30 p0)), .val (.int (f0_m35 p0)), .val (.ref b36_0), .val (.ref b37), .val (.ref b40), .val (.ref b359), .val (.int (0 : Int32)), .unset, .unset] [(.ref b359)])) rfl (by rw [hml]; rfl) (Steps.refl _) (argsL := []) (rest := []) (lenOf pd0 rfl) rfl (by show 2 * 0 + _ ≤ _; exact Nat.le_of_eq rfl) (hb hby at_194) (fun _ _ => ⟨rfl, rfl, (by decide : 10 + 2 ≤ _), (by decide : 65 + 12 ≤ _)⟩)
      dsimp only [Pt.U, Pt.locs, Pt.cells, Pt.slots] at X459 l459 y459 z459 st459 hQ459
      subst l459 y459 z459
      have y467 := (fm437_3.keep K458)
      have y468 := (fm437_6.keep K458)
      obtain ⟨b459_0, b459_1, rfl, N459q, gs_b459_0, g_b459_0, gs_b459_1, g_b459_1, K459, u459_0, u459_1, u459_2, u459_3, u459_4, u459_5, u459_6, u459_7, u459_8, u459_9, u459_10, u459_11, u459_12, u459_13, u459_14, u459_15, u459_16⟩ := hQ459
      have N459 := Fr.app N458 N459q
      have ne_b36_0_b459_0 : b36_0 ≠ b459_0 := Nat.ne_of_lt (Nat.lt_of_lt_of_le y463.lt gs_b459_0)
      have ne_b37_b459_0 : b37 ≠ b459_0 := Nat.ne_of_lt (Nat.lt_of_lt_of_le y467.lt gs_b459_0)
      have ne_b40_b459_0 : b40 ≠ b459_0 := Nat.ne_of_lt (Nat.lt_of_lt_of_le y468.lt gs_b459_0)
      have ne_b359_b459_0 : b359 ≠ b459_0 := Nat.ne_of_lt (Nat.lt_of_lt_of_le u458_0.lt gs_b459_0)
      have ne_b365_0_b459_0 : b365_0 ≠ b459_0 := Nat.ne_of_lt (Nat.lt_of_lt_of_le y464.lt gs_b459_0)
      have ne_b36_0_b459_1 : b36_0 ≠ b459_1 := Nat.ne_of_lt (Nat.lt_of_lt_of_le y463.lt gs_b459_1)
      have ne_b37_b459_1 : b37 ≠ b459_1 := Nat.ne_of_lt (Nat.lt_of_lt_of_le y467.lt gs_b459_1)
      have ne_b40_b459_1 : b40 ≠ b459_1 := Nat.ne_of_lt (Nat.lt_of_lt_of_le y468.lt gs_b459_1)
      have ne_b359_b459_1 : b359 ≠ b459_1 := Nat.ne_of_lt (Nat.lt_of_lt_of_le u458_0.lt gs_b459_1)
      have ne_b365_0_b459_1 : b365_0 ≠ b459_1 := Nat.ne_of_lt (Nat.lt_of_lt_of_le y464.lt gs_b459_1)
      have Z459 : n0 ≤ T459.heap.size := Nat.le_trans Z458 K459.1
      have O459 : Old Z n0 T459.heap := O458.keep K459 (allS g_b36_0 (allS g_b365_0 (allS g_b359 all0)))
      obtain ⟨kk_u459_13, u459_13, ov_u459_13⟩ := u459_13
      have pre469 : ∀ t, Steps p.tables e below (T459.setTop (mkF m 198 #[.val (.int p0), .val (.int (f0_m5 p0)), .val (.int (f0_m10 p0)), .val (.int (f0_m15 p0)), .val (.int (f0_m20 p0)), .val (.int (f0_m25 p0)), .val (.int (f0_m30 p0)), .val (.int (f0_m35 p0)), .val (.ref b36_0), .val (.ref b37), .val (.ref b40), .val (.ref b359), .val (.int (0 : Int32)), .unset, .unset] [(.int (f0_m15 p0))])) t → Steps p.tables e below (s₁.setTop (entryFrame m #[(.int p0)] maxLocals)) t := fun t k => pre455 t (by
        show Steps p.tables e below (T437.setTop (mkF m 182 #[.val (.int p0), .val (.int (f0_m5 p0)), .val (.int (f0_m10 p0)), .val (.int (f0_m15 p0)), .val (.int (f0_m20 p0)), .val (.int (f0_m25 p0)), .val (.int (f0_m30 p0)), .val (.int (f0_m35 p0)), .val (.ref b36_0), .val (.ref b37), .val (.ref b40), .val (.ref b359), .unset, .unset, .unset] [(.int (f0_m10 p0))])) _
        refine XS.ifNo X437.here hx rfl (hb hby at_182) rfl ((if0 _ _).trans (feq hc182_456).1) ?_
        show Steps p.tables e below (T437.setTop (mkF m 185 #[.val (.int p0), .val (.int (f0_m5 p0)), .val (.int (f0_m10 p0)), .val (.int (f0_m15 p0)), .val (.int (f0_m20 p0)), .val (.int (f0_m25 p0)), .val (.int (f0_m30 p0)), .val (.int (f0_m35 p0)), .val (.ref b36_0), .val (.ref b37), .val (.ref b40), .val (.ref b359), .unset, .unset, .unset] [])) _
        refine XS.aload X437.here hx rfl (hb hby at_185) rfl rfl ?_
        show Steps p.tables e below (T437.setTop (mkF m 187 #[.val (.int p0), .val (.int (f0_m5 p0)), .val (.int (f0_m10 p0)), .val (.int (f0_m15 p0)), .val (.int (f0_m20 p0)), .val (.int (f0_m25 p0)), .val (.int (f0_m30 p0)), .val (.int (f0_m35 p0)), .val (.ref b36_0), .val (.ref b37), .val (.ref b40), .val (.ref b359), .unset, .unset, .unset] [(.ref b359)])) _
        refine st458.trans ?_
        show Steps p.tables e below (T458.setTop (mkF m 190 #[.val (.int p0), .val (.int (f0_m5 p0)), .val (.int (f0_m10 p0)), .val (.int (f0_m15 p0)), .val (.int (f0_m20 p0)), .val (.int (f0_m25 p0)), .val (.int (f0_m30 p0)), .val (.int (f0_m35 p0)), .val (.ref b36_0), .val (.ref b37), .val (.ref b40), .val (.ref b359), .unset, .unset, .unset] [(.int (0 : Int32))])) _
        refine XS.istore X458.here hx rfl (hb hby at_190) rfl (l' := #[.val (.int p0), .val (.int (f0_m5 p0)), .val (.int (f0_m10 p0)), .val (.int (f0_m15 p0)), .val (.int (f0_m20 p0)), .val (.int (f0_m25 p0)), .val (.int (f0_m30 p0)), .val (.int (f0_m35 p0)), .val (.ref b36_0), .val (.ref b37), .val (.ref b40), .val (.ref b359), .val (.int (0 : Int32)), .unset, .unset]) rfl ?_
        show Steps p.tables e below (T458.setTop (mkF m 192 #[.val (.int p0), .val (.int (f0_m5 p0)), .val (.int (f0_m10 p0)), .val (.int (f0_m15 p0)), .val (.int (f0_m20 p0)), .val (.int (f0_m25 p0)), .val (.int (f0_m30 p0)), .val (.int (f0_m35 p0)), .val (.ref b36_0), .val (.ref b37), .val (.ref b40), .val (.ref b359), .val (.int (0 : Int32)), .unset, .unset] [])) _
        refine XS.aload X458.here hx rfl (hb hby at_192) rfl rfl ?_
        show Steps p.tables e below (T458.setTop (mkF m 194 #[.val (.int p0), .val (.int (f0_m5 p0)), .val (.int (f0_m10 p0)), .val (.int (f0_m15 p0)), .val (.int (f0_m20 p0)), .val (.int (f0_m25 p0)), .val (.int (f0_m30 p0)), .val (.int (f0_m35 p0)), .val (.ref b36_0), .val (.ref b37), .val (.ref b40), .val (.ref b359), .val (.int (0 : Int32)), .unset, .unset] [(.ref b359)])) _
        refine st459.trans ?_
        show Steps p.tables e below (T459.setTop (mkF m 197 #[.val (.int p0), .val (.int (f0_m5 p0)), .val (.int (f0_m10 p0)), .val (.int (f0_m15 p0)), .val (.int (f0_m20 p0)), .val (.int (f0_m25 p0)), .val (.int (f0_m30 p0)), .val (.int (f0_m35 p0)), .val (.ref b36_0), .val (.ref b37), .val (.ref b40), .val (.ref b359), .val (.int (0 : Int32)), .unset, .unset] [])) _
        refine XS.iloadN X459.here hx rfl (hb hby at_197) rfl ?_
        exact k)
      by_cases hc198_470 : (f0_m15 p0) = (0 : Int32)
      · have pre471 : ∀ t, Steps p.tables e below (T459.setTop (mkF m 208 #[.val (.int p0), .val (.int (f0_m5 p0)), .val (.int (f0_m10 p0)), .val (.int (f0_m15 p0)), .val (.int (f0_m20 p0)), .val (.int (f0_m25 p0)), .val (.int (f0_m30 p0)), .val (.int (f0_m35 p0)), .val (.ref b36_0), .val (.ref b37), .val (.ref b40), .val (.ref b359), .val (.int (0 : Int32)), .unset, .unset] [])) t → Steps p.tables e below (s₁.setTop (entryFrame m #[(.int p0)] maxLocals)) t := fun t k => pre469 t (by
          show Steps p.tables e below (T459.setTop (mkF m 198 #[.val (.int p0), .val (.int (f0_m5 p0)), .val (.int (f0_m10 p0)), .val (.int (f0_m15 p0)), .val (.int (f0_m20 p0)), .val (.int (f0_m25 p0)), .val (.int (f0_m30 p0)), .val (.int (f0_m35 p0)), .val (.ref b36_0), .val (.ref b37), .val (.ref b40), .val (.ref b359), .val (.int (0 : Int32)), .unset, .unset] [(.int (f0_m15 p0))])) _
          refine XS.ifYes X459.here hx rfl (pc0 := 198) (pc' := 208) rfl (hb hby at_198) rfl ((if0 _ _).trans (teq hc198_470).1) (by decide) (by decide) ?_
          exact k)
        have q_f0_m474 : f0_m474 p0 = ((f0_m441 p0) + (1 : Int32)) := by unfold f0_m474; rw [if_neg hc182_456, if_pos hc198_470]
        rw [q_f0_m474]
        have y475 := (y467.keep K459)
        have y476 := ((fm437_4.keep K458 (ninS ne_b37_b359 nin0)).keep K459 (ninS (Ne.symm ne_b36_0_b37) (ninS ne_b37_b365_0 (ninS ne_b37_b359 nin0))))
        have y477 := ((fm437_5.keep K458 (ninS ne_b37_b359 nin0)).keep K459 (ninS (Ne.symm ne_b36_0_b37) (ninS ne_b37_b365_0 (ninS ne_b37_b359 nin0))))
        have y478 := (y468.keep K459)
        have y479 := ((fm437_7.keep K458 (ninS ne_b40_b359 nin0)).keep K459 (ninS (Ne.symm ne_b36_0_b40) (ninS ne_b40_b365_0 (ninS ne_b40_b359 nin0))))
        have y480 := ((fm437_8.keep K458 (ninS ne_b40_b359 nin0)).keep K459 (ninS (Ne.symm ne_b36_0_b40) (ninS ne_b40_b365_0 (ninS ne_b40_b359 nin0))))
        exact ⟨T459, _, T459.heap, .val (.int (0 : Int32)), X459, rfl, N459, Z459, O459, y475, y476, y477, y478, y479, y480, u459_7, u459_10, u459_11, One.val rfl, pre471⟩
      obtain ⟨cq472, kq472, q472a, q472b, q472c⟩ := isOf hZ rfl u459_7
      obtain ⟨_, _, ⟨T472, L472, k472, n472⟩, -, X472, ⟨Lc472, hQ472, l472, y472, z472⟩, st472⟩ := X459.virtualBack hx (y := (⟨"com/example/tenon/tenon/Assignments", "undo", "(I)V"⟩ : MethodName)) (z := (⟨"com/example/tenon/tenon/Assignments", "undo", "(I)V"⟩ : MethodName)) hown (mvT hZ (hw _ (List.mem_of_getElem? (i := 175) rfl))) (mvT hZ (hw _ (List.mem_of_getElem? (i := 176) rfl))) (notFace_of_selects (args := #[]) (mvT hZ (hw _ (List.mem_of_getElem? (i := 178) rfl)))) (mvT hZ (hw _ (List.mem_of_getElem? (i := 178) rfl))) (mvT hZ (hw _ (List.mem_of_getElem? (i := 177) rfl))) (by decide) (backOf (W := 0) (rm25 l Z a0' hw [] b359 b365_0 b36_0 .null ((f0_m441 p0) + (1 : Int32)) (1 : Int32) b459_0 (9223372036854775807 : Int64) (56 : Int64) kk_u459_13 b459_1 T459.heap n0 Z459 u459_7 u459_13 u459_3 u459_14 u459_0 u459_8 u459_9 u459_10 u459_11 u459_12 u459_4 u459_5 u459_1 u459_2 u459_6 u459_15 g_b365_0 g_b459_0 g_b359 g_b36_0) hZ (hw _ (List.mem_of_getElem? (i := 179) rfl)) (hw _ (List.mem_of_getElem? (i := 17) rfl)) (by decide) (by decide)) q472a q472c (g := (mkF m 205 #[.val (.int p0), .val (.int (f0_m5 p0)), .val (.int (f0_m10 p0)), .val (.int (f0_m15 p0)), .val (.int (f0_m20 p0)), .val (.int (f0_m25 p0)), .val (.int (f0_m30 p0)), .val (.int (f0_m35 p0)), .val (.ref b36_0), .val (.ref b37), .val (.ref b40), .val (.ref b359), .val (.int (0 : Int32)), .unset, .unset] [(.int (0 : Int32)), (.ref b359)])) rfl (by rw [hml]; rfl) (Steps.refl _) (argsL := [(.int (0 : Int32))]) (rest := []) (lenOf pd15 rfl) rfl (by show 2 * 0 + _ ≤ _; exact Nat.le_of_eq rfl) (hb hby at_205) (fun _ _ => ⟨rfl, rfl, (by decide : 12 + 0 ≤ _), (by decide : 77 + 0 ≤ _)⟩)
      dsimp only [Pt.U, Pt.locs, Pt.cells, Pt.slots] at X472 l472 y472 z472 st472 hQ472
      subst l472 y472 z472
      obtain ⟨rfl, N472q, K472, u472_0, u472_1, u472_2, u472_3, u472_4, u472_5, u472_6, u472_7, u472_8, u472_9, u472_10, u472_11, u472_12, u472_13⟩ := hQ472
      have N472 := Fr.app N459 N472q
      have Z472 : n0 ≤ T472.heap.size := Nat.le_trans Z459 K472.1
      have O472 : Old Z n0 T472.heap := O459.keep K472 (allS g_b36_0 (allS g_b359 (allS g_b459_0 (allS g_b365_0 all0))))
      obtain ⟨kk_u472_9, u472_9⟩ := u472_9
      have pre473 : ∀ t, Steps p.tables e below (T472.setTop (mkF m 208 #[.val (.int p0), .val (.int (f0_m5 p0)), .val (.int (f0_m10 p0)), .val (.int (f0_m15 p0)), .val (.int (f0_m20 p0)), .val (.int (f0_m25 p0)), .val (.int (f0_m30 p0)), .val (.int (f0_m35 p0)), .val (.ref b36_0), .val (.ref b37), .val (.ref b40), .val (.ref b359), .val (.int (0 : Int32)), .unset, .unset] [])) t → Steps p.tables e below (s₁.setTop (entryFrame m #[(.int p0)] maxLocals)) t := fun t k => pre469 t (by
        show Steps p.tables e below (T459.setTop (mkF m 198 #[.val (.int p0), .val (.int (f0_m5 p0)), .val (.int (f0_m10 p0)), .val (.int (f0_m15 p0)), .val (.int (f0_m20 p0)), .val (.int (f0_m25 p0)), .val (.int (f0_m30 p0)), .val (.int (f0_m35 p0)), .val (.ref b36_0), .val (.ref b37), .val (.ref b40), .val (.ref b359), .val (.int (0 : Int32)), .unset, .unset] [(.int (f0_m15 p0))])) _
        refine XS.ifNo X459.here hx rfl (hb hby at_198) rfl ((if0 _ _).trans (feq hc198_470).1) ?_
        show Steps p.tables e below (T459.setTop (mkF m 201 #[.val (.int p0), .val (.int (f0_m5 p0)), .val (.int (f0_m10 p0)), .val (.int (f0_m15 p0)), .val (.int (f0_m20 p0)), .val (.int (f0_m25 p0)), .val (.int (f0_m30 p0)), .val (.int (f0_m35 p0)), .val (.ref b36_0), .val (.ref b37), .val (.ref b40), .val (.ref b359), .val (.int (0 : Int32)), .unset, .unset] [])) _
        refine XS.aload X459.here hx rfl (hb hby at_201) rfl rfl ?_
        show Steps p.tables e below (T459.setTop (mkF m 203 #[.val (.int p0), .val (.int (f0_m5 p0)), .val (.int (f0_m10 p0)), .val (.int (f0_m15 p0)), .val (.int (f0_m20 p0)), .val (.int (f0_m25 p0)), .val (.int (f0_m30 p0)), .val (.int (f0_m35 p0)), .val (.ref b36_0), .val (.ref b37), .val (.ref b40), .val (.ref b359), .val (.int (0 : Int32)), .unset, .unset] [(.ref b359)])) _
        refine XS.iload X459.here hx rfl (hb hby at_203) rfl ?_
        show Steps p.tables e below (T459.setTop (mkF m 205 #[.val (.int p0), .val (.int (f0_m5 p0)), .val (.int (f0_m10 p0)), .val (.int (f0_m15 p0)), .val (.int (f0_m20 p0)), .val (.int (f0_m25 p0)), .val (.int (f0_m30 p0)), .val (.int (f0_m35 p0)), .val (.ref b36_0), .val (.ref b37), .val (.ref b40), .val (.ref b359), .val (.int (0 : Int32)), .unset, .unset] [(.int (0 : Int32)), (.ref b359)])) _
        refine st472.trans ?_
        exact k)
      have q_f0_m474 : f0_m474 p0 = (((f0_m441 p0) + (1 : Int32)) - (1 : Int32)) := by unfold f0_m474; rw [if_neg hc182_456, if_neg hc198_470]
      rw [q_f0_m474]
      have y481 := ((y467.keep K459).keep K472)
      have y482 := (((fm437_4.keep K458 (ninS ne_b37_b359 nin0)).keep K459 (ninS (Ne.symm ne_b36_0_b37) (ninS ne_b37_b365_0 (ninS ne_b37_b359 nin0)))).keep K472 (ninS (Ne.symm ne_b36_0_b37) (ninS ne_b37_b359 (ninS ne_b37_b459_0 (ninS ne_b37_b365_0 nin0)))))
      have y483 := (((fm437_5.keep K458 (ninS ne_b37_b359 nin0)).keep K459 (ninS (Ne.symm ne_b36_0_b37) (ninS ne_b37_b365_0 (ninS ne_b37_b359 nin0)))).keep K472 (ninS (Ne.symm ne_b36_0_b37) (ninS ne_b37_b359 (ninS ne_b37_b459_0 (ninS ne_b37_b365_0 nin0)))))
      have y484 := ((y468.keep K459).keep K472)
      have y485 := (((fm437_7.keep K458 (ninS ne_b40_b359 nin0)).keep K459 (ninS (Ne.symm ne_b36_0_b40) (ninS ne_b40_b365_0 (ninS ne_b40_b359 nin0)))).keep K472 (ninS (Ne.symm ne_b36_0_b40) (ninS ne_b40_b359 (ninS ne_b40_b459_0 (ninS ne_b40_b365_0 nin0)))))
      have y486 := (((fm437_8.keep K458 (ninS ne_b40_b359 nin0)).keep K459 (ninS (Ne.symm ne_b36_0_b40) (ninS ne_b40_b365_0 (ninS ne_b40_b359 nin0)))).keep K472 (ninS (Ne.symm ne_b36_0_b40) (ninS ne_b40_b359 (ninS ne_b40_b459_0 (ninS ne_b40_b365_0 nin0)))))
      exact ⟨T472, _, T472.heap, .val (.int (0 : Int32)), X472, rfl, N472, Z472, O472, y481, y482, y483, y484, y485, y486, u472_3, u472_6, u472_7, One.val rfl, pre473⟩
    have pre487 : ∀ t, Steps p.tables e below (T456.setTop (mkF m 209 #[.val (.int p0), .val (.int (f0_m5 p0)), .val (.int (f0_m10 p0)), .val (.int (f0_m15 p0)), .val (.int (f0_m20 p0)), .val (.int (f0_m25 p0)), .val (.int (f0_m30 p0)), .val (.int (f0_m35 p0)), .val (.ref b36_0), .val (.ref b37), .val (.ref b40), .val (.ref b359), s456_12, .unset, .unset] [(.int (f0_m5 p0))])) t → Steps p.tables e below (s₁.setTop (entryFrame m #[(.int p0)] maxLocals)) t := fun t k => pre456 t (by
      show Steps p.tables e below (T456.setTop (mkF m 208 #[.val (.int p0), .val (.int (f0_m5 p0)), .val (.int (f0_m10 p0)), .val (.int (f0_m15 p0)), .val (.int (f0_m20 p0)), .val (.int (f0_m25 p0)), .val (.int (f0_m30 p0)), .val (.int (f0_m35 p0)), .val (.ref b36_0), .val (.ref b37), .val (.ref b40), .val (.ref b359), s456_12, .unset, .unset] [])) _
      refine XS.iloadN X456.here hx rfl (hb hby at_208) rfl ?_
      exact k)
    obtain ⟨T488, L488, X488, e488, N488, pre488⟩ : ∃ (T' : State) (locs' : List Loc), Stand p l e room_1 s m #[(.int p0)] below meth c T' locs' 12 77 ∧ T'.heap = h456 ∧ Fr n0 locs' ∧ ∀ t, Steps p.tables e below (T'.setTop (mkF m 225 #[.val (.int p0), .val (.int (f0_m5 p0)), .val (.int (f0_m10 p0)), .val (.int (f0_m15 p0)), .val (.int (f0_m20 p0)), .val (.int (f0_m25 p0)), .val (.int (f0_m30 p0)), .val (.int (f0_m35 p0)), .val (.ref b36_0), .val (.ref b37), .val (.ref b40), .val (.ref b359), s456_12, .unset, .unset] [(.int (f0_m497 p0))])) t → Steps p.tables e below (s₁.setTop (entryFrame m #[(.int p0)] maxLocals)) t := by
      by_cases hc209_488 : (f0_m5 p0) = (0 : Int32)
      · have pre489 : ∀ t, Steps p.tables e below (T456.setTop (mkF m 213 #[.val (.int p0), .val (.int (f0_m5 p0)), .val (.int (f0_m10 p0)), .val (.int (f0_m15 p0)), .val (.int (f0_m20 p0)), .val (.int (f0_m25 p0)), .val (.int (f0_m30 p0)), .val (.int (f0_m35 p0)), .val (.ref b36_0), .val (.ref b37), .val (.ref b40), .val (.ref b359), s456_12, .unset, .unset] [(.int (f0_m10 p0))])) t → Steps p.tables e below (s₁.setTop (entryFrame m #[(.int p0)] maxLocals)) t := fun t k => pre487 t (by
          show Steps p.tables e below (T456.setTop (mkF m 209 #[.val (.int p0), .val (.int (f0_m5 p0)), .val (.int (f0_m10 p0)), .val (.int (f0_m15 p0)), .val (.int (f0_m20 p0)), .val (.int (f0_m25 p0)), .val (.int (f0_m30 p0)), .val (.int (f0_m35 p0)), .val (.ref b36_0), .val (.ref b37), .val (.ref b40), .val (.ref b359), s456_12, .unset, .unset] [(.int (f0_m5 p0))])) _
          refine XS.ifNo X456.here hx rfl (hb hby at_209) rfl ((if0 _ _).trans (teq hc209_488).2) ?_
          show Steps p.tables e below (T456.setTop (mkF m 212 #[.val (.int p0), .val (.int (f0_m5 p0)), .val (.int (f0_m10 p0)), .val (.int (f0_m15 p0)), .val (.int (f0_m20 p0)), .val (.int (f0_m25 p0)), .val (.int (f0_m30 p0)), .val (.int (f0_m35 p0)), .val (.ref b36_0), .val (.ref b37), .val (.ref b40), .val (.ref b359), s456_12, .unset, .unset] [])) _
          refine XS.iloadN X456.here hx rfl (hb hby at_212) rfl ?_
          exact k)
        by_cases hc213_490 : (f0_m10 p0) = (0 : Int32)
        · have pre491 : ∀ t, Steps p.tables e below (T456.setTop (mkF m 225 #[.val (.int p0), .val (.int (f0_m5 p0)), .val (.int (f0_m10 p0)), .val (.int (f0_m15 p0)), .val (.int (f0_m20 p0)), .val (.int (f0_m25 p0)), .val (.int (f0_m30 p0)), .val (.int (f0_m35 p0)), .val (.ref b36_0), .val (.ref b37), .val (.ref b40), .val (.ref b359), s456_12, .unset, .unset] [(.int (0 : Int32))])) t → Steps p.tables e below (s₁.setTop (entryFrame m #[(.int p0)] maxLocals)) t := fun t k => pre489 t (by
            show Steps p.tables e below (T456.setTop (mkF m 213 #[.val (.int p0), .val (.int (f0_m5 p0)), .val (.int (f0_m10 p0)), .val (.int (f0_m15 p0)), .val (.int (f0_m20 p0)), .val (.int (f0_m25 p0)), .val (.int (f0_m30 p0)), .val (.int (f0_m35 p0)), .val (.ref b36_0), .val (.ref b37), .val (.ref b40), .val (.ref b359), s456_12, .unset, .unset] [(.int (f0_m10 p0))])) _
            refine XS.ifYes X456.here hx rfl (pc0 := 213) (pc' := 224) rfl (hb hby at_213) rfl ((if0 _ _).trans (teq hc213_490).1) (by decide) (by decide) ?_
            show Steps p.tables e below (T456.setTop (mkF m 224 #[.val (.int p0), .val (.int (f0_m5 p0)), .val (.int (f0_m10 p0)), .val (.int (f0_m15 p0)), .val (.int (f0_m20 p0)), .val (.int (f0_m25 p0)), .val (.int (f0_m30 p0)), .val (.int (f0_m35 p0)), .val (.ref b36_0), .val (.ref b37), .val (.ref b40), .val (.ref b359), s456_12, .unset, .unset] [])) _
            refine XS.iconst X456.here hx rfl (hb hby at_224) ?_
            exact k)
          have q_f0_m497 : f0_m497 p0 = (0 : Int32) := by unfold f0_m497; rw [if_pos hc209_488, if_pos hc213_490]
          rw [q_f0_m497]
          exact ⟨T456, _, X456, e456, N456, pre491⟩
        have pre492 : ∀ t, Steps p.tables e below (T456.setTop (mkF m 217 #[.val (.int p0), .val (.int (f0_m5 p0)), .val (.int (f0_m10 p0)), .val (.int (f0_m15 p0)), .val (.int (f0_m20 p0)), .val (.int (f0_m25 p0)), .val (.int (f0_m30 p0)), .val (.int (f0_m35 p0)), .val (.ref b36_0), .val (.ref b37), .val (.ref b40), .val (.ref b359), s456_12, .unset, .unset] [(.int (f0_m15 p0))])) t → Steps p.tables e below (s₁.setTop (entryFrame m #[(.int p0)] maxLocals)) t := fun t k => pre489 t (by
          show Steps p.tables e below (T456.setTop (mkF m 213 #[.val (.int p0), .val (.int (f0_m5 p0)), .val (.int (f0_m10 p0)), .val (.int (f0_m15 p0)), .val (.int (f0_m20 p0)), .val (.int (f0_m25 p0)), .val (.int (f0_m30 p0)), .val (.int (f0_m35 p0)), .val (.ref b36_0), .val (.ref b37), .val (.ref b40), .val (.ref b359), s456_12, .unset, .unset] [(.int (f0_m10 p0))])) _
          refine XS.ifNo X456.here hx rfl (hb hby at_213) rfl ((if0 _ _).trans (feq hc213_490).1) ?_
          show Steps p.tables e below (T456.setTop (mkF m 216 #[.val (.int p0), .val (.int (f0_m5 p0)), .val (.int (f0_m10 p0)), .val (.int (f0_m15 p0)), .val (.int (f0_m20 p0)), .val (.int (f0_m25 p0)), .val (.int (f0_m30 p0)), .val (.int (f0_m35 p0)), .val (.ref b36_0), .val (.ref b37), .val (.ref b40), .val (.ref b359), s456_12, .unset, .unset] [])) _
          refine XS.iloadN X456.here hx rfl (hb hby at_216) rfl ?_
          exact k)
        by_cases hc217_493 : (f0_m15 p0) = (0 : Int32)
        · have pre494 : ∀ t, Steps p.tables e below (T456.setTop (mkF m 225 #[.val (.int p0), .val (.int (f0_m5 p0)), .val (.int (f0_m10 p0)), .val (.int (f0_m15 p0)), .val (.int (f0_m20 p0)), .val (.int (f0_m25 p0)), .val (.int (f0_m30 p0)), .val (.int (f0_m35 p0)), .val (.ref b36_0), .val (.ref b37), .val (.ref b40), .val (.ref b359), s456_12, .unset, .unset] [(.int (1 : Int32))])) t → Steps p.tables e below (s₁.setTop (entryFrame m #[(.int p0)] maxLocals)) t := fun t k => pre492 t (by
            show Steps p.tables e below (T456.setTop (mkF m 217 #[.val (.int p0), .val (.int (f0_m5 p0)), .val (.int (f0_m10 p0)), .val (.int (f0_m15 p0)), .val (.int (f0_m20 p0)), .val (.int (f0_m25 p0)), .val (.int (f0_m30 p0)), .val (.int (f0_m35 p0)), .val (.ref b36_0), .val (.ref b37), .val (.ref b40), .val (.ref b359), s456_12, .unset, .unset] [(.int (f0_m15 p0))])) _
            refine XS.ifNo X456.here hx rfl (hb hby at_217) rfl ((if0 _ _).trans (teq hc217_493).2) ?_
            show Steps p.tables e below (T456.setTop (mkF m 220 #[.val (.int p0), .val (.int (f0_m5 p0)), .val (.int (f0_m10 p0)), .val (.int (f0_m15 p0)), .val (.int (f0_m20 p0)), .val (.int (f0_m25 p0)), .val (.int (f0_m30 p0)), .val (.int (f0_m35 p0)), .val (.ref b36_0), .val (.ref b37), .val (.ref b40), .val (.ref b359), s456_12, .unset, .unset] [])) _
            refine XS.iconst X456.here hx rfl (hb hby at_220) ?_
            show Steps p.tables e below (T456.setTop (mkF m 221 #[.val (.int p0), .val (.int (f0_m5 p0)), .val (.int (f0_m10 p0)), .val (.int (f0_m15 p0)), .val (.int (f0_m20 p0)), .val (.int (f0_m25 p0)), .val (.int (f0_m30 p0)), .val (.int (f0_m35 p0)), .val (.ref b36_0), .val (.ref b37), .val (.ref b40), .val (.ref b359), s456_12, .unset, .unset] [(.int (1 : Int32))])) _
            refine XS.goto X456.here hx rfl (pc0 := 221) (pc' := 225) rfl (hb hby at_221) (by decide) (by decide) ?_
            exact k)
          have q_f0_m497 : f0_m497 p0 = (1 : Int32) := by unfold f0_m497; rw [if_pos hc209_488, if_neg hc213_490, if_pos hc217_493]
          rw [q_f0_m497]
          exact ⟨T456, _, X456, e456, N456, pre494⟩
        have pre495 : ∀ t, Steps p.tables e below (T456.setTop (mkF m 225 #[.val (.int p0), .val (.int (f0_m5 p0)), .val (.int (f0_m10 p0)), .val (.int (f0_m15 p0)), .val (.int (f0_m20 p0)), .val (.int (f0_m25 p0)), .val (.int (f0_m30 p0)), .val (.int (f0_m35 p0)), .val (.ref b36_0), .val (.ref b37), .val (.ref b40), .val (.ref b359), s456_12, .unset, .unset] [(.int (0 : Int32))])) t → Steps p.tables e below (s₁.setTop (entryFrame m #[(.int p0)] maxLocals)) t := fun t k => pre492 t (by
          show Steps p.tables e below (T456.setTop (mkF m 217 #[.val (.int p0), .val (.int (f0_m5 p0)), .val (.int (f0_m10 p0)), .val (.int (f0_m15 p0)), .val (.int (f0_m20 p0)), .val (.int (f0_m25 p0)), .val (.int (f0_m30 p0)), .val (.int (f0_m35 p0)), .val (.ref b36_0), .val (.ref b37), .val (.ref b40), .val (.ref b359), s456_12, .unset, .unset] [(.int (f0_m15 p0))])) _
          refine XS.ifYes X456.here hx rfl (pc0 := 217) (pc' := 224) rfl (hb hby at_217) rfl ((if0 _ _).trans (feq hc217_493).2) (by decide) (by decide) ?_
          show Steps p.tables e below (T456.setTop (mkF m 224 #[.val (.int p0), .val (.int (f0_m5 p0)), .val (.int (f0_m10 p0)), .val (.int (f0_m15 p0)), .val (.int (f0_m20 p0)), .val (.int (f0_m25 p0)), .val (.int (f0_m30 p0)), .val (.int (f0_m35 p0)), .val (.ref b36_0), .val (.ref b37), .val (.ref b40), .val (.ref b359), s456_12, .unset, .unset] [])) _
          refine XS.iconst X456.here hx rfl (hb hby at_224) ?_
          exact k)
        have q_f0_m497 : f0_m497 p0 = (0 : Int32) := by unfold f0_m497; rw [if_pos hc209_488, if_neg hc213_490, if_neg hc217_493]
        rw [q_f0_m497]
        exact ⟨T456, _, X456, e456, N456, pre495⟩
      have pre496 : ∀ t, Steps p.tables e below (T456.setTop (mkF m 225 #[.val (.int p0), .val (.int (f0_m5 p0)), .val (.int (f0_m10 p0)), .val (.int (f0_m15 p0)), .val (.int (f0_m20 p0)), .val (.int (f0_m25 p0)), .val (.int (f0_m30 p0)), .val (.int (f0_m35 p0)), .val (.ref b36_0), .val (.ref b37), .val (.ref b40), .val (.ref b359), s456_12, .unset, .unset] [(.int (1 : Int32))])) t → Steps p.tables e below (s₁.setTop (entryFrame m #[(.int p0)] maxLocals)) t := fun t k => pre487 t (by
        show Steps p.tables e below (T456.setTop (mkF m 209 #[.val (.int p0), .val (.int (f0_m5 p0)), .val (.int (f0_m10 p0)), .val (.int (f0_m15 p0)), .val (.int (f0_m20 p0)), .val (.int (f0_m25 p0)), .val (.int (f0_m30 p0)), .val (.int (f0_m35 p0)), .val (.ref b36_0), .val (.ref b37), .val (.ref b40), .val (.ref b359), s456_12, .unset, .unset] [(.int (f0_m5 p0))])) _
        refine XS.ifYes X456.here hx rfl (pc0 := 209) (pc' := 220) rfl (hb hby at_209) rfl ((if0 _ _).trans (feq hc209_488).2) (by decide) (by decide) ?_
        show Steps p.tables e below (T456.setTop (mkF m 220 #[.val (.int p0), .val (.int (f0_m5 p0)), .val (.int (f0_m10 p0)), .val (.int (f0_m15 p0)), .val (.int (f0_m20 p0)), .val (.int (f0_m25 p0)), .val (.int (f0_m30 p0)), .val (.int (f0_m35 p0)), .val (.ref b36_0), .val (.ref b37), .val (.ref b40), .val (.ref b359), s456_12, .unset, .unset] [])) _
        refine XS.iconst X456.here hx rfl (hb hby at_220) ?_
        show Steps p.tables e below (T456.setTop (mkF m 221 #[.val (.int p0), .val (.int (f0_m5 p0)), .val (.int (f0_m10 p0)), .val (.int (f0_m15 p0)), .val (.int (f0_m20 p0)), .val (.int (f0_m25 p0)), .val (.int (f0_m30 p0)), .val (.int (f0_m35 p0)), .val (.ref b36_0), .val (.ref b37), .val (.ref b40), .val (.ref b359), s456_12, .unset, .unset] [(.int (1 : Int32))])) _
        refine XS.goto X456.here hx rfl (pc0 := 221) (pc' := 225) rfl (hb hby at_221) (by decide) (by decide) ?_
        exact k)
      have q_f0_m497 : f0_m497 p0 = (1 : Int32) := by unfold f0_m497; rw [if_neg hc209_488]
      rw [q_f0_m497]
      exact ⟨T456, _, X456, e456, N456, pre496⟩
    have os498 : storeLocals #[.val (.int p0), .val (.int (f0_m5 p0)), .val (.int (f0_m10 p0)), .val (.int (f0_m15 p0)), .val (.int (f0_m20 p0)), .val (.int (f0_m25 p0)), .val (.int (f0_m30 p0)), .val (.int (f0_m35 p0)), .val (.ref b36_0), .val (.ref b37), .val (.ref b40), .val (.ref b359), s456_12, .unset, .unset] 12 (.int (f0_m497 p0)) = some #[.val (.int p0), .val (.int (f0_m5 p0)), .val (.int (f0_m10 p0)), .val (.int (f0_m15 p0)), .val (.int (f0_m20 p0)), .val (.int (f0_m25 p0)), .val (.int (f0_m30 p0)), .val (.int (f0_m35 p0)), .val (.ref b36_0), .val (.ref b37), .val (.ref b40), .val (.ref b359), .val (.int (f0_m497 p0)), .unset, .unset] := by rcases hs456_12 with q | ⟨w, q, hw⟩ <;> rw [q] <;> first | rfl | (cases w <;> first | rfl | (simp [Value.category] at hw)) 
    have pre499 : ∀ t, Steps p.tables e below (T488.setTop (mkF m 229 #[.val (.int p0), .val (.int (f0_m5 p0)), .val (.int (f0_m10 p0)), .val (.int (f0_m15 p0)), .val (.int (f0_m20 p0)), .val (.int (f0_m25 p0)), .val (.int (f0_m30 p0)), .val (.int (f0_m35 p0)), .val (.ref b36_0), .val (.ref b37), .val (.ref b40), .val (.ref b359), .val (.int (f0_m497 p0)), .unset, .unset] [(.int (f0_m35 p0))])) t → Steps p.tables e below (s₁.setTop (entryFrame m #[(.int p0)] maxLocals)) t := fun t k => pre488 t (by
      show Steps p.tables e below (T488.setTop (mkF m 225 #[.val (.int p0), .val (.int (f0_m5 p0)), .val (.int (f0_m10 p0)), .val (.int (f0_m15 p0)), .val (.int (f0_m20 p0)), .val (.int (f0_m25 p0)), .val (.int (f0_m30 p0)), .val (.int (f0_m35 p0)), .val (.ref b36_0), .val (.ref b37), .val (.ref b40), .val (.ref b359), s456_12, .unset, .unset] [(.int (f0_m497 p0))])) _
      refine XS.istore X488.here hx rfl (hb hby at_225) rfl (l' := #[.val (.int p0), .val (.int (f0_m5 p0)), .val (.int (f0_m10 p0)), .val (.int (f0_m15 p0)), .val (.int (f0_m20 p0)), .val (.int (f0_m25 p0)), .val (.int (f0_m30 p0)), .val (.int (f0_m35 p0)), .val (.ref b36_0), .val (.ref b37), .val (.ref b40), .val (.ref b359), .val (.int (f0_m497 p0)), .unset, .unset]) os498 ?_
      show Steps p.tables e below (T488.setTop (mkF m 227 #[.val (.int p0), .val (.int (f0_m5 p0)), .val (.int (f0_m10 p0)), .val (.int (f0_m15 p0)), .val (.int (f0_m20 p0)), .val (.int (f0_m25 p0)), .val (.int (f0_m30 p0)), .val (.int (f0_m35 p0)), .val (.ref b36_0), .val (.ref b37), .val (.ref b40), .val (.ref b359), .val (.int (f0_m497 p0)), .unset, .unset] [])) _
      refine XS.iload X488.here hx rfl (hb hby at_227) rfl ?_
      exact k)
    obtain ⟨T500, L500, X500, e500, N500, pre500⟩ : ∃ (T' : State) (locs' : List Loc), Stand p l e room_1 s m #[(.int p0)] below meth c T' locs' 12 77 ∧ T'.heap = h456 ∧ Fr n0 locs' ∧ ∀ t, Steps p.tables e below (T'.setTop (mkF m 247 #[.val (.int p0), .val (.int (f0_m5 p0)), .val (.int (f0_m10 p0)), .val (.int (f0_m15 p0)), .val (.int (f0_m20 p0)), .val (.int (f0_m25 p0)), .val (.int (f0_m30 p0)), .val (.int (f0_m35 p0)), .val (.ref b36_0), .val (.ref b37), .val (.ref b40), .val (.ref b359), .val (.int (f0_m497 p0)), .unset, .unset] [(.int (f0_m506 p0))])) t → Steps p.tables e below (s₁.setTop (entryFrame m #[(.int p0)] maxLocals)) t := by
      by_cases hc229_500 : (f0_m35 p0) = (0 : Int32)
      · have pre501 : ∀ t, Steps p.tables e below (T488.setTop (mkF m 239 #[.val (.int p0), .val (.int (f0_m5 p0)), .val (.int (f0_m10 p0)), .val (.int (f0_m15 p0)), .val (.int (f0_m20 p0)), .val (.int (f0_m25 p0)), .val (.int (f0_m30 p0)), .val (.int (f0_m35 p0)), .val (.ref b36_0), .val (.ref b37), .val (.ref b40), .val (.ref b359), .val (.int (f0_m497 p0)), .unset, .unset] [(.int (f0_m30 p0))])) t → Steps p.tables e below (s₁.setTop (entryFrame m #[(.int p0)] maxLocals)) t := fun t k => pre499 t (by
          show Steps p.tables e below (T488.setTop (mkF m 229 #[.val (.int p0), .val (.int (f0_m5 p0)), .val (.int (f0_m10 p0)), .val (.int (f0_m15 p0)), .val (.int (f0_m20 p0)), .val (.int (f0_m25 p0)), .val (.int (f0_m30 p0)), .val (.int (f0_m35 p0)), .val (.ref b36_0), .val (.ref b37), .val (.ref b40), .val (.ref b359), .val (.int (f0_m497 p0)), .unset, .unset] [(.int (f0_m35 p0))])) _
          refine XS.ifNo X488.here hx rfl (hb hby at_229) rfl ((if0 _ _).trans (teq hc229_500).2) ?_
          show Steps p.tables e below (T488.setTop (mkF m 232 #[.val (.int p0), .val (.int (f0_m5 p0)), .val (.int (f0_m10 p0)), .val (.int (f0_m15 p0)), .val (.int (f0_m20 p0)), .val (.int (f0_m25 p0)), .val (.int (f0_m30 p0)), .val (.int (f0_m35 p0)), .val (.ref b36_0), .val (.ref b37), .val (.ref b40), .val (.ref b359), .val (.int (f0_m497 p0)), .unset, .unset] [])) _
          refine XS.iload X488.here hx rfl (hb hby at_232) rfl ?_
          show Steps p.tables e below (T488.setTop (mkF m 234 #[.val (.int p0), .val (.int (f0_m5 p0)), .val (.int (f0_m10 p0)), .val (.int (f0_m15 p0)), .val (.int (f0_m20 p0)), .val (.int (f0_m25 p0)), .val (.int (f0_m30 p0)), .val (.int (f0_m35 p0)), .val (.ref b36_0), .val (.ref b37), .val (.ref b40), .val (.ref b359), .val (.int (f0_m497 p0)), .unset, .unset] [(.int (f0_m20 p0))])) _
          refine XS.ifNo X488.here hx rfl (hb hby at_234) rfl ((if0 _ _).trans (feq hc116_43).1) ?_
          show Steps p.tables e below (T488.setTop (mkF m 237 #[.val (.int p0), .val (.int (f0_m5 p0)), .val (.int (f0_m10 p0)), .val (.int (f0_m15 p0)), .val (.int (f0_m20 p0)), .val (.int (f0_m25 p0)), .val (.int (f0_m30 p0)), .val (.int (f0_m35 p0)), .val (.ref b36_0), .val (.ref b37), .val (.ref b40), .val (.ref b359), .val (.int (f0_m497 p0)), .unset, .unset] [])) _
          refine XS.iload X488.here hx rfl (hb hby at_237) rfl ?_
          exact k)
        by_cases hc239_502 : (f0_m30 p0) = (0 : Int32)
        · have pre503 : ∀ t, Steps p.tables e below (T488.setTop (mkF m 247 #[.val (.int p0), .val (.int (f0_m5 p0)), .val (.int (f0_m10 p0)), .val (.int (f0_m15 p0)), .val (.int (f0_m20 p0)), .val (.int (f0_m25 p0)), .val (.int (f0_m30 p0)), .val (.int (f0_m35 p0)), .val (.ref b36_0), .val (.ref b37), .val (.ref b40), .val (.ref b359), .val (.int (f0_m497 p0)), .unset, .unset] [(.int (0 : Int32))])) t → Steps p.tables e below (s₁.setTop (entryFrame m #[(.int p0)] maxLocals)) t := fun t k => pre501 t (by
            show Steps p.tables e below (T488.setTop (mkF m 239 #[.val (.int p0), .val (.int (f0_m5 p0)), .val (.int (f0_m10 p0)), .val (.int (f0_m15 p0)), .val (.int (f0_m20 p0)), .val (.int (f0_m25 p0)), .val (.int (f0_m30 p0)), .val (.int (f0_m35 p0)), .val (.ref b36_0), .val (.ref b37), .val (.ref b40), .val (.ref b359), .val (.int (f0_m497 p0)), .unset, .unset] [(.int (f0_m30 p0))])) _
            refine XS.ifYes X488.here hx rfl (pc0 := 239) (pc' := 246) rfl (hb hby at_239) rfl ((if0 _ _).trans (teq hc239_502).1) (by decide) (by decide) ?_
            show Steps p.tables e below (T488.setTop (mkF m 246 #[.val (.int p0), .val (.int (f0_m5 p0)), .val (.int (f0_m10 p0)), .val (.int (f0_m15 p0)), .val (.int (f0_m20 p0)), .val (.int (f0_m25 p0)), .val (.int (f0_m30 p0)), .val (.int (f0_m35 p0)), .val (.ref b36_0), .val (.ref b37), .val (.ref b40), .val (.ref b359), .val (.int (f0_m497 p0)), .unset, .unset] [])) _
            refine XS.iconst X488.here hx rfl (hb hby at_246) ?_
            exact k)
          have q_f0_m506 : f0_m506 p0 = (0 : Int32) := by unfold f0_m506; rw [if_pos hc229_500, if_pos hc239_502]
          rw [q_f0_m506]
          exact ⟨T488, _, X488, e488, N488, pre503⟩
        have pre504 : ∀ t, Steps p.tables e below (T488.setTop (mkF m 247 #[.val (.int p0), .val (.int (f0_m5 p0)), .val (.int (f0_m10 p0)), .val (.int (f0_m15 p0)), .val (.int (f0_m20 p0)), .val (.int (f0_m25 p0)), .val (.int (f0_m30 p0)), .val (.int (f0_m35 p0)), .val (.ref b36_0), .val (.ref b37), .val (.ref b40), .val (.ref b359), .val (.int (f0_m497 p0)), .unset, .unset] [(.int (1 : Int32))])) t → Steps p.tables e below (s₁.setTop (entryFrame m #[(.int p0)] maxLocals)) t := fun t k => pre501 t (by
          show Steps p.tables e below (T488.setTop (mkF m 239 #[.val (.int p0), .val (.int (f0_m5 p0)), .val (.int (f0_m10 p0)), .val (.int (f0_m15 p0)), .val (.int (f0_m20 p0)), .val (.int (f0_m25 p0)), .val (.int (f0_m30 p0)), .val (.int (f0_m35 p0)), .val (.ref b36_0), .val (.ref b37), .val (.ref b40), .val (.ref b359), .val (.int (f0_m497 p0)), .unset, .unset] [(.int (f0_m30 p0))])) _
          refine XS.ifNo X488.here hx rfl (hb hby at_239) rfl ((if0 _ _).trans (feq hc239_502).1) ?_
          show Steps p.tables e below (T488.setTop (mkF m 242 #[.val (.int p0), .val (.int (f0_m5 p0)), .val (.int (f0_m10 p0)), .val (.int (f0_m15 p0)), .val (.int (f0_m20 p0)), .val (.int (f0_m25 p0)), .val (.int (f0_m30 p0)), .val (.int (f0_m35 p0)), .val (.ref b36_0), .val (.ref b37), .val (.ref b40), .val (.ref b359), .val (.int (f0_m497 p0)), .unset, .unset] [])) _
          refine XS.iconst X488.here hx rfl (hb hby at_242) ?_
          show Steps p.tables e below (T488.setTop (mkF m 243 #[.val (.int p0), .val (.int (f0_m5 p0)), .val (.int (f0_m10 p0)), .val (.int (f0_m15 p0)), .val (.int (f0_m20 p0)), .val (.int (f0_m25 p0)), .val (.int (f0_m30 p0)), .val (.int (f0_m35 p0)), .val (.ref b36_0), .val (.ref b37), .val (.ref b40), .val (.ref b359), .val (.int (f0_m497 p0)), .unset, .unset] [(.int (1 : Int32))])) _
          refine XS.goto X488.here hx rfl (pc0 := 243) (pc' := 247) rfl (hb hby at_243) (by decide) (by decide) ?_
          exact k)
        have q_f0_m506 : f0_m506 p0 = (1 : Int32) := by unfold f0_m506; rw [if_pos hc229_500, if_neg hc239_502]
        rw [q_f0_m506]
        exact ⟨T488, _, X488, e488, N488, pre504⟩
      have pre505 : ∀ t, Steps p.tables e below (T488.setTop (mkF m 247 #[.val (.int p0), .val (.int (f0_m5 p0)), .val (.int (f0_m10 p0)), .val (.int (f0_m15 p0)), .val (.int (f0_m20 p0)), .val (.int (f0_m25 p0)), .val (.int (f0_m30 p0)), .val (.int (f0_m35 p0)), .val (.ref b36_0), .val (.ref b37), .val (.ref b40), .val (.ref b359), .val (.int (f0_m497 p0)), .unset, .unset] [(.int (1 : Int32))])) t → Steps p.tables e below (s₁.setTop (entryFrame m #[(.int p0)] maxLocals)) t := fun t k => pre499 t (by
        show Steps p.tables e below (T488.setTop (mkF m 229 #[.val (.int p0), .val (.int (f0_m5 p0)), .val (.int (f0_m10 p0)), .val (.int (f0_m15 p0)), .val (.int (f0_m20 p0)), .val (.int (f0_m25 p0)), .val (.int (f0_m30 p0)), .val (.int (f0_m35 p0)), .val (.ref b36_0), .val (.ref b37), .val (.ref b40), .val (.ref b359), .val (.int (f0_m497 p0)), .unset, .unset] [(.int (f0_m35 p0))])) _
        refine XS.ifYes X488.here hx rfl (pc0 := 229) (pc' := 242) rfl (hb hby at_229) rfl ((if0 _ _).trans (feq hc229_500).2) (by decide) (by decide) ?_
        show Steps p.tables e below (T488.setTop (mkF m 242 #[.val (.int p0), .val (.int (f0_m5 p0)), .val (.int (f0_m10 p0)), .val (.int (f0_m15 p0)), .val (.int (f0_m20 p0)), .val (.int (f0_m25 p0)), .val (.int (f0_m30 p0)), .val (.int (f0_m35 p0)), .val (.ref b36_0), .val (.ref b37), .val (.ref b40), .val (.ref b359), .val (.int (f0_m497 p0)), .unset, .unset] [])) _
        refine XS.iconst X488.here hx rfl (hb hby at_242) ?_
        show Steps p.tables e below (T488.setTop (mkF m 243 #[.val (.int p0), .val (.int (f0_m5 p0)), .val (.int (f0_m10 p0)), .val (.int (f0_m15 p0)), .val (.int (f0_m20 p0)), .val (.int (f0_m25 p0)), .val (.int (f0_m30 p0)), .val (.int (f0_m35 p0)), .val (.ref b36_0), .val (.ref b37), .val (.ref b40), .val (.ref b359), .val (.int (f0_m497 p0)), .unset, .unset] [(.int (1 : Int32))])) _
        refine XS.goto X488.here hx rfl (pc0 := 243) (pc' := 247) rfl (hb hby at_243) (by decide) (by decide) ?_
        exact k)
      have q_f0_m506 : f0_m506 p0 = (1 : Int32) := by unfold f0_m506; rw [if_neg hc229_500]
      rw [q_f0_m506]
      exact ⟨T488, _, X488, e488, N488, pre505⟩
    have pre507 : ∀ t, Steps p.tables e below (T500.setTop (mkF m 251 #[.val (.int p0), .val (.int (f0_m5 p0)), .val (.int (f0_m10 p0)), .val (.int (f0_m15 p0)), .val (.int (f0_m20 p0)), .val (.int (f0_m25 p0)), .val (.int (f0_m30 p0)), .val (.int (f0_m35 p0)), .val (.ref b36_0), .val (.ref b37), .val (.ref b40), .val (.ref b359), .val (.int (f0_m497 p0)), .val (.int (f0_m506 p0)), .unset] [(.int (f0_m497 p0))])) t → Steps p.tables e below (s₁.setTop (entryFrame m #[(.int p0)] maxLocals)) t := fun t k => pre500 t (by
      show Steps p.tables e below (T500.setTop (mkF m 247 #[.val (.int p0), .val (.int (f0_m5 p0)), .val (.int (f0_m10 p0)), .val (.int (f0_m15 p0)), .val (.int (f0_m20 p0)), .val (.int (f0_m25 p0)), .val (.int (f0_m30 p0)), .val (.int (f0_m35 p0)), .val (.ref b36_0), .val (.ref b37), .val (.ref b40), .val (.ref b359), .val (.int (f0_m497 p0)), .unset, .unset] [(.int (f0_m506 p0))])) _
      refine XS.istore X500.here hx rfl (hb hby at_247) rfl (l' := #[.val (.int p0), .val (.int (f0_m5 p0)), .val (.int (f0_m10 p0)), .val (.int (f0_m15 p0)), .val (.int (f0_m20 p0)), .val (.int (f0_m25 p0)), .val (.int (f0_m30 p0)), .val (.int (f0_m35 p0)), .val (.ref b36_0), .val (.ref b37), .val (.ref b40), .val (.ref b359), .val (.int (f0_m497 p0)), .val (.int (f0_m506 p0)), .unset]) rfl ?_
      show Steps p.tables e below (T500.setTop (mkF m 249 #[.val (.int p0), .val (.int (f0_m5 p0)), .val (.int (f0_m10 p0)), .val (.int (f0_m15 p0)), .val (.int (f0_m20 p0)), .val (.int (f0_m25 p0)), .val (.int (f0_m30 p0)), .val (.int (f0_m35 p0)), .val (.ref b36_0), .val (.ref b37), .val (.ref b40), .val (.ref b359), .val (.int (f0_m497 p0)), .val (.int (f0_m506 p0)), .unset] [])) _
      refine XS.iload X500.here hx rfl (hb hby at_249) rfl ?_
      exact k)
    obtain ⟨T508, L508, X508, e508, N508, pre508⟩ : ∃ (T' : State) (locs' : List Loc), Stand p l e room_1 s m #[(.int p0)] below meth c T' locs' 12 77 ∧ T'.heap = h456 ∧ Fr n0 locs' ∧ ∀ t, Steps p.tables e below (T'.setTop (mkF m 269 #[.val (.int p0), .val (.int (f0_m5 p0)), .val (.int (f0_m10 p0)), .val (.int (f0_m15 p0)), .val (.int (f0_m20 p0)), .val (.int (f0_m25 p0)), .val (.int (f0_m30 p0)), .val (.int (f0_m35 p0)), .val (.ref b36_0), .val (.ref b37), .val (.ref b40), .val (.ref b359), .val (.int (f0_m497 p0)), .val (.int (f0_m506 p0)), .unset] [(.int (f0_m511 p0))])) t → Steps p.tables e below (s₁.setTop (entryFrame m #[(.int p0)] maxLocals)) t := by
      by_cases hc251_508 : (f0_m497 p0) = (0 : Int32)
      · have pre509 : ∀ t, Steps p.tables e below (T500.setTop (mkF m 269 #[.val (.int p0), .val (.int (f0_m5 p0)), .val (.int (f0_m10 p0)), .val (.int (f0_m15 p0)), .val (.int (f0_m20 p0)), .val (.int (f0_m25 p0)), .val (.int (f0_m30 p0)), .val (.int (f0_m35 p0)), .val (.ref b36_0), .val (.ref b37), .val (.ref b40), .val (.ref b359), .val (.int (f0_m497 p0)), .val (.int (f0_m506 p0)), .unset] [(.int (0 : Int32))])) t → Steps p.tables e below (s₁.setTop (entryFrame m #[(.int p0)] maxLocals)) t := fun t k => pre507 t (by
          show Steps p.tables e below (T500.setTop (mkF m 251 #[.val (.int p0), .val (.int (f0_m5 p0)), .val (.int (f0_m10 p0)), .val (.int (f0_m15 p0)), .val (.int (f0_m20 p0)), .val (.int (f0_m25 p0)), .val (.int (f0_m30 p0)), .val (.int (f0_m35 p0)), .val (.ref b36_0), .val (.ref b37), .val (.ref b40), .val (.ref b359), .val (.int (f0_m497 p0)), .val (.int (f0_m506 p0)), .unset] [(.int (f0_m497 p0))])) _
          refine XS.ifNo X500.here hx rfl (hb hby at_251) rfl ((if0 _ _).trans (teq hc251_508).2) ?_
          show Steps p.tables e below (T500.setTop (mkF m 254 #[.val (.int p0), .val (.int (f0_m5 p0)), .val (.int (f0_m10 p0)), .val (.int (f0_m15 p0)), .val (.int (f0_m20 p0)), .val (.int (f0_m25 p0)), .val (.int (f0_m30 p0)), .val (.int (f0_m35 p0)), .val (.ref b36_0), .val (.ref b37), .val (.ref b40), .val (.ref b359), .val (.int (f0_m497 p0)), .val (.int (f0_m506 p0)), .unset] [])) _
          refine XS.iload X500.here hx rfl (hb hby at_254) rfl ?_
          show Steps p.tables e below (T500.setTop (mkF m 256 #[.val (.int p0), .val (.int (f0_m5 p0)), .val (.int (f0_m10 p0)), .val (.int (f0_m15 p0)), .val (.int (f0_m20 p0)), .val (.int (f0_m25 p0)), .val (.int (f0_m30 p0)), .val (.int (f0_m35 p0)), .val (.ref b36_0), .val (.ref b37), .val (.ref b40), .val (.ref b359), .val (.int (f0_m497 p0)), .val (.int (f0_m506 p0)), .unset] [(.int (f0_m25 p0))])) _
          refine XS.ifYes X500.here hx rfl (pc0 := 256) (pc' := 268) rfl (hb hby at_256) rfl ((if0 _ _).trans (teq hc138_364).1) (by decide) (by decide) ?_
          show Steps p.tables e below (T500.setTop (mkF m 268 #[.val (.int p0), .val (.int (f0_m5 p0)), .val (.int (f0_m10 p0)), .val (.int (f0_m15 p0)), .val (.int (f0_m20 p0)), .val (.int (f0_m25 p0)), .val (.int (f0_m30 p0)), .val (.int (f0_m35 p0)), .val (.ref b36_0), .val (.ref b37), .val (.ref b40), .val (.ref b359), .val (.int (f0_m497 p0)), .val (.int (f0_m506 p0)), .unset] [])) _
          refine XS.iconst X500.here hx rfl (hb hby at_268) ?_
          exact k)
        have q_f0_m511 : f0_m511 p0 = (0 : Int32) := by unfold f0_m511; rw [if_pos hc251_508]
        rw [q_f0_m511]
        exact ⟨T500, _, X500, e500, N500, pre509⟩
      have pre510 : ∀ t, Steps p.tables e below (T500.setTop (mkF m 269 #[.val (.int p0), .val (.int (f0_m5 p0)), .val (.int (f0_m10 p0)), .val (.int (f0_m15 p0)), .val (.int (f0_m20 p0)), .val (.int (f0_m25 p0)), .val (.int (f0_m30 p0)), .val (.int (f0_m35 p0)), .val (.ref b36_0), .val (.ref b37), .val (.ref b40), .val (.ref b359), .val (.int (f0_m497 p0)), .val (.int (f0_m506 p0)), .unset] [(.int (1 : Int32))])) t → Steps p.tables e below (s₁.setTop (entryFrame m #[(.int p0)] maxLocals)) t := fun t k => pre507 t (by
        show Steps p.tables e below (T500.setTop (mkF m 251 #[.val (.int p0), .val (.int (f0_m5 p0)), .val (.int (f0_m10 p0)), .val (.int (f0_m15 p0)), .val (.int (f0_m20 p0)), .val (.int (f0_m25 p0)), .val (.int (f0_m30 p0)), .val (.int (f0_m35 p0)), .val (.ref b36_0), .val (.ref b37), .val (.ref b40), .val (.ref b359), .val (.int (f0_m497 p0)), .val (.int (f0_m506 p0)), .unset] [(.int (f0_m497 p0))])) _
        refine XS.ifYes X500.here hx rfl (pc0 := 251) (pc' := 264) rfl (hb hby at_251) rfl ((if0 _ _).trans (feq hc251_508).2) (by decide) (by decide) ?_
        show Steps p.tables e below (T500.setTop (mkF m 264 #[.val (.int p0), .val (.int (f0_m5 p0)), .val (.int (f0_m10 p0)), .val (.int (f0_m15 p0)), .val (.int (f0_m20 p0)), .val (.int (f0_m25 p0)), .val (.int (f0_m30 p0)), .val (.int (f0_m35 p0)), .val (.ref b36_0), .val (.ref b37), .val (.ref b40), .val (.ref b359), .val (.int (f0_m497 p0)), .val (.int (f0_m506 p0)), .unset] [])) _
        refine XS.iconst X500.here hx rfl (hb hby at_264) ?_
        show Steps p.tables e below (T500.setTop (mkF m 265 #[.val (.int p0), .val (.int (f0_m5 p0)), .val (.int (f0_m10 p0)), .val (.int (f0_m15 p0)), .val (.int (f0_m20 p0)), .val (.int (f0_m25 p0)), .val (.int (f0_m30 p0)), .val (.int (f0_m35 p0)), .val (.ref b36_0), .val (.ref b37), .val (.ref b40), .val (.ref b359), .val (.int (f0_m497 p0)), .val (.int (f0_m506 p0)), .unset] [(.int (1 : Int32))])) _
        refine XS.goto X500.here hx rfl (pc0 := 265) (pc' := 269) rfl (hb hby at_265) (by decide) (by decide) ?_
        exact k)
      have q_f0_m511 : f0_m511 p0 = (1 : Int32) := by unfold f0_m511; rw [if_neg hc251_508]
      rw [q_f0_m511]
      exact ⟨T500, _, X500, e500, N500, pre510⟩
    obtain ⟨cq512, kq512, q512a, q512b, q512c⟩ := isOf hZ e508 fm456_6
    obtain ⟨_, _, ⟨T512, L512, k512, n512⟩, -, X512, ⟨Lc512, hQ512, l512, y512, z512⟩, st512⟩ := X508.virtualBack hx (y := (⟨"com/example/tenon/tenon/Assignments", "isBlind", "()Z"⟩ : MethodName)) (z := (⟨"com/example/tenon/tenon/Assignments", "isBlind", "()Z"⟩ : MethodName)) hown (mvT hZ (hw _ (List.mem_of_getElem? (i := 84) rfl))) (mvT hZ (hw _ (List.mem_of_getElem? (i := 85) rfl))) (notFace_of_selects (args := #[]) (mvT hZ (hw _ (List.mem_of_getElem? (i := 87) rfl)))) (mvT hZ (hw _ (List.mem_of_getElem? (i := 87) rfl))) (mvT hZ (hw _ (List.mem_of_getElem? (i := 86) rfl))) (by decide) (backOf (W := 0) (rm12a l Z a0' hw [] b359 (f0_m474 p0) h456 n0 Z456 fm456_8 fm456_7) hZ (hw _ (List.mem_of_getElem? (i := 88) rfl)) (hw _ (List.mem_of_getElem? (i := 17) rfl)) (by decide) (by decide)) q512a q512c (g := (mkF m 273 #[.val (.int p0), .val (.int (f0_m5 p0)), .val (.int (f0_m10 p0)), .val (.int (f0_m15 p0)), .val (.int (f0_m20 p0)), .val (.int (f0_m25 p0)), .val (.int (f0_m30 p0)), .val (.int (f0_m35 p0)), .val (.ref b36_0), .val (.ref b37), .val (.ref b40), .val (.ref b359), .val (.int (f0_m497 p0)), .val (.int (f0_m506 p0)), .val (.int (f0_m511 p0))] [(.ref b359)])) rfl (by rw [hml]; rfl) (Steps.refl _) (argsL := []) (rest := []) (lenOf pd3 rfl) rfl (by show 2 * 0 + _ ≤ _; exact Nat.le_of_eq rfl) (hb hby at_273) (fun _ _ => ⟨rfl, e508, (by decide : 12 + 0 ≤ _), (by decide : 77 + 0 ≤ _)⟩)
    dsimp only [Pt.U, Pt.locs, Pt.cells, Pt.slots] at X512 l512 y512 z512 st512 hQ512
    subst l512 y512 z512
    obtain ⟨rfl, N512q, e512⟩ := hQ512
    have N512 := Fr.app N508 N512q
    have pre513 : ∀ t, Steps p.tables e below (T512.setTop (mkF m 278 #[.val (.int p0), .val (.int (f0_m5 p0)), .val (.int (f0_m10 p0)), .val (.int (f0_m15 p0)), .val (.int (f0_m20 p0)), .val (.int (f0_m25 p0)), .val (.int (f0_m30 p0)), .val (.int (f0_m35 p0)), .val (.ref b36_0), .val (.ref b37), .val (.ref b40), .val (.ref b359), .val (.int (f0_m497 p0)), .val (.int (f0_m506 p0)), .val (.int (f0_m511 p0))] [(.int (f0_m511 p0)), (.int (F12a (f0_m474 p0)))])) t → Steps p.tables e below (s₁.setTop (entryFrame m #[(.int p0)] maxLocals)) t := fun t k => pre508 t (by
      show Steps p.tables e below (T508.setTop (mkF m 269 #[.val (.int p0), .val (.int (f0_m5 p0)), .val (.int (f0_m10 p0)), .val (.int (f0_m15 p0)), .val (.int (f0_m20 p0)), .val (.int (f0_m25 p0)), .val (.int (f0_m30 p0)), .val (.int (f0_m35 p0)), .val (.ref b36_0), .val (.ref b37), .val (.ref b40), .val (.ref b359), .val (.int (f0_m497 p0)), .val (.int (f0_m506 p0)), .unset] [(.int (f0_m511 p0))])) _
      refine XS.istore X508.here hx rfl (hb hby at_269) rfl (l' := #[.val (.int p0), .val (.int (f0_m5 p0)), .val (.int (f0_m10 p0)), .val (.int (f0_m15 p0)), .val (.int (f0_m20 p0)), .val (.int (f0_m25 p0)), .val (.int (f0_m30 p0)), .val (.int (f0_m35 p0)), .val (.ref b36_0), .val (.ref b37), .val (.ref b40), .val (.ref b359), .val (.int (f0_m497 p0)), .val (.int (f0_m506 p0)), .val (.int (f0_m511 p0))]) rfl ?_
      show Steps p.tables e below (T508.setTop (mkF m 271 #[.val (.int p0), .val (.int (f0_m5 p0)), .val (.int (f0_m10 p0)), .val (.int (f0_m15 p0)), .val (.int (f0_m20 p0)), .val (.int (f0_m25 p0)), .val (.int (f0_m30 p0)), .val (.int (f0_m35 p0)), .val (.ref b36_0), .val (.ref b37), .val (.ref b40), .val (.ref b359), .val (.int (f0_m497 p0)), .val (.int (f0_m506 p0)), .val (.int (f0_m511 p0))] [])) _
      refine XS.aload X508.here hx rfl (hb hby at_271) rfl rfl ?_
      show Steps p.tables e below (T508.setTop (mkF m 273 #[.val (.int p0), .val (.int (f0_m5 p0)), .val (.int (f0_m10 p0)), .val (.int (f0_m15 p0)), .val (.int (f0_m20 p0)), .val (.int (f0_m25 p0)), .val (.int (f0_m30 p0)), .val (.int (f0_m35 p0)), .val (.ref b36_0), .val (.ref b37), .val (.ref b40), .val (.ref b359), .val (.int (f0_m497 p0)), .val (.int (f0_m506 p0)), .val (.int (f0_m511 p0))] [(.ref b359)])) _
      refine st512.trans ?_
      show Steps p.tables e below (T512.setTop (mkF m 276 #[.val (.int p0), .val (.int (f0_m5 p0)), .val (.int (f0_m10 p0)), .val (.int (f0_m15 p0)), .val (.int (f0_m20 p0)), .val (.int (f0_m25 p0)), .val (.int (f0_m30 p0)), .val (.int (f0_m35 p0)), .val (.ref b36_0), .val (.ref b37), .val (.ref b40), .val (.ref b359), .val (.int (f0_m497 p0)), .val (.int (f0_m506 p0)), .val (.int (f0_m511 p0))] [(.int (F12a (f0_m474 p0)))])) _
      refine XS.iload X512.here hx rfl (hb hby at_276) rfl ?_
      exact k)
    by_cases hc278_514 : (F12a (f0_m474 p0)) = (f0_m511 p0)
    · have pre515 : ∀ t, Steps p.tables e below (T512.setTop (mkF m 286 #[.val (.int p0), .val (.int (f0_m5 p0)), .val (.int (f0_m10 p0)), .val (.int (f0_m15 p0)), .val (.int (f0_m20 p0)), .val (.int (f0_m25 p0)), .val (.int (f0_m30 p0)), .val (.int (f0_m35 p0)), .val (.ref b36_0), .val (.ref b37), .val (.ref b40), .val (.ref b359), .val (.int (f0_m497 p0)), .val (.int (f0_m506 p0)), .val (.int (f0_m511 p0))] [(.int (1 : Int32))])) t → Steps p.tables e below (s₁.setTop (entryFrame m #[(.int p0)] maxLocals)) t := fun t k => pre513 t (by
        show Steps p.tables e below (T512.setTop (mkF m 278 #[.val (.int p0), .val (.int (f0_m5 p0)), .val (.int (f0_m10 p0)), .val (.int (f0_m15 p0)), .val (.int (f0_m20 p0)), .val (.int (f0_m25 p0)), .val (.int (f0_m30 p0)), .val (.int (f0_m35 p0)), .val (.ref b36_0), .val (.ref b37), .val (.ref b40), .val (.ref b359), .val (.int (f0_m497 p0)), .val (.int (f0_m506 p0)), .val (.int (f0_m511 p0))] [(.int (f0_m511 p0)), (.int (F12a (f0_m474 p0)))])) _
        refine XS.icmpNo X512.here hx rfl (hb hby at_278) rfl (teq hc278_514).2 ?_
        show Steps p.tables e below (T512.setTop (mkF m 281 #[.val (.int p0), .val (.int (f0_m5 p0)), .val (.int (f0_m10 p0)), .val (.int (f0_m15 p0)), .val (.int (f0_m20 p0)), .val (.int (f0_m25 p0)), .val (.int (f0_m30 p0)), .val (.int (f0_m35 p0)), .val (.ref b36_0), .val (.ref b37), .val (.ref b40), .val (.ref b359), .val (.int (f0_m497 p0)), .val (.int (f0_m506 p0)), .val (.int (f0_m511 p0))] [])) _
        refine XS.iconst X512.here hx rfl (hb hby at_281) ?_
        show Steps p.tables e below (T512.setTop (mkF m 282 #[.val (.int p0), .val (.int (f0_m5 p0)), .val (.int (f0_m10 p0)), .val (.int (f0_m15 p0)), .val (.int (f0_m20 p0)), .val (.int (f0_m25 p0)), .val (.int (f0_m30 p0)), .val (.int (f0_m35 p0)), .val (.ref b36_0), .val (.ref b37), .val (.ref b40), .val (.ref b359), .val (.int (f0_m497 p0)), .val (.int (f0_m506 p0)), .val (.int (f0_m511 p0))] [(.int (1 : Int32))])) _
        refine XS.goto X512.here hx rfl (pc0 := 282) (pc' := 286) rfl (hb hby at_282) (by decide) (by decide) ?_
        exact k)
      obtain ⟨fs, hr, hrun, hended, hW, hsame⟩ := X512.leave (v := some (.int (1 : Int32))) (fun h => by rw [Bd.returns] at h; cases h) hlk
      have hF : (F0 p0) = (1 : Int32) := by unfold F0; rw [if_neg hc116_43, if_pos hc138_364, if_pos hc278_514]
      exact ⟨_, _, pre515 _ (retN X512 hx (t := .boolean) Bd.returns (by simp) (hb hby at_286) hr), hrun, hended, _, _, rfl, ⟨by rw [hF], N512⟩, ⟨_, rfl⟩, hW, hsame.mono (by decide) (by decide)⟩
    have pre516 : ∀ t, Steps p.tables e below (T512.setTop (mkF m 286 #[.val (.int p0), .val (.int (f0_m5 p0)), .val (.int (f0_m10 p0)), .val (.int (f0_m15 p0)), .val (.int (f0_m20 p0)), .val (.int (f0_m25 p0)), .val (.int (f0_m30 p0)), .val (.int (f0_m35 p0)), .val (.ref b36_0), .val (.ref b37), .val (.ref b40), .val (.ref b359), .val (.int (f0_m497 p0)), .val (.int (f0_m506 p0)), .val (.int (f0_m511 p0))] [(.int (0 : Int32))])) t → Steps p.tables e below (s₁.setTop (entryFrame m #[(.int p0)] maxLocals)) t := fun t k => pre513 t (by
      show Steps p.tables e below (T512.setTop (mkF m 278 #[.val (.int p0), .val (.int (f0_m5 p0)), .val (.int (f0_m10 p0)), .val (.int (f0_m15 p0)), .val (.int (f0_m20 p0)), .val (.int (f0_m25 p0)), .val (.int (f0_m30 p0)), .val (.int (f0_m35 p0)), .val (.ref b36_0), .val (.ref b37), .val (.ref b40), .val (.ref b359), .val (.int (f0_m497 p0)), .val (.int (f0_m506 p0)), .val (.int (f0_m511 p0))] [(.int (f0_m511 p0)), (.int (F12a (f0_m474 p0)))])) _
      refine XS.icmpYes X512.here hx rfl (pc0 := 278) (pc' := 285) rfl (hb hby at_278) rfl (feq hc278_514).2 (by decide) (by decide) ?_
      show Steps p.tables e below (T512.setTop (mkF m 285 #[.val (.int p0), .val (.int (f0_m5 p0)), .val (.int (f0_m10 p0)), .val (.int (f0_m15 p0)), .val (.int (f0_m20 p0)), .val (.int (f0_m25 p0)), .val (.int (f0_m30 p0)), .val (.int (f0_m35 p0)), .val (.ref b36_0), .val (.ref b37), .val (.ref b40), .val (.ref b359), .val (.int (f0_m497 p0)), .val (.int (f0_m506 p0)), .val (.int (f0_m511 p0))] [])) _
      refine XS.iconst X512.here hx rfl (hb hby at_285) ?_
      exact k)
    obtain ⟨fs, hr, hrun, hended, hW, hsame⟩ := X512.leave (v := some (.int (0 : Int32))) (fun h => by rw [Bd.returns] at h; cases h) hlk
    have hF : (F0 p0) = (0 : Int32) := by unfold F0; rw [if_neg hc116_43, if_pos hc138_364, if_neg hc278_514]
    exact ⟨_, _, pre516 _ (retN X512 hx (t := .boolean) Bd.returns (by simp) (hb hby at_286) hr), hrun, hended, _, _, rfl, ⟨by rw [hF], N512⟩, ⟨_, rfl⟩, hW, hsame.mono (by decide) (by decide)⟩
  obtain ⟨_, _, ⟨T517, L517, k517, n517⟩, -, X517, ⟨Lc517, hQ517, l517, y517, z517⟩, st517⟩ := X359.specialBack hx (y := (⟨"com/example/tenon/tenon/Assignments", "<init>", "(Lcom/example/tenon/tenon/Budget;Lcom/example/tenon/tenon/Assignments;)V"⟩ : MethodName)) rfl hown (mvT hZ (hw _ (List.mem_of_getElem? (i := 83) rfl))) (mvT hZ (hw _ (List.mem_of_getElem? (i := 22) rfl))) (mvT hZ (hw _ (List.mem_of_getElem? (i := 23) rfl))) (by decide) (backOf (W := 1) (rm5 l Z a0' hw [] b359 b36_0 b40 .null .null .null .null (0 : Int32) (0 : Int32) sD h359 n0 Z359 A359 F359_assigned F359_changed F359_budget F359_below F359_blindness F359_marks g_b359 O359 S_sD) hZ (hw _ (List.mem_of_getElem? (i := 23) rfl)) (hw _ (List.mem_of_getElem? (i := 17) rfl)) (by decide) (by decide)) (g := (mkF m 147 #[.val (.int p0), .val (.int (f0_m5 p0)), .val (.int (f0_m10 p0)), .val (.int (f0_m15 p0)), .val (.int (f0_m20 p0)), .val (.int (f0_m25 p0)), .val (.int (f0_m30 p0)), .val (.int (f0_m35 p0)), .val (.ref b36_0), .val (.ref b37), .val (.ref b40), .unset, .unset, .unset, .unset] [(.ref b40), (.ref b36_0), (.ref b359), (.ref b359)])) rfl (by rw [hml]; rfl) (Steps.refl _) (a := b359) (argsL := [(.ref b36_0), (.ref b40)]) (rest := [(.ref b359)]) (lenOf pd2 rfl) rfl (by show 2 * 0 + _ ≤ _; exact Nat.le_of_eq rfl) (hb hby at_147) (fun _ _ => ⟨rfl, e359, (by decide : 8 + 2 ≤ _), (by decide : 50 + 15 ≤ _)⟩)
  dsimp only [Pt.U, Pt.locs, Pt.cells, Pt.slots] at X517 l517 y517 z517 st517 hQ517
  subst l517 y517 z517
  have y518 := (y360.ext E359)
  have y519 := (y361.ext E359)
  have y520 := (y362.ext E359)
  have y521 := (u355_0.ext E359)
  have y522 := (u355_6.ext E359)
  obtain ⟨b517_0, rfl, N517q, gs_b517_0, g_b517_0, K517, u517_0, u517_1, u517_2, u517_3, u517_4, u517_5, u517_6, u517_7, u517_8, u517_9⟩ := hQ517
  have N517 := Fr.app N355 N517q
  have ne_b36_0_b517_0 : b36_0 ≠ b517_0 := Nat.ne_of_lt (Nat.lt_of_lt_of_le y518.lt gs_b517_0)
  have ne_b37_b517_0 : b37 ≠ b517_0 := Nat.ne_of_lt (Nat.lt_of_lt_of_le y519.lt gs_b517_0)
  have ne_b38_0_b517_0 : b38_0 ≠ b517_0 := Nat.ne_of_lt (Nat.lt_of_lt_of_le y520.lt gs_b517_0)
  have ne_b40_b517_0 : b40 ≠ b517_0 := Nat.ne_of_lt (Nat.lt_of_lt_of_le y521.lt gs_b517_0)
  have ne_b355_0_b517_0 : b355_0 ≠ b517_0 := Nat.ne_of_lt (Nat.lt_of_lt_of_le y522.lt gs_b517_0)
  have ne_b359_b517_0 : b359 ≠ b517_0 := Nat.ne_of_lt (Nat.lt_of_lt_of_le A359.lt gs_b517_0)
  have Z517 : n0 ≤ T517.heap.size := Nat.le_trans Z359 K517.1
  have O517 : Old Z n0 T517.heap := O359.keep K517 (allS g_b359 all0)
  have pre523 : ∀ t, Steps p.tables e below (T517.setTop (mkF m 154 #[.val (.int p0), .val (.int (f0_m5 p0)), .val (.int (f0_m10 p0)), .val (.int (f0_m15 p0)), .val (.int (f0_m20 p0)), .val (.int (f0_m25 p0)), .val (.int (f0_m30 p0)), .val (.int (f0_m35 p0)), .val (.ref b36_0), .val (.ref b37), .val (.ref b40), .val (.ref b359), .unset, .unset, .unset] [(.int (f0_m30 p0))])) t → Steps p.tables e below (s₁.setTop (entryFrame m #[(.int p0)] maxLocals)) t := fun t k => pre363 t (by
    show Steps p.tables e below (T359.setTop (mkF m 138 #[.val (.int p0), .val (.int (f0_m5 p0)), .val (.int (f0_m10 p0)), .val (.int (f0_m15 p0)), .val (.int (f0_m20 p0)), .val (.int (f0_m25 p0)), .val (.int (f0_m30 p0)), .val (.int (f0_m35 p0)), .val (.ref b36_0), .val (.ref b37), .val (.ref b40), .unset, .unset, .unset, .unset] [(.int (f0_m25 p0)), (.ref b36_0), (.ref b359), (.ref b359)])) _
    refine XS.ifNo X359.here hx rfl (hb hby at_138) rfl ((if0 _ _).trans (feq hc138_364).1) ?_
    show Steps p.tables e below (T359.setTop (mkF m 141 #[.val (.int p0), .val (.int (f0_m5 p0)), .val (.int (f0_m10 p0)), .val (.int (f0_m15 p0)), .val (.int (f0_m20 p0)), .val (.int (f0_m25 p0)), .val (.int (f0_m30 p0)), .val (.int (f0_m35 p0)), .val (.ref b36_0), .val (.ref b37), .val (.ref b40), .unset, .unset, .unset, .unset] [(.ref b36_0), (.ref b359), (.ref b359)])) _
    refine XS.aload X359.here hx rfl (hb hby at_141) rfl rfl ?_
    show Steps p.tables e below (T359.setTop (mkF m 143 #[.val (.int p0), .val (.int (f0_m5 p0)), .val (.int (f0_m10 p0)), .val (.int (f0_m15 p0)), .val (.int (f0_m20 p0)), .val (.int (f0_m25 p0)), .val (.int (f0_m30 p0)), .val (.int (f0_m35 p0)), .val (.ref b36_0), .val (.ref b37), .val (.ref b40), .unset, .unset, .unset, .unset] [(.ref b40), (.ref b36_0), (.ref b359), (.ref b359)])) _
    refine XS.goto X359.here hx rfl (pc0 := 143) (pc' := 147) rfl (hb hby at_143) (by decide) (by decide) ?_
    show Steps p.tables e below (T359.setTop (mkF m 147 #[.val (.int p0), .val (.int (f0_m5 p0)), .val (.int (f0_m10 p0)), .val (.int (f0_m15 p0)), .val (.int (f0_m20 p0)), .val (.int (f0_m25 p0)), .val (.int (f0_m30 p0)), .val (.int (f0_m35 p0)), .val (.ref b36_0), .val (.ref b37), .val (.ref b40), .unset, .unset, .unset, .unset] [(.ref b40), (.ref b36_0), (.ref b359), (.ref b359)])) _
    refine st517.trans ?_
    show Steps p.tables e below (T517.setTop (mkF m 150 #[.val (.int p0), .val (.int (f0_m5 p0)), .val (.int (f0_m10 p0)), .val (.int (f0_m15 p0)), .val (.int (f0_m20 p0)), .val (.int (f0_m25 p0)), .val (.int (f0_m30 p0)), .val (.int (f0_m35 p0)), .val (.ref b36_0), .val (.ref b37), .val (.ref b40), .unset, .unset, .unset, .unset] [(.ref b359)])) _
    refine XS.astore X517.here hx rfl (hb hby at_150) rfl rfl (l' := #[.val (.int p0), .val (.int (f0_m5 p0)), .val (.int (f0_m10 p0)), .val (.int (f0_m15 p0)), .val (.int (f0_m20 p0)), .val (.int (f0_m25 p0)), .val (.int (f0_m30 p0)), .val (.int (f0_m35 p0)), .val (.ref b36_0), .val (.ref b37), .val (.ref b40), .val (.ref b359), .unset, .unset, .unset]) rfl ?_
    show Steps p.tables e below (T517.setTop (mkF m 152 #[.val (.int p0), .val (.int (f0_m5 p0)), .val (.int (f0_m10 p0)), .val (.int (f0_m15 p0)), .val (.int (f0_m20 p0)), .val (.int (f0_m25 p0)), .val (.int (f0_m30 p0)), .val (.int (f0_m35 p0)), .val (.ref b36_0), .val (.ref b37), .val (.ref b40), .val (.ref b359), .unset, .unset, .unset] [])) _
    refine XS.iload X517.here hx rfl (hb hby at_152) rfl ?_
    exact k)
  obtain ⟨T524, L524, h524, X524, e524, N524, Z524, O524, fm524_0, fm524_1, fm524_2, fm524_3, fm524_4, fm524_5, fm524_6, fm524_7, fm524_8, fm524_9, fm524_10, fm524_11, fm524_12, fm524_13, fm524_14, fm524_15, fm524_16, fm524_17, fm524_18, fm524_19, fm524_20, fm524_21, pre524⟩ : ∃ (T' : State) (locs' : List Loc) (h' : Heap), Stand p l e room_1 s m #[(.int p0)] below meth c T' locs' 10 65 ∧ T'.heap = h' ∧ Fr n0 locs' ∧ n0 ≤ h'.size ∧ Old Z n0 h' ∧ Exa Z h' b36_0 "com/example/tenon/tenon/Budget" ∧ Fld Z h' b36_0 "com/example/tenon/tenon/Budget" "limit" "J" (.long (9223372036854775807 : Int64)) ∧ Fld Z h' b36_0 "com/example/tenon/tenon/Budget" "held" "J" (.long (0 : Int64)) ∧ Exa Z h' b37 "com/example/tenon/tenon/Assignments" ∧ Fld Z h' b37 "com/example/tenon/tenon/Assignments" "below" "Lcom/example/tenon/tenon/Assignments;" .null ∧ Fld Z h' b37 "com/example/tenon/tenon/Assignments" "blindness" "I" (.int (f0_m534 p0)) ∧ Exa Z h' b40 "com/example/tenon/tenon/Assignments" ∧ Fld Z h' b40 "com/example/tenon/tenon/Assignments" "changed" "Ljava/util/List;" (.ref b355_0) ∧ Fld Z h' b40 "com/example/tenon/tenon/Assignments" "budget" "Lcom/example/tenon/tenon/Budget;" (.ref b36_0) ∧ Fld Z h' b40 "com/example/tenon/tenon/Assignments" "below" "Lcom/example/tenon/tenon/Assignments;" (.ref b37) ∧ Fld Z h' b40 "com/example/tenon/tenon/Assignments" "blindness" "I" (.int (0 : Int32)) ∧ Fld Z h' b40 "com/example/tenon/tenon/Assignments" "marks" "I" (.int (0 : Int32)) ∧ Exa Z h' b359 "com/example/tenon/tenon/Assignments" ∧ Fld Z h' b359 "com/example/tenon/tenon/Assignments" "changed" "Ljava/util/List;" (.ref b517_0) ∧ Fld Z h' b359 "com/example/tenon/tenon/Assignments" "budget" "Lcom/example/tenon/tenon/Budget;" (.ref b36_0) ∧ Fld Z h' b359 "com/example/tenon/tenon/Assignments" "below" "Lcom/example/tenon/tenon/Assignments;" (.ref b40) ∧ Fld Z h' b359 "com/example/tenon/tenon/Assignments" "blindness" "I" (.int (0 : Int32)) ∧ Fld Z h' b359 "com/example/tenon/tenon/Assignments" "marks" "I" (.int (0 : Int32)) ∧ Exa Z h' b517_0 "java/util/ArrayList" ∧ Fld Z h' b517_0 "java/util/AbstractList" "modCount" "I" (.int (0 : Int32)) ∧ Fld Z h' b517_0 "java/util/ArrayList" "elementData" "[Ljava/lang/Object;" (.ref sD) ∧ Fld Z h' b517_0 "java/util/ArrayList" "size" "I" (.int (0 : Int32)) ∧ ∀ t, Steps p.tables e below (T'.setTop (mkF m 162 #[.val (.int p0), .val (.int (f0_m5 p0)), .val (.int (f0_m10 p0)), .val (.int (f0_m15 p0)), .val (.int (f0_m20 p0)), .val (.int (f0_m25 p0)), .val (.int (f0_m30 p0)), .val (.int (f0_m35 p0)), .val (.ref b36_0), .val (.ref b37), .val (.ref b40), .val (.ref b359), .unset, .unset, .unset] [])) t → Steps p.tables e below (s₁.setTop (entryFrame m #[(.int p0)] maxLocals)) t := by
    by_cases hc154_524 : (f0_m30 p0) = (0 : Int32)
    · have pre525 : ∀ t, Steps p.tables e below (T517.setTop (mkF m 162 #[.val (.int p0), .val (.int (f0_m5 p0)), .val (.int (f0_m10 p0)), .val (.int (f0_m15 p0)), .val (.int (f0_m20 p0)), .val (.int (f0_m25 p0)), .val (.int (f0_m30 p0)), .val (.int (f0_m35 p0)), .val (.ref b36_0), .val (.ref b37), .val (.ref b40), .val (.ref b359), .unset, .unset, .unset] [])) t → Steps p.tables e below (s₁.setTop (entryFrame m #[(.int p0)] maxLocals)) t := fun t k => pre523 t (by
        show Steps p.tables e below (T517.setTop (mkF m 154 #[.val (.int p0), .val (.int (f0_m5 p0)), .val (.int (f0_m10 p0)), .val (.int (f0_m15 p0)), .val (.int (f0_m20 p0)), .val (.int (f0_m25 p0)), .val (.int (f0_m30 p0)), .val (.int (f0_m35 p0)), .val (.ref b36_0), .val (.ref b37), .val (.ref b40), .val (.ref b359), .unset, .unset, .unset] [(.int (f0_m30 p0))])) _
        refine XS.ifYes X517.here hx rfl (pc0 := 154) (pc' := 162) rfl (hb hby at_154) rfl ((if0 _ _).trans (teq hc154_524).1) (by decide) (by decide) ?_
        exact k)
      have q_f0_m534 : f0_m534 p0 = (0 : Int32) := by unfold f0_m534; rw [if_pos hc154_524]
      rw [q_f0_m534]
      have y535 := (y518.keep K517)
      have y536 := ((((((u36_1.ext E37).keep K38 (ninS ne_b36_0_b37 nin0)).ext E40).keep K355 (ninS ne_b36_0_b40 nin0)).ext E359).keep K517 (ninS ne_b36_0_b359 nin0))
      have y537 := ((((((u36_2.ext E37).keep K38 (ninS ne_b36_0_b37 nin0)).ext E40).keep K355 (ninS ne_b36_0_b40 nin0)).ext E359).keep K517 (ninS ne_b36_0_b359 nin0))
      have y538 := (y519.keep K517)
      have y539 := ((((u38_3.ext E40).keep K355 (ninS ne_b37_b40 nin0)).ext E359).keep K517 (ninS ne_b37_b359 nin0))
      have y540 := ((((u38_4.ext E40).keep K355 (ninS ne_b37_b40 nin0)).ext E359).keep K517 (ninS ne_b37_b359 nin0))
      have y541 := (y521.keep K517)
      have y542 := ((u355_1.ext E359).keep K517 (ninS ne_b40_b359 nin0))
      have y543 := ((u355_2.ext E359).keep K517 (ninS ne_b40_b359 nin0))
      have y544 := ((u355_3.ext E359).keep K517 (ninS ne_b40_b359 nin0))
      have y545 := ((u355_4.ext E359).keep K517 (ninS ne_b40_b359 nin0))
      have y546 := ((u355_5.ext E359).keep K517 (ninS ne_b40_b359 nin0))
      exact ⟨T517, _, T517.heap, X517, rfl, N517, Z517, O517, y535, y536, y537, y538, y539, y540, y541, y542, y543, y544, y545, y546, u517_0, u517_1, u517_2, u517_3, u517_4, u517_5, u517_6, u517_7, u517_8, u517_9, pre525⟩
    have y527 := ((((u38_1.ext E40).keep K355 (ninS ne_b37_b40 nin0)).ext E359).keep K517 (ninS ne_b37_b359 nin0))
    have y528 := ((((u38_2.ext E40).keep K355 (ninS ne_b37_b40 nin0)).ext E359).keep K517 (ninS ne_b37_b359 nin0))
    have y529 := ((((u38_3.ext E40).keep K355 (ninS ne_b37_b40 nin0)).ext E359).keep K517 (ninS ne_b37_b359 nin0))
    have y530 := ((((u38_4.ext E40).keep K355 (ninS ne_b37_b40 nin0)).ext E359).keep K517 (ninS ne_b37_b359 nin0))
    have y531 := (y519.keep K517)
    have y532 := ((((u38_5.ext E40).keep K355 (ninS ne_b37_b40 nin0)).ext E359).keep K517 (ninS ne_b37_b359 nin0))
    obtain ⟨cq526, kq526, q526a, q526b, q526c⟩ := isOf hZ rfl y531
    obtain ⟨_, _, ⟨T526, L526, k526, n526⟩, -, X526, ⟨Lc526, hQ526, l526, y526, z526⟩, st526⟩ := X517.virtualBack hx (y := (⟨"com/example/tenon/tenon/Assignments", "notKnown", "()V"⟩ : MethodName)) (z := (⟨"com/example/tenon/tenon/Assignments", "notKnown", "()V"⟩ : MethodName)) hown (mvT hZ (hw _ (List.mem_of_getElem? (i := 91) rfl))) (mvT hZ (hw _ (List.mem_of_getElem? (i := 92) rfl))) (notFace_of_selects (args := #[]) (mvT hZ (hw _ (List.mem_of_getElem? (i := 94) rfl)))) (mvT hZ (hw _ (List.mem_of_getElem? (i := 94) rfl))) (mvT hZ (hw _ (List.mem_of_getElem? (i := 93) rfl))) (by decide) (backOf (W := 0) (rm13 l Z a0' hw [] b37 (.ref b38_0) (.ref b36_0) .null (0 : Int32) T517.heap n0 Z517 y531 y527 y528 y529 y530 y532 g_b37) hZ (hw _ (List.mem_of_getElem? (i := 95) rfl)) (hw _ (List.mem_of_getElem? (i := 17) rfl)) (by decide) (by decide)) q526a q526c (g := (mkF m 159 #[.val (.int p0), .val (.int (f0_m5 p0)), .val (.int (f0_m10 p0)), .val (.int (f0_m15 p0)), .val (.int (f0_m20 p0)), .val (.int (f0_m25 p0)), .val (.int (f0_m30 p0)), .val (.int (f0_m35 p0)), .val (.ref b36_0), .val (.ref b37), .val (.ref b40), .val (.ref b359), .unset, .unset, .unset] [(.ref b37)])) rfl (by rw [hml]; rfl) (Steps.refl _) (argsL := []) (rest := []) (lenOf pd0 rfl) rfl (by show 2 * 0 + _ ≤ _; exact Nat.le_of_eq rfl) (hb hby at_159) (fun _ _ => ⟨rfl, rfl, (by decide : 10 + 0 ≤ _), (by decide : 65 + 0 ≤ _)⟩)
    dsimp only [Pt.U, Pt.locs, Pt.cells, Pt.slots] at X526 l526 y526 z526 st526 hQ526
    subst l526 y526 z526
    obtain ⟨rfl, N526q, K526, u526_0, u526_1, u526_2, u526_3, u526_4, u526_5⟩ := hQ526
    have N526 := Fr.app N517 N526q
    have Z526 : n0 ≤ T526.heap.size := Nat.le_trans Z517 K526.1
    have O526 : Old Z n0 T526.heap := O517.keep K526 (allS g_b37 all0)
    have pre533 : ∀ t, Steps p.tables e below (T526.setTop (mkF m 162 #[.val (.int p0), .val (.int (f0_m5 p0)), .val (.int (f0_m10 p0)), .val (.int (f0_m15 p0)), .val (.int (f0_m20 p0)), .val (.int (f0_m25 p0)), .val (.int (f0_m30 p0)), .val (.int (f0_m35 p0)), .val (.ref b36_0), .val (.ref b37), .val (.ref b40), .val (.ref b359), .unset, .unset, .unset] [])) t → Steps p.tables e below (s₁.setTop (entryFrame m #[(.int p0)] maxLocals)) t := fun t k => pre523 t (by
      show Steps p.tables e below (T517.setTop (mkF m 154 #[.val (.int p0), .val (.int (f0_m5 p0)), .val (.int (f0_m10 p0)), .val (.int (f0_m15 p0)), .val (.int (f0_m20 p0)), .val (.int (f0_m25 p0)), .val (.int (f0_m30 p0)), .val (.int (f0_m35 p0)), .val (.ref b36_0), .val (.ref b37), .val (.ref b40), .val (.ref b359), .unset, .unset, .unset] [(.int (f0_m30 p0))])) _
      refine XS.ifNo X517.here hx rfl (hb hby at_154) rfl ((if0 _ _).trans (feq hc154_524).1) ?_
      show Steps p.tables e below (T517.setTop (mkF m 157 #[.val (.int p0), .val (.int (f0_m5 p0)), .val (.int (f0_m10 p0)), .val (.int (f0_m15 p0)), .val (.int (f0_m20 p0)), .val (.int (f0_m25 p0)), .val (.int (f0_m30 p0)), .val (.int (f0_m35 p0)), .val (.ref b36_0), .val (.ref b37), .val (.ref b40), .val (.ref b359), .unset, .unset, .unset] [])) _
      refine XS.aload X517.here hx rfl (hb hby at_157) rfl rfl ?_
      show Steps p.tables e below (T517.setTop (mkF m 159 #[.val (.int p0), .val (.int (f0_m5 p0)), .val (.int (f0_m10 p0)), .val (.int (f0_m15 p0)), .val (.int (f0_m20 p0)), .val (.int (f0_m25 p0)), .val (.int (f0_m30 p0)), .val (.int (f0_m35 p0)), .val (.ref b36_0), .val (.ref b37), .val (.ref b40), .val (.ref b359), .unset, .unset, .unset] [(.ref b37)])) _
      refine st526.trans ?_
      exact k)
    have q_f0_m534 : f0_m534 p0 = (1 : Int32) := by unfold f0_m534; rw [if_neg hc154_524]
    rw [q_f0_m534]
    have y547 := ((y518.keep K517).keep K526)
    have y548 := (((((((u36_1.ext E37).keep K38 (ninS ne_b36_0_b37 nin0)).ext E40).keep K355 (ninS ne_b36_0_b40 nin0)).ext E359).keep K517 (ninS ne_b36_0_b359 nin0)).keep K526 (ninS ne_b36_0_b37 nin0))
    have y549 := (((((((u36_2.ext E37).keep K38 (ninS ne_b36_0_b37 nin0)).ext E40).keep K355 (ninS ne_b36_0_b40 nin0)).ext E359).keep K517 (ninS ne_b36_0_b359 nin0)).keep K526 (ninS ne_b36_0_b37 nin0))
    have y550 := ((y521.keep K517).keep K526)
    have y551 := (((u355_1.ext E359).keep K517 (ninS ne_b40_b359 nin0)).keep K526 (ninS (Ne.symm ne_b37_b40) nin0))
    have y552 := (((u355_2.ext E359).keep K517 (ninS ne_b40_b359 nin0)).keep K526 (ninS (Ne.symm ne_b37_b40) nin0))
    have y553 := (((u355_3.ext E359).keep K517 (ninS ne_b40_b359 nin0)).keep K526 (ninS (Ne.symm ne_b37_b40) nin0))
    have y554 := (((u355_4.ext E359).keep K517 (ninS ne_b40_b359 nin0)).keep K526 (ninS (Ne.symm ne_b37_b40) nin0))
    have y555 := (((u355_5.ext E359).keep K517 (ninS ne_b40_b359 nin0)).keep K526 (ninS (Ne.symm ne_b37_b40) nin0))
    have y556 := (u517_0.keep K526)
    have y557 := (u517_1.keep K526 (ninS (Ne.symm ne_b37_b359) nin0))
    have y558 := (u517_2.keep K526 (ninS (Ne.symm ne_b37_b359) nin0))
    have y559 := (u517_3.keep K526 (ninS (Ne.symm ne_b37_b359) nin0))
    have y560 := (u517_4.keep K526 (ninS (Ne.symm ne_b37_b359) nin0))
    have y561 := (u517_5.keep K526 (ninS (Ne.symm ne_b37_b359) nin0))
    have y562 := (u517_6.keep K526)
    have y563 := (u517_7.keep K526 (ninS (Ne.symm ne_b37_b517_0) nin0))
    have y564 := (u517_8.keep K526 (ninS (Ne.symm ne_b37_b517_0) nin0))
    have y565 := (u517_9.keep K526 (ninS (Ne.symm ne_b37_b517_0) nin0))
    exact ⟨T526, _, T526.heap, X526, rfl, N526, Z526, O526, y547, y548, y549, u526_0, u526_3, u526_4, y550, y551, y552, y553, y554, y555, y556, y557, y558, y559, y560, y561, y562, y563, y564, y565, pre533⟩
  have pre566 : ∀ t, Steps p.tables e below (T524.setTop (mkF m 164 #[.val (.int p0), .val (.int (f0_m5 p0)), .val (.int (f0_m10 p0)), .val (.int (f0_m15 p0)), .val (.int (f0_m20 p0)), .val (.int (f0_m25 p0)), .val (.int (f0_m30 p0)), .val (.int (f0_m35 p0)), .val (.ref b36_0), .val (.ref b37), .val (.ref b40), .val (.ref b359), .unset, .unset, .unset] [(.int (f0_m35 p0))])) t → Steps p.tables e below (s₁.setTop (entryFrame m #[(.int p0)] maxLocals)) t := fun t k => pre524 t (by
    show Steps p.tables e below (T524.setTop (mkF m 162 #[.val (.int p0), .val (.int (f0_m5 p0)), .val (.int (f0_m10 p0)), .val (.int (f0_m15 p0)), .val (.int (f0_m20 p0)), .val (.int (f0_m25 p0)), .val (.int (f0_m30 p0)), .val (.int (f0_m35 p0)), .val (.ref b36_0), .val (.ref b37), .val (.ref b40), .val (.ref b359), .unset, .unset, .unset] [])) _
    refine XS.iload X524.here hx rfl (hb hby at_162) rfl ?_
    exact k)
  obtain ⟨T567, L567, h567, X567, e567, N567, Z567, O567, fm567_0, fm567_1, fm567_2, fm567_3, fm567_4, fm567_5, fm567_6, fm567_7, fm567_8, fm567_9, fm567_10, fm567_11, fm567_12, fm567_13, fm567_14, fm567_15, fm567_16, fm567_17, fm567_18, pre567⟩ : ∃ (T' : State) (locs' : List Loc) (h' : Heap), Stand p l e room_1 s m #[(.int p0)] below meth c T' locs' 10 65 ∧ T'.heap = h' ∧ Fr n0 locs' ∧ n0 ≤ h'.size ∧ Old Z n0 h' ∧ Exa Z h' b36_0 "com/example/tenon/tenon/Budget" ∧ Fld Z h' b36_0 "com/example/tenon/tenon/Budget" "limit" "J" (.long (9223372036854775807 : Int64)) ∧ Fld Z h' b36_0 "com/example/tenon/tenon/Budget" "held" "J" (.long (0 : Int64)) ∧ Exa Z h' b37 "com/example/tenon/tenon/Assignments" ∧ Fld Z h' b37 "com/example/tenon/tenon/Assignments" "below" "Lcom/example/tenon/tenon/Assignments;" .null ∧ Fld Z h' b37 "com/example/tenon/tenon/Assignments" "blindness" "I" (.int (f0_m534 p0)) ∧ Exa Z h' b40 "com/example/tenon/tenon/Assignments" ∧ Fld Z h' b40 "com/example/tenon/tenon/Assignments" "below" "Lcom/example/tenon/tenon/Assignments;" (.ref b37) ∧ Fld Z h' b40 "com/example/tenon/tenon/Assignments" "blindness" "I" (.int (f0_m571 p0)) ∧ Exa Z h' b359 "com/example/tenon/tenon/Assignments" ∧ Fld Z h' b359 "com/example/tenon/tenon/Assignments" "changed" "Ljava/util/List;" (.ref b517_0) ∧ Fld Z h' b359 "com/example/tenon/tenon/Assignments" "budget" "Lcom/example/tenon/tenon/Budget;" (.ref b36_0) ∧ Fld Z h' b359 "com/example/tenon/tenon/Assignments" "below" "Lcom/example/tenon/tenon/Assignments;" (.ref b40) ∧ Fld Z h' b359 "com/example/tenon/tenon/Assignments" "blindness" "I" (.int (0 : Int32)) ∧ Fld Z h' b359 "com/example/tenon/tenon/Assignments" "marks" "I" (.int (0 : Int32)) ∧ Exa Z h' b517_0 "java/util/ArrayList" ∧ Fld Z h' b517_0 "java/util/AbstractList" "modCount" "I" (.int (0 : Int32)) ∧ Fld Z h' b517_0 "java/util/ArrayList" "elementData" "[Ljava/lang/Object;" (.ref sD) ∧ Fld Z h' b517_0 "java/util/ArrayList" "size" "I" (.int (0 : Int32)) ∧ ∀ t, Steps p.tables e below (T'.setTop (mkF m 172 #[.val (.int p0), .val (.int (f0_m5 p0)), .val (.int (f0_m10 p0)), .val (.int (f0_m15 p0)), .val (.int (f0_m20 p0)), .val (.int (f0_m25 p0)), .val (.int (f0_m30 p0)), .val (.int (f0_m35 p0)), .val (.ref b36_0), .val (.ref b37), .val (.ref b40), .val (.ref b359), .unset, .unset, .unset] [])) t → Steps p.tables e below (s₁.setTop (entryFrame m #[(.int p0)] maxLocals)) t := by
    by_cases hc164_567 : (f0_m35 p0) = (0 : Int32)
    · have pre568 : ∀ t, Steps p.tables e below (T524.setTop (mkF m 172 #[.val (.int p0), .val (.int (f0_m5 p0)), .val (.int (f0_m10 p0)), .val (.int (f0_m15 p0)), .val (.int (f0_m20 p0)), .val (.int (f0_m25 p0)), .val (.int (f0_m30 p0)), .val (.int (f0_m35 p0)), .val (.ref b36_0), .val (.ref b37), .val (.ref b40), .val (.ref b359), .unset, .unset, .unset] [])) t → Steps p.tables e below (s₁.setTop (entryFrame m #[(.int p0)] maxLocals)) t := fun t k => pre566 t (by
        show Steps p.tables e below (T524.setTop (mkF m 164 #[.val (.int p0), .val (.int (f0_m5 p0)), .val (.int (f0_m10 p0)), .val (.int (f0_m15 p0)), .val (.int (f0_m20 p0)), .val (.int (f0_m25 p0)), .val (.int (f0_m30 p0)), .val (.int (f0_m35 p0)), .val (.ref b36_0), .val (.ref b37), .val (.ref b40), .val (.ref b359), .unset, .unset, .unset] [(.int (f0_m35 p0))])) _
        refine XS.ifYes X524.here hx rfl (pc0 := 164) (pc' := 172) rfl (hb hby at_164) rfl ((if0 _ _).trans (teq hc164_567).1) (by decide) (by decide) ?_
        exact k)
      have q_f0_m571 : f0_m571 p0 = (0 : Int32) := by unfold f0_m571; rw [if_pos hc164_567]
      rw [q_f0_m571]
      exact ⟨T524, _, h524, X524, e524, N524, Z524, O524, fm524_0, fm524_1, fm524_2, fm524_3, fm524_4, fm524_5, fm524_6, fm524_9, fm524_10, fm524_12, fm524_13, fm524_14, fm524_15, fm524_16, fm524_17, fm524_18, fm524_19, fm524_20, fm524_21, pre568⟩
    obtain ⟨cq569, kq569, q569a, q569b, q569c⟩ := isOf hZ e524 fm524_6
    obtain ⟨_, _, ⟨T569, L569, k569, n569⟩, -, X569, ⟨Lc569, hQ569, l569, y569, z569⟩, st569⟩ := X524.virtualBack hx (y := (⟨"com/example/tenon/tenon/Assignments", "notKnown", "()V"⟩ : MethodName)) (z := (⟨"com/example/tenon/tenon/Assignments", "notKnown", "()V"⟩ : MethodName)) hown (mvT hZ (hw _ (List.mem_of_getElem? (i := 91) rfl))) (mvT hZ (hw _ (List.mem_of_getElem? (i := 92) rfl))) (notFace_of_selects (args := #[]) (mvT hZ (hw _ (List.mem_of_getElem? (i := 94) rfl)))) (mvT hZ (hw _ (List.mem_of_getElem? (i := 94) rfl))) (mvT hZ (hw _ (List.mem_of_getElem? (i := 93) rfl))) (by decide) (backOf (W := 0) (rm13 l Z a0' hw [] b40 (.ref b355_0) (.ref b36_0) (.ref b37) (0 : Int32) h524 n0 Z524 fm524_6 fm524_7 fm524_8 fm524_9 fm524_10 fm524_11 g_b40) hZ (hw _ (List.mem_of_getElem? (i := 95) rfl)) (hw _ (List.mem_of_getElem? (i := 17) rfl)) (by decide) (by decide)) q569a q569c (g := (mkF m 169 #[.val (.int p0), .val (.int (f0_m5 p0)), .val (.int (f0_m10 p0)), .val (.int (f0_m15 p0)), .val (.int (f0_m20 p0)), .val (.int (f0_m25 p0)), .val (.int (f0_m30 p0)), .val (.int (f0_m35 p0)), .val (.ref b36_0), .val (.ref b37), .val (.ref b40), .val (.ref b359), .unset, .unset, .unset] [(.ref b40)])) rfl (by rw [hml]; rfl) (Steps.refl _) (argsL := []) (rest := []) (lenOf pd0 rfl) rfl (by show 2 * 0 + _ ≤ _; exact Nat.le_of_eq rfl) (hb hby at_169) (fun _ _ => ⟨rfl, e524, (by decide : 10 + 0 ≤ _), (by decide : 65 + 0 ≤ _)⟩)
    dsimp only [Pt.U, Pt.locs, Pt.cells, Pt.slots] at X569 l569 y569 z569 st569 hQ569
    subst l569 y569 z569
    obtain ⟨rfl, N569q, K569, u569_0, u569_1, u569_2, u569_3, u569_4, u569_5⟩ := hQ569
    have N569 := Fr.app N524 N569q
    have Z569 : n0 ≤ T569.heap.size := Nat.le_trans Z524 K569.1
    have O569 : Old Z n0 T569.heap := O524.keep K569 (allS g_b40 all0)
    have pre570 : ∀ t, Steps p.tables e below (T569.setTop (mkF m 172 #[.val (.int p0), .val (.int (f0_m5 p0)), .val (.int (f0_m10 p0)), .val (.int (f0_m15 p0)), .val (.int (f0_m20 p0)), .val (.int (f0_m25 p0)), .val (.int (f0_m30 p0)), .val (.int (f0_m35 p0)), .val (.ref b36_0), .val (.ref b37), .val (.ref b40), .val (.ref b359), .unset, .unset, .unset] [])) t → Steps p.tables e below (s₁.setTop (entryFrame m #[(.int p0)] maxLocals)) t := fun t k => pre566 t (by
      show Steps p.tables e below (T524.setTop (mkF m 164 #[.val (.int p0), .val (.int (f0_m5 p0)), .val (.int (f0_m10 p0)), .val (.int (f0_m15 p0)), .val (.int (f0_m20 p0)), .val (.int (f0_m25 p0)), .val (.int (f0_m30 p0)), .val (.int (f0_m35 p0)), .val (.ref b36_0), .val (.ref b37), .val (.ref b40), .val (.ref b359), .unset, .unset, .unset] [(.int (f0_m35 p0))])) _
      refine XS.ifNo X524.here hx rfl (hb hby at_164) rfl ((if0 _ _).trans (feq hc164_567).1) ?_
      show Steps p.tables e below (T524.setTop (mkF m 167 #[.val (.int p0), .val (.int (f0_m5 p0)), .val (.int (f0_m10 p0)), .val (.int (f0_m15 p0)), .val (.int (f0_m20 p0)), .val (.int (f0_m25 p0)), .val (.int (f0_m30 p0)), .val (.int (f0_m35 p0)), .val (.ref b36_0), .val (.ref b37), .val (.ref b40), .val (.ref b359), .unset, .unset, .unset] [])) _
      refine XS.aload X524.here hx rfl (hb hby at_167) rfl rfl ?_
      show Steps p.tables e below (T524.setTop (mkF m 169 #[.val (.int p0), .val (.int (f0_m5 p0)), .val (.int (f0_m10 p0)), .val (.int (f0_m15 p0)), .val (.int (f0_m20 p0)), .val (.int (f0_m25 p0)), .val (.int (f0_m30 p0)), .val (.int (f0_m35 p0)), .val (.ref b36_0), .val (.ref b37), .val (.ref b40), .val (.ref b359), .unset, .unset, .unset] [(.ref b40)])) _
      refine st569.trans ?_
      exact k)
    have q_f0_m571 : f0_m571 p0 = (1 : Int32) := by unfold f0_m571; rw [if_neg hc164_567]
    rw [q_f0_m571]
    have y572 := (fm524_0.keep K569)
    have y573 := (fm524_1.keep K569 (ninS ne_b36_0_b40 nin0))
    have y574 := (fm524_2.keep K569 (ninS ne_b36_0_b40 nin0))
    have y575 := (fm524_3.keep K569)
    have y576 := (fm524_4.keep K569 (ninS ne_b37_b40 nin0))
    have y577 := (fm524_5.keep K569 (ninS ne_b37_b40 nin0))
    have y578 := (fm524_12.keep K569)
    have y579 := (fm524_13.keep K569 (ninS (Ne.symm ne_b40_b359) nin0))
    have y580 := (fm524_14.keep K569 (ninS (Ne.symm ne_b40_b359) nin0))
    have y581 := (fm524_15.keep K569 (ninS (Ne.symm ne_b40_b359) nin0))
    have y582 := (fm524_16.keep K569 (ninS (Ne.symm ne_b40_b359) nin0))
    have y583 := (fm524_17.keep K569 (ninS (Ne.symm ne_b40_b359) nin0))
    have y584 := (fm524_18.keep K569)
    have y585 := (fm524_19.keep K569 (ninS (Ne.symm ne_b40_b517_0) nin0))
    have y586 := (fm524_20.keep K569 (ninS (Ne.symm ne_b40_b517_0) nin0))
    have y587 := (fm524_21.keep K569 (ninS (Ne.symm ne_b40_b517_0) nin0))
    exact ⟨T569, _, T569.heap, X569, rfl, N569, Z569, O569, y572, y573, y574, y575, y576, y577, u569_0, u569_3, u569_4, y578, y579, y580, y581, y582, y583, y584, y585, y586, y587, pre570⟩
  have pre588 : ∀ t, Steps p.tables e below (T567.setTop (mkF m 173 #[.val (.int p0), .val (.int (f0_m5 p0)), .val (.int (f0_m10 p0)), .val (.int (f0_m15 p0)), .val (.int (f0_m20 p0)), .val (.int (f0_m25 p0)), .val (.int (f0_m30 p0)), .val (.int (f0_m35 p0)), .val (.ref b36_0), .val (.ref b37), .val (.ref b40), .val (.ref b359), .unset, .unset, .unset] [(.int (f0_m5 p0))])) t → Steps p.tables e below (s₁.setTop (entryFrame m #[(.int p0)] maxLocals)) t := fun t k => pre567 t (by
    show Steps p.tables e below (T567.setTop (mkF m 172 #[.val (.int p0), .val (.int (f0_m5 p0)), .val (.int (f0_m10 p0)), .val (.int (f0_m15 p0)), .val (.int (f0_m20 p0)), .val (.int (f0_m25 p0)), .val (.int (f0_m30 p0)), .val (.int (f0_m35 p0)), .val (.ref b36_0), .val (.ref b37), .val (.ref b40), .val (.ref b359), .unset, .unset, .unset] [])) _
    refine XS.iloadN X567.here hx rfl (hb hby at_172) rfl ?_
    exact k)
  obtain ⟨T589, L589, h589, X589, e589, N589, Z589, O589, fm589_0, fm589_1, fm589_2, fm589_3, fm589_4, fm589_5, fm589_6, fm589_7, fm589_8, fm589_9, fm589_10, fm589_11, fm589_12, fm589_13, fm589_14, fm589_15, fm589_16, fm589_17, fm589_18, pre589⟩ : ∃ (T' : State) (locs' : List Loc) (h' : Heap), Stand p l e room_1 s m #[(.int p0)] below meth c T' locs' 10 65 ∧ T'.heap = h' ∧ Fr n0 locs' ∧ n0 ≤ h'.size ∧ Old Z n0 h' ∧ Exa Z h' b36_0 "com/example/tenon/tenon/Budget" ∧ Fld Z h' b36_0 "com/example/tenon/tenon/Budget" "limit" "J" (.long (9223372036854775807 : Int64)) ∧ Fld Z h' b36_0 "com/example/tenon/tenon/Budget" "held" "J" (.long (0 : Int64)) ∧ Exa Z h' b37 "com/example/tenon/tenon/Assignments" ∧ Fld Z h' b37 "com/example/tenon/tenon/Assignments" "below" "Lcom/example/tenon/tenon/Assignments;" .null ∧ Fld Z h' b37 "com/example/tenon/tenon/Assignments" "blindness" "I" (.int (f0_m534 p0)) ∧ Exa Z h' b40 "com/example/tenon/tenon/Assignments" ∧ Fld Z h' b40 "com/example/tenon/tenon/Assignments" "below" "Lcom/example/tenon/tenon/Assignments;" (.ref b37) ∧ Fld Z h' b40 "com/example/tenon/tenon/Assignments" "blindness" "I" (.int (f0_m571 p0)) ∧ Exa Z h' b359 "com/example/tenon/tenon/Assignments" ∧ Fld Z h' b359 "com/example/tenon/tenon/Assignments" "changed" "Ljava/util/List;" (.ref b517_0) ∧ Fld Z h' b359 "com/example/tenon/tenon/Assignments" "budget" "Lcom/example/tenon/tenon/Budget;" (.ref b36_0) ∧ Fld Z h' b359 "com/example/tenon/tenon/Assignments" "below" "Lcom/example/tenon/tenon/Assignments;" (.ref b40) ∧ Fld Z h' b359 "com/example/tenon/tenon/Assignments" "blindness" "I" (.int (f0_m593 p0)) ∧ Fld Z h' b359 "com/example/tenon/tenon/Assignments" "marks" "I" (.int (0 : Int32)) ∧ Exa Z h' b517_0 "java/util/ArrayList" ∧ Fld Z h' b517_0 "java/util/AbstractList" "modCount" "I" (.int (0 : Int32)) ∧ Fld Z h' b517_0 "java/util/ArrayList" "elementData" "[Ljava/lang/Object;" (.ref sD) ∧ Fld Z h' b517_0 "java/util/ArrayList" "size" "I" (.int (0 : Int32)) ∧ ∀ t, Steps p.tables e below (T'.setTop (mkF m 181 #[.val (.int p0), .val (.int (f0_m5 p0)), .val (.int (f0_m10 p0)), .val (.int (f0_m15 p0)), .val (.int (f0_m20 p0)), .val (.int (f0_m25 p0)), .val (.int (f0_m30 p0)), .val (.int (f0_m35 p0)), .val (.ref b36_0), .val (.ref b37), .val (.ref b40), .val (.ref b359), .unset, .unset, .unset] [])) t → Steps p.tables e below (s₁.setTop (entryFrame m #[(.int p0)] maxLocals)) t := by
    by_cases hc173_589 : (f0_m5 p0) = (0 : Int32)
    · have pre590 : ∀ t, Steps p.tables e below (T567.setTop (mkF m 181 #[.val (.int p0), .val (.int (f0_m5 p0)), .val (.int (f0_m10 p0)), .val (.int (f0_m15 p0)), .val (.int (f0_m20 p0)), .val (.int (f0_m25 p0)), .val (.int (f0_m30 p0)), .val (.int (f0_m35 p0)), .val (.ref b36_0), .val (.ref b37), .val (.ref b40), .val (.ref b359), .unset, .unset, .unset] [])) t → Steps p.tables e below (s₁.setTop (entryFrame m #[(.int p0)] maxLocals)) t := fun t k => pre588 t (by
        show Steps p.tables e below (T567.setTop (mkF m 173 #[.val (.int p0), .val (.int (f0_m5 p0)), .val (.int (f0_m10 p0)), .val (.int (f0_m15 p0)), .val (.int (f0_m20 p0)), .val (.int (f0_m25 p0)), .val (.int (f0_m30 p0)), .val (.int (f0_m35 p0)), .val (.ref b36_0), .val (.ref b37), .val (.ref b40), .val (.ref b359), .unset, .unset, .unset] [(.int (f0_m5 p0))])) _
        refine XS.ifYes X567.here hx rfl (pc0 := 173) (pc' := 181) rfl (hb hby at_173) rfl ((if0 _ _).trans (teq hc173_589).1) (by decide) (by decide) ?_
        exact k)
      have q_f0_m593 : f0_m593 p0 = (0 : Int32) := by unfold f0_m593; rw [if_pos hc173_589]
      rw [q_f0_m593]
      exact ⟨T567, _, h567, X567, e567, N567, Z567, O567, fm567_0, fm567_1, fm567_2, fm567_3, fm567_4, fm567_5, fm567_6, fm567_7, fm567_8, fm567_9, fm567_10, fm567_11, fm567_12, fm567_13, fm567_14, fm567_15, fm567_16, fm567_17, fm567_18, pre590⟩
    obtain ⟨cq591, kq591, q591a, q591b, q591c⟩ := isOf hZ e567 fm567_9
    obtain ⟨_, _, ⟨T591, L591, k591, n591⟩, -, X591, ⟨Lc591, hQ591, l591, y591, z591⟩, st591⟩ := X567.virtualBack hx (y := (⟨"com/example/tenon/tenon/Assignments", "notKnown", "()V"⟩ : MethodName)) (z := (⟨"com/example/tenon/tenon/Assignments", "notKnown", "()V"⟩ : MethodName)) hown (mvT hZ (hw _ (List.mem_of_getElem? (i := 91) rfl))) (mvT hZ (hw _ (List.mem_of_getElem? (i := 92) rfl))) (notFace_of_selects (args := #[]) (mvT hZ (hw _ (List.mem_of_getElem? (i := 94) rfl)))) (mvT hZ (hw _ (List.mem_of_getElem? (i := 94) rfl))) (mvT hZ (hw _ (List.mem_of_getElem? (i := 93) rfl))) (by decide) (backOf (W := 0) (rm13 l Z a0' hw [] b359 (.ref b517_0) (.ref b36_0) (.ref b40) (0 : Int32) h567 n0 Z567 fm567_9 fm567_10 fm567_11 fm567_12 fm567_13 fm567_14 g_b359) hZ (hw _ (List.mem_of_getElem? (i := 95) rfl)) (hw _ (List.mem_of_getElem? (i := 17) rfl)) (by decide) (by decide)) q591a q591c (g := (mkF m 178 #[.val (.int p0), .val (.int (f0_m5 p0)), .val (.int (f0_m10 p0)), .val (.int (f0_m15 p0)), .val (.int (f0_m20 p0)), .val (.int (f0_m25 p0)), .val (.int (f0_m30 p0)), .val (.int (f0_m35 p0)), .val (.ref b36_0), .val (.ref b37), .val (.ref b40), .val (.ref b359), .unset, .unset, .unset] [(.ref b359)])) rfl (by rw [hml]; rfl) (Steps.refl _) (argsL := []) (rest := []) (lenOf pd0 rfl) rfl (by show 2 * 0 + _ ≤ _; exact Nat.le_of_eq rfl) (hb hby at_178) (fun _ _ => ⟨rfl, e567, (by decide : 10 + 0 ≤ _), (by decide : 65 + 0 ≤ _)⟩)
    dsimp only [Pt.U, Pt.locs, Pt.cells, Pt.slots] at X591 l591 y591 z591 st591 hQ591
    subst l591 y591 z591
    obtain ⟨rfl, N591q, K591, u591_0, u591_1, u591_2, u591_3, u591_4, u591_5⟩ := hQ591
    have N591 := Fr.app N567 N591q
    have Z591 : n0 ≤ T591.heap.size := Nat.le_trans Z567 K591.1
    have O591 : Old Z n0 T591.heap := O567.keep K591 (allS g_b359 all0)
    have pre592 : ∀ t, Steps p.tables e below (T591.setTop (mkF m 181 #[.val (.int p0), .val (.int (f0_m5 p0)), .val (.int (f0_m10 p0)), .val (.int (f0_m15 p0)), .val (.int (f0_m20 p0)), .val (.int (f0_m25 p0)), .val (.int (f0_m30 p0)), .val (.int (f0_m35 p0)), .val (.ref b36_0), .val (.ref b37), .val (.ref b40), .val (.ref b359), .unset, .unset, .unset] [])) t → Steps p.tables e below (s₁.setTop (entryFrame m #[(.int p0)] maxLocals)) t := fun t k => pre588 t (by
      show Steps p.tables e below (T567.setTop (mkF m 173 #[.val (.int p0), .val (.int (f0_m5 p0)), .val (.int (f0_m10 p0)), .val (.int (f0_m15 p0)), .val (.int (f0_m20 p0)), .val (.int (f0_m25 p0)), .val (.int (f0_m30 p0)), .val (.int (f0_m35 p0)), .val (.ref b36_0), .val (.ref b37), .val (.ref b40), .val (.ref b359), .unset, .unset, .unset] [(.int (f0_m5 p0))])) _
      refine XS.ifNo X567.here hx rfl (hb hby at_173) rfl ((if0 _ _).trans (feq hc173_589).1) ?_
      show Steps p.tables e below (T567.setTop (mkF m 176 #[.val (.int p0), .val (.int (f0_m5 p0)), .val (.int (f0_m10 p0)), .val (.int (f0_m15 p0)), .val (.int (f0_m20 p0)), .val (.int (f0_m25 p0)), .val (.int (f0_m30 p0)), .val (.int (f0_m35 p0)), .val (.ref b36_0), .val (.ref b37), .val (.ref b40), .val (.ref b359), .unset, .unset, .unset] [])) _
      refine XS.aload X567.here hx rfl (hb hby at_176) rfl rfl ?_
      show Steps p.tables e below (T567.setTop (mkF m 178 #[.val (.int p0), .val (.int (f0_m5 p0)), .val (.int (f0_m10 p0)), .val (.int (f0_m15 p0)), .val (.int (f0_m20 p0)), .val (.int (f0_m25 p0)), .val (.int (f0_m30 p0)), .val (.int (f0_m35 p0)), .val (.ref b36_0), .val (.ref b37), .val (.ref b40), .val (.ref b359), .unset, .unset, .unset] [(.ref b359)])) _
      refine st591.trans ?_
      exact k)
    have q_f0_m593 : f0_m593 p0 = (1 : Int32) := by unfold f0_m593; rw [if_neg hc173_589]
    rw [q_f0_m593]
    have y594 := (fm567_0.keep K591)
    have y595 := (fm567_1.keep K591 (ninS ne_b36_0_b359 nin0))
    have y596 := (fm567_2.keep K591 (ninS ne_b36_0_b359 nin0))
    have y597 := (fm567_3.keep K591)
    have y598 := (fm567_4.keep K591 (ninS ne_b37_b359 nin0))
    have y599 := (fm567_5.keep K591 (ninS ne_b37_b359 nin0))
    have y600 := (fm567_6.keep K591)
    have y601 := (fm567_7.keep K591 (ninS ne_b40_b359 nin0))
    have y602 := (fm567_8.keep K591 (ninS ne_b40_b359 nin0))
    have y603 := (fm567_15.keep K591)
    have y604 := (fm567_16.keep K591 (ninS (Ne.symm ne_b359_b517_0) nin0))
    have y605 := (fm567_17.keep K591 (ninS (Ne.symm ne_b359_b517_0) nin0))
    have y606 := (fm567_18.keep K591 (ninS (Ne.symm ne_b359_b517_0) nin0))
    exact ⟨T591, _, T591.heap, X591, rfl, N591, Z591, O591, y594, y595, y596, y597, y598, y599, y600, y601, y602, u591_0, u591_1, u591_2, u591_3, u591_4, u591_5, y603, y604, y605, y606, pre592⟩
  have pre607 : ∀ t, Steps p.tables e below (T589.setTop (mkF m 182 #[.val (.int p0), .val (.int (f0_m5 p0)), .val (.int (f0_m10 p0)), .val (.int (f0_m15 p0)), .val (.int (f0_m20 p0)), .val (.int (f0_m25 p0)), .val (.int (f0_m30 p0)), .val (.int (f0_m35 p0)), .val (.ref b36_0), .val (.ref b37), .val (.ref b40), .val (.ref b359), .unset, .unset, .unset] [(.int (f0_m10 p0))])) t → Steps p.tables e below (s₁.setTop (entryFrame m #[(.int p0)] maxLocals)) t := fun t k => pre589 t (by
    show Steps p.tables e below (T589.setTop (mkF m 181 #[.val (.int p0), .val (.int (f0_m5 p0)), .val (.int (f0_m10 p0)), .val (.int (f0_m15 p0)), .val (.int (f0_m20 p0)), .val (.int (f0_m25 p0)), .val (.int (f0_m30 p0)), .val (.int (f0_m35 p0)), .val (.ref b36_0), .val (.ref b37), .val (.ref b40), .val (.ref b359), .unset, .unset, .unset] [])) _
    refine XS.iloadN X589.here hx rfl (hb hby at_181) rfl ?_
    exact k)
  obtain ⟨T608, L608, h608, s608_12, X608, e608, N608, Z608, O608, fm608_0, fm608_1, fm608_2, fm608_3, fm608_4, fm608_5, fm608_6, fm608_7, fm608_8, hs608_12, pre608⟩ : ∃ (T' : State) (locs' : List Loc) (h' : Heap) (s608_12 : Slot), Stand p l e room_1 s m #[(.int p0)] below meth c T' locs' 12 77 ∧ T'.heap = h' ∧ Fr n0 locs' ∧ n0 ≤ h'.size ∧ Old Z n0 h' ∧ Exa Z h' b37 "com/example/tenon/tenon/Assignments" ∧ Fld Z h' b37 "com/example/tenon/tenon/Assignments" "below" "Lcom/example/tenon/tenon/Assignments;" .null ∧ Fld Z h' b37 "com/example/tenon/tenon/Assignments" "blindness" "I" (.int (f0_m534 p0)) ∧ Exa Z h' b40 "com/example/tenon/tenon/Assignments" ∧ Fld Z h' b40 "com/example/tenon/tenon/Assignments" "below" "Lcom/example/tenon/tenon/Assignments;" (.ref b37) ∧ Fld Z h' b40 "com/example/tenon/tenon/Assignments" "blindness" "I" (.int (f0_m571 p0)) ∧ Exa Z h' b359 "com/example/tenon/tenon/Assignments" ∧ Fld Z h' b359 "com/example/tenon/tenon/Assignments" "below" "Lcom/example/tenon/tenon/Assignments;" (.ref b40) ∧ Fld Z h' b359 "com/example/tenon/tenon/Assignments" "blindness" "I" (.int (f0_m626 p0)) ∧ One s608_12 ∧ ∀ t, Steps p.tables e below (T'.setTop (mkF m 208 #[.val (.int p0), .val (.int (f0_m5 p0)), .val (.int (f0_m10 p0)), .val (.int (f0_m15 p0)), .val (.int (f0_m20 p0)), .val (.int (f0_m25 p0)), .val (.int (f0_m30 p0)), .val (.int (f0_m35 p0)), .val (.ref b36_0), .val (.ref b37), .val (.ref b40), .val (.ref b359), s608_12, .unset, .unset] [])) t → Steps p.tables e below (s₁.setTop (entryFrame m #[(.int p0)] maxLocals)) t := by
    by_cases hc182_608 : (f0_m10 p0) = (0 : Int32)
    · have pre609 : ∀ t, Steps p.tables e below (T589.setTop (mkF m 208 #[.val (.int p0), .val (.int (f0_m5 p0)), .val (.int (f0_m10 p0)), .val (.int (f0_m15 p0)), .val (.int (f0_m20 p0)), .val (.int (f0_m25 p0)), .val (.int (f0_m30 p0)), .val (.int (f0_m35 p0)), .val (.ref b36_0), .val (.ref b37), .val (.ref b40), .val (.ref b359), .unset, .unset, .unset] [])) t → Steps p.tables e below (s₁.setTop (entryFrame m #[(.int p0)] maxLocals)) t := fun t k => pre607 t (by
        show Steps p.tables e below (T589.setTop (mkF m 182 #[.val (.int p0), .val (.int (f0_m5 p0)), .val (.int (f0_m10 p0)), .val (.int (f0_m15 p0)), .val (.int (f0_m20 p0)), .val (.int (f0_m25 p0)), .val (.int (f0_m30 p0)), .val (.int (f0_m35 p0)), .val (.ref b36_0), .val (.ref b37), .val (.ref b40), .val (.ref b359), .unset, .unset, .unset] [(.int (f0_m10 p0))])) _
        refine XS.ifYes X589.here hx rfl (pc0 := 182) (pc' := 208) rfl (hb hby at_182) rfl ((if0 _ _).trans (teq hc182_608).1) (by decide) (by decide) ?_
        exact k)
      have q_f0_m626 : f0_m626 p0 = (f0_m593 p0) := by unfold f0_m626; rw [if_pos hc182_608]
      rw [q_f0_m626]
      exact ⟨T589, _, h589, .unset, (X589.more (by decide) (by decide)), e589, N589, Z589, O589, fm589_3, fm589_4, fm589_5, fm589_6, fm589_7, fm589_8, fm589_9, fm589_12, fm589_13, One.u, pre609⟩
    obtain ⟨cq610, kq610, q610a, q610b, q610c⟩ := isOf hZ e589 fm589_9
    obtain ⟨_, _, ⟨T610, L610, k610, n610⟩, -, X610, ⟨Lc610, hQ610, l610, y610, z610⟩, st610⟩ := X589.virtualBack hx (y := (⟨"com/example/tenon/tenon/Assignments", "mark", "()I"⟩ : MethodName)) (z := (⟨"com/example/tenon/tenon/Assignments", "mark", "()I"⟩ : MethodName)) hown (mvT hZ (hw _ (List.mem_of_getElem? (i := 98) rfl))) (mvT hZ (hw _ (List.mem_of_getElem? (i := 99) rfl))) (notFace_of_selects (args := #[]) (mvT hZ (hw _ (List.mem_of_getElem? (i := 101) rfl)))) (mvT hZ (hw _ (List.mem_of_getElem? (i := 101) rfl))) (mvT hZ (hw _ (List.mem_of_getElem? (i := 100) rfl))) (by decide) (backOf (W := 0) (rm14 l Z a0' hw [] b359 b517_0 (.ref b36_0) (.ref b40) (f0_m593 p0) h589 n0 Z589 fm589_9 fm589_15 fm589_10 fm589_11 fm589_12 fm589_13 fm589_14 fm589_18 g_b359) hZ (hw _ (List.mem_of_getElem? (i := 102) rfl)) (hw _ (List.mem_of_getElem? (i := 17) rfl)) (by decide) (by decide)) q610a q610c (g := (mkF m 187 #[.val (.int p0), .val (.int (f0_m5 p0)), .val (.int (f0_m10 p0)), .val (.int (f0_m15 p0)), .val (.int (f0_m20 p0)), .val (.int (f0_m25 p0)), .val (.int (f0_m30 p0)), .val (.int (f0_m35 p0)), .val (.ref b36_0), .val (.ref b37), .val (.ref b40), .val (.ref b359), .unset, .unset, .unset] [(.ref b359)])) rfl (by rw [hml]; rfl) (Steps.refl _) (argsL := []) (rest := []) (lenOf pd10 rfl) rfl (by show 2 * 0 + _ ≤ _; exact Nat.le_of_eq rfl) (hb hby at_187) (fun _ _ => ⟨rfl, e589, (by decide : 10 + 0 ≤ _), (by decide : 65 + 0 ≤ _)⟩)
    dsimp only [Pt.U, Pt.locs, Pt.cells, Pt.slots] at X610 l610 y610 z610 st610 hQ610
    subst l610 y610 z610
    obtain ⟨rfl, N610q, K610, u610_0, u610_1, u610_2, u610_3, u610_4, u610_5⟩ := hQ610
    have N610 := Fr.app N589 N610q
    have Z610 : n0 ≤ T610.heap.size := Nat.le_trans Z589 K610.1
    have O610 : Old Z n0 T610.heap := O589.keep K610 (allS g_b359 all0)
    have y612 := (fm589_1.keep K610 (ninS ne_b36_0_b359 nin0))
    have y613 := (fm589_2.keep K610 (ninS ne_b36_0_b359 nin0))
    have y614 := (fm589_16.keep K610 (ninS (Ne.symm ne_b359_b517_0) nin0))
    have y615 := (fm589_0.keep K610)
    have y616 := (fm589_15.keep K610)
    have y617 := (fm589_17.keep K610 (ninS (Ne.symm ne_b359_b517_0) nin0))
    have y618 := (fm589_18.keep K610 (ninS (Ne.symm ne_b359_b517_0) nin0))
    obtain ⟨cq611, kq611, q611a, q611b, q611c⟩ := isOf hZ rfl u610_0
    obtain ⟨_, _, ⟨T611, L611, k611, n611⟩, -, X611, ⟨Lc611, hQ611, l611, y611, z611⟩, st611⟩ := X610.virtualBack hx (y := (⟨"com/example/tenon/tenon/Assignments", "notKnown", "()V"⟩ : MethodName)) (z := (⟨"com/example/tenon/tenon/Assignments", "notKnown", "()V"⟩ : MethodName)) hown (mvT hZ (hw _ (List.mem_of_getElem? (i := 91) rfl))) (mvT hZ (hw _ (List.mem_of_getElem? (i := 92) rfl))) (notFace_of_selects (args := #[]) (mvT hZ (hw _ (List.mem_of_getElem? (i := 94) rfl)))) (mvT hZ (hw _ (List.mem_of_getElem? (i := 94) rfl))) (mvT hZ (hw _ (List.mem_of_getElem? (i := 93) rfl))) (by decide) (backOf (W := 0) (rm13m l Z a0' hw [] b359 b517_0 b36_0 (.ref b40) (f0_m593 p0) (9223372036854775807 : Int64) (0 : Int64) (0 : Int32) sD kS_sD T610.heap n0 Z610 u610_0 y615 y616 u610_1 u610_2 u610_3 u610_4 u610_5 y612 y613 y614 y617 y618 g_b36_0 g_b517_0 g_b359 O610 VS_sD S_sD (by decide)) hZ (hw _ (List.mem_of_getElem? (i := 95) rfl)) (hw _ (List.mem_of_getElem? (i := 17) rfl)) (by decide) (by decide)) q611a q611c (g := (mkF m 194 #[.val (.int p0), .val (.int (f0_m5 p0)), .val (.int (f0_m10 p0)), .val (.int (f0_m15 p0)), .val (.int (f0_m20 p0)), .val (.int (f0_m25 p0)), .val (.int (f0_m30 p0)), .val (.int (f0_m35 p0)), .val (.ref b36_0), .val (.ref b37), .val (.ref b40), .val (.ref b359), .val (.int (0 : Int32)), .unset, .unset] [(.ref b359)])) rfl (by rw [hml]; rfl) (Steps.refl _) (argsL := []) (rest := []) (lenOf pd0 rfl) rfl (by show 2 * 0 + _ ≤ _; exact Nat.le_of_eq rfl) (hb hby at_194) (fun _ _ => ⟨rfl, rfl, (by decide : 10 + 2 ≤ _), (by decide : 65 + 12 ≤ _)⟩)
    dsimp only [Pt.U, Pt.locs, Pt.cells, Pt.slots] at X611 l611 y611 z611 st611 hQ611
    subst l611 y611 z611
    have y619 := (fm589_3.keep K610)
    have y620 := (fm589_6.keep K610)
    obtain ⟨b611_0, b611_1, rfl, N611q, gs_b611_0, g_b611_0, gs_b611_1, g_b611_1, K611, u611_0, u611_1, u611_2, u611_3, u611_4, u611_5, u611_6, u611_7, u611_8, u611_9, u611_10, u611_11, u611_12, u611_13, u611_14, u611_15, u611_16⟩ := hQ611
    have N611 := Fr.app N610 N611q
    have ne_b36_0_b611_0 : b36_0 ≠ b611_0 := Nat.ne_of_lt (Nat.lt_of_lt_of_le y615.lt gs_b611_0)
    have ne_b37_b611_0 : b37 ≠ b611_0 := Nat.ne_of_lt (Nat.lt_of_lt_of_le y619.lt gs_b611_0)
    have ne_b40_b611_0 : b40 ≠ b611_0 := Nat.ne_of_lt (Nat.lt_of_lt_of_le y620.lt gs_b611_0)
    have ne_b359_b611_0 : b359 ≠ b611_0 := Nat.ne_of_lt (Nat.lt_of_lt_of_le u610_0.lt gs_b611_0)
    have ne_b517_0_b611_0 : b517_0 ≠ b611_0 := Nat.ne_of_lt (Nat.lt_of_lt_of_le y616.lt gs_b611_0)
    have ne_b36_0_b611_1 : b36_0 ≠ b611_1 := Nat.ne_of_lt (Nat.lt_of_lt_of_le y615.lt gs_b611_1)
    have ne_b37_b611_1 : b37 ≠ b611_1 := Nat.ne_of_lt (Nat.lt_of_lt_of_le y619.lt gs_b611_1)
    have ne_b40_b611_1 : b40 ≠ b611_1 := Nat.ne_of_lt (Nat.lt_of_lt_of_le y620.lt gs_b611_1)
    have ne_b359_b611_1 : b359 ≠ b611_1 := Nat.ne_of_lt (Nat.lt_of_lt_of_le u610_0.lt gs_b611_1)
    have ne_b517_0_b611_1 : b517_0 ≠ b611_1 := Nat.ne_of_lt (Nat.lt_of_lt_of_le y616.lt gs_b611_1)
    have Z611 : n0 ≤ T611.heap.size := Nat.le_trans Z610 K611.1
    have O611 : Old Z n0 T611.heap := O610.keep K611 (allS g_b36_0 (allS g_b517_0 (allS g_b359 all0)))
    obtain ⟨kk_u611_13, u611_13, ov_u611_13⟩ := u611_13
    have pre621 : ∀ t, Steps p.tables e below (T611.setTop (mkF m 198 #[.val (.int p0), .val (.int (f0_m5 p0)), .val (.int (f0_m10 p0)), .val (.int (f0_m15 p0)), .val (.int (f0_m20 p0)), .val (.int (f0_m25 p0)), .val (.int (f0_m30 p0)), .val (.int (f0_m35 p0)), .val (.ref b36_0), .val (.ref b37), .val (.ref b40), .val (.ref b359), .val (.int (0 : Int32)), .unset, .unset] [(.int (f0_m15 p0))])) t → Steps p.tables e below (s₁.setTop (entryFrame m #[(.int p0)] maxLocals)) t := fun t k => pre607 t (by
      show Steps p.tables e below (T589.setTop (mkF m 182 #[.val (.int p0), .val (.int (f0_m5 p0)), .val (.int (f0_m10 p0)), .val (.int (f0_m15 p0)), .val (.int (f0_m20 p0)), .val (.int (f0_m25 p0)), .val (.int (f0_m30 p0)), .val (.int (f0_m35 p0)), .val (.ref b36_0), .val (.ref b37), .val (.ref b40), .val (.ref b359), .unset, .unset, .unset] [(.int (f0_m10 p0))])) _
      refine XS.ifNo X589.here hx rfl (hb hby at_182) rfl ((if0 _ _).trans (feq hc182_608).1) ?_
      show Steps p.tables e below (T589.setTop (mkF m 185 #[.val (.int p0), .val (.int (f0_m5 p0)), .val (.int (f0_m10 p0)), .val (.int (f0_m15 p0)), .val (.int (f0_m20 p0)), .val (.int (f0_m25 p0)), .val (.int (f0_m30 p0)), .val (.int (f0_m35 p0)), .val (.ref b36_0), .val (.ref b37), .val (.ref b40), .val (.ref b359), .unset, .unset, .unset] [])) _
      refine XS.aload X589.here hx rfl (hb hby at_185) rfl rfl ?_
      show Steps p.tables e below (T589.setTop (mkF m 187 #[.val (.int p0), .val (.int (f0_m5 p0)), .val (.int (f0_m10 p0)), .val (.int (f0_m15 p0)), .val (.int (f0_m20 p0)), .val (.int (f0_m25 p0)), .val (.int (f0_m30 p0)), .val (.int (f0_m35 p0)), .val (.ref b36_0), .val (.ref b37), .val (.ref b40), .val (.ref b359), .unset, .unset, .unset] [(.ref b359)])) _
      refine st610.trans ?_
      show Steps p.tables e below (T610.setTop (mkF m 190 #[.val (.int p0), .val (.int (f0_m5 p0)), .val (.int (f0_m10 p0)), .val (.int (f0_m15 p0)), .val (.int (f0_m20 p0)), .val (.int (f0_m25 p0)), .val (.int (f0_m30 p0)), .val (.int (f0_m35 p0)), .val (.ref b36_0), .val (.ref b37), .val (.ref b40), .val (.ref b359), .unset, .unset, .unset] [(.int (0 : Int32))])) _
      refine XS.istore X610.here hx rfl (hb hby at_190) rfl (l' := #[.val (.int p0), .val (.int (f0_m5 p0)), .val (.int (f0_m10 p0)), .val (.int (f0_m15 p0)), .val (.int (f0_m20 p0)), .val (.int (f0_m25 p0)), .val (.int (f0_m30 p0)), .val (.int (f0_m35 p0)), .val (.ref b36_0), .val (.ref b37), .val (.ref b40), .val (.ref b359), .val (.int (0 : Int32)), .unset, .unset]) rfl ?_
      show Steps p.tables e below (T610.setTop (mkF m 192 #[.val (.int p0), .val (.int (f0_m5 p0)), .val (.int (f0_m10 p0)), .val (.int (f0_m15 p0)), .val (.int (f0_m20 p0)), .val (.int (f0_m25 p0)), .val (.int (f0_m30 p0)), .val (.int (f0_m35 p0)), .val (.ref b36_0), .val (.ref b37), .val (.ref b40), .val (.ref b359), .val (.int (0 : Int32)), .unset, .unset] [])) _
      refine XS.aload X610.here hx rfl (hb hby at_192) rfl rfl ?_
      show Steps p.tables e below (T610.setTop (mkF m 194 #[.val (.int p0), .val (.int (f0_m5 p0)), .val (.int (f0_m10 p0)), .val (.int (f0_m15 p0)), .val (.int (f0_m20 p0)), .val (.int (f0_m25 p0)), .val (.int (f0_m30 p0)), .val (.int (f0_m35 p0)), .val (.ref b36_0), .val (.ref b37), .val (.ref b40), .val (.ref b359), .val (.int (0 : Int32)), .unset, .unset] [(.ref b359)])) _
      refine st611.trans ?_
      show Steps p.tables e below (T611.setTop (mkF m 197 #[.val (.int p0), .val (.int (f0_m5 p0)), .val (.int (f0_m10 p0)), .val (.int (f0_m15 p0)), .val (.int (f0_m20 p0)), .val (.int (f0_m25 p0)), .val (.int (f0_m30 p0)), .val (.int (f0_m35 p0)), .val (.ref b36_0), .val (.ref b37), .val (.ref b40), .val (.ref b359), .val (.int (0 : Int32)), .unset, .unset] [])) _
      refine XS.iloadN X611.here hx rfl (hb hby at_197) rfl ?_
      exact k)
    by_cases hc198_622 : (f0_m15 p0) = (0 : Int32)
    · have pre623 : ∀ t, Steps p.tables e below (T611.setTop (mkF m 208 #[.val (.int p0), .val (.int (f0_m5 p0)), .val (.int (f0_m10 p0)), .val (.int (f0_m15 p0)), .val (.int (f0_m20 p0)), .val (.int (f0_m25 p0)), .val (.int (f0_m30 p0)), .val (.int (f0_m35 p0)), .val (.ref b36_0), .val (.ref b37), .val (.ref b40), .val (.ref b359), .val (.int (0 : Int32)), .unset, .unset] [])) t → Steps p.tables e below (s₁.setTop (entryFrame m #[(.int p0)] maxLocals)) t := fun t k => pre621 t (by
        show Steps p.tables e below (T611.setTop (mkF m 198 #[.val (.int p0), .val (.int (f0_m5 p0)), .val (.int (f0_m10 p0)), .val (.int (f0_m15 p0)), .val (.int (f0_m20 p0)), .val (.int (f0_m25 p0)), .val (.int (f0_m30 p0)), .val (.int (f0_m35 p0)), .val (.ref b36_0), .val (.ref b37), .val (.ref b40), .val (.ref b359), .val (.int (0 : Int32)), .unset, .unset] [(.int (f0_m15 p0))])) _
        refine XS.ifYes X611.here hx rfl (pc0 := 198) (pc' := 208) rfl (hb hby at_198) rfl ((if0 _ _).trans (teq hc198_622).1) (by decide) (by decide) ?_
        exact k)
      have q_f0_m626 : f0_m626 p0 = ((f0_m593 p0) + (1 : Int32)) := by unfold f0_m626; rw [if_neg hc182_608, if_pos hc198_622]
      rw [q_f0_m626]
      have y627 := (y619.keep K611)
      have y628 := ((fm589_4.keep K610 (ninS ne_b37_b359 nin0)).keep K611 (ninS (Ne.symm ne_b36_0_b37) (ninS ne_b37_b517_0 (ninS ne_b37_b359 nin0))))
      have y629 := ((fm589_5.keep K610 (ninS ne_b37_b359 nin0)).keep K611 (ninS (Ne.symm ne_b36_0_b37) (ninS ne_b37_b517_0 (ninS ne_b37_b359 nin0))))
      have y630 := (y620.keep K611)
      have y631 := ((fm589_7.keep K610 (ninS ne_b40_b359 nin0)).keep K611 (ninS (Ne.symm ne_b36_0_b40) (ninS ne_b40_b517_0 (ninS ne_b40_b359 nin0))))
      have y632 := ((fm589_8.keep K610 (ninS ne_b40_b359 nin0)).keep K611 (ninS (Ne.symm ne_b36_0_b40) (ninS ne_b40_b517_0 (ninS ne_b40_b359 nin0))))
      exact ⟨T611, _, T611.heap, .val (.int (0 : Int32)), X611, rfl, N611, Z611, O611, y627, y628, y629, y630, y631, y632, u611_7, u611_10, u611_11, One.val rfl, pre623⟩
    obtain ⟨cq624, kq624, q624a, q624b, q624c⟩ := isOf hZ rfl u611_7
    obtain ⟨_, _, ⟨T624, L624, k624, n624⟩, -, X624, ⟨Lc624, hQ624, l624, y624, z624⟩, st624⟩ := X611.virtualBack hx (y := (⟨"com/example/tenon/tenon/Assignments", "undo", "(I)V"⟩ : MethodName)) (z := (⟨"com/example/tenon/tenon/Assignments", "undo", "(I)V"⟩ : MethodName)) hown (mvT hZ (hw _ (List.mem_of_getElem? (i := 175) rfl))) (mvT hZ (hw _ (List.mem_of_getElem? (i := 176) rfl))) (notFace_of_selects (args := #[]) (mvT hZ (hw _ (List.mem_of_getElem? (i := 178) rfl)))) (mvT hZ (hw _ (List.mem_of_getElem? (i := 178) rfl))) (mvT hZ (hw _ (List.mem_of_getElem? (i := 177) rfl))) (by decide) (backOf (W := 0) (rm25 l Z a0' hw [] b359 b517_0 b36_0 (.ref b40) ((f0_m593 p0) + (1 : Int32)) (1 : Int32) b611_0 (9223372036854775807 : Int64) (56 : Int64) kk_u611_13 b611_1 T611.heap n0 Z611 u611_7 u611_13 u611_3 u611_14 u611_0 u611_8 u611_9 u611_10 u611_11 u611_12 u611_4 u611_5 u611_1 u611_2 u611_6 u611_15 g_b517_0 g_b611_0 g_b359 g_b36_0) hZ (hw _ (List.mem_of_getElem? (i := 179) rfl)) (hw _ (List.mem_of_getElem? (i := 17) rfl)) (by decide) (by decide)) q624a q624c (g := (mkF m 205 #[.val (.int p0), .val (.int (f0_m5 p0)), .val (.int (f0_m10 p0)), .val (.int (f0_m15 p0)), .val (.int (f0_m20 p0)), .val (.int (f0_m25 p0)), .val (.int (f0_m30 p0)), .val (.int (f0_m35 p0)), .val (.ref b36_0), .val (.ref b37), .val (.ref b40), .val (.ref b359), .val (.int (0 : Int32)), .unset, .unset] [(.int (0 : Int32)), (.ref b359)])) rfl (by rw [hml]; rfl) (Steps.refl _) (argsL := [(.int (0 : Int32))]) (rest := []) (lenOf pd15 rfl) rfl (by show 2 * 0 + _ ≤ _; exact Nat.le_of_eq rfl) (hb hby at_205) (fun _ _ => ⟨rfl, rfl, (by decide : 12 + 0 ≤ _), (by decide : 77 + 0 ≤ _)⟩)
    dsimp only [Pt.U, Pt.locs, Pt.cells, Pt.slots] at X624 l624 y624 z624 st624 hQ624
    subst l624 y624 z624
    obtain ⟨rfl, N624q, K624, u624_0, u624_1, u624_2, u624_3, u624_4, u624_5, u624_6, u624_7, u624_8, u624_9, u624_10, u624_11, u624_12, u624_13⟩ := hQ624
    have N624 := Fr.app N611 N624q
    have Z624 : n0 ≤ T624.heap.size := Nat.le_trans Z611 K624.1
    have O624 : Old Z n0 T624.heap := O611.keep K624 (allS g_b36_0 (allS g_b359 (allS g_b611_0 (allS g_b517_0 all0))))
    obtain ⟨kk_u624_9, u624_9⟩ := u624_9
    have pre625 : ∀ t, Steps p.tables e below (T624.setTop (mkF m 208 #[.val (.int p0), .val (.int (f0_m5 p0)), .val (.int (f0_m10 p0)), .val (.int (f0_m15 p0)), .val (.int (f0_m20 p0)), .val (.int (f0_m25 p0)), .val (.int (f0_m30 p0)), .val (.int (f0_m35 p0)), .val (.ref b36_0), .val (.ref b37), .val (.ref b40), .val (.ref b359), .val (.int (0 : Int32)), .unset, .unset] [])) t → Steps p.tables e below (s₁.setTop (entryFrame m #[(.int p0)] maxLocals)) t := fun t k => pre621 t (by
      show Steps p.tables e below (T611.setTop (mkF m 198 #[.val (.int p0), .val (.int (f0_m5 p0)), .val (.int (f0_m10 p0)), .val (.int (f0_m15 p0)), .val (.int (f0_m20 p0)), .val (.int (f0_m25 p0)), .val (.int (f0_m30 p0)), .val (.int (f0_m35 p0)), .val (.ref b36_0), .val (.ref b37), .val (.ref b40), .val (.ref b359), .val (.int (0 : Int32)), .unset, .unset] [(.int (f0_m15 p0))])) _
      refine XS.ifNo X611.here hx rfl (hb hby at_198) rfl ((if0 _ _).trans (feq hc198_622).1) ?_
      show Steps p.tables e below (T611.setTop (mkF m 201 #[.val (.int p0), .val (.int (f0_m5 p0)), .val (.int (f0_m10 p0)), .val (.int (f0_m15 p0)), .val (.int (f0_m20 p0)), .val (.int (f0_m25 p0)), .val (.int (f0_m30 p0)), .val (.int (f0_m35 p0)), .val (.ref b36_0), .val (.ref b37), .val (.ref b40), .val (.ref b359), .val (.int (0 : Int32)), .unset, .unset] [])) _
      refine XS.aload X611.here hx rfl (hb hby at_201) rfl rfl ?_
      show Steps p.tables e below (T611.setTop (mkF m 203 #[.val (.int p0), .val (.int (f0_m5 p0)), .val (.int (f0_m10 p0)), .val (.int (f0_m15 p0)), .val (.int (f0_m20 p0)), .val (.int (f0_m25 p0)), .val (.int (f0_m30 p0)), .val (.int (f0_m35 p0)), .val (.ref b36_0), .val (.ref b37), .val (.ref b40), .val (.ref b359), .val (.int (0 : Int32)), .unset, .unset] [(.ref b359)])) _
      refine XS.iload X611.here hx rfl (hb hby at_203) rfl ?_
      show Steps p.tables e below (T611.setTop (mkF m 205 #[.val (.int p0), .val (.int (f0_m5 p0)), .val (.int (f0_m10 p0)), .val (.int (f0_m15 p0)), .val (.int (f0_m20 p0)), .val (.int (f0_m25 p0)), .val (.int (f0_m30 p0)), .val (.int (f0_m35 p0)), .val (.ref b36_0), .val (.ref b37), .val (.ref b40), .val (.ref b359), .val (.int (0 : Int32)), .unset, .unset] [(.int (0 : Int32)), (.ref b359)])) _
      refine st624.trans ?_
      exact k)
    have q_f0_m626 : f0_m626 p0 = (((f0_m593 p0) + (1 : Int32)) - (1 : Int32)) := by unfold f0_m626; rw [if_neg hc182_608, if_neg hc198_622]
    rw [q_f0_m626]
    have y633 := ((y619.keep K611).keep K624)
    have y634 := (((fm589_4.keep K610 (ninS ne_b37_b359 nin0)).keep K611 (ninS (Ne.symm ne_b36_0_b37) (ninS ne_b37_b517_0 (ninS ne_b37_b359 nin0)))).keep K624 (ninS (Ne.symm ne_b36_0_b37) (ninS ne_b37_b359 (ninS ne_b37_b611_0 (ninS ne_b37_b517_0 nin0)))))
    have y635 := (((fm589_5.keep K610 (ninS ne_b37_b359 nin0)).keep K611 (ninS (Ne.symm ne_b36_0_b37) (ninS ne_b37_b517_0 (ninS ne_b37_b359 nin0)))).keep K624 (ninS (Ne.symm ne_b36_0_b37) (ninS ne_b37_b359 (ninS ne_b37_b611_0 (ninS ne_b37_b517_0 nin0)))))
    have y636 := ((y620.keep K611).keep K624)
    have y637 := (((fm589_7.keep K610 (ninS ne_b40_b359 nin0)).keep K611 (ninS (Ne.symm ne_b36_0_b40) (ninS ne_b40_b517_0 (ninS ne_b40_b359 nin0)))).keep K624 (ninS (Ne.symm ne_b36_0_b40) (ninS ne_b40_b359 (ninS ne_b40_b611_0 (ninS ne_b40_b517_0 nin0)))))
    have y638 := (((fm589_8.keep K610 (ninS ne_b40_b359 nin0)).keep K611 (ninS (Ne.symm ne_b36_0_b40) (ninS ne_b40_b517_0 (ninS ne_b40_b359 nin0)))).keep K624 (ninS (Ne.symm ne_b36_0_b40) (ninS ne_b40_b359 (ninS ne_b40_b611_0 (ninS ne_b40_b517_0 nin0)))))
    exact ⟨T624, _, T624.heap, .val (.int (0 : Int32)), X624, rfl, N624, Z624, O624, y633, y634, y635, y636, y637, y638, u624_3, u624_6, u624_7, One.val rfl, pre625⟩
  have pre639 : ∀ t, Steps p.tables e below (T608.setTop (mkF m 209 #[.val (.int p0), .val (.int (f0_m5 p0)), .val (.int (f0_m10 p0)), .val (.int (f0_m15 p0)), .val (.int (f0_m20 p0)), .val (.int (f0_m25 p0)), .val (.int (f0_m30 p0)), .val (.int (f0_m35 p0)), .val (.ref b36_0), .val (.ref b37), .val (.ref b40), .val (.ref b359), s608_12, .unset, .unset] [(.int (f0_m5 p0))])) t → Steps p.tables e below (s₁.setTop (entryFrame m #[(.int p0)] maxLocals)) t := fun t k => pre608 t (by
    show Steps p.tables e below (T608.setTop (mkF m 208 #[.val (.int p0), .val (.int (f0_m5 p0)), .val (.int (f0_m10 p0)), .val (.int (f0_m15 p0)), .val (.int (f0_m20 p0)), .val (.int (f0_m25 p0)), .val (.int (f0_m30 p0)), .val (.int (f0_m35 p0)), .val (.ref b36_0), .val (.ref b37), .val (.ref b40), .val (.ref b359), s608_12, .unset, .unset] [])) _
    refine XS.iloadN X608.here hx rfl (hb hby at_208) rfl ?_
    exact k)
  obtain ⟨T640, L640, X640, e640, N640, pre640⟩ : ∃ (T' : State) (locs' : List Loc), Stand p l e room_1 s m #[(.int p0)] below meth c T' locs' 12 77 ∧ T'.heap = h608 ∧ Fr n0 locs' ∧ ∀ t, Steps p.tables e below (T'.setTop (mkF m 225 #[.val (.int p0), .val (.int (f0_m5 p0)), .val (.int (f0_m10 p0)), .val (.int (f0_m15 p0)), .val (.int (f0_m20 p0)), .val (.int (f0_m25 p0)), .val (.int (f0_m30 p0)), .val (.int (f0_m35 p0)), .val (.ref b36_0), .val (.ref b37), .val (.ref b40), .val (.ref b359), s608_12, .unset, .unset] [(.int (f0_m649 p0))])) t → Steps p.tables e below (s₁.setTop (entryFrame m #[(.int p0)] maxLocals)) t := by
    by_cases hc209_640 : (f0_m5 p0) = (0 : Int32)
    · have pre641 : ∀ t, Steps p.tables e below (T608.setTop (mkF m 213 #[.val (.int p0), .val (.int (f0_m5 p0)), .val (.int (f0_m10 p0)), .val (.int (f0_m15 p0)), .val (.int (f0_m20 p0)), .val (.int (f0_m25 p0)), .val (.int (f0_m30 p0)), .val (.int (f0_m35 p0)), .val (.ref b36_0), .val (.ref b37), .val (.ref b40), .val (.ref b359), s608_12, .unset, .unset] [(.int (f0_m10 p0))])) t → Steps p.tables e below (s₁.setTop (entryFrame m #[(.int p0)] maxLocals)) t := fun t k => pre639 t (by
        show Steps p.tables e below (T608.setTop (mkF m 209 #[.val (.int p0), .val (.int (f0_m5 p0)), .val (.int (f0_m10 p0)), .val (.int (f0_m15 p0)), .val (.int (f0_m20 p0)), .val (.int (f0_m25 p0)), .val (.int (f0_m30 p0)), .val (.int (f0_m35 p0)), .val (.ref b36_0), .val (.ref b37), .val (.ref b40), .val (.ref b359), s608_12, .unset, .unset] [(.int (f0_m5 p0))])) _
        refine XS.ifNo X608.here hx rfl (hb hby at_209) rfl ((if0 _ _).trans (teq hc209_640).2) ?_
        show Steps p.tables e below (T608.setTop (mkF m 212 #[.val (.int p0), .val (.int (f0_m5 p0)), .val (.int (f0_m10 p0)), .val (.int (f0_m15 p0)), .val (.int (f0_m20 p0)), .val (.int (f0_m25 p0)), .val (.int (f0_m30 p0)), .val (.int (f0_m35 p0)), .val (.ref b36_0), .val (.ref b37), .val (.ref b40), .val (.ref b359), s608_12, .unset, .unset] [])) _
        refine XS.iloadN X608.here hx rfl (hb hby at_212) rfl ?_
        exact k)
      by_cases hc213_642 : (f0_m10 p0) = (0 : Int32)
      · have pre643 : ∀ t, Steps p.tables e below (T608.setTop (mkF m 225 #[.val (.int p0), .val (.int (f0_m5 p0)), .val (.int (f0_m10 p0)), .val (.int (f0_m15 p0)), .val (.int (f0_m20 p0)), .val (.int (f0_m25 p0)), .val (.int (f0_m30 p0)), .val (.int (f0_m35 p0)), .val (.ref b36_0), .val (.ref b37), .val (.ref b40), .val (.ref b359), s608_12, .unset, .unset] [(.int (0 : Int32))])) t → Steps p.tables e below (s₁.setTop (entryFrame m #[(.int p0)] maxLocals)) t := fun t k => pre641 t (by
          show Steps p.tables e below (T608.setTop (mkF m 213 #[.val (.int p0), .val (.int (f0_m5 p0)), .val (.int (f0_m10 p0)), .val (.int (f0_m15 p0)), .val (.int (f0_m20 p0)), .val (.int (f0_m25 p0)), .val (.int (f0_m30 p0)), .val (.int (f0_m35 p0)), .val (.ref b36_0), .val (.ref b37), .val (.ref b40), .val (.ref b359), s608_12, .unset, .unset] [(.int (f0_m10 p0))])) _
          refine XS.ifYes X608.here hx rfl (pc0 := 213) (pc' := 224) rfl (hb hby at_213) rfl ((if0 _ _).trans (teq hc213_642).1) (by decide) (by decide) ?_
          show Steps p.tables e below (T608.setTop (mkF m 224 #[.val (.int p0), .val (.int (f0_m5 p0)), .val (.int (f0_m10 p0)), .val (.int (f0_m15 p0)), .val (.int (f0_m20 p0)), .val (.int (f0_m25 p0)), .val (.int (f0_m30 p0)), .val (.int (f0_m35 p0)), .val (.ref b36_0), .val (.ref b37), .val (.ref b40), .val (.ref b359), s608_12, .unset, .unset] [])) _
          refine XS.iconst X608.here hx rfl (hb hby at_224) ?_
          exact k)
        have q_f0_m649 : f0_m649 p0 = (0 : Int32) := by unfold f0_m649; rw [if_pos hc209_640, if_pos hc213_642]
        rw [q_f0_m649]
        exact ⟨T608, _, X608, e608, N608, pre643⟩
      have pre644 : ∀ t, Steps p.tables e below (T608.setTop (mkF m 217 #[.val (.int p0), .val (.int (f0_m5 p0)), .val (.int (f0_m10 p0)), .val (.int (f0_m15 p0)), .val (.int (f0_m20 p0)), .val (.int (f0_m25 p0)), .val (.int (f0_m30 p0)), .val (.int (f0_m35 p0)), .val (.ref b36_0), .val (.ref b37), .val (.ref b40), .val (.ref b359), s608_12, .unset, .unset] [(.int (f0_m15 p0))])) t → Steps p.tables e below (s₁.setTop (entryFrame m #[(.int p0)] maxLocals)) t := fun t k => pre641 t (by
        show Steps p.tables e below (T608.setTop (mkF m 213 #[.val (.int p0), .val (.int (f0_m5 p0)), .val (.int (f0_m10 p0)), .val (.int (f0_m15 p0)), .val (.int (f0_m20 p0)), .val (.int (f0_m25 p0)), .val (.int (f0_m30 p0)), .val (.int (f0_m35 p0)), .val (.ref b36_0), .val (.ref b37), .val (.ref b40), .val (.ref b359), s608_12, .unset, .unset] [(.int (f0_m10 p0))])) _
        refine XS.ifNo X608.here hx rfl (hb hby at_213) rfl ((if0 _ _).trans (feq hc213_642).1) ?_
        show Steps p.tables e below (T608.setTop (mkF m 216 #[.val (.int p0), .val (.int (f0_m5 p0)), .val (.int (f0_m10 p0)), .val (.int (f0_m15 p0)), .val (.int (f0_m20 p0)), .val (.int (f0_m25 p0)), .val (.int (f0_m30 p0)), .val (.int (f0_m35 p0)), .val (.ref b36_0), .val (.ref b37), .val (.ref b40), .val (.ref b359), s608_12, .unset, .unset] [])) _
        refine XS.iloadN X608.here hx rfl (hb hby at_216) rfl ?_
        exact k)
      by_cases hc217_645 : (f0_m15 p0) = (0 : Int32)
      · have pre646 : ∀ t, Steps p.tables e below (T608.setTop (mkF m 225 #[.val (.int p0), .val (.int (f0_m5 p0)), .val (.int (f0_m10 p0)), .val (.int (f0_m15 p0)), .val (.int (f0_m20 p0)), .val (.int (f0_m25 p0)), .val (.int (f0_m30 p0)), .val (.int (f0_m35 p0)), .val (.ref b36_0), .val (.ref b37), .val (.ref b40), .val (.ref b359), s608_12, .unset, .unset] [(.int (1 : Int32))])) t → Steps p.tables e below (s₁.setTop (entryFrame m #[(.int p0)] maxLocals)) t := fun t k => pre644 t (by
          show Steps p.tables e below (T608.setTop (mkF m 217 #[.val (.int p0), .val (.int (f0_m5 p0)), .val (.int (f0_m10 p0)), .val (.int (f0_m15 p0)), .val (.int (f0_m20 p0)), .val (.int (f0_m25 p0)), .val (.int (f0_m30 p0)), .val (.int (f0_m35 p0)), .val (.ref b36_0), .val (.ref b37), .val (.ref b40), .val (.ref b359), s608_12, .unset, .unset] [(.int (f0_m15 p0))])) _
          refine XS.ifNo X608.here hx rfl (hb hby at_217) rfl ((if0 _ _).trans (teq hc217_645).2) ?_
          show Steps p.tables e below (T608.setTop (mkF m 220 #[.val (.int p0), .val (.int (f0_m5 p0)), .val (.int (f0_m10 p0)), .val (.int (f0_m15 p0)), .val (.int (f0_m20 p0)), .val (.int (f0_m25 p0)), .val (.int (f0_m30 p0)), .val (.int (f0_m35 p0)), .val (.ref b36_0), .val (.ref b37), .val (.ref b40), .val (.ref b359), s608_12, .unset, .unset] [])) _
          refine XS.iconst X608.here hx rfl (hb hby at_220) ?_
          show Steps p.tables e below (T608.setTop (mkF m 221 #[.val (.int p0), .val (.int (f0_m5 p0)), .val (.int (f0_m10 p0)), .val (.int (f0_m15 p0)), .val (.int (f0_m20 p0)), .val (.int (f0_m25 p0)), .val (.int (f0_m30 p0)), .val (.int (f0_m35 p0)), .val (.ref b36_0), .val (.ref b37), .val (.ref b40), .val (.ref b359), s608_12, .unset, .unset] [(.int (1 : Int32))])) _
          refine XS.goto X608.here hx rfl (pc0 := 221) (pc' := 225) rfl (hb hby at_221) (by decide) (by decide) ?_
          exact k)
        have q_f0_m649 : f0_m649 p0 = (1 : Int32) := by unfold f0_m649; rw [if_pos hc209_640, if_neg hc213_642, if_pos hc217_645]
        rw [q_f0_m649]
        exact ⟨T608, _, X608, e608, N608, pre646⟩
      have pre647 : ∀ t, Steps p.tables e below (T608.setTop (mkF m 225 #[.val (.int p0), .val (.int (f0_m5 p0)), .val (.int (f0_m10 p0)), .val (.int (f0_m15 p0)), .val (.int (f0_m20 p0)), .val (.int (f0_m25 p0)), .val (.int (f0_m30 p0)), .val (.int (f0_m35 p0)), .val (.ref b36_0), .val (.ref b37), .val (.ref b40), .val (.ref b359), s608_12, .unset, .unset] [(.int (0 : Int32))])) t → Steps p.tables e below (s₁.setTop (entryFrame m #[(.int p0)] maxLocals)) t := fun t k => pre644 t (by
        show Steps p.tables e below (T608.setTop (mkF m 217 #[.val (.int p0), .val (.int (f0_m5 p0)), .val (.int (f0_m10 p0)), .val (.int (f0_m15 p0)), .val (.int (f0_m20 p0)), .val (.int (f0_m25 p0)), .val (.int (f0_m30 p0)), .val (.int (f0_m35 p0)), .val (.ref b36_0), .val (.ref b37), .val (.ref b40), .val (.ref b359), s608_12, .unset, .unset] [(.int (f0_m15 p0))])) _
        refine XS.ifYes X608.here hx rfl (pc0 := 217) (pc' := 224) rfl (hb hby at_217) rfl ((if0 _ _).trans (feq hc217_645).2) (by decide) (by decide) ?_
        show Steps p.tables e below (T608.setTop (mkF m 224 #[.val (.int p0), .val (.int (f0_m5 p0)), .val (.int (f0_m10 p0)), .val (.int (f0_m15 p0)), .val (.int (f0_m20 p0)), .val (.int (f0_m25 p0)), .val (.int (f0_m30 p0)), .val (.int (f0_m35 p0)), .val (.ref b36_0), .val (.ref b37), .val (.ref b40), .val (.ref b359), s608_12, .unset, .unset] [])) _
        refine XS.iconst X608.here hx rfl (hb hby at_224) ?_
        exact k)
      have q_f0_m649 : f0_m649 p0 = (0 : Int32) := by unfold f0_m649; rw [if_pos hc209_640, if_neg hc213_642, if_neg hc217_645]
      rw [q_f0_m649]
      exact ⟨T608, _, X608, e608, N608, pre647⟩
    have pre648 : ∀ t, Steps p.tables e below (T608.setTop (mkF m 225 #[.val (.int p0), .val (.int (f0_m5 p0)), .val (.int (f0_m10 p0)), .val (.int (f0_m15 p0)), .val (.int (f0_m20 p0)), .val (.int (f0_m25 p0)), .val (.int (f0_m30 p0)), .val (.int (f0_m35 p0)), .val (.ref b36_0), .val (.ref b37), .val (.ref b40), .val (.ref b359), s608_12, .unset, .unset] [(.int (1 : Int32))])) t → Steps p.tables e below (s₁.setTop (entryFrame m #[(.int p0)] maxLocals)) t := fun t k => pre639 t (by
      show Steps p.tables e below (T608.setTop (mkF m 209 #[.val (.int p0), .val (.int (f0_m5 p0)), .val (.int (f0_m10 p0)), .val (.int (f0_m15 p0)), .val (.int (f0_m20 p0)), .val (.int (f0_m25 p0)), .val (.int (f0_m30 p0)), .val (.int (f0_m35 p0)), .val (.ref b36_0), .val (.ref b37), .val (.ref b40), .val (.ref b359), s608_12, .unset, .unset] [(.int (f0_m5 p0))])) _
      refine XS.ifYes X608.here hx rfl (pc0 := 209) (pc' := 220) rfl (hb hby at_209) rfl ((if0 _ _).trans (feq hc209_640).2) (by decide) (by decide) ?_
      show Steps p.tables e below (T608.setTop (mkF m 220 #[.val (.int p0), .val (.int (f0_m5 p0)), .val (.int (f0_m10 p0)), .val (.int (f0_m15 p0)), .val (.int (f0_m20 p0)), .val (.int (f0_m25 p0)), .val (.int (f0_m30 p0)), .val (.int (f0_m35 p0)), .val (.ref b36_0), .val (.ref b37), .val (.ref b40), .val (.ref b359), s608_12, .unset, .unset] [])) _
      refine XS.iconst X608.here hx rfl (hb hby at_220) ?_
      show Steps p.tables e below (T608.setTop (mkF m 221 #[.val (.int p0), .val (.int (f0_m5 p0)), .val (.int (f0_m10 p0)), .val (.int (f0_m15 p0)), .val (.int (f0_m20 p0)), .val (.int (f0_m25 p0)), .val (.int (f0_m30 p0)), .val (.int (f0_m35 p0)), .val (.ref b36_0), .val (.ref b37), .val (.ref b40), .val (.ref b359), s608_12, .unset, .unset] [(.int (1 : Int32))])) _
      refine XS.goto X608.here hx rfl (pc0 := 221) (pc' := 225) rfl (hb hby at_221) (by decide) (by decide) ?_
      exact k)
    have q_f0_m649 : f0_m649 p0 = (1 : Int32) := by unfold f0_m649; rw [if_neg hc209_640]
    rw [q_f0_m649]
    exact ⟨T608, _, X608, e608, N608, pre648⟩
  have os650 : storeLocals #[.val (.int p0), .val (.int (f0_m5 p0)), .val (.int (f0_m10 p0)), .val (.int (f0_m15 p0)), .val (.int (f0_m20 p0)), .val (.int (f0_m25 p0)), .val (.int (f0_m30 p0)), .val (.int (f0_m35 p0)), .val (.ref b36_0), .val (.ref b37), .val (.ref b40), .val (.ref b359), s608_12, .unset, .unset] 12 (.int (f0_m649 p0)) = some #[.val (.int p0), .val (.int (f0_m5 p0)), .val (.int (f0_m10 p0)), .val (.int (f0_m15 p0)), .val (.int (f0_m20 p0)), .val (.int (f0_m25 p0)), .val (.int (f0_m30 p0)), .val (.int (f0_m35 p0)), .val (.ref b36_0), .val (.ref b37), .val (.ref b40), .val (.ref b359), .val (.int (f0_m649 p0)), .unset, .unset] := by rcases hs608_12 with q | ⟨w, q, hw⟩ <;> rw [q] <;> first | rfl | (cases w <;> first | rfl | (simp [Value.category] at hw)) 
  have pre651 : ∀ t, Steps p.tables e below (T640.setTop (mkF m 229 #[.val (.int p0), .val (.int (f0_m5 p0)), .val (.int (f0_m10 p0)), .val (.int (f0_m15 p0)), .val (.int (f0_m20 p0)), .val (.int (f0_m25 p0)), .val (.int (f0_m30 p0)), .val (.int (f0_m35 p0)), .val (.ref b36_0), .val (.ref b37), .val (.ref b40), .val (.ref b359), .val (.int (f0_m649 p0)), .unset, .unset] [(.int (f0_m35 p0))])) t → Steps p.tables e below (s₁.setTop (entryFrame m #[(.int p0)] maxLocals)) t := fun t k => pre640 t (by
    show Steps p.tables e below (T640.setTop (mkF m 225 #[.val (.int p0), .val (.int (f0_m5 p0)), .val (.int (f0_m10 p0)), .val (.int (f0_m15 p0)), .val (.int (f0_m20 p0)), .val (.int (f0_m25 p0)), .val (.int (f0_m30 p0)), .val (.int (f0_m35 p0)), .val (.ref b36_0), .val (.ref b37), .val (.ref b40), .val (.ref b359), s608_12, .unset, .unset] [(.int (f0_m649 p0))])) _
    refine XS.istore X640.here hx rfl (hb hby at_225) rfl (l' := #[.val (.int p0), .val (.int (f0_m5 p0)), .val (.int (f0_m10 p0)), .val (.int (f0_m15 p0)), .val (.int (f0_m20 p0)), .val (.int (f0_m25 p0)), .val (.int (f0_m30 p0)), .val (.int (f0_m35 p0)), .val (.ref b36_0), .val (.ref b37), .val (.ref b40), .val (.ref b359), .val (.int (f0_m649 p0)), .unset, .unset]) os650 ?_
    show Steps p.tables e below (T640.setTop (mkF m 227 #[.val (.int p0), .val (.int (f0_m5 p0)), .val (.int (f0_m10 p0)), .val (.int (f0_m15 p0)), .val (.int (f0_m20 p0)), .val (.int (f0_m25 p0)), .val (.int (f0_m30 p0)), .val (.int (f0_m35 p0)), .val (.ref b36_0), .val (.ref b37), .val (.ref b40), .val (.ref b359), .val (.int (f0_m649 p0)), .unset, .unset] [])) _
    refine XS.iload X640.here hx rfl (hb hby at_227) rfl ?_
    exact k)
  obtain ⟨T652, L652, X652, e652, N652, pre652⟩ : ∃ (T' : State) (locs' : List Loc), Stand p l e room_1 s m #[(.int p0)] below meth c T' locs' 12 77 ∧ T'.heap = h608 ∧ Fr n0 locs' ∧ ∀ t, Steps p.tables e below (T'.setTop (mkF m 247 #[.val (.int p0), .val (.int (f0_m5 p0)), .val (.int (f0_m10 p0)), .val (.int (f0_m15 p0)), .val (.int (f0_m20 p0)), .val (.int (f0_m25 p0)), .val (.int (f0_m30 p0)), .val (.int (f0_m35 p0)), .val (.ref b36_0), .val (.ref b37), .val (.ref b40), .val (.ref b359), .val (.int (f0_m649 p0)), .unset, .unset] [(.int (f0_m658 p0))])) t → Steps p.tables e below (s₁.setTop (entryFrame m #[(.int p0)] maxLocals)) t := by
    by_cases hc229_652 : (f0_m35 p0) = (0 : Int32)
    · have pre653 : ∀ t, Steps p.tables e below (T640.setTop (mkF m 239 #[.val (.int p0), .val (.int (f0_m5 p0)), .val (.int (f0_m10 p0)), .val (.int (f0_m15 p0)), .val (.int (f0_m20 p0)), .val (.int (f0_m25 p0)), .val (.int (f0_m30 p0)), .val (.int (f0_m35 p0)), .val (.ref b36_0), .val (.ref b37), .val (.ref b40), .val (.ref b359), .val (.int (f0_m649 p0)), .unset, .unset] [(.int (f0_m30 p0))])) t → Steps p.tables e below (s₁.setTop (entryFrame m #[(.int p0)] maxLocals)) t := fun t k => pre651 t (by
        show Steps p.tables e below (T640.setTop (mkF m 229 #[.val (.int p0), .val (.int (f0_m5 p0)), .val (.int (f0_m10 p0)), .val (.int (f0_m15 p0)), .val (.int (f0_m20 p0)), .val (.int (f0_m25 p0)), .val (.int (f0_m30 p0)), .val (.int (f0_m35 p0)), .val (.ref b36_0), .val (.ref b37), .val (.ref b40), .val (.ref b359), .val (.int (f0_m649 p0)), .unset, .unset] [(.int (f0_m35 p0))])) _
        refine XS.ifNo X640.here hx rfl (hb hby at_229) rfl ((if0 _ _).trans (teq hc229_652).2) ?_
        show Steps p.tables e below (T640.setTop (mkF m 232 #[.val (.int p0), .val (.int (f0_m5 p0)), .val (.int (f0_m10 p0)), .val (.int (f0_m15 p0)), .val (.int (f0_m20 p0)), .val (.int (f0_m25 p0)), .val (.int (f0_m30 p0)), .val (.int (f0_m35 p0)), .val (.ref b36_0), .val (.ref b37), .val (.ref b40), .val (.ref b359), .val (.int (f0_m649 p0)), .unset, .unset] [])) _
        refine XS.iload X640.here hx rfl (hb hby at_232) rfl ?_
        show Steps p.tables e below (T640.setTop (mkF m 234 #[.val (.int p0), .val (.int (f0_m5 p0)), .val (.int (f0_m10 p0)), .val (.int (f0_m15 p0)), .val (.int (f0_m20 p0)), .val (.int (f0_m25 p0)), .val (.int (f0_m30 p0)), .val (.int (f0_m35 p0)), .val (.ref b36_0), .val (.ref b37), .val (.ref b40), .val (.ref b359), .val (.int (f0_m649 p0)), .unset, .unset] [(.int (f0_m20 p0))])) _
        refine XS.ifNo X640.here hx rfl (hb hby at_234) rfl ((if0 _ _).trans (feq hc116_43).1) ?_
        show Steps p.tables e below (T640.setTop (mkF m 237 #[.val (.int p0), .val (.int (f0_m5 p0)), .val (.int (f0_m10 p0)), .val (.int (f0_m15 p0)), .val (.int (f0_m20 p0)), .val (.int (f0_m25 p0)), .val (.int (f0_m30 p0)), .val (.int (f0_m35 p0)), .val (.ref b36_0), .val (.ref b37), .val (.ref b40), .val (.ref b359), .val (.int (f0_m649 p0)), .unset, .unset] [])) _
        refine XS.iload X640.here hx rfl (hb hby at_237) rfl ?_
        exact k)
      by_cases hc239_654 : (f0_m30 p0) = (0 : Int32)
      · have pre655 : ∀ t, Steps p.tables e below (T640.setTop (mkF m 247 #[.val (.int p0), .val (.int (f0_m5 p0)), .val (.int (f0_m10 p0)), .val (.int (f0_m15 p0)), .val (.int (f0_m20 p0)), .val (.int (f0_m25 p0)), .val (.int (f0_m30 p0)), .val (.int (f0_m35 p0)), .val (.ref b36_0), .val (.ref b37), .val (.ref b40), .val (.ref b359), .val (.int (f0_m649 p0)), .unset, .unset] [(.int (0 : Int32))])) t → Steps p.tables e below (s₁.setTop (entryFrame m #[(.int p0)] maxLocals)) t := fun t k => pre653 t (by
          show Steps p.tables e below (T640.setTop (mkF m 239 #[.val (.int p0), .val (.int (f0_m5 p0)), .val (.int (f0_m10 p0)), .val (.int (f0_m15 p0)), .val (.int (f0_m20 p0)), .val (.int (f0_m25 p0)), .val (.int (f0_m30 p0)), .val (.int (f0_m35 p0)), .val (.ref b36_0), .val (.ref b37), .val (.ref b40), .val (.ref b359), .val (.int (f0_m649 p0)), .unset, .unset] [(.int (f0_m30 p0))])) _
          refine XS.ifYes X640.here hx rfl (pc0 := 239) (pc' := 246) rfl (hb hby at_239) rfl ((if0 _ _).trans (teq hc239_654).1) (by decide) (by decide) ?_
          show Steps p.tables e below (T640.setTop (mkF m 246 #[.val (.int p0), .val (.int (f0_m5 p0)), .val (.int (f0_m10 p0)), .val (.int (f0_m15 p0)), .val (.int (f0_m20 p0)), .val (.int (f0_m25 p0)), .val (.int (f0_m30 p0)), .val (.int (f0_m35 p0)), .val (.ref b36_0), .val (.ref b37), .val (.ref b40), .val (.ref b359), .val (.int (f0_m649 p0)), .unset, .unset] [])) _
          refine XS.iconst X640.here hx rfl (hb hby at_246) ?_
          exact k)
        have q_f0_m658 : f0_m658 p0 = (0 : Int32) := by unfold f0_m658; rw [if_pos hc229_652, if_pos hc239_654]
        rw [q_f0_m658]
        exact ⟨T640, _, X640, e640, N640, pre655⟩
      have pre656 : ∀ t, Steps p.tables e below (T640.setTop (mkF m 247 #[.val (.int p0), .val (.int (f0_m5 p0)), .val (.int (f0_m10 p0)), .val (.int (f0_m15 p0)), .val (.int (f0_m20 p0)), .val (.int (f0_m25 p0)), .val (.int (f0_m30 p0)), .val (.int (f0_m35 p0)), .val (.ref b36_0), .val (.ref b37), .val (.ref b40), .val (.ref b359), .val (.int (f0_m649 p0)), .unset, .unset] [(.int (1 : Int32))])) t → Steps p.tables e below (s₁.setTop (entryFrame m #[(.int p0)] maxLocals)) t := fun t k => pre653 t (by
        show Steps p.tables e below (T640.setTop (mkF m 239 #[.val (.int p0), .val (.int (f0_m5 p0)), .val (.int (f0_m10 p0)), .val (.int (f0_m15 p0)), .val (.int (f0_m20 p0)), .val (.int (f0_m25 p0)), .val (.int (f0_m30 p0)), .val (.int (f0_m35 p0)), .val (.ref b36_0), .val (.ref b37), .val (.ref b40), .val (.ref b359), .val (.int (f0_m649 p0)), .unset, .unset] [(.int (f0_m30 p0))])) _
        refine XS.ifNo X640.here hx rfl (hb hby at_239) rfl ((if0 _ _).trans (feq hc239_654).1) ?_
        show Steps p.tables e below (T640.setTop (mkF m 242 #[.val (.int p0), .val (.int (f0_m5 p0)), .val (.int (f0_m10 p0)), .val (.int (f0_m15 p0)), .val (.int (f0_m20 p0)), .val (.int (f0_m25 p0)), .val (.int (f0_m30 p0)), .val (.int (f0_m35 p0)), .val (.ref b36_0), .val (.ref b37), .val (.ref b40), .val (.ref b359), .val (.int (f0_m649 p0)), .unset, .unset] [])) _
        refine XS.iconst X640.here hx rfl (hb hby at_242) ?_
        show Steps p.tables e below (T640.setTop (mkF m 243 #[.val (.int p0), .val (.int (f0_m5 p0)), .val (.int (f0_m10 p0)), .val (.int (f0_m15 p0)), .val (.int (f0_m20 p0)), .val (.int (f0_m25 p0)), .val (.int (f0_m30 p0)), .val (.int (f0_m35 p0)), .val (.ref b36_0), .val (.ref b37), .val (.ref b40), .val (.ref b359), .val (.int (f0_m649 p0)), .unset, .unset] [(.int (1 : Int32))])) _
        refine XS.goto X640.here hx rfl (pc0 := 243) (pc' := 247) rfl (hb hby at_243) (by decide) (by decide) ?_
        exact k)
      have q_f0_m658 : f0_m658 p0 = (1 : Int32) := by unfold f0_m658; rw [if_pos hc229_652, if_neg hc239_654]
      rw [q_f0_m658]
      exact ⟨T640, _, X640, e640, N640, pre656⟩
    have pre657 : ∀ t, Steps p.tables e below (T640.setTop (mkF m 247 #[.val (.int p0), .val (.int (f0_m5 p0)), .val (.int (f0_m10 p0)), .val (.int (f0_m15 p0)), .val (.int (f0_m20 p0)), .val (.int (f0_m25 p0)), .val (.int (f0_m30 p0)), .val (.int (f0_m35 p0)), .val (.ref b36_0), .val (.ref b37), .val (.ref b40), .val (.ref b359), .val (.int (f0_m649 p0)), .unset, .unset] [(.int (1 : Int32))])) t → Steps p.tables e below (s₁.setTop (entryFrame m #[(.int p0)] maxLocals)) t := fun t k => pre651 t (by
      show Steps p.tables e below (T640.setTop (mkF m 229 #[.val (.int p0), .val (.int (f0_m5 p0)), .val (.int (f0_m10 p0)), .val (.int (f0_m15 p0)), .val (.int (f0_m20 p0)), .val (.int (f0_m25 p0)), .val (.int (f0_m30 p0)), .val (.int (f0_m35 p0)), .val (.ref b36_0), .val (.ref b37), .val (.ref b40), .val (.ref b359), .val (.int (f0_m649 p0)), .unset, .unset] [(.int (f0_m35 p0))])) _
      refine XS.ifYes X640.here hx rfl (pc0 := 229) (pc' := 242) rfl (hb hby at_229) rfl ((if0 _ _).trans (feq hc229_652).2) (by decide) (by decide) ?_
      show Steps p.tables e below (T640.setTop (mkF m 242 #[.val (.int p0), .val (.int (f0_m5 p0)), .val (.int (f0_m10 p0)), .val (.int (f0_m15 p0)), .val (.int (f0_m20 p0)), .val (.int (f0_m25 p0)), .val (.int (f0_m30 p0)), .val (.int (f0_m35 p0)), .val (.ref b36_0), .val (.ref b37), .val (.ref b40), .val (.ref b359), .val (.int (f0_m649 p0)), .unset, .unset] [])) _
      refine XS.iconst X640.here hx rfl (hb hby at_242) ?_
      show Steps p.tables e below (T640.setTop (mkF m 243 #[.val (.int p0), .val (.int (f0_m5 p0)), .val (.int (f0_m10 p0)), .val (.int (f0_m15 p0)), .val (.int (f0_m20 p0)), .val (.int (f0_m25 p0)), .val (.int (f0_m30 p0)), .val (.int (f0_m35 p0)), .val (.ref b36_0), .val (.ref b37), .val (.ref b40), .val (.ref b359), .val (.int (f0_m649 p0)), .unset, .unset] [(.int (1 : Int32))])) _
      refine XS.goto X640.here hx rfl (pc0 := 243) (pc' := 247) rfl (hb hby at_243) (by decide) (by decide) ?_
      exact k)
    have q_f0_m658 : f0_m658 p0 = (1 : Int32) := by unfold f0_m658; rw [if_neg hc229_652]
    rw [q_f0_m658]
    exact ⟨T640, _, X640, e640, N640, pre657⟩
  have pre659 : ∀ t, Steps p.tables e below (T652.setTop (mkF m 251 #[.val (.int p0), .val (.int (f0_m5 p0)), .val (.int (f0_m10 p0)), .val (.int (f0_m15 p0)), .val (.int (f0_m20 p0)), .val (.int (f0_m25 p0)), .val (.int (f0_m30 p0)), .val (.int (f0_m35 p0)), .val (.ref b36_0), .val (.ref b37), .val (.ref b40), .val (.ref b359), .val (.int (f0_m649 p0)), .val (.int (f0_m658 p0)), .unset] [(.int (f0_m649 p0))])) t → Steps p.tables e below (s₁.setTop (entryFrame m #[(.int p0)] maxLocals)) t := fun t k => pre652 t (by
    show Steps p.tables e below (T652.setTop (mkF m 247 #[.val (.int p0), .val (.int (f0_m5 p0)), .val (.int (f0_m10 p0)), .val (.int (f0_m15 p0)), .val (.int (f0_m20 p0)), .val (.int (f0_m25 p0)), .val (.int (f0_m30 p0)), .val (.int (f0_m35 p0)), .val (.ref b36_0), .val (.ref b37), .val (.ref b40), .val (.ref b359), .val (.int (f0_m649 p0)), .unset, .unset] [(.int (f0_m658 p0))])) _
    refine XS.istore X652.here hx rfl (hb hby at_247) rfl (l' := #[.val (.int p0), .val (.int (f0_m5 p0)), .val (.int (f0_m10 p0)), .val (.int (f0_m15 p0)), .val (.int (f0_m20 p0)), .val (.int (f0_m25 p0)), .val (.int (f0_m30 p0)), .val (.int (f0_m35 p0)), .val (.ref b36_0), .val (.ref b37), .val (.ref b40), .val (.ref b359), .val (.int (f0_m649 p0)), .val (.int (f0_m658 p0)), .unset]) rfl ?_
    show Steps p.tables e below (T652.setTop (mkF m 249 #[.val (.int p0), .val (.int (f0_m5 p0)), .val (.int (f0_m10 p0)), .val (.int (f0_m15 p0)), .val (.int (f0_m20 p0)), .val (.int (f0_m25 p0)), .val (.int (f0_m30 p0)), .val (.int (f0_m35 p0)), .val (.ref b36_0), .val (.ref b37), .val (.ref b40), .val (.ref b359), .val (.int (f0_m649 p0)), .val (.int (f0_m658 p0)), .unset] [])) _
    refine XS.iload X652.here hx rfl (hb hby at_249) rfl ?_
    exact k)
  obtain ⟨T660, L660, X660, e660, N660, pre660⟩ : ∃ (T' : State) (locs' : List Loc), Stand p l e room_1 s m #[(.int p0)] below meth c T' locs' 12 77 ∧ T'.heap = h608 ∧ Fr n0 locs' ∧ ∀ t, Steps p.tables e below (T'.setTop (mkF m 269 #[.val (.int p0), .val (.int (f0_m5 p0)), .val (.int (f0_m10 p0)), .val (.int (f0_m15 p0)), .val (.int (f0_m20 p0)), .val (.int (f0_m25 p0)), .val (.int (f0_m30 p0)), .val (.int (f0_m35 p0)), .val (.ref b36_0), .val (.ref b37), .val (.ref b40), .val (.ref b359), .val (.int (f0_m649 p0)), .val (.int (f0_m658 p0)), .unset] [(.int (f0_m666 p0))])) t → Steps p.tables e below (s₁.setTop (entryFrame m #[(.int p0)] maxLocals)) t := by
    by_cases hc251_660 : (f0_m649 p0) = (0 : Int32)
    · have pre661 : ∀ t, Steps p.tables e below (T652.setTop (mkF m 261 #[.val (.int p0), .val (.int (f0_m5 p0)), .val (.int (f0_m10 p0)), .val (.int (f0_m15 p0)), .val (.int (f0_m20 p0)), .val (.int (f0_m25 p0)), .val (.int (f0_m30 p0)), .val (.int (f0_m35 p0)), .val (.ref b36_0), .val (.ref b37), .val (.ref b40), .val (.ref b359), .val (.int (f0_m649 p0)), .val (.int (f0_m658 p0)), .unset] [(.int (f0_m658 p0))])) t → Steps p.tables e below (s₁.setTop (entryFrame m #[(.int p0)] maxLocals)) t := fun t k => pre659 t (by
        show Steps p.tables e below (T652.setTop (mkF m 251 #[.val (.int p0), .val (.int (f0_m5 p0)), .val (.int (f0_m10 p0)), .val (.int (f0_m15 p0)), .val (.int (f0_m20 p0)), .val (.int (f0_m25 p0)), .val (.int (f0_m30 p0)), .val (.int (f0_m35 p0)), .val (.ref b36_0), .val (.ref b37), .val (.ref b40), .val (.ref b359), .val (.int (f0_m649 p0)), .val (.int (f0_m658 p0)), .unset] [(.int (f0_m649 p0))])) _
        refine XS.ifNo X652.here hx rfl (hb hby at_251) rfl ((if0 _ _).trans (teq hc251_660).2) ?_
        show Steps p.tables e below (T652.setTop (mkF m 254 #[.val (.int p0), .val (.int (f0_m5 p0)), .val (.int (f0_m10 p0)), .val (.int (f0_m15 p0)), .val (.int (f0_m20 p0)), .val (.int (f0_m25 p0)), .val (.int (f0_m30 p0)), .val (.int (f0_m35 p0)), .val (.ref b36_0), .val (.ref b37), .val (.ref b40), .val (.ref b359), .val (.int (f0_m649 p0)), .val (.int (f0_m658 p0)), .unset] [])) _
        refine XS.iload X652.here hx rfl (hb hby at_254) rfl ?_
        show Steps p.tables e below (T652.setTop (mkF m 256 #[.val (.int p0), .val (.int (f0_m5 p0)), .val (.int (f0_m10 p0)), .val (.int (f0_m15 p0)), .val (.int (f0_m20 p0)), .val (.int (f0_m25 p0)), .val (.int (f0_m30 p0)), .val (.int (f0_m35 p0)), .val (.ref b36_0), .val (.ref b37), .val (.ref b40), .val (.ref b359), .val (.int (f0_m649 p0)), .val (.int (f0_m658 p0)), .unset] [(.int (f0_m25 p0))])) _
        refine XS.ifNo X652.here hx rfl (hb hby at_256) rfl ((if0 _ _).trans (feq hc138_364).1) ?_
        show Steps p.tables e below (T652.setTop (mkF m 259 #[.val (.int p0), .val (.int (f0_m5 p0)), .val (.int (f0_m10 p0)), .val (.int (f0_m15 p0)), .val (.int (f0_m20 p0)), .val (.int (f0_m25 p0)), .val (.int (f0_m30 p0)), .val (.int (f0_m35 p0)), .val (.ref b36_0), .val (.ref b37), .val (.ref b40), .val (.ref b359), .val (.int (f0_m649 p0)), .val (.int (f0_m658 p0)), .unset] [])) _
        refine XS.iload X652.here hx rfl (hb hby at_259) rfl ?_
        exact k)
      by_cases hc261_662 : (f0_m658 p0) = (0 : Int32)
      · have pre663 : ∀ t, Steps p.tables e below (T652.setTop (mkF m 269 #[.val (.int p0), .val (.int (f0_m5 p0)), .val (.int (f0_m10 p0)), .val (.int (f0_m15 p0)), .val (.int (f0_m20 p0)), .val (.int (f0_m25 p0)), .val (.int (f0_m30 p0)), .val (.int (f0_m35 p0)), .val (.ref b36_0), .val (.ref b37), .val (.ref b40), .val (.ref b359), .val (.int (f0_m649 p0)), .val (.int (f0_m658 p0)), .unset] [(.int (0 : Int32))])) t → Steps p.tables e below (s₁.setTop (entryFrame m #[(.int p0)] maxLocals)) t := fun t k => pre661 t (by
          show Steps p.tables e below (T652.setTop (mkF m 261 #[.val (.int p0), .val (.int (f0_m5 p0)), .val (.int (f0_m10 p0)), .val (.int (f0_m15 p0)), .val (.int (f0_m20 p0)), .val (.int (f0_m25 p0)), .val (.int (f0_m30 p0)), .val (.int (f0_m35 p0)), .val (.ref b36_0), .val (.ref b37), .val (.ref b40), .val (.ref b359), .val (.int (f0_m649 p0)), .val (.int (f0_m658 p0)), .unset] [(.int (f0_m658 p0))])) _
          refine XS.ifYes X652.here hx rfl (pc0 := 261) (pc' := 268) rfl (hb hby at_261) rfl ((if0 _ _).trans (teq hc261_662).1) (by decide) (by decide) ?_
          show Steps p.tables e below (T652.setTop (mkF m 268 #[.val (.int p0), .val (.int (f0_m5 p0)), .val (.int (f0_m10 p0)), .val (.int (f0_m15 p0)), .val (.int (f0_m20 p0)), .val (.int (f0_m25 p0)), .val (.int (f0_m30 p0)), .val (.int (f0_m35 p0)), .val (.ref b36_0), .val (.ref b37), .val (.ref b40), .val (.ref b359), .val (.int (f0_m649 p0)), .val (.int (f0_m658 p0)), .unset] [])) _
          refine XS.iconst X652.here hx rfl (hb hby at_268) ?_
          exact k)
        have q_f0_m666 : f0_m666 p0 = (0 : Int32) := by unfold f0_m666; rw [if_pos hc251_660, if_pos hc261_662]
        rw [q_f0_m666]
        exact ⟨T652, _, X652, e652, N652, pre663⟩
      have pre664 : ∀ t, Steps p.tables e below (T652.setTop (mkF m 269 #[.val (.int p0), .val (.int (f0_m5 p0)), .val (.int (f0_m10 p0)), .val (.int (f0_m15 p0)), .val (.int (f0_m20 p0)), .val (.int (f0_m25 p0)), .val (.int (f0_m30 p0)), .val (.int (f0_m35 p0)), .val (.ref b36_0), .val (.ref b37), .val (.ref b40), .val (.ref b359), .val (.int (f0_m649 p0)), .val (.int (f0_m658 p0)), .unset] [(.int (1 : Int32))])) t → Steps p.tables e below (s₁.setTop (entryFrame m #[(.int p0)] maxLocals)) t := fun t k => pre661 t (by
        show Steps p.tables e below (T652.setTop (mkF m 261 #[.val (.int p0), .val (.int (f0_m5 p0)), .val (.int (f0_m10 p0)), .val (.int (f0_m15 p0)), .val (.int (f0_m20 p0)), .val (.int (f0_m25 p0)), .val (.int (f0_m30 p0)), .val (.int (f0_m35 p0)), .val (.ref b36_0), .val (.ref b37), .val (.ref b40), .val (.ref b359), .val (.int (f0_m649 p0)), .val (.int (f0_m658 p0)), .unset] [(.int (f0_m658 p0))])) _
        refine XS.ifNo X652.here hx rfl (hb hby at_261) rfl ((if0 _ _).trans (feq hc261_662).1) ?_
        show Steps p.tables e below (T652.setTop (mkF m 264 #[.val (.int p0), .val (.int (f0_m5 p0)), .val (.int (f0_m10 p0)), .val (.int (f0_m15 p0)), .val (.int (f0_m20 p0)), .val (.int (f0_m25 p0)), .val (.int (f0_m30 p0)), .val (.int (f0_m35 p0)), .val (.ref b36_0), .val (.ref b37), .val (.ref b40), .val (.ref b359), .val (.int (f0_m649 p0)), .val (.int (f0_m658 p0)), .unset] [])) _
        refine XS.iconst X652.here hx rfl (hb hby at_264) ?_
        show Steps p.tables e below (T652.setTop (mkF m 265 #[.val (.int p0), .val (.int (f0_m5 p0)), .val (.int (f0_m10 p0)), .val (.int (f0_m15 p0)), .val (.int (f0_m20 p0)), .val (.int (f0_m25 p0)), .val (.int (f0_m30 p0)), .val (.int (f0_m35 p0)), .val (.ref b36_0), .val (.ref b37), .val (.ref b40), .val (.ref b359), .val (.int (f0_m649 p0)), .val (.int (f0_m658 p0)), .unset] [(.int (1 : Int32))])) _
        refine XS.goto X652.here hx rfl (pc0 := 265) (pc' := 269) rfl (hb hby at_265) (by decide) (by decide) ?_
        exact k)
      have q_f0_m666 : f0_m666 p0 = (1 : Int32) := by unfold f0_m666; rw [if_pos hc251_660, if_neg hc261_662]
      rw [q_f0_m666]
      exact ⟨T652, _, X652, e652, N652, pre664⟩
    have pre665 : ∀ t, Steps p.tables e below (T652.setTop (mkF m 269 #[.val (.int p0), .val (.int (f0_m5 p0)), .val (.int (f0_m10 p0)), .val (.int (f0_m15 p0)), .val (.int (f0_m20 p0)), .val (.int (f0_m25 p0)), .val (.int (f0_m30 p0)), .val (.int (f0_m35 p0)), .val (.ref b36_0), .val (.ref b37), .val (.ref b40), .val (.ref b359), .val (.int (f0_m649 p0)), .val (.int (f0_m658 p0)), .unset] [(.int (1 : Int32))])) t → Steps p.tables e below (s₁.setTop (entryFrame m #[(.int p0)] maxLocals)) t := fun t k => pre659 t (by
      show Steps p.tables e below (T652.setTop (mkF m 251 #[.val (.int p0), .val (.int (f0_m5 p0)), .val (.int (f0_m10 p0)), .val (.int (f0_m15 p0)), .val (.int (f0_m20 p0)), .val (.int (f0_m25 p0)), .val (.int (f0_m30 p0)), .val (.int (f0_m35 p0)), .val (.ref b36_0), .val (.ref b37), .val (.ref b40), .val (.ref b359), .val (.int (f0_m649 p0)), .val (.int (f0_m658 p0)), .unset] [(.int (f0_m649 p0))])) _
      refine XS.ifYes X652.here hx rfl (pc0 := 251) (pc' := 264) rfl (hb hby at_251) rfl ((if0 _ _).trans (feq hc251_660).2) (by decide) (by decide) ?_
      show Steps p.tables e below (T652.setTop (mkF m 264 #[.val (.int p0), .val (.int (f0_m5 p0)), .val (.int (f0_m10 p0)), .val (.int (f0_m15 p0)), .val (.int (f0_m20 p0)), .val (.int (f0_m25 p0)), .val (.int (f0_m30 p0)), .val (.int (f0_m35 p0)), .val (.ref b36_0), .val (.ref b37), .val (.ref b40), .val (.ref b359), .val (.int (f0_m649 p0)), .val (.int (f0_m658 p0)), .unset] [])) _
      refine XS.iconst X652.here hx rfl (hb hby at_264) ?_
      show Steps p.tables e below (T652.setTop (mkF m 265 #[.val (.int p0), .val (.int (f0_m5 p0)), .val (.int (f0_m10 p0)), .val (.int (f0_m15 p0)), .val (.int (f0_m20 p0)), .val (.int (f0_m25 p0)), .val (.int (f0_m30 p0)), .val (.int (f0_m35 p0)), .val (.ref b36_0), .val (.ref b37), .val (.ref b40), .val (.ref b359), .val (.int (f0_m649 p0)), .val (.int (f0_m658 p0)), .unset] [(.int (1 : Int32))])) _
      refine XS.goto X652.here hx rfl (pc0 := 265) (pc' := 269) rfl (hb hby at_265) (by decide) (by decide) ?_
      exact k)
    have q_f0_m666 : f0_m666 p0 = (1 : Int32) := by unfold f0_m666; rw [if_neg hc251_660]
    rw [q_f0_m666]
    exact ⟨T652, _, X652, e652, N652, pre665⟩
  obtain ⟨cq667, kq667, q667a, q667b, q667c⟩ := isOf hZ e660 fm608_6
  obtain ⟨_, _, ⟨T667, L667, k667, n667⟩, -, X667, ⟨Lc667, hQ667, l667, y667, z667⟩, st667⟩ := X660.virtualBack hx (y := (⟨"com/example/tenon/tenon/Assignments", "isBlind", "()Z"⟩ : MethodName)) (z := (⟨"com/example/tenon/tenon/Assignments", "isBlind", "()Z"⟩ : MethodName)) hown (mvT hZ (hw _ (List.mem_of_getElem? (i := 84) rfl))) (mvT hZ (hw _ (List.mem_of_getElem? (i := 85) rfl))) (notFace_of_selects (args := #[]) (mvT hZ (hw _ (List.mem_of_getElem? (i := 87) rfl)))) (mvT hZ (hw _ (List.mem_of_getElem? (i := 87) rfl))) (mvT hZ (hw _ (List.mem_of_getElem? (i := 86) rfl))) (by decide) (backOf (W := 0) (rm12c l Z a0' hw [] b359 (f0_m626 p0) b40 (f0_m571 p0) b37 (f0_m534 p0) h608 n0 Z608 fm608_0 fm608_3 fm608_8 fm608_7 fm608_5 fm608_4 fm608_2 fm608_1) hZ (hw _ (List.mem_of_getElem? (i := 88) rfl)) (hw _ (List.mem_of_getElem? (i := 17) rfl)) (by decide) (by decide)) q667a q667c (g := (mkF m 273 #[.val (.int p0), .val (.int (f0_m5 p0)), .val (.int (f0_m10 p0)), .val (.int (f0_m15 p0)), .val (.int (f0_m20 p0)), .val (.int (f0_m25 p0)), .val (.int (f0_m30 p0)), .val (.int (f0_m35 p0)), .val (.ref b36_0), .val (.ref b37), .val (.ref b40), .val (.ref b359), .val (.int (f0_m649 p0)), .val (.int (f0_m658 p0)), .val (.int (f0_m666 p0))] [(.ref b359)])) rfl (by rw [hml]; rfl) (Steps.refl _) (argsL := []) (rest := []) (lenOf pd3 rfl) rfl (by show 2 * 0 + _ ≤ _; exact Nat.le_of_eq rfl) (hb hby at_273) (fun _ _ => ⟨rfl, e660, (by decide : 12 + 0 ≤ _), (by decide : 77 + 0 ≤ _)⟩)
  dsimp only [Pt.U, Pt.locs, Pt.cells, Pt.slots] at X667 l667 y667 z667 st667 hQ667
  subst l667 y667 z667
  obtain ⟨rfl, N667q, e667⟩ := hQ667
  have N667 := Fr.app N660 N667q
  have pre668 : ∀ t, Steps p.tables e below (T667.setTop (mkF m 278 #[.val (.int p0), .val (.int (f0_m5 p0)), .val (.int (f0_m10 p0)), .val (.int (f0_m15 p0)), .val (.int (f0_m20 p0)), .val (.int (f0_m25 p0)), .val (.int (f0_m30 p0)), .val (.int (f0_m35 p0)), .val (.ref b36_0), .val (.ref b37), .val (.ref b40), .val (.ref b359), .val (.int (f0_m649 p0)), .val (.int (f0_m658 p0)), .val (.int (f0_m666 p0))] [(.int (f0_m666 p0)), (.int (F12c (f0_m626 p0) (f0_m571 p0) (f0_m534 p0)))])) t → Steps p.tables e below (s₁.setTop (entryFrame m #[(.int p0)] maxLocals)) t := fun t k => pre660 t (by
    show Steps p.tables e below (T660.setTop (mkF m 269 #[.val (.int p0), .val (.int (f0_m5 p0)), .val (.int (f0_m10 p0)), .val (.int (f0_m15 p0)), .val (.int (f0_m20 p0)), .val (.int (f0_m25 p0)), .val (.int (f0_m30 p0)), .val (.int (f0_m35 p0)), .val (.ref b36_0), .val (.ref b37), .val (.ref b40), .val (.ref b359), .val (.int (f0_m649 p0)), .val (.int (f0_m658 p0)), .unset] [(.int (f0_m666 p0))])) _
    refine XS.istore X660.here hx rfl (hb hby at_269) rfl (l' := #[.val (.int p0), .val (.int (f0_m5 p0)), .val (.int (f0_m10 p0)), .val (.int (f0_m15 p0)), .val (.int (f0_m20 p0)), .val (.int (f0_m25 p0)), .val (.int (f0_m30 p0)), .val (.int (f0_m35 p0)), .val (.ref b36_0), .val (.ref b37), .val (.ref b40), .val (.ref b359), .val (.int (f0_m649 p0)), .val (.int (f0_m658 p0)), .val (.int (f0_m666 p0))]) rfl ?_
    show Steps p.tables e below (T660.setTop (mkF m 271 #[.val (.int p0), .val (.int (f0_m5 p0)), .val (.int (f0_m10 p0)), .val (.int (f0_m15 p0)), .val (.int (f0_m20 p0)), .val (.int (f0_m25 p0)), .val (.int (f0_m30 p0)), .val (.int (f0_m35 p0)), .val (.ref b36_0), .val (.ref b37), .val (.ref b40), .val (.ref b359), .val (.int (f0_m649 p0)), .val (.int (f0_m658 p0)), .val (.int (f0_m666 p0))] [])) _
    refine XS.aload X660.here hx rfl (hb hby at_271) rfl rfl ?_
    show Steps p.tables e below (T660.setTop (mkF m 273 #[.val (.int p0), .val (.int (f0_m5 p0)), .val (.int (f0_m10 p0)), .val (.int (f0_m15 p0)), .val (.int (f0_m20 p0)), .val (.int (f0_m25 p0)), .val (.int (f0_m30 p0)), .val (.int (f0_m35 p0)), .val (.ref b36_0), .val (.ref b37), .val (.ref b40), .val (.ref b359), .val (.int (f0_m649 p0)), .val (.int (f0_m658 p0)), .val (.int (f0_m666 p0))] [(.ref b359)])) _
    refine st667.trans ?_
    show Steps p.tables e below (T667.setTop (mkF m 276 #[.val (.int p0), .val (.int (f0_m5 p0)), .val (.int (f0_m10 p0)), .val (.int (f0_m15 p0)), .val (.int (f0_m20 p0)), .val (.int (f0_m25 p0)), .val (.int (f0_m30 p0)), .val (.int (f0_m35 p0)), .val (.ref b36_0), .val (.ref b37), .val (.ref b40), .val (.ref b359), .val (.int (f0_m649 p0)), .val (.int (f0_m658 p0)), .val (.int (f0_m666 p0))] [(.int (F12c (f0_m626 p0) (f0_m571 p0) (f0_m534 p0)))])) _
    refine XS.iload X667.here hx rfl (hb hby at_276) rfl ?_
    exact k)
  by_cases hc278_669 : (F12c (f0_m626 p0) (f0_m571 p0) (f0_m534 p0)) = (f0_m666 p0)
  · have pre670 : ∀ t, Steps p.tables e below (T667.setTop (mkF m 286 #[.val (.int p0), .val (.int (f0_m5 p0)), .val (.int (f0_m10 p0)), .val (.int (f0_m15 p0)), .val (.int (f0_m20 p0)), .val (.int (f0_m25 p0)), .val (.int (f0_m30 p0)), .val (.int (f0_m35 p0)), .val (.ref b36_0), .val (.ref b37), .val (.ref b40), .val (.ref b359), .val (.int (f0_m649 p0)), .val (.int (f0_m658 p0)), .val (.int (f0_m666 p0))] [(.int (1 : Int32))])) t → Steps p.tables e below (s₁.setTop (entryFrame m #[(.int p0)] maxLocals)) t := fun t k => pre668 t (by
      show Steps p.tables e below (T667.setTop (mkF m 278 #[.val (.int p0), .val (.int (f0_m5 p0)), .val (.int (f0_m10 p0)), .val (.int (f0_m15 p0)), .val (.int (f0_m20 p0)), .val (.int (f0_m25 p0)), .val (.int (f0_m30 p0)), .val (.int (f0_m35 p0)), .val (.ref b36_0), .val (.ref b37), .val (.ref b40), .val (.ref b359), .val (.int (f0_m649 p0)), .val (.int (f0_m658 p0)), .val (.int (f0_m666 p0))] [(.int (f0_m666 p0)), (.int (F12c (f0_m626 p0) (f0_m571 p0) (f0_m534 p0)))])) _
      refine XS.icmpNo X667.here hx rfl (hb hby at_278) rfl (teq hc278_669).2 ?_
      show Steps p.tables e below (T667.setTop (mkF m 281 #[.val (.int p0), .val (.int (f0_m5 p0)), .val (.int (f0_m10 p0)), .val (.int (f0_m15 p0)), .val (.int (f0_m20 p0)), .val (.int (f0_m25 p0)), .val (.int (f0_m30 p0)), .val (.int (f0_m35 p0)), .val (.ref b36_0), .val (.ref b37), .val (.ref b40), .val (.ref b359), .val (.int (f0_m649 p0)), .val (.int (f0_m658 p0)), .val (.int (f0_m666 p0))] [])) _
      refine XS.iconst X667.here hx rfl (hb hby at_281) ?_
      show Steps p.tables e below (T667.setTop (mkF m 282 #[.val (.int p0), .val (.int (f0_m5 p0)), .val (.int (f0_m10 p0)), .val (.int (f0_m15 p0)), .val (.int (f0_m20 p0)), .val (.int (f0_m25 p0)), .val (.int (f0_m30 p0)), .val (.int (f0_m35 p0)), .val (.ref b36_0), .val (.ref b37), .val (.ref b40), .val (.ref b359), .val (.int (f0_m649 p0)), .val (.int (f0_m658 p0)), .val (.int (f0_m666 p0))] [(.int (1 : Int32))])) _
      refine XS.goto X667.here hx rfl (pc0 := 282) (pc' := 286) rfl (hb hby at_282) (by decide) (by decide) ?_
      exact k)
    obtain ⟨fs, hr, hrun, hended, hW, hsame⟩ := X667.leave (v := some (.int (1 : Int32))) (fun h => by rw [Bd.returns] at h; cases h) hlk
    have hF : (F0 p0) = (1 : Int32) := by unfold F0; rw [if_neg hc116_43, if_neg hc138_364, if_pos hc278_669]
    exact ⟨_, _, pre670 _ (retN X667 hx (t := .boolean) Bd.returns (by simp) (hb hby at_286) hr), hrun, hended, _, _, rfl, ⟨by rw [hF], N667⟩, ⟨_, rfl⟩, hW, hsame.mono (by decide) (by decide)⟩
  have pre671 : ∀ t, Steps p.tables e below (T667.setTop (mkF m 286 #[.val (.int p0), .val (.int (f0_m5 p0)), .val (.int (f0_m10 p0)), .val (.int (f0_m15 p0)), .val (.int (f0_m20 p0)), .val (.int (f0_m25 p0)), .val (.int (f0_m30 p0)), .val (.int (f0_m35 p0)), .val (.ref b36_0), .val (.ref b37), .val (.ref b40), .val (.ref b359), .val (.int (f0_m649 p0)), .val (.int (f0_m658 p0)), .val (.int (f0_m666 p0))] [(.int (0 : Int32))])) t → Steps p.tables e below (s₁.setTop (entryFrame m #[(.int p0)] maxLocals)) t := fun t k => pre668 t (by
    show Steps p.tables e below (T667.setTop (mkF m 278 #[.val (.int p0), .val (.int (f0_m5 p0)), .val (.int (f0_m10 p0)), .val (.int (f0_m15 p0)), .val (.int (f0_m20 p0)), .val (.int (f0_m25 p0)), .val (.int (f0_m30 p0)), .val (.int (f0_m35 p0)), .val (.ref b36_0), .val (.ref b37), .val (.ref b40), .val (.ref b359), .val (.int (f0_m649 p0)), .val (.int (f0_m658 p0)), .val (.int (f0_m666 p0))] [(.int (f0_m666 p0)), (.int (F12c (f0_m626 p0) (f0_m571 p0) (f0_m534 p0)))])) _
    refine XS.icmpYes X667.here hx rfl (pc0 := 278) (pc' := 285) rfl (hb hby at_278) rfl (feq hc278_669).2 (by decide) (by decide) ?_
    show Steps p.tables e below (T667.setTop (mkF m 285 #[.val (.int p0), .val (.int (f0_m5 p0)), .val (.int (f0_m10 p0)), .val (.int (f0_m15 p0)), .val (.int (f0_m20 p0)), .val (.int (f0_m25 p0)), .val (.int (f0_m30 p0)), .val (.int (f0_m35 p0)), .val (.ref b36_0), .val (.ref b37), .val (.ref b40), .val (.ref b359), .val (.int (f0_m649 p0)), .val (.int (f0_m658 p0)), .val (.int (f0_m666 p0))] [])) _
    refine XS.iconst X667.here hx rfl (hb hby at_285) ?_
    exact k)
  obtain ⟨fs, hr, hrun, hended, hW, hsame⟩ := X667.leave (v := some (.int (0 : Int32))) (fun h => by rw [Bd.returns] at h; cases h) hlk
  have hF : (F0 p0) = (0 : Int32) := by unfold F0; rw [if_neg hc116_43, if_neg hc138_364, if_neg hc278_669]
  exact ⟨_, _, pre671 _ (retN X667 hx (t := .boolean) Bd.returns (by simp) (hb hby at_286) hr), hrun, hended, _, _, rfl, ⟨by rw [hF], N667⟩, ⟨_, rfl⟩, hW, hsame.mono (by decide) (by decide)⟩
theorem own_b01 (c : Prop) [Decidable c] : (if c then (0 : Int32) else (1 : Int32)) = 0 ∨ (if c then (0 : Int32) else (1 : Int32)) = 1 := by split <;> simp
set_option maxRecDepth 65536 in
set_option maxHeartbeats 40000000 in
theorem own_law (p0 : Int32) : F0 p0 = 1 := by
  have h0 : f0_m5 p0 = 0 ∨ f0_m5 p0 = 1 := own_b01 _
  have h1 : f0_m10 p0 = 0 ∨ f0_m10 p0 = 1 := own_b01 _
  have h2 : f0_m15 p0 = 0 ∨ f0_m15 p0 = 1 := own_b01 _
  have h3 : f0_m20 p0 = 0 ∨ f0_m20 p0 = 1 := own_b01 _
  have h4 : f0_m25 p0 = 0 ∨ f0_m25 p0 = 1 := own_b01 _
  have h5 : f0_m30 p0 = 0 ∨ f0_m30 p0 = 1 := own_b01 _
  have h6 : f0_m35 p0 = 0 ∨ f0_m35 p0 = 1 := own_b01 _
  rcases h0 with h0 | h0 <;> rcases h1 with h1 | h1 <;> rcases h2 with h2 | h2 <;> rcases h3 with h3 | h3 <;> rcases h4 with h4 | h4 <;> rcases h5 with h5 | h5 <;> rcases h6 with h6 | h6 <;> simp only [F0, F12a, F12b, F12c, f0_m130, f0_m163, f0_m186, f0_m197, f0_m257, f0_m279, f0_m312, f0_m335, f0_m341, f0_m349, f0_m441, f0_m474, f0_m497, f0_m511, f0_m534, f0_m571, f0_m593, f0_m626, f0_m649, f0_m658, f0_m666, h0, h1, h2, h3, h4, h5, h6] <;> decide
set_option maxRecDepth 65536 in
set_option maxHeartbeats 40000000 in
theorem comes_1 {Post : Tables → Env → Array Value → State → Outcome → State → Prop} (hpost : ∀ tb e args s v u, (limb_1_1.after args s (.returned v) u = true ∧ limb_1_2.after args s (.returned v) u = true ∧ True) → FrameEnd s (.returned v) u (Jvm.fieldLocs frame_1_writes args s ++ Jvm.arrayLocs frame_1_arrays args s ++ Jvm.staticLocs frame_1_statics s) 32 256 → Post tb e args s (.returned v) u) :
    ArmFor flags0 classFile x code maxLocals ret World_1 tables_1 room_1 Calls_1 rest_1 Pre_1 Post := by
  intro l hfl _ _ p e ha hc hk s m args below hf hA hF happ hP
  obtain ⟨hcalls, hrest, hpre⟩ := hP
  obtain ⟨-, -, -, hnamed, -, -, -, hat⟩ := (Spec.applies_iff hf).mp happ
  obtain ⟨hg, hn⟩ := and_e (Cond.before_iff.mp (show (Jvm.Cond.and given_1 narrow_1).before args s = true from hpre))
  obtain ⟨hcount, g0⟩ := and_e hg
  obtain ⟨w0, rfl⟩ : ∃ w0 : Value, args = #[w0] := by
    have hs : args.size = 1 := by simpa [Cond.value, given_1] using hcount
    obtain ⟨L⟩ := args
    match L, hs with
    | [w0], _ => exact ⟨w0, rfl⟩
  have hw := fun d (hd : d ∈ tables_1) => atoms_spec (ws := Jvm.Cond.code x code maxLocals ret :: tables_1) hat d (List.mem_cons_of_mem _ hd)
  obtain ⟨i0, ei0⟩ := is_v g0
  obtain rfl : w0 = (.int i0) := Option.some.inj ei0
  obtain ⟨hsets, hown0⟩ := atoms_of _ (rest_1_c_eq ▸ (show rest_1_c.before _ s = true from hrest))
  obtain ⟨sD, hsD⟩ := arr_v (Cond.before_iff.mp (hsets _ (List.mem_of_getElem? (i := 6) rfl)))
  have S_sD := Sta.start hsD (Or.inr ⟨(hw _ (List.mem_of_getElem? (i := 55) rfl)), (hsets _ (List.mem_of_getElem? (i := 2) rfl))⟩)
  have hfit : Fit s := fun {y c} hc i hi => by
    obtain ⟨ha, rfl⟩ := Array.getElem?_eq_some_iff.mp hc
    have q := List.all_eq_true.mp ((Array.all_eq_true_iff_forall_mem.mp hF) _ (Array.getElem_mem ha)) i (List.mem_range.mpr hi)
    simpa [Array.getElem?_eq_getElem hi] using q
  obtain ⟨kS_sD, VS_sD⟩ := own_arv0 hfit hsD (Cond.before_iff.mp (hsets _ (List.mem_of_getElem? (i := 6) rfl))) (eqv_i (Term.int_eval (0)) (Cond.before_iff.mp (hsets _ (List.mem_of_getElem? (i := 8) rfl))))
  obtain ⟨n, o, h1, h2, h3, _, L, rfl, ⟨rfl, N⟩, hq⟩ := rm0 l s _ hw tables_1 i0 sD kS_sD s.heap s.heap.size (Nat.le_refl _) (Old.start s) S_sD VS_sD p e ha hc hk s m _ below hf ((Spec.applies_iff_loose hf).mp happ).1 ⟨rfl, State.Warmed39.refl s, rfl⟩ trivial
  have hlaw := own_law i0
  refine ⟨n, _, h1, h2, h3, hpost _ _ _ _ _ _ ⟨Cond.after_iff.mpr rfl, Cond.after_iff.mpr (eq_i res_at (Term.int_eval (1)) (congrArg Value.int hlaw)), trivial⟩ ⟨hq.1, hq.2.1, (hq.2.2.sift fun y hy => Or.inr (N y hy)).mono (by decide) (by decide)⟩⟩
theorem main_1_1 : Claimed_1_1 := comes_1 fun _ _ _ _ _ _ h hF => ⟨h.1, hF⟩
theorem main_1_2 : Claimed_1_2 := comes_1 fun _ _ _ _ _ _ h hF => ⟨h.2.1, hF⟩
end Jvm.Pilot.@@N@@
namespace Jvm.Pilot.@@N@@
open Jvm Jvm.ClassFile Sem Op Lib Jvm.Free Jvm.Stand Jvm.Pilot.@@N@@.Jvm.D
/-! MADE BY PROGRAM (witnessworld.py) out of the Statement's table words and the real class files: 29 classes; the members and pool entries that the words name. The judged class is class 1, her method 1. -/
namespace start1
open Jvm.ClassFile
def u (s : String) : CpInfo := .utf8 (stringToUtf16 s)
/-- a pool by its gaps: so many unusable entries, then the entry; so many at the end -/
def gap : Nat → List CpInfo → List CpInfo
  | 0, r => r
  | n + 1, r => .unusable :: gap n r
def poolList (es : List (Nat × CpInfo)) (last : Nat) : List CpInfo := es.foldr (fun e r => gap e.1 (e.2 :: r)) (gap last [])
def pool (es : List (Nat × CpInfo)) (last : Nat) : Array CpInfo := ⟨poolList es last⟩
def fileOf (pool : Array CpInfo) (this : Nat) (attrs : Array Attribute := #[]) (ms : Array MethodInfo := #[]) (fl : Nat := 33) (sup : Nat := 0) (ifs : Array Nat := #[]) (fds : Array FieldInfo := #[]) : ClassFile where
  minorVersion := 0
  majorVersion := 65
  constantPool := pool
  accessFlags := fl
  thisClass := this
  superClass := sup
  interfaces := ifs
  fields := fds
  methods := ms
  attributes := attrs
def plain (name : String) (sup : Option ClassId) : Class where
  name := name
  kind := .ordinary
  loader := none
  accessFlags := 33
  super := sup
  interfaces := #[]
  cf := none
  fields := #[]
  methods := #[]
  instanceTypes := #[]
  staticTypes := #[]
  resolved := #[]
  callSites := []
  init := .initialized
  statics := none
  mirror := none

def pool0 : Array CpInfo := pool [(5, u "<init>"), (0, u "()V"), (1, .class_ 10), (1, u "java/lang/Object")] 113

def k0c0 : Code := { maxStack := 0, maxLocals := 1, code := object_method_1_code, exceptionTable := #[], attributes := #[] }
def k0m0 : Method := { name := "<init>", desc := "()V", sig := { parameters := [], returnType := none }, accessFlags := 1, code := some k0c0 }
/-- java/lang/Object -/
def k0 : Class := { plain "java/lang/Object" none with
  accessFlags := 33
  interfaces := #[]
  cf := some (fileOf pool0 8 #[] #[{ accessFlags := 1, nameIndex := 5, descriptorIndex := 6, attributes := #[] }] 33 0 #[] #[])
  fields := #[]
  methods := #[k0m0]
  instanceTypes := #[]
  staticTypes := #[]
  resolved := Array.replicate 124 none
  statics := none }

def pool1 : Array CpInfo := pool [(2, .class_ 4), (1, u "java/lang/Object"), (0, u "<init>"), (0, u "()V"), (0, .methodref 8 9), (0, .class_ 10), (0, .nameAndType 11 12), (0, u "com/example/tenon/tenon/Budget"), (0, u "unlimited"), (0, u "()Lcom/example/tenon/tenon/Budget;"), (0, .class_ 14), (0, u "com/example/tenon/tenon/Assignments"), (0, .methodref 13 16), (0, .nameAndType 5 17), (0, u "(Lcom/example/tenon/tenon/Budget;)V"), (0, .methodref 13 19), (0, .nameAndType 5 20), (0, u "(Lcom/example/tenon/tenon/Budget;Lcom/example/tenon/tenon/Assignments;)V"), (0, .methodref 13 22), (0, .nameAndType 23 6), (0, u "notKnown"), (0, .methodref 13 25), (0, .nameAndType 26 27), (0, u "mark"), (0, u "()I"), (0, .methodref 13 29), (0, .nameAndType 30 31), (0, u "undo"), (0, u "(I)V"), (0, .methodref 13 33), (0, .nameAndType 34 35), (0, u "isBlind"), (0, u "()Z"), (0, .class_ 37), (0, u "com/example/tenon/tenon/AssignmentsIsBlindPinLaw"), (2, u "law"), (0, u "(I)Z")] 3

def k1m0 : Method := { name := "<init>", desc := "()V", sig := { parameters := [], returnType := none }, accessFlags := 1, code := none }
def k1c1 : Code := { maxStack := 4, maxLocals := 15, code := code, exceptionTable := #[], attributes := #[] }
def k1m1 : Method := { name := "law", desc := "(I)Z", sig := { parameters := [.int], returnType := some .boolean }, accessFlags := 9, code := some k1c1 }
/-- com/example/tenon/tenon/AssignmentsIsBlindPinLaw -/
def k1 : Class := { plain "com/example/tenon/tenon/AssignmentsIsBlindPinLaw" (some 0) with
  accessFlags := 49
  interfaces := #[]
  cf := some (fileOf pool1 36 #[] #[{ accessFlags := 1, nameIndex := 5, descriptorIndex := 6, attributes := #[] }, { accessFlags := 9, nameIndex := 40, descriptorIndex := 41, attributes := #[] }] 49 2 #[] #[])
  fields := #[]
  methods := #[k1m0, k1m1]
  instanceTypes := #[]
  staticTypes := #[]
  resolved := Array.replicate 45 none
  statics := none }

def pool2 : Array CpInfo := pool [(5, .methodref 6 7), (0, .class_ 8), (0, .nameAndType 9 10), (0, u "java/lang/Object"), (0, u "<init>"), (0, u "()V"), (0, .fieldref 12 13), (0, .class_ 14), (0, .nameAndType 15 16), (0, u "com/example/tenon/tenon/Budget"), (0, u "limit"), (0, u "J"), (0, .long 9223372036854775807), (1, .methodref 12 20), (0, .nameAndType 9 21), (0, u "(J)V"), (0, .methodref 12 23), (0, .nameAndType 24 21), (0, u "check"), (0, .fieldref 12 26), (0, .nameAndType 27 16), (0, u "held"), (7, u "TEXT"), (24, u "STRING"), (59, u "PRINTED_LITERAL"), (0, .class_ 122), (0, u "com/example/tenon/tenon/Budget$Printed"), (10, u "I"), (18, u "LONGEST_ARRAY"), (2, u "HEADER"), (1, u "REFERENCE"), (1, u "UNLIMITED"), (2, u "unlimited"), (0, u "()Lcom/example/tenon/tenon/Budget;"), (2, u "take"), (0, u "give")] 34

def k2c0 : Code := { maxStack := 3, maxLocals := 3, code := prog_22_method_1_code, exceptionTable := #[], attributes := #[] }
def k2m0 : Method := { name := "<init>", desc := "(J)V", sig := { parameters := [.long], returnType := none }, accessFlags := 0, code := some k2c0 }
def k2c1 : Code := { maxStack := 4, maxLocals := 0, code := prog_22_method_2_code, exceptionTable := #[], attributes := #[] }
def k2m1 : Method := { name := "unlimited", desc := "()Lcom/example/tenon/tenon/Budget;", sig := { parameters := [], returnType := some (.object "com/example/tenon/tenon/Budget") }, accessFlags := 8, code := some k2c1 }
def k2c2 : Code := { maxStack := 5, maxLocals := 3, code := prog_22_method_4_code, exceptionTable := #[], attributes := #[] }
def k2m2 : Method := { name := "take", desc := "(J)V", sig := { parameters := [.long], returnType := none }, accessFlags := 0, code := some k2c2 }
def k2c3 : Code := { maxStack := 5, maxLocals := 3, code := prog_22_method_5_code, exceptionTable := #[], attributes := #[] }
def k2m3 : Method := { name := "give", desc := "(J)V", sig := { parameters := [.long], returnType := none }, accessFlags := 0, code := some k2c3 }
def k2c4 : Code := { maxStack := 6, maxLocals := 3, code := prog_22_method_6_code, exceptionTable := #[], attributes := #[] }
def k2m4 : Method := { name := "check", desc := "(J)V", sig := { parameters := [.long], returnType := none }, accessFlags := 0, code := some k2c4 }
/-- com/example/tenon/tenon/Budget -/
def k2 : Class := { plain "com/example/tenon/tenon/Budget" (some 0) with
  accessFlags := 48
  interfaces := #[]
  cf := some (fileOf pool2 12 #[.nestMembers #[121]] #[{ accessFlags := 0, nameIndex := 9, descriptorIndex := 21, attributes := #[] }, { accessFlags := 8, nameIndex := 162, descriptorIndex := 163, attributes := #[] }, { accessFlags := 0, nameIndex := 166, descriptorIndex := 21, attributes := #[] }, { accessFlags := 0, nameIndex := 167, descriptorIndex := 21, attributes := #[] }, { accessFlags := 0, nameIndex := 24, descriptorIndex := 21, attributes := #[] }] 48 6 #[] #[{ accessFlags := 24, nameIndex := 152, descriptorIndex := 133, attributes := #[] }, { accessFlags := 26, nameIndex := 155, descriptorIndex := 133, attributes := #[] }, { accessFlags := 26, nameIndex := 157, descriptorIndex := 133, attributes := #[] }, { accessFlags := 26, nameIndex := 60, descriptorIndex := 16, attributes := #[] }, { accessFlags := 26, nameIndex := 35, descriptorIndex := 16, attributes := #[] }, { accessFlags := 26, nameIndex := 120, descriptorIndex := 16, attributes := #[] }, { accessFlags := 26, nameIndex := 159, descriptorIndex := 16, attributes := #[] }, { accessFlags := 18, nameIndex := 15, descriptorIndex := 16, attributes := #[] }, { accessFlags := 2, nameIndex := 27, descriptorIndex := 16, attributes := #[] }])
  fields := #[{ name := "LONGEST_ARRAY", type := .int, accessFlags := 24, slot := 0, constantValue := 0 }, { name := "HEADER", type := .int, accessFlags := 26, slot := 1, constantValue := 0 }, { name := "REFERENCE", type := .int, accessFlags := 26, slot := 2, constantValue := 0 }, { name := "STRING", type := .long, accessFlags := 26, slot := 3, constantValue := 0 }, { name := "TEXT", type := .long, accessFlags := 26, slot := 4, constantValue := 0 }, { name := "PRINTED_LITERAL", type := .long, accessFlags := 26, slot := 5, constantValue := 0 }, { name := "UNLIMITED", type := .long, accessFlags := 26, slot := 6, constantValue := 0 }, { name := "limit", type := .long, accessFlags := 18, slot := 0, constantValue := 0 }, { name := "held", type := .long, accessFlags := 2, slot := 1, constantValue := 0 }]
  methods := #[k2m0, k2m1, k2m2, k2m3, k2m4]
  instanceTypes := #[.long, .long]
  staticTypes := #[.int, .int, .int, .long, .long, .long, .long]
  resolved := Array.replicate 202 none
  statics := none }

def pool3 : Array CpInfo := pool [(1, .methodref 2 3), (0, .class_ 4), (0, .nameAndType 5 6), (0, u "com/example/tenon/tenon/Assignments"), (0, u "<init>"), (0, u "(Lcom/example/tenon/tenon/Budget;Lcom/example/tenon/tenon/Assignments;)V"), (0, .methodref 8 9), (0, .class_ 10), (0, .nameAndType 5 11), (0, u "java/lang/Object"), (0, u "()V"), (0, .class_ 13), (0, u "java/util/LinkedHashMap"), (0, .methodref 12 9), (0, .fieldref 2 16), (0, .nameAndType 17 18), (0, u "assigned"), (0, u "Ljava/util/Map;"), (0, .class_ 20), (0, u "java/util/ArrayList"), (0, .methodref 19 9), (0, .fieldref 2 23), (0, .nameAndType 24 25), (0, u "changed"), (0, u "Ljava/util/List;"), (0, .fieldref 2 27), (0, .nameAndType 28 29), (0, u "budget"), (0, u "Lcom/example/tenon/tenon/Budget;"), (0, .fieldref 2 31), (0, .nameAndType 32 33), (0, u "below"), (0, u "Lcom/example/tenon/tenon/Assignments;"), (6, .class_ 41), (0, u "com/example/tenon/tenon/Assignments$Assigned"), (0, .long 80), (2, .class_ 47), (1, u "com/example/tenon/tenon/Budget"), (5, .fieldref 2 54), (0, .nameAndType 55 56), (0, u "marks"), (0, u "I"), (0, .long 56), (1, .methodref 45 60), (0, .nameAndType 61 62), (0, u "take"), (0, u "(J)V"), (0, .class_ 64), (0, u "com/example/tenon/tenon/Assignments$Changed"), (0, .methodref 63 66), (0, .nameAndType 5 67), (0, u "(Ljava/lang/String;Lcom/example/tenon/tenon/Assignments$Assigned;)V"), (0, .interfaceMethodref 69 70), (0, .class_ 71), (0, .nameAndType 72 73), (0, u "java/util/List"), (0, u "add"), (0, u "(Ljava/lang/Object;)Z"), (4, .methodref 45 79), (0, .nameAndType 80 62), (0, u "give"), (0, .fieldref 2 82), (0, .nameAndType 83 56), (0, u "blindness"), (7, .interfaceMethodref 69 92), (0, .nameAndType 93 94), (0, u "size"), (0, u "()I"), (0, .methodref 2 96), (0, .nameAndType 97 98), (0, u "takeBack"), (0, u "(I)V"), (0, .interfaceMethodref 69 100), (0, .nameAndType 101 102), (0, u "remove"), (0, u "(I)Ljava/lang/Object;"), (0, .methodref 63 104), (0, .nameAndType 105 106), (0, u "name"), (0, u "()Ljava/lang/String;"), (6, .methodref 2 114), (0, .nameAndType 115 116), (0, u "isBlind"), (0, u "()Z"), (68, u "ASSIGNMENT"), (0, u "J"), (1, u "CHANGE"), (3, u "(Lcom/example/tenon/tenon/Budget;)V"), (6, u "notKnown"), (0, u "mark"), (0, u "undo")] 39

def k3c0 : Code := { maxStack := 3, maxLocals := 2, code := prog_4_method_1_code, exceptionTable := #[], attributes := #[] }
def k3m0 : Method := { name := "<init>", desc := "(Lcom/example/tenon/tenon/Budget;)V", sig := { parameters := [(.object "com/example/tenon/tenon/Budget")], returnType := none }, accessFlags := 0, code := some k3c0 }
def k3c1 : Code := { maxStack := 3, maxLocals := 3, code := prog_4_method_2_code, exceptionTable := #[], attributes := #[] }
def k3m1 : Method := { name := "<init>", desc := "(Lcom/example/tenon/tenon/Budget;Lcom/example/tenon/tenon/Assignments;)V", sig := { parameters := [(.object "com/example/tenon/tenon/Budget"), (.object "com/example/tenon/tenon/Assignments")], returnType := none }, accessFlags := 0, code := some k3c1 }
def k3c2 : Code := { maxStack := 5, maxLocals := 1, code := prog_4_method_4_code, exceptionTable := #[], attributes := #[] }
def k3m2 : Method := { name := "notKnown", desc := "()V", sig := { parameters := [], returnType := none }, accessFlags := 0, code := some k3c2 }
def k3c3 : Code := { maxStack := 3, maxLocals := 1, code := prog_4_method_5_code, exceptionTable := #[], attributes := #[] }
def k3m3 : Method := { name := "mark", desc := "()I", sig := { parameters := [], returnType := some .int }, accessFlags := 0, code := some k3c3 }
def k3c4 : Code := { maxStack := 3, maxLocals := 2, code := prog_4_method_6_code, exceptionTable := #[], attributes := #[] }
def k3m4 : Method := { name := "undo", desc := "(I)V", sig := { parameters := [.int], returnType := none }, accessFlags := 0, code := some k3c4 }
def k3c5 : Code := { maxStack := 6, maxLocals := 7, code := prog_4_method_7_code, exceptionTable := #[], attributes := #[] }
def k3m5 : Method := { name := "takeBack", desc := "(I)V", sig := { parameters := [.int], returnType := none }, accessFlags := 2, code := some k3c5 }
def k3c6 : Code := { maxStack := 1, maxLocals := 1, code := prog_4_method_8_code, exceptionTable := #[], attributes := #[] }
def k3m6 : Method := { name := "isBlind", desc := "()Z", sig := { parameters := [], returnType := some .boolean }, accessFlags := 0, code := some k3c6 }
/-- com/example/tenon/tenon/Assignments -/
def k3 : Class := { plain "com/example/tenon/tenon/Assignments" (some 0) with
  accessFlags := 48
  interfaces := #[]
  cf := some (fileOf pool3 2 #[.nestMembers #[63, 40]] #[{ accessFlags := 0, nameIndex := 5, descriptorIndex := 192, attributes := #[] }, { accessFlags := 0, nameIndex := 5, descriptorIndex := 6, attributes := #[] }, { accessFlags := 0, nameIndex := 199, descriptorIndex := 11, attributes := #[] }, { accessFlags := 0, nameIndex := 200, descriptorIndex := 94, attributes := #[] }, { accessFlags := 0, nameIndex := 201, descriptorIndex := 98, attributes := #[] }, { accessFlags := 2, nameIndex := 97, descriptorIndex := 98, attributes := #[] }, { accessFlags := 0, nameIndex := 115, descriptorIndex := 116, attributes := #[] }] 48 8 #[] #[{ accessFlags := 26, nameIndex := 185, descriptorIndex := 186, attributes := #[] }, { accessFlags := 26, nameIndex := 188, descriptorIndex := 186, attributes := #[] }, { accessFlags := 18, nameIndex := 17, descriptorIndex := 18, attributes := #[] }, { accessFlags := 18, nameIndex := 28, descriptorIndex := 29, attributes := #[] }, { accessFlags := 18, nameIndex := 32, descriptorIndex := 33, attributes := #[] }, { accessFlags := 2, nameIndex := 83, descriptorIndex := 56, attributes := #[] }, { accessFlags := 18, nameIndex := 24, descriptorIndex := 25, attributes := #[] }, { accessFlags := 2, nameIndex := 55, descriptorIndex := 56, attributes := #[] }])
  fields := #[{ name := "ASSIGNMENT", type := .long, accessFlags := 26, slot := 0, constantValue := 0 }, { name := "CHANGE", type := .long, accessFlags := 26, slot := 1, constantValue := 0 }, { name := "assigned", type := (.object "java/util/Map"), accessFlags := 18, slot := 0, constantValue := 0 }, { name := "budget", type := (.object "com/example/tenon/tenon/Budget"), accessFlags := 18, slot := 1, constantValue := 0 }, { name := "below", type := (.object "com/example/tenon/tenon/Assignments"), accessFlags := 18, slot := 2, constantValue := 0 }, { name := "blindness", type := .int, accessFlags := 2, slot := 3, constantValue := 0 }, { name := "changed", type := (.object "java/util/List"), accessFlags := 18, slot := 4, constantValue := 0 }, { name := "marks", type := .int, accessFlags := 2, slot := 5, constantValue := 0 }]
  methods := #[k3m0, k3m1, k3m2, k3m3, k3m4, k3m5, k3m6]
  instanceTypes := #[(.object "java/util/Map"), (.object "com/example/tenon/tenon/Budget"), (.object "com/example/tenon/tenon/Assignments"), .int, (.object "java/util/List"), .int]
  staticTypes := #[.long, .long]
  resolved := ⟨List.replicate 63 none ++ [some (.cls 20)] ++ List.replicate 1 none ++ [some (.method ⟨20, 0⟩)] ++ List.replicate 175 none⟩
  statics := none }

def pool4 : Array CpInfo := pool [(2, .class_ 4), (1, u "java/util/Map"), (31, .class_ 37), (0, u "java/util/Map$Entry"), (55, .class_ 94), (0, u "java/lang/Object")] 168

/-- java/util/Map -/
def k4 : Class := { plain "java/util/Map" (some 0) with
  accessFlags := 1537
  interfaces := #[]
  cf := some (fileOf pool4 2 #[.nestMembers #[36]] #[] 1537 93 #[] #[])
  fields := #[]
  methods := #[]
  instanceTypes := #[]
  staticTypes := #[]
  resolved := Array.replicate 263 none
  statics := none }

def pool5 : Array CpInfo := pool [(1, .methodref 2 3), (0, .class_ 4), (0, .nameAndType 5 6), (0, u "java/lang/Object"), (0, u "<init>"), (0, u "()V"), (1, .class_ 10), (1, u "java/util/AbstractMap"), (42, .class_ 54), (0, u "java/util/Map"), (9, u "keySet"), (0, u "Ljava/util/Set;"), (0, .class_ 67), (0, u "java/util/AbstractMap$1"), (5, u "values"), (0, u "Ljava/util/Collection;"), (0, .class_ 76), (0, u "java/util/AbstractMap$2"), (104, .class_ 182), (0, u "java/util/AbstractMap$ViewCollection"), (0, .class_ 184), (0, u "java/util/AbstractMap$SimpleImmutableEntry"), (0, .class_ 186), (0, u "java/util/AbstractMap$SimpleEntry"), (0, .class_ 188), (0, u "java/util/AbstractMap$2$1"), (0, .class_ 190), (0, u "java/util/AbstractMap$1$1")] 5

def k5c0 : Code := { maxStack := 1, maxLocals := 1, code := jdk_71_method_1_code, exceptionTable := #[], attributes := #[] }
def k5m0 : Method := { name := "<init>", desc := "()V", sig := { parameters := [], returnType := none }, accessFlags := 4, code := some k5c0 }
/-- java/util/AbstractMap -/
def k5 : Class := { plain "java/util/AbstractMap" (some 0) with
  accessFlags := 1057
  interfaces := #[4]
  cf := some (fileOf pool5 8 #[.nestMembers #[181, 183, 185, 75, 187, 66, 189]] #[{ accessFlags := 4, nameIndex := 5, descriptorIndex := 6, attributes := #[] }] 1057 2 #[53] #[{ accessFlags := 128, nameIndex := 64, descriptorIndex := 65, attributes := #[] }, { accessFlags := 128, nameIndex := 73, descriptorIndex := 74, attributes := #[] }])
  fields := #[{ name := "keySet", type := (.object "java/util/Set"), accessFlags := 128, slot := 0, constantValue := 0 }, { name := "values", type := (.object "java/util/Collection"), accessFlags := 128, slot := 1, constantValue := 0 }]
  methods := #[k5m0]
  instanceTypes := #[(.object "java/util/Set"), (.object "java/util/Collection")]
  staticTypes := #[]
  resolved := Array.replicate 196 none
  statics := none }

def pool6 : Array CpInfo := pool [(1, .class_ 2), (0, u "java/lang/Cloneable"), (0, .class_ 4), (0, u "java/lang/Object")] 2

/-- java/lang/Cloneable -/
def k6 : Class := { plain "java/lang/Cloneable" (some 0) with
  accessFlags := 1537
  interfaces := #[]
  cf := some (fileOf pool6 1 #[] #[] 1537 3 #[] #[])
  fields := #[]
  methods := #[]
  instanceTypes := #[]
  staticTypes := #[]
  resolved := Array.replicate 7 none
  statics := none }

def pool7 : Array CpInfo := pool [(1, .class_ 2), (0, u "java/io/Serializable"), (0, .class_ 4), (0, u "java/lang/Object")] 2

/-- java/io/Serializable -/
def k7 : Class := { plain "java/io/Serializable" (some 0) with
  accessFlags := 1537
  interfaces := #[]
  cf := some (fileOf pool7 1 #[] #[] 1537 3 #[] #[])
  fields := #[]
  methods := #[]
  instanceTypes := #[]
  staticTypes := #[]
  resolved := Array.replicate 7 none
  statics := none }

def pool8 : Array CpInfo := pool [(40, .class_ 41), (0, u "java/util/HashMap"), (1, .methodref 44 45), (0, .class_ 46), (0, .nameAndType 47 48), (0, u "java/util/AbstractMap"), (0, u "<init>"), (0, u "()V"), (32, .fieldref 40 82), (0, .nameAndType 83 84), (0, u "loadFactor"), (0, u "F"), (5, u "threshold"), (0, u "I"), (0, .float 1061158912), (8, .class_ 103), (1, u "java/util/Map"), (0, u "size"), (2, u "table"), (0, u "[Ljava/util/HashMap$Node;"), (14, u "entrySet"), (39, .class_ 165), (1, u "java/util/HashMap$Node"), (14, .class_ 181), (0, u "java/util/HashMap$TreeNode"), (22, u "modCount"), (37, u "Ljava/util/Set;"), (0, .class_ 244), (0, u "java/util/HashMap$KeySet"), (18, .class_ 264), (0, u "java/util/HashMap$Values"), (3, .class_ 269), (0, u "java/util/HashMap$EntrySet"), (76, .class_ 348), (1, u "java/util/HashMap$UnsafeHolder"), (43, .class_ 393), (0, u "java/lang/Cloneable"), (0, .class_ 395), (0, u "java/io/Serializable"), (0, u "serialVersionUID"), (0, u "J"), (3, u "DEFAULT_INITIAL_CAPACITY"), (1, u "MAXIMUM_CAPACITY"), (0, u "DEFAULT_LOAD_FACTOR"), (0, u "TREEIFY_THRESHOLD"), (1, u "UNTREEIFY_THRESHOLD"), (1, u "MIN_TREEIFY_CAPACITY"), (186, .class_ 597), (0, u "java/util/HashMap$EntrySpliterator"), (0, .class_ 599), (0, u "java/util/HashMap$ValueSpliterator"), (0, .class_ 601), (0, u "java/util/HashMap$KeySpliterator"), (0, .class_ 603), (0, u "java/util/HashMap$HashMapSpliterator"), (0, .class_ 605), (0, u "java/util/HashMap$EntryIterator"), (0, .class_ 607), (0, u "java/util/HashMap$ValueIterator"), (0, .class_ 609), (0, u "java/util/HashMap$KeyIterator"), (0, .class_ 611), (0, u "java/util/HashMap$HashIterator")] 17

def k8c0 : Code := { maxStack := 2, maxLocals := 1, code := jdk_69_method_7_code, exceptionTable := #[], attributes := #[] }
def k8m0 : Method := { name := "<init>", desc := "()V", sig := { parameters := [], returnType := none }, accessFlags := 1, code := some k8c0 }
/-- java/util/HashMap -/
def k8 : Class := { plain "java/util/HashMap" (some 5) with
  accessFlags := 33
  interfaces := #[4, 6, 7]
  cf := some (fileOf pool8 40 #[.nestMembers #[180, 596, 598, 600, 602, 604, 606, 608, 610, 346, 268, 263, 243, 163]] #[{ accessFlags := 1, nameIndex := 47, descriptorIndex := 48, attributes := #[] }] 33 44 #[101, 392, 394] #[{ accessFlags := 26, nameIndex := 396, descriptorIndex := 397, attributes := #[] }, { accessFlags := 24, nameIndex := 401, descriptorIndex := 91, attributes := #[] }, { accessFlags := 24, nameIndex := 403, descriptorIndex := 91, attributes := #[] }, { accessFlags := 24, nameIndex := 404, descriptorIndex := 84, attributes := #[] }, { accessFlags := 24, nameIndex := 405, descriptorIndex := 91, attributes := #[] }, { accessFlags := 24, nameIndex := 407, descriptorIndex := 91, attributes := #[] }, { accessFlags := 24, nameIndex := 409, descriptorIndex := 91, attributes := #[] }, { accessFlags := 128, nameIndex := 107, descriptorIndex := 108, attributes := #[] }, { accessFlags := 128, nameIndex := 123, descriptorIndex := 242, attributes := #[] }, { accessFlags := 128, nameIndex := 104, descriptorIndex := 91, attributes := #[] }, { accessFlags := 128, nameIndex := 204, descriptorIndex := 91, attributes := #[] }, { accessFlags := 0, nameIndex := 90, descriptorIndex := 91, attributes := #[] }, { accessFlags := 16, nameIndex := 83, descriptorIndex := 84, attributes := #[] }])
  fields := #[{ name := "serialVersionUID", type := .long, accessFlags := 26, slot := 0, constantValue := 0 }, { name := "DEFAULT_INITIAL_CAPACITY", type := .int, accessFlags := 24, slot := 1, constantValue := 0 }, { name := "MAXIMUM_CAPACITY", type := .int, accessFlags := 24, slot := 2, constantValue := 0 }, { name := "DEFAULT_LOAD_FACTOR", type := .float, accessFlags := 24, slot := 3, constantValue := 0 }, { name := "TREEIFY_THRESHOLD", type := .int, accessFlags := 24, slot := 4, constantValue := 0 }, { name := "UNTREEIFY_THRESHOLD", type := .int, accessFlags := 24, slot := 5, constantValue := 0 }, { name := "MIN_TREEIFY_CAPACITY", type := .int, accessFlags := 24, slot := 6, constantValue := 0 }, { name := "table", type := (.array (.object "java/util/HashMap$Node")), accessFlags := 128, slot := 2, constantValue := 0 }, { name := "entrySet", type := (.object "java/util/Set"), accessFlags := 128, slot := 3, constantValue := 0 }, { name := "size", type := .int, accessFlags := 128, slot := 4, constantValue := 0 }, { name := "modCount", type := .int, accessFlags := 128, slot := 5, constantValue := 0 }, { name := "threshold", type := .int, accessFlags := 0, slot := 6, constantValue := 0 }, { name := "loadFactor", type := .float, accessFlags := 16, slot := 7, constantValue := 0 }]
  methods := #[k8m0]
  instanceTypes := #[(.object "java/util/Set"), (.object "java/util/Collection"), (.array (.object "java/util/HashMap$Node")), (.object "java/util/Set"), .int, .int, .int, .float]
  staticTypes := #[.long, .int, .int, .float, .int, .int, .int]
  resolved := Array.replicate 629 none
  statics := none }

def pool9 : Array CpInfo := pool [(2, .class_ 4), (1, u "java/util/SequencedMap"), (38, .class_ 44), (0, u "java/util/SequencedMap$1SeqKeySet"), (3, .class_ 49), (0, u "java/util/SequencedMap$1SeqValues"), (1, .class_ 52), (0, u "java/util/SequencedMap$1SeqEntrySet"), (1, .class_ 55), (0, u "java/lang/Object"), (0, .class_ 57), (0, u "java/util/Map")] 48

/-- java/util/SequencedMap -/
def k9 : Class := { plain "java/util/SequencedMap" (some 0) with
  accessFlags := 1537
  interfaces := #[4]
  cf := some (fileOf pool9 2 #[.nestMembers #[51, 48, 43]] #[] 1537 54 #[56] #[])
  fields := #[]
  methods := #[]
  instanceTypes := #[]
  staticTypes := #[]
  resolved := Array.replicate 106 none
  statics := none }

def pool10 : Array CpInfo := pool [(1, .fieldref 2 3), (0, .class_ 4), (0, .nameAndType 5 6), (0, u "java/util/LinkedHashMap"), (0, u "putMode"), (0, u "I"), (2, u "head"), (0, u "Ljava/util/LinkedHashMap$Entry;"), (2, u "tail"), (1, .class_ 17), (1, u "java/util/LinkedHashMap$Entry"), (5, .class_ 25), (1, u "java/util/HashMap"), (1, u "()V"), (2, u "<init>"), (33, .fieldref 2 65), (0, .nameAndType 66 67), (0, u "accessOrder"), (0, u "Z"), (19, .methodref 23 88), (0, .nameAndType 30 27), (32, .class_ 122), (0, u "java/util/LinkedHashMap$LinkedKeySet"), (20, .class_ 144), (0, u "java/util/LinkedHashMap$LinkedValues"), (9, .class_ 155), (0, u "java/util/LinkedHashMap$LinkedEntrySet"), (44, .class_ 201), (0, u "java/util/LinkedHashMap$ReversedLinkedHashMapView"), (3, .class_ 206), (0, u "java/util/SequencedMap"), (0, u "serialVersionUID"), (0, u "J"), (5, u "PUT_NORM"), (1, u "PUT_FIRST"), (1, u "PUT_LAST"), (143, .class_ 363), (0, u "java/util/LinkedHashMap$LinkedEntryIterator"), (0, .class_ 365), (0, u "java/util/LinkedHashMap$LinkedValueIterator"), (0, .class_ 367), (0, u "java/util/LinkedHashMap$LinkedKeyIterator"), (0, .class_ 369), (0, u "java/util/LinkedHashMap$LinkedHashIterator")] 16

def k10c0 : Code := { maxStack := 2, maxLocals := 1, code := jdk_94_method_16_code, exceptionTable := #[], attributes := #[] }
def k10m0 : Method := { name := "<init>", desc := "()V", sig := { parameters := [], returnType := none }, accessFlags := 1, code := some k10c0 }
/-- java/util/LinkedHashMap -/
def k10 : Class := { plain "java/util/LinkedHashMap" (some 8) with
  accessFlags := 33
  interfaces := #[9]
  cf := some (fileOf pool10 2 #[.nestMembers #[200, 362, 364, 366, 368, 154, 143, 121, 15]] #[{ accessFlags := 1, nameIndex := 30, descriptorIndex := 27, attributes := #[] }] 33 23 #[205] #[{ accessFlags := 26, nameIndex := 207, descriptorIndex := 208, attributes := #[] }, { accessFlags := 128, nameIndex := 9, descriptorIndex := 10, attributes := #[] }, { accessFlags := 128, nameIndex := 13, descriptorIndex := 10, attributes := #[] }, { accessFlags := 16, nameIndex := 66, descriptorIndex := 67, attributes := #[] }, { accessFlags := 24, nameIndex := 214, descriptorIndex := 6, attributes := #[] }, { accessFlags := 24, nameIndex := 216, descriptorIndex := 6, attributes := #[] }, { accessFlags := 24, nameIndex := 218, descriptorIndex := 6, attributes := #[] }, { accessFlags := 128, nameIndex := 5, descriptorIndex := 6, attributes := #[] }])
  fields := #[{ name := "serialVersionUID", type := .long, accessFlags := 26, slot := 0, constantValue := 0 }, { name := "head", type := (.object "java/util/LinkedHashMap$Entry"), accessFlags := 128, slot := 8, constantValue := 0 }, { name := "tail", type := (.object "java/util/LinkedHashMap$Entry"), accessFlags := 128, slot := 9, constantValue := 0 }, { name := "accessOrder", type := .boolean, accessFlags := 16, slot := 10, constantValue := 0 }, { name := "PUT_NORM", type := .int, accessFlags := 24, slot := 1, constantValue := 0 }, { name := "PUT_FIRST", type := .int, accessFlags := 24, slot := 2, constantValue := 0 }, { name := "PUT_LAST", type := .int, accessFlags := 24, slot := 3, constantValue := 0 }, { name := "putMode", type := .int, accessFlags := 128, slot := 11, constantValue := 0 }]
  methods := #[k10m0]
  instanceTypes := #[(.object "java/util/Set"), (.object "java/util/Collection"), (.array (.object "java/util/HashMap$Node")), (.object "java/util/Set"), .int, .int, .int, .float, (.object "java/util/LinkedHashMap$Entry"), (.object "java/util/LinkedHashMap$Entry"), .boolean, .int]
  staticTypes := #[.long, .int, .int, .int]
  resolved := Array.replicate 386 none
  statics := none }

def pool11 : Array CpInfo := pool [(8, .class_ 10), (1, u "java/lang/Iterable"), (24, .class_ 36), (0, u "java/lang/Object")] 25

/-- java/lang/Iterable -/
def k11 : Class := { plain "java/lang/Iterable" (some 0) with
  accessFlags := 1537
  interfaces := #[]
  cf := some (fileOf pool11 8 #[] #[] 1537 35 #[] #[])
  fields := #[]
  methods := #[]
  instanceTypes := #[]
  staticTypes := #[]
  resolved := Array.replicate 62 none
  statics := none }

def pool12 : Array CpInfo := pool [(10, .class_ 12), (1, u "java/util/Collection"), (47, .class_ 61), (0, u "java/lang/Object"), (0, .class_ 63), (0, u "java/lang/Iterable")] 51

/-- java/util/Collection -/
def k12 : Class := { plain "java/util/Collection" (some 0) with
  accessFlags := 1537
  interfaces := #[11]
  cf := some (fileOf pool12 10 #[] #[] 1537 60 #[62] #[])
  fields := #[]
  methods := #[]
  instanceTypes := #[]
  staticTypes := #[]
  resolved := Array.replicate 115 none
  statics := none }

def pool13 : Array CpInfo := pool [(1, .methodref 2 3), (0, .class_ 4), (0, .nameAndType 5 6), (0, u "java/lang/Object"), (0, u "<init>"), (0, u "()V"), (1, .class_ 10), (1, u "java/util/AbstractCollection"), (66, .class_ 78), (0, u "java/util/Collection")] 81

def k13c0 : Code := { maxStack := 1, maxLocals := 1, code := jdk_22_method_1_code, exceptionTable := #[], attributes := #[] }
def k13m0 : Method := { name := "<init>", desc := "()V", sig := { parameters := [], returnType := none }, accessFlags := 4, code := some k13c0 }
/-- java/util/AbstractCollection -/
def k13 : Class := { plain "java/util/AbstractCollection" (some 0) with
  accessFlags := 1057
  interfaces := #[12]
  cf := some (fileOf pool13 8 #[] #[{ accessFlags := 4, nameIndex := 5, descriptorIndex := 6, attributes := #[] }] 1057 2 #[77] #[])
  fields := #[]
  methods := #[k13m0]
  instanceTypes := #[]
  staticTypes := #[]
  resolved := Array.replicate 160 none
  statics := none }

def pool14 : Array CpInfo := pool [(8, .class_ 10), (1, u "java/util/SequencedCollection"), (15, .class_ 27), (0, u "java/lang/Object"), (0, .class_ 29), (0, u "java/util/Collection")] 27

/-- java/util/SequencedCollection -/
def k14 : Class := { plain "java/util/SequencedCollection" (some 0) with
  accessFlags := 1537
  interfaces := #[12]
  cf := some (fileOf pool14 8 #[] #[] 1537 26 #[28] #[])
  fields := #[]
  methods := #[]
  instanceTypes := #[]
  staticTypes := #[]
  resolved := Array.replicate 57 none
  statics := none }

def pool15 : Array CpInfo := pool [(8, .class_ 10), (1, u "java/util/List"), (49, u "add"), (3, u "(Ljava/lang/Object;)Z"), (11, u "(I)Ljava/lang/Object;"), (2, u "size"), (0, u "()I"), (2, u "remove"), (19, .class_ 104), (0, u "java/lang/Object"), (15, .class_ 121), (0, u "java/util/SequencedCollection")] 129

def k15m0 : Method := { name := "size", desc := "()I", sig := { parameters := [], returnType := some .int }, accessFlags := 1025, code := none }
def k15m1 : Method := { name := "add", desc := "(Ljava/lang/Object;)Z", sig := { parameters := [(.object "java/lang/Object")], returnType := some .boolean }, accessFlags := 1025, code := none }
def k15m2 : Method := { name := "remove", desc := "(I)Ljava/lang/Object;", sig := { parameters := [.int], returnType := some (.object "java/lang/Object") }, accessFlags := 1025, code := none }
/-- java/util/List -/
def k15 : Class := { plain "java/util/List" (some 0) with
  accessFlags := 1537
  interfaces := #[14]
  cf := some (fileOf pool15 8 #[] #[{ accessFlags := 1025, nameIndex := 79, descriptorIndex := 80, attributes := #[] }, { accessFlags := 1025, nameIndex := 60, descriptorIndex := 64, attributes := #[] }, { accessFlags := 1025, nameIndex := 83, descriptorIndex := 76, attributes := #[] }] 1537 103 #[120] #[])
  fields := #[]
  methods := #[k15m0, k15m1, k15m2]
  instanceTypes := #[]
  staticTypes := #[]
  resolved := Array.replicate 251 none
  statics := none }

def pool16 : Array CpInfo := pool [(1, .methodref 2 3), (0, .class_ 4), (0, .nameAndType 5 6), (0, u "java/util/AbstractCollection"), (0, u "<init>"), (0, u "()V"), (0, .fieldref 8 9), (0, .class_ 10), (0, .nameAndType 11 12), (0, u "java/util/AbstractList"), (0, u "modCount"), (0, u "I"), (64, .class_ 78), (0, u "java/util/AbstractList$Itr"), (3, .class_ 83), (0, u "java/util/AbstractList$ListItr"), (9, .class_ 94), (0, u "java/util/AbstractList$RandomAccessSubList"), (3, .class_ 99), (0, u "java/util/AbstractList$SubList"), (33, .class_ 134), (0, u "java/util/List"), (73, .class_ 209), (0, u "java/util/AbstractList$SubList$1"), (0, .class_ 211), (0, u "java/util/AbstractList$RandomAccessSpliterator")] 6

def k16c0 : Code := { maxStack := 2, maxLocals := 1, code := jdk_39_method_1_code, exceptionTable := #[], attributes := #[] }
def k16m0 : Method := { name := "<init>", desc := "()V", sig := { parameters := [], returnType := none }, accessFlags := 4, code := some k16c0 }
/-- java/util/AbstractList -/
def k16 : Class := { plain "java/util/AbstractList" (some 13) with
  accessFlags := 1057
  interfaces := #[15]
  cf := some (fileOf pool16 8 #[.nestMembers #[93, 98, 208, 210, 82, 77]] #[{ accessFlags := 4, nameIndex := 5, descriptorIndex := 6, attributes := #[] }] 1057 2 #[133] #[{ accessFlags := 132, nameIndex := 11, descriptorIndex := 12, attributes := #[] }])
  fields := #[{ name := "modCount", type := .int, accessFlags := 132, slot := 0, constantValue := 0 }]
  methods := #[k16m0]
  instanceTypes := #[.int]
  staticTypes := #[]
  resolved := Array.replicate 218 none
  statics := none }

def pool17 : Array CpInfo := pool [(1, .class_ 2), (0, u "java/util/RandomAccess"), (0, .class_ 4), (0, u "java/lang/Object")] 2

/-- java/util/RandomAccess -/
def k17 : Class := { plain "java/util/RandomAccess" (some 0) with
  accessFlags := 1537
  interfaces := #[]
  cf := some (fileOf pool17 1 #[] #[] 1537 3 #[] #[])
  fields := #[]
  methods := #[]
  instanceTypes := #[]
  staticTypes := #[]
  resolved := Array.replicate 7 none
  statics := none }

def pool18 : Array CpInfo := pool [(1, .methodref 2 3), (0, .class_ 4), (0, .nameAndType 5 6), (0, u "java/util/AbstractList"), (0, u "<init>"), (0, u "()V"), (0, .class_ 8), (0, u "java/lang/Object"), (0, .fieldref 10 11), (0, .class_ 12), (0, .nameAndType 13 14), (0, u "java/util/ArrayList"), (0, u "elementData"), (0, u "[Ljava/lang/Object;"), (2, u "EMPTY_ELEMENTDATA"), (21, .fieldref 10 40), (0, .nameAndType 41 14), (0, u "DEFAULTCAPACITY_EMPTY_ELEMENTDATA"), (5, u "()[Ljava/lang/Object;"), (0, .fieldref 10 49), (0, .nameAndType 50 51), (0, u "size"), (0, u "I"), (11, .fieldref 10 64), (0, .nameAndType 65 51), (0, u "modCount"), (3, .methodref 10 70), (0, .nameAndType 71 72), (0, u "grow"), (0, u "(I)[Ljava/lang/Object;"), (6, .methodref 80 81), (0, .class_ 82), (0, .nameAndType 83 84), (0, u "java/lang/Math"), (0, u "max"), (0, u "(II)I"), (11, u "(Ljava/lang/Object;)Z"), (21, .methodref 119 120), (0, .class_ 121), (0, .nameAndType 122 84), (0, u "java/util/Objects"), (0, u "checkIndex"), (2, u "(I)Ljava/lang/Object;"), (3, .methodref 10 130), (0, .nameAndType 71 47), (0, .methodref 10 132), (0, .nameAndType 133 134), (0, u "add"), (0, u "(Ljava/lang/Object;[Ljava/lang/Object;I)V"), (9, .methodref 10 145), (0, .nameAndType 146 147), (0, u "fastRemove"), (0, u "([Ljava/lang/Object;I)V"), (0, .class_ 149), (0, u "java/util/List"), (36, u "()I"), (75, .class_ 263), (0, u "java/util/ArrayList$ListItr"), (3, .class_ 268), (0, u "java/util/ArrayList$Itr"), (7, .class_ 277), (0, u "java/util/ArrayList$SubList"), (12, .class_ 291), (0, u "java/util/ArrayList$ArrayListSpliterator"), (37, .class_ 330), (0, u "java/util/RandomAccess"), (0, .class_ 332), (0, u "java/lang/Cloneable"), (0, .class_ 334), (0, u "java/io/Serializable"), (0, u "serialVersionUID"), (0, u "J"), (3, u "DEFAULT_CAPACITY"), (58, u "remove"), (100, .class_ 501), (0, u "java/util/ArrayList$SubList$2"), (0, .class_ 503), (0, u "java/util/ArrayList$SubList$1")] 5

def k18c0 : Code := { maxStack := 2, maxLocals := 1, code := jdk_38_method_2_code, exceptionTable := #[], attributes := #[] }
def k18m0 : Method := { name := "<init>", desc := "()V", sig := { parameters := [], returnType := none }, accessFlags := 1, code := some k18c0 }
def k18c1 : Code := { maxStack := 4, maxLocals := 4, code := jdk_38_method_6_code, exceptionTable := #[], attributes := #[] }
def k18m1 : Method := { name := "grow", desc := "(I)[Ljava/lang/Object;", sig := { parameters := [.int], returnType := some (.array (.object "java/lang/Object")) }, accessFlags := 2, code := some k18c1 }
def k18c2 : Code := { maxStack := 3, maxLocals := 1, code := jdk_38_method_7_code, exceptionTable := #[], attributes := #[] }
def k18m2 : Method := { name := "grow", desc := "()[Ljava/lang/Object;", sig := { parameters := [], returnType := some (.array (.object "java/lang/Object")) }, accessFlags := 2, code := some k18c2 }
def k18c3 : Code := { maxStack := 1, maxLocals := 1, code := jdk_38_method_8_code, exceptionTable := #[], attributes := #[] }
def k18m3 : Method := { name := "size", desc := "()I", sig := { parameters := [], returnType := some .int }, accessFlags := 1, code := some k18c3 }
def k18c4 : Code := { maxStack := 3, maxLocals := 4, code := jdk_38_method_24_code, exceptionTable := #[], attributes := #[] }
def k18m4 : Method := { name := "add", desc := "(Ljava/lang/Object;[Ljava/lang/Object;I)V", sig := { parameters := [(.object "java/lang/Object"), (.array (.object "java/lang/Object")), .int], returnType := none }, accessFlags := 2, code := some k18c4 }
def k18c5 : Code := { maxStack := 4, maxLocals := 2, code := jdk_38_method_25_code, exceptionTable := #[], attributes := #[] }
def k18m5 : Method := { name := "add", desc := "(Ljava/lang/Object;)Z", sig := { parameters := [(.object "java/lang/Object")], returnType := some .boolean }, accessFlags := 1, code := some k18c5 }
def k18c6 : Code := { maxStack := 3, maxLocals := 4, code := jdk_38_method_29_code, exceptionTable := #[], attributes := #[] }
def k18m6 : Method := { name := "remove", desc := "(I)Ljava/lang/Object;", sig := { parameters := [.int], returnType := some (.object "java/lang/Object") }, accessFlags := 1, code := some k18c6 }
def k18c7 : Code := { maxStack := 6, maxLocals := 4, code := jdk_38_method_39_code, exceptionTable := #[], attributes := #[] }
def k18m7 : Method := { name := "fastRemove", desc := "([Ljava/lang/Object;I)V", sig := { parameters := [(.array (.object "java/lang/Object")), .int], returnType := none }, accessFlags := 2, code := some k18c7 }
/-- java/util/ArrayList -/
def k18 : Class := { plain "java/util/ArrayList" (some 16) with
  accessFlags := 33
  interfaces := #[15, 17, 6, 7]
  cf := some (fileOf pool18 10 #[.nestMembers #[290, 276, 500, 502, 262, 267]] #[{ accessFlags := 1, nameIndex := 5, descriptorIndex := 6, attributes := #[] }, { accessFlags := 2, nameIndex := 71, descriptorIndex := 72, attributes := #[] }, { accessFlags := 2, nameIndex := 71, descriptorIndex := 47, attributes := #[] }, { accessFlags := 1, nameIndex := 50, descriptorIndex := 186, attributes := #[] }, { accessFlags := 2, nameIndex := 133, descriptorIndex := 134, attributes := #[] }, { accessFlags := 1, nameIndex := 133, descriptorIndex := 96, attributes := #[] }, { accessFlags := 1, nameIndex := 399, descriptorIndex := 125, attributes := #[] }, { accessFlags := 2, nameIndex := 146, descriptorIndex := 147, attributes := #[] }] 33 2 #[148, 329, 331, 333] #[{ accessFlags := 26, nameIndex := 335, descriptorIndex := 336, attributes := #[] }, { accessFlags := 26, nameIndex := 340, descriptorIndex := 51, attributes := #[] }, { accessFlags := 26, nameIndex := 17, descriptorIndex := 14, attributes := #[] }, { accessFlags := 26, nameIndex := 41, descriptorIndex := 14, attributes := #[] }, { accessFlags := 128, nameIndex := 13, descriptorIndex := 14, attributes := #[] }, { accessFlags := 2, nameIndex := 50, descriptorIndex := 51, attributes := #[] }])
  fields := #[{ name := "serialVersionUID", type := .long, accessFlags := 26, slot := 0, constantValue := 0 }, { name := "DEFAULT_CAPACITY", type := .int, accessFlags := 26, slot := 1, constantValue := 0 }, { name := "EMPTY_ELEMENTDATA", type := (.array (.object "java/lang/Object")), accessFlags := 26, slot := 2, constantValue := 0 }, { name := "DEFAULTCAPACITY_EMPTY_ELEMENTDATA", type := (.array (.object "java/lang/Object")), accessFlags := 26, slot := 3, constantValue := 0 }, { name := "elementData", type := (.array (.object "java/lang/Object")), accessFlags := 128, slot := 1, constantValue := 0 }, { name := "size", type := .int, accessFlags := 2, slot := 2, constantValue := 0 }]
  methods := #[k18m0, k18m1, k18m2, k18m3, k18m4, k18m5, k18m6, k18m7]
  instanceTypes := #[.int, (.array (.object "java/lang/Object")), .int]
  staticTypes := #[.long, .int, (.array (.object "java/lang/Object")), (.array (.object "java/lang/Object"))]
  resolved := Array.replicate 509 none
  statics := some 0 }

def pool19 : Array CpInfo := pool [(1, .methodref 2 3), (0, .class_ 4), (0, .nameAndType 5 6), (0, u "java/lang/Object"), (0, u "<init>"), (0, u "()V"), (0, .class_ 8), (0, u "java/lang/Record")] 13

def k19c0 : Code := { maxStack := 1, maxLocals := 1, code := jdk_30_method_1_code, exceptionTable := #[], attributes := #[] }
def k19m0 : Method := { name := "<init>", desc := "()V", sig := { parameters := [], returnType := none }, accessFlags := 4, code := some k19c0 }
/-- java/lang/Record -/
def k19 : Class := { plain "java/lang/Record" (some 0) with
  accessFlags := 1057
  interfaces := #[]
  cf := some (fileOf pool19 7 #[] #[{ accessFlags := 4, nameIndex := 5, descriptorIndex := 6, attributes := #[] }] 1057 2 #[] #[])
  fields := #[]
  methods := #[k19m0]
  instanceTypes := #[]
  staticTypes := #[]
  resolved := Array.replicate 22 none
  statics := none }

def pool20 : Array CpInfo := pool [(1, .methodref 2 3), (0, .class_ 4), (0, .nameAndType 5 6), (0, u "java/lang/Record"), (0, u "<init>"), (0, u "()V"), (0, .fieldref 8 9), (0, .class_ 10), (0, .nameAndType 11 12), (0, u "com/example/tenon/tenon/Assignments$Changed"), (0, u "name"), (0, u "Ljava/lang/String;"), (0, .fieldref 8 14), (0, .nameAndType 15 16), (0, u "replaced"), (0, u "Lcom/example/tenon/tenon/Assignments$Assigned;"), (12, u "(Ljava/lang/String;Lcom/example/tenon/tenon/Assignments$Assigned;)V"), (3, u "()Ljava/lang/String;"), (6, .class_ 41), (0, u "com/example/tenon/tenon/Assignments")] 23

def k20c0 : Code := { maxStack := 2, maxLocals := 3, code := prog_6_method_1_code, exceptionTable := #[], attributes := #[] }
def k20m0 : Method := { name := "<init>", desc := "(Ljava/lang/String;Lcom/example/tenon/tenon/Assignments$Assigned;)V", sig := { parameters := [(.object "java/lang/String"), (.object "com/example/tenon/tenon/Assignments$Assigned")], returnType := none }, accessFlags := 2, code := some k20c0 }
def k20c1 : Code := { maxStack := 1, maxLocals := 1, code := prog_6_method_5_code, exceptionTable := #[], attributes := #[] }
def k20m1 : Method := { name := "name", desc := "()Ljava/lang/String;", sig := { parameters := [], returnType := some (.object "java/lang/String") }, accessFlags := 1, code := some k20c1 }
/-- com/example/tenon/tenon/Assignments$Changed -/
def k20 : Class := { plain "com/example/tenon/tenon/Assignments$Changed" (some 19) with
  accessFlags := 48
  interfaces := #[]
  cf := some (fileOf pool20 8 #[.nestHost 40] #[{ accessFlags := 2, nameIndex := 5, descriptorIndex := 29, attributes := #[] }, { accessFlags := 1, nameIndex := 11, descriptorIndex := 33, attributes := #[] }] 48 2 #[] #[{ accessFlags := 18, nameIndex := 11, descriptorIndex := 12, attributes := #[] }, { accessFlags := 18, nameIndex := 15, descriptorIndex := 16, attributes := #[] }])
  fields := #[{ name := "name", type := (.object "java/lang/String"), accessFlags := 18, slot := 0, constantValue := 0 }, { name := "replaced", type := (.object "com/example/tenon/tenon/Assignments$Assigned"), accessFlags := 18, slot := 1, constantValue := 0 }]
  methods := #[k20m0, k20m1]
  instanceTypes := #[(.object "java/lang/String"), (.object "com/example/tenon/tenon/Assignments$Assigned")]
  staticTypes := #[]
  resolved := Array.replicate 65 none
  statics := none }

def pool21 : Array CpInfo := pool [(1, .class_ 2), (0, u "java/lang/Math"), (1, .class_ 6), (1, u "java/lang/Object"), (0, u "<init>"), (0, u "()V"), (89, .class_ 100), (1, u "java/lang/Math$RandomNumberGeneratorHolder"), (71, u "negativeZeroFloatBits"), (0, u "J"), (2, u "negativeZeroDoubleBits"), (21, u "max"), (46, u "$assertionsDisabled"), (0, u "Z"), (88, u "(II)I"), (2, u "twoToTheDoubleScaleDown"), (0, u "D"), (4, u "twoToTheDoubleScaleUp"), (9, u "E"), (3, u "PI"), (2, u "TAU"), (2, u "DEGREES_TO_RADIANS"), (0, u "RADIANS_TO_DEGREES")] 94

def k21m0 : Method := { name := "<init>", desc := "()V", sig := { parameters := [], returnType := none }, accessFlags := 2, code := none }
def k21c1 : Code := { maxStack := 2, maxLocals := 2, code := jdk_29_method_65_code, exceptionTable := #[], attributes := #[] }
def k21m1 : Method := { name := "max", desc := "(II)I", sig := { parameters := [.int, .int], returnType := some .int }, accessFlags := 9, code := some k21c1 }
/-- java/lang/Math -/
def k21 : Class := { plain "java/lang/Math" (some 0) with
  accessFlags := 49
  interfaces := #[]
  cf := some (fileOf pool21 1 #[.nestMembers #[98]] #[{ accessFlags := 2, nameIndex := 7, descriptorIndex := 8, attributes := #[] }, { accessFlags := 9, nameIndex := 198, descriptorIndex := 335, attributes := #[] }] 49 4 #[] #[{ accessFlags := 25, nameIndex := 354, descriptorIndex := 339, attributes := #[] }, { accessFlags := 25, nameIndex := 358, descriptorIndex := 339, attributes := #[] }, { accessFlags := 25, nameIndex := 361, descriptorIndex := 339, attributes := #[] }, { accessFlags := 26, nameIndex := 364, descriptorIndex := 339, attributes := #[] }, { accessFlags := 26, nameIndex := 365, descriptorIndex := 339, attributes := #[] }, { accessFlags := 26, nameIndex := 172, descriptorIndex := 173, attributes := #[] }, { accessFlags := 26, nameIndex := 176, descriptorIndex := 173, attributes := #[] }, { accessFlags := 8, nameIndex := 344, descriptorIndex := 339, attributes := #[] }, { accessFlags := 8, nameIndex := 338, descriptorIndex := 339, attributes := #[] }, { accessFlags := 4120, nameIndex := 245, descriptorIndex := 246, attributes := #[] }])
  fields := #[{ name := "E", type := .double, accessFlags := 25, slot := 0, constantValue := 0 }, { name := "PI", type := .double, accessFlags := 25, slot := 1, constantValue := 0 }, { name := "TAU", type := .double, accessFlags := 25, slot := 2, constantValue := 0 }, { name := "DEGREES_TO_RADIANS", type := .double, accessFlags := 26, slot := 3, constantValue := 0 }, { name := "RADIANS_TO_DEGREES", type := .double, accessFlags := 26, slot := 4, constantValue := 0 }, { name := "negativeZeroFloatBits", type := .long, accessFlags := 26, slot := 5, constantValue := 0 }, { name := "negativeZeroDoubleBits", type := .long, accessFlags := 26, slot := 6, constantValue := 0 }, { name := "twoToTheDoubleScaleUp", type := .double, accessFlags := 8, slot := 7, constantValue := 0 }, { name := "twoToTheDoubleScaleDown", type := .double, accessFlags := 8, slot := 8, constantValue := 0 }, { name := "$assertionsDisabled", type := .boolean, accessFlags := 4120, slot := 9, constantValue := 0 }]
  methods := #[k21m0, k21m1]
  instanceTypes := #[]
  staticTypes := #[.double, .double, .double, .double, .double, .long, .long, .double, .double, .boolean]
  resolved := Array.replicate 460 none
  statics := none }

def pool22 : Array CpInfo := pool [(2, .class_ 4), (1, u "java/lang/Object"), (0, u "<init>"), (0, u "()V"), (35, .class_ 44), (1, u "java/util/Objects"), (60, .methodref 106 107), (0, .class_ 108), (0, .nameAndType 109 110), (0, u "jdk/internal/util/Preconditions"), (0, u "checkIndex"), (0, u "(IILjava/util/function/BiFunction;)I"), (60, u "(II)I")] 12

def k22m0 : Method := { name := "<init>", desc := "()V", sig := { parameters := [], returnType := none }, accessFlags := 2, code := none }
def k22c1 : Code := { maxStack := 3, maxLocals := 2, code := jdk_31_method_17_code, exceptionTable := #[], attributes := #[] }
def k22m1 : Method := { name := "checkIndex", desc := "(II)I", sig := { parameters := [.int, .int], returnType := some .int }, accessFlags := 9, code := some k22c1 }
/-- java/util/Objects -/
def k22 : Class := { plain "java/util/Objects" (some 0) with
  accessFlags := 49
  interfaces := #[]
  cf := some (fileOf pool22 42 #[] #[{ accessFlags := 2, nameIndex := 5, descriptorIndex := 6, attributes := #[] }, { accessFlags := 9, nameIndex := 109, descriptorIndex := 171, attributes := #[] }] 49 2 #[] #[])
  fields := #[]
  methods := #[k22m0, k22m1]
  instanceTypes := #[]
  staticTypes := #[]
  resolved := Array.replicate 184 none
  statics := none }

def pool23 : Array CpInfo := pool [(2, .class_ 4), (1, u "java/lang/Object"), (0, u "<init>"), (0, u "()V"), (17, .class_ 26), (1, u "jdk/internal/util/Preconditions"), (6, u "checkIndex"), (21, .class_ 56), (0, u "jdk/internal/util/Preconditions$4"), (57, .class_ 115), (0, u "jdk/internal/util/Preconditions$1"), (7, u "SIOOBE_FORMATTER"), (0, u "Ljava/util/function/BiFunction;"), (0, .class_ 126), (0, u "jdk/internal/util/Preconditions$2"), (3, u "AIOOBE_FORMATTER"), (0, .class_ 132), (0, u "jdk/internal/util/Preconditions$3"), (3, u "IOOBE_FORMATTER"), (41, u "(IILjava/util/function/BiFunction;)I")] 15

def k23m0 : Method := { name := "<init>", desc := "()V", sig := { parameters := [], returnType := none }, accessFlags := 1, code := none }
def k23c1 : Code := { maxStack := 3, maxLocals := 3, code := jdk_41_method_11_code, exceptionTable := #[], attributes := #[] }
def k23m1 : Method := { name := "checkIndex", desc := "(IILjava/util/function/BiFunction;)I", sig := { parameters := [.int, .int, (.object "java/util/function/BiFunction")], returnType := some .int }, accessFlags := 9, code := some k23c1 }
/-- jdk/internal/util/Preconditions -/
def k23 : Class := { plain "jdk/internal/util/Preconditions" (some 0) with
  accessFlags := 33
  interfaces := #[]
  cf := some (fileOf pool23 24 #[.nestMembers #[55, 131, 125, 114]] #[{ accessFlags := 1, nameIndex := 5, descriptorIndex := 6, attributes := #[] }, { accessFlags := 9, nameIndex := 33, descriptorIndex := 178, attributes := #[] }] 33 2 #[] #[{ accessFlags := 25, nameIndex := 123, descriptorIndex := 124, attributes := #[] }, { accessFlags := 25, nameIndex := 130, descriptorIndex := 124, attributes := #[] }, { accessFlags := 25, nameIndex := 136, descriptorIndex := 124, attributes := #[] }])
  fields := #[{ name := "SIOOBE_FORMATTER", type := (.object "java/util/function/BiFunction"), accessFlags := 25, slot := 0, constantValue := 0 }, { name := "AIOOBE_FORMATTER", type := (.object "java/util/function/BiFunction"), accessFlags := 25, slot := 1, constantValue := 0 }, { name := "IOOBE_FORMATTER", type := (.object "java/util/function/BiFunction"), accessFlags := 25, slot := 2, constantValue := 0 }]
  methods := #[k23m0, k23m1]
  instanceTypes := #[]
  staticTypes := #[(.object "java/util/function/BiFunction"), (.object "java/util/function/BiFunction"), (.object "java/util/function/BiFunction")]
  resolved := Array.replicate 194 none
  statics := none }

/-- the primitive byte -/
def k24 : Class := { plain "byte" none with kind := .primitive 'B', accessFlags := 0x411 }
/-- [B -/
def k25 : Class := { plain "[B" (some 0) with kind := .array 24 .byte, interfaces := #[6, 7], accessFlags := 1041 }

/-- the primitive int -/
def k26 : Class := { plain "int" none with kind := .primitive 'I', accessFlags := 0x411 }
/-- [I -/
def k27 : Class := { plain "[I" (some 0) with kind := .array 26 .int, interfaces := #[6, 7], accessFlags := 1041 }

/-- [Ljava/lang/Object; -/
def k28 : Class := { plain "[Ljava/lang/Object;" (some 0) with kind := .array 0 (.object "java/lang/Object"), interfaces := #[6, 7], accessFlags := 1041 }

def heap : Heap := #[{ cls := 18, slots := #[.long 0, .int 0, .ref 1, .ref 2], vm := .statics 18 },
  { cls := 28, slots := #[], vm := .none },
  { cls := 28, slots := #[], vm := .none }]
def classes : Array Class := #[k0, k1, k2, k3, k4, k5, k6, k7, k8, k9, k10, k11, k12, k13, k14, k15, k16, k17, k18, k19, k20, k21, k22, k23, k24, k25, k26, k27, k28]
def interned : List (Array UInt16 × Addr) := []
def slotsUsed : Nat := 4
def theMethod : MethodId := ⟨1, 1⟩
def args0 : Array Value := #[.int 7]
def aboutOver (below : List Frame) : State where
  vm := { classes := classes, interned := interned.toArray }
  heap := heap
  slotsUsed := slotsUsed
  threads := #[{ frames := .invoking theMethod args0 :: below }]
def below0 : List Frame := [.native { method := ⟨0, 0⟩, args := #[] }]
def about1 : State := aboutOver below0
def p0 : Program := .bare "" "" ""
def e0 : Env := launch0.env 0 0 0
theorem w_frames : about1.frames = Frame.invoking theMethod args0 :: below0 := rfl
set_option maxRecDepth 65536 in
theorem w_args : argsFit about1.vm theMethod args0 = true := by decide +kernel
set_option maxRecDepth 65536 in
theorem w_heap : heapFits about1 = true := by decide +kernel
set_option maxRecDepth 65536 in
theorem w_runnable : about1.curStatus? = some .runnable := by decide +kernel
set_option maxRecDepth 65536 in
theorem w_alone : about1.alone = true := by decide +kernel
set_option maxRecDepth 65536 in
theorem w_named : about1.methodNamed? x = some theMethod := by decide +kernel
set_option maxRecDepth 65536 in
theorem w_hears : about1.hears theMethod below0 = true := by decide +kernel
set_option maxRecDepth 65536 in
theorem w_ripe : about1.ripe theMethod args0 below0 = true := by decide +kernel
theorem w_running : about1.status = .running := rfl
set_option maxRecDepth 65536 in
theorem w_room : about1.hasRoom e0.platform room_1 = true :=
  launch0.hasRoom_least _ room_1 (by decide +kernel) (by decide +kernel) (by decide +kernel) (by decide +kernel) (by decide +kernel) (by decide +kernel)
theorem allAtoms_all (ts : List Jvm.Cond) (a : Array Jvm.Value) (st : Jvm.State) : (allAtoms ts).before a st = ts.all (fun c => c.before a st) := by
  induction ts with
  | nil => rfl
  | cons c t ih =>
    show (Jvm.Cond.and c (allAtoms t)).before a st = _
    rw [Jvm.Cond.before_and, ih, List.all_cons]
def words1 : List Jvm.Cond := Jvm.Cond.code x code maxLocals ret :: tables_1
/-- a 'code' word, met by the world's own term for the bytes: nothing is compared byte by byte -/
theorem code_word {y : MethodName} {bytes : ByteArray} {mx : Nat} {rt : Option FieldType} {a : Array Value} {s : State} {m : MethodId} {meth : Method} {c : Code} (h1 : s.methodNamed? y = some m) (h2 : s.vm.method? m = some meth) (h3 : meth.code = some c) (h4 : c.code = bytes)
    (h5 : (c.maxLocals == mx && c.exceptionTable.isEmpty && decide (c.maxStack ≤ mostOperands) && decide (meth.sig.returnType = rt) && !meth.locks && decide (parseMethodDescriptor y.desc = some meth.sig)) = true) : (Jvm.Cond.code y bytes mx rt).before a s = true := by
  simp only [Bool.and_eq_true, beq_iff_eq, Bool.not_eq_true', decide_eq_true_eq] at h5
  obtain ⟨⟨⟨⟨⟨g1, g2⟩, g3⟩, g4⟩, g5⟩, g6⟩ := h5
  simp [Cond.before, Cond.holds, Cond.value, h1, h2, h3, h4, g1, g2, g3, g4, g5, g6]
def isCode : Jvm.Cond → Bool
  | .code _ _ _ _ => true
  | _ => false
theorem all_split {L : List Jvm.Cond} {P : Jvm.Cond → Bool} (h1 : L.all (fun c => isCode c || P c) = true) (h2 : ∀ c ∈ L.filter isCode, P c = true) : L.all P = true := by
  refine List.all_eq_true.mpr fun c hc => ?_
  have h := List.all_eq_true.mp h1 c hc
  rcases Bool.eq_false_or_eq_true (isCode c) with hi | hi
  · exact h2 c (List.mem_filter.mpr ⟨hc, hi⟩)
  · simpa [hi] using h
set_option maxRecDepth 65536 in
theorem w_c0 : (Jvm.Cond.code x code maxLocals ret).before args0 about1 = true := code_word (m := ⟨1, 1⟩) (meth := k1m1) (c := k1c1) (by decide +kernel) rfl rfl rfl (by decide +kernel)
set_option maxRecDepth 65536 in
theorem w_c1 : (Jvm.Cond.code ({ cls := "com/example/tenon/tenon/Budget", name := "unlimited", desc := "()Lcom/example/tenon/tenon/Budget;" } : Jvm.MethodName) prog_22_method_2_code (0 : Nat) (Option.some (Jvm.ClassFile.FieldType.object "com/example/tenon/tenon/Budget"))).before args0 about1 = true := code_word (m := ⟨2, 1⟩) (meth := k2m1) (c := k2c1) (by decide +kernel) rfl rfl rfl (by decide +kernel)
set_option maxRecDepth 65536 in
theorem w_c2 : (Jvm.Cond.code ({ cls := "com/example/tenon/tenon/Budget", name := "<init>", desc := "(J)V" } : Jvm.MethodName) prog_22_method_1_code (3 : Nat) (Option.none : Option Jvm.ClassFile.FieldType)).before args0 about1 = true := code_word (m := ⟨2, 0⟩) (meth := k2m0) (c := k2c0) (by decide +kernel) rfl rfl rfl (by decide +kernel)
set_option maxRecDepth 65536 in
theorem w_c3 : (Jvm.Cond.code ({ cls := "java/lang/Object", name := "<init>", desc := "()V" } : Jvm.MethodName) object_method_1_code (1 : Nat) (Option.none : Option Jvm.ClassFile.FieldType)).before args0 about1 = true := code_word (m := ⟨0, 0⟩) (meth := k0m0) (c := k0c0) (by decide +kernel) rfl rfl rfl (by decide +kernel)
set_option maxRecDepth 65536 in
theorem w_c4 : (Jvm.Cond.code ({ cls := "com/example/tenon/tenon/Assignments", name := "<init>", desc := "(Lcom/example/tenon/tenon/Budget;)V" } : Jvm.MethodName) prog_4_method_1_code (2 : Nat) (Option.none : Option Jvm.ClassFile.FieldType)).before args0 about1 = true := code_word (m := ⟨3, 0⟩) (meth := k3m0) (c := k3c0) (by decide +kernel) rfl rfl rfl (by decide +kernel)
set_option maxRecDepth 65536 in
theorem w_c5 : (Jvm.Cond.code ({ cls := "com/example/tenon/tenon/Assignments", name := "<init>", desc := "(Lcom/example/tenon/tenon/Budget;Lcom/example/tenon/tenon/Assignments;)V" } : Jvm.MethodName) prog_4_method_2_code (3 : Nat) (Option.none : Option Jvm.ClassFile.FieldType)).before args0 about1 = true := code_word (m := ⟨3, 1⟩) (meth := k3m1) (c := k3c1) (by decide +kernel) rfl rfl rfl (by decide +kernel)
set_option maxRecDepth 65536 in
theorem w_c6 : (Jvm.Cond.code ({ cls := "java/util/LinkedHashMap", name := "<init>", desc := "()V" } : Jvm.MethodName) jdk_94_method_16_code (1 : Nat) (Option.none : Option Jvm.ClassFile.FieldType)).before args0 about1 = true := code_word (m := ⟨10, 0⟩) (meth := k10m0) (c := k10c0) (by decide +kernel) rfl rfl rfl (by decide +kernel)
set_option maxRecDepth 65536 in
theorem w_c7 : (Jvm.Cond.code ({ cls := "java/util/HashMap", name := "<init>", desc := "()V" } : Jvm.MethodName) jdk_69_method_7_code (1 : Nat) (Option.none : Option Jvm.ClassFile.FieldType)).before args0 about1 = true := code_word (m := ⟨8, 0⟩) (meth := k8m0) (c := k8c0) (by decide +kernel) rfl rfl rfl (by decide +kernel)
set_option maxRecDepth 65536 in
theorem w_c8 : (Jvm.Cond.code ({ cls := "java/util/AbstractMap", name := "<init>", desc := "()V" } : Jvm.MethodName) jdk_71_method_1_code (1 : Nat) (Option.none : Option Jvm.ClassFile.FieldType)).before args0 about1 = true := code_word (m := ⟨5, 0⟩) (meth := k5m0) (c := k5c0) (by decide +kernel) rfl rfl rfl (by decide +kernel)
set_option maxRecDepth 65536 in
theorem w_c9 : (Jvm.Cond.code ({ cls := "java/util/ArrayList", name := "<init>", desc := "()V" } : Jvm.MethodName) jdk_38_method_2_code (1 : Nat) (Option.none : Option Jvm.ClassFile.FieldType)).before args0 about1 = true := code_word (m := ⟨18, 0⟩) (meth := k18m0) (c := k18c0) (by decide +kernel) rfl rfl rfl (by decide +kernel)
set_option maxRecDepth 65536 in
theorem w_c10 : (Jvm.Cond.code ({ cls := "java/util/AbstractList", name := "<init>", desc := "()V" } : Jvm.MethodName) jdk_39_method_1_code (1 : Nat) (Option.none : Option Jvm.ClassFile.FieldType)).before args0 about1 = true := code_word (m := ⟨16, 0⟩) (meth := k16m0) (c := k16c0) (by decide +kernel) rfl rfl rfl (by decide +kernel)
set_option maxRecDepth 65536 in
theorem w_c11 : (Jvm.Cond.code ({ cls := "java/util/AbstractCollection", name := "<init>", desc := "()V" } : Jvm.MethodName) jdk_22_method_1_code (1 : Nat) (Option.none : Option Jvm.ClassFile.FieldType)).before args0 about1 = true := code_word (m := ⟨13, 0⟩) (meth := k13m0) (c := k13c0) (by decide +kernel) rfl rfl rfl (by decide +kernel)
set_option maxRecDepth 65536 in
theorem w_c12 : (Jvm.Cond.code ({ cls := "com/example/tenon/tenon/Assignments", name := "isBlind", desc := "()Z" } : Jvm.MethodName) prog_4_method_8_code (1 : Nat) (Option.some Jvm.ClassFile.FieldType.boolean)).before args0 about1 = true := code_word (m := ⟨3, 6⟩) (meth := k3m6) (c := k3c6) (by decide +kernel) rfl rfl rfl (by decide +kernel)
set_option maxRecDepth 65536 in
theorem w_c13 : (Jvm.Cond.code ({ cls := "com/example/tenon/tenon/Assignments", name := "notKnown", desc := "()V" } : Jvm.MethodName) prog_4_method_4_code (1 : Nat) (Option.none : Option Jvm.ClassFile.FieldType)).before args0 about1 = true := code_word (m := ⟨3, 2⟩) (meth := k3m2) (c := k3c2) (by decide +kernel) rfl rfl rfl (by decide +kernel)
set_option maxRecDepth 65536 in
theorem w_c14 : (Jvm.Cond.code ({ cls := "com/example/tenon/tenon/Assignments", name := "mark", desc := "()I" } : Jvm.MethodName) prog_4_method_5_code (1 : Nat) (Option.some Jvm.ClassFile.FieldType.int)).before args0 about1 = true := code_word (m := ⟨3, 3⟩) (meth := k3m3) (c := k3c3) (by decide +kernel) rfl rfl rfl (by decide +kernel)
set_option maxRecDepth 65536 in
theorem w_c15 : (Jvm.Cond.code ({ cls := "java/util/ArrayList", name := "size", desc := "()I" } : Jvm.MethodName) jdk_38_method_8_code (1 : Nat) (Option.some Jvm.ClassFile.FieldType.int)).before args0 about1 = true := code_word (m := ⟨18, 3⟩) (meth := k18m3) (c := k18c3) (by decide +kernel) rfl rfl rfl (by decide +kernel)
set_option maxRecDepth 65536 in
theorem w_c16 : (Jvm.Cond.code ({ cls := "com/example/tenon/tenon/Budget", name := "take", desc := "(J)V" } : Jvm.MethodName) prog_22_method_4_code (3 : Nat) (Option.none : Option Jvm.ClassFile.FieldType)).before args0 about1 = true := code_word (m := ⟨2, 2⟩) (meth := k2m2) (c := k2c2) (by decide +kernel) rfl rfl rfl (by decide +kernel)
set_option maxRecDepth 65536 in
theorem w_c17 : (Jvm.Cond.code ({ cls := "com/example/tenon/tenon/Budget", name := "check", desc := "(J)V" } : Jvm.MethodName) prog_22_method_6_code (3 : Nat) (Option.none : Option Jvm.ClassFile.FieldType)).before args0 about1 = true := code_word (m := ⟨2, 4⟩) (meth := k2m4) (c := k2c4) (by decide +kernel) rfl rfl rfl (by decide +kernel)
set_option maxRecDepth 65536 in
theorem w_c18 : (Jvm.Cond.code ({ cls := "com/example/tenon/tenon/Assignments$Changed", name := "<init>", desc := "(Ljava/lang/String;Lcom/example/tenon/tenon/Assignments$Assigned;)V" } : Jvm.MethodName) prog_6_method_1_code (3 : Nat) (Option.none : Option Jvm.ClassFile.FieldType)).before args0 about1 = true := code_word (m := ⟨20, 0⟩) (meth := k20m0) (c := k20c0) (by decide +kernel) rfl rfl rfl (by decide +kernel)
set_option maxRecDepth 65536 in
theorem w_c19 : (Jvm.Cond.code ({ cls := "java/lang/Record", name := "<init>", desc := "()V" } : Jvm.MethodName) jdk_30_method_1_code (1 : Nat) (Option.none : Option Jvm.ClassFile.FieldType)).before args0 about1 = true := code_word (m := ⟨19, 0⟩) (meth := k19m0) (c := k19c0) (by decide +kernel) rfl rfl rfl (by decide +kernel)
set_option maxRecDepth 65536 in
theorem w_c20 : (Jvm.Cond.code ({ cls := "java/util/ArrayList", name := "add", desc := "(Ljava/lang/Object;)Z" } : Jvm.MethodName) jdk_38_method_25_code (2 : Nat) (Option.some Jvm.ClassFile.FieldType.boolean)).before args0 about1 = true := code_word (m := ⟨18, 5⟩) (meth := k18m5) (c := k18c5) (by decide +kernel) rfl rfl rfl (by decide +kernel)
set_option maxRecDepth 65536 in
theorem w_c21 : (Jvm.Cond.code ({ cls := "java/util/ArrayList", name := "add", desc := "(Ljava/lang/Object;[Ljava/lang/Object;I)V" } : Jvm.MethodName) jdk_38_method_24_code (4 : Nat) (Option.none : Option Jvm.ClassFile.FieldType)).before args0 about1 = true := code_word (m := ⟨18, 4⟩) (meth := k18m4) (c := k18c4) (by decide +kernel) rfl rfl rfl (by decide +kernel)
set_option maxRecDepth 65536 in
theorem w_c22 : (Jvm.Cond.code ({ cls := "java/util/ArrayList", name := "grow", desc := "()[Ljava/lang/Object;" } : Jvm.MethodName) jdk_38_method_7_code (1 : Nat) (Option.some (Jvm.ClassFile.FieldType.array (Jvm.ClassFile.FieldType.object "java/lang/Object")))).before args0 about1 = true := code_word (m := ⟨18, 2⟩) (meth := k18m2) (c := k18c2) (by decide +kernel) rfl rfl rfl (by decide +kernel)
set_option maxRecDepth 65536 in
theorem w_c23 : (Jvm.Cond.code ({ cls := "java/util/ArrayList", name := "grow", desc := "(I)[Ljava/lang/Object;" } : Jvm.MethodName) jdk_38_method_6_code (4 : Nat) (Option.some (Jvm.ClassFile.FieldType.array (Jvm.ClassFile.FieldType.object "java/lang/Object")))).before args0 about1 = true := code_word (m := ⟨18, 1⟩) (meth := k18m1) (c := k18c1) (by decide +kernel) rfl rfl rfl (by decide +kernel)
set_option maxRecDepth 65536 in
theorem w_c24 : (Jvm.Cond.code ({ cls := "java/lang/Math", name := "max", desc := "(II)I" } : Jvm.MethodName) jdk_29_method_65_code (2 : Nat) (Option.some Jvm.ClassFile.FieldType.int)).before args0 about1 = true := code_word (m := ⟨21, 1⟩) (meth := k21m1) (c := k21c1) (by decide +kernel) rfl rfl rfl (by decide +kernel)
set_option maxRecDepth 65536 in
theorem w_c25 : (Jvm.Cond.code ({ cls := "com/example/tenon/tenon/Assignments", name := "undo", desc := "(I)V" } : Jvm.MethodName) prog_4_method_6_code (2 : Nat) (Option.none : Option Jvm.ClassFile.FieldType)).before args0 about1 = true := code_word (m := ⟨3, 4⟩) (meth := k3m4) (c := k3c4) (by decide +kernel) rfl rfl rfl (by decide +kernel)
set_option maxRecDepth 65536 in
theorem w_c26 : (Jvm.Cond.code ({ cls := "com/example/tenon/tenon/Assignments", name := "takeBack", desc := "(I)V" } : Jvm.MethodName) prog_4_method_7_code (7 : Nat) (Option.none : Option Jvm.ClassFile.FieldType)).before args0 about1 = true := code_word (m := ⟨3, 5⟩) (meth := k3m5) (c := k3c5) (by decide +kernel) rfl rfl rfl (by decide +kernel)
set_option maxRecDepth 65536 in
theorem w_c27 : (Jvm.Cond.code ({ cls := "java/util/ArrayList", name := "remove", desc := "(I)Ljava/lang/Object;" } : Jvm.MethodName) jdk_38_method_29_code (4 : Nat) (Option.some (Jvm.ClassFile.FieldType.object "java/lang/Object"))).before args0 about1 = true := code_word (m := ⟨18, 6⟩) (meth := k18m6) (c := k18c6) (by decide +kernel) rfl rfl rfl (by decide +kernel)
set_option maxRecDepth 65536 in
theorem w_c28 : (Jvm.Cond.code ({ cls := "java/util/Objects", name := "checkIndex", desc := "(II)I" } : Jvm.MethodName) jdk_31_method_17_code (2 : Nat) (Option.some Jvm.ClassFile.FieldType.int)).before args0 about1 = true := code_word (m := ⟨22, 1⟩) (meth := k22m1) (c := k22c1) (by decide +kernel) rfl rfl rfl (by decide +kernel)
set_option maxRecDepth 65536 in
theorem w_c29 : (Jvm.Cond.code ({ cls := "jdk/internal/util/Preconditions", name := "checkIndex", desc := "(IILjava/util/function/BiFunction;)I" } : Jvm.MethodName) jdk_41_method_11_code (3 : Nat) (Option.some Jvm.ClassFile.FieldType.int)).before args0 about1 = true := code_word (m := ⟨23, 1⟩) (meth := k23m1) (c := k23c1) (by decide +kernel) rfl rfl rfl (by decide +kernel)
set_option maxRecDepth 65536 in
theorem w_c30 : (Jvm.Cond.code ({ cls := "java/util/ArrayList", name := "fastRemove", desc := "([Ljava/lang/Object;I)V" } : Jvm.MethodName) jdk_38_method_39_code (4 : Nat) (Option.none : Option Jvm.ClassFile.FieldType)).before args0 about1 = true := code_word (m := ⟨18, 7⟩) (meth := k18m7) (c := k18c7) (by decide +kernel) rfl rfl rfl (by decide +kernel)
set_option maxRecDepth 65536 in
theorem w_c31 : (Jvm.Cond.code ({ cls := "com/example/tenon/tenon/Assignments$Changed", name := "name", desc := "()Ljava/lang/String;" } : Jvm.MethodName) prog_6_method_5_code (1 : Nat) (Option.some (Jvm.ClassFile.FieldType.object "java/lang/String"))).before args0 about1 = true := code_word (m := ⟨20, 1⟩) (meth := k20m1) (c := k20c1) (by decide +kernel) rfl rfl rfl (by decide +kernel)
set_option maxRecDepth 65536 in
theorem w_c32 : (Jvm.Cond.code ({ cls := "com/example/tenon/tenon/Budget", name := "give", desc := "(J)V" } : Jvm.MethodName) prog_22_method_5_code (3 : Nat) (Option.none : Option Jvm.ClassFile.FieldType)).before args0 about1 = true := code_word (m := ⟨2, 3⟩) (meth := k2m3) (c := k2c3) (by decide +kernel) rfl rfl rfl (by decide +kernel)
def codes1 : List Jvm.Cond := [Jvm.Cond.code x code maxLocals ret, Jvm.Cond.code ({ cls := "com/example/tenon/tenon/Budget", name := "unlimited", desc := "()Lcom/example/tenon/tenon/Budget;" } : Jvm.MethodName) prog_22_method_2_code (0 : Nat) (Option.some (Jvm.ClassFile.FieldType.object "com/example/tenon/tenon/Budget")), Jvm.Cond.code ({ cls := "com/example/tenon/tenon/Budget", name := "<init>", desc := "(J)V" } : Jvm.MethodName) prog_22_method_1_code (3 : Nat) (Option.none : Option Jvm.ClassFile.FieldType), Jvm.Cond.code ({ cls := "java/lang/Object", name := "<init>", desc := "()V" } : Jvm.MethodName) object_method_1_code (1 : Nat) (Option.none : Option Jvm.ClassFile.FieldType), Jvm.Cond.code ({ cls := "com/example/tenon/tenon/Assignments", name := "<init>", desc := "(Lcom/example/tenon/tenon/Budget;)V" } : Jvm.MethodName) prog_4_method_1_code (2 : Nat) (Option.none : Option Jvm.ClassFile.FieldType), Jvm.Cond.code ({ cls := "com/example/tenon/tenon/Assignments", name := "<init>", desc := "(Lcom/example/tenon/tenon/Budget;Lcom/example/tenon/tenon/Assignments;)V" } : Jvm.MethodName) prog_4_method_2_code (3 : Nat) (Option.none : Option Jvm.ClassFile.FieldType), Jvm.Cond.code ({ cls := "java/util/LinkedHashMap", name := "<init>", desc := "()V" } : Jvm.MethodName) jdk_94_method_16_code (1 : Nat) (Option.none : Option Jvm.ClassFile.FieldType), Jvm.Cond.code ({ cls := "java/util/HashMap", name := "<init>", desc := "()V" } : Jvm.MethodName) jdk_69_method_7_code (1 : Nat) (Option.none : Option Jvm.ClassFile.FieldType), Jvm.Cond.code ({ cls := "java/util/AbstractMap", name := "<init>", desc := "()V" } : Jvm.MethodName) jdk_71_method_1_code (1 : Nat) (Option.none : Option Jvm.ClassFile.FieldType), Jvm.Cond.code ({ cls := "java/util/ArrayList", name := "<init>", desc := "()V" } : Jvm.MethodName) jdk_38_method_2_code (1 : Nat) (Option.none : Option Jvm.ClassFile.FieldType), Jvm.Cond.code ({ cls := "java/util/AbstractList", name := "<init>", desc := "()V" } : Jvm.MethodName) jdk_39_method_1_code (1 : Nat) (Option.none : Option Jvm.ClassFile.FieldType), Jvm.Cond.code ({ cls := "java/util/AbstractCollection", name := "<init>", desc := "()V" } : Jvm.MethodName) jdk_22_method_1_code (1 : Nat) (Option.none : Option Jvm.ClassFile.FieldType), Jvm.Cond.code ({ cls := "com/example/tenon/tenon/Assignments", name := "isBlind", desc := "()Z" } : Jvm.MethodName) prog_4_method_8_code (1 : Nat) (Option.some Jvm.ClassFile.FieldType.boolean), Jvm.Cond.code ({ cls := "com/example/tenon/tenon/Assignments", name := "notKnown", desc := "()V" } : Jvm.MethodName) prog_4_method_4_code (1 : Nat) (Option.none : Option Jvm.ClassFile.FieldType), Jvm.Cond.code ({ cls := "com/example/tenon/tenon/Assignments", name := "mark", desc := "()I" } : Jvm.MethodName) prog_4_method_5_code (1 : Nat) (Option.some Jvm.ClassFile.FieldType.int), Jvm.Cond.code ({ cls := "java/util/ArrayList", name := "size", desc := "()I" } : Jvm.MethodName) jdk_38_method_8_code (1 : Nat) (Option.some Jvm.ClassFile.FieldType.int), Jvm.Cond.code ({ cls := "com/example/tenon/tenon/Budget", name := "take", desc := "(J)V" } : Jvm.MethodName) prog_22_method_4_code (3 : Nat) (Option.none : Option Jvm.ClassFile.FieldType), Jvm.Cond.code ({ cls := "com/example/tenon/tenon/Budget", name := "check", desc := "(J)V" } : Jvm.MethodName) prog_22_method_6_code (3 : Nat) (Option.none : Option Jvm.ClassFile.FieldType), Jvm.Cond.code ({ cls := "com/example/tenon/tenon/Assignments$Changed", name := "<init>", desc := "(Ljava/lang/String;Lcom/example/tenon/tenon/Assignments$Assigned;)V" } : Jvm.MethodName) prog_6_method_1_code (3 : Nat) (Option.none : Option Jvm.ClassFile.FieldType), Jvm.Cond.code ({ cls := "java/lang/Record", name := "<init>", desc := "()V" } : Jvm.MethodName) jdk_30_method_1_code (1 : Nat) (Option.none : Option Jvm.ClassFile.FieldType), Jvm.Cond.code ({ cls := "java/util/ArrayList", name := "add", desc := "(Ljava/lang/Object;)Z" } : Jvm.MethodName) jdk_38_method_25_code (2 : Nat) (Option.some Jvm.ClassFile.FieldType.boolean), Jvm.Cond.code ({ cls := "java/util/ArrayList", name := "add", desc := "(Ljava/lang/Object;[Ljava/lang/Object;I)V" } : Jvm.MethodName) jdk_38_method_24_code (4 : Nat) (Option.none : Option Jvm.ClassFile.FieldType), Jvm.Cond.code ({ cls := "java/util/ArrayList", name := "grow", desc := "()[Ljava/lang/Object;" } : Jvm.MethodName) jdk_38_method_7_code (1 : Nat) (Option.some (Jvm.ClassFile.FieldType.array (Jvm.ClassFile.FieldType.object "java/lang/Object"))), Jvm.Cond.code ({ cls := "java/util/ArrayList", name := "grow", desc := "(I)[Ljava/lang/Object;" } : Jvm.MethodName) jdk_38_method_6_code (4 : Nat) (Option.some (Jvm.ClassFile.FieldType.array (Jvm.ClassFile.FieldType.object "java/lang/Object"))), Jvm.Cond.code ({ cls := "java/lang/Math", name := "max", desc := "(II)I" } : Jvm.MethodName) jdk_29_method_65_code (2 : Nat) (Option.some Jvm.ClassFile.FieldType.int), Jvm.Cond.code ({ cls := "com/example/tenon/tenon/Assignments", name := "undo", desc := "(I)V" } : Jvm.MethodName) prog_4_method_6_code (2 : Nat) (Option.none : Option Jvm.ClassFile.FieldType), Jvm.Cond.code ({ cls := "com/example/tenon/tenon/Assignments", name := "takeBack", desc := "(I)V" } : Jvm.MethodName) prog_4_method_7_code (7 : Nat) (Option.none : Option Jvm.ClassFile.FieldType), Jvm.Cond.code ({ cls := "java/util/ArrayList", name := "remove", desc := "(I)Ljava/lang/Object;" } : Jvm.MethodName) jdk_38_method_29_code (4 : Nat) (Option.some (Jvm.ClassFile.FieldType.object "java/lang/Object")), Jvm.Cond.code ({ cls := "java/util/Objects", name := "checkIndex", desc := "(II)I" } : Jvm.MethodName) jdk_31_method_17_code (2 : Nat) (Option.some Jvm.ClassFile.FieldType.int), Jvm.Cond.code ({ cls := "jdk/internal/util/Preconditions", name := "checkIndex", desc := "(IILjava/util/function/BiFunction;)I" } : Jvm.MethodName) jdk_41_method_11_code (3 : Nat) (Option.some Jvm.ClassFile.FieldType.int), Jvm.Cond.code ({ cls := "java/util/ArrayList", name := "fastRemove", desc := "([Ljava/lang/Object;I)V" } : Jvm.MethodName) jdk_38_method_39_code (4 : Nat) (Option.none : Option Jvm.ClassFile.FieldType), Jvm.Cond.code ({ cls := "com/example/tenon/tenon/Assignments$Changed", name := "name", desc := "()Ljava/lang/String;" } : Jvm.MethodName) prog_6_method_5_code (1 : Nat) (Option.some (Jvm.ClassFile.FieldType.object "java/lang/String")), Jvm.Cond.code ({ cls := "com/example/tenon/tenon/Budget", name := "give", desc := "(J)V" } : Jvm.MethodName) prog_22_method_5_code (3 : Nat) (Option.none : Option Jvm.ClassFile.FieldType)]
set_option maxRecDepth 65536 in
theorem codes_eq : words1.filter isCode = codes1 := rfl
theorem w_codes : ∀ c ∈ words1.filter isCode, c.before args0 about1 = true := by
  rw [codes_eq]
  intro c hc
  simp only [codes1, List.mem_cons, List.not_mem_nil, or_false] at hc
  rcases hc with rfl | rfl | rfl | rfl | rfl | rfl | rfl | rfl | rfl | rfl | rfl | rfl | rfl | rfl | rfl | rfl | rfl | rfl | rfl | rfl | rfl | rfl | rfl | rfl | rfl | rfl | rfl | rfl | rfl | rfl | rfl | rfl | rfl
  · exact w_c0
  · exact w_c1
  · exact w_c2
  · exact w_c3
  · exact w_c4
  · exact w_c5
  · exact w_c6
  · exact w_c7
  · exact w_c8
  · exact w_c9
  · exact w_c10
  · exact w_c11
  · exact w_c12
  · exact w_c13
  · exact w_c14
  · exact w_c15
  · exact w_c16
  · exact w_c17
  · exact w_c18
  · exact w_c19
  · exact w_c20
  · exact w_c21
  · exact w_c22
  · exact w_c23
  · exact w_c24
  · exact w_c25
  · exact w_c26
  · exact w_c27
  · exact w_c28
  · exact w_c29
  · exact w_c30
  · exact w_c31
  · exact w_c32
set_option maxRecDepth 65536 in
theorem w_t1 : (words1.take 24).all (fun c => isCode c || c.before args0 about1) = true := by decide +kernel
set_option maxRecDepth 65536 in
theorem w_t2 : ((words1.drop 24).take 24).all (fun c => isCode c || c.before args0 about1) = true := by decide +kernel
set_option maxRecDepth 65536 in
theorem w_t3 : (((words1.drop 24).drop 24).take 24).all (fun c => isCode c || c.before args0 about1) = true := by decide +kernel
set_option maxRecDepth 65536 in
theorem w_t4 : ((((words1.drop 24).drop 24).drop 24).take 24).all (fun c => isCode c || c.before args0 about1) = true := by decide +kernel
set_option maxRecDepth 65536 in
theorem w_t5 : (((((words1.drop 24).drop 24).drop 24).drop 24).take 24).all (fun c => isCode c || c.before args0 about1) = true := by decide +kernel
set_option maxRecDepth 65536 in
theorem w_t6 : ((((((words1.drop 24).drop 24).drop 24).drop 24).drop 24).take 24).all (fun c => isCode c || c.before args0 about1) = true := by decide +kernel
set_option maxRecDepth 65536 in
theorem w_t7 : (((((((words1.drop 24).drop 24).drop 24).drop 24).drop 24).drop 24).take 24).all (fun c => isCode c || c.before args0 about1) = true := by decide +kernel
set_option maxRecDepth 65536 in
theorem w_t8 : ((((((((words1.drop 24).drop 24).drop 24).drop 24).drop 24).drop 24).drop 24).take 24).all (fun c => isCode c || c.before args0 about1) = true := by decide +kernel
set_option maxRecDepth 65536 in
theorem w_t9 : (((((((((words1.drop 24).drop 24).drop 24).drop 24).drop 24).drop 24).drop 24).drop 24).take 24).all (fun c => isCode c || c.before args0 about1) = true := by decide +kernel
set_option maxRecDepth 65536 in
theorem w_t10 : (((((((((words1.drop 24).drop 24).drop 24).drop 24).drop 24).drop 24).drop 24).drop 24).drop 24).all (fun c => isCode c || c.before args0 about1) = true := by decide +kernel
theorem w_tables : (allAtoms (Jvm.Cond.code x code maxLocals ret :: tables_1)).before args0 about1 = true := by
  rw [allAtoms_all]
  show words1.all (fun c => c.before args0 about1) = true
  refine all_split ?_ w_codes
  rw [← List.take_append_drop 24 words1, List.all_append, w_t1, ← List.take_append_drop 24 (words1.drop 24), List.all_append, w_t2, ← List.take_append_drop 24 ((words1.drop 24).drop 24), List.all_append, w_t3, ← List.take_append_drop 24 (((words1.drop 24).drop 24).drop 24), List.all_append, w_t4, ← List.take_append_drop 24 ((((words1.drop 24).drop 24).drop 24).drop 24), List.all_append, w_t5, ← List.take_append_drop 24 (((((words1.drop 24).drop 24).drop 24).drop 24).drop 24), List.all_append, w_t6, ← List.take_append_drop 24 ((((((words1.drop 24).drop 24).drop 24).drop 24).drop 24).drop 24), List.all_append, w_t7, ← List.take_append_drop 24 (((((((words1.drop 24).drop 24).drop 24).drop 24).drop 24).drop 24).drop 24), List.all_append, w_t8, ← List.take_append_drop 24 ((((((((words1.drop 24).drop 24).drop 24).drop 24).drop 24).drop 24).drop 24).drop 24), List.all_append, w_t9, w_t10]
  rfl
set_option maxRecDepth 65536 in
theorem w_rest : rest_1_c.before args0 about1 = true := by decide +kernel
set_option maxRecDepth 65536 in
theorem w_case : (Jvm.Cond.and given_1 narrow_1).before args0 about1 = true := by decide +kernel
theorem w_applies : (headSpec (Jvm.Cond.code x code maxLocals ret :: tables_1) room_1).applies x e0.platform about1 = true :=
  (Spec.applies_iff w_frames).mpr ⟨w_running, w_runnable, w_alone, w_named, w_hears, w_ripe, w_room, w_tables⟩
theorem atStart : AtStart classFile x code maxLocals ret World_1 tables_1 room_1 Calls_1 rest_1 Pre_1 launch0 p0 e0 about1 theMethod args0 below0 :=
  ⟨lists_1, trivial, launch0.admits_env _ _ _, launch0.least_env, fairChoices_fair.cas, fairChoices_fair.clock, w_frames, w_args, w_heap, w_applies, trivial, w_rest, w_case⟩
end start1
theorem witness_1 : WitnessClaimed_1 := ⟨start1.p0, start1.e0, start1.about1, start1.theMethod, start1.args0, start1.below0, start1.atStart⟩
end Jvm.Pilot.@@N@@
