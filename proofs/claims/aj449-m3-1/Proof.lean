import JvmDerived
import JvmDerived.Pilot.@@N@@Statement
import JvmDerived.Pilot.@@N@@Code
set_option linter.unusedVariables false
set_option linter.unusedSimpArgs false
namespace Jvm.RoadKit
open Sem ClassFile Op Lib Jvm.Stand Jvm.Free Jvm.LawKit
section New
variable {p : Program} {l : Launch} {e : Env} {R : Room} {s : State} {m : MethodId} {args : Array Value} {below : List Frame} {meth : Method} {c : Code} {T : State} {locs : List Loc} {cells slots : Nat}
theorem retI (X : Stand p l e R s m args below meth c T locs cells slots) (hx : p.tables.exec = Jvm.exec) {pc : Nat} {Ls : Array Slot} {z : Int32} {rest : List Value} (hret : meth.sig.returnType = some .int) (hd : decode c.code pc = .ok (.ireturn, 1)) {fs : List Frame}
    (hl : ∀ (f : JFrame) (acts : List Action), f.method = m → f.locked = none → f.entered = [] → (doReturn e (T.setTop f) acts (some (.int z))).1 = T.setFrames fs) : Steps p.tables e below (T.setTop (mkF m pc Ls (.int z :: rest))) (T.setFrames fs) := by
  have hm' : T.vm.method? m = some meth := X.method'
  have hn : narrow .int (.int z) = .int z := rfl
  show Steps p.tables e below (T.setTop { method := m, pc := pc, locals := Ls, stack := _ :: rest, locked := none }) _
  jvm_step X.here [X.here.top, hx, hd, hm', hret, hn]
  first | (intro acts; rw [hl _ acts rfl rfl rfl]) | rw [hl _ _ rfl rfl rfl]
  exact Steps.refl _
end New
end Jvm.RoadKit
namespace Jvm.Pilot.@@N@@
open Jvm Jvm.ClassFile Sem Op Lib Jvm.Free Jvm.Stand Jvm.LawKit Jvm.RoadKit Bundle Jvm.Pilot.@@N@@.Jvm.D

theorem d2_0 : decode prog_11_method_1_code 0 = .ok (.getstatic 16, 3) := by decide +kernel
theorem d2_3 : decode prog_11_method_1_code 3 = .ok (.invokevirtual 20, 3) := by decide +kernel
theorem d2_6 : decode prog_11_method_1_code 6 = .ok (.checkcast 21, 3) := by decide +kernel
theorem d2_9 : decode prog_11_method_1_code 9 = .ok (.areturn, 1) := by decide +kernel
theorem pn_2 : plainName "com/example/variantic/variantic/rules/ArithmeticOperator" = true := by first | (simp [plainName, overriddenIn]; done) | decide +kernel
theorem ef_2 (m : MethodId)  : entryFrame m #[] 0 = mkF m 0 #[] [] := by first | (simp [entryFrame, mkF, argsToLocals, Value.category]; done) | rfl
def Q2_v (Z : State) (w1 : Addr) (b : Addr) (kV : ClassId) (wA wS wM wD : Addr) (h0 : Heap) (n0 : Nat) (v : Option Value) (h : Heap) (L : List Loc) : Prop := v = some (.ref b) ∧ Fr n0 L ∧ Ext h0 h ∧ Arv Z h b kV (.object "com/example/variantic/variantic/rules/ArithmeticOperator") (4 : Int32) [.ref wA, .ref wS, .ref wM, .ref wD] .null
set_option maxRecDepth 65536 in
set_option maxHeartbeats 40000000 in
theorem rm2_v (l : Launch) (Z : State) (a0 : Array Value) (hw : ∀ d ∈ tables_1, d.before a0 Z = true) (ws : List Jvm.Cond) (w1 : Addr) (b : Addr) (kV : ClassId) (wA wS wM wD : Addr) (h0 : Heap) (n0 : Nat) (Z0 : n0 ≤ h0.size) (hbb : b = h0.size) (V_w1 : Arv Z h0 w1 kV (.object "com/example/variantic/variantic/rules/ArithmeticOperator") (4 : Int32) [.ref wA, .ref wS, .ref wM, .ref wD] .null) (E_w1 : Exa Z h0 w1 "[Lcom/example/variantic/variantic/rules/ArithmeticOperator;") (S__VALUES : Sta Z h0 "com/example/variantic/variantic/rules/ArithmeticOperator" "$VALUES" "[Lcom/example/variantic/variantic/rules/ArithmeticOperator;" (.ref w1)) :
    MetFree l (⟨"com/example/variantic/variantic/rules/ArithmeticOperator", "values", "()[Lcom/example/variantic/variantic/rules/ArithmeticOperator;"⟩ : MethodName) (head1 (Jvm.Cond.code (⟨"com/example/variantic/variantic/rules/ArithmeticOperator", "values", "()[Lcom/example/variantic/variantic/rules/ArithmeticOperator;"⟩ : MethodName) prog_11_method_1_code 0 (some (.array (.object "com/example/variantic/variantic/rules/ArithmeticOperator"))) :: ws) ({ frames := 1, cells := 1, slots := 4, locals := 14 } : Room)) (fun a U => a = #[] ∧ Z.Warmed39 U.vm ∧ U.heap = h0) (fun _ _ _ _ _ => True) (fun _ U o U' => ∃ v L, o = .returned v ∧ Q2_v Z w1 b kV wA wS wM wD h0 n0 v U'.heap L ∧ FrameEnd U o U' L ({ frames := 1, cells := 1, slots := 4, locals := 14 } : Room).cells ({ frames := 1, cells := 1, slots := 4, locals := 14 } : Room).slots) := by
  refine MetFree.of_bodySF (plainFor_of_name pn_2) hisR ?_
  intro p e s m args below meth c s₁ Bd hml0 hP hK
  obtain ⟨rfl, hZ, hh⟩ := hP
  have hx := Bd.exec
  have hby := Bd.bytes
  have hml : c.maxLocals = 0 := hml0
  have hown : s.vm.findClass "com/example/variantic/variantic/rules/ArithmeticOperator" = some m.cls := findClass_of_methodNamed Bd.named
  have hnm := (name_of_methodNamed Bd.named Bd.method).1
  have X0 : Stand p l e ({ frames := 1, cells := 1, slots := 4, locals := 14 } : Room) s m #[] below meth c s₁ [] 0 0 := Stand.of_body Bd
  have e0 : s₁.heap = h0 := by rw [← hh, Bd.state]; rfl
  have N0 := Fr.nil n0
  have pre0 : ∀ t, Steps p.tables e below (s₁.setTop (mkF m 0 #[] [])) t → Steps p.tables e below (s₁.setTop (entryFrame m #[] 0)) t := fun t k => castTop (ef_2 m ) k
  -- 3. LAWS
  obtain ⟨T2, X2, e2, st2⟩ := getS2 X0 hx hZ hown (host := "") (Or.inl (hw _ (List.mem_of_getElem? (i := 7) rfl))) Via.refl e0 S__VALUES (g := (mkF m 0 #[] [])) rfl (hb hby d2_0)
  obtain ⟨T3, h3, X3, e3, E3, V3, A3, st3⟩ := cloneH X2 hx hZ hown (hw _ (List.mem_of_getElem? (i := 9) rfl)) (hw _ (List.mem_of_getElem? (i := 10) rfl)) (hw _ (List.mem_of_getElem? (i := 14) rfl)) (hw _ (List.mem_of_getElem? (i := 12) rfl)) (hw _ (List.mem_of_getElem? (i := 13) rfl)) (hw _ (List.mem_of_getElem? (i := 15) rfl)) e2 V_w1.arh E_w1 (g := (mkF m 3 #[] [(.ref w1)])) rfl (by rw [hml]; rfl) rfl (hb hby d2_3) (by decide) (W := 0) (by show 2 * 0 + _ ≤ _; exact Nat.le_of_eq rfl) (by decide) (cap := 4) (by decide) (by decide) (by decide)
  rw [← hbb] at V3 A3 st3
  obtain ⟨T4, X4, e4, st4⟩ := castY X3 hx hZ hown (hw _ (List.mem_of_getElem? (i := 21) rfl)) e3 (Ins.self A3) (g := (mkF m 6 #[] [(.ref b)])) rfl rfl (hb hby d2_6)
  obtain ⟨fs, hr, hrun, hended, hW, hsame⟩ := X4.leave (v := some (.ref b)) (fun h => by rw [Bd.returns] at h; cases h)
  refine ⟨_, _, pre0 _ ?_, hrun, hended, _, _, rfl, ?_, ⟨_, rfl⟩, hW, hsame.mono (by decide) (by decide)⟩
  -- 4. STEPS
  · show Steps p.tables e below (s₁.setTop (mkF m 0 #[] [])) _
    refine st2 _ ?_
    show Steps p.tables e below (T2.setTop (mkF m 3 #[] [(.ref w1)])) _
    refine st3 _ ?_
    show Steps p.tables e below (T3.setTop (mkF m 6 #[] [(.ref b)])) _
    refine st4 _ ?_
    show Steps p.tables e below (T4.setTop (mkF m 9 #[] [(.ref b)])) _
    jvm_step X4.here [X4.here.top, hx, (hb hby d2_9), X4.method', Bd.returns, Value.isRef, FieldType.isReference]
    first | (intro acts; rw [hr _ acts rfl rfl rfl]) | rw [hr _ _ rfl rfl rfl]
    exact Steps.refl _
  · show Q2_v Z w1 b kV wA wS wM wD h0 n0 _ T4.heap _
    rw [e4]
    exact ⟨rfl, N0, E3, V3⟩

theorem d1_0 : decode prog_11_method_5_code 0 = .ok (.invokestatic 43, 3) := by decide +kernel
theorem d1_3 : decode prog_11_method_5_code 3 = .ok (.astore_n 1, 1) := by decide +kernel
theorem d1_4 : decode prog_11_method_5_code 4 = .ok (.aload_n 1, 1) := by decide +kernel
theorem d1_5 : decode prog_11_method_5_code 5 = .ok (.arraylength, 1) := by decide +kernel
theorem d1_6 : decode prog_11_method_5_code 6 = .ok (.istore_n 2, 1) := by decide +kernel
theorem d1_7 : decode prog_11_method_5_code 7 = .ok (.iconst 0, 1) := by decide +kernel
theorem d1_8 : decode prog_11_method_5_code 8 = .ok (.istore_n 3, 1) := by decide +kernel
theorem d1_9 : decode prog_11_method_5_code 9 = .ok (.iload_n 3, 1) := by decide +kernel
theorem d1_10 : decode prog_11_method_5_code 10 = .ok (.iload_n 2, 1) := by decide +kernel
theorem d1_11 : decode prog_11_method_5_code 11 = .ok (.if_icmp .ge 26, 3) := by decide +kernel
theorem d1_14 : decode prog_11_method_5_code 14 = .ok (.aload_n 1, 1) := by decide +kernel
theorem d1_15 : decode prog_11_method_5_code 15 = .ok (.iload_n 3, 1) := by decide +kernel
theorem d1_16 : decode prog_11_method_5_code 16 = .ok (.aaload, 1) := by decide +kernel
theorem d1_17 : decode prog_11_method_5_code 17 = .ok (.astore 4, 2) := by decide +kernel
theorem d1_19 : decode prog_11_method_5_code 19 = .ok (.aload 4, 2) := by decide +kernel
theorem d1_21 : decode prog_11_method_5_code 21 = .ok (.getfield 35, 3) := by decide +kernel
theorem d1_24 : decode prog_11_method_5_code 24 = .ok (.iload_n 0, 1) := by decide +kernel
theorem d1_25 : decode prog_11_method_5_code 25 = .ok (.if_icmp .ne 6, 3) := by decide +kernel
theorem d1_28 : decode prog_11_method_5_code 28 = .ok (.aload 4, 2) := by decide +kernel
theorem d1_30 : decode prog_11_method_5_code 30 = .ok (.areturn, 1) := by decide +kernel
theorem pn_1 : plainName "com/example/variantic/variantic/rules/ArithmeticOperator" = true := by first | (simp [plainName, overriddenIn]; done) | decide +kernel
theorem pd_1_1 : parseMethodDescriptor "()[Lcom/example/variantic/variantic/rules/ArithmeticOperator;" = some ⟨[], some (.array (.object "com/example/variantic/variantic/rules/ArithmeticOperator"))⟩ := by decide +kernel
theorem ef_1 (m : MethodId) (x0 : Int32) : entryFrame m #[(.int x0)] 5 = mkF m 0 #[.val (.int x0), .unset, .unset, .unset, .unset] [] := by first | (simp [entryFrame, mkF, argsToLocals, Value.category]; done) | rfl
def Q1_ADD (Z : State) (p1 : Int32) (wV : Addr) (kV : ClassId) (wA wS wM wD : Addr) (h0 : Heap) (n0 : Nat) (v : Option Value) (h : Heap) (L : List Loc) : Prop := v = some (.ref wA) ∧ Fr n0 L ∧ Ext h0 h
set_option maxRecDepth 65536 in
set_option maxHeartbeats 40000000 in
theorem rm1_ADD (l : Launch) (Z : State) (a0 : Array Value) (hw : ∀ d ∈ tables_1, d.before a0 Z = true) (ws : List Jvm.Cond) (p1 : Int32) (wV : Addr) (kV : ClassId) (wA wS wM wD : Addr) (h0 : Heap) (n0 : Nat) (Z0 : n0 ≤ h0.size) (S_V : Sta Z h0 "com/example/variantic/variantic/rules/ArithmeticOperator" "$VALUES" "[Lcom/example/variantic/variantic/rules/ArithmeticOperator;" (.ref wV)) (V_V : Arv Z h0 wV kV (.object "com/example/variantic/variantic/rules/ArithmeticOperator") (4 : Int32) [.ref wA, .ref wS, .ref wM, .ref wD] .null) (E_V : Exa Z h0 wV "[Lcom/example/variantic/variantic/rules/ArithmeticOperator;") (F_symbol_wA : Fld Z h0 wA "com/example/variantic/variantic/rules/ArithmeticOperator" "symbol" "C" (.int (43 : Int32))) (hc25 : (43 : Int32) = p1) :
    MetFree l (⟨"com/example/variantic/variantic/rules/ArithmeticOperator", "withSymbol", "(C)Lcom/example/variantic/variantic/rules/ArithmeticOperator;"⟩ : MethodName) (head1 (Jvm.Cond.code (⟨"com/example/variantic/variantic/rules/ArithmeticOperator", "withSymbol", "(C)Lcom/example/variantic/variantic/rules/ArithmeticOperator;"⟩ : MethodName) prog_11_method_5_code 5 (some (.object "com/example/variantic/variantic/rules/ArithmeticOperator")) :: ws) ({ frames := 2, cells := 1, slots := 4, locals := 25 } : Room)) (fun a U => a = #[(.int p1)] ∧ Z.Warmed39 U.vm ∧ U.heap = h0) (fun _ _ _ _ _ => True) (fun _ U o U' => ∃ v L, o = .returned v ∧ Q1_ADD Z p1 wV kV wA wS wM wD h0 n0 v U'.heap L ∧ FrameEnd U o U' L ({ frames := 2, cells := 1, slots := 4, locals := 25 } : Room).cells ({ frames := 2, cells := 1, slots := 4, locals := 25 } : Room).slots) := by
  refine MetFree.of_bodySF (plainFor_of_name pn_1) hisR ?_
  intro p e s m args below meth c s₁ Bd hml0 hP hK
  obtain ⟨rfl, hZ, hh⟩ := hP
  have hx := Bd.exec
  have hby := Bd.bytes
  have hml : c.maxLocals = 5 := hml0
  have hown : s.vm.findClass "com/example/variantic/variantic/rules/ArithmeticOperator" = some m.cls := findClass_of_methodNamed Bd.named
  have hnm := (name_of_methodNamed Bd.named Bd.method).1
  have X0 : Stand p l e ({ frames := 2, cells := 1, slots := 4, locals := 25 } : Room) s m #[(.int p1)] below meth c s₁ [] 0 0 := Stand.of_body Bd
  have e0 : s₁.heap = h0 := by rw [← hh, Bd.state]; rfl
  have N0 := Fr.nil n0
  have pre0 : ∀ t, Steps p.tables e below (s₁.setTop (mkF m 0 #[.val (.int p1), .unset, .unset, .unset, .unset] [])) t → Steps p.tables e below (s₁.setTop (entryFrame m #[(.int p1)] 5)) t := fun t k => castTop (ef_1 m p1) k
  -- 3. LAWS
  obtain ⟨arr, garr⟩ : ∃ z, z = h0.size := ⟨_, rfl⟩
  -- pc 0: com/example/variantic/variantic/rules/ArithmeticOperator.values by its contract rm2
  obtain ⟨_, _, ⟨T2, L2, k2, n2⟩, -, X2, ⟨Lc2, hQ2, l2, y2, z2⟩, st2⟩ := Jvm.LawKit.callS X0 hx (y := (⟨"com/example/variantic/variantic/rules/ArithmeticOperator", "values", "()[Lcom/example/variantic/variantic/rules/ArithmeticOperator;"⟩ : MethodName)) hown (mvT hZ (hw _ (List.mem_of_getElem? (i := 4) rfl))) (mvT hZ (hw _ (List.mem_of_getElem? (i := 5) rfl))) (mvT hZ (hw _ (List.mem_of_getElem? (i := 2) rfl))) (mvT hZ (hw _ (List.mem_of_getElem? (i := 6) rfl))) (by decide) (backOf (W := 0) (rm2_v l Z a0 hw []  wV arr kV wA wS wM wD h0 n0 Z0 garr V_V E_V S_V) hZ (hw _ (List.mem_of_getElem? (i := 6) rfl)) (hw _ (List.mem_of_getElem? (i := 2) rfl)) (by decide) (by decide)) (g := (mkF m 0 #[.val (.int p1), .unset, .unset, .unset, .unset] [])) rfl (by rw [hml]; rfl) (argsL := []) (rest := []) (lenOf pd_1_1 rfl) rfl (by show 2 * 0 + _ ≤ _; exact Nat.le_of_eq rfl) (hb hby d1_0) (fun _ _ => ⟨rfl, e0, (by decide : 0 + 1 ≤ _), (by decide : 0 + 4 ≤ _)⟩)
  dsimp only [Pt.U, Pt.locs, Pt.cells, Pt.slots] at X2 l2 y2 z2 st2 hQ2
  subst l2 y2 z2
  obtain ⟨rfl, N2q, E2, V2⟩ := hQ2
  have N2 := Fr.app N0 N2q
  obtain ⟨cl_arr, Ar_arr, -, S_arr, N_arr, H_arr, -⟩ := V2
  obtain ⟨T4, X4, e4, st4⟩ := getF X2 hx hZ hown (host := "") (Or.inl (hw _ (List.mem_of_getElem? (i := 23) rfl))) Via.refl rfl (F_symbol_wA.ext E2) (g := (mkF m 21 #[.val (.int p1), .val (.ref arr), .val (.int (4 : Int32)), .val (.int (0 : Int32)), .val (.ref wA)] [(.ref wA)])) rfl rfl (hb hby d1_21)
  obtain ⟨fs, hr, hrun, hended, hW, hsame⟩ := X4.leave (v := some (.ref wA)) (fun h => by rw [Bd.returns] at h; cases h)
  refine ⟨_, _, pre0 _ ?_, hrun, hended, _, _, rfl, ?_, ⟨_, rfl⟩, hW, hsame.mono (by decide) (by decide)⟩
  -- 4. STEPS
  · show Steps p.tables e below (s₁.setTop (mkF m 0 #[.val (.int p1), .unset, .unset, .unset, .unset] [])) _
    refine st2 _ ?_
    show Steps p.tables e below (T2.setTop (mkF m 3 #[.val (.int p1), .unset, .unset, .unset, .unset] [(.ref arr)])) _
    refine XS.astoreN X2.here hx rfl (hb hby d1_3) rfl rfl (l' := #[.val (.int p1), .val (.ref arr), .unset, .unset, .unset]) rfl ?_
    show Steps p.tables e below (T2.setTop (mkF m 4 #[.val (.int p1), .val (.ref arr), .unset, .unset, .unset] [])) _
    refine XS.aloadN X2.here hx rfl (hb hby d1_4) rfl rfl ?_
    show Steps p.tables e below (T2.setTop (mkF m 5 #[.val (.int p1), .val (.ref arr), .unset, .unset, .unset] [(.ref arr)])) _
    refine X2.arraylength hx Ar_arr.1 (State.isArrayOf_alike hZ.alike Ar_arr.2.1) (g := (mkF m 5 #[.val (.int p1), .val (.ref arr), .unset, .unset, .unset] [(.ref arr)])) rfl rfl (hb hby d1_5) _ ?_
    rw [len_of S_arr N_arr]
    show Steps p.tables e below (T2.setTop (mkF m 6 #[.val (.int p1), .val (.ref arr), .unset, .unset, .unset] [(.int (4 : Int32))])) _
    refine XS.istoreN X2.here hx rfl (hb hby d1_6) rfl (l' := #[.val (.int p1), .val (.ref arr), .val (.int (4 : Int32)), .unset, .unset]) rfl ?_
    show Steps p.tables e below (T2.setTop (mkF m 7 #[.val (.int p1), .val (.ref arr), .val (.int (4 : Int32)), .unset, .unset] [])) _
    refine XS.iconst X2.here hx rfl (hb hby d1_7) ?_
    show Steps p.tables e below (T2.setTop (mkF m 8 #[.val (.int p1), .val (.ref arr), .val (.int (4 : Int32)), .unset, .unset] [(.int (0 : Int32))])) _
    refine XS.istoreN X2.here hx rfl (hb hby d1_8) rfl (l' := #[.val (.int p1), .val (.ref arr), .val (.int (4 : Int32)), .val (.int (0 : Int32)), .unset]) rfl ?_
    show Steps p.tables e below (T2.setTop (mkF m 9 #[.val (.int p1), .val (.ref arr), .val (.int (4 : Int32)), .val (.int (0 : Int32)), .unset] [])) _
    refine XS.iloadN X2.here hx rfl (hb hby d1_9) rfl ?_
    show Steps p.tables e below (T2.setTop (mkF m 10 #[.val (.int p1), .val (.ref arr), .val (.int (4 : Int32)), .val (.int (0 : Int32)), .unset] [(.int (0 : Int32))])) _
    refine XS.iloadN X2.here hx rfl (hb hby d1_10) rfl ?_
    show Steps p.tables e below (T2.setTop (mkF m 11 #[.val (.int p1), .val (.ref arr), .val (.int (4 : Int32)), .val (.int (0 : Int32)), .unset] [(.int (4 : Int32)), (.int (0 : Int32))])) _
    refine XS.icmpNo X2.here hx rfl (hb hby d1_11) rfl (tlt (by decide : (0 : Int32) < (4 : Int32))).2.1 ?_
    show Steps p.tables e below (T2.setTop (mkF m 14 #[.val (.int p1), .val (.ref arr), .val (.int (4 : Int32)), .val (.int (0 : Int32)), .unset] [])) _
    refine XS.aloadN X2.here hx rfl (hb hby d1_14) rfl rfl ?_
    show Steps p.tables e below (T2.setTop (mkF m 15 #[.val (.int p1), .val (.ref arr), .val (.int (4 : Int32)), .val (.int (0 : Int32)), .unset] [(.ref arr)])) _
    refine XS.iloadN X2.here hx rfl (hb hby d1_15) rfl ?_
    show Steps p.tables e below (T2.setTop (mkF m 16 #[.val (.int p1), .val (.ref arr), .val (.int (4 : Int32)), .val (.int (0 : Int32)), .unset] [(.int (0 : Int32)), (.ref arr)])) _
    refine X2.aaload hx (j := (0 : Int32)) (v := (.ref wA)) Ar_arr.1 (State.isArrayOf_alike hZ.alike Ar_arr.2.1) rfl Ar_arr.2.2 (inb_of S_arr ⟨by decide, by decide⟩) (Has.at H_arr (inb_of S_arr ⟨by decide, by decide⟩) rfl) (g := (mkF m 16 #[.val (.int p1), .val (.ref arr), .val (.int (4 : Int32)), .val (.int (0 : Int32)), .unset] [(.int (0 : Int32)), (.ref arr)])) rfl rfl (hb hby d1_16) _ ?_
    show Steps p.tables e below (T2.setTop (mkF m 17 #[.val (.int p1), .val (.ref arr), .val (.int (4 : Int32)), .val (.int (0 : Int32)), .unset] [(.ref wA)])) _
    refine XS.astore X2.here hx rfl (hb hby d1_17) rfl rfl (l' := #[.val (.int p1), .val (.ref arr), .val (.int (4 : Int32)), .val (.int (0 : Int32)), .val (.ref wA)]) rfl ?_
    show Steps p.tables e below (T2.setTop (mkF m 19 #[.val (.int p1), .val (.ref arr), .val (.int (4 : Int32)), .val (.int (0 : Int32)), .val (.ref wA)] [])) _
    refine XS.aload X2.here hx rfl (hb hby d1_19) rfl rfl ?_
    show Steps p.tables e below (T2.setTop (mkF m 21 #[.val (.int p1), .val (.ref arr), .val (.int (4 : Int32)), .val (.int (0 : Int32)), .val (.ref wA)] [(.ref wA)])) _
    refine st4 _ ?_
    show Steps p.tables e below (T4.setTop (mkF m 24 #[.val (.int p1), .val (.ref arr), .val (.int (4 : Int32)), .val (.int (0 : Int32)), .val (.ref wA)] [(.int (43 : Int32))])) _
    refine XS.iloadN X4.here hx rfl (hb hby d1_24) rfl ?_
    show Steps p.tables e below (T4.setTop (mkF m 25 #[.val (.int p1), .val (.ref arr), .val (.int (4 : Int32)), .val (.int (0 : Int32)), .val (.ref wA)] [(.int p1), (.int (43 : Int32))])) _
    refine XS.icmpNo X4.here hx rfl (hb hby d1_25) rfl (teq hc25).2 ?_
    show Steps p.tables e below (T4.setTop (mkF m 28 #[.val (.int p1), .val (.ref arr), .val (.int (4 : Int32)), .val (.int (0 : Int32)), .val (.ref wA)] [])) _
    refine XS.aload X4.here hx rfl (hb hby d1_28) rfl rfl ?_
    show Steps p.tables e below (T4.setTop (mkF m 30 #[.val (.int p1), .val (.ref arr), .val (.int (4 : Int32)), .val (.int (0 : Int32)), .val (.ref wA)] [(.ref wA)])) _
    jvm_step X4.here [X4.here.top, hx, (hb hby d1_30), X4.method', Bd.returns, Value.isRef, FieldType.isReference]
    first | (intro acts; rw [hr _ acts rfl rfl rfl]) | rw [hr _ _ rfl rfl rfl]
    exact Steps.refl _
  · show Q1_ADD Z p1 wV kV wA wS wM wD h0 n0 _ T4.heap _
    rw [e4]
    exact ⟨rfl, N2, E2⟩

theorem d1_31 : decode prog_11_method_5_code 31 = .ok (.iinc 3 1, 3) := by decide +kernel
theorem d1_34 : decode prog_11_method_5_code 34 = .ok (.goto (-25), 3) := by decide +kernel
def Q1_SUBTRACT (Z : State) (p1 : Int32) (wV : Addr) (kV : ClassId) (wA wS wM wD : Addr) (h0 : Heap) (n0 : Nat) (v : Option Value) (h : Heap) (L : List Loc) : Prop := v = some (.ref wS) ∧ Fr n0 L ∧ Ext h0 h
set_option maxRecDepth 65536 in
set_option maxHeartbeats 40000000 in
theorem rm1_SUBTRACT (l : Launch) (Z : State) (a0 : Array Value) (hw : ∀ d ∈ tables_1, d.before a0 Z = true) (ws : List Jvm.Cond) (p1 : Int32) (wV : Addr) (kV : ClassId) (wA wS wM wD : Addr) (h0 : Heap) (n0 : Nat) (Z0 : n0 ≤ h0.size) (S_V : Sta Z h0 "com/example/variantic/variantic/rules/ArithmeticOperator" "$VALUES" "[Lcom/example/variantic/variantic/rules/ArithmeticOperator;" (.ref wV)) (V_V : Arv Z h0 wV kV (.object "com/example/variantic/variantic/rules/ArithmeticOperator") (4 : Int32) [.ref wA, .ref wS, .ref wM, .ref wD] .null) (E_V : Exa Z h0 wV "[Lcom/example/variantic/variantic/rules/ArithmeticOperator;") (F_symbol_wA : Fld Z h0 wA "com/example/variantic/variantic/rules/ArithmeticOperator" "symbol" "C" (.int (43 : Int32))) (F_symbol_wS : Fld Z h0 wS "com/example/variantic/variantic/rules/ArithmeticOperator" "symbol" "C" (.int (45 : Int32))) (hc25 : ¬ ((43 : Int32) = p1)) (hc25_31 : (45 : Int32) = p1) :
    MetFree l (⟨"com/example/variantic/variantic/rules/ArithmeticOperator", "withSymbol", "(C)Lcom/example/variantic/variantic/rules/ArithmeticOperator;"⟩ : MethodName) (head1 (Jvm.Cond.code (⟨"com/example/variantic/variantic/rules/ArithmeticOperator", "withSymbol", "(C)Lcom/example/variantic/variantic/rules/ArithmeticOperator;"⟩ : MethodName) prog_11_method_5_code 5 (some (.object "com/example/variantic/variantic/rules/ArithmeticOperator")) :: ws) ({ frames := 2, cells := 1, slots := 4, locals := 25 } : Room)) (fun a U => a = #[(.int p1)] ∧ Z.Warmed39 U.vm ∧ U.heap = h0) (fun _ _ _ _ _ => True) (fun _ U o U' => ∃ v L, o = .returned v ∧ Q1_SUBTRACT Z p1 wV kV wA wS wM wD h0 n0 v U'.heap L ∧ FrameEnd U o U' L ({ frames := 2, cells := 1, slots := 4, locals := 25 } : Room).cells ({ frames := 2, cells := 1, slots := 4, locals := 25 } : Room).slots) := by
  refine MetFree.of_bodySF (plainFor_of_name pn_1) hisR ?_
  intro p e s m args below meth c s₁ Bd hml0 hP hK
  obtain ⟨rfl, hZ, hh⟩ := hP
  have hx := Bd.exec
  have hby := Bd.bytes
  have hml : c.maxLocals = 5 := hml0
  have hown : s.vm.findClass "com/example/variantic/variantic/rules/ArithmeticOperator" = some m.cls := findClass_of_methodNamed Bd.named
  have hnm := (name_of_methodNamed Bd.named Bd.method).1
  have X0 : Stand p l e ({ frames := 2, cells := 1, slots := 4, locals := 25 } : Room) s m #[(.int p1)] below meth c s₁ [] 0 0 := Stand.of_body Bd
  have e0 : s₁.heap = h0 := by rw [← hh, Bd.state]; rfl
  have N0 := Fr.nil n0
  have pre0 : ∀ t, Steps p.tables e below (s₁.setTop (mkF m 0 #[.val (.int p1), .unset, .unset, .unset, .unset] [])) t → Steps p.tables e below (s₁.setTop (entryFrame m #[(.int p1)] 5)) t := fun t k => castTop (ef_1 m p1) k
  -- 3. LAWS
  obtain ⟨arr, garr⟩ : ∃ z, z = h0.size := ⟨_, rfl⟩
  -- pc 0: com/example/variantic/variantic/rules/ArithmeticOperator.values by its contract rm2
  obtain ⟨_, _, ⟨T2, L2, k2, n2⟩, -, X2, ⟨Lc2, hQ2, l2, y2, z2⟩, st2⟩ := Jvm.LawKit.callS X0 hx (y := (⟨"com/example/variantic/variantic/rules/ArithmeticOperator", "values", "()[Lcom/example/variantic/variantic/rules/ArithmeticOperator;"⟩ : MethodName)) hown (mvT hZ (hw _ (List.mem_of_getElem? (i := 4) rfl))) (mvT hZ (hw _ (List.mem_of_getElem? (i := 5) rfl))) (mvT hZ (hw _ (List.mem_of_getElem? (i := 2) rfl))) (mvT hZ (hw _ (List.mem_of_getElem? (i := 6) rfl))) (by decide) (backOf (W := 0) (rm2_v l Z a0 hw []  wV arr kV wA wS wM wD h0 n0 Z0 garr V_V E_V S_V) hZ (hw _ (List.mem_of_getElem? (i := 6) rfl)) (hw _ (List.mem_of_getElem? (i := 2) rfl)) (by decide) (by decide)) (g := (mkF m 0 #[.val (.int p1), .unset, .unset, .unset, .unset] [])) rfl (by rw [hml]; rfl) (argsL := []) (rest := []) (lenOf pd_1_1 rfl) rfl (by show 2 * 0 + _ ≤ _; exact Nat.le_of_eq rfl) (hb hby d1_0) (fun _ _ => ⟨rfl, e0, (by decide : 0 + 1 ≤ _), (by decide : 0 + 4 ≤ _)⟩)
  dsimp only [Pt.U, Pt.locs, Pt.cells, Pt.slots] at X2 l2 y2 z2 st2 hQ2
  subst l2 y2 z2
  obtain ⟨rfl, N2q, E2, V2⟩ := hQ2
  have N2 := Fr.app N0 N2q
  obtain ⟨cl_arr, Ar_arr, -, S_arr, N_arr, H_arr, -⟩ := V2
  obtain ⟨T4, X4, e4, st4⟩ := getF X2 hx hZ hown (host := "") (Or.inl (hw _ (List.mem_of_getElem? (i := 23) rfl))) Via.refl rfl (F_symbol_wA.ext E2) (g := (mkF m 21 #[.val (.int p1), .val (.ref arr), .val (.int (4 : Int32)), .val (.int (0 : Int32)), .val (.ref wA)] [(.ref wA)])) rfl rfl (hb hby d1_21)
  obtain ⟨T6, X6, e6, st6⟩ := getF X4 hx hZ hown (host := "") (Or.inl (hw _ (List.mem_of_getElem? (i := 23) rfl))) Via.refl e4 (F_symbol_wS.ext E2) (g := (mkF m 21 #[.val (.int p1), .val (.ref arr), .val (.int (4 : Int32)), .val (.int (1 : Int32)), .val (.ref wS)] [(.ref wS)])) rfl rfl (hb hby d1_21)
  obtain ⟨fs, hr, hrun, hended, hW, hsame⟩ := X6.leave (v := some (.ref wS)) (fun h => by rw [Bd.returns] at h; cases h)
  refine ⟨_, _, pre0 _ ?_, hrun, hended, _, _, rfl, ?_, ⟨_, rfl⟩, hW, hsame.mono (by decide) (by decide)⟩
  -- 4. STEPS
  · show Steps p.tables e below (s₁.setTop (mkF m 0 #[.val (.int p1), .unset, .unset, .unset, .unset] [])) _
    refine st2 _ ?_
    show Steps p.tables e below (T2.setTop (mkF m 3 #[.val (.int p1), .unset, .unset, .unset, .unset] [(.ref arr)])) _
    refine XS.astoreN X2.here hx rfl (hb hby d1_3) rfl rfl (l' := #[.val (.int p1), .val (.ref arr), .unset, .unset, .unset]) rfl ?_
    show Steps p.tables e below (T2.setTop (mkF m 4 #[.val (.int p1), .val (.ref arr), .unset, .unset, .unset] [])) _
    refine XS.aloadN X2.here hx rfl (hb hby d1_4) rfl rfl ?_
    show Steps p.tables e below (T2.setTop (mkF m 5 #[.val (.int p1), .val (.ref arr), .unset, .unset, .unset] [(.ref arr)])) _
    refine X2.arraylength hx Ar_arr.1 (State.isArrayOf_alike hZ.alike Ar_arr.2.1) (g := (mkF m 5 #[.val (.int p1), .val (.ref arr), .unset, .unset, .unset] [(.ref arr)])) rfl rfl (hb hby d1_5) _ ?_
    rw [len_of S_arr N_arr]
    show Steps p.tables e below (T2.setTop (mkF m 6 #[.val (.int p1), .val (.ref arr), .unset, .unset, .unset] [(.int (4 : Int32))])) _
    refine XS.istoreN X2.here hx rfl (hb hby d1_6) rfl (l' := #[.val (.int p1), .val (.ref arr), .val (.int (4 : Int32)), .unset, .unset]) rfl ?_
    show Steps p.tables e below (T2.setTop (mkF m 7 #[.val (.int p1), .val (.ref arr), .val (.int (4 : Int32)), .unset, .unset] [])) _
    refine XS.iconst X2.here hx rfl (hb hby d1_7) ?_
    show Steps p.tables e below (T2.setTop (mkF m 8 #[.val (.int p1), .val (.ref arr), .val (.int (4 : Int32)), .unset, .unset] [(.int (0 : Int32))])) _
    refine XS.istoreN X2.here hx rfl (hb hby d1_8) rfl (l' := #[.val (.int p1), .val (.ref arr), .val (.int (4 : Int32)), .val (.int (0 : Int32)), .unset]) rfl ?_
    show Steps p.tables e below (T2.setTop (mkF m 9 #[.val (.int p1), .val (.ref arr), .val (.int (4 : Int32)), .val (.int (0 : Int32)), .unset] [])) _
    refine XS.iloadN X2.here hx rfl (hb hby d1_9) rfl ?_
    show Steps p.tables e below (T2.setTop (mkF m 10 #[.val (.int p1), .val (.ref arr), .val (.int (4 : Int32)), .val (.int (0 : Int32)), .unset] [(.int (0 : Int32))])) _
    refine XS.iloadN X2.here hx rfl (hb hby d1_10) rfl ?_
    show Steps p.tables e below (T2.setTop (mkF m 11 #[.val (.int p1), .val (.ref arr), .val (.int (4 : Int32)), .val (.int (0 : Int32)), .unset] [(.int (4 : Int32)), (.int (0 : Int32))])) _
    refine XS.icmpNo X2.here hx rfl (hb hby d1_11) rfl (tlt (by decide : (0 : Int32) < (4 : Int32))).2.1 ?_
    show Steps p.tables e below (T2.setTop (mkF m 14 #[.val (.int p1), .val (.ref arr), .val (.int (4 : Int32)), .val (.int (0 : Int32)), .unset] [])) _
    refine XS.aloadN X2.here hx rfl (hb hby d1_14) rfl rfl ?_
    show Steps p.tables e below (T2.setTop (mkF m 15 #[.val (.int p1), .val (.ref arr), .val (.int (4 : Int32)), .val (.int (0 : Int32)), .unset] [(.ref arr)])) _
    refine XS.iloadN X2.here hx rfl (hb hby d1_15) rfl ?_
    show Steps p.tables e below (T2.setTop (mkF m 16 #[.val (.int p1), .val (.ref arr), .val (.int (4 : Int32)), .val (.int (0 : Int32)), .unset] [(.int (0 : Int32)), (.ref arr)])) _
    refine X2.aaload hx (j := (0 : Int32)) (v := (.ref wA)) Ar_arr.1 (State.isArrayOf_alike hZ.alike Ar_arr.2.1) rfl Ar_arr.2.2 (inb_of S_arr ⟨by decide, by decide⟩) (Has.at H_arr (inb_of S_arr ⟨by decide, by decide⟩) rfl) (g := (mkF m 16 #[.val (.int p1), .val (.ref arr), .val (.int (4 : Int32)), .val (.int (0 : Int32)), .unset] [(.int (0 : Int32)), (.ref arr)])) rfl rfl (hb hby d1_16) _ ?_
    show Steps p.tables e below (T2.setTop (mkF m 17 #[.val (.int p1), .val (.ref arr), .val (.int (4 : Int32)), .val (.int (0 : Int32)), .unset] [(.ref wA)])) _
    refine XS.astore X2.here hx rfl (hb hby d1_17) rfl rfl (l' := #[.val (.int p1), .val (.ref arr), .val (.int (4 : Int32)), .val (.int (0 : Int32)), .val (.ref wA)]) rfl ?_
    show Steps p.tables e below (T2.setTop (mkF m 19 #[.val (.int p1), .val (.ref arr), .val (.int (4 : Int32)), .val (.int (0 : Int32)), .val (.ref wA)] [])) _
    refine XS.aload X2.here hx rfl (hb hby d1_19) rfl rfl ?_
    show Steps p.tables e below (T2.setTop (mkF m 21 #[.val (.int p1), .val (.ref arr), .val (.int (4 : Int32)), .val (.int (0 : Int32)), .val (.ref wA)] [(.ref wA)])) _
    refine st4 _ ?_
    show Steps p.tables e below (T4.setTop (mkF m 24 #[.val (.int p1), .val (.ref arr), .val (.int (4 : Int32)), .val (.int (0 : Int32)), .val (.ref wA)] [(.int (43 : Int32))])) _
    refine XS.iloadN X4.here hx rfl (hb hby d1_24) rfl ?_
    show Steps p.tables e below (T4.setTop (mkF m 25 #[.val (.int p1), .val (.ref arr), .val (.int (4 : Int32)), .val (.int (0 : Int32)), .val (.ref wA)] [(.int p1), (.int (43 : Int32))])) _
    refine XS.icmpYes X4.here hx rfl (pc0 := 25) (pc' := 31) rfl (hb hby d1_25) rfl (feq hc25).2 (by decide) (by decide) ?_
    show Steps p.tables e below (T4.setTop (mkF m 31 #[.val (.int p1), .val (.ref arr), .val (.int (4 : Int32)), .val (.int (0 : Int32)), .val (.ref wA)] [])) _
    refine XS.iinc X4.here hx rfl (hb hby d1_31) rfl (l' := #[.val (.int p1), .val (.ref arr), .val (.int (4 : Int32)), .val (.int (1 : Int32)), .val (.ref wA)]) rfl ?_
    show Steps p.tables e below (T4.setTop (mkF m 34 #[.val (.int p1), .val (.ref arr), .val (.int (4 : Int32)), .val (.int (1 : Int32)), .val (.ref wA)] [])) _
    refine XS.goto X4.here hx rfl (pc0 := 34) (pc' := 9) rfl (hb hby d1_34) (by decide) (by decide) ?_
    show Steps p.tables e below (T4.setTop (mkF m 9 #[.val (.int p1), .val (.ref arr), .val (.int (4 : Int32)), .val (.int (1 : Int32)), .val (.ref wA)] [])) _
    refine XS.iloadN X4.here hx rfl (hb hby d1_9) rfl ?_
    show Steps p.tables e below (T4.setTop (mkF m 10 #[.val (.int p1), .val (.ref arr), .val (.int (4 : Int32)), .val (.int (1 : Int32)), .val (.ref wA)] [(.int (1 : Int32))])) _
    refine XS.iloadN X4.here hx rfl (hb hby d1_10) rfl ?_
    show Steps p.tables e below (T4.setTop (mkF m 11 #[.val (.int p1), .val (.ref arr), .val (.int (4 : Int32)), .val (.int (1 : Int32)), .val (.ref wA)] [(.int (4 : Int32)), (.int (1 : Int32))])) _
    refine XS.icmpNo X4.here hx rfl (hb hby d1_11) rfl (tlt (by decide : (1 : Int32) < (4 : Int32))).2.1 ?_
    show Steps p.tables e below (T4.setTop (mkF m 14 #[.val (.int p1), .val (.ref arr), .val (.int (4 : Int32)), .val (.int (1 : Int32)), .val (.ref wA)] [])) _
    refine XS.aloadN X4.here hx rfl (hb hby d1_14) rfl rfl ?_
    show Steps p.tables e below (T4.setTop (mkF m 15 #[.val (.int p1), .val (.ref arr), .val (.int (4 : Int32)), .val (.int (1 : Int32)), .val (.ref wA)] [(.ref arr)])) _
    refine XS.iloadN X4.here hx rfl (hb hby d1_15) rfl ?_
    show Steps p.tables e below (T4.setTop (mkF m 16 #[.val (.int p1), .val (.ref arr), .val (.int (4 : Int32)), .val (.int (1 : Int32)), .val (.ref wA)] [(.int (1 : Int32)), (.ref arr)])) _
    refine X4.aaload hx (j := (1 : Int32)) (v := (.ref wS)) (by rw [e4]; exact Ar_arr.1) (State.isArrayOf_alike hZ.alike Ar_arr.2.1) rfl Ar_arr.2.2 (inb_of S_arr ⟨by decide, by decide⟩) (Has.at H_arr (inb_of S_arr ⟨by decide, by decide⟩) rfl) (g := (mkF m 16 #[.val (.int p1), .val (.ref arr), .val (.int (4 : Int32)), .val (.int (1 : Int32)), .val (.ref wA)] [(.int (1 : Int32)), (.ref arr)])) rfl rfl (hb hby d1_16) _ ?_
    show Steps p.tables e below (T4.setTop (mkF m 17 #[.val (.int p1), .val (.ref arr), .val (.int (4 : Int32)), .val (.int (1 : Int32)), .val (.ref wA)] [(.ref wS)])) _
    refine XS.astore X4.here hx rfl (hb hby d1_17) rfl rfl (l' := #[.val (.int p1), .val (.ref arr), .val (.int (4 : Int32)), .val (.int (1 : Int32)), .val (.ref wS)]) rfl ?_
    show Steps p.tables e below (T4.setTop (mkF m 19 #[.val (.int p1), .val (.ref arr), .val (.int (4 : Int32)), .val (.int (1 : Int32)), .val (.ref wS)] [])) _
    refine XS.aload X4.here hx rfl (hb hby d1_19) rfl rfl ?_
    show Steps p.tables e below (T4.setTop (mkF m 21 #[.val (.int p1), .val (.ref arr), .val (.int (4 : Int32)), .val (.int (1 : Int32)), .val (.ref wS)] [(.ref wS)])) _
    refine st6 _ ?_
    show Steps p.tables e below (T6.setTop (mkF m 24 #[.val (.int p1), .val (.ref arr), .val (.int (4 : Int32)), .val (.int (1 : Int32)), .val (.ref wS)] [(.int (45 : Int32))])) _
    refine XS.iloadN X6.here hx rfl (hb hby d1_24) rfl ?_
    show Steps p.tables e below (T6.setTop (mkF m 25 #[.val (.int p1), .val (.ref arr), .val (.int (4 : Int32)), .val (.int (1 : Int32)), .val (.ref wS)] [(.int p1), (.int (45 : Int32))])) _
    refine XS.icmpNo X6.here hx rfl (hb hby d1_25) rfl (teq hc25_31).2 ?_
    show Steps p.tables e below (T6.setTop (mkF m 28 #[.val (.int p1), .val (.ref arr), .val (.int (4 : Int32)), .val (.int (1 : Int32)), .val (.ref wS)] [])) _
    refine XS.aload X6.here hx rfl (hb hby d1_28) rfl rfl ?_
    show Steps p.tables e below (T6.setTop (mkF m 30 #[.val (.int p1), .val (.ref arr), .val (.int (4 : Int32)), .val (.int (1 : Int32)), .val (.ref wS)] [(.ref wS)])) _
    jvm_step X6.here [X6.here.top, hx, (hb hby d1_30), X6.method', Bd.returns, Value.isRef, FieldType.isReference]
    first | (intro acts; rw [hr _ acts rfl rfl rfl]) | rw [hr _ _ rfl rfl rfl]
    exact Steps.refl _
  · show Q1_SUBTRACT Z p1 wV kV wA wS wM wD h0 n0 _ T6.heap _
    rw [e6]
    exact ⟨rfl, N2, E2⟩

def Q1_MULTIPLY (Z : State) (p1 : Int32) (wV : Addr) (kV : ClassId) (wA wS wM wD : Addr) (h0 : Heap) (n0 : Nat) (v : Option Value) (h : Heap) (L : List Loc) : Prop := v = some (.ref wM) ∧ Fr n0 L ∧ Ext h0 h
set_option maxRecDepth 65536 in
set_option maxHeartbeats 40000000 in
theorem rm1_MULTIPLY (l : Launch) (Z : State) (a0 : Array Value) (hw : ∀ d ∈ tables_1, d.before a0 Z = true) (ws : List Jvm.Cond) (p1 : Int32) (wV : Addr) (kV : ClassId) (wA wS wM wD : Addr) (h0 : Heap) (n0 : Nat) (Z0 : n0 ≤ h0.size) (S_V : Sta Z h0 "com/example/variantic/variantic/rules/ArithmeticOperator" "$VALUES" "[Lcom/example/variantic/variantic/rules/ArithmeticOperator;" (.ref wV)) (V_V : Arv Z h0 wV kV (.object "com/example/variantic/variantic/rules/ArithmeticOperator") (4 : Int32) [.ref wA, .ref wS, .ref wM, .ref wD] .null) (E_V : Exa Z h0 wV "[Lcom/example/variantic/variantic/rules/ArithmeticOperator;") (F_symbol_wA : Fld Z h0 wA "com/example/variantic/variantic/rules/ArithmeticOperator" "symbol" "C" (.int (43 : Int32))) (F_symbol_wS : Fld Z h0 wS "com/example/variantic/variantic/rules/ArithmeticOperator" "symbol" "C" (.int (45 : Int32))) (F_symbol_wM : Fld Z h0 wM "com/example/variantic/variantic/rules/ArithmeticOperator" "symbol" "C" (.int (42 : Int32))) (hc25 : ¬ ((43 : Int32) = p1)) (hc25_31 : ¬ ((45 : Int32) = p1)) (hc25_44 : (42 : Int32) = p1) :
    MetFree l (⟨"com/example/variantic/variantic/rules/ArithmeticOperator", "withSymbol", "(C)Lcom/example/variantic/variantic/rules/ArithmeticOperator;"⟩ : MethodName) (head1 (Jvm.Cond.code (⟨"com/example/variantic/variantic/rules/ArithmeticOperator", "withSymbol", "(C)Lcom/example/variantic/variantic/rules/ArithmeticOperator;"⟩ : MethodName) prog_11_method_5_code 5 (some (.object "com/example/variantic/variantic/rules/ArithmeticOperator")) :: ws) ({ frames := 2, cells := 1, slots := 4, locals := 25 } : Room)) (fun a U => a = #[(.int p1)] ∧ Z.Warmed39 U.vm ∧ U.heap = h0) (fun _ _ _ _ _ => True) (fun _ U o U' => ∃ v L, o = .returned v ∧ Q1_MULTIPLY Z p1 wV kV wA wS wM wD h0 n0 v U'.heap L ∧ FrameEnd U o U' L ({ frames := 2, cells := 1, slots := 4, locals := 25 } : Room).cells ({ frames := 2, cells := 1, slots := 4, locals := 25 } : Room).slots) := by
  refine MetFree.of_bodySF (plainFor_of_name pn_1) hisR ?_
  intro p e s m args below meth c s₁ Bd hml0 hP hK
  obtain ⟨rfl, hZ, hh⟩ := hP
  have hx := Bd.exec
  have hby := Bd.bytes
  have hml : c.maxLocals = 5 := hml0
  have hown : s.vm.findClass "com/example/variantic/variantic/rules/ArithmeticOperator" = some m.cls := findClass_of_methodNamed Bd.named
  have hnm := (name_of_methodNamed Bd.named Bd.method).1
  have X0 : Stand p l e ({ frames := 2, cells := 1, slots := 4, locals := 25 } : Room) s m #[(.int p1)] below meth c s₁ [] 0 0 := Stand.of_body Bd
  have e0 : s₁.heap = h0 := by rw [← hh, Bd.state]; rfl
  have N0 := Fr.nil n0
  have pre0 : ∀ t, Steps p.tables e below (s₁.setTop (mkF m 0 #[.val (.int p1), .unset, .unset, .unset, .unset] [])) t → Steps p.tables e below (s₁.setTop (entryFrame m #[(.int p1)] 5)) t := fun t k => castTop (ef_1 m p1) k
  -- 3. LAWS
  obtain ⟨arr, garr⟩ : ∃ z, z = h0.size := ⟨_, rfl⟩
  -- pc 0: com/example/variantic/variantic/rules/ArithmeticOperator.values by its contract rm2
  obtain ⟨_, _, ⟨T2, L2, k2, n2⟩, -, X2, ⟨Lc2, hQ2, l2, y2, z2⟩, st2⟩ := Jvm.LawKit.callS X0 hx (y := (⟨"com/example/variantic/variantic/rules/ArithmeticOperator", "values", "()[Lcom/example/variantic/variantic/rules/ArithmeticOperator;"⟩ : MethodName)) hown (mvT hZ (hw _ (List.mem_of_getElem? (i := 4) rfl))) (mvT hZ (hw _ (List.mem_of_getElem? (i := 5) rfl))) (mvT hZ (hw _ (List.mem_of_getElem? (i := 2) rfl))) (mvT hZ (hw _ (List.mem_of_getElem? (i := 6) rfl))) (by decide) (backOf (W := 0) (rm2_v l Z a0 hw []  wV arr kV wA wS wM wD h0 n0 Z0 garr V_V E_V S_V) hZ (hw _ (List.mem_of_getElem? (i := 6) rfl)) (hw _ (List.mem_of_getElem? (i := 2) rfl)) (by decide) (by decide)) (g := (mkF m 0 #[.val (.int p1), .unset, .unset, .unset, .unset] [])) rfl (by rw [hml]; rfl) (argsL := []) (rest := []) (lenOf pd_1_1 rfl) rfl (by show 2 * 0 + _ ≤ _; exact Nat.le_of_eq rfl) (hb hby d1_0) (fun _ _ => ⟨rfl, e0, (by decide : 0 + 1 ≤ _), (by decide : 0 + 4 ≤ _)⟩)
  dsimp only [Pt.U, Pt.locs, Pt.cells, Pt.slots] at X2 l2 y2 z2 st2 hQ2
  subst l2 y2 z2
  obtain ⟨rfl, N2q, E2, V2⟩ := hQ2
  have N2 := Fr.app N0 N2q
  obtain ⟨cl_arr, Ar_arr, -, S_arr, N_arr, H_arr, -⟩ := V2
  obtain ⟨T4, X4, e4, st4⟩ := getF X2 hx hZ hown (host := "") (Or.inl (hw _ (List.mem_of_getElem? (i := 23) rfl))) Via.refl rfl (F_symbol_wA.ext E2) (g := (mkF m 21 #[.val (.int p1), .val (.ref arr), .val (.int (4 : Int32)), .val (.int (0 : Int32)), .val (.ref wA)] [(.ref wA)])) rfl rfl (hb hby d1_21)
  obtain ⟨T6, X6, e6, st6⟩ := getF X4 hx hZ hown (host := "") (Or.inl (hw _ (List.mem_of_getElem? (i := 23) rfl))) Via.refl e4 (F_symbol_wS.ext E2) (g := (mkF m 21 #[.val (.int p1), .val (.ref arr), .val (.int (4 : Int32)), .val (.int (1 : Int32)), .val (.ref wS)] [(.ref wS)])) rfl rfl (hb hby d1_21)
  obtain ⟨T8, X8, e8, st8⟩ := getF X6 hx hZ hown (host := "") (Or.inl (hw _ (List.mem_of_getElem? (i := 23) rfl))) Via.refl e6 (F_symbol_wM.ext E2) (g := (mkF m 21 #[.val (.int p1), .val (.ref arr), .val (.int (4 : Int32)), .val (.int (2 : Int32)), .val (.ref wM)] [(.ref wM)])) rfl rfl (hb hby d1_21)
  obtain ⟨fs, hr, hrun, hended, hW, hsame⟩ := X8.leave (v := some (.ref wM)) (fun h => by rw [Bd.returns] at h; cases h)
  refine ⟨_, _, pre0 _ ?_, hrun, hended, _, _, rfl, ?_, ⟨_, rfl⟩, hW, hsame.mono (by decide) (by decide)⟩
  -- 4. STEPS
  · show Steps p.tables e below (s₁.setTop (mkF m 0 #[.val (.int p1), .unset, .unset, .unset, .unset] [])) _
    refine st2 _ ?_
    show Steps p.tables e below (T2.setTop (mkF m 3 #[.val (.int p1), .unset, .unset, .unset, .unset] [(.ref arr)])) _
    refine XS.astoreN X2.here hx rfl (hb hby d1_3) rfl rfl (l' := #[.val (.int p1), .val (.ref arr), .unset, .unset, .unset]) rfl ?_
    show Steps p.tables e below (T2.setTop (mkF m 4 #[.val (.int p1), .val (.ref arr), .unset, .unset, .unset] [])) _
    refine XS.aloadN X2.here hx rfl (hb hby d1_4) rfl rfl ?_
    show Steps p.tables e below (T2.setTop (mkF m 5 #[.val (.int p1), .val (.ref arr), .unset, .unset, .unset] [(.ref arr)])) _
    refine X2.arraylength hx Ar_arr.1 (State.isArrayOf_alike hZ.alike Ar_arr.2.1) (g := (mkF m 5 #[.val (.int p1), .val (.ref arr), .unset, .unset, .unset] [(.ref arr)])) rfl rfl (hb hby d1_5) _ ?_
    rw [len_of S_arr N_arr]
    show Steps p.tables e below (T2.setTop (mkF m 6 #[.val (.int p1), .val (.ref arr), .unset, .unset, .unset] [(.int (4 : Int32))])) _
    refine XS.istoreN X2.here hx rfl (hb hby d1_6) rfl (l' := #[.val (.int p1), .val (.ref arr), .val (.int (4 : Int32)), .unset, .unset]) rfl ?_
    show Steps p.tables e below (T2.setTop (mkF m 7 #[.val (.int p1), .val (.ref arr), .val (.int (4 : Int32)), .unset, .unset] [])) _
    refine XS.iconst X2.here hx rfl (hb hby d1_7) ?_
    show Steps p.tables e below (T2.setTop (mkF m 8 #[.val (.int p1), .val (.ref arr), .val (.int (4 : Int32)), .unset, .unset] [(.int (0 : Int32))])) _
    refine XS.istoreN X2.here hx rfl (hb hby d1_8) rfl (l' := #[.val (.int p1), .val (.ref arr), .val (.int (4 : Int32)), .val (.int (0 : Int32)), .unset]) rfl ?_
    show Steps p.tables e below (T2.setTop (mkF m 9 #[.val (.int p1), .val (.ref arr), .val (.int (4 : Int32)), .val (.int (0 : Int32)), .unset] [])) _
    refine XS.iloadN X2.here hx rfl (hb hby d1_9) rfl ?_
    show Steps p.tables e below (T2.setTop (mkF m 10 #[.val (.int p1), .val (.ref arr), .val (.int (4 : Int32)), .val (.int (0 : Int32)), .unset] [(.int (0 : Int32))])) _
    refine XS.iloadN X2.here hx rfl (hb hby d1_10) rfl ?_
    show Steps p.tables e below (T2.setTop (mkF m 11 #[.val (.int p1), .val (.ref arr), .val (.int (4 : Int32)), .val (.int (0 : Int32)), .unset] [(.int (4 : Int32)), (.int (0 : Int32))])) _
    refine XS.icmpNo X2.here hx rfl (hb hby d1_11) rfl (tlt (by decide : (0 : Int32) < (4 : Int32))).2.1 ?_
    show Steps p.tables e below (T2.setTop (mkF m 14 #[.val (.int p1), .val (.ref arr), .val (.int (4 : Int32)), .val (.int (0 : Int32)), .unset] [])) _
    refine XS.aloadN X2.here hx rfl (hb hby d1_14) rfl rfl ?_
    show Steps p.tables e below (T2.setTop (mkF m 15 #[.val (.int p1), .val (.ref arr), .val (.int (4 : Int32)), .val (.int (0 : Int32)), .unset] [(.ref arr)])) _
    refine XS.iloadN X2.here hx rfl (hb hby d1_15) rfl ?_
    show Steps p.tables e below (T2.setTop (mkF m 16 #[.val (.int p1), .val (.ref arr), .val (.int (4 : Int32)), .val (.int (0 : Int32)), .unset] [(.int (0 : Int32)), (.ref arr)])) _
    refine X2.aaload hx (j := (0 : Int32)) (v := (.ref wA)) Ar_arr.1 (State.isArrayOf_alike hZ.alike Ar_arr.2.1) rfl Ar_arr.2.2 (inb_of S_arr ⟨by decide, by decide⟩) (Has.at H_arr (inb_of S_arr ⟨by decide, by decide⟩) rfl) (g := (mkF m 16 #[.val (.int p1), .val (.ref arr), .val (.int (4 : Int32)), .val (.int (0 : Int32)), .unset] [(.int (0 : Int32)), (.ref arr)])) rfl rfl (hb hby d1_16) _ ?_
    show Steps p.tables e below (T2.setTop (mkF m 17 #[.val (.int p1), .val (.ref arr), .val (.int (4 : Int32)), .val (.int (0 : Int32)), .unset] [(.ref wA)])) _
    refine XS.astore X2.here hx rfl (hb hby d1_17) rfl rfl (l' := #[.val (.int p1), .val (.ref arr), .val (.int (4 : Int32)), .val (.int (0 : Int32)), .val (.ref wA)]) rfl ?_
    show Steps p.tables e below (T2.setTop (mkF m 19 #[.val (.int p1), .val (.ref arr), .val (.int (4 : Int32)), .val (.int (0 : Int32)), .val (.ref wA)] [])) _
    refine XS.aload X2.here hx rfl (hb hby d1_19) rfl rfl ?_
    show Steps p.tables e below (T2.setTop (mkF m 21 #[.val (.int p1), .val (.ref arr), .val (.int (4 : Int32)), .val (.int (0 : Int32)), .val (.ref wA)] [(.ref wA)])) _
    refine st4 _ ?_
    show Steps p.tables e below (T4.setTop (mkF m 24 #[.val (.int p1), .val (.ref arr), .val (.int (4 : Int32)), .val (.int (0 : Int32)), .val (.ref wA)] [(.int (43 : Int32))])) _
    refine XS.iloadN X4.here hx rfl (hb hby d1_24) rfl ?_
    show Steps p.tables e below (T4.setTop (mkF m 25 #[.val (.int p1), .val (.ref arr), .val (.int (4 : Int32)), .val (.int (0 : Int32)), .val (.ref wA)] [(.int p1), (.int (43 : Int32))])) _
    refine XS.icmpYes X4.here hx rfl (pc0 := 25) (pc' := 31) rfl (hb hby d1_25) rfl (feq hc25).2 (by decide) (by decide) ?_
    show Steps p.tables e below (T4.setTop (mkF m 31 #[.val (.int p1), .val (.ref arr), .val (.int (4 : Int32)), .val (.int (0 : Int32)), .val (.ref wA)] [])) _
    refine XS.iinc X4.here hx rfl (hb hby d1_31) rfl (l' := #[.val (.int p1), .val (.ref arr), .val (.int (4 : Int32)), .val (.int (1 : Int32)), .val (.ref wA)]) rfl ?_
    show Steps p.tables e below (T4.setTop (mkF m 34 #[.val (.int p1), .val (.ref arr), .val (.int (4 : Int32)), .val (.int (1 : Int32)), .val (.ref wA)] [])) _
    refine XS.goto X4.here hx rfl (pc0 := 34) (pc' := 9) rfl (hb hby d1_34) (by decide) (by decide) ?_
    show Steps p.tables e below (T4.setTop (mkF m 9 #[.val (.int p1), .val (.ref arr), .val (.int (4 : Int32)), .val (.int (1 : Int32)), .val (.ref wA)] [])) _
    refine XS.iloadN X4.here hx rfl (hb hby d1_9) rfl ?_
    show Steps p.tables e below (T4.setTop (mkF m 10 #[.val (.int p1), .val (.ref arr), .val (.int (4 : Int32)), .val (.int (1 : Int32)), .val (.ref wA)] [(.int (1 : Int32))])) _
    refine XS.iloadN X4.here hx rfl (hb hby d1_10) rfl ?_
    show Steps p.tables e below (T4.setTop (mkF m 11 #[.val (.int p1), .val (.ref arr), .val (.int (4 : Int32)), .val (.int (1 : Int32)), .val (.ref wA)] [(.int (4 : Int32)), (.int (1 : Int32))])) _
    refine XS.icmpNo X4.here hx rfl (hb hby d1_11) rfl (tlt (by decide : (1 : Int32) < (4 : Int32))).2.1 ?_
    show Steps p.tables e below (T4.setTop (mkF m 14 #[.val (.int p1), .val (.ref arr), .val (.int (4 : Int32)), .val (.int (1 : Int32)), .val (.ref wA)] [])) _
    refine XS.aloadN X4.here hx rfl (hb hby d1_14) rfl rfl ?_
    show Steps p.tables e below (T4.setTop (mkF m 15 #[.val (.int p1), .val (.ref arr), .val (.int (4 : Int32)), .val (.int (1 : Int32)), .val (.ref wA)] [(.ref arr)])) _
    refine XS.iloadN X4.here hx rfl (hb hby d1_15) rfl ?_
    show Steps p.tables e below (T4.setTop (mkF m 16 #[.val (.int p1), .val (.ref arr), .val (.int (4 : Int32)), .val (.int (1 : Int32)), .val (.ref wA)] [(.int (1 : Int32)), (.ref arr)])) _
    refine X4.aaload hx (j := (1 : Int32)) (v := (.ref wS)) (by rw [e4]; exact Ar_arr.1) (State.isArrayOf_alike hZ.alike Ar_arr.2.1) rfl Ar_arr.2.2 (inb_of S_arr ⟨by decide, by decide⟩) (Has.at H_arr (inb_of S_arr ⟨by decide, by decide⟩) rfl) (g := (mkF m 16 #[.val (.int p1), .val (.ref arr), .val (.int (4 : Int32)), .val (.int (1 : Int32)), .val (.ref wA)] [(.int (1 : Int32)), (.ref arr)])) rfl rfl (hb hby d1_16) _ ?_
    show Steps p.tables e below (T4.setTop (mkF m 17 #[.val (.int p1), .val (.ref arr), .val (.int (4 : Int32)), .val (.int (1 : Int32)), .val (.ref wA)] [(.ref wS)])) _
    refine XS.astore X4.here hx rfl (hb hby d1_17) rfl rfl (l' := #[.val (.int p1), .val (.ref arr), .val (.int (4 : Int32)), .val (.int (1 : Int32)), .val (.ref wS)]) rfl ?_
    show Steps p.tables e below (T4.setTop (mkF m 19 #[.val (.int p1), .val (.ref arr), .val (.int (4 : Int32)), .val (.int (1 : Int32)), .val (.ref wS)] [])) _
    refine XS.aload X4.here hx rfl (hb hby d1_19) rfl rfl ?_
    show Steps p.tables e below (T4.setTop (mkF m 21 #[.val (.int p1), .val (.ref arr), .val (.int (4 : Int32)), .val (.int (1 : Int32)), .val (.ref wS)] [(.ref wS)])) _
    refine st6 _ ?_
    show Steps p.tables e below (T6.setTop (mkF m 24 #[.val (.int p1), .val (.ref arr), .val (.int (4 : Int32)), .val (.int (1 : Int32)), .val (.ref wS)] [(.int (45 : Int32))])) _
    refine XS.iloadN X6.here hx rfl (hb hby d1_24) rfl ?_
    show Steps p.tables e below (T6.setTop (mkF m 25 #[.val (.int p1), .val (.ref arr), .val (.int (4 : Int32)), .val (.int (1 : Int32)), .val (.ref wS)] [(.int p1), (.int (45 : Int32))])) _
    refine XS.icmpYes X6.here hx rfl (pc0 := 25) (pc' := 31) rfl (hb hby d1_25) rfl (feq hc25_31).2 (by decide) (by decide) ?_
    show Steps p.tables e below (T6.setTop (mkF m 31 #[.val (.int p1), .val (.ref arr), .val (.int (4 : Int32)), .val (.int (1 : Int32)), .val (.ref wS)] [])) _
    refine XS.iinc X6.here hx rfl (hb hby d1_31) rfl (l' := #[.val (.int p1), .val (.ref arr), .val (.int (4 : Int32)), .val (.int (2 : Int32)), .val (.ref wS)]) rfl ?_
    show Steps p.tables e below (T6.setTop (mkF m 34 #[.val (.int p1), .val (.ref arr), .val (.int (4 : Int32)), .val (.int (2 : Int32)), .val (.ref wS)] [])) _
    refine XS.goto X6.here hx rfl (pc0 := 34) (pc' := 9) rfl (hb hby d1_34) (by decide) (by decide) ?_
    show Steps p.tables e below (T6.setTop (mkF m 9 #[.val (.int p1), .val (.ref arr), .val (.int (4 : Int32)), .val (.int (2 : Int32)), .val (.ref wS)] [])) _
    refine XS.iloadN X6.here hx rfl (hb hby d1_9) rfl ?_
    show Steps p.tables e below (T6.setTop (mkF m 10 #[.val (.int p1), .val (.ref arr), .val (.int (4 : Int32)), .val (.int (2 : Int32)), .val (.ref wS)] [(.int (2 : Int32))])) _
    refine XS.iloadN X6.here hx rfl (hb hby d1_10) rfl ?_
    show Steps p.tables e below (T6.setTop (mkF m 11 #[.val (.int p1), .val (.ref arr), .val (.int (4 : Int32)), .val (.int (2 : Int32)), .val (.ref wS)] [(.int (4 : Int32)), (.int (2 : Int32))])) _
    refine XS.icmpNo X6.here hx rfl (hb hby d1_11) rfl (tlt (by decide : (2 : Int32) < (4 : Int32))).2.1 ?_
    show Steps p.tables e below (T6.setTop (mkF m 14 #[.val (.int p1), .val (.ref arr), .val (.int (4 : Int32)), .val (.int (2 : Int32)), .val (.ref wS)] [])) _
    refine XS.aloadN X6.here hx rfl (hb hby d1_14) rfl rfl ?_
    show Steps p.tables e below (T6.setTop (mkF m 15 #[.val (.int p1), .val (.ref arr), .val (.int (4 : Int32)), .val (.int (2 : Int32)), .val (.ref wS)] [(.ref arr)])) _
    refine XS.iloadN X6.here hx rfl (hb hby d1_15) rfl ?_
    show Steps p.tables e below (T6.setTop (mkF m 16 #[.val (.int p1), .val (.ref arr), .val (.int (4 : Int32)), .val (.int (2 : Int32)), .val (.ref wS)] [(.int (2 : Int32)), (.ref arr)])) _
    refine X6.aaload hx (j := (2 : Int32)) (v := (.ref wM)) (by rw [e6]; exact Ar_arr.1) (State.isArrayOf_alike hZ.alike Ar_arr.2.1) rfl Ar_arr.2.2 (inb_of S_arr ⟨by decide, by decide⟩) (Has.at H_arr (inb_of S_arr ⟨by decide, by decide⟩) rfl) (g := (mkF m 16 #[.val (.int p1), .val (.ref arr), .val (.int (4 : Int32)), .val (.int (2 : Int32)), .val (.ref wS)] [(.int (2 : Int32)), (.ref arr)])) rfl rfl (hb hby d1_16) _ ?_
    show Steps p.tables e below (T6.setTop (mkF m 17 #[.val (.int p1), .val (.ref arr), .val (.int (4 : Int32)), .val (.int (2 : Int32)), .val (.ref wS)] [(.ref wM)])) _
    refine XS.astore X6.here hx rfl (hb hby d1_17) rfl rfl (l' := #[.val (.int p1), .val (.ref arr), .val (.int (4 : Int32)), .val (.int (2 : Int32)), .val (.ref wM)]) rfl ?_
    show Steps p.tables e below (T6.setTop (mkF m 19 #[.val (.int p1), .val (.ref arr), .val (.int (4 : Int32)), .val (.int (2 : Int32)), .val (.ref wM)] [])) _
    refine XS.aload X6.here hx rfl (hb hby d1_19) rfl rfl ?_
    show Steps p.tables e below (T6.setTop (mkF m 21 #[.val (.int p1), .val (.ref arr), .val (.int (4 : Int32)), .val (.int (2 : Int32)), .val (.ref wM)] [(.ref wM)])) _
    refine st8 _ ?_
    show Steps p.tables e below (T8.setTop (mkF m 24 #[.val (.int p1), .val (.ref arr), .val (.int (4 : Int32)), .val (.int (2 : Int32)), .val (.ref wM)] [(.int (42 : Int32))])) _
    refine XS.iloadN X8.here hx rfl (hb hby d1_24) rfl ?_
    show Steps p.tables e below (T8.setTop (mkF m 25 #[.val (.int p1), .val (.ref arr), .val (.int (4 : Int32)), .val (.int (2 : Int32)), .val (.ref wM)] [(.int p1), (.int (42 : Int32))])) _
    refine XS.icmpNo X8.here hx rfl (hb hby d1_25) rfl (teq hc25_44).2 ?_
    show Steps p.tables e below (T8.setTop (mkF m 28 #[.val (.int p1), .val (.ref arr), .val (.int (4 : Int32)), .val (.int (2 : Int32)), .val (.ref wM)] [])) _
    refine XS.aload X8.here hx rfl (hb hby d1_28) rfl rfl ?_
    show Steps p.tables e below (T8.setTop (mkF m 30 #[.val (.int p1), .val (.ref arr), .val (.int (4 : Int32)), .val (.int (2 : Int32)), .val (.ref wM)] [(.ref wM)])) _
    jvm_step X8.here [X8.here.top, hx, (hb hby d1_30), X8.method', Bd.returns, Value.isRef, FieldType.isReference]
    first | (intro acts; rw [hr _ acts rfl rfl rfl]) | rw [hr _ _ rfl rfl rfl]
    exact Steps.refl _
  · show Q1_MULTIPLY Z p1 wV kV wA wS wM wD h0 n0 _ T8.heap _
    rw [e8]
    exact ⟨rfl, N2, E2⟩

def Q1_DIVIDE (Z : State) (p1 : Int32) (wV : Addr) (kV : ClassId) (wA wS wM wD : Addr) (h0 : Heap) (n0 : Nat) (v : Option Value) (h : Heap) (L : List Loc) : Prop := v = some (.ref wD) ∧ Fr n0 L ∧ Ext h0 h
set_option maxRecDepth 65536 in
set_option maxHeartbeats 40000000 in
theorem rm1_DIVIDE (l : Launch) (Z : State) (a0 : Array Value) (hw : ∀ d ∈ tables_1, d.before a0 Z = true) (ws : List Jvm.Cond) (p1 : Int32) (wV : Addr) (kV : ClassId) (wA wS wM wD : Addr) (h0 : Heap) (n0 : Nat) (Z0 : n0 ≤ h0.size) (S_V : Sta Z h0 "com/example/variantic/variantic/rules/ArithmeticOperator" "$VALUES" "[Lcom/example/variantic/variantic/rules/ArithmeticOperator;" (.ref wV)) (V_V : Arv Z h0 wV kV (.object "com/example/variantic/variantic/rules/ArithmeticOperator") (4 : Int32) [.ref wA, .ref wS, .ref wM, .ref wD] .null) (E_V : Exa Z h0 wV "[Lcom/example/variantic/variantic/rules/ArithmeticOperator;") (F_symbol_wA : Fld Z h0 wA "com/example/variantic/variantic/rules/ArithmeticOperator" "symbol" "C" (.int (43 : Int32))) (F_symbol_wS : Fld Z h0 wS "com/example/variantic/variantic/rules/ArithmeticOperator" "symbol" "C" (.int (45 : Int32))) (F_symbol_wM : Fld Z h0 wM "com/example/variantic/variantic/rules/ArithmeticOperator" "symbol" "C" (.int (42 : Int32))) (F_symbol_wD : Fld Z h0 wD "com/example/variantic/variantic/rules/ArithmeticOperator" "symbol" "C" (.int (47 : Int32))) (hc25 : ¬ ((43 : Int32) = p1)) (hc25_31 : ¬ ((45 : Int32) = p1)) (hc25_44 : ¬ ((42 : Int32) = p1)) (hc25_57 : (47 : Int32) = p1) :
    MetFree l (⟨"com/example/variantic/variantic/rules/ArithmeticOperator", "withSymbol", "(C)Lcom/example/variantic/variantic/rules/ArithmeticOperator;"⟩ : MethodName) (head1 (Jvm.Cond.code (⟨"com/example/variantic/variantic/rules/ArithmeticOperator", "withSymbol", "(C)Lcom/example/variantic/variantic/rules/ArithmeticOperator;"⟩ : MethodName) prog_11_method_5_code 5 (some (.object "com/example/variantic/variantic/rules/ArithmeticOperator")) :: ws) ({ frames := 2, cells := 1, slots := 4, locals := 25 } : Room)) (fun a U => a = #[(.int p1)] ∧ Z.Warmed39 U.vm ∧ U.heap = h0) (fun _ _ _ _ _ => True) (fun _ U o U' => ∃ v L, o = .returned v ∧ Q1_DIVIDE Z p1 wV kV wA wS wM wD h0 n0 v U'.heap L ∧ FrameEnd U o U' L ({ frames := 2, cells := 1, slots := 4, locals := 25 } : Room).cells ({ frames := 2, cells := 1, slots := 4, locals := 25 } : Room).slots) := by
  refine MetFree.of_bodySF (plainFor_of_name pn_1) hisR ?_
  intro p e s m args below meth c s₁ Bd hml0 hP hK
  obtain ⟨rfl, hZ, hh⟩ := hP
  have hx := Bd.exec
  have hby := Bd.bytes
  have hml : c.maxLocals = 5 := hml0
  have hown : s.vm.findClass "com/example/variantic/variantic/rules/ArithmeticOperator" = some m.cls := findClass_of_methodNamed Bd.named
  have hnm := (name_of_methodNamed Bd.named Bd.method).1
  have X0 : Stand p l e ({ frames := 2, cells := 1, slots := 4, locals := 25 } : Room) s m #[(.int p1)] below meth c s₁ [] 0 0 := Stand.of_body Bd
  have e0 : s₁.heap = h0 := by rw [← hh, Bd.state]; rfl
  have N0 := Fr.nil n0
  have pre0 : ∀ t, Steps p.tables e below (s₁.setTop (mkF m 0 #[.val (.int p1), .unset, .unset, .unset, .unset] [])) t → Steps p.tables e below (s₁.setTop (entryFrame m #[(.int p1)] 5)) t := fun t k => castTop (ef_1 m p1) k
  -- 3. LAWS
  obtain ⟨arr, garr⟩ : ∃ z, z = h0.size := ⟨_, rfl⟩
  -- pc 0: com/example/variantic/variantic/rules/ArithmeticOperator.values by its contract rm2
  obtain ⟨_, _, ⟨T2, L2, k2, n2⟩, -, X2, ⟨Lc2, hQ2, l2, y2, z2⟩, st2⟩ := Jvm.LawKit.callS X0 hx (y := (⟨"com/example/variantic/variantic/rules/ArithmeticOperator", "values", "()[Lcom/example/variantic/variantic/rules/ArithmeticOperator;"⟩ : MethodName)) hown (mvT hZ (hw _ (List.mem_of_getElem? (i := 4) rfl))) (mvT hZ (hw _ (List.mem_of_getElem? (i := 5) rfl))) (mvT hZ (hw _ (List.mem_of_getElem? (i := 2) rfl))) (mvT hZ (hw _ (List.mem_of_getElem? (i := 6) rfl))) (by decide) (backOf (W := 0) (rm2_v l Z a0 hw []  wV arr kV wA wS wM wD h0 n0 Z0 garr V_V E_V S_V) hZ (hw _ (List.mem_of_getElem? (i := 6) rfl)) (hw _ (List.mem_of_getElem? (i := 2) rfl)) (by decide) (by decide)) (g := (mkF m 0 #[.val (.int p1), .unset, .unset, .unset, .unset] [])) rfl (by rw [hml]; rfl) (argsL := []) (rest := []) (lenOf pd_1_1 rfl) rfl (by show 2 * 0 + _ ≤ _; exact Nat.le_of_eq rfl) (hb hby d1_0) (fun _ _ => ⟨rfl, e0, (by decide : 0 + 1 ≤ _), (by decide : 0 + 4 ≤ _)⟩)
  dsimp only [Pt.U, Pt.locs, Pt.cells, Pt.slots] at X2 l2 y2 z2 st2 hQ2
  subst l2 y2 z2
  obtain ⟨rfl, N2q, E2, V2⟩ := hQ2
  have N2 := Fr.app N0 N2q
  obtain ⟨cl_arr, Ar_arr, -, S_arr, N_arr, H_arr, -⟩ := V2
  obtain ⟨T4, X4, e4, st4⟩ := getF X2 hx hZ hown (host := "") (Or.inl (hw _ (List.mem_of_getElem? (i := 23) rfl))) Via.refl rfl (F_symbol_wA.ext E2) (g := (mkF m 21 #[.val (.int p1), .val (.ref arr), .val (.int (4 : Int32)), .val (.int (0 : Int32)), .val (.ref wA)] [(.ref wA)])) rfl rfl (hb hby d1_21)
  obtain ⟨T6, X6, e6, st6⟩ := getF X4 hx hZ hown (host := "") (Or.inl (hw _ (List.mem_of_getElem? (i := 23) rfl))) Via.refl e4 (F_symbol_wS.ext E2) (g := (mkF m 21 #[.val (.int p1), .val (.ref arr), .val (.int (4 : Int32)), .val (.int (1 : Int32)), .val (.ref wS)] [(.ref wS)])) rfl rfl (hb hby d1_21)
  obtain ⟨T8, X8, e8, st8⟩ := getF X6 hx hZ hown (host := "") (Or.inl (hw _ (List.mem_of_getElem? (i := 23) rfl))) Via.refl e6 (F_symbol_wM.ext E2) (g := (mkF m 21 #[.val (.int p1), .val (.ref arr), .val (.int (4 : Int32)), .val (.int (2 : Int32)), .val (.ref wM)] [(.ref wM)])) rfl rfl (hb hby d1_21)
  obtain ⟨T10, X10, e10, st10⟩ := getF X8 hx hZ hown (host := "") (Or.inl (hw _ (List.mem_of_getElem? (i := 23) rfl))) Via.refl e8 (F_symbol_wD.ext E2) (g := (mkF m 21 #[.val (.int p1), .val (.ref arr), .val (.int (4 : Int32)), .val (.int (3 : Int32)), .val (.ref wD)] [(.ref wD)])) rfl rfl (hb hby d1_21)
  obtain ⟨fs, hr, hrun, hended, hW, hsame⟩ := X10.leave (v := some (.ref wD)) (fun h => by rw [Bd.returns] at h; cases h)
  refine ⟨_, _, pre0 _ ?_, hrun, hended, _, _, rfl, ?_, ⟨_, rfl⟩, hW, hsame.mono (by decide) (by decide)⟩
  -- 4. STEPS
  · show Steps p.tables e below (s₁.setTop (mkF m 0 #[.val (.int p1), .unset, .unset, .unset, .unset] [])) _
    refine st2 _ ?_
    show Steps p.tables e below (T2.setTop (mkF m 3 #[.val (.int p1), .unset, .unset, .unset, .unset] [(.ref arr)])) _
    refine XS.astoreN X2.here hx rfl (hb hby d1_3) rfl rfl (l' := #[.val (.int p1), .val (.ref arr), .unset, .unset, .unset]) rfl ?_
    show Steps p.tables e below (T2.setTop (mkF m 4 #[.val (.int p1), .val (.ref arr), .unset, .unset, .unset] [])) _
    refine XS.aloadN X2.here hx rfl (hb hby d1_4) rfl rfl ?_
    show Steps p.tables e below (T2.setTop (mkF m 5 #[.val (.int p1), .val (.ref arr), .unset, .unset, .unset] [(.ref arr)])) _
    refine X2.arraylength hx Ar_arr.1 (State.isArrayOf_alike hZ.alike Ar_arr.2.1) (g := (mkF m 5 #[.val (.int p1), .val (.ref arr), .unset, .unset, .unset] [(.ref arr)])) rfl rfl (hb hby d1_5) _ ?_
    rw [len_of S_arr N_arr]
    show Steps p.tables e below (T2.setTop (mkF m 6 #[.val (.int p1), .val (.ref arr), .unset, .unset, .unset] [(.int (4 : Int32))])) _
    refine XS.istoreN X2.here hx rfl (hb hby d1_6) rfl (l' := #[.val (.int p1), .val (.ref arr), .val (.int (4 : Int32)), .unset, .unset]) rfl ?_
    show Steps p.tables e below (T2.setTop (mkF m 7 #[.val (.int p1), .val (.ref arr), .val (.int (4 : Int32)), .unset, .unset] [])) _
    refine XS.iconst X2.here hx rfl (hb hby d1_7) ?_
    show Steps p.tables e below (T2.setTop (mkF m 8 #[.val (.int p1), .val (.ref arr), .val (.int (4 : Int32)), .unset, .unset] [(.int (0 : Int32))])) _
    refine XS.istoreN X2.here hx rfl (hb hby d1_8) rfl (l' := #[.val (.int p1), .val (.ref arr), .val (.int (4 : Int32)), .val (.int (0 : Int32)), .unset]) rfl ?_
    show Steps p.tables e below (T2.setTop (mkF m 9 #[.val (.int p1), .val (.ref arr), .val (.int (4 : Int32)), .val (.int (0 : Int32)), .unset] [])) _
    refine XS.iloadN X2.here hx rfl (hb hby d1_9) rfl ?_
    show Steps p.tables e below (T2.setTop (mkF m 10 #[.val (.int p1), .val (.ref arr), .val (.int (4 : Int32)), .val (.int (0 : Int32)), .unset] [(.int (0 : Int32))])) _
    refine XS.iloadN X2.here hx rfl (hb hby d1_10) rfl ?_
    show Steps p.tables e below (T2.setTop (mkF m 11 #[.val (.int p1), .val (.ref arr), .val (.int (4 : Int32)), .val (.int (0 : Int32)), .unset] [(.int (4 : Int32)), (.int (0 : Int32))])) _
    refine XS.icmpNo X2.here hx rfl (hb hby d1_11) rfl (tlt (by decide : (0 : Int32) < (4 : Int32))).2.1 ?_
    show Steps p.tables e below (T2.setTop (mkF m 14 #[.val (.int p1), .val (.ref arr), .val (.int (4 : Int32)), .val (.int (0 : Int32)), .unset] [])) _
    refine XS.aloadN X2.here hx rfl (hb hby d1_14) rfl rfl ?_
    show Steps p.tables e below (T2.setTop (mkF m 15 #[.val (.int p1), .val (.ref arr), .val (.int (4 : Int32)), .val (.int (0 : Int32)), .unset] [(.ref arr)])) _
    refine XS.iloadN X2.here hx rfl (hb hby d1_15) rfl ?_
    show Steps p.tables e below (T2.setTop (mkF m 16 #[.val (.int p1), .val (.ref arr), .val (.int (4 : Int32)), .val (.int (0 : Int32)), .unset] [(.int (0 : Int32)), (.ref arr)])) _
    refine X2.aaload hx (j := (0 : Int32)) (v := (.ref wA)) Ar_arr.1 (State.isArrayOf_alike hZ.alike Ar_arr.2.1) rfl Ar_arr.2.2 (inb_of S_arr ⟨by decide, by decide⟩) (Has.at H_arr (inb_of S_arr ⟨by decide, by decide⟩) rfl) (g := (mkF m 16 #[.val (.int p1), .val (.ref arr), .val (.int (4 : Int32)), .val (.int (0 : Int32)), .unset] [(.int (0 : Int32)), (.ref arr)])) rfl rfl (hb hby d1_16) _ ?_
    show Steps p.tables e below (T2.setTop (mkF m 17 #[.val (.int p1), .val (.ref arr), .val (.int (4 : Int32)), .val (.int (0 : Int32)), .unset] [(.ref wA)])) _
    refine XS.astore X2.here hx rfl (hb hby d1_17) rfl rfl (l' := #[.val (.int p1), .val (.ref arr), .val (.int (4 : Int32)), .val (.int (0 : Int32)), .val (.ref wA)]) rfl ?_
    show Steps p.tables e below (T2.setTop (mkF m 19 #[.val (.int p1), .val (.ref arr), .val (.int (4 : Int32)), .val (.int (0 : Int32)), .val (.ref wA)] [])) _
    refine XS.aload X2.here hx rfl (hb hby d1_19) rfl rfl ?_
    show Steps p.tables e below (T2.setTop (mkF m 21 #[.val (.int p1), .val (.ref arr), .val (.int (4 : Int32)), .val (.int (0 : Int32)), .val (.ref wA)] [(.ref wA)])) _
    refine st4 _ ?_
    show Steps p.tables e below (T4.setTop (mkF m 24 #[.val (.int p1), .val (.ref arr), .val (.int (4 : Int32)), .val (.int (0 : Int32)), .val (.ref wA)] [(.int (43 : Int32))])) _
    refine XS.iloadN X4.here hx rfl (hb hby d1_24) rfl ?_
    show Steps p.tables e below (T4.setTop (mkF m 25 #[.val (.int p1), .val (.ref arr), .val (.int (4 : Int32)), .val (.int (0 : Int32)), .val (.ref wA)] [(.int p1), (.int (43 : Int32))])) _
    refine XS.icmpYes X4.here hx rfl (pc0 := 25) (pc' := 31) rfl (hb hby d1_25) rfl (feq hc25).2 (by decide) (by decide) ?_
    show Steps p.tables e below (T4.setTop (mkF m 31 #[.val (.int p1), .val (.ref arr), .val (.int (4 : Int32)), .val (.int (0 : Int32)), .val (.ref wA)] [])) _
    refine XS.iinc X4.here hx rfl (hb hby d1_31) rfl (l' := #[.val (.int p1), .val (.ref arr), .val (.int (4 : Int32)), .val (.int (1 : Int32)), .val (.ref wA)]) rfl ?_
    show Steps p.tables e below (T4.setTop (mkF m 34 #[.val (.int p1), .val (.ref arr), .val (.int (4 : Int32)), .val (.int (1 : Int32)), .val (.ref wA)] [])) _
    refine XS.goto X4.here hx rfl (pc0 := 34) (pc' := 9) rfl (hb hby d1_34) (by decide) (by decide) ?_
    show Steps p.tables e below (T4.setTop (mkF m 9 #[.val (.int p1), .val (.ref arr), .val (.int (4 : Int32)), .val (.int (1 : Int32)), .val (.ref wA)] [])) _
    refine XS.iloadN X4.here hx rfl (hb hby d1_9) rfl ?_
    show Steps p.tables e below (T4.setTop (mkF m 10 #[.val (.int p1), .val (.ref arr), .val (.int (4 : Int32)), .val (.int (1 : Int32)), .val (.ref wA)] [(.int (1 : Int32))])) _
    refine XS.iloadN X4.here hx rfl (hb hby d1_10) rfl ?_
    show Steps p.tables e below (T4.setTop (mkF m 11 #[.val (.int p1), .val (.ref arr), .val (.int (4 : Int32)), .val (.int (1 : Int32)), .val (.ref wA)] [(.int (4 : Int32)), (.int (1 : Int32))])) _
    refine XS.icmpNo X4.here hx rfl (hb hby d1_11) rfl (tlt (by decide : (1 : Int32) < (4 : Int32))).2.1 ?_
    show Steps p.tables e below (T4.setTop (mkF m 14 #[.val (.int p1), .val (.ref arr), .val (.int (4 : Int32)), .val (.int (1 : Int32)), .val (.ref wA)] [])) _
    refine XS.aloadN X4.here hx rfl (hb hby d1_14) rfl rfl ?_
    show Steps p.tables e below (T4.setTop (mkF m 15 #[.val (.int p1), .val (.ref arr), .val (.int (4 : Int32)), .val (.int (1 : Int32)), .val (.ref wA)] [(.ref arr)])) _
    refine XS.iloadN X4.here hx rfl (hb hby d1_15) rfl ?_
    show Steps p.tables e below (T4.setTop (mkF m 16 #[.val (.int p1), .val (.ref arr), .val (.int (4 : Int32)), .val (.int (1 : Int32)), .val (.ref wA)] [(.int (1 : Int32)), (.ref arr)])) _
    refine X4.aaload hx (j := (1 : Int32)) (v := (.ref wS)) (by rw [e4]; exact Ar_arr.1) (State.isArrayOf_alike hZ.alike Ar_arr.2.1) rfl Ar_arr.2.2 (inb_of S_arr ⟨by decide, by decide⟩) (Has.at H_arr (inb_of S_arr ⟨by decide, by decide⟩) rfl) (g := (mkF m 16 #[.val (.int p1), .val (.ref arr), .val (.int (4 : Int32)), .val (.int (1 : Int32)), .val (.ref wA)] [(.int (1 : Int32)), (.ref arr)])) rfl rfl (hb hby d1_16) _ ?_
    show Steps p.tables e below (T4.setTop (mkF m 17 #[.val (.int p1), .val (.ref arr), .val (.int (4 : Int32)), .val (.int (1 : Int32)), .val (.ref wA)] [(.ref wS)])) _
    refine XS.astore X4.here hx rfl (hb hby d1_17) rfl rfl (l' := #[.val (.int p1), .val (.ref arr), .val (.int (4 : Int32)), .val (.int (1 : Int32)), .val (.ref wS)]) rfl ?_
    show Steps p.tables e below (T4.setTop (mkF m 19 #[.val (.int p1), .val (.ref arr), .val (.int (4 : Int32)), .val (.int (1 : Int32)), .val (.ref wS)] [])) _
    refine XS.aload X4.here hx rfl (hb hby d1_19) rfl rfl ?_
    show Steps p.tables e below (T4.setTop (mkF m 21 #[.val (.int p1), .val (.ref arr), .val (.int (4 : Int32)), .val (.int (1 : Int32)), .val (.ref wS)] [(.ref wS)])) _
    refine st6 _ ?_
    show Steps p.tables e below (T6.setTop (mkF m 24 #[.val (.int p1), .val (.ref arr), .val (.int (4 : Int32)), .val (.int (1 : Int32)), .val (.ref wS)] [(.int (45 : Int32))])) _
    refine XS.iloadN X6.here hx rfl (hb hby d1_24) rfl ?_
    show Steps p.tables e below (T6.setTop (mkF m 25 #[.val (.int p1), .val (.ref arr), .val (.int (4 : Int32)), .val (.int (1 : Int32)), .val (.ref wS)] [(.int p1), (.int (45 : Int32))])) _
    refine XS.icmpYes X6.here hx rfl (pc0 := 25) (pc' := 31) rfl (hb hby d1_25) rfl (feq hc25_31).2 (by decide) (by decide) ?_
    show Steps p.tables e below (T6.setTop (mkF m 31 #[.val (.int p1), .val (.ref arr), .val (.int (4 : Int32)), .val (.int (1 : Int32)), .val (.ref wS)] [])) _
    refine XS.iinc X6.here hx rfl (hb hby d1_31) rfl (l' := #[.val (.int p1), .val (.ref arr), .val (.int (4 : Int32)), .val (.int (2 : Int32)), .val (.ref wS)]) rfl ?_
    show Steps p.tables e below (T6.setTop (mkF m 34 #[.val (.int p1), .val (.ref arr), .val (.int (4 : Int32)), .val (.int (2 : Int32)), .val (.ref wS)] [])) _
    refine XS.goto X6.here hx rfl (pc0 := 34) (pc' := 9) rfl (hb hby d1_34) (by decide) (by decide) ?_
    show Steps p.tables e below (T6.setTop (mkF m 9 #[.val (.int p1), .val (.ref arr), .val (.int (4 : Int32)), .val (.int (2 : Int32)), .val (.ref wS)] [])) _
    refine XS.iloadN X6.here hx rfl (hb hby d1_9) rfl ?_
    show Steps p.tables e below (T6.setTop (mkF m 10 #[.val (.int p1), .val (.ref arr), .val (.int (4 : Int32)), .val (.int (2 : Int32)), .val (.ref wS)] [(.int (2 : Int32))])) _
    refine XS.iloadN X6.here hx rfl (hb hby d1_10) rfl ?_
    show Steps p.tables e below (T6.setTop (mkF m 11 #[.val (.int p1), .val (.ref arr), .val (.int (4 : Int32)), .val (.int (2 : Int32)), .val (.ref wS)] [(.int (4 : Int32)), (.int (2 : Int32))])) _
    refine XS.icmpNo X6.here hx rfl (hb hby d1_11) rfl (tlt (by decide : (2 : Int32) < (4 : Int32))).2.1 ?_
    show Steps p.tables e below (T6.setTop (mkF m 14 #[.val (.int p1), .val (.ref arr), .val (.int (4 : Int32)), .val (.int (2 : Int32)), .val (.ref wS)] [])) _
    refine XS.aloadN X6.here hx rfl (hb hby d1_14) rfl rfl ?_
    show Steps p.tables e below (T6.setTop (mkF m 15 #[.val (.int p1), .val (.ref arr), .val (.int (4 : Int32)), .val (.int (2 : Int32)), .val (.ref wS)] [(.ref arr)])) _
    refine XS.iloadN X6.here hx rfl (hb hby d1_15) rfl ?_
    show Steps p.tables e below (T6.setTop (mkF m 16 #[.val (.int p1), .val (.ref arr), .val (.int (4 : Int32)), .val (.int (2 : Int32)), .val (.ref wS)] [(.int (2 : Int32)), (.ref arr)])) _
    refine X6.aaload hx (j := (2 : Int32)) (v := (.ref wM)) (by rw [e6]; exact Ar_arr.1) (State.isArrayOf_alike hZ.alike Ar_arr.2.1) rfl Ar_arr.2.2 (inb_of S_arr ⟨by decide, by decide⟩) (Has.at H_arr (inb_of S_arr ⟨by decide, by decide⟩) rfl) (g := (mkF m 16 #[.val (.int p1), .val (.ref arr), .val (.int (4 : Int32)), .val (.int (2 : Int32)), .val (.ref wS)] [(.int (2 : Int32)), (.ref arr)])) rfl rfl (hb hby d1_16) _ ?_
    show Steps p.tables e below (T6.setTop (mkF m 17 #[.val (.int p1), .val (.ref arr), .val (.int (4 : Int32)), .val (.int (2 : Int32)), .val (.ref wS)] [(.ref wM)])) _
    refine XS.astore X6.here hx rfl (hb hby d1_17) rfl rfl (l' := #[.val (.int p1), .val (.ref arr), .val (.int (4 : Int32)), .val (.int (2 : Int32)), .val (.ref wM)]) rfl ?_
    show Steps p.tables e below (T6.setTop (mkF m 19 #[.val (.int p1), .val (.ref arr), .val (.int (4 : Int32)), .val (.int (2 : Int32)), .val (.ref wM)] [])) _
    refine XS.aload X6.here hx rfl (hb hby d1_19) rfl rfl ?_
    show Steps p.tables e below (T6.setTop (mkF m 21 #[.val (.int p1), .val (.ref arr), .val (.int (4 : Int32)), .val (.int (2 : Int32)), .val (.ref wM)] [(.ref wM)])) _
    refine st8 _ ?_
    show Steps p.tables e below (T8.setTop (mkF m 24 #[.val (.int p1), .val (.ref arr), .val (.int (4 : Int32)), .val (.int (2 : Int32)), .val (.ref wM)] [(.int (42 : Int32))])) _
    refine XS.iloadN X8.here hx rfl (hb hby d1_24) rfl ?_
    show Steps p.tables e below (T8.setTop (mkF m 25 #[.val (.int p1), .val (.ref arr), .val (.int (4 : Int32)), .val (.int (2 : Int32)), .val (.ref wM)] [(.int p1), (.int (42 : Int32))])) _
    refine XS.icmpYes X8.here hx rfl (pc0 := 25) (pc' := 31) rfl (hb hby d1_25) rfl (feq hc25_44).2 (by decide) (by decide) ?_
    show Steps p.tables e below (T8.setTop (mkF m 31 #[.val (.int p1), .val (.ref arr), .val (.int (4 : Int32)), .val (.int (2 : Int32)), .val (.ref wM)] [])) _
    refine XS.iinc X8.here hx rfl (hb hby d1_31) rfl (l' := #[.val (.int p1), .val (.ref arr), .val (.int (4 : Int32)), .val (.int (3 : Int32)), .val (.ref wM)]) rfl ?_
    show Steps p.tables e below (T8.setTop (mkF m 34 #[.val (.int p1), .val (.ref arr), .val (.int (4 : Int32)), .val (.int (3 : Int32)), .val (.ref wM)] [])) _
    refine XS.goto X8.here hx rfl (pc0 := 34) (pc' := 9) rfl (hb hby d1_34) (by decide) (by decide) ?_
    show Steps p.tables e below (T8.setTop (mkF m 9 #[.val (.int p1), .val (.ref arr), .val (.int (4 : Int32)), .val (.int (3 : Int32)), .val (.ref wM)] [])) _
    refine XS.iloadN X8.here hx rfl (hb hby d1_9) rfl ?_
    show Steps p.tables e below (T8.setTop (mkF m 10 #[.val (.int p1), .val (.ref arr), .val (.int (4 : Int32)), .val (.int (3 : Int32)), .val (.ref wM)] [(.int (3 : Int32))])) _
    refine XS.iloadN X8.here hx rfl (hb hby d1_10) rfl ?_
    show Steps p.tables e below (T8.setTop (mkF m 11 #[.val (.int p1), .val (.ref arr), .val (.int (4 : Int32)), .val (.int (3 : Int32)), .val (.ref wM)] [(.int (4 : Int32)), (.int (3 : Int32))])) _
    refine XS.icmpNo X8.here hx rfl (hb hby d1_11) rfl (tlt (by decide : (3 : Int32) < (4 : Int32))).2.1 ?_
    show Steps p.tables e below (T8.setTop (mkF m 14 #[.val (.int p1), .val (.ref arr), .val (.int (4 : Int32)), .val (.int (3 : Int32)), .val (.ref wM)] [])) _
    refine XS.aloadN X8.here hx rfl (hb hby d1_14) rfl rfl ?_
    show Steps p.tables e below (T8.setTop (mkF m 15 #[.val (.int p1), .val (.ref arr), .val (.int (4 : Int32)), .val (.int (3 : Int32)), .val (.ref wM)] [(.ref arr)])) _
    refine XS.iloadN X8.here hx rfl (hb hby d1_15) rfl ?_
    show Steps p.tables e below (T8.setTop (mkF m 16 #[.val (.int p1), .val (.ref arr), .val (.int (4 : Int32)), .val (.int (3 : Int32)), .val (.ref wM)] [(.int (3 : Int32)), (.ref arr)])) _
    refine X8.aaload hx (j := (3 : Int32)) (v := (.ref wD)) (by rw [e8]; exact Ar_arr.1) (State.isArrayOf_alike hZ.alike Ar_arr.2.1) rfl Ar_arr.2.2 (inb_of S_arr ⟨by decide, by decide⟩) (Has.at H_arr (inb_of S_arr ⟨by decide, by decide⟩) rfl) (g := (mkF m 16 #[.val (.int p1), .val (.ref arr), .val (.int (4 : Int32)), .val (.int (3 : Int32)), .val (.ref wM)] [(.int (3 : Int32)), (.ref arr)])) rfl rfl (hb hby d1_16) _ ?_
    show Steps p.tables e below (T8.setTop (mkF m 17 #[.val (.int p1), .val (.ref arr), .val (.int (4 : Int32)), .val (.int (3 : Int32)), .val (.ref wM)] [(.ref wD)])) _
    refine XS.astore X8.here hx rfl (hb hby d1_17) rfl rfl (l' := #[.val (.int p1), .val (.ref arr), .val (.int (4 : Int32)), .val (.int (3 : Int32)), .val (.ref wD)]) rfl ?_
    show Steps p.tables e below (T8.setTop (mkF m 19 #[.val (.int p1), .val (.ref arr), .val (.int (4 : Int32)), .val (.int (3 : Int32)), .val (.ref wD)] [])) _
    refine XS.aload X8.here hx rfl (hb hby d1_19) rfl rfl ?_
    show Steps p.tables e below (T8.setTop (mkF m 21 #[.val (.int p1), .val (.ref arr), .val (.int (4 : Int32)), .val (.int (3 : Int32)), .val (.ref wD)] [(.ref wD)])) _
    refine st10 _ ?_
    show Steps p.tables e below (T10.setTop (mkF m 24 #[.val (.int p1), .val (.ref arr), .val (.int (4 : Int32)), .val (.int (3 : Int32)), .val (.ref wD)] [(.int (47 : Int32))])) _
    refine XS.iloadN X10.here hx rfl (hb hby d1_24) rfl ?_
    show Steps p.tables e below (T10.setTop (mkF m 25 #[.val (.int p1), .val (.ref arr), .val (.int (4 : Int32)), .val (.int (3 : Int32)), .val (.ref wD)] [(.int p1), (.int (47 : Int32))])) _
    refine XS.icmpNo X10.here hx rfl (hb hby d1_25) rfl (teq hc25_57).2 ?_
    show Steps p.tables e below (T10.setTop (mkF m 28 #[.val (.int p1), .val (.ref arr), .val (.int (4 : Int32)), .val (.int (3 : Int32)), .val (.ref wD)] [])) _
    refine XS.aload X10.here hx rfl (hb hby d1_28) rfl rfl ?_
    show Steps p.tables e below (T10.setTop (mkF m 30 #[.val (.int p1), .val (.ref arr), .val (.int (4 : Int32)), .val (.int (3 : Int32)), .val (.ref wD)] [(.ref wD)])) _
    jvm_step X10.here [X10.here.top, hx, (hb hby d1_30), X10.method', Bd.returns, Value.isRef, FieldType.isReference]
    first | (intro acts; rw [hr _ acts rfl rfl rfl]) | rw [hr _ _ rfl rfl rfl]
    exact Steps.refl _
  · show Q1_DIVIDE Z p1 wV kV wA wS wM wD h0 n0 _ T10.heap _
    rw [e10]
    exact ⟨rfl, N2, E2⟩

theorem d1_37 : decode prog_11_method_5_code 37 = .ok (.aconst_null, 1) := by decide +kernel
theorem d1_38 : decode prog_11_method_5_code 38 = .ok (.areturn, 1) := by decide +kernel
def Q1_none (Z : State) (p1 : Int32) (wV : Addr) (kV : ClassId) (wA wS wM wD : Addr) (h0 : Heap) (n0 : Nat) (v : Option Value) (h : Heap) (L : List Loc) : Prop := v = some .null ∧ Fr n0 L ∧ Ext h0 h
set_option maxRecDepth 65536 in
set_option maxHeartbeats 40000000 in
theorem rm1_none (l : Launch) (Z : State) (a0 : Array Value) (hw : ∀ d ∈ tables_1, d.before a0 Z = true) (ws : List Jvm.Cond) (p1 : Int32) (wV : Addr) (kV : ClassId) (wA wS wM wD : Addr) (h0 : Heap) (n0 : Nat) (Z0 : n0 ≤ h0.size) (S_V : Sta Z h0 "com/example/variantic/variantic/rules/ArithmeticOperator" "$VALUES" "[Lcom/example/variantic/variantic/rules/ArithmeticOperator;" (.ref wV)) (V_V : Arv Z h0 wV kV (.object "com/example/variantic/variantic/rules/ArithmeticOperator") (4 : Int32) [.ref wA, .ref wS, .ref wM, .ref wD] .null) (E_V : Exa Z h0 wV "[Lcom/example/variantic/variantic/rules/ArithmeticOperator;") (F_symbol_wA : Fld Z h0 wA "com/example/variantic/variantic/rules/ArithmeticOperator" "symbol" "C" (.int (43 : Int32))) (F_symbol_wS : Fld Z h0 wS "com/example/variantic/variantic/rules/ArithmeticOperator" "symbol" "C" (.int (45 : Int32))) (F_symbol_wM : Fld Z h0 wM "com/example/variantic/variantic/rules/ArithmeticOperator" "symbol" "C" (.int (42 : Int32))) (F_symbol_wD : Fld Z h0 wD "com/example/variantic/variantic/rules/ArithmeticOperator" "symbol" "C" (.int (47 : Int32))) (hc25 : ¬ ((43 : Int32) = p1)) (hc25_31 : ¬ ((45 : Int32) = p1)) (hc25_44 : ¬ ((42 : Int32) = p1)) (hc25_57 : ¬ ((47 : Int32) = p1)) :
    MetFree l (⟨"com/example/variantic/variantic/rules/ArithmeticOperator", "withSymbol", "(C)Lcom/example/variantic/variantic/rules/ArithmeticOperator;"⟩ : MethodName) (head1 (Jvm.Cond.code (⟨"com/example/variantic/variantic/rules/ArithmeticOperator", "withSymbol", "(C)Lcom/example/variantic/variantic/rules/ArithmeticOperator;"⟩ : MethodName) prog_11_method_5_code 5 (some (.object "com/example/variantic/variantic/rules/ArithmeticOperator")) :: ws) ({ frames := 2, cells := 1, slots := 4, locals := 25 } : Room)) (fun a U => a = #[(.int p1)] ∧ Z.Warmed39 U.vm ∧ U.heap = h0) (fun _ _ _ _ _ => True) (fun _ U o U' => ∃ v L, o = .returned v ∧ Q1_none Z p1 wV kV wA wS wM wD h0 n0 v U'.heap L ∧ FrameEnd U o U' L ({ frames := 2, cells := 1, slots := 4, locals := 25 } : Room).cells ({ frames := 2, cells := 1, slots := 4, locals := 25 } : Room).slots) := by
  refine MetFree.of_bodySF (plainFor_of_name pn_1) hisR ?_
  intro p e s m args below meth c s₁ Bd hml0 hP hK
  obtain ⟨rfl, hZ, hh⟩ := hP
  have hx := Bd.exec
  have hby := Bd.bytes
  have hml : c.maxLocals = 5 := hml0
  have hown : s.vm.findClass "com/example/variantic/variantic/rules/ArithmeticOperator" = some m.cls := findClass_of_methodNamed Bd.named
  have hnm := (name_of_methodNamed Bd.named Bd.method).1
  have X0 : Stand p l e ({ frames := 2, cells := 1, slots := 4, locals := 25 } : Room) s m #[(.int p1)] below meth c s₁ [] 0 0 := Stand.of_body Bd
  have e0 : s₁.heap = h0 := by rw [← hh, Bd.state]; rfl
  have N0 := Fr.nil n0
  have pre0 : ∀ t, Steps p.tables e below (s₁.setTop (mkF m 0 #[.val (.int p1), .unset, .unset, .unset, .unset] [])) t → Steps p.tables e below (s₁.setTop (entryFrame m #[(.int p1)] 5)) t := fun t k => castTop (ef_1 m p1) k
  -- 3. LAWS
  obtain ⟨arr, garr⟩ : ∃ z, z = h0.size := ⟨_, rfl⟩
  -- pc 0: com/example/variantic/variantic/rules/ArithmeticOperator.values by its contract rm2
  obtain ⟨_, _, ⟨T2, L2, k2, n2⟩, -, X2, ⟨Lc2, hQ2, l2, y2, z2⟩, st2⟩ := Jvm.LawKit.callS X0 hx (y := (⟨"com/example/variantic/variantic/rules/ArithmeticOperator", "values", "()[Lcom/example/variantic/variantic/rules/ArithmeticOperator;"⟩ : MethodName)) hown (mvT hZ (hw _ (List.mem_of_getElem? (i := 4) rfl))) (mvT hZ (hw _ (List.mem_of_getElem? (i := 5) rfl))) (mvT hZ (hw _ (List.mem_of_getElem? (i := 2) rfl))) (mvT hZ (hw _ (List.mem_of_getElem? (i := 6) rfl))) (by decide) (backOf (W := 0) (rm2_v l Z a0 hw []  wV arr kV wA wS wM wD h0 n0 Z0 garr V_V E_V S_V) hZ (hw _ (List.mem_of_getElem? (i := 6) rfl)) (hw _ (List.mem_of_getElem? (i := 2) rfl)) (by decide) (by decide)) (g := (mkF m 0 #[.val (.int p1), .unset, .unset, .unset, .unset] [])) rfl (by rw [hml]; rfl) (argsL := []) (rest := []) (lenOf pd_1_1 rfl) rfl (by show 2 * 0 + _ ≤ _; exact Nat.le_of_eq rfl) (hb hby d1_0) (fun _ _ => ⟨rfl, e0, (by decide : 0 + 1 ≤ _), (by decide : 0 + 4 ≤ _)⟩)
  dsimp only [Pt.U, Pt.locs, Pt.cells, Pt.slots] at X2 l2 y2 z2 st2 hQ2
  subst l2 y2 z2
  obtain ⟨rfl, N2q, E2, V2⟩ := hQ2
  have N2 := Fr.app N0 N2q
  obtain ⟨cl_arr, Ar_arr, -, S_arr, N_arr, H_arr, -⟩ := V2
  obtain ⟨T4, X4, e4, st4⟩ := getF X2 hx hZ hown (host := "") (Or.inl (hw _ (List.mem_of_getElem? (i := 23) rfl))) Via.refl rfl (F_symbol_wA.ext E2) (g := (mkF m 21 #[.val (.int p1), .val (.ref arr), .val (.int (4 : Int32)), .val (.int (0 : Int32)), .val (.ref wA)] [(.ref wA)])) rfl rfl (hb hby d1_21)
  obtain ⟨T6, X6, e6, st6⟩ := getF X4 hx hZ hown (host := "") (Or.inl (hw _ (List.mem_of_getElem? (i := 23) rfl))) Via.refl e4 (F_symbol_wS.ext E2) (g := (mkF m 21 #[.val (.int p1), .val (.ref arr), .val (.int (4 : Int32)), .val (.int (1 : Int32)), .val (.ref wS)] [(.ref wS)])) rfl rfl (hb hby d1_21)
  obtain ⟨T8, X8, e8, st8⟩ := getF X6 hx hZ hown (host := "") (Or.inl (hw _ (List.mem_of_getElem? (i := 23) rfl))) Via.refl e6 (F_symbol_wM.ext E2) (g := (mkF m 21 #[.val (.int p1), .val (.ref arr), .val (.int (4 : Int32)), .val (.int (2 : Int32)), .val (.ref wM)] [(.ref wM)])) rfl rfl (hb hby d1_21)
  obtain ⟨T10, X10, e10, st10⟩ := getF X8 hx hZ hown (host := "") (Or.inl (hw _ (List.mem_of_getElem? (i := 23) rfl))) Via.refl e8 (F_symbol_wD.ext E2) (g := (mkF m 21 #[.val (.int p1), .val (.ref arr), .val (.int (4 : Int32)), .val (.int (3 : Int32)), .val (.ref wD)] [(.ref wD)])) rfl rfl (hb hby d1_21)
  obtain ⟨fs, hr, hrun, hended, hW, hsame⟩ := X10.leave (v := some .null) (fun h => by rw [Bd.returns] at h; cases h)
  refine ⟨_, _, pre0 _ ?_, hrun, hended, _, _, rfl, ?_, ⟨_, rfl⟩, hW, hsame.mono (by decide) (by decide)⟩
  -- 4. STEPS
  · show Steps p.tables e below (s₁.setTop (mkF m 0 #[.val (.int p1), .unset, .unset, .unset, .unset] [])) _
    refine st2 _ ?_
    show Steps p.tables e below (T2.setTop (mkF m 3 #[.val (.int p1), .unset, .unset, .unset, .unset] [(.ref arr)])) _
    refine XS.astoreN X2.here hx rfl (hb hby d1_3) rfl rfl (l' := #[.val (.int p1), .val (.ref arr), .unset, .unset, .unset]) rfl ?_
    show Steps p.tables e below (T2.setTop (mkF m 4 #[.val (.int p1), .val (.ref arr), .unset, .unset, .unset] [])) _
    refine XS.aloadN X2.here hx rfl (hb hby d1_4) rfl rfl ?_
    show Steps p.tables e below (T2.setTop (mkF m 5 #[.val (.int p1), .val (.ref arr), .unset, .unset, .unset] [(.ref arr)])) _
    refine X2.arraylength hx Ar_arr.1 (State.isArrayOf_alike hZ.alike Ar_arr.2.1) (g := (mkF m 5 #[.val (.int p1), .val (.ref arr), .unset, .unset, .unset] [(.ref arr)])) rfl rfl (hb hby d1_5) _ ?_
    rw [len_of S_arr N_arr]
    show Steps p.tables e below (T2.setTop (mkF m 6 #[.val (.int p1), .val (.ref arr), .unset, .unset, .unset] [(.int (4 : Int32))])) _
    refine XS.istoreN X2.here hx rfl (hb hby d1_6) rfl (l' := #[.val (.int p1), .val (.ref arr), .val (.int (4 : Int32)), .unset, .unset]) rfl ?_
    show Steps p.tables e below (T2.setTop (mkF m 7 #[.val (.int p1), .val (.ref arr), .val (.int (4 : Int32)), .unset, .unset] [])) _
    refine XS.iconst X2.here hx rfl (hb hby d1_7) ?_
    show Steps p.tables e below (T2.setTop (mkF m 8 #[.val (.int p1), .val (.ref arr), .val (.int (4 : Int32)), .unset, .unset] [(.int (0 : Int32))])) _
    refine XS.istoreN X2.here hx rfl (hb hby d1_8) rfl (l' := #[.val (.int p1), .val (.ref arr), .val (.int (4 : Int32)), .val (.int (0 : Int32)), .unset]) rfl ?_
    show Steps p.tables e below (T2.setTop (mkF m 9 #[.val (.int p1), .val (.ref arr), .val (.int (4 : Int32)), .val (.int (0 : Int32)), .unset] [])) _
    refine XS.iloadN X2.here hx rfl (hb hby d1_9) rfl ?_
    show Steps p.tables e below (T2.setTop (mkF m 10 #[.val (.int p1), .val (.ref arr), .val (.int (4 : Int32)), .val (.int (0 : Int32)), .unset] [(.int (0 : Int32))])) _
    refine XS.iloadN X2.here hx rfl (hb hby d1_10) rfl ?_
    show Steps p.tables e below (T2.setTop (mkF m 11 #[.val (.int p1), .val (.ref arr), .val (.int (4 : Int32)), .val (.int (0 : Int32)), .unset] [(.int (4 : Int32)), (.int (0 : Int32))])) _
    refine XS.icmpNo X2.here hx rfl (hb hby d1_11) rfl (tlt (by decide : (0 : Int32) < (4 : Int32))).2.1 ?_
    show Steps p.tables e below (T2.setTop (mkF m 14 #[.val (.int p1), .val (.ref arr), .val (.int (4 : Int32)), .val (.int (0 : Int32)), .unset] [])) _
    refine XS.aloadN X2.here hx rfl (hb hby d1_14) rfl rfl ?_
    show Steps p.tables e below (T2.setTop (mkF m 15 #[.val (.int p1), .val (.ref arr), .val (.int (4 : Int32)), .val (.int (0 : Int32)), .unset] [(.ref arr)])) _
    refine XS.iloadN X2.here hx rfl (hb hby d1_15) rfl ?_
    show Steps p.tables e below (T2.setTop (mkF m 16 #[.val (.int p1), .val (.ref arr), .val (.int (4 : Int32)), .val (.int (0 : Int32)), .unset] [(.int (0 : Int32)), (.ref arr)])) _
    refine X2.aaload hx (j := (0 : Int32)) (v := (.ref wA)) Ar_arr.1 (State.isArrayOf_alike hZ.alike Ar_arr.2.1) rfl Ar_arr.2.2 (inb_of S_arr ⟨by decide, by decide⟩) (Has.at H_arr (inb_of S_arr ⟨by decide, by decide⟩) rfl) (g := (mkF m 16 #[.val (.int p1), .val (.ref arr), .val (.int (4 : Int32)), .val (.int (0 : Int32)), .unset] [(.int (0 : Int32)), (.ref arr)])) rfl rfl (hb hby d1_16) _ ?_
    show Steps p.tables e below (T2.setTop (mkF m 17 #[.val (.int p1), .val (.ref arr), .val (.int (4 : Int32)), .val (.int (0 : Int32)), .unset] [(.ref wA)])) _
    refine XS.astore X2.here hx rfl (hb hby d1_17) rfl rfl (l' := #[.val (.int p1), .val (.ref arr), .val (.int (4 : Int32)), .val (.int (0 : Int32)), .val (.ref wA)]) rfl ?_
    show Steps p.tables e below (T2.setTop (mkF m 19 #[.val (.int p1), .val (.ref arr), .val (.int (4 : Int32)), .val (.int (0 : Int32)), .val (.ref wA)] [])) _
    refine XS.aload X2.here hx rfl (hb hby d1_19) rfl rfl ?_
    show Steps p.tables e below (T2.setTop (mkF m 21 #[.val (.int p1), .val (.ref arr), .val (.int (4 : Int32)), .val (.int (0 : Int32)), .val (.ref wA)] [(.ref wA)])) _
    refine st4 _ ?_
    show Steps p.tables e below (T4.setTop (mkF m 24 #[.val (.int p1), .val (.ref arr), .val (.int (4 : Int32)), .val (.int (0 : Int32)), .val (.ref wA)] [(.int (43 : Int32))])) _
    refine XS.iloadN X4.here hx rfl (hb hby d1_24) rfl ?_
    show Steps p.tables e below (T4.setTop (mkF m 25 #[.val (.int p1), .val (.ref arr), .val (.int (4 : Int32)), .val (.int (0 : Int32)), .val (.ref wA)] [(.int p1), (.int (43 : Int32))])) _
    refine XS.icmpYes X4.here hx rfl (pc0 := 25) (pc' := 31) rfl (hb hby d1_25) rfl (feq hc25).2 (by decide) (by decide) ?_
    show Steps p.tables e below (T4.setTop (mkF m 31 #[.val (.int p1), .val (.ref arr), .val (.int (4 : Int32)), .val (.int (0 : Int32)), .val (.ref wA)] [])) _
    refine XS.iinc X4.here hx rfl (hb hby d1_31) rfl (l' := #[.val (.int p1), .val (.ref arr), .val (.int (4 : Int32)), .val (.int (1 : Int32)), .val (.ref wA)]) rfl ?_
    show Steps p.tables e below (T4.setTop (mkF m 34 #[.val (.int p1), .val (.ref arr), .val (.int (4 : Int32)), .val (.int (1 : Int32)), .val (.ref wA)] [])) _
    refine XS.goto X4.here hx rfl (pc0 := 34) (pc' := 9) rfl (hb hby d1_34) (by decide) (by decide) ?_
    show Steps p.tables e below (T4.setTop (mkF m 9 #[.val (.int p1), .val (.ref arr), .val (.int (4 : Int32)), .val (.int (1 : Int32)), .val (.ref wA)] [])) _
    refine XS.iloadN X4.here hx rfl (hb hby d1_9) rfl ?_
    show Steps p.tables e below (T4.setTop (mkF m 10 #[.val (.int p1), .val (.ref arr), .val (.int (4 : Int32)), .val (.int (1 : Int32)), .val (.ref wA)] [(.int (1 : Int32))])) _
    refine XS.iloadN X4.here hx rfl (hb hby d1_10) rfl ?_
    show Steps p.tables e below (T4.setTop (mkF m 11 #[.val (.int p1), .val (.ref arr), .val (.int (4 : Int32)), .val (.int (1 : Int32)), .val (.ref wA)] [(.int (4 : Int32)), (.int (1 : Int32))])) _
    refine XS.icmpNo X4.here hx rfl (hb hby d1_11) rfl (tlt (by decide : (1 : Int32) < (4 : Int32))).2.1 ?_
    show Steps p.tables e below (T4.setTop (mkF m 14 #[.val (.int p1), .val (.ref arr), .val (.int (4 : Int32)), .val (.int (1 : Int32)), .val (.ref wA)] [])) _
    refine XS.aloadN X4.here hx rfl (hb hby d1_14) rfl rfl ?_
    show Steps p.tables e below (T4.setTop (mkF m 15 #[.val (.int p1), .val (.ref arr), .val (.int (4 : Int32)), .val (.int (1 : Int32)), .val (.ref wA)] [(.ref arr)])) _
    refine XS.iloadN X4.here hx rfl (hb hby d1_15) rfl ?_
    show Steps p.tables e below (T4.setTop (mkF m 16 #[.val (.int p1), .val (.ref arr), .val (.int (4 : Int32)), .val (.int (1 : Int32)), .val (.ref wA)] [(.int (1 : Int32)), (.ref arr)])) _
    refine X4.aaload hx (j := (1 : Int32)) (v := (.ref wS)) (by rw [e4]; exact Ar_arr.1) (State.isArrayOf_alike hZ.alike Ar_arr.2.1) rfl Ar_arr.2.2 (inb_of S_arr ⟨by decide, by decide⟩) (Has.at H_arr (inb_of S_arr ⟨by decide, by decide⟩) rfl) (g := (mkF m 16 #[.val (.int p1), .val (.ref arr), .val (.int (4 : Int32)), .val (.int (1 : Int32)), .val (.ref wA)] [(.int (1 : Int32)), (.ref arr)])) rfl rfl (hb hby d1_16) _ ?_
    show Steps p.tables e below (T4.setTop (mkF m 17 #[.val (.int p1), .val (.ref arr), .val (.int (4 : Int32)), .val (.int (1 : Int32)), .val (.ref wA)] [(.ref wS)])) _
    refine XS.astore X4.here hx rfl (hb hby d1_17) rfl rfl (l' := #[.val (.int p1), .val (.ref arr), .val (.int (4 : Int32)), .val (.int (1 : Int32)), .val (.ref wS)]) rfl ?_
    show Steps p.tables e below (T4.setTop (mkF m 19 #[.val (.int p1), .val (.ref arr), .val (.int (4 : Int32)), .val (.int (1 : Int32)), .val (.ref wS)] [])) _
    refine XS.aload X4.here hx rfl (hb hby d1_19) rfl rfl ?_
    show Steps p.tables e below (T4.setTop (mkF m 21 #[.val (.int p1), .val (.ref arr), .val (.int (4 : Int32)), .val (.int (1 : Int32)), .val (.ref wS)] [(.ref wS)])) _
    refine st6 _ ?_
    show Steps p.tables e below (T6.setTop (mkF m 24 #[.val (.int p1), .val (.ref arr), .val (.int (4 : Int32)), .val (.int (1 : Int32)), .val (.ref wS)] [(.int (45 : Int32))])) _
    refine XS.iloadN X6.here hx rfl (hb hby d1_24) rfl ?_
    show Steps p.tables e below (T6.setTop (mkF m 25 #[.val (.int p1), .val (.ref arr), .val (.int (4 : Int32)), .val (.int (1 : Int32)), .val (.ref wS)] [(.int p1), (.int (45 : Int32))])) _
    refine XS.icmpYes X6.here hx rfl (pc0 := 25) (pc' := 31) rfl (hb hby d1_25) rfl (feq hc25_31).2 (by decide) (by decide) ?_
    show Steps p.tables e below (T6.setTop (mkF m 31 #[.val (.int p1), .val (.ref arr), .val (.int (4 : Int32)), .val (.int (1 : Int32)), .val (.ref wS)] [])) _
    refine XS.iinc X6.here hx rfl (hb hby d1_31) rfl (l' := #[.val (.int p1), .val (.ref arr), .val (.int (4 : Int32)), .val (.int (2 : Int32)), .val (.ref wS)]) rfl ?_
    show Steps p.tables e below (T6.setTop (mkF m 34 #[.val (.int p1), .val (.ref arr), .val (.int (4 : Int32)), .val (.int (2 : Int32)), .val (.ref wS)] [])) _
    refine XS.goto X6.here hx rfl (pc0 := 34) (pc' := 9) rfl (hb hby d1_34) (by decide) (by decide) ?_
    show Steps p.tables e below (T6.setTop (mkF m 9 #[.val (.int p1), .val (.ref arr), .val (.int (4 : Int32)), .val (.int (2 : Int32)), .val (.ref wS)] [])) _
    refine XS.iloadN X6.here hx rfl (hb hby d1_9) rfl ?_
    show Steps p.tables e below (T6.setTop (mkF m 10 #[.val (.int p1), .val (.ref arr), .val (.int (4 : Int32)), .val (.int (2 : Int32)), .val (.ref wS)] [(.int (2 : Int32))])) _
    refine XS.iloadN X6.here hx rfl (hb hby d1_10) rfl ?_
    show Steps p.tables e below (T6.setTop (mkF m 11 #[.val (.int p1), .val (.ref arr), .val (.int (4 : Int32)), .val (.int (2 : Int32)), .val (.ref wS)] [(.int (4 : Int32)), (.int (2 : Int32))])) _
    refine XS.icmpNo X6.here hx rfl (hb hby d1_11) rfl (tlt (by decide : (2 : Int32) < (4 : Int32))).2.1 ?_
    show Steps p.tables e below (T6.setTop (mkF m 14 #[.val (.int p1), .val (.ref arr), .val (.int (4 : Int32)), .val (.int (2 : Int32)), .val (.ref wS)] [])) _
    refine XS.aloadN X6.here hx rfl (hb hby d1_14) rfl rfl ?_
    show Steps p.tables e below (T6.setTop (mkF m 15 #[.val (.int p1), .val (.ref arr), .val (.int (4 : Int32)), .val (.int (2 : Int32)), .val (.ref wS)] [(.ref arr)])) _
    refine XS.iloadN X6.here hx rfl (hb hby d1_15) rfl ?_
    show Steps p.tables e below (T6.setTop (mkF m 16 #[.val (.int p1), .val (.ref arr), .val (.int (4 : Int32)), .val (.int (2 : Int32)), .val (.ref wS)] [(.int (2 : Int32)), (.ref arr)])) _
    refine X6.aaload hx (j := (2 : Int32)) (v := (.ref wM)) (by rw [e6]; exact Ar_arr.1) (State.isArrayOf_alike hZ.alike Ar_arr.2.1) rfl Ar_arr.2.2 (inb_of S_arr ⟨by decide, by decide⟩) (Has.at H_arr (inb_of S_arr ⟨by decide, by decide⟩) rfl) (g := (mkF m 16 #[.val (.int p1), .val (.ref arr), .val (.int (4 : Int32)), .val (.int (2 : Int32)), .val (.ref wS)] [(.int (2 : Int32)), (.ref arr)])) rfl rfl (hb hby d1_16) _ ?_
    show Steps p.tables e below (T6.setTop (mkF m 17 #[.val (.int p1), .val (.ref arr), .val (.int (4 : Int32)), .val (.int (2 : Int32)), .val (.ref wS)] [(.ref wM)])) _
    refine XS.astore X6.here hx rfl (hb hby d1_17) rfl rfl (l' := #[.val (.int p1), .val (.ref arr), .val (.int (4 : Int32)), .val (.int (2 : Int32)), .val (.ref wM)]) rfl ?_
    show Steps p.tables e below (T6.setTop (mkF m 19 #[.val (.int p1), .val (.ref arr), .val (.int (4 : Int32)), .val (.int (2 : Int32)), .val (.ref wM)] [])) _
    refine XS.aload X6.here hx rfl (hb hby d1_19) rfl rfl ?_
    show Steps p.tables e below (T6.setTop (mkF m 21 #[.val (.int p1), .val (.ref arr), .val (.int (4 : Int32)), .val (.int (2 : Int32)), .val (.ref wM)] [(.ref wM)])) _
    refine st8 _ ?_
    show Steps p.tables e below (T8.setTop (mkF m 24 #[.val (.int p1), .val (.ref arr), .val (.int (4 : Int32)), .val (.int (2 : Int32)), .val (.ref wM)] [(.int (42 : Int32))])) _
    refine XS.iloadN X8.here hx rfl (hb hby d1_24) rfl ?_
    show Steps p.tables e below (T8.setTop (mkF m 25 #[.val (.int p1), .val (.ref arr), .val (.int (4 : Int32)), .val (.int (2 : Int32)), .val (.ref wM)] [(.int p1), (.int (42 : Int32))])) _
    refine XS.icmpYes X8.here hx rfl (pc0 := 25) (pc' := 31) rfl (hb hby d1_25) rfl (feq hc25_44).2 (by decide) (by decide) ?_
    show Steps p.tables e below (T8.setTop (mkF m 31 #[.val (.int p1), .val (.ref arr), .val (.int (4 : Int32)), .val (.int (2 : Int32)), .val (.ref wM)] [])) _
    refine XS.iinc X8.here hx rfl (hb hby d1_31) rfl (l' := #[.val (.int p1), .val (.ref arr), .val (.int (4 : Int32)), .val (.int (3 : Int32)), .val (.ref wM)]) rfl ?_
    show Steps p.tables e below (T8.setTop (mkF m 34 #[.val (.int p1), .val (.ref arr), .val (.int (4 : Int32)), .val (.int (3 : Int32)), .val (.ref wM)] [])) _
    refine XS.goto X8.here hx rfl (pc0 := 34) (pc' := 9) rfl (hb hby d1_34) (by decide) (by decide) ?_
    show Steps p.tables e below (T8.setTop (mkF m 9 #[.val (.int p1), .val (.ref arr), .val (.int (4 : Int32)), .val (.int (3 : Int32)), .val (.ref wM)] [])) _
    refine XS.iloadN X8.here hx rfl (hb hby d1_9) rfl ?_
    show Steps p.tables e below (T8.setTop (mkF m 10 #[.val (.int p1), .val (.ref arr), .val (.int (4 : Int32)), .val (.int (3 : Int32)), .val (.ref wM)] [(.int (3 : Int32))])) _
    refine XS.iloadN X8.here hx rfl (hb hby d1_10) rfl ?_
    show Steps p.tables e below (T8.setTop (mkF m 11 #[.val (.int p1), .val (.ref arr), .val (.int (4 : Int32)), .val (.int (3 : Int32)), .val (.ref wM)] [(.int (4 : Int32)), (.int (3 : Int32))])) _
    refine XS.icmpNo X8.here hx rfl (hb hby d1_11) rfl (tlt (by decide : (3 : Int32) < (4 : Int32))).2.1 ?_
    show Steps p.tables e below (T8.setTop (mkF m 14 #[.val (.int p1), .val (.ref arr), .val (.int (4 : Int32)), .val (.int (3 : Int32)), .val (.ref wM)] [])) _
    refine XS.aloadN X8.here hx rfl (hb hby d1_14) rfl rfl ?_
    show Steps p.tables e below (T8.setTop (mkF m 15 #[.val (.int p1), .val (.ref arr), .val (.int (4 : Int32)), .val (.int (3 : Int32)), .val (.ref wM)] [(.ref arr)])) _
    refine XS.iloadN X8.here hx rfl (hb hby d1_15) rfl ?_
    show Steps p.tables e below (T8.setTop (mkF m 16 #[.val (.int p1), .val (.ref arr), .val (.int (4 : Int32)), .val (.int (3 : Int32)), .val (.ref wM)] [(.int (3 : Int32)), (.ref arr)])) _
    refine X8.aaload hx (j := (3 : Int32)) (v := (.ref wD)) (by rw [e8]; exact Ar_arr.1) (State.isArrayOf_alike hZ.alike Ar_arr.2.1) rfl Ar_arr.2.2 (inb_of S_arr ⟨by decide, by decide⟩) (Has.at H_arr (inb_of S_arr ⟨by decide, by decide⟩) rfl) (g := (mkF m 16 #[.val (.int p1), .val (.ref arr), .val (.int (4 : Int32)), .val (.int (3 : Int32)), .val (.ref wM)] [(.int (3 : Int32)), (.ref arr)])) rfl rfl (hb hby d1_16) _ ?_
    show Steps p.tables e below (T8.setTop (mkF m 17 #[.val (.int p1), .val (.ref arr), .val (.int (4 : Int32)), .val (.int (3 : Int32)), .val (.ref wM)] [(.ref wD)])) _
    refine XS.astore X8.here hx rfl (hb hby d1_17) rfl rfl (l' := #[.val (.int p1), .val (.ref arr), .val (.int (4 : Int32)), .val (.int (3 : Int32)), .val (.ref wD)]) rfl ?_
    show Steps p.tables e below (T8.setTop (mkF m 19 #[.val (.int p1), .val (.ref arr), .val (.int (4 : Int32)), .val (.int (3 : Int32)), .val (.ref wD)] [])) _
    refine XS.aload X8.here hx rfl (hb hby d1_19) rfl rfl ?_
    show Steps p.tables e below (T8.setTop (mkF m 21 #[.val (.int p1), .val (.ref arr), .val (.int (4 : Int32)), .val (.int (3 : Int32)), .val (.ref wD)] [(.ref wD)])) _
    refine st10 _ ?_
    show Steps p.tables e below (T10.setTop (mkF m 24 #[.val (.int p1), .val (.ref arr), .val (.int (4 : Int32)), .val (.int (3 : Int32)), .val (.ref wD)] [(.int (47 : Int32))])) _
    refine XS.iloadN X10.here hx rfl (hb hby d1_24) rfl ?_
    show Steps p.tables e below (T10.setTop (mkF m 25 #[.val (.int p1), .val (.ref arr), .val (.int (4 : Int32)), .val (.int (3 : Int32)), .val (.ref wD)] [(.int p1), (.int (47 : Int32))])) _
    refine XS.icmpYes X10.here hx rfl (pc0 := 25) (pc' := 31) rfl (hb hby d1_25) rfl (feq hc25_57).2 (by decide) (by decide) ?_
    show Steps p.tables e below (T10.setTop (mkF m 31 #[.val (.int p1), .val (.ref arr), .val (.int (4 : Int32)), .val (.int (3 : Int32)), .val (.ref wD)] [])) _
    refine XS.iinc X10.here hx rfl (hb hby d1_31) rfl (l' := #[.val (.int p1), .val (.ref arr), .val (.int (4 : Int32)), .val (.int (4 : Int32)), .val (.ref wD)]) rfl ?_
    show Steps p.tables e below (T10.setTop (mkF m 34 #[.val (.int p1), .val (.ref arr), .val (.int (4 : Int32)), .val (.int (4 : Int32)), .val (.ref wD)] [])) _
    refine XS.goto X10.here hx rfl (pc0 := 34) (pc' := 9) rfl (hb hby d1_34) (by decide) (by decide) ?_
    show Steps p.tables e below (T10.setTop (mkF m 9 #[.val (.int p1), .val (.ref arr), .val (.int (4 : Int32)), .val (.int (4 : Int32)), .val (.ref wD)] [])) _
    refine XS.iloadN X10.here hx rfl (hb hby d1_9) rfl ?_
    show Steps p.tables e below (T10.setTop (mkF m 10 #[.val (.int p1), .val (.ref arr), .val (.int (4 : Int32)), .val (.int (4 : Int32)), .val (.ref wD)] [(.int (4 : Int32))])) _
    refine XS.iloadN X10.here hx rfl (hb hby d1_10) rfl ?_
    show Steps p.tables e below (T10.setTop (mkF m 11 #[.val (.int p1), .val (.ref arr), .val (.int (4 : Int32)), .val (.int (4 : Int32)), .val (.ref wD)] [(.int (4 : Int32)), (.int (4 : Int32))])) _
    refine XS.icmpYes X10.here hx rfl (pc0 := 11) (pc' := 37) rfl (hb hby d1_11) rfl (flt (by decide : ¬ ((4 : Int32) < (4 : Int32)))).2.1 (by decide) (by decide) ?_
    show Steps p.tables e below (T10.setTop (mkF m 37 #[.val (.int p1), .val (.ref arr), .val (.int (4 : Int32)), .val (.int (4 : Int32)), .val (.ref wD)] [])) _
    refine XS.aconstNull X10.here hx rfl (hb hby d1_37) ?_
    show Steps p.tables e below (T10.setTop (mkF m 38 #[.val (.int p1), .val (.ref arr), .val (.int (4 : Int32)), .val (.int (4 : Int32)), .val (.ref wD)] [.null])) _
    jvm_step X10.here [X10.here.top, hx, (hb hby d1_38), X10.method', Bd.returns, Value.isRef, FieldType.isReference]
    first | (intro acts; rw [hr _ acts rfl rfl rfl]) | rw [hr _ _ rfl rfl rfl]
    exact Steps.refl _
  · show Q1_none Z p1 wV kV wA wS wM wD h0 n0 _ T10.heap _
    rw [e10]
    exact ⟨rfl, N2, E2⟩

theorem d3_0 : decode method_3_code 0 = .ok (.iload_n 0, 1) := by decide +kernel
theorem d3_1 : decode method_3_code 1 = .ok (.bipush 43, 2) := by decide +kernel
theorem d3_3 : decode method_3_code 3 = .ok (.if_icmp .ne 7, 3) := by decide +kernel
theorem d3_6 : decode method_3_code 6 = .ok (.getstatic 18, 3) := by decide +kernel
theorem d3_9 : decode method_3_code 9 = .ok (.areturn, 1) := by decide +kernel
theorem pn_3 : plainName "com/example/variantic/variantic/rules/ArithmeticOperatorWithSymbolPinLaw" = true := by first | (simp [plainName, overriddenIn]; done) | decide +kernel
theorem ef_3 (m : MethodId) (x0 : Int32) : entryFrame m #[(.int x0)] 1 = mkF m 0 #[.val (.int x0)] [] := by first | (simp [entryFrame, mkF, argsToLocals, Value.category]; done) | rfl
def Q3_ADD (Z : State) (p1 : Int32) (w2 : Addr) (h0 : Heap) (n0 : Nat) (v : Option Value) (h : Heap) (L : List Loc) : Prop := v = some (.ref w2) ∧ Fr n0 L ∧ h = h0
set_option maxRecDepth 65536 in
set_option maxHeartbeats 40000000 in
theorem rm3_ADD (l : Launch) (Z : State) (a0 : Array Value) (hw : ∀ d ∈ tables_1, d.before a0 Z = true) (ws : List Jvm.Cond) (p1 : Int32) (w2 : Addr) (h0 : Heap) (n0 : Nat) (Z0 : n0 ≤ h0.size) (S_ADD : Sta Z h0 "com/example/variantic/variantic/rules/ArithmeticOperator" "ADD" "Lcom/example/variantic/variantic/rules/ArithmeticOperator;" (.ref w2)) (hc3 : p1 = (43 : Int32)) :
    MetFree l (⟨"com/example/variantic/variantic/rules/ArithmeticOperatorWithSymbolPinLaw", "expected", "(C)Lcom/example/variantic/variantic/rules/ArithmeticOperator;"⟩ : MethodName) (head1 (Jvm.Cond.code (⟨"com/example/variantic/variantic/rules/ArithmeticOperatorWithSymbolPinLaw", "expected", "(C)Lcom/example/variantic/variantic/rules/ArithmeticOperator;"⟩ : MethodName) method_3_code 1 (some (.object "com/example/variantic/variantic/rules/ArithmeticOperator")) :: ws) ({ frames := 0, cells := 0, slots := 0, locals := 0 } : Room)) (fun a U => a = #[(.int p1)] ∧ Z.Warmed39 U.vm ∧ U.heap = h0) (fun _ _ _ _ _ => True) (fun _ U o U' => ∃ v L, o = .returned v ∧ Q3_ADD Z p1 w2 h0 n0 v U'.heap L ∧ FrameEnd U o U' L ({ frames := 0, cells := 0, slots := 0, locals := 0 } : Room).cells ({ frames := 0, cells := 0, slots := 0, locals := 0 } : Room).slots) := by
  refine MetFree.of_bodySF (plainFor_of_name pn_3) hisR ?_
  intro p e s m args below meth c s₁ Bd hml0 hP hK
  obtain ⟨rfl, hZ, hh⟩ := hP
  have hx := Bd.exec
  have hby := Bd.bytes
  have hml : c.maxLocals = 1 := hml0
  have hown : s.vm.findClass "com/example/variantic/variantic/rules/ArithmeticOperatorWithSymbolPinLaw" = some m.cls := findClass_of_methodNamed Bd.named
  have hnm := (name_of_methodNamed Bd.named Bd.method).1
  have X0 : Stand p l e ({ frames := 0, cells := 0, slots := 0, locals := 0 } : Room) s m #[(.int p1)] below meth c s₁ [] 0 0 := Stand.of_body Bd
  have e0 : s₁.heap = h0 := by rw [← hh, Bd.state]; rfl
  have N0 := Fr.nil n0
  have pre0 : ∀ t, Steps p.tables e below (s₁.setTop (mkF m 0 #[.val (.int p1)] [])) t → Steps p.tables e below (s₁.setTop (entryFrame m #[(.int p1)] 1)) t := fun t k => castTop (ef_3 m p1) k
  -- 3. LAWS
  obtain ⟨T3, X3, e3, st3⟩ := getS2 X0 hx hZ hown (host := "") (Or.inl (hw _ (List.mem_of_getElem? (i := 29) rfl))) Via.refl e0 S_ADD (g := (mkF m 6 #[.val (.int p1)] [])) rfl (hb hby d3_6)
  obtain ⟨fs, hr, hrun, hended, hW, hsame⟩ := X3.leave (v := some (.ref w2)) (fun h => by rw [Bd.returns] at h; cases h)
  refine ⟨_, _, pre0 _ ?_, hrun, hended, _, _, rfl, ?_, ⟨_, rfl⟩, hW, hsame.mono (by decide) (by decide)⟩
  -- 4. STEPS
  · show Steps p.tables e below (s₁.setTop (mkF m 0 #[.val (.int p1)] [])) _
    refine XS.iloadN X0.here hx rfl (hb hby d3_0) rfl ?_
    show Steps p.tables e below (s₁.setTop (mkF m 1 #[.val (.int p1)] [(.int p1)])) _
    refine XS.bipush X0.here hx rfl (hb hby d3_1) ?_
    show Steps p.tables e below (s₁.setTop (mkF m 3 #[.val (.int p1)] [(.int (43 : Int32)), (.int p1)])) _
    refine XS.icmpNo X0.here hx rfl (hb hby d3_3) rfl (teq hc3).2 ?_
    show Steps p.tables e below (s₁.setTop (mkF m 6 #[.val (.int p1)] [])) _
    refine st3 _ ?_
    show Steps p.tables e below (T3.setTop (mkF m 9 #[.val (.int p1)] [(.ref w2)])) _
    jvm_step X3.here [X3.here.top, hx, (hb hby d3_9), X3.method', Bd.returns, Value.isRef, FieldType.isReference]
    first | (intro acts; rw [hr _ acts rfl rfl rfl]) | rw [hr _ _ rfl rfl rfl]
    exact Steps.refl _
  · show Q3_ADD Z p1 w2 h0 n0 _ T3.heap _
    rw [e3]
    exact ⟨rfl, N0, rfl⟩

theorem d3_10 : decode method_3_code 10 = .ok (.iload_n 0, 1) := by decide +kernel
theorem d3_11 : decode method_3_code 11 = .ok (.bipush 45, 2) := by decide +kernel
theorem d3_13 : decode method_3_code 13 = .ok (.if_icmp .ne 7, 3) := by decide +kernel
theorem d3_16 : decode method_3_code 16 = .ok (.getstatic 22, 3) := by decide +kernel
theorem d3_19 : decode method_3_code 19 = .ok (.areturn, 1) := by decide +kernel
def Q3_SUBTRACT (Z : State) (p1 : Int32) (w2 : Addr) (h0 : Heap) (n0 : Nat) (v : Option Value) (h : Heap) (L : List Loc) : Prop := v = some (.ref w2) ∧ Fr n0 L ∧ h = h0
set_option maxRecDepth 65536 in
set_option maxHeartbeats 40000000 in
theorem rm3_SUBTRACT (l : Launch) (Z : State) (a0 : Array Value) (hw : ∀ d ∈ tables_1, d.before a0 Z = true) (ws : List Jvm.Cond) (p1 : Int32) (w2 : Addr) (h0 : Heap) (n0 : Nat) (Z0 : n0 ≤ h0.size) (S_SUBTRACT : Sta Z h0 "com/example/variantic/variantic/rules/ArithmeticOperator" "SUBTRACT" "Lcom/example/variantic/variantic/rules/ArithmeticOperator;" (.ref w2)) (hc3 : ¬ (p1 = (43 : Int32))) (hc13 : p1 = (45 : Int32)) :
    MetFree l (⟨"com/example/variantic/variantic/rules/ArithmeticOperatorWithSymbolPinLaw", "expected", "(C)Lcom/example/variantic/variantic/rules/ArithmeticOperator;"⟩ : MethodName) (head1 (Jvm.Cond.code (⟨"com/example/variantic/variantic/rules/ArithmeticOperatorWithSymbolPinLaw", "expected", "(C)Lcom/example/variantic/variantic/rules/ArithmeticOperator;"⟩ : MethodName) method_3_code 1 (some (.object "com/example/variantic/variantic/rules/ArithmeticOperator")) :: ws) ({ frames := 0, cells := 0, slots := 0, locals := 0 } : Room)) (fun a U => a = #[(.int p1)] ∧ Z.Warmed39 U.vm ∧ U.heap = h0) (fun _ _ _ _ _ => True) (fun _ U o U' => ∃ v L, o = .returned v ∧ Q3_SUBTRACT Z p1 w2 h0 n0 v U'.heap L ∧ FrameEnd U o U' L ({ frames := 0, cells := 0, slots := 0, locals := 0 } : Room).cells ({ frames := 0, cells := 0, slots := 0, locals := 0 } : Room).slots) := by
  refine MetFree.of_bodySF (plainFor_of_name pn_3) hisR ?_
  intro p e s m args below meth c s₁ Bd hml0 hP hK
  obtain ⟨rfl, hZ, hh⟩ := hP
  have hx := Bd.exec
  have hby := Bd.bytes
  have hml : c.maxLocals = 1 := hml0
  have hown : s.vm.findClass "com/example/variantic/variantic/rules/ArithmeticOperatorWithSymbolPinLaw" = some m.cls := findClass_of_methodNamed Bd.named
  have hnm := (name_of_methodNamed Bd.named Bd.method).1
  have X0 : Stand p l e ({ frames := 0, cells := 0, slots := 0, locals := 0 } : Room) s m #[(.int p1)] below meth c s₁ [] 0 0 := Stand.of_body Bd
  have e0 : s₁.heap = h0 := by rw [← hh, Bd.state]; rfl
  have N0 := Fr.nil n0
  have pre0 : ∀ t, Steps p.tables e below (s₁.setTop (mkF m 0 #[.val (.int p1)] [])) t → Steps p.tables e below (s₁.setTop (entryFrame m #[(.int p1)] 1)) t := fun t k => castTop (ef_3 m p1) k
  -- 3. LAWS
  obtain ⟨T3, X3, e3, st3⟩ := getS2 X0 hx hZ hown (host := "") (Or.inl (hw _ (List.mem_of_getElem? (i := 30) rfl))) Via.refl e0 S_SUBTRACT (g := (mkF m 16 #[.val (.int p1)] [])) rfl (hb hby d3_16)
  obtain ⟨fs, hr, hrun, hended, hW, hsame⟩ := X3.leave (v := some (.ref w2)) (fun h => by rw [Bd.returns] at h; cases h)
  refine ⟨_, _, pre0 _ ?_, hrun, hended, _, _, rfl, ?_, ⟨_, rfl⟩, hW, hsame.mono (by decide) (by decide)⟩
  -- 4. STEPS
  · show Steps p.tables e below (s₁.setTop (mkF m 0 #[.val (.int p1)] [])) _
    refine XS.iloadN X0.here hx rfl (hb hby d3_0) rfl ?_
    show Steps p.tables e below (s₁.setTop (mkF m 1 #[.val (.int p1)] [(.int p1)])) _
    refine XS.bipush X0.here hx rfl (hb hby d3_1) ?_
    show Steps p.tables e below (s₁.setTop (mkF m 3 #[.val (.int p1)] [(.int (43 : Int32)), (.int p1)])) _
    refine XS.icmpYes X0.here hx rfl (pc0 := 3) (pc' := 10) rfl (hb hby d3_3) rfl (feq hc3).2 (by decide) (by decide) ?_
    show Steps p.tables e below (s₁.setTop (mkF m 10 #[.val (.int p1)] [])) _
    refine XS.iloadN X0.here hx rfl (hb hby d3_10) rfl ?_
    show Steps p.tables e below (s₁.setTop (mkF m 11 #[.val (.int p1)] [(.int p1)])) _
    refine XS.bipush X0.here hx rfl (hb hby d3_11) ?_
    show Steps p.tables e below (s₁.setTop (mkF m 13 #[.val (.int p1)] [(.int (45 : Int32)), (.int p1)])) _
    refine XS.icmpNo X0.here hx rfl (hb hby d3_13) rfl (teq hc13).2 ?_
    show Steps p.tables e below (s₁.setTop (mkF m 16 #[.val (.int p1)] [])) _
    refine st3 _ ?_
    show Steps p.tables e below (T3.setTop (mkF m 19 #[.val (.int p1)] [(.ref w2)])) _
    jvm_step X3.here [X3.here.top, hx, (hb hby d3_19), X3.method', Bd.returns, Value.isRef, FieldType.isReference]
    first | (intro acts; rw [hr _ acts rfl rfl rfl]) | rw [hr _ _ rfl rfl rfl]
    exact Steps.refl _
  · show Q3_SUBTRACT Z p1 w2 h0 n0 _ T3.heap _
    rw [e3]
    exact ⟨rfl, N0, rfl⟩

theorem d3_20 : decode method_3_code 20 = .ok (.iload_n 0, 1) := by decide +kernel
theorem d3_21 : decode method_3_code 21 = .ok (.bipush 42, 2) := by decide +kernel
theorem d3_23 : decode method_3_code 23 = .ok (.if_icmp .ne 7, 3) := by decide +kernel
theorem d3_26 : decode method_3_code 26 = .ok (.getstatic 25, 3) := by decide +kernel
theorem d3_29 : decode method_3_code 29 = .ok (.areturn, 1) := by decide +kernel
def Q3_MULTIPLY (Z : State) (p1 : Int32) (w2 : Addr) (h0 : Heap) (n0 : Nat) (v : Option Value) (h : Heap) (L : List Loc) : Prop := v = some (.ref w2) ∧ Fr n0 L ∧ h = h0
set_option maxRecDepth 65536 in
set_option maxHeartbeats 40000000 in
theorem rm3_MULTIPLY (l : Launch) (Z : State) (a0 : Array Value) (hw : ∀ d ∈ tables_1, d.before a0 Z = true) (ws : List Jvm.Cond) (p1 : Int32) (w2 : Addr) (h0 : Heap) (n0 : Nat) (Z0 : n0 ≤ h0.size) (S_MULTIPLY : Sta Z h0 "com/example/variantic/variantic/rules/ArithmeticOperator" "MULTIPLY" "Lcom/example/variantic/variantic/rules/ArithmeticOperator;" (.ref w2)) (hc3 : ¬ (p1 = (43 : Int32))) (hc13 : ¬ (p1 = (45 : Int32))) (hc23 : p1 = (42 : Int32)) :
    MetFree l (⟨"com/example/variantic/variantic/rules/ArithmeticOperatorWithSymbolPinLaw", "expected", "(C)Lcom/example/variantic/variantic/rules/ArithmeticOperator;"⟩ : MethodName) (head1 (Jvm.Cond.code (⟨"com/example/variantic/variantic/rules/ArithmeticOperatorWithSymbolPinLaw", "expected", "(C)Lcom/example/variantic/variantic/rules/ArithmeticOperator;"⟩ : MethodName) method_3_code 1 (some (.object "com/example/variantic/variantic/rules/ArithmeticOperator")) :: ws) ({ frames := 0, cells := 0, slots := 0, locals := 0 } : Room)) (fun a U => a = #[(.int p1)] ∧ Z.Warmed39 U.vm ∧ U.heap = h0) (fun _ _ _ _ _ => True) (fun _ U o U' => ∃ v L, o = .returned v ∧ Q3_MULTIPLY Z p1 w2 h0 n0 v U'.heap L ∧ FrameEnd U o U' L ({ frames := 0, cells := 0, slots := 0, locals := 0 } : Room).cells ({ frames := 0, cells := 0, slots := 0, locals := 0 } : Room).slots) := by
  refine MetFree.of_bodySF (plainFor_of_name pn_3) hisR ?_
  intro p e s m args below meth c s₁ Bd hml0 hP hK
  obtain ⟨rfl, hZ, hh⟩ := hP
  have hx := Bd.exec
  have hby := Bd.bytes
  have hml : c.maxLocals = 1 := hml0
  have hown : s.vm.findClass "com/example/variantic/variantic/rules/ArithmeticOperatorWithSymbolPinLaw" = some m.cls := findClass_of_methodNamed Bd.named
  have hnm := (name_of_methodNamed Bd.named Bd.method).1
  have X0 : Stand p l e ({ frames := 0, cells := 0, slots := 0, locals := 0 } : Room) s m #[(.int p1)] below meth c s₁ [] 0 0 := Stand.of_body Bd
  have e0 : s₁.heap = h0 := by rw [← hh, Bd.state]; rfl
  have N0 := Fr.nil n0
  have pre0 : ∀ t, Steps p.tables e below (s₁.setTop (mkF m 0 #[.val (.int p1)] [])) t → Steps p.tables e below (s₁.setTop (entryFrame m #[(.int p1)] 1)) t := fun t k => castTop (ef_3 m p1) k
  -- 3. LAWS
  obtain ⟨T3, X3, e3, st3⟩ := getS2 X0 hx hZ hown (host := "") (Or.inl (hw _ (List.mem_of_getElem? (i := 32) rfl))) Via.refl e0 S_MULTIPLY (g := (mkF m 26 #[.val (.int p1)] [])) rfl (hb hby d3_26)
  obtain ⟨fs, hr, hrun, hended, hW, hsame⟩ := X3.leave (v := some (.ref w2)) (fun h => by rw [Bd.returns] at h; cases h)
  refine ⟨_, _, pre0 _ ?_, hrun, hended, _, _, rfl, ?_, ⟨_, rfl⟩, hW, hsame.mono (by decide) (by decide)⟩
  -- 4. STEPS
  · show Steps p.tables e below (s₁.setTop (mkF m 0 #[.val (.int p1)] [])) _
    refine XS.iloadN X0.here hx rfl (hb hby d3_0) rfl ?_
    show Steps p.tables e below (s₁.setTop (mkF m 1 #[.val (.int p1)] [(.int p1)])) _
    refine XS.bipush X0.here hx rfl (hb hby d3_1) ?_
    show Steps p.tables e below (s₁.setTop (mkF m 3 #[.val (.int p1)] [(.int (43 : Int32)), (.int p1)])) _
    refine XS.icmpYes X0.here hx rfl (pc0 := 3) (pc' := 10) rfl (hb hby d3_3) rfl (feq hc3).2 (by decide) (by decide) ?_
    show Steps p.tables e below (s₁.setTop (mkF m 10 #[.val (.int p1)] [])) _
    refine XS.iloadN X0.here hx rfl (hb hby d3_10) rfl ?_
    show Steps p.tables e below (s₁.setTop (mkF m 11 #[.val (.int p1)] [(.int p1)])) _
    refine XS.bipush X0.here hx rfl (hb hby d3_11) ?_
    show Steps p.tables e below (s₁.setTop (mkF m 13 #[.val (.int p1)] [(.int (45 : Int32)), (.int p1)])) _
    refine XS.icmpYes X0.here hx rfl (pc0 := 13) (pc' := 20) rfl (hb hby d3_13) rfl (feq hc13).2 (by decide) (by decide) ?_
    show Steps p.tables e below (s₁.setTop (mkF m 20 #[.val (.int p1)] [])) _
    refine XS.iloadN X0.here hx rfl (hb hby d3_20) rfl ?_
    show Steps p.tables e below (s₁.setTop (mkF m 21 #[.val (.int p1)] [(.int p1)])) _
    refine XS.bipush X0.here hx rfl (hb hby d3_21) ?_
    show Steps p.tables e below (s₁.setTop (mkF m 23 #[.val (.int p1)] [(.int (42 : Int32)), (.int p1)])) _
    refine XS.icmpNo X0.here hx rfl (hb hby d3_23) rfl (teq hc23).2 ?_
    show Steps p.tables e below (s₁.setTop (mkF m 26 #[.val (.int p1)] [])) _
    refine st3 _ ?_
    show Steps p.tables e below (T3.setTop (mkF m 29 #[.val (.int p1)] [(.ref w2)])) _
    jvm_step X3.here [X3.here.top, hx, (hb hby d3_29), X3.method', Bd.returns, Value.isRef, FieldType.isReference]
    first | (intro acts; rw [hr _ acts rfl rfl rfl]) | rw [hr _ _ rfl rfl rfl]
    exact Steps.refl _
  · show Q3_MULTIPLY Z p1 w2 h0 n0 _ T3.heap _
    rw [e3]
    exact ⟨rfl, N0, rfl⟩

theorem d3_30 : decode method_3_code 30 = .ok (.iload_n 0, 1) := by decide +kernel
theorem d3_31 : decode method_3_code 31 = .ok (.bipush 47, 2) := by decide +kernel
theorem d3_33 : decode method_3_code 33 = .ok (.if_icmp .ne 7, 3) := by decide +kernel
theorem d3_36 : decode method_3_code 36 = .ok (.getstatic 28, 3) := by decide +kernel
theorem d3_39 : decode method_3_code 39 = .ok (.areturn, 1) := by decide +kernel
def Q3_DIVIDE (Z : State) (p1 : Int32) (w2 : Addr) (h0 : Heap) (n0 : Nat) (v : Option Value) (h : Heap) (L : List Loc) : Prop := v = some (.ref w2) ∧ Fr n0 L ∧ h = h0
set_option maxRecDepth 65536 in
set_option maxHeartbeats 40000000 in
theorem rm3_DIVIDE (l : Launch) (Z : State) (a0 : Array Value) (hw : ∀ d ∈ tables_1, d.before a0 Z = true) (ws : List Jvm.Cond) (p1 : Int32) (w2 : Addr) (h0 : Heap) (n0 : Nat) (Z0 : n0 ≤ h0.size) (S_DIVIDE : Sta Z h0 "com/example/variantic/variantic/rules/ArithmeticOperator" "DIVIDE" "Lcom/example/variantic/variantic/rules/ArithmeticOperator;" (.ref w2)) (hc3 : ¬ (p1 = (43 : Int32))) (hc13 : ¬ (p1 = (45 : Int32))) (hc23 : ¬ (p1 = (42 : Int32))) (hc33 : p1 = (47 : Int32)) :
    MetFree l (⟨"com/example/variantic/variantic/rules/ArithmeticOperatorWithSymbolPinLaw", "expected", "(C)Lcom/example/variantic/variantic/rules/ArithmeticOperator;"⟩ : MethodName) (head1 (Jvm.Cond.code (⟨"com/example/variantic/variantic/rules/ArithmeticOperatorWithSymbolPinLaw", "expected", "(C)Lcom/example/variantic/variantic/rules/ArithmeticOperator;"⟩ : MethodName) method_3_code 1 (some (.object "com/example/variantic/variantic/rules/ArithmeticOperator")) :: ws) ({ frames := 0, cells := 0, slots := 0, locals := 0 } : Room)) (fun a U => a = #[(.int p1)] ∧ Z.Warmed39 U.vm ∧ U.heap = h0) (fun _ _ _ _ _ => True) (fun _ U o U' => ∃ v L, o = .returned v ∧ Q3_DIVIDE Z p1 w2 h0 n0 v U'.heap L ∧ FrameEnd U o U' L ({ frames := 0, cells := 0, slots := 0, locals := 0 } : Room).cells ({ frames := 0, cells := 0, slots := 0, locals := 0 } : Room).slots) := by
  refine MetFree.of_bodySF (plainFor_of_name pn_3) hisR ?_
  intro p e s m args below meth c s₁ Bd hml0 hP hK
  obtain ⟨rfl, hZ, hh⟩ := hP
  have hx := Bd.exec
  have hby := Bd.bytes
  have hml : c.maxLocals = 1 := hml0
  have hown : s.vm.findClass "com/example/variantic/variantic/rules/ArithmeticOperatorWithSymbolPinLaw" = some m.cls := findClass_of_methodNamed Bd.named
  have hnm := (name_of_methodNamed Bd.named Bd.method).1
  have X0 : Stand p l e ({ frames := 0, cells := 0, slots := 0, locals := 0 } : Room) s m #[(.int p1)] below meth c s₁ [] 0 0 := Stand.of_body Bd
  have e0 : s₁.heap = h0 := by rw [← hh, Bd.state]; rfl
  have N0 := Fr.nil n0
  have pre0 : ∀ t, Steps p.tables e below (s₁.setTop (mkF m 0 #[.val (.int p1)] [])) t → Steps p.tables e below (s₁.setTop (entryFrame m #[(.int p1)] 1)) t := fun t k => castTop (ef_3 m p1) k
  -- 3. LAWS
  obtain ⟨T3, X3, e3, st3⟩ := getS2 X0 hx hZ hown (host := "") (Or.inl (hw _ (List.mem_of_getElem? (i := 31) rfl))) Via.refl e0 S_DIVIDE (g := (mkF m 36 #[.val (.int p1)] [])) rfl (hb hby d3_36)
  obtain ⟨fs, hr, hrun, hended, hW, hsame⟩ := X3.leave (v := some (.ref w2)) (fun h => by rw [Bd.returns] at h; cases h)
  refine ⟨_, _, pre0 _ ?_, hrun, hended, _, _, rfl, ?_, ⟨_, rfl⟩, hW, hsame.mono (by decide) (by decide)⟩
  -- 4. STEPS
  · show Steps p.tables e below (s₁.setTop (mkF m 0 #[.val (.int p1)] [])) _
    refine XS.iloadN X0.here hx rfl (hb hby d3_0) rfl ?_
    show Steps p.tables e below (s₁.setTop (mkF m 1 #[.val (.int p1)] [(.int p1)])) _
    refine XS.bipush X0.here hx rfl (hb hby d3_1) ?_
    show Steps p.tables e below (s₁.setTop (mkF m 3 #[.val (.int p1)] [(.int (43 : Int32)), (.int p1)])) _
    refine XS.icmpYes X0.here hx rfl (pc0 := 3) (pc' := 10) rfl (hb hby d3_3) rfl (feq hc3).2 (by decide) (by decide) ?_
    show Steps p.tables e below (s₁.setTop (mkF m 10 #[.val (.int p1)] [])) _
    refine XS.iloadN X0.here hx rfl (hb hby d3_10) rfl ?_
    show Steps p.tables e below (s₁.setTop (mkF m 11 #[.val (.int p1)] [(.int p1)])) _
    refine XS.bipush X0.here hx rfl (hb hby d3_11) ?_
    show Steps p.tables e below (s₁.setTop (mkF m 13 #[.val (.int p1)] [(.int (45 : Int32)), (.int p1)])) _
    refine XS.icmpYes X0.here hx rfl (pc0 := 13) (pc' := 20) rfl (hb hby d3_13) rfl (feq hc13).2 (by decide) (by decide) ?_
    show Steps p.tables e below (s₁.setTop (mkF m 20 #[.val (.int p1)] [])) _
    refine XS.iloadN X0.here hx rfl (hb hby d3_20) rfl ?_
    show Steps p.tables e below (s₁.setTop (mkF m 21 #[.val (.int p1)] [(.int p1)])) _
    refine XS.bipush X0.here hx rfl (hb hby d3_21) ?_
    show Steps p.tables e below (s₁.setTop (mkF m 23 #[.val (.int p1)] [(.int (42 : Int32)), (.int p1)])) _
    refine XS.icmpYes X0.here hx rfl (pc0 := 23) (pc' := 30) rfl (hb hby d3_23) rfl (feq hc23).2 (by decide) (by decide) ?_
    show Steps p.tables e below (s₁.setTop (mkF m 30 #[.val (.int p1)] [])) _
    refine XS.iloadN X0.here hx rfl (hb hby d3_30) rfl ?_
    show Steps p.tables e below (s₁.setTop (mkF m 31 #[.val (.int p1)] [(.int p1)])) _
    refine XS.bipush X0.here hx rfl (hb hby d3_31) ?_
    show Steps p.tables e below (s₁.setTop (mkF m 33 #[.val (.int p1)] [(.int (47 : Int32)), (.int p1)])) _
    refine XS.icmpNo X0.here hx rfl (hb hby d3_33) rfl (teq hc33).2 ?_
    show Steps p.tables e below (s₁.setTop (mkF m 36 #[.val (.int p1)] [])) _
    refine st3 _ ?_
    show Steps p.tables e below (T3.setTop (mkF m 39 #[.val (.int p1)] [(.ref w2)])) _
    jvm_step X3.here [X3.here.top, hx, (hb hby d3_39), X3.method', Bd.returns, Value.isRef, FieldType.isReference]
    first | (intro acts; rw [hr _ acts rfl rfl rfl]) | rw [hr _ _ rfl rfl rfl]
    exact Steps.refl _
  · show Q3_DIVIDE Z p1 w2 h0 n0 _ T3.heap _
    rw [e3]
    exact ⟨rfl, N0, rfl⟩

theorem d3_40 : decode method_3_code 40 = .ok (.aconst_null, 1) := by decide +kernel
theorem d3_41 : decode method_3_code 41 = .ok (.areturn, 1) := by decide +kernel
def Q3_none (Z : State) (p1 : Int32) (h0 : Heap) (n0 : Nat) (v : Option Value) (h : Heap) (L : List Loc) : Prop := v = some .null ∧ Fr n0 L ∧ h = h0
set_option maxRecDepth 65536 in
set_option maxHeartbeats 40000000 in
theorem rm3_none (l : Launch) (Z : State) (a0 : Array Value) (hw : ∀ d ∈ tables_1, d.before a0 Z = true) (ws : List Jvm.Cond) (p1 : Int32) (h0 : Heap) (n0 : Nat) (Z0 : n0 ≤ h0.size) (hc3 : ¬ (p1 = (43 : Int32))) (hc13 : ¬ (p1 = (45 : Int32))) (hc23 : ¬ (p1 = (42 : Int32))) (hc33 : ¬ (p1 = (47 : Int32))) :
    MetFree l (⟨"com/example/variantic/variantic/rules/ArithmeticOperatorWithSymbolPinLaw", "expected", "(C)Lcom/example/variantic/variantic/rules/ArithmeticOperator;"⟩ : MethodName) (head1 (Jvm.Cond.code (⟨"com/example/variantic/variantic/rules/ArithmeticOperatorWithSymbolPinLaw", "expected", "(C)Lcom/example/variantic/variantic/rules/ArithmeticOperator;"⟩ : MethodName) method_3_code 1 (some (.object "com/example/variantic/variantic/rules/ArithmeticOperator")) :: ws) ({ frames := 0, cells := 0, slots := 0, locals := 0 } : Room)) (fun a U => a = #[(.int p1)] ∧ Z.Warmed39 U.vm ∧ U.heap = h0) (fun _ _ _ _ _ => True) (fun _ U o U' => ∃ v L, o = .returned v ∧ Q3_none Z p1 h0 n0 v U'.heap L ∧ FrameEnd U o U' L ({ frames := 0, cells := 0, slots := 0, locals := 0 } : Room).cells ({ frames := 0, cells := 0, slots := 0, locals := 0 } : Room).slots) := by
  refine MetFree.of_bodySF (plainFor_of_name pn_3) hisR ?_
  intro p e s m args below meth c s₁ Bd hml0 hP hK
  obtain ⟨rfl, hZ, hh⟩ := hP
  have hx := Bd.exec
  have hby := Bd.bytes
  have hml : c.maxLocals = 1 := hml0
  have hown : s.vm.findClass "com/example/variantic/variantic/rules/ArithmeticOperatorWithSymbolPinLaw" = some m.cls := findClass_of_methodNamed Bd.named
  have hnm := (name_of_methodNamed Bd.named Bd.method).1
  have X0 : Stand p l e ({ frames := 0, cells := 0, slots := 0, locals := 0 } : Room) s m #[(.int p1)] below meth c s₁ [] 0 0 := Stand.of_body Bd
  have e0 : s₁.heap = h0 := by rw [← hh, Bd.state]; rfl
  have N0 := Fr.nil n0
  have pre0 : ∀ t, Steps p.tables e below (s₁.setTop (mkF m 0 #[.val (.int p1)] [])) t → Steps p.tables e below (s₁.setTop (entryFrame m #[(.int p1)] 1)) t := fun t k => castTop (ef_3 m p1) k
  -- 3. LAWS

  obtain ⟨fs, hr, hrun, hended, hW, hsame⟩ := X0.leave (v := some .null) (fun h => by rw [Bd.returns] at h; cases h)
  refine ⟨_, _, pre0 _ ?_, hrun, hended, _, _, rfl, ?_, ⟨_, rfl⟩, hW, hsame.mono (by decide) (by decide)⟩
  -- 4. STEPS
  · show Steps p.tables e below (s₁.setTop (mkF m 0 #[.val (.int p1)] [])) _
    refine XS.iloadN X0.here hx rfl (hb hby d3_0) rfl ?_
    show Steps p.tables e below (s₁.setTop (mkF m 1 #[.val (.int p1)] [(.int p1)])) _
    refine XS.bipush X0.here hx rfl (hb hby d3_1) ?_
    show Steps p.tables e below (s₁.setTop (mkF m 3 #[.val (.int p1)] [(.int (43 : Int32)), (.int p1)])) _
    refine XS.icmpYes X0.here hx rfl (pc0 := 3) (pc' := 10) rfl (hb hby d3_3) rfl (feq hc3).2 (by decide) (by decide) ?_
    show Steps p.tables e below (s₁.setTop (mkF m 10 #[.val (.int p1)] [])) _
    refine XS.iloadN X0.here hx rfl (hb hby d3_10) rfl ?_
    show Steps p.tables e below (s₁.setTop (mkF m 11 #[.val (.int p1)] [(.int p1)])) _
    refine XS.bipush X0.here hx rfl (hb hby d3_11) ?_
    show Steps p.tables e below (s₁.setTop (mkF m 13 #[.val (.int p1)] [(.int (45 : Int32)), (.int p1)])) _
    refine XS.icmpYes X0.here hx rfl (pc0 := 13) (pc' := 20) rfl (hb hby d3_13) rfl (feq hc13).2 (by decide) (by decide) ?_
    show Steps p.tables e below (s₁.setTop (mkF m 20 #[.val (.int p1)] [])) _
    refine XS.iloadN X0.here hx rfl (hb hby d3_20) rfl ?_
    show Steps p.tables e below (s₁.setTop (mkF m 21 #[.val (.int p1)] [(.int p1)])) _
    refine XS.bipush X0.here hx rfl (hb hby d3_21) ?_
    show Steps p.tables e below (s₁.setTop (mkF m 23 #[.val (.int p1)] [(.int (42 : Int32)), (.int p1)])) _
    refine XS.icmpYes X0.here hx rfl (pc0 := 23) (pc' := 30) rfl (hb hby d3_23) rfl (feq hc23).2 (by decide) (by decide) ?_
    show Steps p.tables e below (s₁.setTop (mkF m 30 #[.val (.int p1)] [])) _
    refine XS.iloadN X0.here hx rfl (hb hby d3_30) rfl ?_
    show Steps p.tables e below (s₁.setTop (mkF m 31 #[.val (.int p1)] [(.int p1)])) _
    refine XS.bipush X0.here hx rfl (hb hby d3_31) ?_
    show Steps p.tables e below (s₁.setTop (mkF m 33 #[.val (.int p1)] [(.int (47 : Int32)), (.int p1)])) _
    refine XS.icmpYes X0.here hx rfl (pc0 := 33) (pc' := 40) rfl (hb hby d3_33) rfl (feq hc33).2 (by decide) (by decide) ?_
    show Steps p.tables e below (s₁.setTop (mkF m 40 #[.val (.int p1)] [])) _
    refine XS.aconstNull X0.here hx rfl (hb hby d3_40) ?_
    show Steps p.tables e below (s₁.setTop (mkF m 41 #[.val (.int p1)] [.null])) _
    jvm_step X0.here [X0.here.top, hx, (hb hby d3_41), X0.method', Bd.returns, Value.isRef, FieldType.isReference]
    first | (intro acts; rw [hr _ acts rfl rfl rfl]) | rw [hr _ _ rfl rfl rfl]
    exact Steps.refl _
  · show Q3_none Z p1 h0 n0 _ s₁.heap _
    rw [e0]
    exact ⟨rfl, N0, rfl⟩

def Q0 (n0 : Nat) (v : Option Value) (L : List Loc) : Prop := v = some (.int (1 : Int32)) ∧ Fr n0 L

theorem pn_0 : plainName "com/example/variantic/variantic/rules/ArithmeticOperatorWithSymbolPinLaw" = true := by first | (simp [plainName, overriddenIn]; done) | decide +kernel
theorem pd_0_0 : parseMethodDescriptor "(C)Lcom/example/variantic/variantic/rules/ArithmeticOperator;" = some ⟨[.char], some (.object "com/example/variantic/variantic/rules/ArithmeticOperator")⟩ := by decide +kernel
theorem ef_0 (m : MethodId) (x0 : Int32) (x1 : Int32) : entryFrame m #[(.int x0), (.int x1)] maxLocals = mkF m 0 #[.val (.int x0), .val (.int x1), .unset, .unset] [] := by first | (simp [entryFrame, mkF, argsToLocals, Value.category, maxLocals]; done) | rfl
set_option maxRecDepth 65536 in
set_option maxHeartbeats 40000000 in
theorem rm0_ADD_lit (l : Launch) (Z : State) (a0 : Array Value) (hw : ∀ d ∈ tables_1, d.before a0 Z = true) (ws : List Jvm.Cond) (p1 : Int32) (p2 : Int32) (wV : Addr) (kV : ClassId) (wA wS wM wD : Addr) (h0 : Heap) (n0 : Nat) (Z0 : n0 ≤ h0.size) (S_V : Sta Z h0 "com/example/variantic/variantic/rules/ArithmeticOperator" "$VALUES" "[Lcom/example/variantic/variantic/rules/ArithmeticOperator;" (.ref wV)) (V_V : Arv Z h0 wV kV (.object "com/example/variantic/variantic/rules/ArithmeticOperator") (4 : Int32) [.ref wA, .ref wS, .ref wM, .ref wD] .null) (E_V : Exa Z h0 wV "[Lcom/example/variantic/variantic/rules/ArithmeticOperator;") (S_wA : Sta Z h0 "com/example/variantic/variantic/rules/ArithmeticOperator" "ADD" "Lcom/example/variantic/variantic/rules/ArithmeticOperator;" (.ref wA)) (S_wS : Sta Z h0 "com/example/variantic/variantic/rules/ArithmeticOperator" "SUBTRACT" "Lcom/example/variantic/variantic/rules/ArithmeticOperator;" (.ref wS)) (S_wM : Sta Z h0 "com/example/variantic/variantic/rules/ArithmeticOperator" "MULTIPLY" "Lcom/example/variantic/variantic/rules/ArithmeticOperator;" (.ref wM)) (S_wD : Sta Z h0 "com/example/variantic/variantic/rules/ArithmeticOperator" "DIVIDE" "Lcom/example/variantic/variantic/rules/ArithmeticOperator;" (.ref wD)) (F_wA : Fld Z h0 wA "com/example/variantic/variantic/rules/ArithmeticOperator" "symbol" "C" (.int (43 : Int32))) (F_wS : Fld Z h0 wS "com/example/variantic/variantic/rules/ArithmeticOperator" "symbol" "C" (.int (45 : Int32))) (F_wM : Fld Z h0 wM "com/example/variantic/variantic/rules/ArithmeticOperator" "symbol" "C" (.int (42 : Int32))) (F_wD : Fld Z h0 wD "com/example/variantic/variantic/rules/ArithmeticOperator" "symbol" "C" (.int (47 : Int32))) (hc3 : ¬ ((p2 &&& (4 : Int32)) = (0 : Int32))) (hc11 : (p2 &&& (3 : Int32)) = (0 : Int32)) :
    MetFree l x (head1 (Jvm.Cond.code x code maxLocals ret :: ws) room_1) (fun a U => a = #[(.int p1), (.int p2)] ∧ Z.Warmed39 U.vm ∧ U.heap = h0) (fun _ _ _ _ _ => True) (fun _ U o U' => ∃ v L, o = .returned v ∧ Q0 n0 v L ∧ FrameEnd U o U' L room_1.cells room_1.slots) := by
  refine MetFree.of_bodySF (plainFor_of_name pn_0) hisR ?_
  intro p e s m args below meth c s₁ Bd hml0 hP hK
  obtain ⟨rfl, hZ, hh⟩ := hP
  have hx := Bd.exec
  have hby := Bd.bytes
  have hml : c.maxLocals = 4 := hml0
  have hown : s.vm.findClass "com/example/variantic/variantic/rules/ArithmeticOperatorWithSymbolPinLaw" = some m.cls := findClass_of_methodNamed Bd.named
  have hnm := (name_of_methodNamed Bd.named Bd.method).1
  have X0 : Stand p l e room_1 s m #[(.int p1), (.int p2)] below meth c s₁ [] 0 0 := Stand.of_body Bd
  have e0 : s₁.heap = h0 := by rw [← hh, Bd.state]; rfl
  have N0 := Fr.nil n0
  have pre0 : ∀ t, Steps p.tables e below (s₁.setTop (mkF m 0 #[.val (.int p1), .val (.int p2), .unset, .unset] [])) t → Steps p.tables e below (s₁.setTop (entryFrame m #[(.int p1), (.int p2)] maxLocals)) t := fun t k => castTop (ef_0 m p1 p2) k
  -- 3. LAWS
  -- pc 52: com/example/variantic/variantic/rules/ArithmeticOperator.withSymbol by its contract rm1
  obtain ⟨_, _, ⟨T3, L3, k3, n3⟩, -, X3, ⟨Lc3, hQ3, l3, y3, z3⟩, st3⟩ := Jvm.LawKit.callS X0 hx (y := (⟨"com/example/variantic/variantic/rules/ArithmeticOperator", "withSymbol", "(C)Lcom/example/variantic/variantic/rules/ArithmeticOperator;"⟩ : MethodName)) hown (mvT hZ (hw _ (List.mem_of_getElem? (i := 0) rfl))) (mvT hZ (hw _ (List.mem_of_getElem? (i := 1) rfl))) (mvT hZ (hw _ (List.mem_of_getElem? (i := 2) rfl))) (mvT hZ (hw _ (List.mem_of_getElem? (i := 3) rfl))) (by decide) (backOf (W := 0) (rm1_ADD l Z a0 hw [] (43 : Int32) wV kV wA wS wM wD h0 n0 Z0 S_V V_V E_V F_wA (by decide)) hZ (hw _ (List.mem_of_getElem? (i := 3) rfl)) (hw _ (List.mem_of_getElem? (i := 2) rfl)) (by decide) (by decide)) (g := (mkF m 52 #[.val (.int p1), .val (.int p2), .val (.int (43 : Int32)), .val (.int (p2 &&& (3 : Int32)))] [(.int (43 : Int32))])) rfl (by rw [hml]; rfl) (argsL := [(.int (43 : Int32))]) (rest := []) (lenOf pd_0_0 rfl) rfl (by show 2 * 0 + _ ≤ _; exact Nat.le_of_eq rfl) (hb hby at_52) (fun _ _ => ⟨rfl, e0, (by decide : 0 + 1 ≤ _), (by decide : 0 + 4 ≤ _)⟩)
  dsimp only [Pt.U, Pt.locs, Pt.cells, Pt.slots] at X3 l3 y3 z3 st3 hQ3
  subst l3 y3 z3
  obtain ⟨rfl, N3q, E3⟩ := hQ3
  have N3 := Fr.app N0 N3q
  -- pc 58: com/example/variantic/variantic/rules/ArithmeticOperatorWithSymbolPinLaw.expected by its contract rm3
  obtain ⟨_, _, ⟨T4, L4, k4, n4⟩, -, X4, ⟨Lc4, hQ4, l4, y4, z4⟩, st4⟩ := Jvm.LawKit.callS X3 hx (y := (⟨"com/example/variantic/variantic/rules/ArithmeticOperatorWithSymbolPinLaw", "expected", "(C)Lcom/example/variantic/variantic/rules/ArithmeticOperator;"⟩ : MethodName)) hown (mvT hZ (hw _ (List.mem_of_getElem? (i := 25) rfl))) (mvT hZ (hw _ (List.mem_of_getElem? (i := 26) rfl))) (mvT hZ (hw _ (List.mem_of_getElem? (i := 27) rfl))) (mvT hZ (hw _ (List.mem_of_getElem? (i := 28) rfl))) (by decide) (backOf (W := 1) (rm3_ADD l Z a0 hw [] (43 : Int32) wA T3.heap n0 (Nat.le_trans Z0 E3.1) (S_wA.ext E3) (by decide)) hZ (hw _ (List.mem_of_getElem? (i := 28) rfl)) (hw _ (List.mem_of_getElem? (i := 27) rfl)) (by decide) (by decide)) (g := (mkF m 58 #[.val (.int p1), .val (.int p2), .val (.int (43 : Int32)), .val (.ref wA)] [(.int (43 : Int32)), (.ref wA)])) rfl (by rw [hml]; rfl) (argsL := [(.int (43 : Int32))]) (rest := [(.ref wA)]) (lenOf pd_0_0 rfl) rfl (by show 2 * 0 + _ ≤ _; exact Nat.le_of_eq rfl) (hb hby at_58) (fun _ _ => ⟨rfl, rfl, (by decide : 1 + 0 ≤ _), (by decide : 4 + 0 ≤ _)⟩)
  dsimp only [Pt.U, Pt.locs, Pt.cells, Pt.slots] at X4 l4 y4 z4 st4 hQ4
  subst l4 y4 z4
  obtain ⟨rfl, N4q, hh4⟩ := hQ4
  have N4 := Fr.app N3 N4q
  obtain ⟨fs, hr, hrun, hended, hW, hsame⟩ := X4.leave (v := some (.int (1 : Int32))) (fun h => by rw [Bd.returns] at h; cases h)
  refine ⟨_, _, pre0 _ ?_, hrun, hended, _, _, rfl, ?_, ⟨_, rfl⟩, hW, hsame.mono (by decide) (by decide)⟩
  -- 4. STEPS
  · show Steps p.tables e below (s₁.setTop (mkF m 0 #[.val (.int p1), .val (.int p2), .unset, .unset] [])) _
    refine XS.iloadN X0.here hx rfl (hb hby at_0) rfl ?_
    show Steps p.tables e below (s₁.setTop (mkF m 1 #[.val (.int p1), .val (.int p2), .unset, .unset] [(.int p2)])) _
    refine XS.iconst X0.here hx rfl (hb hby at_1) ?_
    show Steps p.tables e below (s₁.setTop (mkF m 2 #[.val (.int p1), .val (.int p2), .unset, .unset] [(.int (4 : Int32)), (.int p2)])) _
    refine XS.iand X0.here hx rfl (hb hby at_2) rfl ?_
    show Steps p.tables e below (s₁.setTop (mkF m 3 #[.val (.int p1), .val (.int p2), .unset, .unset] [(.int (p2 &&& (4 : Int32)))])) _
    refine XS.ifNo X0.here hx rfl (hb hby at_3) rfl ((if0 _ _).trans (feq hc3).1) ?_
    show Steps p.tables e below (s₁.setTop (mkF m 6 #[.val (.int p1), .val (.int p2), .unset, .unset] [])) _
    refine XS.iloadN X0.here hx rfl (hb hby at_6) rfl ?_
    show Steps p.tables e below (s₁.setTop (mkF m 7 #[.val (.int p1), .val (.int p2), .unset, .unset] [(.int p2)])) _
    refine XS.iconst X0.here hx rfl (hb hby at_7) ?_
    show Steps p.tables e below (s₁.setTop (mkF m 8 #[.val (.int p1), .val (.int p2), .unset, .unset] [(.int (3 : Int32)), (.int p2)])) _
    refine XS.iand X0.here hx rfl (hb hby at_8) rfl ?_
    show Steps p.tables e below (s₁.setTop (mkF m 9 #[.val (.int p1), .val (.int p2), .unset, .unset] [(.int (p2 &&& (3 : Int32)))])) _
    refine XS.istoreN X0.here hx rfl (hb hby at_9) rfl (l' := #[.val (.int p1), .val (.int p2), .unset, .val (.int (p2 &&& (3 : Int32)))]) rfl ?_
    show Steps p.tables e below (s₁.setTop (mkF m 10 #[.val (.int p1), .val (.int p2), .unset, .val (.int (p2 &&& (3 : Int32)))] [])) _
    refine XS.iloadN X0.here hx rfl (hb hby at_10) rfl ?_
    show Steps p.tables e below (s₁.setTop (mkF m 11 #[.val (.int p1), .val (.int p2), .unset, .val (.int (p2 &&& (3 : Int32)))] [(.int (p2 &&& (3 : Int32)))])) _
    refine XS.ifNo X0.here hx rfl (hb hby at_11) rfl ((if0 _ _).trans (teq hc11).2) ?_
    show Steps p.tables e below (s₁.setTop (mkF m 14 #[.val (.int p1), .val (.int p2), .unset, .val (.int (p2 &&& (3 : Int32)))] [])) _
    refine XS.bipush X0.here hx rfl (hb hby at_14) ?_
    show Steps p.tables e below (s₁.setTop (mkF m 16 #[.val (.int p1), .val (.int p2), .unset, .val (.int (p2 &&& (3 : Int32)))] [(.int (43 : Int32))])) _
    refine XS.istoreN X0.here hx rfl (hb hby at_16) rfl (l' := #[.val (.int p1), .val (.int p2), .val (.int (43 : Int32)), .val (.int (p2 &&& (3 : Int32)))]) rfl ?_
    show Steps p.tables e below (s₁.setTop (mkF m 17 #[.val (.int p1), .val (.int p2), .val (.int (43 : Int32)), .val (.int (p2 &&& (3 : Int32)))] [])) _
    refine XS.goto X0.here hx rfl (pc0 := 17) (pc' := 45) rfl (hb hby at_17) (by decide) (by decide) ?_
    show Steps p.tables e below (s₁.setTop (mkF m 45 #[.val (.int p1), .val (.int p2), .val (.int (43 : Int32)), .val (.int (p2 &&& (3 : Int32)))] [])) _
    refine XS.goto X0.here hx rfl (pc0 := 45) (pc' := 51) rfl (hb hby at_45) (by decide) (by decide) ?_
    show Steps p.tables e below (s₁.setTop (mkF m 51 #[.val (.int p1), .val (.int p2), .val (.int (43 : Int32)), .val (.int (p2 &&& (3 : Int32)))] [])) _
    refine XS.iloadN X0.here hx rfl (hb hby at_51) rfl ?_
    show Steps p.tables e below (s₁.setTop (mkF m 52 #[.val (.int p1), .val (.int p2), .val (.int (43 : Int32)), .val (.int (p2 &&& (3 : Int32)))] [(.int (43 : Int32))])) _
    refine st3 _ ?_
    show Steps p.tables e below (T3.setTop (mkF m 55 #[.val (.int p1), .val (.int p2), .val (.int (43 : Int32)), .val (.int (p2 &&& (3 : Int32)))] [(.ref wA)])) _
    refine XS.astoreN X3.here hx rfl (hb hby at_55) rfl rfl (l' := #[.val (.int p1), .val (.int p2), .val (.int (43 : Int32)), .val (.ref wA)]) rfl ?_
    show Steps p.tables e below (T3.setTop (mkF m 56 #[.val (.int p1), .val (.int p2), .val (.int (43 : Int32)), .val (.ref wA)] [])) _
    refine XS.aloadN X3.here hx rfl (hb hby at_56) rfl rfl ?_
    show Steps p.tables e below (T3.setTop (mkF m 57 #[.val (.int p1), .val (.int p2), .val (.int (43 : Int32)), .val (.ref wA)] [(.ref wA)])) _
    refine XS.iloadN X3.here hx rfl (hb hby at_57) rfl ?_
    show Steps p.tables e below (T3.setTop (mkF m 58 #[.val (.int p1), .val (.int p2), .val (.int (43 : Int32)), .val (.ref wA)] [(.int (43 : Int32)), (.ref wA)])) _
    refine st4 _ ?_
    show Steps p.tables e below (T4.setTop (mkF m 61 #[.val (.int p1), .val (.int p2), .val (.int (43 : Int32)), .val (.ref wA)] [(.ref wA), (.ref wA)])) _
    refine Jvm.RoadKit.acmp (g := (mkF m 61 #[.val (.int p1), .val (.int p2), .val (.int (43 : Int32)), .val (.ref wA)] [(.ref wA), (.ref wA)])) X4 hx rfl rfl rfl (pc0 := 61) (pc' := 64) (same := true) rfl (hb hby at_61) rfl (decide_eq_true rfl) (by decide) (by decide) ?_
    show Steps p.tables e below (T4.setTop (mkF m 64 #[.val (.int p1), .val (.int p2), .val (.int (43 : Int32)), .val (.ref wA)] [])) _
    refine XS.iconst X4.here hx rfl (hb hby at_64) ?_
    show Steps p.tables e below (T4.setTop (mkF m 65 #[.val (.int p1), .val (.int p2), .val (.int (43 : Int32)), .val (.ref wA)] [(.int (1 : Int32))])) _
    refine XS.goto X4.here hx rfl (pc0 := 65) (pc' := 69) rfl (hb hby at_65) (by decide) (by decide) ?_
    show Steps p.tables e below (T4.setTop (mkF m 69 #[.val (.int p1), .val (.int p2), .val (.int (43 : Int32)), .val (.ref wA)] [(.int (1 : Int32))])) _
    exact retN X4 hx (t := .boolean) Bd.returns (by simp) (hb hby at_69) hr
  · show Q0 n0 _ _
    exact ⟨rfl, N4⟩

set_option maxRecDepth 65536 in
set_option maxHeartbeats 40000000 in
theorem rm0_ADD (l : Launch) (Z : State) (a0 : Array Value) (hw : ∀ d ∈ tables_1, d.before a0 Z = true) (ws : List Jvm.Cond) (p1 : Int32) (p2 : Int32) (wV : Addr) (kV : ClassId) (wA wS wM wD : Addr) (h0 : Heap) (n0 : Nat) (Z0 : n0 ≤ h0.size) (S_V : Sta Z h0 "com/example/variantic/variantic/rules/ArithmeticOperator" "$VALUES" "[Lcom/example/variantic/variantic/rules/ArithmeticOperator;" (.ref wV)) (V_V : Arv Z h0 wV kV (.object "com/example/variantic/variantic/rules/ArithmeticOperator") (4 : Int32) [.ref wA, .ref wS, .ref wM, .ref wD] .null) (E_V : Exa Z h0 wV "[Lcom/example/variantic/variantic/rules/ArithmeticOperator;") (S_wA : Sta Z h0 "com/example/variantic/variantic/rules/ArithmeticOperator" "ADD" "Lcom/example/variantic/variantic/rules/ArithmeticOperator;" (.ref wA)) (S_wS : Sta Z h0 "com/example/variantic/variantic/rules/ArithmeticOperator" "SUBTRACT" "Lcom/example/variantic/variantic/rules/ArithmeticOperator;" (.ref wS)) (S_wM : Sta Z h0 "com/example/variantic/variantic/rules/ArithmeticOperator" "MULTIPLY" "Lcom/example/variantic/variantic/rules/ArithmeticOperator;" (.ref wM)) (S_wD : Sta Z h0 "com/example/variantic/variantic/rules/ArithmeticOperator" "DIVIDE" "Lcom/example/variantic/variantic/rules/ArithmeticOperator;" (.ref wD)) (F_wA : Fld Z h0 wA "com/example/variantic/variantic/rules/ArithmeticOperator" "symbol" "C" (.int (43 : Int32))) (F_wS : Fld Z h0 wS "com/example/variantic/variantic/rules/ArithmeticOperator" "symbol" "C" (.int (45 : Int32))) (F_wM : Fld Z h0 wM "com/example/variantic/variantic/rules/ArithmeticOperator" "symbol" "C" (.int (42 : Int32))) (F_wD : Fld Z h0 wD "com/example/variantic/variantic/rules/ArithmeticOperator" "symbol" "C" (.int (47 : Int32))) (hz : (p1.toUInt32.toUInt16.toUInt32.toInt32) = (43 : Int32)) (hc3 : (p2 &&& (4 : Int32)) = (0 : Int32)) :
    MetFree l x (head1 (Jvm.Cond.code x code maxLocals ret :: ws) room_1) (fun a U => a = #[(.int p1), (.int p2)] ∧ Z.Warmed39 U.vm ∧ U.heap = h0) (fun _ _ _ _ _ => True) (fun _ U o U' => ∃ v L, o = .returned v ∧ Q0 n0 v L ∧ FrameEnd U o U' L room_1.cells room_1.slots) := by
  refine MetFree.of_bodySF (plainFor_of_name pn_0) hisR ?_
  intro p e s m args below meth c s₁ Bd hml0 hP hK
  obtain ⟨rfl, hZ, hh⟩ := hP
  have hx := Bd.exec
  have hby := Bd.bytes
  have hml : c.maxLocals = 4 := hml0
  have hown : s.vm.findClass "com/example/variantic/variantic/rules/ArithmeticOperatorWithSymbolPinLaw" = some m.cls := findClass_of_methodNamed Bd.named
  have hnm := (name_of_methodNamed Bd.named Bd.method).1
  have X0 : Stand p l e room_1 s m #[(.int p1), (.int p2)] below meth c s₁ [] 0 0 := Stand.of_body Bd
  have e0 : s₁.heap = h0 := by rw [← hh, Bd.state]; rfl
  have N0 := Fr.nil n0
  have pre0 : ∀ t, Steps p.tables e below (s₁.setTop (mkF m 0 #[.val (.int p1), .val (.int p2), .unset, .unset] [])) t → Steps p.tables e below (s₁.setTop (entryFrame m #[(.int p1), (.int p2)] maxLocals)) t := fun t k => castTop (ef_0 m p1 p2) k
  -- 3. LAWS
  -- pc 52: com/example/variantic/variantic/rules/ArithmeticOperator.withSymbol by its contract rm1
  obtain ⟨_, _, ⟨T3, L3, k3, n3⟩, -, X3, ⟨Lc3, hQ3, l3, y3, z3⟩, st3⟩ := Jvm.LawKit.callS X0 hx (y := (⟨"com/example/variantic/variantic/rules/ArithmeticOperator", "withSymbol", "(C)Lcom/example/variantic/variantic/rules/ArithmeticOperator;"⟩ : MethodName)) hown (mvT hZ (hw _ (List.mem_of_getElem? (i := 0) rfl))) (mvT hZ (hw _ (List.mem_of_getElem? (i := 1) rfl))) (mvT hZ (hw _ (List.mem_of_getElem? (i := 2) rfl))) (mvT hZ (hw _ (List.mem_of_getElem? (i := 3) rfl))) (by decide) (backOf (W := 0) (rm1_ADD l Z a0 hw [] (p1.toUInt32.toUInt16.toUInt32.toInt32) wV kV wA wS wM wD h0 n0 Z0 S_V V_V E_V F_wA (Eq.symm hz)) hZ (hw _ (List.mem_of_getElem? (i := 3) rfl)) (hw _ (List.mem_of_getElem? (i := 2) rfl)) (by decide) (by decide)) (g := (mkF m 52 #[.val (.int p1), .val (.int p2), .val (.int (p1.toUInt32.toUInt16.toUInt32.toInt32)), .unset] [(.int (p1.toUInt32.toUInt16.toUInt32.toInt32))])) rfl (by rw [hml]; rfl) (argsL := [(.int (p1.toUInt32.toUInt16.toUInt32.toInt32))]) (rest := []) (lenOf pd_0_0 rfl) rfl (by show 2 * 0 + _ ≤ _; exact Nat.le_of_eq rfl) (hb hby at_52) (fun _ _ => ⟨rfl, e0, (by decide : 0 + 1 ≤ _), (by decide : 0 + 4 ≤ _)⟩)
  dsimp only [Pt.U, Pt.locs, Pt.cells, Pt.slots] at X3 l3 y3 z3 st3 hQ3
  subst l3 y3 z3
  obtain ⟨rfl, N3q, E3⟩ := hQ3
  have N3 := Fr.app N0 N3q
  -- pc 58: com/example/variantic/variantic/rules/ArithmeticOperatorWithSymbolPinLaw.expected by its contract rm3
  obtain ⟨_, _, ⟨T4, L4, k4, n4⟩, -, X4, ⟨Lc4, hQ4, l4, y4, z4⟩, st4⟩ := Jvm.LawKit.callS X3 hx (y := (⟨"com/example/variantic/variantic/rules/ArithmeticOperatorWithSymbolPinLaw", "expected", "(C)Lcom/example/variantic/variantic/rules/ArithmeticOperator;"⟩ : MethodName)) hown (mvT hZ (hw _ (List.mem_of_getElem? (i := 25) rfl))) (mvT hZ (hw _ (List.mem_of_getElem? (i := 26) rfl))) (mvT hZ (hw _ (List.mem_of_getElem? (i := 27) rfl))) (mvT hZ (hw _ (List.mem_of_getElem? (i := 28) rfl))) (by decide) (backOf (W := 1) (rm3_ADD l Z a0 hw [] (p1.toUInt32.toUInt16.toUInt32.toInt32) wA T3.heap n0 (Nat.le_trans Z0 E3.1) (S_wA.ext E3) hz) hZ (hw _ (List.mem_of_getElem? (i := 28) rfl)) (hw _ (List.mem_of_getElem? (i := 27) rfl)) (by decide) (by decide)) (g := (mkF m 58 #[.val (.int p1), .val (.int p2), .val (.int (p1.toUInt32.toUInt16.toUInt32.toInt32)), .val (.ref wA)] [(.int (p1.toUInt32.toUInt16.toUInt32.toInt32)), (.ref wA)])) rfl (by rw [hml]; rfl) (argsL := [(.int (p1.toUInt32.toUInt16.toUInt32.toInt32))]) (rest := [(.ref wA)]) (lenOf pd_0_0 rfl) rfl (by show 2 * 0 + _ ≤ _; exact Nat.le_of_eq rfl) (hb hby at_58) (fun _ _ => ⟨rfl, rfl, (by decide : 1 + 0 ≤ _), (by decide : 4 + 0 ≤ _)⟩)
  dsimp only [Pt.U, Pt.locs, Pt.cells, Pt.slots] at X4 l4 y4 z4 st4 hQ4
  subst l4 y4 z4
  obtain ⟨rfl, N4q, hh4⟩ := hQ4
  have N4 := Fr.app N3 N4q
  obtain ⟨fs, hr, hrun, hended, hW, hsame⟩ := X4.leave (v := some (.int (1 : Int32))) (fun h => by rw [Bd.returns] at h; cases h)
  refine ⟨_, _, pre0 _ ?_, hrun, hended, _, _, rfl, ?_, ⟨_, rfl⟩, hW, hsame.mono (by decide) (by decide)⟩
  -- 4. STEPS
  · show Steps p.tables e below (s₁.setTop (mkF m 0 #[.val (.int p1), .val (.int p2), .unset, .unset] [])) _
    refine XS.iloadN X0.here hx rfl (hb hby at_0) rfl ?_
    show Steps p.tables e below (s₁.setTop (mkF m 1 #[.val (.int p1), .val (.int p2), .unset, .unset] [(.int p2)])) _
    refine XS.iconst X0.here hx rfl (hb hby at_1) ?_
    show Steps p.tables e below (s₁.setTop (mkF m 2 #[.val (.int p1), .val (.int p2), .unset, .unset] [(.int (4 : Int32)), (.int p2)])) _
    refine XS.iand X0.here hx rfl (hb hby at_2) rfl ?_
    show Steps p.tables e below (s₁.setTop (mkF m 3 #[.val (.int p1), .val (.int p2), .unset, .unset] [(.int (p2 &&& (4 : Int32)))])) _
    refine XS.ifYes X0.here hx rfl (pc0 := 3) (pc' := 48) rfl (hb hby at_3) rfl ((if0 _ _).trans (teq hc3).1) (by decide) (by decide) ?_
    show Steps p.tables e below (s₁.setTop (mkF m 48 #[.val (.int p1), .val (.int p2), .unset, .unset] [])) _
    refine XS.iloadN X0.here hx rfl (hb hby at_48) rfl ?_
    show Steps p.tables e below (s₁.setTop (mkF m 49 #[.val (.int p1), .val (.int p2), .unset, .unset] [(.int p1)])) _
    refine XS.i2c X0.here hx rfl (hb hby at_49) rfl ?_
    show Steps p.tables e below (s₁.setTop (mkF m 50 #[.val (.int p1), .val (.int p2), .unset, .unset] [(.int (p1.toUInt32.toUInt16.toUInt32.toInt32))])) _
    refine XS.istoreN X0.here hx rfl (hb hby at_50) rfl (l' := #[.val (.int p1), .val (.int p2), .val (.int (p1.toUInt32.toUInt16.toUInt32.toInt32)), .unset]) rfl ?_
    show Steps p.tables e below (s₁.setTop (mkF m 51 #[.val (.int p1), .val (.int p2), .val (.int (p1.toUInt32.toUInt16.toUInt32.toInt32)), .unset] [])) _
    refine XS.iloadN X0.here hx rfl (hb hby at_51) rfl ?_
    show Steps p.tables e below (s₁.setTop (mkF m 52 #[.val (.int p1), .val (.int p2), .val (.int (p1.toUInt32.toUInt16.toUInt32.toInt32)), .unset] [(.int (p1.toUInt32.toUInt16.toUInt32.toInt32))])) _
    refine st3 _ ?_
    show Steps p.tables e below (T3.setTop (mkF m 55 #[.val (.int p1), .val (.int p2), .val (.int (p1.toUInt32.toUInt16.toUInt32.toInt32)), .unset] [(.ref wA)])) _
    refine XS.astoreN X3.here hx rfl (hb hby at_55) rfl rfl (l' := #[.val (.int p1), .val (.int p2), .val (.int (p1.toUInt32.toUInt16.toUInt32.toInt32)), .val (.ref wA)]) rfl ?_
    show Steps p.tables e below (T3.setTop (mkF m 56 #[.val (.int p1), .val (.int p2), .val (.int (p1.toUInt32.toUInt16.toUInt32.toInt32)), .val (.ref wA)] [])) _
    refine XS.aloadN X3.here hx rfl (hb hby at_56) rfl rfl ?_
    show Steps p.tables e below (T3.setTop (mkF m 57 #[.val (.int p1), .val (.int p2), .val (.int (p1.toUInt32.toUInt16.toUInt32.toInt32)), .val (.ref wA)] [(.ref wA)])) _
    refine XS.iloadN X3.here hx rfl (hb hby at_57) rfl ?_
    show Steps p.tables e below (T3.setTop (mkF m 58 #[.val (.int p1), .val (.int p2), .val (.int (p1.toUInt32.toUInt16.toUInt32.toInt32)), .val (.ref wA)] [(.int (p1.toUInt32.toUInt16.toUInt32.toInt32)), (.ref wA)])) _
    refine st4 _ ?_
    show Steps p.tables e below (T4.setTop (mkF m 61 #[.val (.int p1), .val (.int p2), .val (.int (p1.toUInt32.toUInt16.toUInt32.toInt32)), .val (.ref wA)] [(.ref wA), (.ref wA)])) _
    refine Jvm.RoadKit.acmp (g := (mkF m 61 #[.val (.int p1), .val (.int p2), .val (.int (p1.toUInt32.toUInt16.toUInt32.toInt32)), .val (.ref wA)] [(.ref wA), (.ref wA)])) X4 hx rfl rfl rfl (pc0 := 61) (pc' := 64) (same := true) rfl (hb hby at_61) rfl (decide_eq_true rfl) (by decide) (by decide) ?_
    show Steps p.tables e below (T4.setTop (mkF m 64 #[.val (.int p1), .val (.int p2), .val (.int (p1.toUInt32.toUInt16.toUInt32.toInt32)), .val (.ref wA)] [])) _
    refine XS.iconst X4.here hx rfl (hb hby at_64) ?_
    show Steps p.tables e below (T4.setTop (mkF m 65 #[.val (.int p1), .val (.int p2), .val (.int (p1.toUInt32.toUInt16.toUInt32.toInt32)), .val (.ref wA)] [(.int (1 : Int32))])) _
    refine XS.goto X4.here hx rfl (pc0 := 65) (pc' := 69) rfl (hb hby at_65) (by decide) (by decide) ?_
    show Steps p.tables e below (T4.setTop (mkF m 69 #[.val (.int p1), .val (.int p2), .val (.int (p1.toUInt32.toUInt16.toUInt32.toInt32)), .val (.ref wA)] [(.int (1 : Int32))])) _
    exact retN X4 hx (t := .boolean) Bd.returns (by simp) (hb hby at_69) hr
  · show Q0 n0 _ _
    exact ⟨rfl, N4⟩

set_option maxRecDepth 65536 in
set_option maxHeartbeats 40000000 in
theorem rm0_SUBTRACT_lit (l : Launch) (Z : State) (a0 : Array Value) (hw : ∀ d ∈ tables_1, d.before a0 Z = true) (ws : List Jvm.Cond) (p1 : Int32) (p2 : Int32) (wV : Addr) (kV : ClassId) (wA wS wM wD : Addr) (h0 : Heap) (n0 : Nat) (Z0 : n0 ≤ h0.size) (S_V : Sta Z h0 "com/example/variantic/variantic/rules/ArithmeticOperator" "$VALUES" "[Lcom/example/variantic/variantic/rules/ArithmeticOperator;" (.ref wV)) (V_V : Arv Z h0 wV kV (.object "com/example/variantic/variantic/rules/ArithmeticOperator") (4 : Int32) [.ref wA, .ref wS, .ref wM, .ref wD] .null) (E_V : Exa Z h0 wV "[Lcom/example/variantic/variantic/rules/ArithmeticOperator;") (S_wA : Sta Z h0 "com/example/variantic/variantic/rules/ArithmeticOperator" "ADD" "Lcom/example/variantic/variantic/rules/ArithmeticOperator;" (.ref wA)) (S_wS : Sta Z h0 "com/example/variantic/variantic/rules/ArithmeticOperator" "SUBTRACT" "Lcom/example/variantic/variantic/rules/ArithmeticOperator;" (.ref wS)) (S_wM : Sta Z h0 "com/example/variantic/variantic/rules/ArithmeticOperator" "MULTIPLY" "Lcom/example/variantic/variantic/rules/ArithmeticOperator;" (.ref wM)) (S_wD : Sta Z h0 "com/example/variantic/variantic/rules/ArithmeticOperator" "DIVIDE" "Lcom/example/variantic/variantic/rules/ArithmeticOperator;" (.ref wD)) (F_wA : Fld Z h0 wA "com/example/variantic/variantic/rules/ArithmeticOperator" "symbol" "C" (.int (43 : Int32))) (F_wS : Fld Z h0 wS "com/example/variantic/variantic/rules/ArithmeticOperator" "symbol" "C" (.int (45 : Int32))) (F_wM : Fld Z h0 wM "com/example/variantic/variantic/rules/ArithmeticOperator" "symbol" "C" (.int (42 : Int32))) (F_wD : Fld Z h0 wD "com/example/variantic/variantic/rules/ArithmeticOperator" "symbol" "C" (.int (47 : Int32))) (hc3 : ¬ ((p2 &&& (4 : Int32)) = (0 : Int32))) (hc11 : ¬ ((p2 &&& (3 : Int32)) = (0 : Int32))) (hc22 : (p2 &&& (3 : Int32)) = (1 : Int32)) :
    MetFree l x (head1 (Jvm.Cond.code x code maxLocals ret :: ws) room_1) (fun a U => a = #[(.int p1), (.int p2)] ∧ Z.Warmed39 U.vm ∧ U.heap = h0) (fun _ _ _ _ _ => True) (fun _ U o U' => ∃ v L, o = .returned v ∧ Q0 n0 v L ∧ FrameEnd U o U' L room_1.cells room_1.slots) := by
  refine MetFree.of_bodySF (plainFor_of_name pn_0) hisR ?_
  intro p e s m args below meth c s₁ Bd hml0 hP hK
  obtain ⟨rfl, hZ, hh⟩ := hP
  have hx := Bd.exec
  have hby := Bd.bytes
  have hml : c.maxLocals = 4 := hml0
  have hown : s.vm.findClass "com/example/variantic/variantic/rules/ArithmeticOperatorWithSymbolPinLaw" = some m.cls := findClass_of_methodNamed Bd.named
  have hnm := (name_of_methodNamed Bd.named Bd.method).1
  have X0 : Stand p l e room_1 s m #[(.int p1), (.int p2)] below meth c s₁ [] 0 0 := Stand.of_body Bd
  have e0 : s₁.heap = h0 := by rw [← hh, Bd.state]; rfl
  have N0 := Fr.nil n0
  have pre0 : ∀ t, Steps p.tables e below (s₁.setTop (mkF m 0 #[.val (.int p1), .val (.int p2), .unset, .unset] [])) t → Steps p.tables e below (s₁.setTop (entryFrame m #[(.int p1), (.int p2)] maxLocals)) t := fun t k => castTop (ef_0 m p1 p2) k
  -- 3. LAWS
  -- pc 52: com/example/variantic/variantic/rules/ArithmeticOperator.withSymbol by its contract rm1
  obtain ⟨_, _, ⟨T3, L3, k3, n3⟩, -, X3, ⟨Lc3, hQ3, l3, y3, z3⟩, st3⟩ := Jvm.LawKit.callS X0 hx (y := (⟨"com/example/variantic/variantic/rules/ArithmeticOperator", "withSymbol", "(C)Lcom/example/variantic/variantic/rules/ArithmeticOperator;"⟩ : MethodName)) hown (mvT hZ (hw _ (List.mem_of_getElem? (i := 0) rfl))) (mvT hZ (hw _ (List.mem_of_getElem? (i := 1) rfl))) (mvT hZ (hw _ (List.mem_of_getElem? (i := 2) rfl))) (mvT hZ (hw _ (List.mem_of_getElem? (i := 3) rfl))) (by decide) (backOf (W := 0) (rm1_SUBTRACT l Z a0 hw [] (45 : Int32) wV kV wA wS wM wD h0 n0 Z0 S_V V_V E_V F_wA F_wS (by decide) (by decide)) hZ (hw _ (List.mem_of_getElem? (i := 3) rfl)) (hw _ (List.mem_of_getElem? (i := 2) rfl)) (by decide) (by decide)) (g := (mkF m 52 #[.val (.int p1), .val (.int p2), .val (.int (45 : Int32)), .val (.int (p2 &&& (3 : Int32)))] [(.int (45 : Int32))])) rfl (by rw [hml]; rfl) (argsL := [(.int (45 : Int32))]) (rest := []) (lenOf pd_0_0 rfl) rfl (by show 2 * 0 + _ ≤ _; exact Nat.le_of_eq rfl) (hb hby at_52) (fun _ _ => ⟨rfl, e0, (by decide : 0 + 1 ≤ _), (by decide : 0 + 4 ≤ _)⟩)
  dsimp only [Pt.U, Pt.locs, Pt.cells, Pt.slots] at X3 l3 y3 z3 st3 hQ3
  subst l3 y3 z3
  obtain ⟨rfl, N3q, E3⟩ := hQ3
  have N3 := Fr.app N0 N3q
  -- pc 58: com/example/variantic/variantic/rules/ArithmeticOperatorWithSymbolPinLaw.expected by its contract rm3
  obtain ⟨_, _, ⟨T4, L4, k4, n4⟩, -, X4, ⟨Lc4, hQ4, l4, y4, z4⟩, st4⟩ := Jvm.LawKit.callS X3 hx (y := (⟨"com/example/variantic/variantic/rules/ArithmeticOperatorWithSymbolPinLaw", "expected", "(C)Lcom/example/variantic/variantic/rules/ArithmeticOperator;"⟩ : MethodName)) hown (mvT hZ (hw _ (List.mem_of_getElem? (i := 25) rfl))) (mvT hZ (hw _ (List.mem_of_getElem? (i := 26) rfl))) (mvT hZ (hw _ (List.mem_of_getElem? (i := 27) rfl))) (mvT hZ (hw _ (List.mem_of_getElem? (i := 28) rfl))) (by decide) (backOf (W := 1) (rm3_SUBTRACT l Z a0 hw [] (45 : Int32) wS T3.heap n0 (Nat.le_trans Z0 E3.1) (S_wS.ext E3) (by decide) (by decide)) hZ (hw _ (List.mem_of_getElem? (i := 28) rfl)) (hw _ (List.mem_of_getElem? (i := 27) rfl)) (by decide) (by decide)) (g := (mkF m 58 #[.val (.int p1), .val (.int p2), .val (.int (45 : Int32)), .val (.ref wS)] [(.int (45 : Int32)), (.ref wS)])) rfl (by rw [hml]; rfl) (argsL := [(.int (45 : Int32))]) (rest := [(.ref wS)]) (lenOf pd_0_0 rfl) rfl (by show 2 * 0 + _ ≤ _; exact Nat.le_of_eq rfl) (hb hby at_58) (fun _ _ => ⟨rfl, rfl, (by decide : 1 + 0 ≤ _), (by decide : 4 + 0 ≤ _)⟩)
  dsimp only [Pt.U, Pt.locs, Pt.cells, Pt.slots] at X4 l4 y4 z4 st4 hQ4
  subst l4 y4 z4
  obtain ⟨rfl, N4q, hh4⟩ := hQ4
  have N4 := Fr.app N3 N4q
  obtain ⟨fs, hr, hrun, hended, hW, hsame⟩ := X4.leave (v := some (.int (1 : Int32))) (fun h => by rw [Bd.returns] at h; cases h)
  refine ⟨_, _, pre0 _ ?_, hrun, hended, _, _, rfl, ?_, ⟨_, rfl⟩, hW, hsame.mono (by decide) (by decide)⟩
  -- 4. STEPS
  · show Steps p.tables e below (s₁.setTop (mkF m 0 #[.val (.int p1), .val (.int p2), .unset, .unset] [])) _
    refine XS.iloadN X0.here hx rfl (hb hby at_0) rfl ?_
    show Steps p.tables e below (s₁.setTop (mkF m 1 #[.val (.int p1), .val (.int p2), .unset, .unset] [(.int p2)])) _
    refine XS.iconst X0.here hx rfl (hb hby at_1) ?_
    show Steps p.tables e below (s₁.setTop (mkF m 2 #[.val (.int p1), .val (.int p2), .unset, .unset] [(.int (4 : Int32)), (.int p2)])) _
    refine XS.iand X0.here hx rfl (hb hby at_2) rfl ?_
    show Steps p.tables e below (s₁.setTop (mkF m 3 #[.val (.int p1), .val (.int p2), .unset, .unset] [(.int (p2 &&& (4 : Int32)))])) _
    refine XS.ifNo X0.here hx rfl (hb hby at_3) rfl ((if0 _ _).trans (feq hc3).1) ?_
    show Steps p.tables e below (s₁.setTop (mkF m 6 #[.val (.int p1), .val (.int p2), .unset, .unset] [])) _
    refine XS.iloadN X0.here hx rfl (hb hby at_6) rfl ?_
    show Steps p.tables e below (s₁.setTop (mkF m 7 #[.val (.int p1), .val (.int p2), .unset, .unset] [(.int p2)])) _
    refine XS.iconst X0.here hx rfl (hb hby at_7) ?_
    show Steps p.tables e below (s₁.setTop (mkF m 8 #[.val (.int p1), .val (.int p2), .unset, .unset] [(.int (3 : Int32)), (.int p2)])) _
    refine XS.iand X0.here hx rfl (hb hby at_8) rfl ?_
    show Steps p.tables e below (s₁.setTop (mkF m 9 #[.val (.int p1), .val (.int p2), .unset, .unset] [(.int (p2 &&& (3 : Int32)))])) _
    refine XS.istoreN X0.here hx rfl (hb hby at_9) rfl (l' := #[.val (.int p1), .val (.int p2), .unset, .val (.int (p2 &&& (3 : Int32)))]) rfl ?_
    show Steps p.tables e below (s₁.setTop (mkF m 10 #[.val (.int p1), .val (.int p2), .unset, .val (.int (p2 &&& (3 : Int32)))] [])) _
    refine XS.iloadN X0.here hx rfl (hb hby at_10) rfl ?_
    show Steps p.tables e below (s₁.setTop (mkF m 11 #[.val (.int p1), .val (.int p2), .unset, .val (.int (p2 &&& (3 : Int32)))] [(.int (p2 &&& (3 : Int32)))])) _
    refine XS.ifYes X0.here hx rfl (pc0 := 11) (pc' := 20) rfl (hb hby at_11) rfl ((if0 _ _).trans (feq hc11).2) (by decide) (by decide) ?_
    show Steps p.tables e below (s₁.setTop (mkF m 20 #[.val (.int p1), .val (.int p2), .unset, .val (.int (p2 &&& (3 : Int32)))] [])) _
    refine XS.iloadN X0.here hx rfl (hb hby at_20) rfl ?_
    show Steps p.tables e below (s₁.setTop (mkF m 21 #[.val (.int p1), .val (.int p2), .unset, .val (.int (p2 &&& (3 : Int32)))] [(.int (p2 &&& (3 : Int32)))])) _
    refine XS.iconst X0.here hx rfl (hb hby at_21) ?_
    show Steps p.tables e below (s₁.setTop (mkF m 22 #[.val (.int p1), .val (.int p2), .unset, .val (.int (p2 &&& (3 : Int32)))] [(.int (1 : Int32)), (.int (p2 &&& (3 : Int32)))])) _
    refine XS.icmpNo X0.here hx rfl (hb hby at_22) rfl (teq hc22).2 ?_
    show Steps p.tables e below (s₁.setTop (mkF m 25 #[.val (.int p1), .val (.int p2), .unset, .val (.int (p2 &&& (3 : Int32)))] [])) _
    refine XS.bipush X0.here hx rfl (hb hby at_25) ?_
    show Steps p.tables e below (s₁.setTop (mkF m 27 #[.val (.int p1), .val (.int p2), .unset, .val (.int (p2 &&& (3 : Int32)))] [(.int (45 : Int32))])) _
    refine XS.istoreN X0.here hx rfl (hb hby at_27) rfl (l' := #[.val (.int p1), .val (.int p2), .val (.int (45 : Int32)), .val (.int (p2 &&& (3 : Int32)))]) rfl ?_
    show Steps p.tables e below (s₁.setTop (mkF m 28 #[.val (.int p1), .val (.int p2), .val (.int (45 : Int32)), .val (.int (p2 &&& (3 : Int32)))] [])) _
    refine XS.goto X0.here hx rfl (pc0 := 28) (pc' := 45) rfl (hb hby at_28) (by decide) (by decide) ?_
    show Steps p.tables e below (s₁.setTop (mkF m 45 #[.val (.int p1), .val (.int p2), .val (.int (45 : Int32)), .val (.int (p2 &&& (3 : Int32)))] [])) _
    refine XS.goto X0.here hx rfl (pc0 := 45) (pc' := 51) rfl (hb hby at_45) (by decide) (by decide) ?_
    show Steps p.tables e below (s₁.setTop (mkF m 51 #[.val (.int p1), .val (.int p2), .val (.int (45 : Int32)), .val (.int (p2 &&& (3 : Int32)))] [])) _
    refine XS.iloadN X0.here hx rfl (hb hby at_51) rfl ?_
    show Steps p.tables e below (s₁.setTop (mkF m 52 #[.val (.int p1), .val (.int p2), .val (.int (45 : Int32)), .val (.int (p2 &&& (3 : Int32)))] [(.int (45 : Int32))])) _
    refine st3 _ ?_
    show Steps p.tables e below (T3.setTop (mkF m 55 #[.val (.int p1), .val (.int p2), .val (.int (45 : Int32)), .val (.int (p2 &&& (3 : Int32)))] [(.ref wS)])) _
    refine XS.astoreN X3.here hx rfl (hb hby at_55) rfl rfl (l' := #[.val (.int p1), .val (.int p2), .val (.int (45 : Int32)), .val (.ref wS)]) rfl ?_
    show Steps p.tables e below (T3.setTop (mkF m 56 #[.val (.int p1), .val (.int p2), .val (.int (45 : Int32)), .val (.ref wS)] [])) _
    refine XS.aloadN X3.here hx rfl (hb hby at_56) rfl rfl ?_
    show Steps p.tables e below (T3.setTop (mkF m 57 #[.val (.int p1), .val (.int p2), .val (.int (45 : Int32)), .val (.ref wS)] [(.ref wS)])) _
    refine XS.iloadN X3.here hx rfl (hb hby at_57) rfl ?_
    show Steps p.tables e below (T3.setTop (mkF m 58 #[.val (.int p1), .val (.int p2), .val (.int (45 : Int32)), .val (.ref wS)] [(.int (45 : Int32)), (.ref wS)])) _
    refine st4 _ ?_
    show Steps p.tables e below (T4.setTop (mkF m 61 #[.val (.int p1), .val (.int p2), .val (.int (45 : Int32)), .val (.ref wS)] [(.ref wS), (.ref wS)])) _
    refine Jvm.RoadKit.acmp (g := (mkF m 61 #[.val (.int p1), .val (.int p2), .val (.int (45 : Int32)), .val (.ref wS)] [(.ref wS), (.ref wS)])) X4 hx rfl rfl rfl (pc0 := 61) (pc' := 64) (same := true) rfl (hb hby at_61) rfl (decide_eq_true rfl) (by decide) (by decide) ?_
    show Steps p.tables e below (T4.setTop (mkF m 64 #[.val (.int p1), .val (.int p2), .val (.int (45 : Int32)), .val (.ref wS)] [])) _
    refine XS.iconst X4.here hx rfl (hb hby at_64) ?_
    show Steps p.tables e below (T4.setTop (mkF m 65 #[.val (.int p1), .val (.int p2), .val (.int (45 : Int32)), .val (.ref wS)] [(.int (1 : Int32))])) _
    refine XS.goto X4.here hx rfl (pc0 := 65) (pc' := 69) rfl (hb hby at_65) (by decide) (by decide) ?_
    show Steps p.tables e below (T4.setTop (mkF m 69 #[.val (.int p1), .val (.int p2), .val (.int (45 : Int32)), .val (.ref wS)] [(.int (1 : Int32))])) _
    exact retN X4 hx (t := .boolean) Bd.returns (by simp) (hb hby at_69) hr
  · show Q0 n0 _ _
    exact ⟨rfl, N4⟩

set_option maxRecDepth 65536 in
set_option maxHeartbeats 40000000 in
theorem rm0_SUBTRACT (l : Launch) (Z : State) (a0 : Array Value) (hw : ∀ d ∈ tables_1, d.before a0 Z = true) (ws : List Jvm.Cond) (p1 : Int32) (p2 : Int32) (wV : Addr) (kV : ClassId) (wA wS wM wD : Addr) (h0 : Heap) (n0 : Nat) (Z0 : n0 ≤ h0.size) (S_V : Sta Z h0 "com/example/variantic/variantic/rules/ArithmeticOperator" "$VALUES" "[Lcom/example/variantic/variantic/rules/ArithmeticOperator;" (.ref wV)) (V_V : Arv Z h0 wV kV (.object "com/example/variantic/variantic/rules/ArithmeticOperator") (4 : Int32) [.ref wA, .ref wS, .ref wM, .ref wD] .null) (E_V : Exa Z h0 wV "[Lcom/example/variantic/variantic/rules/ArithmeticOperator;") (S_wA : Sta Z h0 "com/example/variantic/variantic/rules/ArithmeticOperator" "ADD" "Lcom/example/variantic/variantic/rules/ArithmeticOperator;" (.ref wA)) (S_wS : Sta Z h0 "com/example/variantic/variantic/rules/ArithmeticOperator" "SUBTRACT" "Lcom/example/variantic/variantic/rules/ArithmeticOperator;" (.ref wS)) (S_wM : Sta Z h0 "com/example/variantic/variantic/rules/ArithmeticOperator" "MULTIPLY" "Lcom/example/variantic/variantic/rules/ArithmeticOperator;" (.ref wM)) (S_wD : Sta Z h0 "com/example/variantic/variantic/rules/ArithmeticOperator" "DIVIDE" "Lcom/example/variantic/variantic/rules/ArithmeticOperator;" (.ref wD)) (F_wA : Fld Z h0 wA "com/example/variantic/variantic/rules/ArithmeticOperator" "symbol" "C" (.int (43 : Int32))) (F_wS : Fld Z h0 wS "com/example/variantic/variantic/rules/ArithmeticOperator" "symbol" "C" (.int (45 : Int32))) (F_wM : Fld Z h0 wM "com/example/variantic/variantic/rules/ArithmeticOperator" "symbol" "C" (.int (42 : Int32))) (F_wD : Fld Z h0 wD "com/example/variantic/variantic/rules/ArithmeticOperator" "symbol" "C" (.int (47 : Int32))) (hz0 : ¬ ((p1.toUInt32.toUInt16.toUInt32.toInt32) = (43 : Int32))) (hz : (p1.toUInt32.toUInt16.toUInt32.toInt32) = (45 : Int32)) (hc3 : (p2 &&& (4 : Int32)) = (0 : Int32)) :
    MetFree l x (head1 (Jvm.Cond.code x code maxLocals ret :: ws) room_1) (fun a U => a = #[(.int p1), (.int p2)] ∧ Z.Warmed39 U.vm ∧ U.heap = h0) (fun _ _ _ _ _ => True) (fun _ U o U' => ∃ v L, o = .returned v ∧ Q0 n0 v L ∧ FrameEnd U o U' L room_1.cells room_1.slots) := by
  refine MetFree.of_bodySF (plainFor_of_name pn_0) hisR ?_
  intro p e s m args below meth c s₁ Bd hml0 hP hK
  obtain ⟨rfl, hZ, hh⟩ := hP
  have hx := Bd.exec
  have hby := Bd.bytes
  have hml : c.maxLocals = 4 := hml0
  have hown : s.vm.findClass "com/example/variantic/variantic/rules/ArithmeticOperatorWithSymbolPinLaw" = some m.cls := findClass_of_methodNamed Bd.named
  have hnm := (name_of_methodNamed Bd.named Bd.method).1
  have X0 : Stand p l e room_1 s m #[(.int p1), (.int p2)] below meth c s₁ [] 0 0 := Stand.of_body Bd
  have e0 : s₁.heap = h0 := by rw [← hh, Bd.state]; rfl
  have N0 := Fr.nil n0
  have pre0 : ∀ t, Steps p.tables e below (s₁.setTop (mkF m 0 #[.val (.int p1), .val (.int p2), .unset, .unset] [])) t → Steps p.tables e below (s₁.setTop (entryFrame m #[(.int p1), (.int p2)] maxLocals)) t := fun t k => castTop (ef_0 m p1 p2) k
  -- 3. LAWS
  -- pc 52: com/example/variantic/variantic/rules/ArithmeticOperator.withSymbol by its contract rm1
  obtain ⟨_, _, ⟨T3, L3, k3, n3⟩, -, X3, ⟨Lc3, hQ3, l3, y3, z3⟩, st3⟩ := Jvm.LawKit.callS X0 hx (y := (⟨"com/example/variantic/variantic/rules/ArithmeticOperator", "withSymbol", "(C)Lcom/example/variantic/variantic/rules/ArithmeticOperator;"⟩ : MethodName)) hown (mvT hZ (hw _ (List.mem_of_getElem? (i := 0) rfl))) (mvT hZ (hw _ (List.mem_of_getElem? (i := 1) rfl))) (mvT hZ (hw _ (List.mem_of_getElem? (i := 2) rfl))) (mvT hZ (hw _ (List.mem_of_getElem? (i := 3) rfl))) (by decide) (backOf (W := 0) (rm1_SUBTRACT l Z a0 hw [] (p1.toUInt32.toUInt16.toUInt32.toInt32) wV kV wA wS wM wD h0 n0 Z0 S_V V_V E_V F_wA F_wS (fun q => hz0 q.symm) (Eq.symm hz)) hZ (hw _ (List.mem_of_getElem? (i := 3) rfl)) (hw _ (List.mem_of_getElem? (i := 2) rfl)) (by decide) (by decide)) (g := (mkF m 52 #[.val (.int p1), .val (.int p2), .val (.int (p1.toUInt32.toUInt16.toUInt32.toInt32)), .unset] [(.int (p1.toUInt32.toUInt16.toUInt32.toInt32))])) rfl (by rw [hml]; rfl) (argsL := [(.int (p1.toUInt32.toUInt16.toUInt32.toInt32))]) (rest := []) (lenOf pd_0_0 rfl) rfl (by show 2 * 0 + _ ≤ _; exact Nat.le_of_eq rfl) (hb hby at_52) (fun _ _ => ⟨rfl, e0, (by decide : 0 + 1 ≤ _), (by decide : 0 + 4 ≤ _)⟩)
  dsimp only [Pt.U, Pt.locs, Pt.cells, Pt.slots] at X3 l3 y3 z3 st3 hQ3
  subst l3 y3 z3
  obtain ⟨rfl, N3q, E3⟩ := hQ3
  have N3 := Fr.app N0 N3q
  -- pc 58: com/example/variantic/variantic/rules/ArithmeticOperatorWithSymbolPinLaw.expected by its contract rm3
  obtain ⟨_, _, ⟨T4, L4, k4, n4⟩, -, X4, ⟨Lc4, hQ4, l4, y4, z4⟩, st4⟩ := Jvm.LawKit.callS X3 hx (y := (⟨"com/example/variantic/variantic/rules/ArithmeticOperatorWithSymbolPinLaw", "expected", "(C)Lcom/example/variantic/variantic/rules/ArithmeticOperator;"⟩ : MethodName)) hown (mvT hZ (hw _ (List.mem_of_getElem? (i := 25) rfl))) (mvT hZ (hw _ (List.mem_of_getElem? (i := 26) rfl))) (mvT hZ (hw _ (List.mem_of_getElem? (i := 27) rfl))) (mvT hZ (hw _ (List.mem_of_getElem? (i := 28) rfl))) (by decide) (backOf (W := 1) (rm3_SUBTRACT l Z a0 hw [] (p1.toUInt32.toUInt16.toUInt32.toInt32) wS T3.heap n0 (Nat.le_trans Z0 E3.1) (S_wS.ext E3) hz0 hz) hZ (hw _ (List.mem_of_getElem? (i := 28) rfl)) (hw _ (List.mem_of_getElem? (i := 27) rfl)) (by decide) (by decide)) (g := (mkF m 58 #[.val (.int p1), .val (.int p2), .val (.int (p1.toUInt32.toUInt16.toUInt32.toInt32)), .val (.ref wS)] [(.int (p1.toUInt32.toUInt16.toUInt32.toInt32)), (.ref wS)])) rfl (by rw [hml]; rfl) (argsL := [(.int (p1.toUInt32.toUInt16.toUInt32.toInt32))]) (rest := [(.ref wS)]) (lenOf pd_0_0 rfl) rfl (by show 2 * 0 + _ ≤ _; exact Nat.le_of_eq rfl) (hb hby at_58) (fun _ _ => ⟨rfl, rfl, (by decide : 1 + 0 ≤ _), (by decide : 4 + 0 ≤ _)⟩)
  dsimp only [Pt.U, Pt.locs, Pt.cells, Pt.slots] at X4 l4 y4 z4 st4 hQ4
  subst l4 y4 z4
  obtain ⟨rfl, N4q, hh4⟩ := hQ4
  have N4 := Fr.app N3 N4q
  obtain ⟨fs, hr, hrun, hended, hW, hsame⟩ := X4.leave (v := some (.int (1 : Int32))) (fun h => by rw [Bd.returns] at h; cases h)
  refine ⟨_, _, pre0 _ ?_, hrun, hended, _, _, rfl, ?_, ⟨_, rfl⟩, hW, hsame.mono (by decide) (by decide)⟩
  -- 4. STEPS
  · show Steps p.tables e below (s₁.setTop (mkF m 0 #[.val (.int p1), .val (.int p2), .unset, .unset] [])) _
    refine XS.iloadN X0.here hx rfl (hb hby at_0) rfl ?_
    show Steps p.tables e below (s₁.setTop (mkF m 1 #[.val (.int p1), .val (.int p2), .unset, .unset] [(.int p2)])) _
    refine XS.iconst X0.here hx rfl (hb hby at_1) ?_
    show Steps p.tables e below (s₁.setTop (mkF m 2 #[.val (.int p1), .val (.int p2), .unset, .unset] [(.int (4 : Int32)), (.int p2)])) _
    refine XS.iand X0.here hx rfl (hb hby at_2) rfl ?_
    show Steps p.tables e below (s₁.setTop (mkF m 3 #[.val (.int p1), .val (.int p2), .unset, .unset] [(.int (p2 &&& (4 : Int32)))])) _
    refine XS.ifYes X0.here hx rfl (pc0 := 3) (pc' := 48) rfl (hb hby at_3) rfl ((if0 _ _).trans (teq hc3).1) (by decide) (by decide) ?_
    show Steps p.tables e below (s₁.setTop (mkF m 48 #[.val (.int p1), .val (.int p2), .unset, .unset] [])) _
    refine XS.iloadN X0.here hx rfl (hb hby at_48) rfl ?_
    show Steps p.tables e below (s₁.setTop (mkF m 49 #[.val (.int p1), .val (.int p2), .unset, .unset] [(.int p1)])) _
    refine XS.i2c X0.here hx rfl (hb hby at_49) rfl ?_
    show Steps p.tables e below (s₁.setTop (mkF m 50 #[.val (.int p1), .val (.int p2), .unset, .unset] [(.int (p1.toUInt32.toUInt16.toUInt32.toInt32))])) _
    refine XS.istoreN X0.here hx rfl (hb hby at_50) rfl (l' := #[.val (.int p1), .val (.int p2), .val (.int (p1.toUInt32.toUInt16.toUInt32.toInt32)), .unset]) rfl ?_
    show Steps p.tables e below (s₁.setTop (mkF m 51 #[.val (.int p1), .val (.int p2), .val (.int (p1.toUInt32.toUInt16.toUInt32.toInt32)), .unset] [])) _
    refine XS.iloadN X0.here hx rfl (hb hby at_51) rfl ?_
    show Steps p.tables e below (s₁.setTop (mkF m 52 #[.val (.int p1), .val (.int p2), .val (.int (p1.toUInt32.toUInt16.toUInt32.toInt32)), .unset] [(.int (p1.toUInt32.toUInt16.toUInt32.toInt32))])) _
    refine st3 _ ?_
    show Steps p.tables e below (T3.setTop (mkF m 55 #[.val (.int p1), .val (.int p2), .val (.int (p1.toUInt32.toUInt16.toUInt32.toInt32)), .unset] [(.ref wS)])) _
    refine XS.astoreN X3.here hx rfl (hb hby at_55) rfl rfl (l' := #[.val (.int p1), .val (.int p2), .val (.int (p1.toUInt32.toUInt16.toUInt32.toInt32)), .val (.ref wS)]) rfl ?_
    show Steps p.tables e below (T3.setTop (mkF m 56 #[.val (.int p1), .val (.int p2), .val (.int (p1.toUInt32.toUInt16.toUInt32.toInt32)), .val (.ref wS)] [])) _
    refine XS.aloadN X3.here hx rfl (hb hby at_56) rfl rfl ?_
    show Steps p.tables e below (T3.setTop (mkF m 57 #[.val (.int p1), .val (.int p2), .val (.int (p1.toUInt32.toUInt16.toUInt32.toInt32)), .val (.ref wS)] [(.ref wS)])) _
    refine XS.iloadN X3.here hx rfl (hb hby at_57) rfl ?_
    show Steps p.tables e below (T3.setTop (mkF m 58 #[.val (.int p1), .val (.int p2), .val (.int (p1.toUInt32.toUInt16.toUInt32.toInt32)), .val (.ref wS)] [(.int (p1.toUInt32.toUInt16.toUInt32.toInt32)), (.ref wS)])) _
    refine st4 _ ?_
    show Steps p.tables e below (T4.setTop (mkF m 61 #[.val (.int p1), .val (.int p2), .val (.int (p1.toUInt32.toUInt16.toUInt32.toInt32)), .val (.ref wS)] [(.ref wS), (.ref wS)])) _
    refine Jvm.RoadKit.acmp (g := (mkF m 61 #[.val (.int p1), .val (.int p2), .val (.int (p1.toUInt32.toUInt16.toUInt32.toInt32)), .val (.ref wS)] [(.ref wS), (.ref wS)])) X4 hx rfl rfl rfl (pc0 := 61) (pc' := 64) (same := true) rfl (hb hby at_61) rfl (decide_eq_true rfl) (by decide) (by decide) ?_
    show Steps p.tables e below (T4.setTop (mkF m 64 #[.val (.int p1), .val (.int p2), .val (.int (p1.toUInt32.toUInt16.toUInt32.toInt32)), .val (.ref wS)] [])) _
    refine XS.iconst X4.here hx rfl (hb hby at_64) ?_
    show Steps p.tables e below (T4.setTop (mkF m 65 #[.val (.int p1), .val (.int p2), .val (.int (p1.toUInt32.toUInt16.toUInt32.toInt32)), .val (.ref wS)] [(.int (1 : Int32))])) _
    refine XS.goto X4.here hx rfl (pc0 := 65) (pc' := 69) rfl (hb hby at_65) (by decide) (by decide) ?_
    show Steps p.tables e below (T4.setTop (mkF m 69 #[.val (.int p1), .val (.int p2), .val (.int (p1.toUInt32.toUInt16.toUInt32.toInt32)), .val (.ref wS)] [(.int (1 : Int32))])) _
    exact retN X4 hx (t := .boolean) Bd.returns (by simp) (hb hby at_69) hr
  · show Q0 n0 _ _
    exact ⟨rfl, N4⟩

set_option maxRecDepth 65536 in
set_option maxHeartbeats 40000000 in
theorem rm0_MULTIPLY_lit (l : Launch) (Z : State) (a0 : Array Value) (hw : ∀ d ∈ tables_1, d.before a0 Z = true) (ws : List Jvm.Cond) (p1 : Int32) (p2 : Int32) (wV : Addr) (kV : ClassId) (wA wS wM wD : Addr) (h0 : Heap) (n0 : Nat) (Z0 : n0 ≤ h0.size) (S_V : Sta Z h0 "com/example/variantic/variantic/rules/ArithmeticOperator" "$VALUES" "[Lcom/example/variantic/variantic/rules/ArithmeticOperator;" (.ref wV)) (V_V : Arv Z h0 wV kV (.object "com/example/variantic/variantic/rules/ArithmeticOperator") (4 : Int32) [.ref wA, .ref wS, .ref wM, .ref wD] .null) (E_V : Exa Z h0 wV "[Lcom/example/variantic/variantic/rules/ArithmeticOperator;") (S_wA : Sta Z h0 "com/example/variantic/variantic/rules/ArithmeticOperator" "ADD" "Lcom/example/variantic/variantic/rules/ArithmeticOperator;" (.ref wA)) (S_wS : Sta Z h0 "com/example/variantic/variantic/rules/ArithmeticOperator" "SUBTRACT" "Lcom/example/variantic/variantic/rules/ArithmeticOperator;" (.ref wS)) (S_wM : Sta Z h0 "com/example/variantic/variantic/rules/ArithmeticOperator" "MULTIPLY" "Lcom/example/variantic/variantic/rules/ArithmeticOperator;" (.ref wM)) (S_wD : Sta Z h0 "com/example/variantic/variantic/rules/ArithmeticOperator" "DIVIDE" "Lcom/example/variantic/variantic/rules/ArithmeticOperator;" (.ref wD)) (F_wA : Fld Z h0 wA "com/example/variantic/variantic/rules/ArithmeticOperator" "symbol" "C" (.int (43 : Int32))) (F_wS : Fld Z h0 wS "com/example/variantic/variantic/rules/ArithmeticOperator" "symbol" "C" (.int (45 : Int32))) (F_wM : Fld Z h0 wM "com/example/variantic/variantic/rules/ArithmeticOperator" "symbol" "C" (.int (42 : Int32))) (F_wD : Fld Z h0 wD "com/example/variantic/variantic/rules/ArithmeticOperator" "symbol" "C" (.int (47 : Int32))) (hc3 : ¬ ((p2 &&& (4 : Int32)) = (0 : Int32))) (hc11 : ¬ ((p2 &&& (3 : Int32)) = (0 : Int32))) (hc22 : ¬ ((p2 &&& (3 : Int32)) = (1 : Int32))) (hc33 : (p2 &&& (3 : Int32)) = (2 : Int32)) :
    MetFree l x (head1 (Jvm.Cond.code x code maxLocals ret :: ws) room_1) (fun a U => a = #[(.int p1), (.int p2)] ∧ Z.Warmed39 U.vm ∧ U.heap = h0) (fun _ _ _ _ _ => True) (fun _ U o U' => ∃ v L, o = .returned v ∧ Q0 n0 v L ∧ FrameEnd U o U' L room_1.cells room_1.slots) := by
  refine MetFree.of_bodySF (plainFor_of_name pn_0) hisR ?_
  intro p e s m args below meth c s₁ Bd hml0 hP hK
  obtain ⟨rfl, hZ, hh⟩ := hP
  have hx := Bd.exec
  have hby := Bd.bytes
  have hml : c.maxLocals = 4 := hml0
  have hown : s.vm.findClass "com/example/variantic/variantic/rules/ArithmeticOperatorWithSymbolPinLaw" = some m.cls := findClass_of_methodNamed Bd.named
  have hnm := (name_of_methodNamed Bd.named Bd.method).1
  have X0 : Stand p l e room_1 s m #[(.int p1), (.int p2)] below meth c s₁ [] 0 0 := Stand.of_body Bd
  have e0 : s₁.heap = h0 := by rw [← hh, Bd.state]; rfl
  have N0 := Fr.nil n0
  have pre0 : ∀ t, Steps p.tables e below (s₁.setTop (mkF m 0 #[.val (.int p1), .val (.int p2), .unset, .unset] [])) t → Steps p.tables e below (s₁.setTop (entryFrame m #[(.int p1), (.int p2)] maxLocals)) t := fun t k => castTop (ef_0 m p1 p2) k
  -- 3. LAWS
  -- pc 52: com/example/variantic/variantic/rules/ArithmeticOperator.withSymbol by its contract rm1
  obtain ⟨_, _, ⟨T3, L3, k3, n3⟩, -, X3, ⟨Lc3, hQ3, l3, y3, z3⟩, st3⟩ := Jvm.LawKit.callS X0 hx (y := (⟨"com/example/variantic/variantic/rules/ArithmeticOperator", "withSymbol", "(C)Lcom/example/variantic/variantic/rules/ArithmeticOperator;"⟩ : MethodName)) hown (mvT hZ (hw _ (List.mem_of_getElem? (i := 0) rfl))) (mvT hZ (hw _ (List.mem_of_getElem? (i := 1) rfl))) (mvT hZ (hw _ (List.mem_of_getElem? (i := 2) rfl))) (mvT hZ (hw _ (List.mem_of_getElem? (i := 3) rfl))) (by decide) (backOf (W := 0) (rm1_MULTIPLY l Z a0 hw [] (42 : Int32) wV kV wA wS wM wD h0 n0 Z0 S_V V_V E_V F_wA F_wS F_wM (by decide) (by decide) (by decide)) hZ (hw _ (List.mem_of_getElem? (i := 3) rfl)) (hw _ (List.mem_of_getElem? (i := 2) rfl)) (by decide) (by decide)) (g := (mkF m 52 #[.val (.int p1), .val (.int p2), .val (.int (42 : Int32)), .val (.int (p2 &&& (3 : Int32)))] [(.int (42 : Int32))])) rfl (by rw [hml]; rfl) (argsL := [(.int (42 : Int32))]) (rest := []) (lenOf pd_0_0 rfl) rfl (by show 2 * 0 + _ ≤ _; exact Nat.le_of_eq rfl) (hb hby at_52) (fun _ _ => ⟨rfl, e0, (by decide : 0 + 1 ≤ _), (by decide : 0 + 4 ≤ _)⟩)
  dsimp only [Pt.U, Pt.locs, Pt.cells, Pt.slots] at X3 l3 y3 z3 st3 hQ3
  subst l3 y3 z3
  obtain ⟨rfl, N3q, E3⟩ := hQ3
  have N3 := Fr.app N0 N3q
  -- pc 58: com/example/variantic/variantic/rules/ArithmeticOperatorWithSymbolPinLaw.expected by its contract rm3
  obtain ⟨_, _, ⟨T4, L4, k4, n4⟩, -, X4, ⟨Lc4, hQ4, l4, y4, z4⟩, st4⟩ := Jvm.LawKit.callS X3 hx (y := (⟨"com/example/variantic/variantic/rules/ArithmeticOperatorWithSymbolPinLaw", "expected", "(C)Lcom/example/variantic/variantic/rules/ArithmeticOperator;"⟩ : MethodName)) hown (mvT hZ (hw _ (List.mem_of_getElem? (i := 25) rfl))) (mvT hZ (hw _ (List.mem_of_getElem? (i := 26) rfl))) (mvT hZ (hw _ (List.mem_of_getElem? (i := 27) rfl))) (mvT hZ (hw _ (List.mem_of_getElem? (i := 28) rfl))) (by decide) (backOf (W := 1) (rm3_MULTIPLY l Z a0 hw [] (42 : Int32) wM T3.heap n0 (Nat.le_trans Z0 E3.1) (S_wM.ext E3) (by decide) (by decide) (by decide)) hZ (hw _ (List.mem_of_getElem? (i := 28) rfl)) (hw _ (List.mem_of_getElem? (i := 27) rfl)) (by decide) (by decide)) (g := (mkF m 58 #[.val (.int p1), .val (.int p2), .val (.int (42 : Int32)), .val (.ref wM)] [(.int (42 : Int32)), (.ref wM)])) rfl (by rw [hml]; rfl) (argsL := [(.int (42 : Int32))]) (rest := [(.ref wM)]) (lenOf pd_0_0 rfl) rfl (by show 2 * 0 + _ ≤ _; exact Nat.le_of_eq rfl) (hb hby at_58) (fun _ _ => ⟨rfl, rfl, (by decide : 1 + 0 ≤ _), (by decide : 4 + 0 ≤ _)⟩)
  dsimp only [Pt.U, Pt.locs, Pt.cells, Pt.slots] at X4 l4 y4 z4 st4 hQ4
  subst l4 y4 z4
  obtain ⟨rfl, N4q, hh4⟩ := hQ4
  have N4 := Fr.app N3 N4q
  obtain ⟨fs, hr, hrun, hended, hW, hsame⟩ := X4.leave (v := some (.int (1 : Int32))) (fun h => by rw [Bd.returns] at h; cases h)
  refine ⟨_, _, pre0 _ ?_, hrun, hended, _, _, rfl, ?_, ⟨_, rfl⟩, hW, hsame.mono (by decide) (by decide)⟩
  -- 4. STEPS
  · show Steps p.tables e below (s₁.setTop (mkF m 0 #[.val (.int p1), .val (.int p2), .unset, .unset] [])) _
    refine XS.iloadN X0.here hx rfl (hb hby at_0) rfl ?_
    show Steps p.tables e below (s₁.setTop (mkF m 1 #[.val (.int p1), .val (.int p2), .unset, .unset] [(.int p2)])) _
    refine XS.iconst X0.here hx rfl (hb hby at_1) ?_
    show Steps p.tables e below (s₁.setTop (mkF m 2 #[.val (.int p1), .val (.int p2), .unset, .unset] [(.int (4 : Int32)), (.int p2)])) _
    refine XS.iand X0.here hx rfl (hb hby at_2) rfl ?_
    show Steps p.tables e below (s₁.setTop (mkF m 3 #[.val (.int p1), .val (.int p2), .unset, .unset] [(.int (p2 &&& (4 : Int32)))])) _
    refine XS.ifNo X0.here hx rfl (hb hby at_3) rfl ((if0 _ _).trans (feq hc3).1) ?_
    show Steps p.tables e below (s₁.setTop (mkF m 6 #[.val (.int p1), .val (.int p2), .unset, .unset] [])) _
    refine XS.iloadN X0.here hx rfl (hb hby at_6) rfl ?_
    show Steps p.tables e below (s₁.setTop (mkF m 7 #[.val (.int p1), .val (.int p2), .unset, .unset] [(.int p2)])) _
    refine XS.iconst X0.here hx rfl (hb hby at_7) ?_
    show Steps p.tables e below (s₁.setTop (mkF m 8 #[.val (.int p1), .val (.int p2), .unset, .unset] [(.int (3 : Int32)), (.int p2)])) _
    refine XS.iand X0.here hx rfl (hb hby at_8) rfl ?_
    show Steps p.tables e below (s₁.setTop (mkF m 9 #[.val (.int p1), .val (.int p2), .unset, .unset] [(.int (p2 &&& (3 : Int32)))])) _
    refine XS.istoreN X0.here hx rfl (hb hby at_9) rfl (l' := #[.val (.int p1), .val (.int p2), .unset, .val (.int (p2 &&& (3 : Int32)))]) rfl ?_
    show Steps p.tables e below (s₁.setTop (mkF m 10 #[.val (.int p1), .val (.int p2), .unset, .val (.int (p2 &&& (3 : Int32)))] [])) _
    refine XS.iloadN X0.here hx rfl (hb hby at_10) rfl ?_
    show Steps p.tables e below (s₁.setTop (mkF m 11 #[.val (.int p1), .val (.int p2), .unset, .val (.int (p2 &&& (3 : Int32)))] [(.int (p2 &&& (3 : Int32)))])) _
    refine XS.ifYes X0.here hx rfl (pc0 := 11) (pc' := 20) rfl (hb hby at_11) rfl ((if0 _ _).trans (feq hc11).2) (by decide) (by decide) ?_
    show Steps p.tables e below (s₁.setTop (mkF m 20 #[.val (.int p1), .val (.int p2), .unset, .val (.int (p2 &&& (3 : Int32)))] [])) _
    refine XS.iloadN X0.here hx rfl (hb hby at_20) rfl ?_
    show Steps p.tables e below (s₁.setTop (mkF m 21 #[.val (.int p1), .val (.int p2), .unset, .val (.int (p2 &&& (3 : Int32)))] [(.int (p2 &&& (3 : Int32)))])) _
    refine XS.iconst X0.here hx rfl (hb hby at_21) ?_
    show Steps p.tables e below (s₁.setTop (mkF m 22 #[.val (.int p1), .val (.int p2), .unset, .val (.int (p2 &&& (3 : Int32)))] [(.int (1 : Int32)), (.int (p2 &&& (3 : Int32)))])) _
    refine XS.icmpYes X0.here hx rfl (pc0 := 22) (pc' := 31) rfl (hb hby at_22) rfl (feq hc22).2 (by decide) (by decide) ?_
    show Steps p.tables e below (s₁.setTop (mkF m 31 #[.val (.int p1), .val (.int p2), .unset, .val (.int (p2 &&& (3 : Int32)))] [])) _
    refine XS.iloadN X0.here hx rfl (hb hby at_31) rfl ?_
    show Steps p.tables e below (s₁.setTop (mkF m 32 #[.val (.int p1), .val (.int p2), .unset, .val (.int (p2 &&& (3 : Int32)))] [(.int (p2 &&& (3 : Int32)))])) _
    refine XS.iconst X0.here hx rfl (hb hby at_32) ?_
    show Steps p.tables e below (s₁.setTop (mkF m 33 #[.val (.int p1), .val (.int p2), .unset, .val (.int (p2 &&& (3 : Int32)))] [(.int (2 : Int32)), (.int (p2 &&& (3 : Int32)))])) _
    refine XS.icmpNo X0.here hx rfl (hb hby at_33) rfl (teq hc33).2 ?_
    show Steps p.tables e below (s₁.setTop (mkF m 36 #[.val (.int p1), .val (.int p2), .unset, .val (.int (p2 &&& (3 : Int32)))] [])) _
    refine XS.bipush X0.here hx rfl (hb hby at_36) ?_
    show Steps p.tables e below (s₁.setTop (mkF m 38 #[.val (.int p1), .val (.int p2), .unset, .val (.int (p2 &&& (3 : Int32)))] [(.int (42 : Int32))])) _
    refine XS.istoreN X0.here hx rfl (hb hby at_38) rfl (l' := #[.val (.int p1), .val (.int p2), .val (.int (42 : Int32)), .val (.int (p2 &&& (3 : Int32)))]) rfl ?_
    show Steps p.tables e below (s₁.setTop (mkF m 39 #[.val (.int p1), .val (.int p2), .val (.int (42 : Int32)), .val (.int (p2 &&& (3 : Int32)))] [])) _
    refine XS.goto X0.here hx rfl (pc0 := 39) (pc' := 45) rfl (hb hby at_39) (by decide) (by decide) ?_
    show Steps p.tables e below (s₁.setTop (mkF m 45 #[.val (.int p1), .val (.int p2), .val (.int (42 : Int32)), .val (.int (p2 &&& (3 : Int32)))] [])) _
    refine XS.goto X0.here hx rfl (pc0 := 45) (pc' := 51) rfl (hb hby at_45) (by decide) (by decide) ?_
    show Steps p.tables e below (s₁.setTop (mkF m 51 #[.val (.int p1), .val (.int p2), .val (.int (42 : Int32)), .val (.int (p2 &&& (3 : Int32)))] [])) _
    refine XS.iloadN X0.here hx rfl (hb hby at_51) rfl ?_
    show Steps p.tables e below (s₁.setTop (mkF m 52 #[.val (.int p1), .val (.int p2), .val (.int (42 : Int32)), .val (.int (p2 &&& (3 : Int32)))] [(.int (42 : Int32))])) _
    refine st3 _ ?_
    show Steps p.tables e below (T3.setTop (mkF m 55 #[.val (.int p1), .val (.int p2), .val (.int (42 : Int32)), .val (.int (p2 &&& (3 : Int32)))] [(.ref wM)])) _
    refine XS.astoreN X3.here hx rfl (hb hby at_55) rfl rfl (l' := #[.val (.int p1), .val (.int p2), .val (.int (42 : Int32)), .val (.ref wM)]) rfl ?_
    show Steps p.tables e below (T3.setTop (mkF m 56 #[.val (.int p1), .val (.int p2), .val (.int (42 : Int32)), .val (.ref wM)] [])) _
    refine XS.aloadN X3.here hx rfl (hb hby at_56) rfl rfl ?_
    show Steps p.tables e below (T3.setTop (mkF m 57 #[.val (.int p1), .val (.int p2), .val (.int (42 : Int32)), .val (.ref wM)] [(.ref wM)])) _
    refine XS.iloadN X3.here hx rfl (hb hby at_57) rfl ?_
    show Steps p.tables e below (T3.setTop (mkF m 58 #[.val (.int p1), .val (.int p2), .val (.int (42 : Int32)), .val (.ref wM)] [(.int (42 : Int32)), (.ref wM)])) _
    refine st4 _ ?_
    show Steps p.tables e below (T4.setTop (mkF m 61 #[.val (.int p1), .val (.int p2), .val (.int (42 : Int32)), .val (.ref wM)] [(.ref wM), (.ref wM)])) _
    refine Jvm.RoadKit.acmp (g := (mkF m 61 #[.val (.int p1), .val (.int p2), .val (.int (42 : Int32)), .val (.ref wM)] [(.ref wM), (.ref wM)])) X4 hx rfl rfl rfl (pc0 := 61) (pc' := 64) (same := true) rfl (hb hby at_61) rfl (decide_eq_true rfl) (by decide) (by decide) ?_
    show Steps p.tables e below (T4.setTop (mkF m 64 #[.val (.int p1), .val (.int p2), .val (.int (42 : Int32)), .val (.ref wM)] [])) _
    refine XS.iconst X4.here hx rfl (hb hby at_64) ?_
    show Steps p.tables e below (T4.setTop (mkF m 65 #[.val (.int p1), .val (.int p2), .val (.int (42 : Int32)), .val (.ref wM)] [(.int (1 : Int32))])) _
    refine XS.goto X4.here hx rfl (pc0 := 65) (pc' := 69) rfl (hb hby at_65) (by decide) (by decide) ?_
    show Steps p.tables e below (T4.setTop (mkF m 69 #[.val (.int p1), .val (.int p2), .val (.int (42 : Int32)), .val (.ref wM)] [(.int (1 : Int32))])) _
    exact retN X4 hx (t := .boolean) Bd.returns (by simp) (hb hby at_69) hr
  · show Q0 n0 _ _
    exact ⟨rfl, N4⟩

set_option maxRecDepth 65536 in
set_option maxHeartbeats 40000000 in
theorem rm0_MULTIPLY (l : Launch) (Z : State) (a0 : Array Value) (hw : ∀ d ∈ tables_1, d.before a0 Z = true) (ws : List Jvm.Cond) (p1 : Int32) (p2 : Int32) (wV : Addr) (kV : ClassId) (wA wS wM wD : Addr) (h0 : Heap) (n0 : Nat) (Z0 : n0 ≤ h0.size) (S_V : Sta Z h0 "com/example/variantic/variantic/rules/ArithmeticOperator" "$VALUES" "[Lcom/example/variantic/variantic/rules/ArithmeticOperator;" (.ref wV)) (V_V : Arv Z h0 wV kV (.object "com/example/variantic/variantic/rules/ArithmeticOperator") (4 : Int32) [.ref wA, .ref wS, .ref wM, .ref wD] .null) (E_V : Exa Z h0 wV "[Lcom/example/variantic/variantic/rules/ArithmeticOperator;") (S_wA : Sta Z h0 "com/example/variantic/variantic/rules/ArithmeticOperator" "ADD" "Lcom/example/variantic/variantic/rules/ArithmeticOperator;" (.ref wA)) (S_wS : Sta Z h0 "com/example/variantic/variantic/rules/ArithmeticOperator" "SUBTRACT" "Lcom/example/variantic/variantic/rules/ArithmeticOperator;" (.ref wS)) (S_wM : Sta Z h0 "com/example/variantic/variantic/rules/ArithmeticOperator" "MULTIPLY" "Lcom/example/variantic/variantic/rules/ArithmeticOperator;" (.ref wM)) (S_wD : Sta Z h0 "com/example/variantic/variantic/rules/ArithmeticOperator" "DIVIDE" "Lcom/example/variantic/variantic/rules/ArithmeticOperator;" (.ref wD)) (F_wA : Fld Z h0 wA "com/example/variantic/variantic/rules/ArithmeticOperator" "symbol" "C" (.int (43 : Int32))) (F_wS : Fld Z h0 wS "com/example/variantic/variantic/rules/ArithmeticOperator" "symbol" "C" (.int (45 : Int32))) (F_wM : Fld Z h0 wM "com/example/variantic/variantic/rules/ArithmeticOperator" "symbol" "C" (.int (42 : Int32))) (F_wD : Fld Z h0 wD "com/example/variantic/variantic/rules/ArithmeticOperator" "symbol" "C" (.int (47 : Int32))) (hz0 : ¬ ((p1.toUInt32.toUInt16.toUInt32.toInt32) = (43 : Int32))) (hz1 : ¬ ((p1.toUInt32.toUInt16.toUInt32.toInt32) = (45 : Int32))) (hz : (p1.toUInt32.toUInt16.toUInt32.toInt32) = (42 : Int32)) (hc3 : (p2 &&& (4 : Int32)) = (0 : Int32)) :
    MetFree l x (head1 (Jvm.Cond.code x code maxLocals ret :: ws) room_1) (fun a U => a = #[(.int p1), (.int p2)] ∧ Z.Warmed39 U.vm ∧ U.heap = h0) (fun _ _ _ _ _ => True) (fun _ U o U' => ∃ v L, o = .returned v ∧ Q0 n0 v L ∧ FrameEnd U o U' L room_1.cells room_1.slots) := by
  refine MetFree.of_bodySF (plainFor_of_name pn_0) hisR ?_
  intro p e s m args below meth c s₁ Bd hml0 hP hK
  obtain ⟨rfl, hZ, hh⟩ := hP
  have hx := Bd.exec
  have hby := Bd.bytes
  have hml : c.maxLocals = 4 := hml0
  have hown : s.vm.findClass "com/example/variantic/variantic/rules/ArithmeticOperatorWithSymbolPinLaw" = some m.cls := findClass_of_methodNamed Bd.named
  have hnm := (name_of_methodNamed Bd.named Bd.method).1
  have X0 : Stand p l e room_1 s m #[(.int p1), (.int p2)] below meth c s₁ [] 0 0 := Stand.of_body Bd
  have e0 : s₁.heap = h0 := by rw [← hh, Bd.state]; rfl
  have N0 := Fr.nil n0
  have pre0 : ∀ t, Steps p.tables e below (s₁.setTop (mkF m 0 #[.val (.int p1), .val (.int p2), .unset, .unset] [])) t → Steps p.tables e below (s₁.setTop (entryFrame m #[(.int p1), (.int p2)] maxLocals)) t := fun t k => castTop (ef_0 m p1 p2) k
  -- 3. LAWS
  -- pc 52: com/example/variantic/variantic/rules/ArithmeticOperator.withSymbol by its contract rm1
  obtain ⟨_, _, ⟨T3, L3, k3, n3⟩, -, X3, ⟨Lc3, hQ3, l3, y3, z3⟩, st3⟩ := Jvm.LawKit.callS X0 hx (y := (⟨"com/example/variantic/variantic/rules/ArithmeticOperator", "withSymbol", "(C)Lcom/example/variantic/variantic/rules/ArithmeticOperator;"⟩ : MethodName)) hown (mvT hZ (hw _ (List.mem_of_getElem? (i := 0) rfl))) (mvT hZ (hw _ (List.mem_of_getElem? (i := 1) rfl))) (mvT hZ (hw _ (List.mem_of_getElem? (i := 2) rfl))) (mvT hZ (hw _ (List.mem_of_getElem? (i := 3) rfl))) (by decide) (backOf (W := 0) (rm1_MULTIPLY l Z a0 hw [] (p1.toUInt32.toUInt16.toUInt32.toInt32) wV kV wA wS wM wD h0 n0 Z0 S_V V_V E_V F_wA F_wS F_wM (fun q => hz0 q.symm) (fun q => hz1 q.symm) (Eq.symm hz)) hZ (hw _ (List.mem_of_getElem? (i := 3) rfl)) (hw _ (List.mem_of_getElem? (i := 2) rfl)) (by decide) (by decide)) (g := (mkF m 52 #[.val (.int p1), .val (.int p2), .val (.int (p1.toUInt32.toUInt16.toUInt32.toInt32)), .unset] [(.int (p1.toUInt32.toUInt16.toUInt32.toInt32))])) rfl (by rw [hml]; rfl) (argsL := [(.int (p1.toUInt32.toUInt16.toUInt32.toInt32))]) (rest := []) (lenOf pd_0_0 rfl) rfl (by show 2 * 0 + _ ≤ _; exact Nat.le_of_eq rfl) (hb hby at_52) (fun _ _ => ⟨rfl, e0, (by decide : 0 + 1 ≤ _), (by decide : 0 + 4 ≤ _)⟩)
  dsimp only [Pt.U, Pt.locs, Pt.cells, Pt.slots] at X3 l3 y3 z3 st3 hQ3
  subst l3 y3 z3
  obtain ⟨rfl, N3q, E3⟩ := hQ3
  have N3 := Fr.app N0 N3q
  -- pc 58: com/example/variantic/variantic/rules/ArithmeticOperatorWithSymbolPinLaw.expected by its contract rm3
  obtain ⟨_, _, ⟨T4, L4, k4, n4⟩, -, X4, ⟨Lc4, hQ4, l4, y4, z4⟩, st4⟩ := Jvm.LawKit.callS X3 hx (y := (⟨"com/example/variantic/variantic/rules/ArithmeticOperatorWithSymbolPinLaw", "expected", "(C)Lcom/example/variantic/variantic/rules/ArithmeticOperator;"⟩ : MethodName)) hown (mvT hZ (hw _ (List.mem_of_getElem? (i := 25) rfl))) (mvT hZ (hw _ (List.mem_of_getElem? (i := 26) rfl))) (mvT hZ (hw _ (List.mem_of_getElem? (i := 27) rfl))) (mvT hZ (hw _ (List.mem_of_getElem? (i := 28) rfl))) (by decide) (backOf (W := 1) (rm3_MULTIPLY l Z a0 hw [] (p1.toUInt32.toUInt16.toUInt32.toInt32) wM T3.heap n0 (Nat.le_trans Z0 E3.1) (S_wM.ext E3) hz0 hz1 hz) hZ (hw _ (List.mem_of_getElem? (i := 28) rfl)) (hw _ (List.mem_of_getElem? (i := 27) rfl)) (by decide) (by decide)) (g := (mkF m 58 #[.val (.int p1), .val (.int p2), .val (.int (p1.toUInt32.toUInt16.toUInt32.toInt32)), .val (.ref wM)] [(.int (p1.toUInt32.toUInt16.toUInt32.toInt32)), (.ref wM)])) rfl (by rw [hml]; rfl) (argsL := [(.int (p1.toUInt32.toUInt16.toUInt32.toInt32))]) (rest := [(.ref wM)]) (lenOf pd_0_0 rfl) rfl (by show 2 * 0 + _ ≤ _; exact Nat.le_of_eq rfl) (hb hby at_58) (fun _ _ => ⟨rfl, rfl, (by decide : 1 + 0 ≤ _), (by decide : 4 + 0 ≤ _)⟩)
  dsimp only [Pt.U, Pt.locs, Pt.cells, Pt.slots] at X4 l4 y4 z4 st4 hQ4
  subst l4 y4 z4
  obtain ⟨rfl, N4q, hh4⟩ := hQ4
  have N4 := Fr.app N3 N4q
  obtain ⟨fs, hr, hrun, hended, hW, hsame⟩ := X4.leave (v := some (.int (1 : Int32))) (fun h => by rw [Bd.returns] at h; cases h)
  refine ⟨_, _, pre0 _ ?_, hrun, hended, _, _, rfl, ?_, ⟨_, rfl⟩, hW, hsame.mono (by decide) (by decide)⟩
  -- 4. STEPS
  · show Steps p.tables e below (s₁.setTop (mkF m 0 #[.val (.int p1), .val (.int p2), .unset, .unset] [])) _
    refine XS.iloadN X0.here hx rfl (hb hby at_0) rfl ?_
    show Steps p.tables e below (s₁.setTop (mkF m 1 #[.val (.int p1), .val (.int p2), .unset, .unset] [(.int p2)])) _
    refine XS.iconst X0.here hx rfl (hb hby at_1) ?_
    show Steps p.tables e below (s₁.setTop (mkF m 2 #[.val (.int p1), .val (.int p2), .unset, .unset] [(.int (4 : Int32)), (.int p2)])) _
    refine XS.iand X0.here hx rfl (hb hby at_2) rfl ?_
    show Steps p.tables e below (s₁.setTop (mkF m 3 #[.val (.int p1), .val (.int p2), .unset, .unset] [(.int (p2 &&& (4 : Int32)))])) _
    refine XS.ifYes X0.here hx rfl (pc0 := 3) (pc' := 48) rfl (hb hby at_3) rfl ((if0 _ _).trans (teq hc3).1) (by decide) (by decide) ?_
    show Steps p.tables e below (s₁.setTop (mkF m 48 #[.val (.int p1), .val (.int p2), .unset, .unset] [])) _
    refine XS.iloadN X0.here hx rfl (hb hby at_48) rfl ?_
    show Steps p.tables e below (s₁.setTop (mkF m 49 #[.val (.int p1), .val (.int p2), .unset, .unset] [(.int p1)])) _
    refine XS.i2c X0.here hx rfl (hb hby at_49) rfl ?_
    show Steps p.tables e below (s₁.setTop (mkF m 50 #[.val (.int p1), .val (.int p2), .unset, .unset] [(.int (p1.toUInt32.toUInt16.toUInt32.toInt32))])) _
    refine XS.istoreN X0.here hx rfl (hb hby at_50) rfl (l' := #[.val (.int p1), .val (.int p2), .val (.int (p1.toUInt32.toUInt16.toUInt32.toInt32)), .unset]) rfl ?_
    show Steps p.tables e below (s₁.setTop (mkF m 51 #[.val (.int p1), .val (.int p2), .val (.int (p1.toUInt32.toUInt16.toUInt32.toInt32)), .unset] [])) _
    refine XS.iloadN X0.here hx rfl (hb hby at_51) rfl ?_
    show Steps p.tables e below (s₁.setTop (mkF m 52 #[.val (.int p1), .val (.int p2), .val (.int (p1.toUInt32.toUInt16.toUInt32.toInt32)), .unset] [(.int (p1.toUInt32.toUInt16.toUInt32.toInt32))])) _
    refine st3 _ ?_
    show Steps p.tables e below (T3.setTop (mkF m 55 #[.val (.int p1), .val (.int p2), .val (.int (p1.toUInt32.toUInt16.toUInt32.toInt32)), .unset] [(.ref wM)])) _
    refine XS.astoreN X3.here hx rfl (hb hby at_55) rfl rfl (l' := #[.val (.int p1), .val (.int p2), .val (.int (p1.toUInt32.toUInt16.toUInt32.toInt32)), .val (.ref wM)]) rfl ?_
    show Steps p.tables e below (T3.setTop (mkF m 56 #[.val (.int p1), .val (.int p2), .val (.int (p1.toUInt32.toUInt16.toUInt32.toInt32)), .val (.ref wM)] [])) _
    refine XS.aloadN X3.here hx rfl (hb hby at_56) rfl rfl ?_
    show Steps p.tables e below (T3.setTop (mkF m 57 #[.val (.int p1), .val (.int p2), .val (.int (p1.toUInt32.toUInt16.toUInt32.toInt32)), .val (.ref wM)] [(.ref wM)])) _
    refine XS.iloadN X3.here hx rfl (hb hby at_57) rfl ?_
    show Steps p.tables e below (T3.setTop (mkF m 58 #[.val (.int p1), .val (.int p2), .val (.int (p1.toUInt32.toUInt16.toUInt32.toInt32)), .val (.ref wM)] [(.int (p1.toUInt32.toUInt16.toUInt32.toInt32)), (.ref wM)])) _
    refine st4 _ ?_
    show Steps p.tables e below (T4.setTop (mkF m 61 #[.val (.int p1), .val (.int p2), .val (.int (p1.toUInt32.toUInt16.toUInt32.toInt32)), .val (.ref wM)] [(.ref wM), (.ref wM)])) _
    refine Jvm.RoadKit.acmp (g := (mkF m 61 #[.val (.int p1), .val (.int p2), .val (.int (p1.toUInt32.toUInt16.toUInt32.toInt32)), .val (.ref wM)] [(.ref wM), (.ref wM)])) X4 hx rfl rfl rfl (pc0 := 61) (pc' := 64) (same := true) rfl (hb hby at_61) rfl (decide_eq_true rfl) (by decide) (by decide) ?_
    show Steps p.tables e below (T4.setTop (mkF m 64 #[.val (.int p1), .val (.int p2), .val (.int (p1.toUInt32.toUInt16.toUInt32.toInt32)), .val (.ref wM)] [])) _
    refine XS.iconst X4.here hx rfl (hb hby at_64) ?_
    show Steps p.tables e below (T4.setTop (mkF m 65 #[.val (.int p1), .val (.int p2), .val (.int (p1.toUInt32.toUInt16.toUInt32.toInt32)), .val (.ref wM)] [(.int (1 : Int32))])) _
    refine XS.goto X4.here hx rfl (pc0 := 65) (pc' := 69) rfl (hb hby at_65) (by decide) (by decide) ?_
    show Steps p.tables e below (T4.setTop (mkF m 69 #[.val (.int p1), .val (.int p2), .val (.int (p1.toUInt32.toUInt16.toUInt32.toInt32)), .val (.ref wM)] [(.int (1 : Int32))])) _
    exact retN X4 hx (t := .boolean) Bd.returns (by simp) (hb hby at_69) hr
  · show Q0 n0 _ _
    exact ⟨rfl, N4⟩

set_option maxRecDepth 65536 in
set_option maxHeartbeats 40000000 in
theorem rm0_DIVIDE_lit (l : Launch) (Z : State) (a0 : Array Value) (hw : ∀ d ∈ tables_1, d.before a0 Z = true) (ws : List Jvm.Cond) (p1 : Int32) (p2 : Int32) (wV : Addr) (kV : ClassId) (wA wS wM wD : Addr) (h0 : Heap) (n0 : Nat) (Z0 : n0 ≤ h0.size) (S_V : Sta Z h0 "com/example/variantic/variantic/rules/ArithmeticOperator" "$VALUES" "[Lcom/example/variantic/variantic/rules/ArithmeticOperator;" (.ref wV)) (V_V : Arv Z h0 wV kV (.object "com/example/variantic/variantic/rules/ArithmeticOperator") (4 : Int32) [.ref wA, .ref wS, .ref wM, .ref wD] .null) (E_V : Exa Z h0 wV "[Lcom/example/variantic/variantic/rules/ArithmeticOperator;") (S_wA : Sta Z h0 "com/example/variantic/variantic/rules/ArithmeticOperator" "ADD" "Lcom/example/variantic/variantic/rules/ArithmeticOperator;" (.ref wA)) (S_wS : Sta Z h0 "com/example/variantic/variantic/rules/ArithmeticOperator" "SUBTRACT" "Lcom/example/variantic/variantic/rules/ArithmeticOperator;" (.ref wS)) (S_wM : Sta Z h0 "com/example/variantic/variantic/rules/ArithmeticOperator" "MULTIPLY" "Lcom/example/variantic/variantic/rules/ArithmeticOperator;" (.ref wM)) (S_wD : Sta Z h0 "com/example/variantic/variantic/rules/ArithmeticOperator" "DIVIDE" "Lcom/example/variantic/variantic/rules/ArithmeticOperator;" (.ref wD)) (F_wA : Fld Z h0 wA "com/example/variantic/variantic/rules/ArithmeticOperator" "symbol" "C" (.int (43 : Int32))) (F_wS : Fld Z h0 wS "com/example/variantic/variantic/rules/ArithmeticOperator" "symbol" "C" (.int (45 : Int32))) (F_wM : Fld Z h0 wM "com/example/variantic/variantic/rules/ArithmeticOperator" "symbol" "C" (.int (42 : Int32))) (F_wD : Fld Z h0 wD "com/example/variantic/variantic/rules/ArithmeticOperator" "symbol" "C" (.int (47 : Int32))) (hc3 : ¬ ((p2 &&& (4 : Int32)) = (0 : Int32))) (hc11 : ¬ ((p2 &&& (3 : Int32)) = (0 : Int32))) (hc22 : ¬ ((p2 &&& (3 : Int32)) = (1 : Int32))) (hc33 : ¬ ((p2 &&& (3 : Int32)) = (2 : Int32))) :
    MetFree l x (head1 (Jvm.Cond.code x code maxLocals ret :: ws) room_1) (fun a U => a = #[(.int p1), (.int p2)] ∧ Z.Warmed39 U.vm ∧ U.heap = h0) (fun _ _ _ _ _ => True) (fun _ U o U' => ∃ v L, o = .returned v ∧ Q0 n0 v L ∧ FrameEnd U o U' L room_1.cells room_1.slots) := by
  refine MetFree.of_bodySF (plainFor_of_name pn_0) hisR ?_
  intro p e s m args below meth c s₁ Bd hml0 hP hK
  obtain ⟨rfl, hZ, hh⟩ := hP
  have hx := Bd.exec
  have hby := Bd.bytes
  have hml : c.maxLocals = 4 := hml0
  have hown : s.vm.findClass "com/example/variantic/variantic/rules/ArithmeticOperatorWithSymbolPinLaw" = some m.cls := findClass_of_methodNamed Bd.named
  have hnm := (name_of_methodNamed Bd.named Bd.method).1
  have X0 : Stand p l e room_1 s m #[(.int p1), (.int p2)] below meth c s₁ [] 0 0 := Stand.of_body Bd
  have e0 : s₁.heap = h0 := by rw [← hh, Bd.state]; rfl
  have N0 := Fr.nil n0
  have pre0 : ∀ t, Steps p.tables e below (s₁.setTop (mkF m 0 #[.val (.int p1), .val (.int p2), .unset, .unset] [])) t → Steps p.tables e below (s₁.setTop (entryFrame m #[(.int p1), (.int p2)] maxLocals)) t := fun t k => castTop (ef_0 m p1 p2) k
  -- 3. LAWS
  -- pc 52: com/example/variantic/variantic/rules/ArithmeticOperator.withSymbol by its contract rm1
  obtain ⟨_, _, ⟨T3, L3, k3, n3⟩, -, X3, ⟨Lc3, hQ3, l3, y3, z3⟩, st3⟩ := Jvm.LawKit.callS X0 hx (y := (⟨"com/example/variantic/variantic/rules/ArithmeticOperator", "withSymbol", "(C)Lcom/example/variantic/variantic/rules/ArithmeticOperator;"⟩ : MethodName)) hown (mvT hZ (hw _ (List.mem_of_getElem? (i := 0) rfl))) (mvT hZ (hw _ (List.mem_of_getElem? (i := 1) rfl))) (mvT hZ (hw _ (List.mem_of_getElem? (i := 2) rfl))) (mvT hZ (hw _ (List.mem_of_getElem? (i := 3) rfl))) (by decide) (backOf (W := 0) (rm1_DIVIDE l Z a0 hw [] (47 : Int32) wV kV wA wS wM wD h0 n0 Z0 S_V V_V E_V F_wA F_wS F_wM F_wD (by decide) (by decide) (by decide) (by decide)) hZ (hw _ (List.mem_of_getElem? (i := 3) rfl)) (hw _ (List.mem_of_getElem? (i := 2) rfl)) (by decide) (by decide)) (g := (mkF m 52 #[.val (.int p1), .val (.int p2), .val (.int (47 : Int32)), .val (.int (p2 &&& (3 : Int32)))] [(.int (47 : Int32))])) rfl (by rw [hml]; rfl) (argsL := [(.int (47 : Int32))]) (rest := []) (lenOf pd_0_0 rfl) rfl (by show 2 * 0 + _ ≤ _; exact Nat.le_of_eq rfl) (hb hby at_52) (fun _ _ => ⟨rfl, e0, (by decide : 0 + 1 ≤ _), (by decide : 0 + 4 ≤ _)⟩)
  dsimp only [Pt.U, Pt.locs, Pt.cells, Pt.slots] at X3 l3 y3 z3 st3 hQ3
  subst l3 y3 z3
  obtain ⟨rfl, N3q, E3⟩ := hQ3
  have N3 := Fr.app N0 N3q
  -- pc 58: com/example/variantic/variantic/rules/ArithmeticOperatorWithSymbolPinLaw.expected by its contract rm3
  obtain ⟨_, _, ⟨T4, L4, k4, n4⟩, -, X4, ⟨Lc4, hQ4, l4, y4, z4⟩, st4⟩ := Jvm.LawKit.callS X3 hx (y := (⟨"com/example/variantic/variantic/rules/ArithmeticOperatorWithSymbolPinLaw", "expected", "(C)Lcom/example/variantic/variantic/rules/ArithmeticOperator;"⟩ : MethodName)) hown (mvT hZ (hw _ (List.mem_of_getElem? (i := 25) rfl))) (mvT hZ (hw _ (List.mem_of_getElem? (i := 26) rfl))) (mvT hZ (hw _ (List.mem_of_getElem? (i := 27) rfl))) (mvT hZ (hw _ (List.mem_of_getElem? (i := 28) rfl))) (by decide) (backOf (W := 1) (rm3_DIVIDE l Z a0 hw [] (47 : Int32) wD T3.heap n0 (Nat.le_trans Z0 E3.1) (S_wD.ext E3) (by decide) (by decide) (by decide) (by decide)) hZ (hw _ (List.mem_of_getElem? (i := 28) rfl)) (hw _ (List.mem_of_getElem? (i := 27) rfl)) (by decide) (by decide)) (g := (mkF m 58 #[.val (.int p1), .val (.int p2), .val (.int (47 : Int32)), .val (.ref wD)] [(.int (47 : Int32)), (.ref wD)])) rfl (by rw [hml]; rfl) (argsL := [(.int (47 : Int32))]) (rest := [(.ref wD)]) (lenOf pd_0_0 rfl) rfl (by show 2 * 0 + _ ≤ _; exact Nat.le_of_eq rfl) (hb hby at_58) (fun _ _ => ⟨rfl, rfl, (by decide : 1 + 0 ≤ _), (by decide : 4 + 0 ≤ _)⟩)
  dsimp only [Pt.U, Pt.locs, Pt.cells, Pt.slots] at X4 l4 y4 z4 st4 hQ4
  subst l4 y4 z4
  obtain ⟨rfl, N4q, hh4⟩ := hQ4
  have N4 := Fr.app N3 N4q
  obtain ⟨fs, hr, hrun, hended, hW, hsame⟩ := X4.leave (v := some (.int (1 : Int32))) (fun h => by rw [Bd.returns] at h; cases h)
  refine ⟨_, _, pre0 _ ?_, hrun, hended, _, _, rfl, ?_, ⟨_, rfl⟩, hW, hsame.mono (by decide) (by decide)⟩
  -- 4. STEPS
  · show Steps p.tables e below (s₁.setTop (mkF m 0 #[.val (.int p1), .val (.int p2), .unset, .unset] [])) _
    refine XS.iloadN X0.here hx rfl (hb hby at_0) rfl ?_
    show Steps p.tables e below (s₁.setTop (mkF m 1 #[.val (.int p1), .val (.int p2), .unset, .unset] [(.int p2)])) _
    refine XS.iconst X0.here hx rfl (hb hby at_1) ?_
    show Steps p.tables e below (s₁.setTop (mkF m 2 #[.val (.int p1), .val (.int p2), .unset, .unset] [(.int (4 : Int32)), (.int p2)])) _
    refine XS.iand X0.here hx rfl (hb hby at_2) rfl ?_
    show Steps p.tables e below (s₁.setTop (mkF m 3 #[.val (.int p1), .val (.int p2), .unset, .unset] [(.int (p2 &&& (4 : Int32)))])) _
    refine XS.ifNo X0.here hx rfl (hb hby at_3) rfl ((if0 _ _).trans (feq hc3).1) ?_
    show Steps p.tables e below (s₁.setTop (mkF m 6 #[.val (.int p1), .val (.int p2), .unset, .unset] [])) _
    refine XS.iloadN X0.here hx rfl (hb hby at_6) rfl ?_
    show Steps p.tables e below (s₁.setTop (mkF m 7 #[.val (.int p1), .val (.int p2), .unset, .unset] [(.int p2)])) _
    refine XS.iconst X0.here hx rfl (hb hby at_7) ?_
    show Steps p.tables e below (s₁.setTop (mkF m 8 #[.val (.int p1), .val (.int p2), .unset, .unset] [(.int (3 : Int32)), (.int p2)])) _
    refine XS.iand X0.here hx rfl (hb hby at_8) rfl ?_
    show Steps p.tables e below (s₁.setTop (mkF m 9 #[.val (.int p1), .val (.int p2), .unset, .unset] [(.int (p2 &&& (3 : Int32)))])) _
    refine XS.istoreN X0.here hx rfl (hb hby at_9) rfl (l' := #[.val (.int p1), .val (.int p2), .unset, .val (.int (p2 &&& (3 : Int32)))]) rfl ?_
    show Steps p.tables e below (s₁.setTop (mkF m 10 #[.val (.int p1), .val (.int p2), .unset, .val (.int (p2 &&& (3 : Int32)))] [])) _
    refine XS.iloadN X0.here hx rfl (hb hby at_10) rfl ?_
    show Steps p.tables e below (s₁.setTop (mkF m 11 #[.val (.int p1), .val (.int p2), .unset, .val (.int (p2 &&& (3 : Int32)))] [(.int (p2 &&& (3 : Int32)))])) _
    refine XS.ifYes X0.here hx rfl (pc0 := 11) (pc' := 20) rfl (hb hby at_11) rfl ((if0 _ _).trans (feq hc11).2) (by decide) (by decide) ?_
    show Steps p.tables e below (s₁.setTop (mkF m 20 #[.val (.int p1), .val (.int p2), .unset, .val (.int (p2 &&& (3 : Int32)))] [])) _
    refine XS.iloadN X0.here hx rfl (hb hby at_20) rfl ?_
    show Steps p.tables e below (s₁.setTop (mkF m 21 #[.val (.int p1), .val (.int p2), .unset, .val (.int (p2 &&& (3 : Int32)))] [(.int (p2 &&& (3 : Int32)))])) _
    refine XS.iconst X0.here hx rfl (hb hby at_21) ?_
    show Steps p.tables e below (s₁.setTop (mkF m 22 #[.val (.int p1), .val (.int p2), .unset, .val (.int (p2 &&& (3 : Int32)))] [(.int (1 : Int32)), (.int (p2 &&& (3 : Int32)))])) _
    refine XS.icmpYes X0.here hx rfl (pc0 := 22) (pc' := 31) rfl (hb hby at_22) rfl (feq hc22).2 (by decide) (by decide) ?_
    show Steps p.tables e below (s₁.setTop (mkF m 31 #[.val (.int p1), .val (.int p2), .unset, .val (.int (p2 &&& (3 : Int32)))] [])) _
    refine XS.iloadN X0.here hx rfl (hb hby at_31) rfl ?_
    show Steps p.tables e below (s₁.setTop (mkF m 32 #[.val (.int p1), .val (.int p2), .unset, .val (.int (p2 &&& (3 : Int32)))] [(.int (p2 &&& (3 : Int32)))])) _
    refine XS.iconst X0.here hx rfl (hb hby at_32) ?_
    show Steps p.tables e below (s₁.setTop (mkF m 33 #[.val (.int p1), .val (.int p2), .unset, .val (.int (p2 &&& (3 : Int32)))] [(.int (2 : Int32)), (.int (p2 &&& (3 : Int32)))])) _
    refine XS.icmpYes X0.here hx rfl (pc0 := 33) (pc' := 42) rfl (hb hby at_33) rfl (feq hc33).2 (by decide) (by decide) ?_
    show Steps p.tables e below (s₁.setTop (mkF m 42 #[.val (.int p1), .val (.int p2), .unset, .val (.int (p2 &&& (3 : Int32)))] [])) _
    refine XS.bipush X0.here hx rfl (hb hby at_42) ?_
    show Steps p.tables e below (s₁.setTop (mkF m 44 #[.val (.int p1), .val (.int p2), .unset, .val (.int (p2 &&& (3 : Int32)))] [(.int (47 : Int32))])) _
    refine XS.istoreN X0.here hx rfl (hb hby at_44) rfl (l' := #[.val (.int p1), .val (.int p2), .val (.int (47 : Int32)), .val (.int (p2 &&& (3 : Int32)))]) rfl ?_
    show Steps p.tables e below (s₁.setTop (mkF m 45 #[.val (.int p1), .val (.int p2), .val (.int (47 : Int32)), .val (.int (p2 &&& (3 : Int32)))] [])) _
    refine XS.goto X0.here hx rfl (pc0 := 45) (pc' := 51) rfl (hb hby at_45) (by decide) (by decide) ?_
    show Steps p.tables e below (s₁.setTop (mkF m 51 #[.val (.int p1), .val (.int p2), .val (.int (47 : Int32)), .val (.int (p2 &&& (3 : Int32)))] [])) _
    refine XS.iloadN X0.here hx rfl (hb hby at_51) rfl ?_
    show Steps p.tables e below (s₁.setTop (mkF m 52 #[.val (.int p1), .val (.int p2), .val (.int (47 : Int32)), .val (.int (p2 &&& (3 : Int32)))] [(.int (47 : Int32))])) _
    refine st3 _ ?_
    show Steps p.tables e below (T3.setTop (mkF m 55 #[.val (.int p1), .val (.int p2), .val (.int (47 : Int32)), .val (.int (p2 &&& (3 : Int32)))] [(.ref wD)])) _
    refine XS.astoreN X3.here hx rfl (hb hby at_55) rfl rfl (l' := #[.val (.int p1), .val (.int p2), .val (.int (47 : Int32)), .val (.ref wD)]) rfl ?_
    show Steps p.tables e below (T3.setTop (mkF m 56 #[.val (.int p1), .val (.int p2), .val (.int (47 : Int32)), .val (.ref wD)] [])) _
    refine XS.aloadN X3.here hx rfl (hb hby at_56) rfl rfl ?_
    show Steps p.tables e below (T3.setTop (mkF m 57 #[.val (.int p1), .val (.int p2), .val (.int (47 : Int32)), .val (.ref wD)] [(.ref wD)])) _
    refine XS.iloadN X3.here hx rfl (hb hby at_57) rfl ?_
    show Steps p.tables e below (T3.setTop (mkF m 58 #[.val (.int p1), .val (.int p2), .val (.int (47 : Int32)), .val (.ref wD)] [(.int (47 : Int32)), (.ref wD)])) _
    refine st4 _ ?_
    show Steps p.tables e below (T4.setTop (mkF m 61 #[.val (.int p1), .val (.int p2), .val (.int (47 : Int32)), .val (.ref wD)] [(.ref wD), (.ref wD)])) _
    refine Jvm.RoadKit.acmp (g := (mkF m 61 #[.val (.int p1), .val (.int p2), .val (.int (47 : Int32)), .val (.ref wD)] [(.ref wD), (.ref wD)])) X4 hx rfl rfl rfl (pc0 := 61) (pc' := 64) (same := true) rfl (hb hby at_61) rfl (decide_eq_true rfl) (by decide) (by decide) ?_
    show Steps p.tables e below (T4.setTop (mkF m 64 #[.val (.int p1), .val (.int p2), .val (.int (47 : Int32)), .val (.ref wD)] [])) _
    refine XS.iconst X4.here hx rfl (hb hby at_64) ?_
    show Steps p.tables e below (T4.setTop (mkF m 65 #[.val (.int p1), .val (.int p2), .val (.int (47 : Int32)), .val (.ref wD)] [(.int (1 : Int32))])) _
    refine XS.goto X4.here hx rfl (pc0 := 65) (pc' := 69) rfl (hb hby at_65) (by decide) (by decide) ?_
    show Steps p.tables e below (T4.setTop (mkF m 69 #[.val (.int p1), .val (.int p2), .val (.int (47 : Int32)), .val (.ref wD)] [(.int (1 : Int32))])) _
    exact retN X4 hx (t := .boolean) Bd.returns (by simp) (hb hby at_69) hr
  · show Q0 n0 _ _
    exact ⟨rfl, N4⟩

set_option maxRecDepth 65536 in
set_option maxHeartbeats 40000000 in
theorem rm0_DIVIDE (l : Launch) (Z : State) (a0 : Array Value) (hw : ∀ d ∈ tables_1, d.before a0 Z = true) (ws : List Jvm.Cond) (p1 : Int32) (p2 : Int32) (wV : Addr) (kV : ClassId) (wA wS wM wD : Addr) (h0 : Heap) (n0 : Nat) (Z0 : n0 ≤ h0.size) (S_V : Sta Z h0 "com/example/variantic/variantic/rules/ArithmeticOperator" "$VALUES" "[Lcom/example/variantic/variantic/rules/ArithmeticOperator;" (.ref wV)) (V_V : Arv Z h0 wV kV (.object "com/example/variantic/variantic/rules/ArithmeticOperator") (4 : Int32) [.ref wA, .ref wS, .ref wM, .ref wD] .null) (E_V : Exa Z h0 wV "[Lcom/example/variantic/variantic/rules/ArithmeticOperator;") (S_wA : Sta Z h0 "com/example/variantic/variantic/rules/ArithmeticOperator" "ADD" "Lcom/example/variantic/variantic/rules/ArithmeticOperator;" (.ref wA)) (S_wS : Sta Z h0 "com/example/variantic/variantic/rules/ArithmeticOperator" "SUBTRACT" "Lcom/example/variantic/variantic/rules/ArithmeticOperator;" (.ref wS)) (S_wM : Sta Z h0 "com/example/variantic/variantic/rules/ArithmeticOperator" "MULTIPLY" "Lcom/example/variantic/variantic/rules/ArithmeticOperator;" (.ref wM)) (S_wD : Sta Z h0 "com/example/variantic/variantic/rules/ArithmeticOperator" "DIVIDE" "Lcom/example/variantic/variantic/rules/ArithmeticOperator;" (.ref wD)) (F_wA : Fld Z h0 wA "com/example/variantic/variantic/rules/ArithmeticOperator" "symbol" "C" (.int (43 : Int32))) (F_wS : Fld Z h0 wS "com/example/variantic/variantic/rules/ArithmeticOperator" "symbol" "C" (.int (45 : Int32))) (F_wM : Fld Z h0 wM "com/example/variantic/variantic/rules/ArithmeticOperator" "symbol" "C" (.int (42 : Int32))) (F_wD : Fld Z h0 wD "com/example/variantic/variantic/rules/ArithmeticOperator" "symbol" "C" (.int (47 : Int32))) (hz0 : ¬ ((p1.toUInt32.toUInt16.toUInt32.toInt32) = (43 : Int32))) (hz1 : ¬ ((p1.toUInt32.toUInt16.toUInt32.toInt32) = (45 : Int32))) (hz2 : ¬ ((p1.toUInt32.toUInt16.toUInt32.toInt32) = (42 : Int32))) (hz : (p1.toUInt32.toUInt16.toUInt32.toInt32) = (47 : Int32)) (hc3 : (p2 &&& (4 : Int32)) = (0 : Int32)) :
    MetFree l x (head1 (Jvm.Cond.code x code maxLocals ret :: ws) room_1) (fun a U => a = #[(.int p1), (.int p2)] ∧ Z.Warmed39 U.vm ∧ U.heap = h0) (fun _ _ _ _ _ => True) (fun _ U o U' => ∃ v L, o = .returned v ∧ Q0 n0 v L ∧ FrameEnd U o U' L room_1.cells room_1.slots) := by
  refine MetFree.of_bodySF (plainFor_of_name pn_0) hisR ?_
  intro p e s m args below meth c s₁ Bd hml0 hP hK
  obtain ⟨rfl, hZ, hh⟩ := hP
  have hx := Bd.exec
  have hby := Bd.bytes
  have hml : c.maxLocals = 4 := hml0
  have hown : s.vm.findClass "com/example/variantic/variantic/rules/ArithmeticOperatorWithSymbolPinLaw" = some m.cls := findClass_of_methodNamed Bd.named
  have hnm := (name_of_methodNamed Bd.named Bd.method).1
  have X0 : Stand p l e room_1 s m #[(.int p1), (.int p2)] below meth c s₁ [] 0 0 := Stand.of_body Bd
  have e0 : s₁.heap = h0 := by rw [← hh, Bd.state]; rfl
  have N0 := Fr.nil n0
  have pre0 : ∀ t, Steps p.tables e below (s₁.setTop (mkF m 0 #[.val (.int p1), .val (.int p2), .unset, .unset] [])) t → Steps p.tables e below (s₁.setTop (entryFrame m #[(.int p1), (.int p2)] maxLocals)) t := fun t k => castTop (ef_0 m p1 p2) k
  -- 3. LAWS
  -- pc 52: com/example/variantic/variantic/rules/ArithmeticOperator.withSymbol by its contract rm1
  obtain ⟨_, _, ⟨T3, L3, k3, n3⟩, -, X3, ⟨Lc3, hQ3, l3, y3, z3⟩, st3⟩ := Jvm.LawKit.callS X0 hx (y := (⟨"com/example/variantic/variantic/rules/ArithmeticOperator", "withSymbol", "(C)Lcom/example/variantic/variantic/rules/ArithmeticOperator;"⟩ : MethodName)) hown (mvT hZ (hw _ (List.mem_of_getElem? (i := 0) rfl))) (mvT hZ (hw _ (List.mem_of_getElem? (i := 1) rfl))) (mvT hZ (hw _ (List.mem_of_getElem? (i := 2) rfl))) (mvT hZ (hw _ (List.mem_of_getElem? (i := 3) rfl))) (by decide) (backOf (W := 0) (rm1_DIVIDE l Z a0 hw [] (p1.toUInt32.toUInt16.toUInt32.toInt32) wV kV wA wS wM wD h0 n0 Z0 S_V V_V E_V F_wA F_wS F_wM F_wD (fun q => hz0 q.symm) (fun q => hz1 q.symm) (fun q => hz2 q.symm) (Eq.symm hz)) hZ (hw _ (List.mem_of_getElem? (i := 3) rfl)) (hw _ (List.mem_of_getElem? (i := 2) rfl)) (by decide) (by decide)) (g := (mkF m 52 #[.val (.int p1), .val (.int p2), .val (.int (p1.toUInt32.toUInt16.toUInt32.toInt32)), .unset] [(.int (p1.toUInt32.toUInt16.toUInt32.toInt32))])) rfl (by rw [hml]; rfl) (argsL := [(.int (p1.toUInt32.toUInt16.toUInt32.toInt32))]) (rest := []) (lenOf pd_0_0 rfl) rfl (by show 2 * 0 + _ ≤ _; exact Nat.le_of_eq rfl) (hb hby at_52) (fun _ _ => ⟨rfl, e0, (by decide : 0 + 1 ≤ _), (by decide : 0 + 4 ≤ _)⟩)
  dsimp only [Pt.U, Pt.locs, Pt.cells, Pt.slots] at X3 l3 y3 z3 st3 hQ3
  subst l3 y3 z3
  obtain ⟨rfl, N3q, E3⟩ := hQ3
  have N3 := Fr.app N0 N3q
  -- pc 58: com/example/variantic/variantic/rules/ArithmeticOperatorWithSymbolPinLaw.expected by its contract rm3
  obtain ⟨_, _, ⟨T4, L4, k4, n4⟩, -, X4, ⟨Lc4, hQ4, l4, y4, z4⟩, st4⟩ := Jvm.LawKit.callS X3 hx (y := (⟨"com/example/variantic/variantic/rules/ArithmeticOperatorWithSymbolPinLaw", "expected", "(C)Lcom/example/variantic/variantic/rules/ArithmeticOperator;"⟩ : MethodName)) hown (mvT hZ (hw _ (List.mem_of_getElem? (i := 25) rfl))) (mvT hZ (hw _ (List.mem_of_getElem? (i := 26) rfl))) (mvT hZ (hw _ (List.mem_of_getElem? (i := 27) rfl))) (mvT hZ (hw _ (List.mem_of_getElem? (i := 28) rfl))) (by decide) (backOf (W := 1) (rm3_DIVIDE l Z a0 hw [] (p1.toUInt32.toUInt16.toUInt32.toInt32) wD T3.heap n0 (Nat.le_trans Z0 E3.1) (S_wD.ext E3) hz0 hz1 hz2 hz) hZ (hw _ (List.mem_of_getElem? (i := 28) rfl)) (hw _ (List.mem_of_getElem? (i := 27) rfl)) (by decide) (by decide)) (g := (mkF m 58 #[.val (.int p1), .val (.int p2), .val (.int (p1.toUInt32.toUInt16.toUInt32.toInt32)), .val (.ref wD)] [(.int (p1.toUInt32.toUInt16.toUInt32.toInt32)), (.ref wD)])) rfl (by rw [hml]; rfl) (argsL := [(.int (p1.toUInt32.toUInt16.toUInt32.toInt32))]) (rest := [(.ref wD)]) (lenOf pd_0_0 rfl) rfl (by show 2 * 0 + _ ≤ _; exact Nat.le_of_eq rfl) (hb hby at_58) (fun _ _ => ⟨rfl, rfl, (by decide : 1 + 0 ≤ _), (by decide : 4 + 0 ≤ _)⟩)
  dsimp only [Pt.U, Pt.locs, Pt.cells, Pt.slots] at X4 l4 y4 z4 st4 hQ4
  subst l4 y4 z4
  obtain ⟨rfl, N4q, hh4⟩ := hQ4
  have N4 := Fr.app N3 N4q
  obtain ⟨fs, hr, hrun, hended, hW, hsame⟩ := X4.leave (v := some (.int (1 : Int32))) (fun h => by rw [Bd.returns] at h; cases h)
  refine ⟨_, _, pre0 _ ?_, hrun, hended, _, _, rfl, ?_, ⟨_, rfl⟩, hW, hsame.mono (by decide) (by decide)⟩
  -- 4. STEPS
  · show Steps p.tables e below (s₁.setTop (mkF m 0 #[.val (.int p1), .val (.int p2), .unset, .unset] [])) _
    refine XS.iloadN X0.here hx rfl (hb hby at_0) rfl ?_
    show Steps p.tables e below (s₁.setTop (mkF m 1 #[.val (.int p1), .val (.int p2), .unset, .unset] [(.int p2)])) _
    refine XS.iconst X0.here hx rfl (hb hby at_1) ?_
    show Steps p.tables e below (s₁.setTop (mkF m 2 #[.val (.int p1), .val (.int p2), .unset, .unset] [(.int (4 : Int32)), (.int p2)])) _
    refine XS.iand X0.here hx rfl (hb hby at_2) rfl ?_
    show Steps p.tables e below (s₁.setTop (mkF m 3 #[.val (.int p1), .val (.int p2), .unset, .unset] [(.int (p2 &&& (4 : Int32)))])) _
    refine XS.ifYes X0.here hx rfl (pc0 := 3) (pc' := 48) rfl (hb hby at_3) rfl ((if0 _ _).trans (teq hc3).1) (by decide) (by decide) ?_
    show Steps p.tables e below (s₁.setTop (mkF m 48 #[.val (.int p1), .val (.int p2), .unset, .unset] [])) _
    refine XS.iloadN X0.here hx rfl (hb hby at_48) rfl ?_
    show Steps p.tables e below (s₁.setTop (mkF m 49 #[.val (.int p1), .val (.int p2), .unset, .unset] [(.int p1)])) _
    refine XS.i2c X0.here hx rfl (hb hby at_49) rfl ?_
    show Steps p.tables e below (s₁.setTop (mkF m 50 #[.val (.int p1), .val (.int p2), .unset, .unset] [(.int (p1.toUInt32.toUInt16.toUInt32.toInt32))])) _
    refine XS.istoreN X0.here hx rfl (hb hby at_50) rfl (l' := #[.val (.int p1), .val (.int p2), .val (.int (p1.toUInt32.toUInt16.toUInt32.toInt32)), .unset]) rfl ?_
    show Steps p.tables e below (s₁.setTop (mkF m 51 #[.val (.int p1), .val (.int p2), .val (.int (p1.toUInt32.toUInt16.toUInt32.toInt32)), .unset] [])) _
    refine XS.iloadN X0.here hx rfl (hb hby at_51) rfl ?_
    show Steps p.tables e below (s₁.setTop (mkF m 52 #[.val (.int p1), .val (.int p2), .val (.int (p1.toUInt32.toUInt16.toUInt32.toInt32)), .unset] [(.int (p1.toUInt32.toUInt16.toUInt32.toInt32))])) _
    refine st3 _ ?_
    show Steps p.tables e below (T3.setTop (mkF m 55 #[.val (.int p1), .val (.int p2), .val (.int (p1.toUInt32.toUInt16.toUInt32.toInt32)), .unset] [(.ref wD)])) _
    refine XS.astoreN X3.here hx rfl (hb hby at_55) rfl rfl (l' := #[.val (.int p1), .val (.int p2), .val (.int (p1.toUInt32.toUInt16.toUInt32.toInt32)), .val (.ref wD)]) rfl ?_
    show Steps p.tables e below (T3.setTop (mkF m 56 #[.val (.int p1), .val (.int p2), .val (.int (p1.toUInt32.toUInt16.toUInt32.toInt32)), .val (.ref wD)] [])) _
    refine XS.aloadN X3.here hx rfl (hb hby at_56) rfl rfl ?_
    show Steps p.tables e below (T3.setTop (mkF m 57 #[.val (.int p1), .val (.int p2), .val (.int (p1.toUInt32.toUInt16.toUInt32.toInt32)), .val (.ref wD)] [(.ref wD)])) _
    refine XS.iloadN X3.here hx rfl (hb hby at_57) rfl ?_
    show Steps p.tables e below (T3.setTop (mkF m 58 #[.val (.int p1), .val (.int p2), .val (.int (p1.toUInt32.toUInt16.toUInt32.toInt32)), .val (.ref wD)] [(.int (p1.toUInt32.toUInt16.toUInt32.toInt32)), (.ref wD)])) _
    refine st4 _ ?_
    show Steps p.tables e below (T4.setTop (mkF m 61 #[.val (.int p1), .val (.int p2), .val (.int (p1.toUInt32.toUInt16.toUInt32.toInt32)), .val (.ref wD)] [(.ref wD), (.ref wD)])) _
    refine Jvm.RoadKit.acmp (g := (mkF m 61 #[.val (.int p1), .val (.int p2), .val (.int (p1.toUInt32.toUInt16.toUInt32.toInt32)), .val (.ref wD)] [(.ref wD), (.ref wD)])) X4 hx rfl rfl rfl (pc0 := 61) (pc' := 64) (same := true) rfl (hb hby at_61) rfl (decide_eq_true rfl) (by decide) (by decide) ?_
    show Steps p.tables e below (T4.setTop (mkF m 64 #[.val (.int p1), .val (.int p2), .val (.int (p1.toUInt32.toUInt16.toUInt32.toInt32)), .val (.ref wD)] [])) _
    refine XS.iconst X4.here hx rfl (hb hby at_64) ?_
    show Steps p.tables e below (T4.setTop (mkF m 65 #[.val (.int p1), .val (.int p2), .val (.int (p1.toUInt32.toUInt16.toUInt32.toInt32)), .val (.ref wD)] [(.int (1 : Int32))])) _
    refine XS.goto X4.here hx rfl (pc0 := 65) (pc' := 69) rfl (hb hby at_65) (by decide) (by decide) ?_
    show Steps p.tables e below (T4.setTop (mkF m 69 #[.val (.int p1), .val (.int p2), .val (.int (p1.toUInt32.toUInt16.toUInt32.toInt32)), .val (.ref wD)] [(.int (1 : Int32))])) _
    exact retN X4 hx (t := .boolean) Bd.returns (by simp) (hb hby at_69) hr
  · show Q0 n0 _ _
    exact ⟨rfl, N4⟩

set_option maxRecDepth 65536 in
set_option maxHeartbeats 40000000 in
theorem rm0_none (l : Launch) (Z : State) (a0 : Array Value) (hw : ∀ d ∈ tables_1, d.before a0 Z = true) (ws : List Jvm.Cond) (p1 : Int32) (p2 : Int32) (wV : Addr) (kV : ClassId) (wA wS wM wD : Addr) (h0 : Heap) (n0 : Nat) (Z0 : n0 ≤ h0.size) (S_V : Sta Z h0 "com/example/variantic/variantic/rules/ArithmeticOperator" "$VALUES" "[Lcom/example/variantic/variantic/rules/ArithmeticOperator;" (.ref wV)) (V_V : Arv Z h0 wV kV (.object "com/example/variantic/variantic/rules/ArithmeticOperator") (4 : Int32) [.ref wA, .ref wS, .ref wM, .ref wD] .null) (E_V : Exa Z h0 wV "[Lcom/example/variantic/variantic/rules/ArithmeticOperator;") (S_wA : Sta Z h0 "com/example/variantic/variantic/rules/ArithmeticOperator" "ADD" "Lcom/example/variantic/variantic/rules/ArithmeticOperator;" (.ref wA)) (S_wS : Sta Z h0 "com/example/variantic/variantic/rules/ArithmeticOperator" "SUBTRACT" "Lcom/example/variantic/variantic/rules/ArithmeticOperator;" (.ref wS)) (S_wM : Sta Z h0 "com/example/variantic/variantic/rules/ArithmeticOperator" "MULTIPLY" "Lcom/example/variantic/variantic/rules/ArithmeticOperator;" (.ref wM)) (S_wD : Sta Z h0 "com/example/variantic/variantic/rules/ArithmeticOperator" "DIVIDE" "Lcom/example/variantic/variantic/rules/ArithmeticOperator;" (.ref wD)) (F_wA : Fld Z h0 wA "com/example/variantic/variantic/rules/ArithmeticOperator" "symbol" "C" (.int (43 : Int32))) (F_wS : Fld Z h0 wS "com/example/variantic/variantic/rules/ArithmeticOperator" "symbol" "C" (.int (45 : Int32))) (F_wM : Fld Z h0 wM "com/example/variantic/variantic/rules/ArithmeticOperator" "symbol" "C" (.int (42 : Int32))) (F_wD : Fld Z h0 wD "com/example/variantic/variantic/rules/ArithmeticOperator" "symbol" "C" (.int (47 : Int32))) (hz0 : ¬ ((p1.toUInt32.toUInt16.toUInt32.toInt32) = (43 : Int32))) (hz1 : ¬ ((p1.toUInt32.toUInt16.toUInt32.toInt32) = (45 : Int32))) (hz2 : ¬ ((p1.toUInt32.toUInt16.toUInt32.toInt32) = (42 : Int32))) (hz3 : ¬ ((p1.toUInt32.toUInt16.toUInt32.toInt32) = (47 : Int32))) (hc3 : (p2 &&& (4 : Int32)) = (0 : Int32)) :
    MetFree l x (head1 (Jvm.Cond.code x code maxLocals ret :: ws) room_1) (fun a U => a = #[(.int p1), (.int p2)] ∧ Z.Warmed39 U.vm ∧ U.heap = h0) (fun _ _ _ _ _ => True) (fun _ U o U' => ∃ v L, o = .returned v ∧ Q0 n0 v L ∧ FrameEnd U o U' L room_1.cells room_1.slots) := by
  refine MetFree.of_bodySF (plainFor_of_name pn_0) hisR ?_
  intro p e s m args below meth c s₁ Bd hml0 hP hK
  obtain ⟨rfl, hZ, hh⟩ := hP
  have hx := Bd.exec
  have hby := Bd.bytes
  have hml : c.maxLocals = 4 := hml0
  have hown : s.vm.findClass "com/example/variantic/variantic/rules/ArithmeticOperatorWithSymbolPinLaw" = some m.cls := findClass_of_methodNamed Bd.named
  have hnm := (name_of_methodNamed Bd.named Bd.method).1
  have X0 : Stand p l e room_1 s m #[(.int p1), (.int p2)] below meth c s₁ [] 0 0 := Stand.of_body Bd
  have e0 : s₁.heap = h0 := by rw [← hh, Bd.state]; rfl
  have N0 := Fr.nil n0
  have pre0 : ∀ t, Steps p.tables e below (s₁.setTop (mkF m 0 #[.val (.int p1), .val (.int p2), .unset, .unset] [])) t → Steps p.tables e below (s₁.setTop (entryFrame m #[(.int p1), (.int p2)] maxLocals)) t := fun t k => castTop (ef_0 m p1 p2) k
  -- 3. LAWS
  -- pc 52: com/example/variantic/variantic/rules/ArithmeticOperator.withSymbol by its contract rm1
  obtain ⟨_, _, ⟨T3, L3, k3, n3⟩, -, X3, ⟨Lc3, hQ3, l3, y3, z3⟩, st3⟩ := Jvm.LawKit.callS X0 hx (y := (⟨"com/example/variantic/variantic/rules/ArithmeticOperator", "withSymbol", "(C)Lcom/example/variantic/variantic/rules/ArithmeticOperator;"⟩ : MethodName)) hown (mvT hZ (hw _ (List.mem_of_getElem? (i := 0) rfl))) (mvT hZ (hw _ (List.mem_of_getElem? (i := 1) rfl))) (mvT hZ (hw _ (List.mem_of_getElem? (i := 2) rfl))) (mvT hZ (hw _ (List.mem_of_getElem? (i := 3) rfl))) (by decide) (backOf (W := 0) (rm1_none l Z a0 hw [] (p1.toUInt32.toUInt16.toUInt32.toInt32) wV kV wA wS wM wD h0 n0 Z0 S_V V_V E_V F_wA F_wS F_wM F_wD (fun q => hz0 q.symm) (fun q => hz1 q.symm) (fun q => hz2 q.symm) (fun q => hz3 q.symm)) hZ (hw _ (List.mem_of_getElem? (i := 3) rfl)) (hw _ (List.mem_of_getElem? (i := 2) rfl)) (by decide) (by decide)) (g := (mkF m 52 #[.val (.int p1), .val (.int p2), .val (.int (p1.toUInt32.toUInt16.toUInt32.toInt32)), .unset] [(.int (p1.toUInt32.toUInt16.toUInt32.toInt32))])) rfl (by rw [hml]; rfl) (argsL := [(.int (p1.toUInt32.toUInt16.toUInt32.toInt32))]) (rest := []) (lenOf pd_0_0 rfl) rfl (by show 2 * 0 + _ ≤ _; exact Nat.le_of_eq rfl) (hb hby at_52) (fun _ _ => ⟨rfl, e0, (by decide : 0 + 1 ≤ _), (by decide : 0 + 4 ≤ _)⟩)
  dsimp only [Pt.U, Pt.locs, Pt.cells, Pt.slots] at X3 l3 y3 z3 st3 hQ3
  subst l3 y3 z3
  obtain ⟨rfl, N3q, E3⟩ := hQ3
  have N3 := Fr.app N0 N3q
  -- pc 58: com/example/variantic/variantic/rules/ArithmeticOperatorWithSymbolPinLaw.expected by its contract rm3
  obtain ⟨_, _, ⟨T4, L4, k4, n4⟩, -, X4, ⟨Lc4, hQ4, l4, y4, z4⟩, st4⟩ := Jvm.LawKit.callS X3 hx (y := (⟨"com/example/variantic/variantic/rules/ArithmeticOperatorWithSymbolPinLaw", "expected", "(C)Lcom/example/variantic/variantic/rules/ArithmeticOperator;"⟩ : MethodName)) hown (mvT hZ (hw _ (List.mem_of_getElem? (i := 25) rfl))) (mvT hZ (hw _ (List.mem_of_getElem? (i := 26) rfl))) (mvT hZ (hw _ (List.mem_of_getElem? (i := 27) rfl))) (mvT hZ (hw _ (List.mem_of_getElem? (i := 28) rfl))) (by decide) (backOf (W := 1) (rm3_none l Z a0 hw [] (p1.toUInt32.toUInt16.toUInt32.toInt32)  T3.heap n0 (Nat.le_trans Z0 E3.1)  hz0 hz1 hz2 hz3) hZ (hw _ (List.mem_of_getElem? (i := 28) rfl)) (hw _ (List.mem_of_getElem? (i := 27) rfl)) (by decide) (by decide)) (g := (mkF m 58 #[.val (.int p1), .val (.int p2), .val (.int (p1.toUInt32.toUInt16.toUInt32.toInt32)), .val .null] [(.int (p1.toUInt32.toUInt16.toUInt32.toInt32)), .null])) rfl (by rw [hml]; rfl) (argsL := [(.int (p1.toUInt32.toUInt16.toUInt32.toInt32))]) (rest := [.null]) (lenOf pd_0_0 rfl) rfl (by show 2 * 0 + _ ≤ _; exact Nat.le_of_eq rfl) (hb hby at_58) (fun _ _ => ⟨rfl, rfl, (by decide : 1 + 0 ≤ _), (by decide : 4 + 0 ≤ _)⟩)
  dsimp only [Pt.U, Pt.locs, Pt.cells, Pt.slots] at X4 l4 y4 z4 st4 hQ4
  subst l4 y4 z4
  obtain ⟨rfl, N4q, hh4⟩ := hQ4
  have N4 := Fr.app N3 N4q
  obtain ⟨fs, hr, hrun, hended, hW, hsame⟩ := X4.leave (v := some (.int (1 : Int32))) (fun h => by rw [Bd.returns] at h; cases h)
  refine ⟨_, _, pre0 _ ?_, hrun, hended, _, _, rfl, ?_, ⟨_, rfl⟩, hW, hsame.mono (by decide) (by decide)⟩
  -- 4. STEPS
  · show Steps p.tables e below (s₁.setTop (mkF m 0 #[.val (.int p1), .val (.int p2), .unset, .unset] [])) _
    refine XS.iloadN X0.here hx rfl (hb hby at_0) rfl ?_
    show Steps p.tables e below (s₁.setTop (mkF m 1 #[.val (.int p1), .val (.int p2), .unset, .unset] [(.int p2)])) _
    refine XS.iconst X0.here hx rfl (hb hby at_1) ?_
    show Steps p.tables e below (s₁.setTop (mkF m 2 #[.val (.int p1), .val (.int p2), .unset, .unset] [(.int (4 : Int32)), (.int p2)])) _
    refine XS.iand X0.here hx rfl (hb hby at_2) rfl ?_
    show Steps p.tables e below (s₁.setTop (mkF m 3 #[.val (.int p1), .val (.int p2), .unset, .unset] [(.int (p2 &&& (4 : Int32)))])) _
    refine XS.ifYes X0.here hx rfl (pc0 := 3) (pc' := 48) rfl (hb hby at_3) rfl ((if0 _ _).trans (teq hc3).1) (by decide) (by decide) ?_
    show Steps p.tables e below (s₁.setTop (mkF m 48 #[.val (.int p1), .val (.int p2), .unset, .unset] [])) _
    refine XS.iloadN X0.here hx rfl (hb hby at_48) rfl ?_
    show Steps p.tables e below (s₁.setTop (mkF m 49 #[.val (.int p1), .val (.int p2), .unset, .unset] [(.int p1)])) _
    refine XS.i2c X0.here hx rfl (hb hby at_49) rfl ?_
    show Steps p.tables e below (s₁.setTop (mkF m 50 #[.val (.int p1), .val (.int p2), .unset, .unset] [(.int (p1.toUInt32.toUInt16.toUInt32.toInt32))])) _
    refine XS.istoreN X0.here hx rfl (hb hby at_50) rfl (l' := #[.val (.int p1), .val (.int p2), .val (.int (p1.toUInt32.toUInt16.toUInt32.toInt32)), .unset]) rfl ?_
    show Steps p.tables e below (s₁.setTop (mkF m 51 #[.val (.int p1), .val (.int p2), .val (.int (p1.toUInt32.toUInt16.toUInt32.toInt32)), .unset] [])) _
    refine XS.iloadN X0.here hx rfl (hb hby at_51) rfl ?_
    show Steps p.tables e below (s₁.setTop (mkF m 52 #[.val (.int p1), .val (.int p2), .val (.int (p1.toUInt32.toUInt16.toUInt32.toInt32)), .unset] [(.int (p1.toUInt32.toUInt16.toUInt32.toInt32))])) _
    refine st3 _ ?_
    show Steps p.tables e below (T3.setTop (mkF m 55 #[.val (.int p1), .val (.int p2), .val (.int (p1.toUInt32.toUInt16.toUInt32.toInt32)), .unset] [.null])) _
    refine XS.astoreN X3.here hx rfl (hb hby at_55) rfl rfl (l' := #[.val (.int p1), .val (.int p2), .val (.int (p1.toUInt32.toUInt16.toUInt32.toInt32)), .val .null]) rfl ?_
    show Steps p.tables e below (T3.setTop (mkF m 56 #[.val (.int p1), .val (.int p2), .val (.int (p1.toUInt32.toUInt16.toUInt32.toInt32)), .val .null] [])) _
    refine XS.aloadN X3.here hx rfl (hb hby at_56) rfl rfl ?_
    show Steps p.tables e below (T3.setTop (mkF m 57 #[.val (.int p1), .val (.int p2), .val (.int (p1.toUInt32.toUInt16.toUInt32.toInt32)), .val .null] [.null])) _
    refine XS.iloadN X3.here hx rfl (hb hby at_57) rfl ?_
    show Steps p.tables e below (T3.setTop (mkF m 58 #[.val (.int p1), .val (.int p2), .val (.int (p1.toUInt32.toUInt16.toUInt32.toInt32)), .val .null] [(.int (p1.toUInt32.toUInt16.toUInt32.toInt32)), .null])) _
    refine st4 _ ?_
    show Steps p.tables e below (T4.setTop (mkF m 61 #[.val (.int p1), .val (.int p2), .val (.int (p1.toUInt32.toUInt16.toUInt32.toInt32)), .val .null] [.null, .null])) _
    refine Jvm.RoadKit.acmp (g := (mkF m 61 #[.val (.int p1), .val (.int p2), .val (.int (p1.toUInt32.toUInt16.toUInt32.toInt32)), .val .null] [.null, .null])) X4 hx rfl rfl rfl (pc0 := 61) (pc' := 64) (same := true) rfl (hb hby at_61) rfl (decide_eq_true rfl) (by decide) (by decide) ?_
    show Steps p.tables e below (T4.setTop (mkF m 64 #[.val (.int p1), .val (.int p2), .val (.int (p1.toUInt32.toUInt16.toUInt32.toInt32)), .val .null] [])) _
    refine XS.iconst X4.here hx rfl (hb hby at_64) ?_
    show Steps p.tables e below (T4.setTop (mkF m 65 #[.val (.int p1), .val (.int p2), .val (.int (p1.toUInt32.toUInt16.toUInt32.toInt32)), .val .null] [(.int (1 : Int32))])) _
    refine XS.goto X4.here hx rfl (pc0 := 65) (pc' := 69) rfl (hb hby at_65) (by decide) (by decide) ?_
    show Steps p.tables e below (T4.setTop (mkF m 69 #[.val (.int p1), .val (.int p2), .val (.int (p1.toUInt32.toUInt16.toUInt32.toInt32)), .val .null] [(.int (1 : Int32))])) _
    exact retN X4 hx (t := .boolean) Bd.returns (by simp) (hb hby at_69) hr
  · show Q0 n0 _ _
    exact ⟨rfl, N4⟩

theorem own_fld {args : Array Value} {s : State} {t : Term} {C n d : String} {k : Int32} {y : Addr} (ev : t.eval args s none [] s = some (.ref y)) (h : (Jvm.Cond.eq (.field t C n d) (.int k)).value args s none s [] = some true) : Fld s s.heap y C n d (.int k) := by
  obtain ⟨u, v, h1, h2, k1, k2⟩ := cmp_v (Or.inl h)
  have h2' : v = .int k := (Option.some.inj h2).symm
  subst h2'
  obtain ⟨z, rfl⟩ : ∃ z, u = .int z := k2
  have e : z = k := by simpa [Cond.value, h1, h2] using h
  subst e
  exact Fld.start ((fld_at ev).symm.trans h1)

theorem own_len {args : Array Value} {s : State} {t : Term} {k : Int32} {y : Addr} {cl : Cell} {ty : FieldType} (ev : t.eval args s none [] s = some (.ref y)) (A : Arr s s.heap y cl ty) (h : (Jvm.Cond.eq (.length t) (.int k)).value args s none s [] = some true) : cl.slots.size < 2 ^ 31 ∧ cl.slots.size.toInt32 = k := by
  have ha : s.arrayAt? y = some cl := A.fin (Vm.Alike.refl _)
  have h3 : (Term.int k).eval args s none [] s = some (.int k) := rfl
  by_cases hn : cl.slots.size < 2 ^ 31
  · have e : (Term.length t).eval args s none [] s = some (.int cl.slots.size.toInt32) := len_f ev ha hn
    exact ⟨hn, by simpa [Cond.value, e, h3] using h⟩
  · have e : (Term.length t).eval args s none [] s = none := by simp [Term.eval, ev, ha, hn]
    simp [Cond.value, e] at h
theorem own_el {args : Array Value} {s : State} {t u : Term} {j : Int32} {y w : Addr} {cl : Cell} (ev : t.eval args s none [] s = some (.ref y)) (hc : s.heap[y]? = some cl) (uv : u.eval args s none [] s = some (.ref w)) (h : (Jvm.Cond.eq (.elem t (.int j)) u).value args s none s [] = some true) : cl.slots[j.toNatClampNeg]? = some (.ref w) := by
  obtain ⟨p, q, h1, h2, k1, k2⟩ := cmp_v (Or.inl h)
  cases uv.symm.trans h2
  have hp : p.isRef = true := k2.2
  have e : p = .ref w := gotT (eq_R h1 h2 hp rfl) h
  subst e
  exact (elem_in h1 ev rfl hc).2

set_option maxRecDepth 65536 in
set_option maxHeartbeats 40000000 in
theorem comes_1 {Post : Tables → Env → Array Value → State → Outcome → State → Prop} (hpost : ∀ tb e args s v u, (limb_1_1.after args s (.returned v) u = true ∧ limb_1_2.after args s (.returned v) u = true ∧ True) → FrameEnd s (.returned v) u (Jvm.fieldLocs frame_1_writes args s ++ Jvm.arrayLocs frame_1_arrays args s ++ Jvm.staticLocs frame_1_statics s) 16 128 → Post tb e args s (.returned v) u) :
    ArmFor flags0 classFile x code maxLocals ret World_1 tables_1 room_1 Calls_1 rest_1 Pre_1 Post := by
  intro l hfl _ _ p e ha hc hk s m args below hf hA hF happ hP
  obtain ⟨hcalls, hrest, hpre⟩ := hP
  obtain ⟨-, -, -, hnamed, -, -, -, hat⟩ := (Spec.applies_iff hf).mp happ
  obtain ⟨hg, hn⟩ := and_e (Cond.before_iff.mp (show (Jvm.Cond.and given_1 narrow_1).before args s = true from hpre))
  obtain ⟨g5, g6⟩ := and_e hg
  obtain ⟨g7, g8⟩ := and_e g6
  obtain ⟨w0, w1, rfl⟩ : ∃ w0 w1 : Value, args = #[w0, w1] := by
    have hs : args.size = 2 := by simpa [Cond.value, given_1] using g5
    obtain ⟨L⟩ := args
    match L, hs with
    | [w0, w1], _ => exact ⟨w0, w1, rfl⟩
  have hw := fun d (hd : d ∈ tables_1) => atoms_spec (ws := Jvm.Cond.code x code maxLocals ret :: tables_1) hat d (List.mem_cons_of_mem _ hd)
  have hfit : Fit s := fun {y c} hc i hi => by
    obtain ⟨ha, rfl⟩ := Array.getElem?_eq_some_iff.mp hc
    have q := List.all_eq_true.mp ((Array.all_eq_true_iff_forall_mem.mp hF) _ (Array.getElem_mem ha)) i (List.mem_range.mpr hi)
    simpa [Array.getElem?_eq_getElem hi] using q
  obtain ⟨i0, ei0⟩ := is_v g7
  obtain rfl : w0 = (.int i0) := Option.some.inj ei0
  obtain ⟨i1, ei1⟩ := is_v g8
  obtain rfl : w1 = (.int i1) := Option.some.inj ei1
  obtain ⟨na1, nb1⟩ := and_e hn
  obtain ⟨na2, nb2⟩ := and_e nb1
  obtain ⟨na3, nb3⟩ := and_e nb2
  obtain ⟨na4, nb4⟩ := and_e nb3
  obtain ⟨w_ADD, ev_ADD⟩ := exa_v na4
  have E_ADD : Exa s s.heap w_ADD "com/example/variantic/variantic/rules/ArithmeticOperator" := Exa.start ev_ADD na4
  have S_ADD : Sta s s.heap "com/example/variantic/variantic/rules/ArithmeticOperator" "ADD" "Lcom/example/variantic/variantic/rules/ArithmeticOperator;" (.ref w_ADD) := Sta.start ev_ADD (Or.inr ⟨hw _ (List.mem_of_getElem? (i := 2) rfl), hw _ (List.mem_of_getElem? (i := 16) rfl)⟩)
  obtain ⟨na5, nb5⟩ := and_e nb4
  obtain ⟨na6, nb6⟩ := and_e nb5
  obtain ⟨w_SUBTRACT, ev_SUBTRACT⟩ := exa_v na6
  have E_SUBTRACT : Exa s s.heap w_SUBTRACT "com/example/variantic/variantic/rules/ArithmeticOperator" := Exa.start ev_SUBTRACT na6
  have S_SUBTRACT : Sta s s.heap "com/example/variantic/variantic/rules/ArithmeticOperator" "SUBTRACT" "Lcom/example/variantic/variantic/rules/ArithmeticOperator;" (.ref w_SUBTRACT) := Sta.start ev_SUBTRACT (Or.inr ⟨hw _ (List.mem_of_getElem? (i := 2) rfl), hw _ (List.mem_of_getElem? (i := 17) rfl)⟩)
  obtain ⟨na7, nb7⟩ := and_e nb6
  obtain ⟨na8, nb8⟩ := and_e nb7
  obtain ⟨w_MULTIPLY, ev_MULTIPLY⟩ := exa_v na8
  have E_MULTIPLY : Exa s s.heap w_MULTIPLY "com/example/variantic/variantic/rules/ArithmeticOperator" := Exa.start ev_MULTIPLY na8
  have S_MULTIPLY : Sta s s.heap "com/example/variantic/variantic/rules/ArithmeticOperator" "MULTIPLY" "Lcom/example/variantic/variantic/rules/ArithmeticOperator;" (.ref w_MULTIPLY) := Sta.start ev_MULTIPLY (Or.inr ⟨hw _ (List.mem_of_getElem? (i := 2) rfl), hw _ (List.mem_of_getElem? (i := 18) rfl)⟩)
  obtain ⟨na9, nb9⟩ := and_e nb8
  obtain ⟨na10, nb10⟩ := and_e nb9
  obtain ⟨w_DIVIDE, ev_DIVIDE⟩ := exa_v na10
  have E_DIVIDE : Exa s s.heap w_DIVIDE "com/example/variantic/variantic/rules/ArithmeticOperator" := Exa.start ev_DIVIDE na10
  have S_DIVIDE : Sta s s.heap "com/example/variantic/variantic/rules/ArithmeticOperator" "DIVIDE" "Lcom/example/variantic/variantic/rules/ArithmeticOperator;" (.ref w_DIVIDE) := Sta.start ev_DIVIDE (Or.inr ⟨hw _ (List.mem_of_getElem? (i := 2) rfl), hw _ (List.mem_of_getElem? (i := 19) rfl)⟩)
  obtain ⟨na11, nb11⟩ := and_e nb10
  obtain ⟨na12, nb12⟩ := and_e nb11
  obtain ⟨na13, nb13⟩ := and_e nb12
  obtain ⟨na14, nb14⟩ := and_e nb13
  have F_symbol_ADD : Fld s s.heap w_ADD "com/example/variantic/variantic/rules/ArithmeticOperator" "symbol" "C" (.int (43 : Int32)) := own_fld ev_ADD na12
  have F_symbol_SUBTRACT : Fld s s.heap w_SUBTRACT "com/example/variantic/variantic/rules/ArithmeticOperator" "symbol" "C" (.int (45 : Int32)) := own_fld ev_SUBTRACT na13
  have F_symbol_MULTIPLY : Fld s s.heap w_MULTIPLY "com/example/variantic/variantic/rules/ArithmeticOperator" "symbol" "C" (.int (42 : Int32)) := own_fld ev_MULTIPLY na14
  have F_symbol_DIVIDE : Fld s s.heap w_DIVIDE "com/example/variantic/variantic/rules/ArithmeticOperator" "symbol" "C" (.int (47 : Int32)) := own_fld ev_DIVIDE nb14
  obtain ⟨w_VALUES, ev_VALUES⟩ := arr_v na1
  have E_VALUES : Exa s s.heap w_VALUES "[Lcom/example/variantic/variantic/rules/ArithmeticOperator;" := Exa.start ev_VALUES na2
  obtain ⟨clV, A_VALUES⟩ := Arr.start ev_VALUES na1
  have S_VALUES : Sta s s.heap "com/example/variantic/variantic/rules/ArithmeticOperator" "$VALUES" "[Lcom/example/variantic/variantic/rules/ArithmeticOperator;" (.ref w_VALUES) := Sta.start ev_VALUES (Or.inr ⟨hw _ (List.mem_of_getElem? (i := 2) rfl), hw _ (List.mem_of_getElem? (i := 8) rfl)⟩)
  obtain ⟨szV, lenV⟩ := own_len ev_VALUES A_VALUES na3
  have el0 := own_el ev_VALUES A_VALUES.1 ev_ADD na5
  have el1 := own_el ev_VALUES A_VALUES.1 ev_SUBTRACT na7
  have el2 := own_el ev_VALUES A_VALUES.1 ev_MULTIPLY na9
  have el3 := own_el ev_VALUES A_VALUES.1 ev_DIVIDE na11
  have V_VALUES : Arv s s.heap w_VALUES clV.cls (.object "com/example/variantic/variantic/rules/ArithmeticOperator") (4 : Int32) [.ref w_ADD, .ref w_SUBTRACT, .ref w_MULTIPLY, .ref w_DIVIDE] .null := Arv.start hfit A_VALUES szV lenV (by decide) rfl ⟨el0, el1, el2, el3, trivial⟩
  have M : MetFree l x (head1 (Jvm.Cond.code x code maxLocals ret :: tables_1) room_1) (fun a U => a = #[(.int i0), (.int i1)] ∧ s.Warmed39 U.vm ∧ U.heap = s.heap) (fun _ _ _ _ _ => True) (fun _ U o U' => ∃ v L, o = .returned v ∧ Q0 s.heap.size v L ∧ FrameEnd U o U' L room_1.cells room_1.slots) := by
    by_cases b4 : (i1 &&& (4 : Int32)) = (0 : Int32)
    · by_cases z0 : (i0.toUInt32.toUInt16.toUInt32.toInt32) = (43 : Int32)
      · exact rm0_ADD l s _ hw tables_1 i0 i1 w_VALUES clV.cls w_ADD w_SUBTRACT w_MULTIPLY w_DIVIDE s.heap s.heap.size (Nat.le_refl _) S_VALUES V_VALUES E_VALUES S_ADD S_SUBTRACT S_MULTIPLY S_DIVIDE F_symbol_ADD F_symbol_SUBTRACT F_symbol_MULTIPLY F_symbol_DIVIDE  z0 b4
      · by_cases z1 : (i0.toUInt32.toUInt16.toUInt32.toInt32) = (45 : Int32)
        · exact rm0_SUBTRACT l s _ hw tables_1 i0 i1 w_VALUES clV.cls w_ADD w_SUBTRACT w_MULTIPLY w_DIVIDE s.heap s.heap.size (Nat.le_refl _) S_VALUES V_VALUES E_VALUES S_ADD S_SUBTRACT S_MULTIPLY S_DIVIDE F_symbol_ADD F_symbol_SUBTRACT F_symbol_MULTIPLY F_symbol_DIVIDE  z0 z1 b4
        · by_cases z2 : (i0.toUInt32.toUInt16.toUInt32.toInt32) = (42 : Int32)
          · exact rm0_MULTIPLY l s _ hw tables_1 i0 i1 w_VALUES clV.cls w_ADD w_SUBTRACT w_MULTIPLY w_DIVIDE s.heap s.heap.size (Nat.le_refl _) S_VALUES V_VALUES E_VALUES S_ADD S_SUBTRACT S_MULTIPLY S_DIVIDE F_symbol_ADD F_symbol_SUBTRACT F_symbol_MULTIPLY F_symbol_DIVIDE  z0 z1 z2 b4
          · by_cases z3 : (i0.toUInt32.toUInt16.toUInt32.toInt32) = (47 : Int32)
            · exact rm0_DIVIDE l s _ hw tables_1 i0 i1 w_VALUES clV.cls w_ADD w_SUBTRACT w_MULTIPLY w_DIVIDE s.heap s.heap.size (Nat.le_refl _) S_VALUES V_VALUES E_VALUES S_ADD S_SUBTRACT S_MULTIPLY S_DIVIDE F_symbol_ADD F_symbol_SUBTRACT F_symbol_MULTIPLY F_symbol_DIVIDE  z0 z1 z2 z3 b4
            · exact rm0_none l s _ hw tables_1 i0 i1 w_VALUES clV.cls w_ADD w_SUBTRACT w_MULTIPLY w_DIVIDE s.heap s.heap.size (Nat.le_refl _) S_VALUES V_VALUES E_VALUES S_ADD S_SUBTRACT S_MULTIPLY S_DIVIDE F_symbol_ADD F_symbol_SUBTRACT F_symbol_MULTIPLY F_symbol_DIVIDE  z0 z1 z2 z3 b4
    · by_cases k0 : (i1 &&& (3 : Int32)) = (0 : Int32)
      · exact rm0_ADD_lit l s _ hw tables_1 i0 i1 w_VALUES clV.cls w_ADD w_SUBTRACT w_MULTIPLY w_DIVIDE s.heap s.heap.size (Nat.le_refl _) S_VALUES V_VALUES E_VALUES S_ADD S_SUBTRACT S_MULTIPLY S_DIVIDE F_symbol_ADD F_symbol_SUBTRACT F_symbol_MULTIPLY F_symbol_DIVIDE  b4 k0
      · by_cases k1 : (i1 &&& (3 : Int32)) = (1 : Int32)
        · exact rm0_SUBTRACT_lit l s _ hw tables_1 i0 i1 w_VALUES clV.cls w_ADD w_SUBTRACT w_MULTIPLY w_DIVIDE s.heap s.heap.size (Nat.le_refl _) S_VALUES V_VALUES E_VALUES S_ADD S_SUBTRACT S_MULTIPLY S_DIVIDE F_symbol_ADD F_symbol_SUBTRACT F_symbol_MULTIPLY F_symbol_DIVIDE  b4 k0 k1
        · by_cases k2 : (i1 &&& (3 : Int32)) = (2 : Int32)
          · exact rm0_MULTIPLY_lit l s _ hw tables_1 i0 i1 w_VALUES clV.cls w_ADD w_SUBTRACT w_MULTIPLY w_DIVIDE s.heap s.heap.size (Nat.le_refl _) S_VALUES V_VALUES E_VALUES S_ADD S_SUBTRACT S_MULTIPLY S_DIVIDE F_symbol_ADD F_symbol_SUBTRACT F_symbol_MULTIPLY F_symbol_DIVIDE  b4 k0 k1 k2
          · exact rm0_DIVIDE_lit l s _ hw tables_1 i0 i1 w_VALUES clV.cls w_ADD w_SUBTRACT w_MULTIPLY w_DIVIDE s.heap s.heap.size (Nat.le_refl _) S_VALUES V_VALUES E_VALUES S_ADD S_SUBTRACT S_MULTIPLY S_DIVIDE F_symbol_ADD F_symbol_SUBTRACT F_symbol_MULTIPLY F_symbol_DIVIDE  b4 k0 k1 k2
  obtain ⟨n, o, h1, h2, h3, _, L, rfl, ⟨rfl, N⟩, hq⟩ := M p e ha hc hk s m _ below hf ((Spec.applies_iff_loose hf).mp happ).1 ⟨rfl, State.Warmed39.refl s, rfl⟩ trivial
  refine ⟨n, _, h1, h2, h3, hpost _ _ _ _ _ _ ⟨Cond.after_iff.mpr rfl, Cond.after_iff.mpr (eq_i res_at (Term.int_eval (1)) rfl), trivial⟩ ⟨hq.1, hq.2.1, (hq.2.2.sift fun y hy => Or.inr (N y hy)).mono (by decide) (by decide)⟩⟩
theorem main_1_1 : Claimed_1_1 := comes_1 fun _ _ _ _ _ _ h hF => ⟨h.1, hF⟩
theorem main_1_2 : Claimed_1_2 := comes_1 fun _ _ _ _ _ _ h hF => ⟨h.2.1, hF⟩
end Jvm.Pilot.@@N@@
namespace Jvm.Pilot.@@N@@
open Jvm Jvm.ClassFile Sem Op Lib Jvm.Free Jvm.Stand Jvm.Pilot.@@N@@.Jvm.D
/-! MADE BY PROGRAM (witnessworld.py) out of the Statement's table words and the real class files: 13 classes; the members and pool entries that the words name. The judged class is class 1, her method 1. -/
namespace start1
open Jvm.ClassFile
def u (s : String) : CpInfo := .utf8 (stringToUtf16 s)
/-- a pool by its gaps: so many unusable entries, then the entry; so many at the end -/
def gap : Nat → List CpInfo → List CpInfo
  | 0, r => r
  | n + 1, r => .unusable :: gap n r
def poolList (es : List (Nat × CpInfo)) (last : Nat) : List CpInfo := es.foldr (fun e r => gap e.1 (e.2 :: r)) (gap last [])
def pool (es : List (Nat × CpInfo)) (last : Nat) : Array CpInfo := ⟨poolList es last⟩
def fileOf (pool : Array CpInfo) (this : Nat) (attrs : Array Attribute := #[]) (ms : Array MethodInfo := #[]) (fl : Nat := 33) (sup : Nat := 0) (ifs : Array Nat := #[]) (fds : Array FieldInfo := #[]) : ClassFile where
  minorVersion := 0
  majorVersion := 65
  constantPool := pool
  accessFlags := fl
  thisClass := this
  superClass := sup
  interfaces := ifs
  fields := fds
  methods := ms
  attributes := attrs
def plain (name : String) (sup : Option ClassId) : Class where
  name := name
  kind := .ordinary
  loader := none
  accessFlags := 33
  super := sup
  interfaces := #[]
  cf := none
  fields := #[]
  methods := #[]
  instanceTypes := #[]
  staticTypes := #[]
  resolved := #[]
  callSites := []
  init := .initialized
  statics := none
  mirror := none

def pool0 : Array CpInfo := pool [(5, u "<init>"), (0, u "()V"), (1, .class_ 10), (1, u "java/lang/Object"), (85, u "clone"), (0, u "()Ljava/lang/Object;")] 26

def k0m0 : Method := { name := "<init>", desc := "()V", sig := { parameters := [], returnType := none }, accessFlags := 1, code := none }
def k0m1 : Method := { name := "clone", desc := "()Ljava/lang/Object;", sig := { parameters := [], returnType := some (.object "java/lang/Object") }, accessFlags := 260, code := none }
/-- java/lang/Object -/
def k0 : Class := { plain "java/lang/Object" none with
  accessFlags := 33
  interfaces := #[]
  cf := some (fileOf pool0 8 #[] #[{ accessFlags := 1, nameIndex := 5, descriptorIndex := 6, attributes := #[] }, { accessFlags := 260, nameIndex := 96, descriptorIndex := 97, attributes := #[] }] 33 0 #[] #[])
  fields := #[]
  methods := #[k0m0, k0m1]
  instanceTypes := #[]
  staticTypes := #[]
  resolved := Array.replicate 124 none
  statics := none }

def pool1 : Array CpInfo := pool [(2, .class_ 4), (1, u "java/lang/Object"), (0, u "<init>"), (0, u "()V"), (0, .methodref 8 9), (0, .class_ 10), (0, .nameAndType 11 12), (0, u "com/example/variantic/variantic/rules/ArithmeticOperator"), (0, u "withSymbol"), (0, u "(C)Lcom/example/variantic/variantic/rules/ArithmeticOperator;"), (0, .methodref 14 15), (0, .class_ 16), (0, .nameAndType 17 12), (0, u "com/example/variantic/variantic/rules/ArithmeticOperatorWithSymbolPinLaw"), (0, u "expected"), (0, .fieldref 8 19), (0, .nameAndType 20 21), (0, u "ADD"), (0, u "Lcom/example/variantic/variantic/rules/ArithmeticOperator;"), (0, .fieldref 8 23), (0, .nameAndType 24 21), (0, u "SUBTRACT"), (0, .fieldref 8 26), (0, .nameAndType 27 21), (0, u "MULTIPLY"), (0, .fieldref 8 29), (0, .nameAndType 30 21), (0, u "DIVIDE"), (2, u "law"), (0, u "(II)Z")] 3

def k1m0 : Method := { name := "<init>", desc := "()V", sig := { parameters := [], returnType := none }, accessFlags := 1, code := none }
def k1c1 : Code := { maxStack := 2, maxLocals := 4, code := code, exceptionTable := #[], attributes := #[] }
def k1m1 : Method := { name := "law", desc := "(II)Z", sig := { parameters := [.int, .int], returnType := some .boolean }, accessFlags := 9, code := some k1c1 }
def k1c2 : Code := { maxStack := 2, maxLocals := 1, code := method_3_code, exceptionTable := #[], attributes := #[] }
def k1m2 : Method := { name := "expected", desc := "(C)Lcom/example/variantic/variantic/rules/ArithmeticOperator;", sig := { parameters := [.char], returnType := some (.object "com/example/variantic/variantic/rules/ArithmeticOperator") }, accessFlags := 10, code := some k1c2 }
/-- com/example/variantic/variantic/rules/ArithmeticOperatorWithSymbolPinLaw -/
def k1 : Class := { plain "com/example/variantic/variantic/rules/ArithmeticOperatorWithSymbolPinLaw" (some 0) with
  accessFlags := 49
  interfaces := #[]
  cf := some (fileOf pool1 14 #[] #[{ accessFlags := 1, nameIndex := 5, descriptorIndex := 6, attributes := #[] }, { accessFlags := 9, nameIndex := 33, descriptorIndex := 34, attributes := #[] }, { accessFlags := 10, nameIndex := 17, descriptorIndex := 12, attributes := #[] }] 49 2 #[] #[])
  fields := #[]
  methods := #[k1m0, k1m1, k1m2]
  instanceTypes := #[]
  staticTypes := #[]
  resolved := Array.replicate 38 none
  statics := none }

def pool2 : Array CpInfo := pool [(1, .class_ 2), (0, u "java/lang/constant/Constable"), (0, .class_ 4), (0, u "java/lang/Object")] 6

/-- java/lang/constant/Constable -/
def k2 : Class := { plain "java/lang/constant/Constable" (some 0) with
  accessFlags := 1537
  interfaces := #[]
  cf := some (fileOf pool2 1 #[] #[] 1537 3 #[] #[])
  fields := #[]
  methods := #[]
  instanceTypes := #[]
  staticTypes := #[]
  resolved := Array.replicate 11 none
  statics := none }

def pool3 : Array CpInfo := pool [(1, .class_ 2), (0, u "java/lang/Comparable"), (0, .class_ 4), (0, u "java/lang/Object")] 7

/-- java/lang/Comparable -/
def k3 : Class := { plain "java/lang/Comparable" (some 0) with
  accessFlags := 1537
  interfaces := #[]
  cf := some (fileOf pool3 1 #[] #[] 1537 3 #[] #[])
  fields := #[]
  methods := #[]
  instanceTypes := #[]
  staticTypes := #[]
  resolved := Array.replicate 12 none
  statics := none }

def pool4 : Array CpInfo := pool [(1, .class_ 2), (0, u "java/io/Serializable"), (0, .class_ 4), (0, u "java/lang/Object")] 2

/-- java/io/Serializable -/
def k4 : Class := { plain "java/io/Serializable" (some 0) with
  accessFlags := 1537
  interfaces := #[]
  cf := some (fileOf pool4 1 #[] #[] 1537 3 #[] #[])
  fields := #[]
  methods := #[]
  instanceTypes := #[]
  staticTypes := #[]
  resolved := Array.replicate 7 none
  statics := none }

def pool5 : Array CpInfo := pool [(2, .class_ 4), (1, u "java/lang/Enum"), (0, u "name"), (0, u "Ljava/lang/String;"), (2, u "ordinal"), (0, u "I"), (1, .class_ 14), (1, u "java/lang/Object"), (4, u "hash"), (86, .class_ 108), (1, u "java/lang/Enum$EnumDesc"), (2, .class_ 112), (0, u "java/lang/constant/Constable"), (0, .class_ 114), (0, u "java/lang/Comparable"), (0, .class_ 116), (0, u "java/io/Serializable")] 87

/-- java/lang/Enum -/
def k5 : Class := { plain "java/lang/Enum" (some 0) with
  accessFlags := 1057
  interfaces := #[2, 3, 4]
  cf := some (fileOf pool5 2 #[.nestMembers #[106]] #[] 1057 12 #[111, 113, 115] #[{ accessFlags := 18, nameIndex := 5, descriptorIndex := 6, attributes := #[] }, { accessFlags := 18, nameIndex := 9, descriptorIndex := 10, attributes := #[] }, { accessFlags := 2, nameIndex := 19, descriptorIndex := 10, attributes := #[] }])
  fields := #[{ name := "name", type := (.object "java/lang/String"), accessFlags := 18, slot := 0, constantValue := 0 }, { name := "ordinal", type := .int, accessFlags := 18, slot := 1, constantValue := 0 }, { name := "hash", type := .int, accessFlags := 2, slot := 2, constantValue := 0 }]
  methods := #[]
  instanceTypes := #[(.object "java/lang/String"), .int, .int]
  staticTypes := #[]
  resolved := Array.replicate 204 none
  statics := none }

def pool6 : Array CpInfo := pool [(1, .class_ 2), (0, u "com/example/variantic/variantic/rules/ArithmeticOperator"), (2, u "ADD"), (0, u "Lcom/example/variantic/variantic/rules/ArithmeticOperator;"), (2, u "SUBTRACT"), (2, u "MULTIPLY"), (2, u "DIVIDE"), (0, .fieldref 1 17), (0, .nameAndType 18 19), (0, u "$VALUES"), (0, u "[Lcom/example/variantic/variantic/rules/ArithmeticOperator;"), (0, .methodref 21 22), (0, .class_ 19), (0, .nameAndType 23 24), (0, u "clone"), (0, u "()Ljava/lang/Object;"), (1, .class_ 28), (1, u "java/lang/Enum"), (6, .fieldref 1 36), (0, .nameAndType 37 38), (0, u "symbol"), (0, u "C"), (2, u "multiplicative"), (0, u "Z"), (0, .methodref 1 44), (0, .nameAndType 45 46), (0, u "values"), (0, u "()[Lcom/example/variantic/variantic/rules/ArithmeticOperator;"), (42, u "withSymbol"), (0, u "(C)Lcom/example/variantic/variantic/rules/ArithmeticOperator;")] 8

def k6c0 : Code := { maxStack := 1, maxLocals := 0, code := prog_11_method_1_code, exceptionTable := #[], attributes := #[] }
def k6m0 : Method := { name := "values", desc := "()[Lcom/example/variantic/variantic/rules/ArithmeticOperator;", sig := { parameters := [], returnType := some (.array (.object "com/example/variantic/variantic/rules/ArithmeticOperator")) }, accessFlags := 9, code := some k6c0 }
def k6c1 : Code := { maxStack := 2, maxLocals := 5, code := prog_11_method_5_code, exceptionTable := #[], attributes := #[] }
def k6m1 : Method := { name := "withSymbol", desc := "(C)Lcom/example/variantic/variantic/rules/ArithmeticOperator;", sig := { parameters := [.char], returnType := some (.object "com/example/variantic/variantic/rules/ArithmeticOperator") }, accessFlags := 8, code := some k6c1 }
/-- com/example/variantic/variantic/rules/ArithmeticOperator -/
def k6 : Class := { plain "com/example/variantic/variantic/rules/ArithmeticOperator" (some 5) with
  accessFlags := 16433
  interfaces := #[]
  cf := some (fileOf pool6 1 #[] #[{ accessFlags := 9, nameIndex := 45, descriptorIndex := 46, attributes := #[] }, { accessFlags := 8, nameIndex := 89, descriptorIndex := 90, attributes := #[] }] 16433 26 #[] #[{ accessFlags := 16409, nameIndex := 5, descriptorIndex := 6, attributes := #[] }, { accessFlags := 16409, nameIndex := 9, descriptorIndex := 6, attributes := #[] }, { accessFlags := 16409, nameIndex := 12, descriptorIndex := 6, attributes := #[] }, { accessFlags := 16409, nameIndex := 15, descriptorIndex := 6, attributes := #[] }, { accessFlags := 18, nameIndex := 37, descriptorIndex := 38, attributes := #[] }, { accessFlags := 18, nameIndex := 41, descriptorIndex := 42, attributes := #[] }, { accessFlags := 4122, nameIndex := 18, descriptorIndex := 19, attributes := #[] }])
  fields := #[{ name := "ADD", type := (.object "com/example/variantic/variantic/rules/ArithmeticOperator"), accessFlags := 16409, slot := 0, constantValue := 0 }, { name := "SUBTRACT", type := (.object "com/example/variantic/variantic/rules/ArithmeticOperator"), accessFlags := 16409, slot := 1, constantValue := 0 }, { name := "MULTIPLY", type := (.object "com/example/variantic/variantic/rules/ArithmeticOperator"), accessFlags := 16409, slot := 2, constantValue := 0 }, { name := "DIVIDE", type := (.object "com/example/variantic/variantic/rules/ArithmeticOperator"), accessFlags := 16409, slot := 3, constantValue := 0 }, { name := "symbol", type := .char, accessFlags := 18, slot := 3, constantValue := 0 }, { name := "multiplicative", type := .boolean, accessFlags := 18, slot := 4, constantValue := 0 }, { name := "$VALUES", type := (.array (.object "com/example/variantic/variantic/rules/ArithmeticOperator")), accessFlags := 4122, slot := 4, constantValue := 0 }]
  methods := #[k6m0, k6m1]
  instanceTypes := #[(.object "java/lang/String"), .int, .int, .char, .boolean]
  staticTypes := #[(.object "com/example/variantic/variantic/rules/ArithmeticOperator"), (.object "com/example/variantic/variantic/rules/ArithmeticOperator"), (.object "com/example/variantic/variantic/rules/ArithmeticOperator"), (.object "com/example/variantic/variantic/rules/ArithmeticOperator"), (.array (.object "com/example/variantic/variantic/rules/ArithmeticOperator"))]
  resolved := Array.replicate 99 none
  statics := some 0 }

def pool7 : Array CpInfo := pool [(1, .class_ 2), (0, u "java/lang/Cloneable"), (0, .class_ 4), (0, u "java/lang/Object")] 2

/-- java/lang/Cloneable -/
def k7 : Class := { plain "java/lang/Cloneable" (some 0) with
  accessFlags := 1537
  interfaces := #[]
  cf := some (fileOf pool7 1 #[] #[] 1537 3 #[] #[])
  fields := #[]
  methods := #[]
  instanceTypes := #[]
  staticTypes := #[]
  resolved := Array.replicate 7 none
  statics := none }

/-- the primitive byte -/
def k8 : Class := { plain "byte" none with kind := .primitive 'B', accessFlags := 0x411 }
/-- [B -/
def k9 : Class := { plain "[B" (some 0) with kind := .array 8 .byte, interfaces := #[7, 4], accessFlags := 1041 }

/-- the primitive int -/
def k10 : Class := { plain "int" none with kind := .primitive 'I', accessFlags := 0x411 }
/-- [I -/
def k11 : Class := { plain "[I" (some 0) with kind := .array 10 .int, interfaces := #[7, 4], accessFlags := 1041 }

/-- [Lcom/example/variantic/variantic/rules/ArithmeticOperator; -/
def k12 : Class := { plain "[Lcom/example/variantic/variantic/rules/ArithmeticOperator;" (some 0) with kind := .array 6 (.object "com/example/variantic/variantic/rules/ArithmeticOperator"), interfaces := #[7, 4], accessFlags := 1041 }

def heap : Heap := #[{ cls := 6, slots := #[.ref 2, .ref 3, .ref 4, .ref 5, .ref 1], vm := .statics 6 },
  { cls := 12, slots := #[.ref 2, .ref 3, .ref 4, .ref 5], vm := .none },
  { cls := 6, slots := #[.null, .int 0, .int 0, .int 43, .int 0], vm := .none },
  { cls := 6, slots := #[.null, .int 1, .int 0, .int 45, .int 0], vm := .none },
  { cls := 6, slots := #[.null, .int 2, .int 0, .int 42, .int 0], vm := .none },
  { cls := 6, slots := #[.null, .int 3, .int 0, .int 47, .int 0], vm := .none }]
def classes : Array Class := #[k0, k1, k2, k3, k4, k5, k6, k7, k8, k9, k10, k11, k12]
def interned : List (Array UInt16 × Addr) := []
def slotsUsed : Nat := 29
def theMethod : MethodId := ⟨1, 1⟩
def args0 : Array Value := #[.int 45, .int 3]
def aboutOver (below : List Frame) : State where
  vm := { classes := classes, interned := interned.toArray }
  heap := heap
  slotsUsed := slotsUsed
  threads := #[{ frames := .invoking theMethod args0 :: below }]
def below0 : List Frame := [.native { method := ⟨0, 0⟩, args := #[] }]
def about1 : State := aboutOver below0
def p0 : Program := .bare "" "" ""
def e0 : Env := launch0.env 0 0 0
theorem w_frames : about1.frames = Frame.invoking theMethod args0 :: below0 := rfl
set_option maxRecDepth 65536 in
theorem w_args : argsFit about1.vm theMethod args0 = true := by decide +kernel
set_option maxRecDepth 65536 in
theorem w_heap : heapFits about1 = true := by decide +kernel
set_option maxRecDepth 65536 in
theorem w_runnable : about1.curStatus? = some .runnable := by decide +kernel
set_option maxRecDepth 65536 in
theorem w_alone : about1.alone = true := by decide +kernel
set_option maxRecDepth 65536 in
theorem w_named : about1.methodNamed? x = some theMethod := by decide +kernel
set_option maxRecDepth 65536 in
theorem w_hears : about1.hears theMethod below0 = true := by decide +kernel
set_option maxRecDepth 65536 in
theorem w_ripe : about1.ripe theMethod args0 below0 = true := by decide +kernel
theorem w_running : about1.status = .running := rfl
set_option maxRecDepth 65536 in
theorem w_room : about1.hasRoom e0.platform room_1 = true :=
  launch0.hasRoom_least _ room_1 (by decide +kernel) (by decide +kernel) (by decide +kernel) (by decide +kernel) (by decide +kernel) (by decide +kernel)
theorem allAtoms_all (ts : List Jvm.Cond) (a : Array Jvm.Value) (st : Jvm.State) : (allAtoms ts).before a st = ts.all (fun c => c.before a st) := by
  induction ts with
  | nil => rfl
  | cons c t ih =>
    show (Jvm.Cond.and c (allAtoms t)).before a st = _
    rw [Jvm.Cond.before_and, ih, List.all_cons]
def words1 : List Jvm.Cond := Jvm.Cond.code x code maxLocals ret :: tables_1
/-- a 'code' word, met by the world's own term for the bytes: nothing is compared byte by byte -/
theorem code_word {y : MethodName} {bytes : ByteArray} {mx : Nat} {rt : Option FieldType} {a : Array Value} {s : State} {m : MethodId} {meth : Method} {c : Code} (h1 : s.methodNamed? y = some m) (h2 : s.vm.method? m = some meth) (h3 : meth.code = some c) (h4 : c.code = bytes)
    (h5 : (c.maxLocals == mx && c.exceptionTable.isEmpty && decide (c.maxStack ≤ mostOperands) && decide (meth.sig.returnType = rt) && !meth.locks && decide (parseMethodDescriptor y.desc = some meth.sig)) = true) : (Jvm.Cond.code y bytes mx rt).before a s = true := by
  simp only [Bool.and_eq_true, beq_iff_eq, Bool.not_eq_true', decide_eq_true_eq] at h5
  obtain ⟨⟨⟨⟨⟨g1, g2⟩, g3⟩, g4⟩, g5⟩, g6⟩ := h5
  simp [Cond.before, Cond.holds, Cond.value, h1, h2, h3, h4, g1, g2, g3, g4, g5, g6]
def isCode : Jvm.Cond → Bool
  | .code _ _ _ _ => true
  | _ => false
theorem all_split {L : List Jvm.Cond} {P : Jvm.Cond → Bool} (h1 : L.all (fun c => isCode c || P c) = true) (h2 : ∀ c ∈ L.filter isCode, P c = true) : L.all P = true := by
  refine List.all_eq_true.mpr fun c hc => ?_
  have h := List.all_eq_true.mp h1 c hc
  rcases Bool.eq_false_or_eq_true (isCode c) with hi | hi
  · exact h2 c (List.mem_filter.mpr ⟨hc, hi⟩)
  · simpa [hi] using h
set_option maxRecDepth 65536 in
theorem w_c0 : (Jvm.Cond.code x code maxLocals ret).before args0 about1 = true := code_word (m := ⟨1, 1⟩) (meth := k1m1) (c := k1c1) (by decide +kernel) rfl rfl rfl (by decide +kernel)
set_option maxRecDepth 65536 in
theorem w_c1 : (Jvm.Cond.code ({ cls := "com/example/variantic/variantic/rules/ArithmeticOperator", name := "withSymbol", desc := "(C)Lcom/example/variantic/variantic/rules/ArithmeticOperator;" } : Jvm.MethodName) prog_11_method_5_code (5 : Nat) (Option.some (Jvm.ClassFile.FieldType.object "com/example/variantic/variantic/rules/ArithmeticOperator"))).before args0 about1 = true := code_word (m := ⟨6, 1⟩) (meth := k6m1) (c := k6c1) (by decide +kernel) rfl rfl rfl (by decide +kernel)
set_option maxRecDepth 65536 in
theorem w_c2 : (Jvm.Cond.code ({ cls := "com/example/variantic/variantic/rules/ArithmeticOperator", name := "values", desc := "()[Lcom/example/variantic/variantic/rules/ArithmeticOperator;" } : Jvm.MethodName) prog_11_method_1_code (0 : Nat) (Option.some (Jvm.ClassFile.FieldType.array (Jvm.ClassFile.FieldType.object "com/example/variantic/variantic/rules/ArithmeticOperator")))).before args0 about1 = true := code_word (m := ⟨6, 0⟩) (meth := k6m0) (c := k6c0) (by decide +kernel) rfl rfl rfl (by decide +kernel)
set_option maxRecDepth 65536 in
theorem w_c3 : (Jvm.Cond.code ({ cls := "com/example/variantic/variantic/rules/ArithmeticOperatorWithSymbolPinLaw", name := "expected", desc := "(C)Lcom/example/variantic/variantic/rules/ArithmeticOperator;" } : Jvm.MethodName) method_3_code (1 : Nat) (Option.some (Jvm.ClassFile.FieldType.object "com/example/variantic/variantic/rules/ArithmeticOperator"))).before args0 about1 = true := code_word (m := ⟨1, 2⟩) (meth := k1m2) (c := k1c2) (by decide +kernel) rfl rfl rfl (by decide +kernel)
def codes1 : List Jvm.Cond := [Jvm.Cond.code x code maxLocals ret, Jvm.Cond.code ({ cls := "com/example/variantic/variantic/rules/ArithmeticOperator", name := "withSymbol", desc := "(C)Lcom/example/variantic/variantic/rules/ArithmeticOperator;" } : Jvm.MethodName) prog_11_method_5_code (5 : Nat) (Option.some (Jvm.ClassFile.FieldType.object "com/example/variantic/variantic/rules/ArithmeticOperator")), Jvm.Cond.code ({ cls := "com/example/variantic/variantic/rules/ArithmeticOperator", name := "values", desc := "()[Lcom/example/variantic/variantic/rules/ArithmeticOperator;" } : Jvm.MethodName) prog_11_method_1_code (0 : Nat) (Option.some (Jvm.ClassFile.FieldType.array (Jvm.ClassFile.FieldType.object "com/example/variantic/variantic/rules/ArithmeticOperator"))), Jvm.Cond.code ({ cls := "com/example/variantic/variantic/rules/ArithmeticOperatorWithSymbolPinLaw", name := "expected", desc := "(C)Lcom/example/variantic/variantic/rules/ArithmeticOperator;" } : Jvm.MethodName) method_3_code (1 : Nat) (Option.some (Jvm.ClassFile.FieldType.object "com/example/variantic/variantic/rules/ArithmeticOperator"))]
set_option maxRecDepth 65536 in
theorem codes_eq : words1.filter isCode = codes1 := rfl
theorem w_codes : ∀ c ∈ words1.filter isCode, c.before args0 about1 = true := by
  rw [codes_eq]
  intro c hc
  simp only [codes1, List.mem_cons, List.not_mem_nil, or_false] at hc
  rcases hc with rfl | rfl | rfl | rfl
  · exact w_c0
  · exact w_c1
  · exact w_c2
  · exact w_c3
set_option maxRecDepth 65536 in
theorem w_t1 : (words1.take 24).all (fun c => isCode c || c.before args0 about1) = true := by decide +kernel
set_option maxRecDepth 65536 in
theorem w_t2 : (words1.drop 24).all (fun c => isCode c || c.before args0 about1) = true := by decide +kernel
theorem w_tables : (allAtoms (Jvm.Cond.code x code maxLocals ret :: tables_1)).before args0 about1 = true := by
  rw [allAtoms_all]
  show words1.all (fun c => c.before args0 about1) = true
  refine all_split ?_ w_codes
  rw [← List.take_append_drop 24 words1, List.all_append, w_t1, w_t2]
  rfl
set_option maxRecDepth 65536 in
theorem w_case : (Jvm.Cond.and given_1 narrow_1).before args0 about1 = true := by decide +kernel
theorem w_applies : (headSpec (Jvm.Cond.code x code maxLocals ret :: tables_1) room_1).applies x e0.platform about1 = true :=
  (Spec.applies_iff w_frames).mpr ⟨w_running, w_runnable, w_alone, w_named, w_hears, w_ripe, w_room, w_tables⟩
theorem atStart : AtStart classFile x code maxLocals ret World_1 tables_1 room_1 Calls_1 rest_1 Pre_1 launch0 p0 e0 about1 theMethod args0 below0 :=
  ⟨lists_1, trivial, launch0.admits_env _ _ _, launch0.least_env, fairChoices_fair.cas, fairChoices_fair.clock, w_frames, w_args, w_heap, w_applies, trivial, trivial, w_case⟩
end start1
theorem witness_1 : WitnessClaimed_1 := ⟨start1.p0, start1.e0, start1.about1, start1.theMethod, start1.args0, start1.below0, start1.atStart⟩
end Jvm.Pilot.@@N@@
