import JvmDerived
import JvmDerived.Pilot.@@N@@Statement
import JvmDerived.Pilot.@@N@@Code
set_option linter.unusedVariables false
set_option linter.unusedSimpArgs false
namespace Jvm.RoadKit
open Sem ClassFile Op Lib Jvm.Stand Jvm.Free Jvm.LawKit
section New
variable {p : Program} {l : Launch} {e : Env} {R : Room} {s : State} {m : MethodId} {args : Array Value} {below : List Frame} {meth : Method} {c : Code} {T : State} {locs : List Loc} {cells slots : Nat}
theorem retI (X : Stand p l e R s m args below meth c T locs cells slots) (hx : p.tables.exec = Jvm.exec) {pc : Nat} {Ls : Array Slot} {z : Int32} {rest : List Value} (hret : meth.sig.returnType = some .int) (hd : decode c.code pc = .ok (.ireturn, 1)) {fs : List Frame}
    (hl : ∀ (f : JFrame) (acts : List Action), f.method = m → f.locked = none → f.entered = [] → (doReturn e (T.setTop f) acts (some (.int z))).1 = T.setFrames fs) : Steps p.tables e below (T.setTop (mkF m pc Ls (.int z :: rest))) (T.setFrames fs) := by
  have hm' : T.vm.method? m = some meth := X.method'
  have hn : narrow .int (.int z) = .int z := rfl
  show Steps p.tables e below (T.setTop { method := m, pc := pc, locals := Ls, stack := _ :: rest, locked := none }) _
  jvm_step X.here [X.here.top, hx, hd, hm', hret, hn]
  first | (intro acts; rw [hl _ acts rfl rfl rfl]) | rw [hl _ _ rfl rfl rfl]
  exact Steps.refl _
end New
end Jvm.RoadKit
namespace Jvm.Pilot.@@N@@
open Jvm Jvm.ClassFile Sem Op Lib Jvm.Free Jvm.Stand Jvm.LawKit Jvm.RoadKit Bundle Jvm.Pilot.@@N@@.Jvm.D

theorem d1_0 : decode prog_31_method_9_code 0 = .ok (.lload_n 1, 1) := by decide +kernel
theorem d1_1 : decode prog_31_method_9_code 1 = .ok (.lstore_n 3, 1) := by decide +kernel
theorem d1_2 : decode prog_31_method_9_code 2 = .ok (.aload_n 0, 1) := by decide +kernel
theorem d1_3 : decode prog_31_method_9_code 3 = .ok (.getfield 48, 3) := by decide +kernel
theorem d1_6 : decode prog_31_method_9_code 6 = .ok (.bipush 64, 2) := by decide +kernel
theorem d1_8 : decode prog_31_method_9_code 8 = .ok (.if_icmp .ge 50, 3) := by decide +kernel
theorem d1_11 : decode prog_31_method_9_code 11 = .ok (.lload_n 1, 1) := by decide +kernel
theorem d1_12 : decode prog_31_method_9_code 12 = .ok (.lconst 1, 1) := by decide +kernel
theorem d1_13 : decode prog_31_method_9_code 13 = .ok (.aload_n 0, 1) := by decide +kernel
theorem d1_14 : decode prog_31_method_9_code 14 = .ok (.getfield 48, 3) := by decide +kernel
theorem d1_17 : decode prog_31_method_9_code 17 = .ok (.lshl, 1) := by decide +kernel
theorem d1_18 : decode prog_31_method_9_code 18 = .ok (.lconst 1, 1) := by decide +kernel
theorem d1_19 : decode prog_31_method_9_code 19 = .ok (.lsub, 1) := by decide +kernel
theorem d1_20 : decode prog_31_method_9_code 20 = .ok (.land, 1) := by decide +kernel
theorem d1_21 : decode prog_31_method_9_code 21 = .ok (.lstore 5, 2) := by decide +kernel
theorem d1_23 : decode prog_31_method_9_code 23 = .ok (.aload_n 0, 1) := by decide +kernel
theorem d1_24 : decode prog_31_method_9_code 24 = .ok (.getfield 52, 3) := by decide +kernel
theorem d1_27 : decode prog_31_method_9_code 27 = .ok (.ifCond .eq 28, 3) := by decide +kernel
theorem d1_55 : decode prog_31_method_9_code 55 = .ok (.lload 5, 2) := by decide +kernel
theorem d1_57 : decode prog_31_method_9_code 57 = .ok (.lstore_n 3, 1) := by decide +kernel
theorem d1_58 : decode prog_31_method_9_code 58 = .ok (.lload_n 3, 1) := by decide +kernel
theorem d1_59 : decode prog_31_method_9_code 59 = .ok (.lreturn, 1) := by decide +kernel
theorem pn_1 : plainName "com/example/pathglass/pathglass/symbolic/InputType" = true := by first | (simp [plainName, overriddenIn]; done) | decide +kernel
theorem ef_1 (m : MethodId) (x0 : Addr) (x1 : Int64) : entryFrame m #[(.ref x0), (.long x1)] 7 = mkF m 0 #[.val (.ref x0), .val (.long x1), .second, .unset, .unset, .unset, .unset] [] := by first | (simp [entryFrame, mkF, argsToLocals, Value.category]; done) | rfl
def Q1_BOOLEAN (Z : State) (a1 : Addr) (q2 : Int64) (h0 : Heap) (n0 : Nat) (v : Option Value) (h : Heap) (L : List Loc) : Prop := v = some (.long (q2 &&& (((1 : Int64) <<< ((1 : Int32) &&& 0x3f).toInt64) - (1 : Int64)))) ∧ Fr n0 L ∧ h = h0
set_option maxRecDepth 65536 in
set_option maxHeartbeats 40000000 in
theorem rm1_BOOLEAN (l : Launch) (Z : State) (a0 : Array Value) (hw : ∀ d ∈ tables_1, d.before a0 Z = true) (ws : List Jvm.Cond) (a1 : Addr) (q2 : Int64) (h0 : Heap) (n0 : Nat) (Z0 : n0 ≤ h0.size) (F_bits_a1 : Fld Z h0 a1 "com/example/pathglass/pathglass/symbolic/InputType" "bits" "I" (.int (1 : Int32))) (F_signed_a1 : Fld Z h0 a1 "com/example/pathglass/pathglass/symbolic/InputType" "signed" "Z" (.int (0 : Int32))) :
    MetFree l (⟨"com/example/pathglass/pathglass/symbolic/InputType", "valueOf", "(J)J"⟩ : MethodName) (head1 (Jvm.Cond.code (⟨"com/example/pathglass/pathglass/symbolic/InputType", "valueOf", "(J)J"⟩ : MethodName) prog_31_method_9_code 7 (some .long) :: ws) ({ frames := 0, cells := 0, slots := 0, locals := 0 } : Room)) (fun a U => a = #[(.ref a1), (.long q2)] ∧ Z.Warmed39 U.vm ∧ U.heap = h0) (fun _ _ _ _ _ => True) (fun _ U o U' => ∃ v L, o = .returned v ∧ Q1_BOOLEAN Z a1 q2 h0 n0 v U'.heap L ∧ FrameEnd U o U' L ({ frames := 0, cells := 0, slots := 0, locals := 0 } : Room).cells ({ frames := 0, cells := 0, slots := 0, locals := 0 } : Room).slots) := by
  refine MetFree.of_bodySF (plainFor_of_name pn_1) hisR ?_
  intro p e s m args below meth c s₁ Bd hml0 hP hK
  obtain ⟨rfl, hZ, hh⟩ := hP
  have hx := Bd.exec
  have hby := Bd.bytes
  have hml : c.maxLocals = 7 := hml0
  have hown : s.vm.findClass "com/example/pathglass/pathglass/symbolic/InputType" = some m.cls := findClass_of_methodNamed Bd.named
  have hnm := (name_of_methodNamed Bd.named Bd.method).1
  have X0 : Stand p l e ({ frames := 0, cells := 0, slots := 0, locals := 0 } : Room) s m #[(.ref a1), (.long q2)] below meth c s₁ [] 0 0 := Stand.of_body Bd
  have e0 : s₁.heap = h0 := by rw [← hh, Bd.state]; rfl
  have N0 := Fr.nil n0
  have pre0 : ∀ t, Steps p.tables e below (s₁.setTop (mkF m 0 #[.val (.ref a1), .val (.long q2), .second, .unset, .unset, .unset, .unset] [])) t → Steps p.tables e below (s₁.setTop (entryFrame m #[(.ref a1), (.long q2)] 7)) t := fun t k => castTop (ef_1 m a1 q2) k
  -- 3. LAWS
  obtain ⟨T4, X4, e4, st4⟩ := getF X0 hx hZ hown (host := "") (Or.inl (hw _ (List.mem_of_getElem? (i := 9) rfl))) Via.refl e0 F_bits_a1 (g := (mkF m 3 #[.val (.ref a1), .val (.long q2), .second, .val (.long q2), .second, .unset, .unset] [(.ref a1)])) rfl rfl (hb hby d1_3)
  obtain ⟨T5, X5, e5, st5⟩ := getF X4 hx hZ hown (host := "") (Or.inl (hw _ (List.mem_of_getElem? (i := 9) rfl))) Via.refl e4 F_bits_a1 (g := (mkF m 14 #[.val (.ref a1), .val (.long q2), .second, .val (.long q2), .second, .unset, .unset] [(.ref a1), (.long (1 : Int64)), (.long q2)])) rfl rfl (hb hby d1_14)
  obtain ⟨T7, X7, e7, st7⟩ := getF X5 hx hZ hown (host := "") (Or.inl (hw _ (List.mem_of_getElem? (i := 11) rfl))) Via.refl e5 F_signed_a1 (g := (mkF m 24 #[.val (.ref a1), .val (.long q2), .second, .val (.long q2), .second, .val (.long (q2 &&& (((1 : Int64) <<< ((1 : Int32) &&& 0x3f).toInt64) - (1 : Int64)))), .second] [(.ref a1)])) rfl rfl (hb hby d1_24)
  obtain ⟨fs, hr, hrun, hended, hW, hsame⟩ := X7.leave (v := some (.long (q2 &&& (((1 : Int64) <<< ((1 : Int32) &&& 0x3f).toInt64) - (1 : Int64))))) (fun h => by rw [Bd.returns] at h; cases h)
  refine ⟨_, _, pre0 _ ?_, hrun, hended, _, _, rfl, ?_, ⟨_, rfl⟩, hW, hsame.mono (by decide) (by decide)⟩
  -- 4. STEPS
  · show Steps p.tables e below (s₁.setTop (mkF m 0 #[.val (.ref a1), .val (.long q2), .second, .unset, .unset, .unset, .unset] [])) _
    refine XS.lloadN X0.here hx rfl (hb hby d1_0) rfl ?_
    show Steps p.tables e below (s₁.setTop (mkF m 1 #[.val (.ref a1), .val (.long q2), .second, .unset, .unset, .unset, .unset] [(.long q2)])) _
    refine XS.lstoreN X0.here hx rfl (hb hby d1_1) rfl (l' := #[.val (.ref a1), .val (.long q2), .second, .val (.long q2), .second, .unset, .unset]) rfl ?_
    show Steps p.tables e below (s₁.setTop (mkF m 2 #[.val (.ref a1), .val (.long q2), .second, .val (.long q2), .second, .unset, .unset] [])) _
    refine XS.aloadN X0.here hx rfl (hb hby d1_2) rfl rfl ?_
    show Steps p.tables e below (s₁.setTop (mkF m 3 #[.val (.ref a1), .val (.long q2), .second, .val (.long q2), .second, .unset, .unset] [(.ref a1)])) _
    refine st4 _ ?_
    show Steps p.tables e below (T4.setTop (mkF m 6 #[.val (.ref a1), .val (.long q2), .second, .val (.long q2), .second, .unset, .unset] [(.int (1 : Int32))])) _
    refine XS.bipush X4.here hx rfl (hb hby d1_6) ?_
    show Steps p.tables e below (T4.setTop (mkF m 8 #[.val (.ref a1), .val (.long q2), .second, .val (.long q2), .second, .unset, .unset] [(.int (64 : Int32)), (.int (1 : Int32))])) _
    refine XS.icmpNo X4.here hx rfl (hb hby d1_8) rfl (tlt (by decide : (1 : Int32) < (64 : Int32))).2.1 ?_
    show Steps p.tables e below (T4.setTop (mkF m 11 #[.val (.ref a1), .val (.long q2), .second, .val (.long q2), .second, .unset, .unset] [])) _
    refine XS.lloadN X4.here hx rfl (hb hby d1_11) rfl ?_
    show Steps p.tables e below (T4.setTop (mkF m 12 #[.val (.ref a1), .val (.long q2), .second, .val (.long q2), .second, .unset, .unset] [(.long q2)])) _
    refine XS.lconst X4.here hx rfl (hb hby d1_12) ?_
    show Steps p.tables e below (T4.setTop (mkF m 13 #[.val (.ref a1), .val (.long q2), .second, .val (.long q2), .second, .unset, .unset] [(.long (1 : Int64)), (.long q2)])) _
    refine XS.aloadN X4.here hx rfl (hb hby d1_13) rfl rfl ?_
    show Steps p.tables e below (T4.setTop (mkF m 14 #[.val (.ref a1), .val (.long q2), .second, .val (.long q2), .second, .unset, .unset] [(.ref a1), (.long (1 : Int64)), (.long q2)])) _
    refine st5 _ ?_
    show Steps p.tables e below (T5.setTop (mkF m 17 #[.val (.ref a1), .val (.long q2), .second, .val (.long q2), .second, .unset, .unset] [(.int (1 : Int32)), (.long (1 : Int64)), (.long q2)])) _
    refine XS.lshl X5.here hx rfl (hb hby d1_17) rfl ?_
    show Steps p.tables e below (T5.setTop (mkF m 18 #[.val (.ref a1), .val (.long q2), .second, .val (.long q2), .second, .unset, .unset] [(.long ((1 : Int64) <<< ((1 : Int32) &&& 0x3f).toInt64)), (.long q2)])) _
    refine XS.lconst X5.here hx rfl (hb hby d1_18) ?_
    show Steps p.tables e below (T5.setTop (mkF m 19 #[.val (.ref a1), .val (.long q2), .second, .val (.long q2), .second, .unset, .unset] [(.long (1 : Int64)), (.long ((1 : Int64) <<< ((1 : Int32) &&& 0x3f).toInt64)), (.long q2)])) _
    refine XS.lsub X5.here hx rfl (hb hby d1_19) rfl ?_
    show Steps p.tables e below (T5.setTop (mkF m 20 #[.val (.ref a1), .val (.long q2), .second, .val (.long q2), .second, .unset, .unset] [(.long (((1 : Int64) <<< ((1 : Int32) &&& 0x3f).toInt64) - (1 : Int64))), (.long q2)])) _
    refine XS.land X5.here hx rfl (hb hby d1_20) rfl ?_
    show Steps p.tables e below (T5.setTop (mkF m 21 #[.val (.ref a1), .val (.long q2), .second, .val (.long q2), .second, .unset, .unset] [(.long (q2 &&& (((1 : Int64) <<< ((1 : Int32) &&& 0x3f).toInt64) - (1 : Int64))))])) _
    refine XS.lstore X5.here hx rfl (hb hby d1_21) rfl (l' := #[.val (.ref a1), .val (.long q2), .second, .val (.long q2), .second, .val (.long (q2 &&& (((1 : Int64) <<< ((1 : Int32) &&& 0x3f).toInt64) - (1 : Int64)))), .second]) rfl ?_
    show Steps p.tables e below (T5.setTop (mkF m 23 #[.val (.ref a1), .val (.long q2), .second, .val (.long q2), .second, .val (.long (q2 &&& (((1 : Int64) <<< ((1 : Int32) &&& 0x3f).toInt64) - (1 : Int64)))), .second] [])) _
    refine XS.aloadN X5.here hx rfl (hb hby d1_23) rfl rfl ?_
    show Steps p.tables e below (T5.setTop (mkF m 24 #[.val (.ref a1), .val (.long q2), .second, .val (.long q2), .second, .val (.long (q2 &&& (((1 : Int64) <<< ((1 : Int32) &&& 0x3f).toInt64) - (1 : Int64)))), .second] [(.ref a1)])) _
    refine st7 _ ?_
    show Steps p.tables e below (T7.setTop (mkF m 27 #[.val (.ref a1), .val (.long q2), .second, .val (.long q2), .second, .val (.long (q2 &&& (((1 : Int64) <<< ((1 : Int32) &&& 0x3f).toInt64) - (1 : Int64)))), .second] [(.int (0 : Int32))])) _
    refine XS.ifYes X7.here hx rfl (pc0 := 27) (pc' := 55) rfl (hb hby d1_27) rfl ((if0 _ _).trans (teq (rfl : (0 : Int32) = (0 : Int32))).1) (by decide) (by decide) ?_
    show Steps p.tables e below (T7.setTop (mkF m 55 #[.val (.ref a1), .val (.long q2), .second, .val (.long q2), .second, .val (.long (q2 &&& (((1 : Int64) <<< ((1 : Int32) &&& 0x3f).toInt64) - (1 : Int64)))), .second] [])) _
    refine XS.lload X7.here hx rfl (hb hby d1_55) rfl ?_
    show Steps p.tables e below (T7.setTop (mkF m 57 #[.val (.ref a1), .val (.long q2), .second, .val (.long q2), .second, .val (.long (q2 &&& (((1 : Int64) <<< ((1 : Int32) &&& 0x3f).toInt64) - (1 : Int64)))), .second] [(.long (q2 &&& (((1 : Int64) <<< ((1 : Int32) &&& 0x3f).toInt64) - (1 : Int64))))])) _
    refine XS.lstoreN X7.here hx rfl (hb hby d1_57) rfl (l' := #[.val (.ref a1), .val (.long q2), .second, .val (.long (q2 &&& (((1 : Int64) <<< ((1 : Int32) &&& 0x3f).toInt64) - (1 : Int64)))), .second, .val (.long (q2 &&& (((1 : Int64) <<< ((1 : Int32) &&& 0x3f).toInt64) - (1 : Int64)))), .second]) rfl ?_
    show Steps p.tables e below (T7.setTop (mkF m 58 #[.val (.ref a1), .val (.long q2), .second, .val (.long (q2 &&& (((1 : Int64) <<< ((1 : Int32) &&& 0x3f).toInt64) - (1 : Int64)))), .second, .val (.long (q2 &&& (((1 : Int64) <<< ((1 : Int32) &&& 0x3f).toInt64) - (1 : Int64)))), .second] [])) _
    refine XS.lloadN X7.here hx rfl (hb hby d1_58) rfl ?_
    show Steps p.tables e below (T7.setTop (mkF m 59 #[.val (.ref a1), .val (.long q2), .second, .val (.long (q2 &&& (((1 : Int64) <<< ((1 : Int32) &&& 0x3f).toInt64) - (1 : Int64)))), .second, .val (.long (q2 &&& (((1 : Int64) <<< ((1 : Int32) &&& 0x3f).toInt64) - (1 : Int64)))), .second] [(.long (q2 &&& (((1 : Int64) <<< ((1 : Int32) &&& 0x3f).toInt64) - (1 : Int64))))])) _
    exact retOut X7 hx (t := .long) Bd.returns rfl (Or.inr (Or.inl ⟨rfl, rfl, _, rfl⟩)) (hb hby d1_59) hr
  · show Q1_BOOLEAN Z a1 q2 h0 n0 _ T7.heap _
    rw [e7]
    exact ⟨rfl, N0, rfl⟩

theorem d1_30 : decode prog_31_method_9_code 30 = .ok (.lload 5, 2) := by decide +kernel
theorem d1_32 : decode prog_31_method_9_code 32 = .ok (.aload_n 0, 1) := by decide +kernel
theorem d1_33 : decode prog_31_method_9_code 33 = .ok (.getfield 48, 3) := by decide +kernel
theorem d1_36 : decode prog_31_method_9_code 36 = .ok (.iconst 1, 1) := by decide +kernel
theorem d1_37 : decode prog_31_method_9_code 37 = .ok (.isub, 1) := by decide +kernel
theorem d1_38 : decode prog_31_method_9_code 38 = .ok (.lushr, 1) := by decide +kernel
theorem d1_39 : decode prog_31_method_9_code 39 = .ok (.lconst 0, 1) := by decide +kernel
theorem d1_40 : decode prog_31_method_9_code 40 = .ok (.lcmp, 1) := by decide +kernel
theorem d1_41 : decode prog_31_method_9_code 41 = .ok (.ifCond .eq 14, 3) := by decide +kernel
def Q1_BYTE_p (Z : State) (a1 : Addr) (q2 : Int64) (h0 : Heap) (n0 : Nat) (v : Option Value) (h : Heap) (L : List Loc) : Prop := v = some (.long (q2 &&& (((1 : Int64) <<< ((8 : Int32) &&& 0x3f).toInt64) - (1 : Int64)))) ∧ Fr n0 L ∧ h = h0
set_option maxRecDepth 65536 in
set_option maxHeartbeats 40000000 in
theorem rm1_BYTE_p (l : Launch) (Z : State) (a0 : Array Value) (hw : ∀ d ∈ tables_1, d.before a0 Z = true) (ws : List Jvm.Cond) (a1 : Addr) (q2 : Int64) (h0 : Heap) (n0 : Nat) (Z0 : n0 ≤ h0.size) (F_bits_a1 : Fld Z h0 a1 "com/example/pathglass/pathglass/symbolic/InputType" "bits" "I" (.int (8 : Int32))) (F_signed_a1 : Fld Z h0 a1 "com/example/pathglass/pathglass/symbolic/InputType" "signed" "Z" (.int (1 : Int32))) (hc41 : (lcmpW (((q2 &&& (((1 : Int64) <<< ((8 : Int32) &&& 0x3f).toInt64) - (1 : Int64))).toUInt64 >>> (((8 : Int32) - (1 : Int32)) &&& 0x3f).toInt64.toUInt64).toInt64) (0 : Int64)) = (0 : Int32)) :
    MetFree l (⟨"com/example/pathglass/pathglass/symbolic/InputType", "valueOf", "(J)J"⟩ : MethodName) (head1 (Jvm.Cond.code (⟨"com/example/pathglass/pathglass/symbolic/InputType", "valueOf", "(J)J"⟩ : MethodName) prog_31_method_9_code 7 (some .long) :: ws) ({ frames := 0, cells := 0, slots := 0, locals := 0 } : Room)) (fun a U => a = #[(.ref a1), (.long q2)] ∧ Z.Warmed39 U.vm ∧ U.heap = h0) (fun _ _ _ _ _ => True) (fun _ U o U' => ∃ v L, o = .returned v ∧ Q1_BYTE_p Z a1 q2 h0 n0 v U'.heap L ∧ FrameEnd U o U' L ({ frames := 0, cells := 0, slots := 0, locals := 0 } : Room).cells ({ frames := 0, cells := 0, slots := 0, locals := 0 } : Room).slots) := by
  refine MetFree.of_bodySF (plainFor_of_name pn_1) hisR ?_
  intro p e s m args below meth c s₁ Bd hml0 hP hK
  obtain ⟨rfl, hZ, hh⟩ := hP
  have hx := Bd.exec
  have hby := Bd.bytes
  have hml : c.maxLocals = 7 := hml0
  have hown : s.vm.findClass "com/example/pathglass/pathglass/symbolic/InputType" = some m.cls := findClass_of_methodNamed Bd.named
  have hnm := (name_of_methodNamed Bd.named Bd.method).1
  have X0 : Stand p l e ({ frames := 0, cells := 0, slots := 0, locals := 0 } : Room) s m #[(.ref a1), (.long q2)] below meth c s₁ [] 0 0 := Stand.of_body Bd
  have e0 : s₁.heap = h0 := by rw [← hh, Bd.state]; rfl
  have N0 := Fr.nil n0
  have pre0 : ∀ t, Steps p.tables e below (s₁.setTop (mkF m 0 #[.val (.ref a1), .val (.long q2), .second, .unset, .unset, .unset, .unset] [])) t → Steps p.tables e below (s₁.setTop (entryFrame m #[(.ref a1), (.long q2)] 7)) t := fun t k => castTop (ef_1 m a1 q2) k
  -- 3. LAWS
  obtain ⟨T4, X4, e4, st4⟩ := getF X0 hx hZ hown (host := "") (Or.inl (hw _ (List.mem_of_getElem? (i := 9) rfl))) Via.refl e0 F_bits_a1 (g := (mkF m 3 #[.val (.ref a1), .val (.long q2), .second, .val (.long q2), .second, .unset, .unset] [(.ref a1)])) rfl rfl (hb hby d1_3)
  obtain ⟨T5, X5, e5, st5⟩ := getF X4 hx hZ hown (host := "") (Or.inl (hw _ (List.mem_of_getElem? (i := 9) rfl))) Via.refl e4 F_bits_a1 (g := (mkF m 14 #[.val (.ref a1), .val (.long q2), .second, .val (.long q2), .second, .unset, .unset] [(.ref a1), (.long (1 : Int64)), (.long q2)])) rfl rfl (hb hby d1_14)
  obtain ⟨T7, X7, e7, st7⟩ := getF X5 hx hZ hown (host := "") (Or.inl (hw _ (List.mem_of_getElem? (i := 11) rfl))) Via.refl e5 F_signed_a1 (g := (mkF m 24 #[.val (.ref a1), .val (.long q2), .second, .val (.long q2), .second, .val (.long (q2 &&& (((1 : Int64) <<< ((8 : Int32) &&& 0x3f).toInt64) - (1 : Int64)))), .second] [(.ref a1)])) rfl rfl (hb hby d1_24)
  obtain ⟨T8, X8, e8, st8⟩ := getF X7 hx hZ hown (host := "") (Or.inl (hw _ (List.mem_of_getElem? (i := 9) rfl))) Via.refl e7 F_bits_a1 (g := (mkF m 33 #[.val (.ref a1), .val (.long q2), .second, .val (.long q2), .second, .val (.long (q2 &&& (((1 : Int64) <<< ((8 : Int32) &&& 0x3f).toInt64) - (1 : Int64)))), .second] [(.ref a1), (.long (q2 &&& (((1 : Int64) <<< ((8 : Int32) &&& 0x3f).toInt64) - (1 : Int64))))])) rfl rfl (hb hby d1_33)
  obtain ⟨fs, hr, hrun, hended, hW, hsame⟩ := X8.leave (v := some (.long (q2 &&& (((1 : Int64) <<< ((8 : Int32) &&& 0x3f).toInt64) - (1 : Int64))))) (fun h => by rw [Bd.returns] at h; cases h)
  refine ⟨_, _, pre0 _ ?_, hrun, hended, _, _, rfl, ?_, ⟨_, rfl⟩, hW, hsame.mono (by decide) (by decide)⟩
  -- 4. STEPS
  · show Steps p.tables e below (s₁.setTop (mkF m 0 #[.val (.ref a1), .val (.long q2), .second, .unset, .unset, .unset, .unset] [])) _
    refine XS.lloadN X0.here hx rfl (hb hby d1_0) rfl ?_
    show Steps p.tables e below (s₁.setTop (mkF m 1 #[.val (.ref a1), .val (.long q2), .second, .unset, .unset, .unset, .unset] [(.long q2)])) _
    refine XS.lstoreN X0.here hx rfl (hb hby d1_1) rfl (l' := #[.val (.ref a1), .val (.long q2), .second, .val (.long q2), .second, .unset, .unset]) rfl ?_
    show Steps p.tables e below (s₁.setTop (mkF m 2 #[.val (.ref a1), .val (.long q2), .second, .val (.long q2), .second, .unset, .unset] [])) _
    refine XS.aloadN X0.here hx rfl (hb hby d1_2) rfl rfl ?_
    show Steps p.tables e below (s₁.setTop (mkF m 3 #[.val (.ref a1), .val (.long q2), .second, .val (.long q2), .second, .unset, .unset] [(.ref a1)])) _
    refine st4 _ ?_
    show Steps p.tables e below (T4.setTop (mkF m 6 #[.val (.ref a1), .val (.long q2), .second, .val (.long q2), .second, .unset, .unset] [(.int (8 : Int32))])) _
    refine XS.bipush X4.here hx rfl (hb hby d1_6) ?_
    show Steps p.tables e below (T4.setTop (mkF m 8 #[.val (.ref a1), .val (.long q2), .second, .val (.long q2), .second, .unset, .unset] [(.int (64 : Int32)), (.int (8 : Int32))])) _
    refine XS.icmpNo X4.here hx rfl (hb hby d1_8) rfl (tlt (by decide : (8 : Int32) < (64 : Int32))).2.1 ?_
    show Steps p.tables e below (T4.setTop (mkF m 11 #[.val (.ref a1), .val (.long q2), .second, .val (.long q2), .second, .unset, .unset] [])) _
    refine XS.lloadN X4.here hx rfl (hb hby d1_11) rfl ?_
    show Steps p.tables e below (T4.setTop (mkF m 12 #[.val (.ref a1), .val (.long q2), .second, .val (.long q2), .second, .unset, .unset] [(.long q2)])) _
    refine XS.lconst X4.here hx rfl (hb hby d1_12) ?_
    show Steps p.tables e below (T4.setTop (mkF m 13 #[.val (.ref a1), .val (.long q2), .second, .val (.long q2), .second, .unset, .unset] [(.long (1 : Int64)), (.long q2)])) _
    refine XS.aloadN X4.here hx rfl (hb hby d1_13) rfl rfl ?_
    show Steps p.tables e below (T4.setTop (mkF m 14 #[.val (.ref a1), .val (.long q2), .second, .val (.long q2), .second, .unset, .unset] [(.ref a1), (.long (1 : Int64)), (.long q2)])) _
    refine st5 _ ?_
    show Steps p.tables e below (T5.setTop (mkF m 17 #[.val (.ref a1), .val (.long q2), .second, .val (.long q2), .second, .unset, .unset] [(.int (8 : Int32)), (.long (1 : Int64)), (.long q2)])) _
    refine XS.lshl X5.here hx rfl (hb hby d1_17) rfl ?_
    show Steps p.tables e below (T5.setTop (mkF m 18 #[.val (.ref a1), .val (.long q2), .second, .val (.long q2), .second, .unset, .unset] [(.long ((1 : Int64) <<< ((8 : Int32) &&& 0x3f).toInt64)), (.long q2)])) _
    refine XS.lconst X5.here hx rfl (hb hby d1_18) ?_
    show Steps p.tables e below (T5.setTop (mkF m 19 #[.val (.ref a1), .val (.long q2), .second, .val (.long q2), .second, .unset, .unset] [(.long (1 : Int64)), (.long ((1 : Int64) <<< ((8 : Int32) &&& 0x3f).toInt64)), (.long q2)])) _
    refine XS.lsub X5.here hx rfl (hb hby d1_19) rfl ?_
    show Steps p.tables e below (T5.setTop (mkF m 20 #[.val (.ref a1), .val (.long q2), .second, .val (.long q2), .second, .unset, .unset] [(.long (((1 : Int64) <<< ((8 : Int32) &&& 0x3f).toInt64) - (1 : Int64))), (.long q2)])) _
    refine XS.land X5.here hx rfl (hb hby d1_20) rfl ?_
    show Steps p.tables e below (T5.setTop (mkF m 21 #[.val (.ref a1), .val (.long q2), .second, .val (.long q2), .second, .unset, .unset] [(.long (q2 &&& (((1 : Int64) <<< ((8 : Int32) &&& 0x3f).toInt64) - (1 : Int64))))])) _
    refine XS.lstore X5.here hx rfl (hb hby d1_21) rfl (l' := #[.val (.ref a1), .val (.long q2), .second, .val (.long q2), .second, .val (.long (q2 &&& (((1 : Int64) <<< ((8 : Int32) &&& 0x3f).toInt64) - (1 : Int64)))), .second]) rfl ?_
    show Steps p.tables e below (T5.setTop (mkF m 23 #[.val (.ref a1), .val (.long q2), .second, .val (.long q2), .second, .val (.long (q2 &&& (((1 : Int64) <<< ((8 : Int32) &&& 0x3f).toInt64) - (1 : Int64)))), .second] [])) _
    refine XS.aloadN X5.here hx rfl (hb hby d1_23) rfl rfl ?_
    show Steps p.tables e below (T5.setTop (mkF m 24 #[.val (.ref a1), .val (.long q2), .second, .val (.long q2), .second, .val (.long (q2 &&& (((1 : Int64) <<< ((8 : Int32) &&& 0x3f).toInt64) - (1 : Int64)))), .second] [(.ref a1)])) _
    refine st7 _ ?_
    show Steps p.tables e below (T7.setTop (mkF m 27 #[.val (.ref a1), .val (.long q2), .second, .val (.long q2), .second, .val (.long (q2 &&& (((1 : Int64) <<< ((8 : Int32) &&& 0x3f).toInt64) - (1 : Int64)))), .second] [(.int (1 : Int32))])) _
    refine XS.ifNo X7.here hx rfl (hb hby d1_27) rfl ((if0 _ _).trans (feq (by decide : ¬ ((1 : Int32) = (0 : Int32)))).1) ?_
    show Steps p.tables e below (T7.setTop (mkF m 30 #[.val (.ref a1), .val (.long q2), .second, .val (.long q2), .second, .val (.long (q2 &&& (((1 : Int64) <<< ((8 : Int32) &&& 0x3f).toInt64) - (1 : Int64)))), .second] [])) _
    refine XS.lload X7.here hx rfl (hb hby d1_30) rfl ?_
    show Steps p.tables e below (T7.setTop (mkF m 32 #[.val (.ref a1), .val (.long q2), .second, .val (.long q2), .second, .val (.long (q2 &&& (((1 : Int64) <<< ((8 : Int32) &&& 0x3f).toInt64) - (1 : Int64)))), .second] [(.long (q2 &&& (((1 : Int64) <<< ((8 : Int32) &&& 0x3f).toInt64) - (1 : Int64))))])) _
    refine XS.aloadN X7.here hx rfl (hb hby d1_32) rfl rfl ?_
    show Steps p.tables e below (T7.setTop (mkF m 33 #[.val (.ref a1), .val (.long q2), .second, .val (.long q2), .second, .val (.long (q2 &&& (((1 : Int64) <<< ((8 : Int32) &&& 0x3f).toInt64) - (1 : Int64)))), .second] [(.ref a1), (.long (q2 &&& (((1 : Int64) <<< ((8 : Int32) &&& 0x3f).toInt64) - (1 : Int64))))])) _
    refine st8 _ ?_
    show Steps p.tables e below (T8.setTop (mkF m 36 #[.val (.ref a1), .val (.long q2), .second, .val (.long q2), .second, .val (.long (q2 &&& (((1 : Int64) <<< ((8 : Int32) &&& 0x3f).toInt64) - (1 : Int64)))), .second] [(.int (8 : Int32)), (.long (q2 &&& (((1 : Int64) <<< ((8 : Int32) &&& 0x3f).toInt64) - (1 : Int64))))])) _
    refine XS.iconst X8.here hx rfl (hb hby d1_36) ?_
    show Steps p.tables e below (T8.setTop (mkF m 37 #[.val (.ref a1), .val (.long q2), .second, .val (.long q2), .second, .val (.long (q2 &&& (((1 : Int64) <<< ((8 : Int32) &&& 0x3f).toInt64) - (1 : Int64)))), .second] [(.int (1 : Int32)), (.int (8 : Int32)), (.long (q2 &&& (((1 : Int64) <<< ((8 : Int32) &&& 0x3f).toInt64) - (1 : Int64))))])) _
    refine XS.isub X8.here hx rfl (hb hby d1_37) rfl ?_
    show Steps p.tables e below (T8.setTop (mkF m 38 #[.val (.ref a1), .val (.long q2), .second, .val (.long q2), .second, .val (.long (q2 &&& (((1 : Int64) <<< ((8 : Int32) &&& 0x3f).toInt64) - (1 : Int64)))), .second] [(.int ((8 : Int32) - (1 : Int32))), (.long (q2 &&& (((1 : Int64) <<< ((8 : Int32) &&& 0x3f).toInt64) - (1 : Int64))))])) _
    refine XS.lushr X8.here hx rfl (hb hby d1_38) rfl ?_
    show Steps p.tables e below (T8.setTop (mkF m 39 #[.val (.ref a1), .val (.long q2), .second, .val (.long q2), .second, .val (.long (q2 &&& (((1 : Int64) <<< ((8 : Int32) &&& 0x3f).toInt64) - (1 : Int64)))), .second] [(.long (((q2 &&& (((1 : Int64) <<< ((8 : Int32) &&& 0x3f).toInt64) - (1 : Int64))).toUInt64 >>> (((8 : Int32) - (1 : Int32)) &&& 0x3f).toInt64.toUInt64).toInt64))])) _
    refine XS.lconst X8.here hx rfl (hb hby d1_39) ?_
    show Steps p.tables e below (T8.setTop (mkF m 40 #[.val (.ref a1), .val (.long q2), .second, .val (.long q2), .second, .val (.long (q2 &&& (((1 : Int64) <<< ((8 : Int32) &&& 0x3f).toInt64) - (1 : Int64)))), .second] [(.long (0 : Int64)), (.long (((q2 &&& (((1 : Int64) <<< ((8 : Int32) &&& 0x3f).toInt64) - (1 : Int64))).toUInt64 >>> (((8 : Int32) - (1 : Int32)) &&& 0x3f).toInt64.toUInt64).toInt64))])) _
    refine XS.lcmp X8.here hx rfl (hb hby d1_40) rfl ?_
    show Steps p.tables e below (T8.setTop (mkF m 41 #[.val (.ref a1), .val (.long q2), .second, .val (.long q2), .second, .val (.long (q2 &&& (((1 : Int64) <<< ((8 : Int32) &&& 0x3f).toInt64) - (1 : Int64)))), .second] [(.int (lcmpW (((q2 &&& (((1 : Int64) <<< ((8 : Int32) &&& 0x3f).toInt64) - (1 : Int64))).toUInt64 >>> (((8 : Int32) - (1 : Int32)) &&& 0x3f).toInt64.toUInt64).toInt64) (0 : Int64)))])) _
    refine XS.ifYes X8.here hx rfl (pc0 := 41) (pc' := 55) rfl (hb hby d1_41) rfl ((if0 _ _).trans (teq hc41).1) (by decide) (by decide) ?_
    show Steps p.tables e below (T8.setTop (mkF m 55 #[.val (.ref a1), .val (.long q2), .second, .val (.long q2), .second, .val (.long (q2 &&& (((1 : Int64) <<< ((8 : Int32) &&& 0x3f).toInt64) - (1 : Int64)))), .second] [])) _
    refine XS.lload X8.here hx rfl (hb hby d1_55) rfl ?_
    show Steps p.tables e below (T8.setTop (mkF m 57 #[.val (.ref a1), .val (.long q2), .second, .val (.long q2), .second, .val (.long (q2 &&& (((1 : Int64) <<< ((8 : Int32) &&& 0x3f).toInt64) - (1 : Int64)))), .second] [(.long (q2 &&& (((1 : Int64) <<< ((8 : Int32) &&& 0x3f).toInt64) - (1 : Int64))))])) _
    refine XS.lstoreN X8.here hx rfl (hb hby d1_57) rfl (l' := #[.val (.ref a1), .val (.long q2), .second, .val (.long (q2 &&& (((1 : Int64) <<< ((8 : Int32) &&& 0x3f).toInt64) - (1 : Int64)))), .second, .val (.long (q2 &&& (((1 : Int64) <<< ((8 : Int32) &&& 0x3f).toInt64) - (1 : Int64)))), .second]) rfl ?_
    show Steps p.tables e below (T8.setTop (mkF m 58 #[.val (.ref a1), .val (.long q2), .second, .val (.long (q2 &&& (((1 : Int64) <<< ((8 : Int32) &&& 0x3f).toInt64) - (1 : Int64)))), .second, .val (.long (q2 &&& (((1 : Int64) <<< ((8 : Int32) &&& 0x3f).toInt64) - (1 : Int64)))), .second] [])) _
    refine XS.lloadN X8.here hx rfl (hb hby d1_58) rfl ?_
    show Steps p.tables e below (T8.setTop (mkF m 59 #[.val (.ref a1), .val (.long q2), .second, .val (.long (q2 &&& (((1 : Int64) <<< ((8 : Int32) &&& 0x3f).toInt64) - (1 : Int64)))), .second, .val (.long (q2 &&& (((1 : Int64) <<< ((8 : Int32) &&& 0x3f).toInt64) - (1 : Int64)))), .second] [(.long (q2 &&& (((1 : Int64) <<< ((8 : Int32) &&& 0x3f).toInt64) - (1 : Int64))))])) _
    exact retOut X8 hx (t := .long) Bd.returns rfl (Or.inr (Or.inl ⟨rfl, rfl, _, rfl⟩)) (hb hby d1_59) hr
  · show Q1_BYTE_p Z a1 q2 h0 n0 _ T8.heap _
    rw [e8]
    exact ⟨rfl, N0, rfl⟩

theorem d1_44 : decode prog_31_method_9_code 44 = .ok (.lload 5, 2) := by decide +kernel
theorem d1_46 : decode prog_31_method_9_code 46 = .ok (.lconst 1, 1) := by decide +kernel
theorem d1_47 : decode prog_31_method_9_code 47 = .ok (.aload_n 0, 1) := by decide +kernel
theorem d1_48 : decode prog_31_method_9_code 48 = .ok (.getfield 48, 3) := by decide +kernel
theorem d1_51 : decode prog_31_method_9_code 51 = .ok (.lshl, 1) := by decide +kernel
theorem d1_52 : decode prog_31_method_9_code 52 = .ok (.lsub, 1) := by decide +kernel
theorem d1_53 : decode prog_31_method_9_code 53 = .ok (.lstore 5, 2) := by decide +kernel
def Q1_BYTE_n (Z : State) (a1 : Addr) (q2 : Int64) (h0 : Heap) (n0 : Nat) (v : Option Value) (h : Heap) (L : List Loc) : Prop := v = some (.long ((q2 &&& (((1 : Int64) <<< ((8 : Int32) &&& 0x3f).toInt64) - (1 : Int64))) - ((1 : Int64) <<< ((8 : Int32) &&& 0x3f).toInt64))) ∧ Fr n0 L ∧ h = h0
set_option maxRecDepth 65536 in
set_option maxHeartbeats 40000000 in
theorem rm1_BYTE_n (l : Launch) (Z : State) (a0 : Array Value) (hw : ∀ d ∈ tables_1, d.before a0 Z = true) (ws : List Jvm.Cond) (a1 : Addr) (q2 : Int64) (h0 : Heap) (n0 : Nat) (Z0 : n0 ≤ h0.size) (F_bits_a1 : Fld Z h0 a1 "com/example/pathglass/pathglass/symbolic/InputType" "bits" "I" (.int (8 : Int32))) (F_signed_a1 : Fld Z h0 a1 "com/example/pathglass/pathglass/symbolic/InputType" "signed" "Z" (.int (1 : Int32))) (hc41 : ¬ ((lcmpW (((q2 &&& (((1 : Int64) <<< ((8 : Int32) &&& 0x3f).toInt64) - (1 : Int64))).toUInt64 >>> (((8 : Int32) - (1 : Int32)) &&& 0x3f).toInt64.toUInt64).toInt64) (0 : Int64)) = (0 : Int32))) :
    MetFree l (⟨"com/example/pathglass/pathglass/symbolic/InputType", "valueOf", "(J)J"⟩ : MethodName) (head1 (Jvm.Cond.code (⟨"com/example/pathglass/pathglass/symbolic/InputType", "valueOf", "(J)J"⟩ : MethodName) prog_31_method_9_code 7 (some .long) :: ws) ({ frames := 0, cells := 0, slots := 0, locals := 0 } : Room)) (fun a U => a = #[(.ref a1), (.long q2)] ∧ Z.Warmed39 U.vm ∧ U.heap = h0) (fun _ _ _ _ _ => True) (fun _ U o U' => ∃ v L, o = .returned v ∧ Q1_BYTE_n Z a1 q2 h0 n0 v U'.heap L ∧ FrameEnd U o U' L ({ frames := 0, cells := 0, slots := 0, locals := 0 } : Room).cells ({ frames := 0, cells := 0, slots := 0, locals := 0 } : Room).slots) := by
  refine MetFree.of_bodySF (plainFor_of_name pn_1) hisR ?_
  intro p e s m args below meth c s₁ Bd hml0 hP hK
  obtain ⟨rfl, hZ, hh⟩ := hP
  have hx := Bd.exec
  have hby := Bd.bytes
  have hml : c.maxLocals = 7 := hml0
  have hown : s.vm.findClass "com/example/pathglass/pathglass/symbolic/InputType" = some m.cls := findClass_of_methodNamed Bd.named
  have hnm := (name_of_methodNamed Bd.named Bd.method).1
  have X0 : Stand p l e ({ frames := 0, cells := 0, slots := 0, locals := 0 } : Room) s m #[(.ref a1), (.long q2)] below meth c s₁ [] 0 0 := Stand.of_body Bd
  have e0 : s₁.heap = h0 := by rw [← hh, Bd.state]; rfl
  have N0 := Fr.nil n0
  have pre0 : ∀ t, Steps p.tables e below (s₁.setTop (mkF m 0 #[.val (.ref a1), .val (.long q2), .second, .unset, .unset, .unset, .unset] [])) t → Steps p.tables e below (s₁.setTop (entryFrame m #[(.ref a1), (.long q2)] 7)) t := fun t k => castTop (ef_1 m a1 q2) k
  -- 3. LAWS
  obtain ⟨T4, X4, e4, st4⟩ := getF X0 hx hZ hown (host := "") (Or.inl (hw _ (List.mem_of_getElem? (i := 9) rfl))) Via.refl e0 F_bits_a1 (g := (mkF m 3 #[.val (.ref a1), .val (.long q2), .second, .val (.long q2), .second, .unset, .unset] [(.ref a1)])) rfl rfl (hb hby d1_3)
  obtain ⟨T5, X5, e5, st5⟩ := getF X4 hx hZ hown (host := "") (Or.inl (hw _ (List.mem_of_getElem? (i := 9) rfl))) Via.refl e4 F_bits_a1 (g := (mkF m 14 #[.val (.ref a1), .val (.long q2), .second, .val (.long q2), .second, .unset, .unset] [(.ref a1), (.long (1 : Int64)), (.long q2)])) rfl rfl (hb hby d1_14)
  obtain ⟨T7, X7, e7, st7⟩ := getF X5 hx hZ hown (host := "") (Or.inl (hw _ (List.mem_of_getElem? (i := 11) rfl))) Via.refl e5 F_signed_a1 (g := (mkF m 24 #[.val (.ref a1), .val (.long q2), .second, .val (.long q2), .second, .val (.long (q2 &&& (((1 : Int64) <<< ((8 : Int32) &&& 0x3f).toInt64) - (1 : Int64)))), .second] [(.ref a1)])) rfl rfl (hb hby d1_24)
  obtain ⟨T8, X8, e8, st8⟩ := getF X7 hx hZ hown (host := "") (Or.inl (hw _ (List.mem_of_getElem? (i := 9) rfl))) Via.refl e7 F_bits_a1 (g := (mkF m 33 #[.val (.ref a1), .val (.long q2), .second, .val (.long q2), .second, .val (.long (q2 &&& (((1 : Int64) <<< ((8 : Int32) &&& 0x3f).toInt64) - (1 : Int64)))), .second] [(.ref a1), (.long (q2 &&& (((1 : Int64) <<< ((8 : Int32) &&& 0x3f).toInt64) - (1 : Int64))))])) rfl rfl (hb hby d1_33)
  obtain ⟨T9, X9, e9, st9⟩ := getF X8 hx hZ hown (host := "") (Or.inl (hw _ (List.mem_of_getElem? (i := 9) rfl))) Via.refl e8 F_bits_a1 (g := (mkF m 48 #[.val (.ref a1), .val (.long q2), .second, .val (.long q2), .second, .val (.long (q2 &&& (((1 : Int64) <<< ((8 : Int32) &&& 0x3f).toInt64) - (1 : Int64)))), .second] [(.ref a1), (.long (1 : Int64)), (.long (q2 &&& (((1 : Int64) <<< ((8 : Int32) &&& 0x3f).toInt64) - (1 : Int64))))])) rfl rfl (hb hby d1_48)
  obtain ⟨fs, hr, hrun, hended, hW, hsame⟩ := X9.leave (v := some (.long ((q2 &&& (((1 : Int64) <<< ((8 : Int32) &&& 0x3f).toInt64) - (1 : Int64))) - ((1 : Int64) <<< ((8 : Int32) &&& 0x3f).toInt64)))) (fun h => by rw [Bd.returns] at h; cases h)
  refine ⟨_, _, pre0 _ ?_, hrun, hended, _, _, rfl, ?_, ⟨_, rfl⟩, hW, hsame.mono (by decide) (by decide)⟩
  -- 4. STEPS
  · show Steps p.tables e below (s₁.setTop (mkF m 0 #[.val (.ref a1), .val (.long q2), .second, .unset, .unset, .unset, .unset] [])) _
    refine XS.lloadN X0.here hx rfl (hb hby d1_0) rfl ?_
    show Steps p.tables e below (s₁.setTop (mkF m 1 #[.val (.ref a1), .val (.long q2), .second, .unset, .unset, .unset, .unset] [(.long q2)])) _
    refine XS.lstoreN X0.here hx rfl (hb hby d1_1) rfl (l' := #[.val (.ref a1), .val (.long q2), .second, .val (.long q2), .second, .unset, .unset]) rfl ?_
    show Steps p.tables e below (s₁.setTop (mkF m 2 #[.val (.ref a1), .val (.long q2), .second, .val (.long q2), .second, .unset, .unset] [])) _
    refine XS.aloadN X0.here hx rfl (hb hby d1_2) rfl rfl ?_
    show Steps p.tables e below (s₁.setTop (mkF m 3 #[.val (.ref a1), .val (.long q2), .second, .val (.long q2), .second, .unset, .unset] [(.ref a1)])) _
    refine st4 _ ?_
    show Steps p.tables e below (T4.setTop (mkF m 6 #[.val (.ref a1), .val (.long q2), .second, .val (.long q2), .second, .unset, .unset] [(.int (8 : Int32))])) _
    refine XS.bipush X4.here hx rfl (hb hby d1_6) ?_
    show Steps p.tables e below (T4.setTop (mkF m 8 #[.val (.ref a1), .val (.long q2), .second, .val (.long q2), .second, .unset, .unset] [(.int (64 : Int32)), (.int (8 : Int32))])) _
    refine XS.icmpNo X4.here hx rfl (hb hby d1_8) rfl (tlt (by decide : (8 : Int32) < (64 : Int32))).2.1 ?_
    show Steps p.tables e below (T4.setTop (mkF m 11 #[.val (.ref a1), .val (.long q2), .second, .val (.long q2), .second, .unset, .unset] [])) _
    refine XS.lloadN X4.here hx rfl (hb hby d1_11) rfl ?_
    show Steps p.tables e below (T4.setTop (mkF m 12 #[.val (.ref a1), .val (.long q2), .second, .val (.long q2), .second, .unset, .unset] [(.long q2)])) _
    refine XS.lconst X4.here hx rfl (hb hby d1_12) ?_
    show Steps p.tables e below (T4.setTop (mkF m 13 #[.val (.ref a1), .val (.long q2), .second, .val (.long q2), .second, .unset, .unset] [(.long (1 : Int64)), (.long q2)])) _
    refine XS.aloadN X4.here hx rfl (hb hby d1_13) rfl rfl ?_
    show Steps p.tables e below (T4.setTop (mkF m 14 #[.val (.ref a1), .val (.long q2), .second, .val (.long q2), .second, .unset, .unset] [(.ref a1), (.long (1 : Int64)), (.long q2)])) _
    refine st5 _ ?_
    show Steps p.tables e below (T5.setTop (mkF m 17 #[.val (.ref a1), .val (.long q2), .second, .val (.long q2), .second, .unset, .unset] [(.int (8 : Int32)), (.long (1 : Int64)), (.long q2)])) _
    refine XS.lshl X5.here hx rfl (hb hby d1_17) rfl ?_
    show Steps p.tables e below (T5.setTop (mkF m 18 #[.val (.ref a1), .val (.long q2), .second, .val (.long q2), .second, .unset, .unset] [(.long ((1 : Int64) <<< ((8 : Int32) &&& 0x3f).toInt64)), (.long q2)])) _
    refine XS.lconst X5.here hx rfl (hb hby d1_18) ?_
    show Steps p.tables e below (T5.setTop (mkF m 19 #[.val (.ref a1), .val (.long q2), .second, .val (.long q2), .second, .unset, .unset] [(.long (1 : Int64)), (.long ((1 : Int64) <<< ((8 : Int32) &&& 0x3f).toInt64)), (.long q2)])) _
    refine XS.lsub X5.here hx rfl (hb hby d1_19) rfl ?_
    show Steps p.tables e below (T5.setTop (mkF m 20 #[.val (.ref a1), .val (.long q2), .second, .val (.long q2), .second, .unset, .unset] [(.long (((1 : Int64) <<< ((8 : Int32) &&& 0x3f).toInt64) - (1 : Int64))), (.long q2)])) _
    refine XS.land X5.here hx rfl (hb hby d1_20) rfl ?_
    show Steps p.tables e below (T5.setTop (mkF m 21 #[.val (.ref a1), .val (.long q2), .second, .val (.long q2), .second, .unset, .unset] [(.long (q2 &&& (((1 : Int64) <<< ((8 : Int32) &&& 0x3f).toInt64) - (1 : Int64))))])) _
    refine XS.lstore X5.here hx rfl (hb hby d1_21) rfl (l' := #[.val (.ref a1), .val (.long q2), .second, .val (.long q2), .second, .val (.long (q2 &&& (((1 : Int64) <<< ((8 : Int32) &&& 0x3f).toInt64) - (1 : Int64)))), .second]) rfl ?_
    show Steps p.tables e below (T5.setTop (mkF m 23 #[.val (.ref a1), .val (.long q2), .second, .val (.long q2), .second, .val (.long (q2 &&& (((1 : Int64) <<< ((8 : Int32) &&& 0x3f).toInt64) - (1 : Int64)))), .second] [])) _
    refine XS.aloadN X5.here hx rfl (hb hby d1_23) rfl rfl ?_
    show Steps p.tables e below (T5.setTop (mkF m 24 #[.val (.ref a1), .val (.long q2), .second, .val (.long q2), .second, .val (.long (q2 &&& (((1 : Int64) <<< ((8 : Int32) &&& 0x3f).toInt64) - (1 : Int64)))), .second] [(.ref a1)])) _
    refine st7 _ ?_
    show Steps p.tables e below (T7.setTop (mkF m 27 #[.val (.ref a1), .val (.long q2), .second, .val (.long q2), .second, .val (.long (q2 &&& (((1 : Int64) <<< ((8 : Int32) &&& 0x3f).toInt64) - (1 : Int64)))), .second] [(.int (1 : Int32))])) _
    refine XS.ifNo X7.here hx rfl (hb hby d1_27) rfl ((if0 _ _).trans (feq (by decide : ¬ ((1 : Int32) = (0 : Int32)))).1) ?_
    show Steps p.tables e below (T7.setTop (mkF m 30 #[.val (.ref a1), .val (.long q2), .second, .val (.long q2), .second, .val (.long (q2 &&& (((1 : Int64) <<< ((8 : Int32) &&& 0x3f).toInt64) - (1 : Int64)))), .second] [])) _
    refine XS.lload X7.here hx rfl (hb hby d1_30) rfl ?_
    show Steps p.tables e below (T7.setTop (mkF m 32 #[.val (.ref a1), .val (.long q2), .second, .val (.long q2), .second, .val (.long (q2 &&& (((1 : Int64) <<< ((8 : Int32) &&& 0x3f).toInt64) - (1 : Int64)))), .second] [(.long (q2 &&& (((1 : Int64) <<< ((8 : Int32) &&& 0x3f).toInt64) - (1 : Int64))))])) _
    refine XS.aloadN X7.here hx rfl (hb hby d1_32) rfl rfl ?_
    show Steps p.tables e below (T7.setTop (mkF m 33 #[.val (.ref a1), .val (.long q2), .second, .val (.long q2), .second, .val (.long (q2 &&& (((1 : Int64) <<< ((8 : Int32) &&& 0x3f).toInt64) - (1 : Int64)))), .second] [(.ref a1), (.long (q2 &&& (((1 : Int64) <<< ((8 : Int32) &&& 0x3f).toInt64) - (1 : Int64))))])) _
    refine st8 _ ?_
    show Steps p.tables e below (T8.setTop (mkF m 36 #[.val (.ref a1), .val (.long q2), .second, .val (.long q2), .second, .val (.long (q2 &&& (((1 : Int64) <<< ((8 : Int32) &&& 0x3f).toInt64) - (1 : Int64)))), .second] [(.int (8 : Int32)), (.long (q2 &&& (((1 : Int64) <<< ((8 : Int32) &&& 0x3f).toInt64) - (1 : Int64))))])) _
    refine XS.iconst X8.here hx rfl (hb hby d1_36) ?_
    show Steps p.tables e below (T8.setTop (mkF m 37 #[.val (.ref a1), .val (.long q2), .second, .val (.long q2), .second, .val (.long (q2 &&& (((1 : Int64) <<< ((8 : Int32) &&& 0x3f).toInt64) - (1 : Int64)))), .second] [(.int (1 : Int32)), (.int (8 : Int32)), (.long (q2 &&& (((1 : Int64) <<< ((8 : Int32) &&& 0x3f).toInt64) - (1 : Int64))))])) _
    refine XS.isub X8.here hx rfl (hb hby d1_37) rfl ?_
    show Steps p.tables e below (T8.setTop (mkF m 38 #[.val (.ref a1), .val (.long q2), .second, .val (.long q2), .second, .val (.long (q2 &&& (((1 : Int64) <<< ((8 : Int32) &&& 0x3f).toInt64) - (1 : Int64)))), .second] [(.int ((8 : Int32) - (1 : Int32))), (.long (q2 &&& (((1 : Int64) <<< ((8 : Int32) &&& 0x3f).toInt64) - (1 : Int64))))])) _
    refine XS.lushr X8.here hx rfl (hb hby d1_38) rfl ?_
    show Steps p.tables e below (T8.setTop (mkF m 39 #[.val (.ref a1), .val (.long q2), .second, .val (.long q2), .second, .val (.long (q2 &&& (((1 : Int64) <<< ((8 : Int32) &&& 0x3f).toInt64) - (1 : Int64)))), .second] [(.long (((q2 &&& (((1 : Int64) <<< ((8 : Int32) &&& 0x3f).toInt64) - (1 : Int64))).toUInt64 >>> (((8 : Int32) - (1 : Int32)) &&& 0x3f).toInt64.toUInt64).toInt64))])) _
    refine XS.lconst X8.here hx rfl (hb hby d1_39) ?_
    show Steps p.tables e below (T8.setTop (mkF m 40 #[.val (.ref a1), .val (.long q2), .second, .val (.long q2), .second, .val (.long (q2 &&& (((1 : Int64) <<< ((8 : Int32) &&& 0x3f).toInt64) - (1 : Int64)))), .second] [(.long (0 : Int64)), (.long (((q2 &&& (((1 : Int64) <<< ((8 : Int32) &&& 0x3f).toInt64) - (1 : Int64))).toUInt64 >>> (((8 : Int32) - (1 : Int32)) &&& 0x3f).toInt64.toUInt64).toInt64))])) _
    refine XS.lcmp X8.here hx rfl (hb hby d1_40) rfl ?_
    show Steps p.tables e below (T8.setTop (mkF m 41 #[.val (.ref a1), .val (.long q2), .second, .val (.long q2), .second, .val (.long (q2 &&& (((1 : Int64) <<< ((8 : Int32) &&& 0x3f).toInt64) - (1 : Int64)))), .second] [(.int (lcmpW (((q2 &&& (((1 : Int64) <<< ((8 : Int32) &&& 0x3f).toInt64) - (1 : Int64))).toUInt64 >>> (((8 : Int32) - (1 : Int32)) &&& 0x3f).toInt64.toUInt64).toInt64) (0 : Int64)))])) _
    refine XS.ifNo X8.here hx rfl (hb hby d1_41) rfl ((if0 _ _).trans (feq hc41).1) ?_
    show Steps p.tables e below (T8.setTop (mkF m 44 #[.val (.ref a1), .val (.long q2), .second, .val (.long q2), .second, .val (.long (q2 &&& (((1 : Int64) <<< ((8 : Int32) &&& 0x3f).toInt64) - (1 : Int64)))), .second] [])) _
    refine XS.lload X8.here hx rfl (hb hby d1_44) rfl ?_
    show Steps p.tables e below (T8.setTop (mkF m 46 #[.val (.ref a1), .val (.long q2), .second, .val (.long q2), .second, .val (.long (q2 &&& (((1 : Int64) <<< ((8 : Int32) &&& 0x3f).toInt64) - (1 : Int64)))), .second] [(.long (q2 &&& (((1 : Int64) <<< ((8 : Int32) &&& 0x3f).toInt64) - (1 : Int64))))])) _
    refine XS.lconst X8.here hx rfl (hb hby d1_46) ?_
    show Steps p.tables e below (T8.setTop (mkF m 47 #[.val (.ref a1), .val (.long q2), .second, .val (.long q2), .second, .val (.long (q2 &&& (((1 : Int64) <<< ((8 : Int32) &&& 0x3f).toInt64) - (1 : Int64)))), .second] [(.long (1 : Int64)), (.long (q2 &&& (((1 : Int64) <<< ((8 : Int32) &&& 0x3f).toInt64) - (1 : Int64))))])) _
    refine XS.aloadN X8.here hx rfl (hb hby d1_47) rfl rfl ?_
    show Steps p.tables e below (T8.setTop (mkF m 48 #[.val (.ref a1), .val (.long q2), .second, .val (.long q2), .second, .val (.long (q2 &&& (((1 : Int64) <<< ((8 : Int32) &&& 0x3f).toInt64) - (1 : Int64)))), .second] [(.ref a1), (.long (1 : Int64)), (.long (q2 &&& (((1 : Int64) <<< ((8 : Int32) &&& 0x3f).toInt64) - (1 : Int64))))])) _
    refine st9 _ ?_
    show Steps p.tables e below (T9.setTop (mkF m 51 #[.val (.ref a1), .val (.long q2), .second, .val (.long q2), .second, .val (.long (q2 &&& (((1 : Int64) <<< ((8 : Int32) &&& 0x3f).toInt64) - (1 : Int64)))), .second] [(.int (8 : Int32)), (.long (1 : Int64)), (.long (q2 &&& (((1 : Int64) <<< ((8 : Int32) &&& 0x3f).toInt64) - (1 : Int64))))])) _
    refine XS.lshl X9.here hx rfl (hb hby d1_51) rfl ?_
    show Steps p.tables e below (T9.setTop (mkF m 52 #[.val (.ref a1), .val (.long q2), .second, .val (.long q2), .second, .val (.long (q2 &&& (((1 : Int64) <<< ((8 : Int32) &&& 0x3f).toInt64) - (1 : Int64)))), .second] [(.long ((1 : Int64) <<< ((8 : Int32) &&& 0x3f).toInt64)), (.long (q2 &&& (((1 : Int64) <<< ((8 : Int32) &&& 0x3f).toInt64) - (1 : Int64))))])) _
    refine XS.lsub X9.here hx rfl (hb hby d1_52) rfl ?_
    show Steps p.tables e below (T9.setTop (mkF m 53 #[.val (.ref a1), .val (.long q2), .second, .val (.long q2), .second, .val (.long (q2 &&& (((1 : Int64) <<< ((8 : Int32) &&& 0x3f).toInt64) - (1 : Int64)))), .second] [(.long ((q2 &&& (((1 : Int64) <<< ((8 : Int32) &&& 0x3f).toInt64) - (1 : Int64))) - ((1 : Int64) <<< ((8 : Int32) &&& 0x3f).toInt64)))])) _
    refine XS.lstore X9.here hx rfl (hb hby d1_53) rfl (l' := #[.val (.ref a1), .val (.long q2), .second, .val (.long q2), .second, .val (.long ((q2 &&& (((1 : Int64) <<< ((8 : Int32) &&& 0x3f).toInt64) - (1 : Int64))) - ((1 : Int64) <<< ((8 : Int32) &&& 0x3f).toInt64))), .second]) rfl ?_
    show Steps p.tables e below (T9.setTop (mkF m 55 #[.val (.ref a1), .val (.long q2), .second, .val (.long q2), .second, .val (.long ((q2 &&& (((1 : Int64) <<< ((8 : Int32) &&& 0x3f).toInt64) - (1 : Int64))) - ((1 : Int64) <<< ((8 : Int32) &&& 0x3f).toInt64))), .second] [])) _
    refine XS.lload X9.here hx rfl (hb hby d1_55) rfl ?_
    show Steps p.tables e below (T9.setTop (mkF m 57 #[.val (.ref a1), .val (.long q2), .second, .val (.long q2), .second, .val (.long ((q2 &&& (((1 : Int64) <<< ((8 : Int32) &&& 0x3f).toInt64) - (1 : Int64))) - ((1 : Int64) <<< ((8 : Int32) &&& 0x3f).toInt64))), .second] [(.long ((q2 &&& (((1 : Int64) <<< ((8 : Int32) &&& 0x3f).toInt64) - (1 : Int64))) - ((1 : Int64) <<< ((8 : Int32) &&& 0x3f).toInt64)))])) _
    refine XS.lstoreN X9.here hx rfl (hb hby d1_57) rfl (l' := #[.val (.ref a1), .val (.long q2), .second, .val (.long ((q2 &&& (((1 : Int64) <<< ((8 : Int32) &&& 0x3f).toInt64) - (1 : Int64))) - ((1 : Int64) <<< ((8 : Int32) &&& 0x3f).toInt64))), .second, .val (.long ((q2 &&& (((1 : Int64) <<< ((8 : Int32) &&& 0x3f).toInt64) - (1 : Int64))) - ((1 : Int64) <<< ((8 : Int32) &&& 0x3f).toInt64))), .second]) rfl ?_
    show Steps p.tables e below (T9.setTop (mkF m 58 #[.val (.ref a1), .val (.long q2), .second, .val (.long ((q2 &&& (((1 : Int64) <<< ((8 : Int32) &&& 0x3f).toInt64) - (1 : Int64))) - ((1 : Int64) <<< ((8 : Int32) &&& 0x3f).toInt64))), .second, .val (.long ((q2 &&& (((1 : Int64) <<< ((8 : Int32) &&& 0x3f).toInt64) - (1 : Int64))) - ((1 : Int64) <<< ((8 : Int32) &&& 0x3f).toInt64))), .second] [])) _
    refine XS.lloadN X9.here hx rfl (hb hby d1_58) rfl ?_
    show Steps p.tables e below (T9.setTop (mkF m 59 #[.val (.ref a1), .val (.long q2), .second, .val (.long ((q2 &&& (((1 : Int64) <<< ((8 : Int32) &&& 0x3f).toInt64) - (1 : Int64))) - ((1 : Int64) <<< ((8 : Int32) &&& 0x3f).toInt64))), .second, .val (.long ((q2 &&& (((1 : Int64) <<< ((8 : Int32) &&& 0x3f).toInt64) - (1 : Int64))) - ((1 : Int64) <<< ((8 : Int32) &&& 0x3f).toInt64))), .second] [(.long ((q2 &&& (((1 : Int64) <<< ((8 : Int32) &&& 0x3f).toInt64) - (1 : Int64))) - ((1 : Int64) <<< ((8 : Int32) &&& 0x3f).toInt64)))])) _
    exact retOut X9 hx (t := .long) Bd.returns rfl (Or.inr (Or.inl ⟨rfl, rfl, _, rfl⟩)) (hb hby d1_59) hr
  · show Q1_BYTE_n Z a1 q2 h0 n0 _ T9.heap _
    rw [e9]
    exact ⟨rfl, N0, rfl⟩

def Q1_CHAR (Z : State) (a1 : Addr) (q2 : Int64) (h0 : Heap) (n0 : Nat) (v : Option Value) (h : Heap) (L : List Loc) : Prop := v = some (.long (q2 &&& (((1 : Int64) <<< ((16 : Int32) &&& 0x3f).toInt64) - (1 : Int64)))) ∧ Fr n0 L ∧ h = h0
set_option maxRecDepth 65536 in
set_option maxHeartbeats 40000000 in
theorem rm1_CHAR (l : Launch) (Z : State) (a0 : Array Value) (hw : ∀ d ∈ tables_1, d.before a0 Z = true) (ws : List Jvm.Cond) (a1 : Addr) (q2 : Int64) (h0 : Heap) (n0 : Nat) (Z0 : n0 ≤ h0.size) (F_bits_a1 : Fld Z h0 a1 "com/example/pathglass/pathglass/symbolic/InputType" "bits" "I" (.int (16 : Int32))) (F_signed_a1 : Fld Z h0 a1 "com/example/pathglass/pathglass/symbolic/InputType" "signed" "Z" (.int (0 : Int32))) :
    MetFree l (⟨"com/example/pathglass/pathglass/symbolic/InputType", "valueOf", "(J)J"⟩ : MethodName) (head1 (Jvm.Cond.code (⟨"com/example/pathglass/pathglass/symbolic/InputType", "valueOf", "(J)J"⟩ : MethodName) prog_31_method_9_code 7 (some .long) :: ws) ({ frames := 0, cells := 0, slots := 0, locals := 0 } : Room)) (fun a U => a = #[(.ref a1), (.long q2)] ∧ Z.Warmed39 U.vm ∧ U.heap = h0) (fun _ _ _ _ _ => True) (fun _ U o U' => ∃ v L, o = .returned v ∧ Q1_CHAR Z a1 q2 h0 n0 v U'.heap L ∧ FrameEnd U o U' L ({ frames := 0, cells := 0, slots := 0, locals := 0 } : Room).cells ({ frames := 0, cells := 0, slots := 0, locals := 0 } : Room).slots) := by
  refine MetFree.of_bodySF (plainFor_of_name pn_1) hisR ?_
  intro p e s m args below meth c s₁ Bd hml0 hP hK
  obtain ⟨rfl, hZ, hh⟩ := hP
  have hx := Bd.exec
  have hby := Bd.bytes
  have hml : c.maxLocals = 7 := hml0
  have hown : s.vm.findClass "com/example/pathglass/pathglass/symbolic/InputType" = some m.cls := findClass_of_methodNamed Bd.named
  have hnm := (name_of_methodNamed Bd.named Bd.method).1
  have X0 : Stand p l e ({ frames := 0, cells := 0, slots := 0, locals := 0 } : Room) s m #[(.ref a1), (.long q2)] below meth c s₁ [] 0 0 := Stand.of_body Bd
  have e0 : s₁.heap = h0 := by rw [← hh, Bd.state]; rfl
  have N0 := Fr.nil n0
  have pre0 : ∀ t, Steps p.tables e below (s₁.setTop (mkF m 0 #[.val (.ref a1), .val (.long q2), .second, .unset, .unset, .unset, .unset] [])) t → Steps p.tables e below (s₁.setTop (entryFrame m #[(.ref a1), (.long q2)] 7)) t := fun t k => castTop (ef_1 m a1 q2) k
  -- 3. LAWS
  obtain ⟨T4, X4, e4, st4⟩ := getF X0 hx hZ hown (host := "") (Or.inl (hw _ (List.mem_of_getElem? (i := 9) rfl))) Via.refl e0 F_bits_a1 (g := (mkF m 3 #[.val (.ref a1), .val (.long q2), .second, .val (.long q2), .second, .unset, .unset] [(.ref a1)])) rfl rfl (hb hby d1_3)
  obtain ⟨T5, X5, e5, st5⟩ := getF X4 hx hZ hown (host := "") (Or.inl (hw _ (List.mem_of_getElem? (i := 9) rfl))) Via.refl e4 F_bits_a1 (g := (mkF m 14 #[.val (.ref a1), .val (.long q2), .second, .val (.long q2), .second, .unset, .unset] [(.ref a1), (.long (1 : Int64)), (.long q2)])) rfl rfl (hb hby d1_14)
  obtain ⟨T7, X7, e7, st7⟩ := getF X5 hx hZ hown (host := "") (Or.inl (hw _ (List.mem_of_getElem? (i := 11) rfl))) Via.refl e5 F_signed_a1 (g := (mkF m 24 #[.val (.ref a1), .val (.long q2), .second, .val (.long q2), .second, .val (.long (q2 &&& (((1 : Int64) <<< ((16 : Int32) &&& 0x3f).toInt64) - (1 : Int64)))), .second] [(.ref a1)])) rfl rfl (hb hby d1_24)
  obtain ⟨fs, hr, hrun, hended, hW, hsame⟩ := X7.leave (v := some (.long (q2 &&& (((1 : Int64) <<< ((16 : Int32) &&& 0x3f).toInt64) - (1 : Int64))))) (fun h => by rw [Bd.returns] at h; cases h)
  refine ⟨_, _, pre0 _ ?_, hrun, hended, _, _, rfl, ?_, ⟨_, rfl⟩, hW, hsame.mono (by decide) (by decide)⟩
  -- 4. STEPS
  · show Steps p.tables e below (s₁.setTop (mkF m 0 #[.val (.ref a1), .val (.long q2), .second, .unset, .unset, .unset, .unset] [])) _
    refine XS.lloadN X0.here hx rfl (hb hby d1_0) rfl ?_
    show Steps p.tables e below (s₁.setTop (mkF m 1 #[.val (.ref a1), .val (.long q2), .second, .unset, .unset, .unset, .unset] [(.long q2)])) _
    refine XS.lstoreN X0.here hx rfl (hb hby d1_1) rfl (l' := #[.val (.ref a1), .val (.long q2), .second, .val (.long q2), .second, .unset, .unset]) rfl ?_
    show Steps p.tables e below (s₁.setTop (mkF m 2 #[.val (.ref a1), .val (.long q2), .second, .val (.long q2), .second, .unset, .unset] [])) _
    refine XS.aloadN X0.here hx rfl (hb hby d1_2) rfl rfl ?_
    show Steps p.tables e below (s₁.setTop (mkF m 3 #[.val (.ref a1), .val (.long q2), .second, .val (.long q2), .second, .unset, .unset] [(.ref a1)])) _
    refine st4 _ ?_
    show Steps p.tables e below (T4.setTop (mkF m 6 #[.val (.ref a1), .val (.long q2), .second, .val (.long q2), .second, .unset, .unset] [(.int (16 : Int32))])) _
    refine XS.bipush X4.here hx rfl (hb hby d1_6) ?_
    show Steps p.tables e below (T4.setTop (mkF m 8 #[.val (.ref a1), .val (.long q2), .second, .val (.long q2), .second, .unset, .unset] [(.int (64 : Int32)), (.int (16 : Int32))])) _
    refine XS.icmpNo X4.here hx rfl (hb hby d1_8) rfl (tlt (by decide : (16 : Int32) < (64 : Int32))).2.1 ?_
    show Steps p.tables e below (T4.setTop (mkF m 11 #[.val (.ref a1), .val (.long q2), .second, .val (.long q2), .second, .unset, .unset] [])) _
    refine XS.lloadN X4.here hx rfl (hb hby d1_11) rfl ?_
    show Steps p.tables e below (T4.setTop (mkF m 12 #[.val (.ref a1), .val (.long q2), .second, .val (.long q2), .second, .unset, .unset] [(.long q2)])) _
    refine XS.lconst X4.here hx rfl (hb hby d1_12) ?_
    show Steps p.tables e below (T4.setTop (mkF m 13 #[.val (.ref a1), .val (.long q2), .second, .val (.long q2), .second, .unset, .unset] [(.long (1 : Int64)), (.long q2)])) _
    refine XS.aloadN X4.here hx rfl (hb hby d1_13) rfl rfl ?_
    show Steps p.tables e below (T4.setTop (mkF m 14 #[.val (.ref a1), .val (.long q2), .second, .val (.long q2), .second, .unset, .unset] [(.ref a1), (.long (1 : Int64)), (.long q2)])) _
    refine st5 _ ?_
    show Steps p.tables e below (T5.setTop (mkF m 17 #[.val (.ref a1), .val (.long q2), .second, .val (.long q2), .second, .unset, .unset] [(.int (16 : Int32)), (.long (1 : Int64)), (.long q2)])) _
    refine XS.lshl X5.here hx rfl (hb hby d1_17) rfl ?_
    show Steps p.tables e below (T5.setTop (mkF m 18 #[.val (.ref a1), .val (.long q2), .second, .val (.long q2), .second, .unset, .unset] [(.long ((1 : Int64) <<< ((16 : Int32) &&& 0x3f).toInt64)), (.long q2)])) _
    refine XS.lconst X5.here hx rfl (hb hby d1_18) ?_
    show Steps p.tables e below (T5.setTop (mkF m 19 #[.val (.ref a1), .val (.long q2), .second, .val (.long q2), .second, .unset, .unset] [(.long (1 : Int64)), (.long ((1 : Int64) <<< ((16 : Int32) &&& 0x3f).toInt64)), (.long q2)])) _
    refine XS.lsub X5.here hx rfl (hb hby d1_19) rfl ?_
    show Steps p.tables e below (T5.setTop (mkF m 20 #[.val (.ref a1), .val (.long q2), .second, .val (.long q2), .second, .unset, .unset] [(.long (((1 : Int64) <<< ((16 : Int32) &&& 0x3f).toInt64) - (1 : Int64))), (.long q2)])) _
    refine XS.land X5.here hx rfl (hb hby d1_20) rfl ?_
    show Steps p.tables e below (T5.setTop (mkF m 21 #[.val (.ref a1), .val (.long q2), .second, .val (.long q2), .second, .unset, .unset] [(.long (q2 &&& (((1 : Int64) <<< ((16 : Int32) &&& 0x3f).toInt64) - (1 : Int64))))])) _
    refine XS.lstore X5.here hx rfl (hb hby d1_21) rfl (l' := #[.val (.ref a1), .val (.long q2), .second, .val (.long q2), .second, .val (.long (q2 &&& (((1 : Int64) <<< ((16 : Int32) &&& 0x3f).toInt64) - (1 : Int64)))), .second]) rfl ?_
    show Steps p.tables e below (T5.setTop (mkF m 23 #[.val (.ref a1), .val (.long q2), .second, .val (.long q2), .second, .val (.long (q2 &&& (((1 : Int64) <<< ((16 : Int32) &&& 0x3f).toInt64) - (1 : Int64)))), .second] [])) _
    refine XS.aloadN X5.here hx rfl (hb hby d1_23) rfl rfl ?_
    show Steps p.tables e below (T5.setTop (mkF m 24 #[.val (.ref a1), .val (.long q2), .second, .val (.long q2), .second, .val (.long (q2 &&& (((1 : Int64) <<< ((16 : Int32) &&& 0x3f).toInt64) - (1 : Int64)))), .second] [(.ref a1)])) _
    refine st7 _ ?_
    show Steps p.tables e below (T7.setTop (mkF m 27 #[.val (.ref a1), .val (.long q2), .second, .val (.long q2), .second, .val (.long (q2 &&& (((1 : Int64) <<< ((16 : Int32) &&& 0x3f).toInt64) - (1 : Int64)))), .second] [(.int (0 : Int32))])) _
    refine XS.ifYes X7.here hx rfl (pc0 := 27) (pc' := 55) rfl (hb hby d1_27) rfl ((if0 _ _).trans (teq (rfl : (0 : Int32) = (0 : Int32))).1) (by decide) (by decide) ?_
    show Steps p.tables e below (T7.setTop (mkF m 55 #[.val (.ref a1), .val (.long q2), .second, .val (.long q2), .second, .val (.long (q2 &&& (((1 : Int64) <<< ((16 : Int32) &&& 0x3f).toInt64) - (1 : Int64)))), .second] [])) _
    refine XS.lload X7.here hx rfl (hb hby d1_55) rfl ?_
    show Steps p.tables e below (T7.setTop (mkF m 57 #[.val (.ref a1), .val (.long q2), .second, .val (.long q2), .second, .val (.long (q2 &&& (((1 : Int64) <<< ((16 : Int32) &&& 0x3f).toInt64) - (1 : Int64)))), .second] [(.long (q2 &&& (((1 : Int64) <<< ((16 : Int32) &&& 0x3f).toInt64) - (1 : Int64))))])) _
    refine XS.lstoreN X7.here hx rfl (hb hby d1_57) rfl (l' := #[.val (.ref a1), .val (.long q2), .second, .val (.long (q2 &&& (((1 : Int64) <<< ((16 : Int32) &&& 0x3f).toInt64) - (1 : Int64)))), .second, .val (.long (q2 &&& (((1 : Int64) <<< ((16 : Int32) &&& 0x3f).toInt64) - (1 : Int64)))), .second]) rfl ?_
    show Steps p.tables e below (T7.setTop (mkF m 58 #[.val (.ref a1), .val (.long q2), .second, .val (.long (q2 &&& (((1 : Int64) <<< ((16 : Int32) &&& 0x3f).toInt64) - (1 : Int64)))), .second, .val (.long (q2 &&& (((1 : Int64) <<< ((16 : Int32) &&& 0x3f).toInt64) - (1 : Int64)))), .second] [])) _
    refine XS.lloadN X7.here hx rfl (hb hby d1_58) rfl ?_
    show Steps p.tables e below (T7.setTop (mkF m 59 #[.val (.ref a1), .val (.long q2), .second, .val (.long (q2 &&& (((1 : Int64) <<< ((16 : Int32) &&& 0x3f).toInt64) - (1 : Int64)))), .second, .val (.long (q2 &&& (((1 : Int64) <<< ((16 : Int32) &&& 0x3f).toInt64) - (1 : Int64)))), .second] [(.long (q2 &&& (((1 : Int64) <<< ((16 : Int32) &&& 0x3f).toInt64) - (1 : Int64))))])) _
    exact retOut X7 hx (t := .long) Bd.returns rfl (Or.inr (Or.inl ⟨rfl, rfl, _, rfl⟩)) (hb hby d1_59) hr
  · show Q1_CHAR Z a1 q2 h0 n0 _ T7.heap _
    rw [e7]
    exact ⟨rfl, N0, rfl⟩

def Q1_SHORT_p (Z : State) (a1 : Addr) (q2 : Int64) (h0 : Heap) (n0 : Nat) (v : Option Value) (h : Heap) (L : List Loc) : Prop := v = some (.long (q2 &&& (((1 : Int64) <<< ((16 : Int32) &&& 0x3f).toInt64) - (1 : Int64)))) ∧ Fr n0 L ∧ h = h0
set_option maxRecDepth 65536 in
set_option maxHeartbeats 40000000 in
theorem rm1_SHORT_p (l : Launch) (Z : State) (a0 : Array Value) (hw : ∀ d ∈ tables_1, d.before a0 Z = true) (ws : List Jvm.Cond) (a1 : Addr) (q2 : Int64) (h0 : Heap) (n0 : Nat) (Z0 : n0 ≤ h0.size) (F_bits_a1 : Fld Z h0 a1 "com/example/pathglass/pathglass/symbolic/InputType" "bits" "I" (.int (16 : Int32))) (F_signed_a1 : Fld Z h0 a1 "com/example/pathglass/pathglass/symbolic/InputType" "signed" "Z" (.int (1 : Int32))) (hc41 : (lcmpW (((q2 &&& (((1 : Int64) <<< ((16 : Int32) &&& 0x3f).toInt64) - (1 : Int64))).toUInt64 >>> (((16 : Int32) - (1 : Int32)) &&& 0x3f).toInt64.toUInt64).toInt64) (0 : Int64)) = (0 : Int32)) :
    MetFree l (⟨"com/example/pathglass/pathglass/symbolic/InputType", "valueOf", "(J)J"⟩ : MethodName) (head1 (Jvm.Cond.code (⟨"com/example/pathglass/pathglass/symbolic/InputType", "valueOf", "(J)J"⟩ : MethodName) prog_31_method_9_code 7 (some .long) :: ws) ({ frames := 0, cells := 0, slots := 0, locals := 0 } : Room)) (fun a U => a = #[(.ref a1), (.long q2)] ∧ Z.Warmed39 U.vm ∧ U.heap = h0) (fun _ _ _ _ _ => True) (fun _ U o U' => ∃ v L, o = .returned v ∧ Q1_SHORT_p Z a1 q2 h0 n0 v U'.heap L ∧ FrameEnd U o U' L ({ frames := 0, cells := 0, slots := 0, locals := 0 } : Room).cells ({ frames := 0, cells := 0, slots := 0, locals := 0 } : Room).slots) := by
  refine MetFree.of_bodySF (plainFor_of_name pn_1) hisR ?_
  intro p e s m args below meth c s₁ Bd hml0 hP hK
  obtain ⟨rfl, hZ, hh⟩ := hP
  have hx := Bd.exec
  have hby := Bd.bytes
  have hml : c.maxLocals = 7 := hml0
  have hown : s.vm.findClass "com/example/pathglass/pathglass/symbolic/InputType" = some m.cls := findClass_of_methodNamed Bd.named
  have hnm := (name_of_methodNamed Bd.named Bd.method).1
  have X0 : Stand p l e ({ frames := 0, cells := 0, slots := 0, locals := 0 } : Room) s m #[(.ref a1), (.long q2)] below meth c s₁ [] 0 0 := Stand.of_body Bd
  have e0 : s₁.heap = h0 := by rw [← hh, Bd.state]; rfl
  have N0 := Fr.nil n0
  have pre0 : ∀ t, Steps p.tables e below (s₁.setTop (mkF m 0 #[.val (.ref a1), .val (.long q2), .second, .unset, .unset, .unset, .unset] [])) t → Steps p.tables e below (s₁.setTop (entryFrame m #[(.ref a1), (.long q2)] 7)) t := fun t k => castTop (ef_1 m a1 q2) k
  -- 3. LAWS
  obtain ⟨T4, X4, e4, st4⟩ := getF X0 hx hZ hown (host := "") (Or.inl (hw _ (List.mem_of_getElem? (i := 9) rfl))) Via.refl e0 F_bits_a1 (g := (mkF m 3 #[.val (.ref a1), .val (.long q2), .second, .val (.long q2), .second, .unset, .unset] [(.ref a1)])) rfl rfl (hb hby d1_3)
  obtain ⟨T5, X5, e5, st5⟩ := getF X4 hx hZ hown (host := "") (Or.inl (hw _ (List.mem_of_getElem? (i := 9) rfl))) Via.refl e4 F_bits_a1 (g := (mkF m 14 #[.val (.ref a1), .val (.long q2), .second, .val (.long q2), .second, .unset, .unset] [(.ref a1), (.long (1 : Int64)), (.long q2)])) rfl rfl (hb hby d1_14)
  obtain ⟨T7, X7, e7, st7⟩ := getF X5 hx hZ hown (host := "") (Or.inl (hw _ (List.mem_of_getElem? (i := 11) rfl))) Via.refl e5 F_signed_a1 (g := (mkF m 24 #[.val (.ref a1), .val (.long q2), .second, .val (.long q2), .second, .val (.long (q2 &&& (((1 : Int64) <<< ((16 : Int32) &&& 0x3f).toInt64) - (1 : Int64)))), .second] [(.ref a1)])) rfl rfl (hb hby d1_24)
  obtain ⟨T8, X8, e8, st8⟩ := getF X7 hx hZ hown (host := "") (Or.inl (hw _ (List.mem_of_getElem? (i := 9) rfl))) Via.refl e7 F_bits_a1 (g := (mkF m 33 #[.val (.ref a1), .val (.long q2), .second, .val (.long q2), .second, .val (.long (q2 &&& (((1 : Int64) <<< ((16 : Int32) &&& 0x3f).toInt64) - (1 : Int64)))), .second] [(.ref a1), (.long (q2 &&& (((1 : Int64) <<< ((16 : Int32) &&& 0x3f).toInt64) - (1 : Int64))))])) rfl rfl (hb hby d1_33)
  obtain ⟨fs, hr, hrun, hended, hW, hsame⟩ := X8.leave (v := some (.long (q2 &&& (((1 : Int64) <<< ((16 : Int32) &&& 0x3f).toInt64) - (1 : Int64))))) (fun h => by rw [Bd.returns] at h; cases h)
  refine ⟨_, _, pre0 _ ?_, hrun, hended, _, _, rfl, ?_, ⟨_, rfl⟩, hW, hsame.mono (by decide) (by decide)⟩
  -- 4. STEPS
  · show Steps p.tables e below (s₁.setTop (mkF m 0 #[.val (.ref a1), .val (.long q2), .second, .unset, .unset, .unset, .unset] [])) _
    refine XS.lloadN X0.here hx rfl (hb hby d1_0) rfl ?_
    show Steps p.tables e below (s₁.setTop (mkF m 1 #[.val (.ref a1), .val (.long q2), .second, .unset, .unset, .unset, .unset] [(.long q2)])) _
    refine XS.lstoreN X0.here hx rfl (hb hby d1_1) rfl (l' := #[.val (.ref a1), .val (.long q2), .second, .val (.long q2), .second, .unset, .unset]) rfl ?_
    show Steps p.tables e below (s₁.setTop (mkF m 2 #[.val (.ref a1), .val (.long q2), .second, .val (.long q2), .second, .unset, .unset] [])) _
    refine XS.aloadN X0.here hx rfl (hb hby d1_2) rfl rfl ?_
    show Steps p.tables e below (s₁.setTop (mkF m 3 #[.val (.ref a1), .val (.long q2), .second, .val (.long q2), .second, .unset, .unset] [(.ref a1)])) _
    refine st4 _ ?_
    show Steps p.tables e below (T4.setTop (mkF m 6 #[.val (.ref a1), .val (.long q2), .second, .val (.long q2), .second, .unset, .unset] [(.int (16 : Int32))])) _
    refine XS.bipush X4.here hx rfl (hb hby d1_6) ?_
    show Steps p.tables e below (T4.setTop (mkF m 8 #[.val (.ref a1), .val (.long q2), .second, .val (.long q2), .second, .unset, .unset] [(.int (64 : Int32)), (.int (16 : Int32))])) _
    refine XS.icmpNo X4.here hx rfl (hb hby d1_8) rfl (tlt (by decide : (16 : Int32) < (64 : Int32))).2.1 ?_
    show Steps p.tables e below (T4.setTop (mkF m 11 #[.val (.ref a1), .val (.long q2), .second, .val (.long q2), .second, .unset, .unset] [])) _
    refine XS.lloadN X4.here hx rfl (hb hby d1_11) rfl ?_
    show Steps p.tables e below (T4.setTop (mkF m 12 #[.val (.ref a1), .val (.long q2), .second, .val (.long q2), .second, .unset, .unset] [(.long q2)])) _
    refine XS.lconst X4.here hx rfl (hb hby d1_12) ?_
    show Steps p.tables e below (T4.setTop (mkF m 13 #[.val (.ref a1), .val (.long q2), .second, .val (.long q2), .second, .unset, .unset] [(.long (1 : Int64)), (.long q2)])) _
    refine XS.aloadN X4.here hx rfl (hb hby d1_13) rfl rfl ?_
    show Steps p.tables e below (T4.setTop (mkF m 14 #[.val (.ref a1), .val (.long q2), .second, .val (.long q2), .second, .unset, .unset] [(.ref a1), (.long (1 : Int64)), (.long q2)])) _
    refine st5 _ ?_
    show Steps p.tables e below (T5.setTop (mkF m 17 #[.val (.ref a1), .val (.long q2), .second, .val (.long q2), .second, .unset, .unset] [(.int (16 : Int32)), (.long (1 : Int64)), (.long q2)])) _
    refine XS.lshl X5.here hx rfl (hb hby d1_17) rfl ?_
    show Steps p.tables e below (T5.setTop (mkF m 18 #[.val (.ref a1), .val (.long q2), .second, .val (.long q2), .second, .unset, .unset] [(.long ((1 : Int64) <<< ((16 : Int32) &&& 0x3f).toInt64)), (.long q2)])) _
    refine XS.lconst X5.here hx rfl (hb hby d1_18) ?_
    show Steps p.tables e below (T5.setTop (mkF m 19 #[.val (.ref a1), .val (.long q2), .second, .val (.long q2), .second, .unset, .unset] [(.long (1 : Int64)), (.long ((1 : Int64) <<< ((16 : Int32) &&& 0x3f).toInt64)), (.long q2)])) _
    refine XS.lsub X5.here hx rfl (hb hby d1_19) rfl ?_
    show Steps p.tables e below (T5.setTop (mkF m 20 #[.val (.ref a1), .val (.long q2), .second, .val (.long q2), .second, .unset, .unset] [(.long (((1 : Int64) <<< ((16 : Int32) &&& 0x3f).toInt64) - (1 : Int64))), (.long q2)])) _
    refine XS.land X5.here hx rfl (hb hby d1_20) rfl ?_
    show Steps p.tables e below (T5.setTop (mkF m 21 #[.val (.ref a1), .val (.long q2), .second, .val (.long q2), .second, .unset, .unset] [(.long (q2 &&& (((1 : Int64) <<< ((16 : Int32) &&& 0x3f).toInt64) - (1 : Int64))))])) _
    refine XS.lstore X5.here hx rfl (hb hby d1_21) rfl (l' := #[.val (.ref a1), .val (.long q2), .second, .val (.long q2), .second, .val (.long (q2 &&& (((1 : Int64) <<< ((16 : Int32) &&& 0x3f).toInt64) - (1 : Int64)))), .second]) rfl ?_
    show Steps p.tables e below (T5.setTop (mkF m 23 #[.val (.ref a1), .val (.long q2), .second, .val (.long q2), .second, .val (.long (q2 &&& (((1 : Int64) <<< ((16 : Int32) &&& 0x3f).toInt64) - (1 : Int64)))), .second] [])) _
    refine XS.aloadN X5.here hx rfl (hb hby d1_23) rfl rfl ?_
    show Steps p.tables e below (T5.setTop (mkF m 24 #[.val (.ref a1), .val (.long q2), .second, .val (.long q2), .second, .val (.long (q2 &&& (((1 : Int64) <<< ((16 : Int32) &&& 0x3f).toInt64) - (1 : Int64)))), .second] [(.ref a1)])) _
    refine st7 _ ?_
    show Steps p.tables e below (T7.setTop (mkF m 27 #[.val (.ref a1), .val (.long q2), .second, .val (.long q2), .second, .val (.long (q2 &&& (((1 : Int64) <<< ((16 : Int32) &&& 0x3f).toInt64) - (1 : Int64)))), .second] [(.int (1 : Int32))])) _
    refine XS.ifNo X7.here hx rfl (hb hby d1_27) rfl ((if0 _ _).trans (feq (by decide : ¬ ((1 : Int32) = (0 : Int32)))).1) ?_
    show Steps p.tables e below (T7.setTop (mkF m 30 #[.val (.ref a1), .val (.long q2), .second, .val (.long q2), .second, .val (.long (q2 &&& (((1 : Int64) <<< ((16 : Int32) &&& 0x3f).toInt64) - (1 : Int64)))), .second] [])) _
    refine XS.lload X7.here hx rfl (hb hby d1_30) rfl ?_
    show Steps p.tables e below (T7.setTop (mkF m 32 #[.val (.ref a1), .val (.long q2), .second, .val (.long q2), .second, .val (.long (q2 &&& (((1 : Int64) <<< ((16 : Int32) &&& 0x3f).toInt64) - (1 : Int64)))), .second] [(.long (q2 &&& (((1 : Int64) <<< ((16 : Int32) &&& 0x3f).toInt64) - (1 : Int64))))])) _
    refine XS.aloadN X7.here hx rfl (hb hby d1_32) rfl rfl ?_
    show Steps p.tables e below (T7.setTop (mkF m 33 #[.val (.ref a1), .val (.long q2), .second, .val (.long q2), .second, .val (.long (q2 &&& (((1 : Int64) <<< ((16 : Int32) &&& 0x3f).toInt64) - (1 : Int64)))), .second] [(.ref a1), (.long (q2 &&& (((1 : Int64) <<< ((16 : Int32) &&& 0x3f).toInt64) - (1 : Int64))))])) _
    refine st8 _ ?_
    show Steps p.tables e below (T8.setTop (mkF m 36 #[.val (.ref a1), .val (.long q2), .second, .val (.long q2), .second, .val (.long (q2 &&& (((1 : Int64) <<< ((16 : Int32) &&& 0x3f).toInt64) - (1 : Int64)))), .second] [(.int (16 : Int32)), (.long (q2 &&& (((1 : Int64) <<< ((16 : Int32) &&& 0x3f).toInt64) - (1 : Int64))))])) _
    refine XS.iconst X8.here hx rfl (hb hby d1_36) ?_
    show Steps p.tables e below (T8.setTop (mkF m 37 #[.val (.ref a1), .val (.long q2), .second, .val (.long q2), .second, .val (.long (q2 &&& (((1 : Int64) <<< ((16 : Int32) &&& 0x3f).toInt64) - (1 : Int64)))), .second] [(.int (1 : Int32)), (.int (16 : Int32)), (.long (q2 &&& (((1 : Int64) <<< ((16 : Int32) &&& 0x3f).toInt64) - (1 : Int64))))])) _
    refine XS.isub X8.here hx rfl (hb hby d1_37) rfl ?_
    show Steps p.tables e below (T8.setTop (mkF m 38 #[.val (.ref a1), .val (.long q2), .second, .val (.long q2), .second, .val (.long (q2 &&& (((1 : Int64) <<< ((16 : Int32) &&& 0x3f).toInt64) - (1 : Int64)))), .second] [(.int ((16 : Int32) - (1 : Int32))), (.long (q2 &&& (((1 : Int64) <<< ((16 : Int32) &&& 0x3f).toInt64) - (1 : Int64))))])) _
    refine XS.lushr X8.here hx rfl (hb hby d1_38) rfl ?_
    show Steps p.tables e below (T8.setTop (mkF m 39 #[.val (.ref a1), .val (.long q2), .second, .val (.long q2), .second, .val (.long (q2 &&& (((1 : Int64) <<< ((16 : Int32) &&& 0x3f).toInt64) - (1 : Int64)))), .second] [(.long (((q2 &&& (((1 : Int64) <<< ((16 : Int32) &&& 0x3f).toInt64) - (1 : Int64))).toUInt64 >>> (((16 : Int32) - (1 : Int32)) &&& 0x3f).toInt64.toUInt64).toInt64))])) _
    refine XS.lconst X8.here hx rfl (hb hby d1_39) ?_
    show Steps p.tables e below (T8.setTop (mkF m 40 #[.val (.ref a1), .val (.long q2), .second, .val (.long q2), .second, .val (.long (q2 &&& (((1 : Int64) <<< ((16 : Int32) &&& 0x3f).toInt64) - (1 : Int64)))), .second] [(.long (0 : Int64)), (.long (((q2 &&& (((1 : Int64) <<< ((16 : Int32) &&& 0x3f).toInt64) - (1 : Int64))).toUInt64 >>> (((16 : Int32) - (1 : Int32)) &&& 0x3f).toInt64.toUInt64).toInt64))])) _
    refine XS.lcmp X8.here hx rfl (hb hby d1_40) rfl ?_
    show Steps p.tables e below (T8.setTop (mkF m 41 #[.val (.ref a1), .val (.long q2), .second, .val (.long q2), .second, .val (.long (q2 &&& (((1 : Int64) <<< ((16 : Int32) &&& 0x3f).toInt64) - (1 : Int64)))), .second] [(.int (lcmpW (((q2 &&& (((1 : Int64) <<< ((16 : Int32) &&& 0x3f).toInt64) - (1 : Int64))).toUInt64 >>> (((16 : Int32) - (1 : Int32)) &&& 0x3f).toInt64.toUInt64).toInt64) (0 : Int64)))])) _
    refine XS.ifYes X8.here hx rfl (pc0 := 41) (pc' := 55) rfl (hb hby d1_41) rfl ((if0 _ _).trans (teq hc41).1) (by decide) (by decide) ?_
    show Steps p.tables e below (T8.setTop (mkF m 55 #[.val (.ref a1), .val (.long q2), .second, .val (.long q2), .second, .val (.long (q2 &&& (((1 : Int64) <<< ((16 : Int32) &&& 0x3f).toInt64) - (1 : Int64)))), .second] [])) _
    refine XS.lload X8.here hx rfl (hb hby d1_55) rfl ?_
    show Steps p.tables e below (T8.setTop (mkF m 57 #[.val (.ref a1), .val (.long q2), .second, .val (.long q2), .second, .val (.long (q2 &&& (((1 : Int64) <<< ((16 : Int32) &&& 0x3f).toInt64) - (1 : Int64)))), .second] [(.long (q2 &&& (((1 : Int64) <<< ((16 : Int32) &&& 0x3f).toInt64) - (1 : Int64))))])) _
    refine XS.lstoreN X8.here hx rfl (hb hby d1_57) rfl (l' := #[.val (.ref a1), .val (.long q2), .second, .val (.long (q2 &&& (((1 : Int64) <<< ((16 : Int32) &&& 0x3f).toInt64) - (1 : Int64)))), .second, .val (.long (q2 &&& (((1 : Int64) <<< ((16 : Int32) &&& 0x3f).toInt64) - (1 : Int64)))), .second]) rfl ?_
    show Steps p.tables e below (T8.setTop (mkF m 58 #[.val (.ref a1), .val (.long q2), .second, .val (.long (q2 &&& (((1 : Int64) <<< ((16 : Int32) &&& 0x3f).toInt64) - (1 : Int64)))), .second, .val (.long (q2 &&& (((1 : Int64) <<< ((16 : Int32) &&& 0x3f).toInt64) - (1 : Int64)))), .second] [])) _
    refine XS.lloadN X8.here hx rfl (hb hby d1_58) rfl ?_
    show Steps p.tables e below (T8.setTop (mkF m 59 #[.val (.ref a1), .val (.long q2), .second, .val (.long (q2 &&& (((1 : Int64) <<< ((16 : Int32) &&& 0x3f).toInt64) - (1 : Int64)))), .second, .val (.long (q2 &&& (((1 : Int64) <<< ((16 : Int32) &&& 0x3f).toInt64) - (1 : Int64)))), .second] [(.long (q2 &&& (((1 : Int64) <<< ((16 : Int32) &&& 0x3f).toInt64) - (1 : Int64))))])) _
    exact retOut X8 hx (t := .long) Bd.returns rfl (Or.inr (Or.inl ⟨rfl, rfl, _, rfl⟩)) (hb hby d1_59) hr
  · show Q1_SHORT_p Z a1 q2 h0 n0 _ T8.heap _
    rw [e8]
    exact ⟨rfl, N0, rfl⟩

def Q1_SHORT_n (Z : State) (a1 : Addr) (q2 : Int64) (h0 : Heap) (n0 : Nat) (v : Option Value) (h : Heap) (L : List Loc) : Prop := v = some (.long ((q2 &&& (((1 : Int64) <<< ((16 : Int32) &&& 0x3f).toInt64) - (1 : Int64))) - ((1 : Int64) <<< ((16 : Int32) &&& 0x3f).toInt64))) ∧ Fr n0 L ∧ h = h0
set_option maxRecDepth 65536 in
set_option maxHeartbeats 40000000 in
theorem rm1_SHORT_n (l : Launch) (Z : State) (a0 : Array Value) (hw : ∀ d ∈ tables_1, d.before a0 Z = true) (ws : List Jvm.Cond) (a1 : Addr) (q2 : Int64) (h0 : Heap) (n0 : Nat) (Z0 : n0 ≤ h0.size) (F_bits_a1 : Fld Z h0 a1 "com/example/pathglass/pathglass/symbolic/InputType" "bits" "I" (.int (16 : Int32))) (F_signed_a1 : Fld Z h0 a1 "com/example/pathglass/pathglass/symbolic/InputType" "signed" "Z" (.int (1 : Int32))) (hc41 : ¬ ((lcmpW (((q2 &&& (((1 : Int64) <<< ((16 : Int32) &&& 0x3f).toInt64) - (1 : Int64))).toUInt64 >>> (((16 : Int32) - (1 : Int32)) &&& 0x3f).toInt64.toUInt64).toInt64) (0 : Int64)) = (0 : Int32))) :
    MetFree l (⟨"com/example/pathglass/pathglass/symbolic/InputType", "valueOf", "(J)J"⟩ : MethodName) (head1 (Jvm.Cond.code (⟨"com/example/pathglass/pathglass/symbolic/InputType", "valueOf", "(J)J"⟩ : MethodName) prog_31_method_9_code 7 (some .long) :: ws) ({ frames := 0, cells := 0, slots := 0, locals := 0 } : Room)) (fun a U => a = #[(.ref a1), (.long q2)] ∧ Z.Warmed39 U.vm ∧ U.heap = h0) (fun _ _ _ _ _ => True) (fun _ U o U' => ∃ v L, o = .returned v ∧ Q1_SHORT_n Z a1 q2 h0 n0 v U'.heap L ∧ FrameEnd U o U' L ({ frames := 0, cells := 0, slots := 0, locals := 0 } : Room).cells ({ frames := 0, cells := 0, slots := 0, locals := 0 } : Room).slots) := by
  refine MetFree.of_bodySF (plainFor_of_name pn_1) hisR ?_
  intro p e s m args below meth c s₁ Bd hml0 hP hK
  obtain ⟨rfl, hZ, hh⟩ := hP
  have hx := Bd.exec
  have hby := Bd.bytes
  have hml : c.maxLocals = 7 := hml0
  have hown : s.vm.findClass "com/example/pathglass/pathglass/symbolic/InputType" = some m.cls := findClass_of_methodNamed Bd.named
  have hnm := (name_of_methodNamed Bd.named Bd.method).1
  have X0 : Stand p l e ({ frames := 0, cells := 0, slots := 0, locals := 0 } : Room) s m #[(.ref a1), (.long q2)] below meth c s₁ [] 0 0 := Stand.of_body Bd
  have e0 : s₁.heap = h0 := by rw [← hh, Bd.state]; rfl
  have N0 := Fr.nil n0
  have pre0 : ∀ t, Steps p.tables e below (s₁.setTop (mkF m 0 #[.val (.ref a1), .val (.long q2), .second, .unset, .unset, .unset, .unset] [])) t → Steps p.tables e below (s₁.setTop (entryFrame m #[(.ref a1), (.long q2)] 7)) t := fun t k => castTop (ef_1 m a1 q2) k
  -- 3. LAWS
  obtain ⟨T4, X4, e4, st4⟩ := getF X0 hx hZ hown (host := "") (Or.inl (hw _ (List.mem_of_getElem? (i := 9) rfl))) Via.refl e0 F_bits_a1 (g := (mkF m 3 #[.val (.ref a1), .val (.long q2), .second, .val (.long q2), .second, .unset, .unset] [(.ref a1)])) rfl rfl (hb hby d1_3)
  obtain ⟨T5, X5, e5, st5⟩ := getF X4 hx hZ hown (host := "") (Or.inl (hw _ (List.mem_of_getElem? (i := 9) rfl))) Via.refl e4 F_bits_a1 (g := (mkF m 14 #[.val (.ref a1), .val (.long q2), .second, .val (.long q2), .second, .unset, .unset] [(.ref a1), (.long (1 : Int64)), (.long q2)])) rfl rfl (hb hby d1_14)
  obtain ⟨T7, X7, e7, st7⟩ := getF X5 hx hZ hown (host := "") (Or.inl (hw _ (List.mem_of_getElem? (i := 11) rfl))) Via.refl e5 F_signed_a1 (g := (mkF m 24 #[.val (.ref a1), .val (.long q2), .second, .val (.long q2), .second, .val (.long (q2 &&& (((1 : Int64) <<< ((16 : Int32) &&& 0x3f).toInt64) - (1 : Int64)))), .second] [(.ref a1)])) rfl rfl (hb hby d1_24)
  obtain ⟨T8, X8, e8, st8⟩ := getF X7 hx hZ hown (host := "") (Or.inl (hw _ (List.mem_of_getElem? (i := 9) rfl))) Via.refl e7 F_bits_a1 (g := (mkF m 33 #[.val (.ref a1), .val (.long q2), .second, .val (.long q2), .second, .val (.long (q2 &&& (((1 : Int64) <<< ((16 : Int32) &&& 0x3f).toInt64) - (1 : Int64)))), .second] [(.ref a1), (.long (q2 &&& (((1 : Int64) <<< ((16 : Int32) &&& 0x3f).toInt64) - (1 : Int64))))])) rfl rfl (hb hby d1_33)
  obtain ⟨T9, X9, e9, st9⟩ := getF X8 hx hZ hown (host := "") (Or.inl (hw _ (List.mem_of_getElem? (i := 9) rfl))) Via.refl e8 F_bits_a1 (g := (mkF m 48 #[.val (.ref a1), .val (.long q2), .second, .val (.long q2), .second, .val (.long (q2 &&& (((1 : Int64) <<< ((16 : Int32) &&& 0x3f).toInt64) - (1 : Int64)))), .second] [(.ref a1), (.long (1 : Int64)), (.long (q2 &&& (((1 : Int64) <<< ((16 : Int32) &&& 0x3f).toInt64) - (1 : Int64))))])) rfl rfl (hb hby d1_48)
  obtain ⟨fs, hr, hrun, hended, hW, hsame⟩ := X9.leave (v := some (.long ((q2 &&& (((1 : Int64) <<< ((16 : Int32) &&& 0x3f).toInt64) - (1 : Int64))) - ((1 : Int64) <<< ((16 : Int32) &&& 0x3f).toInt64)))) (fun h => by rw [Bd.returns] at h; cases h)
  refine ⟨_, _, pre0 _ ?_, hrun, hended, _, _, rfl, ?_, ⟨_, rfl⟩, hW, hsame.mono (by decide) (by decide)⟩
  -- 4. STEPS
  · show Steps p.tables e below (s₁.setTop (mkF m 0 #[.val (.ref a1), .val (.long q2), .second, .unset, .unset, .unset, .unset] [])) _
    refine XS.lloadN X0.here hx rfl (hb hby d1_0) rfl ?_
    show Steps p.tables e below (s₁.setTop (mkF m 1 #[.val (.ref a1), .val (.long q2), .second, .unset, .unset, .unset, .unset] [(.long q2)])) _
    refine XS.lstoreN X0.here hx rfl (hb hby d1_1) rfl (l' := #[.val (.ref a1), .val (.long q2), .second, .val (.long q2), .second, .unset, .unset]) rfl ?_
    show Steps p.tables e below (s₁.setTop (mkF m 2 #[.val (.ref a1), .val (.long q2), .second, .val (.long q2), .second, .unset, .unset] [])) _
    refine XS.aloadN X0.here hx rfl (hb hby d1_2) rfl rfl ?_
    show Steps p.tables e below (s₁.setTop (mkF m 3 #[.val (.ref a1), .val (.long q2), .second, .val (.long q2), .second, .unset, .unset] [(.ref a1)])) _
    refine st4 _ ?_
    show Steps p.tables e below (T4.setTop (mkF m 6 #[.val (.ref a1), .val (.long q2), .second, .val (.long q2), .second, .unset, .unset] [(.int (16 : Int32))])) _
    refine XS.bipush X4.here hx rfl (hb hby d1_6) ?_
    show Steps p.tables e below (T4.setTop (mkF m 8 #[.val (.ref a1), .val (.long q2), .second, .val (.long q2), .second, .unset, .unset] [(.int (64 : Int32)), (.int (16 : Int32))])) _
    refine XS.icmpNo X4.here hx rfl (hb hby d1_8) rfl (tlt (by decide : (16 : Int32) < (64 : Int32))).2.1 ?_
    show Steps p.tables e below (T4.setTop (mkF m 11 #[.val (.ref a1), .val (.long q2), .second, .val (.long q2), .second, .unset, .unset] [])) _
    refine XS.lloadN X4.here hx rfl (hb hby d1_11) rfl ?_
    show Steps p.tables e below (T4.setTop (mkF m 12 #[.val (.ref a1), .val (.long q2), .second, .val (.long q2), .second, .unset, .unset] [(.long q2)])) _
    refine XS.lconst X4.here hx rfl (hb hby d1_12) ?_
    show Steps p.tables e below (T4.setTop (mkF m 13 #[.val (.ref a1), .val (.long q2), .second, .val (.long q2), .second, .unset, .unset] [(.long (1 : Int64)), (.long q2)])) _
    refine XS.aloadN X4.here hx rfl (hb hby d1_13) rfl rfl ?_
    show Steps p.tables e below (T4.setTop (mkF m 14 #[.val (.ref a1), .val (.long q2), .second, .val (.long q2), .second, .unset, .unset] [(.ref a1), (.long (1 : Int64)), (.long q2)])) _
    refine st5 _ ?_
    show Steps p.tables e below (T5.setTop (mkF m 17 #[.val (.ref a1), .val (.long q2), .second, .val (.long q2), .second, .unset, .unset] [(.int (16 : Int32)), (.long (1 : Int64)), (.long q2)])) _
    refine XS.lshl X5.here hx rfl (hb hby d1_17) rfl ?_
    show Steps p.tables e below (T5.setTop (mkF m 18 #[.val (.ref a1), .val (.long q2), .second, .val (.long q2), .second, .unset, .unset] [(.long ((1 : Int64) <<< ((16 : Int32) &&& 0x3f).toInt64)), (.long q2)])) _
    refine XS.lconst X5.here hx rfl (hb hby d1_18) ?_
    show Steps p.tables e below (T5.setTop (mkF m 19 #[.val (.ref a1), .val (.long q2), .second, .val (.long q2), .second, .unset, .unset] [(.long (1 : Int64)), (.long ((1 : Int64) <<< ((16 : Int32) &&& 0x3f).toInt64)), (.long q2)])) _
    refine XS.lsub X5.here hx rfl (hb hby d1_19) rfl ?_
    show Steps p.tables e below (T5.setTop (mkF m 20 #[.val (.ref a1), .val (.long q2), .second, .val (.long q2), .second, .unset, .unset] [(.long (((1 : Int64) <<< ((16 : Int32) &&& 0x3f).toInt64) - (1 : Int64))), (.long q2)])) _
    refine XS.land X5.here hx rfl (hb hby d1_20) rfl ?_
    show Steps p.tables e below (T5.setTop (mkF m 21 #[.val (.ref a1), .val (.long q2), .second, .val (.long q2), .second, .unset, .unset] [(.long (q2 &&& (((1 : Int64) <<< ((16 : Int32) &&& 0x3f).toInt64) - (1 : Int64))))])) _
    refine XS.lstore X5.here hx rfl (hb hby d1_21) rfl (l' := #[.val (.ref a1), .val (.long q2), .second, .val (.long q2), .second, .val (.long (q2 &&& (((1 : Int64) <<< ((16 : Int32) &&& 0x3f).toInt64) - (1 : Int64)))), .second]) rfl ?_
    show Steps p.tables e below (T5.setTop (mkF m 23 #[.val (.ref a1), .val (.long q2), .second, .val (.long q2), .second, .val (.long (q2 &&& (((1 : Int64) <<< ((16 : Int32) &&& 0x3f).toInt64) - (1 : Int64)))), .second] [])) _
    refine XS.aloadN X5.here hx rfl (hb hby d1_23) rfl rfl ?_
    show Steps p.tables e below (T5.setTop (mkF m 24 #[.val (.ref a1), .val (.long q2), .second, .val (.long q2), .second, .val (.long (q2 &&& (((1 : Int64) <<< ((16 : Int32) &&& 0x3f).toInt64) - (1 : Int64)))), .second] [(.ref a1)])) _
    refine st7 _ ?_
    show Steps p.tables e below (T7.setTop (mkF m 27 #[.val (.ref a1), .val (.long q2), .second, .val (.long q2), .second, .val (.long (q2 &&& (((1 : Int64) <<< ((16 : Int32) &&& 0x3f).toInt64) - (1 : Int64)))), .second] [(.int (1 : Int32))])) _
    refine XS.ifNo X7.here hx rfl (hb hby d1_27) rfl ((if0 _ _).trans (feq (by decide : ¬ ((1 : Int32) = (0 : Int32)))).1) ?_
    show Steps p.tables e below (T7.setTop (mkF m 30 #[.val (.ref a1), .val (.long q2), .second, .val (.long q2), .second, .val (.long (q2 &&& (((1 : Int64) <<< ((16 : Int32) &&& 0x3f).toInt64) - (1 : Int64)))), .second] [])) _
    refine XS.lload X7.here hx rfl (hb hby d1_30) rfl ?_
    show Steps p.tables e below (T7.setTop (mkF m 32 #[.val (.ref a1), .val (.long q2), .second, .val (.long q2), .second, .val (.long (q2 &&& (((1 : Int64) <<< ((16 : Int32) &&& 0x3f).toInt64) - (1 : Int64)))), .second] [(.long (q2 &&& (((1 : Int64) <<< ((16 : Int32) &&& 0x3f).toInt64) - (1 : Int64))))])) _
    refine XS.aloadN X7.here hx rfl (hb hby d1_32) rfl rfl ?_
    show Steps p.tables e below (T7.setTop (mkF m 33 #[.val (.ref a1), .val (.long q2), .second, .val (.long q2), .second, .val (.long (q2 &&& (((1 : Int64) <<< ((16 : Int32) &&& 0x3f).toInt64) - (1 : Int64)))), .second] [(.ref a1), (.long (q2 &&& (((1 : Int64) <<< ((16 : Int32) &&& 0x3f).toInt64) - (1 : Int64))))])) _
    refine st8 _ ?_
    show Steps p.tables e below (T8.setTop (mkF m 36 #[.val (.ref a1), .val (.long q2), .second, .val (.long q2), .second, .val (.long (q2 &&& (((1 : Int64) <<< ((16 : Int32) &&& 0x3f).toInt64) - (1 : Int64)))), .second] [(.int (16 : Int32)), (.long (q2 &&& (((1 : Int64) <<< ((16 : Int32) &&& 0x3f).toInt64) - (1 : Int64))))])) _
    refine XS.iconst X8.here hx rfl (hb hby d1_36) ?_
    show Steps p.tables e below (T8.setTop (mkF m 37 #[.val (.ref a1), .val (.long q2), .second, .val (.long q2), .second, .val (.long (q2 &&& (((1 : Int64) <<< ((16 : Int32) &&& 0x3f).toInt64) - (1 : Int64)))), .second] [(.int (1 : Int32)), (.int (16 : Int32)), (.long (q2 &&& (((1 : Int64) <<< ((16 : Int32) &&& 0x3f).toInt64) - (1 : Int64))))])) _
    refine XS.isub X8.here hx rfl (hb hby d1_37) rfl ?_
    show Steps p.tables e below (T8.setTop (mkF m 38 #[.val (.ref a1), .val (.long q2), .second, .val (.long q2), .second, .val (.long (q2 &&& (((1 : Int64) <<< ((16 : Int32) &&& 0x3f).toInt64) - (1 : Int64)))), .second] [(.int ((16 : Int32) - (1 : Int32))), (.long (q2 &&& (((1 : Int64) <<< ((16 : Int32) &&& 0x3f).toInt64) - (1 : Int64))))])) _
    refine XS.lushr X8.here hx rfl (hb hby d1_38) rfl ?_
    show Steps p.tables e below (T8.setTop (mkF m 39 #[.val (.ref a1), .val (.long q2), .second, .val (.long q2), .second, .val (.long (q2 &&& (((1 : Int64) <<< ((16 : Int32) &&& 0x3f).toInt64) - (1 : Int64)))), .second] [(.long (((q2 &&& (((1 : Int64) <<< ((16 : Int32) &&& 0x3f).toInt64) - (1 : Int64))).toUInt64 >>> (((16 : Int32) - (1 : Int32)) &&& 0x3f).toInt64.toUInt64).toInt64))])) _
    refine XS.lconst X8.here hx rfl (hb hby d1_39) ?_
    show Steps p.tables e below (T8.setTop (mkF m 40 #[.val (.ref a1), .val (.long q2), .second, .val (.long q2), .second, .val (.long (q2 &&& (((1 : Int64) <<< ((16 : Int32) &&& 0x3f).toInt64) - (1 : Int64)))), .second] [(.long (0 : Int64)), (.long (((q2 &&& (((1 : Int64) <<< ((16 : Int32) &&& 0x3f).toInt64) - (1 : Int64))).toUInt64 >>> (((16 : Int32) - (1 : Int32)) &&& 0x3f).toInt64.toUInt64).toInt64))])) _
    refine XS.lcmp X8.here hx rfl (hb hby d1_40) rfl ?_
    show Steps p.tables e below (T8.setTop (mkF m 41 #[.val (.ref a1), .val (.long q2), .second, .val (.long q2), .second, .val (.long (q2 &&& (((1 : Int64) <<< ((16 : Int32) &&& 0x3f).toInt64) - (1 : Int64)))), .second] [(.int (lcmpW (((q2 &&& (((1 : Int64) <<< ((16 : Int32) &&& 0x3f).toInt64) - (1 : Int64))).toUInt64 >>> (((16 : Int32) - (1 : Int32)) &&& 0x3f).toInt64.toUInt64).toInt64) (0 : Int64)))])) _
    refine XS.ifNo X8.here hx rfl (hb hby d1_41) rfl ((if0 _ _).trans (feq hc41).1) ?_
    show Steps p.tables e below (T8.setTop (mkF m 44 #[.val (.ref a1), .val (.long q2), .second, .val (.long q2), .second, .val (.long (q2 &&& (((1 : Int64) <<< ((16 : Int32) &&& 0x3f).toInt64) - (1 : Int64)))), .second] [])) _
    refine XS.lload X8.here hx rfl (hb hby d1_44) rfl ?_
    show Steps p.tables e below (T8.setTop (mkF m 46 #[.val (.ref a1), .val (.long q2), .second, .val (.long q2), .second, .val (.long (q2 &&& (((1 : Int64) <<< ((16 : Int32) &&& 0x3f).toInt64) - (1 : Int64)))), .second] [(.long (q2 &&& (((1 : Int64) <<< ((16 : Int32) &&& 0x3f).toInt64) - (1 : Int64))))])) _
    refine XS.lconst X8.here hx rfl (hb hby d1_46) ?_
    show Steps p.tables e below (T8.setTop (mkF m 47 #[.val (.ref a1), .val (.long q2), .second, .val (.long q2), .second, .val (.long (q2 &&& (((1 : Int64) <<< ((16 : Int32) &&& 0x3f).toInt64) - (1 : Int64)))), .second] [(.long (1 : Int64)), (.long (q2 &&& (((1 : Int64) <<< ((16 : Int32) &&& 0x3f).toInt64) - (1 : Int64))))])) _
    refine XS.aloadN X8.here hx rfl (hb hby d1_47) rfl rfl ?_
    show Steps p.tables e below (T8.setTop (mkF m 48 #[.val (.ref a1), .val (.long q2), .second, .val (.long q2), .second, .val (.long (q2 &&& (((1 : Int64) <<< ((16 : Int32) &&& 0x3f).toInt64) - (1 : Int64)))), .second] [(.ref a1), (.long (1 : Int64)), (.long (q2 &&& (((1 : Int64) <<< ((16 : Int32) &&& 0x3f).toInt64) - (1 : Int64))))])) _
    refine st9 _ ?_
    show Steps p.tables e below (T9.setTop (mkF m 51 #[.val (.ref a1), .val (.long q2), .second, .val (.long q2), .second, .val (.long (q2 &&& (((1 : Int64) <<< ((16 : Int32) &&& 0x3f).toInt64) - (1 : Int64)))), .second] [(.int (16 : Int32)), (.long (1 : Int64)), (.long (q2 &&& (((1 : Int64) <<< ((16 : Int32) &&& 0x3f).toInt64) - (1 : Int64))))])) _
    refine XS.lshl X9.here hx rfl (hb hby d1_51) rfl ?_
    show Steps p.tables e below (T9.setTop (mkF m 52 #[.val (.ref a1), .val (.long q2), .second, .val (.long q2), .second, .val (.long (q2 &&& (((1 : Int64) <<< ((16 : Int32) &&& 0x3f).toInt64) - (1 : Int64)))), .second] [(.long ((1 : Int64) <<< ((16 : Int32) &&& 0x3f).toInt64)), (.long (q2 &&& (((1 : Int64) <<< ((16 : Int32) &&& 0x3f).toInt64) - (1 : Int64))))])) _
    refine XS.lsub X9.here hx rfl (hb hby d1_52) rfl ?_
    show Steps p.tables e below (T9.setTop (mkF m 53 #[.val (.ref a1), .val (.long q2), .second, .val (.long q2), .second, .val (.long (q2 &&& (((1 : Int64) <<< ((16 : Int32) &&& 0x3f).toInt64) - (1 : Int64)))), .second] [(.long ((q2 &&& (((1 : Int64) <<< ((16 : Int32) &&& 0x3f).toInt64) - (1 : Int64))) - ((1 : Int64) <<< ((16 : Int32) &&& 0x3f).toInt64)))])) _
    refine XS.lstore X9.here hx rfl (hb hby d1_53) rfl (l' := #[.val (.ref a1), .val (.long q2), .second, .val (.long q2), .second, .val (.long ((q2 &&& (((1 : Int64) <<< ((16 : Int32) &&& 0x3f).toInt64) - (1 : Int64))) - ((1 : Int64) <<< ((16 : Int32) &&& 0x3f).toInt64))), .second]) rfl ?_
    show Steps p.tables e below (T9.setTop (mkF m 55 #[.val (.ref a1), .val (.long q2), .second, .val (.long q2), .second, .val (.long ((q2 &&& (((1 : Int64) <<< ((16 : Int32) &&& 0x3f).toInt64) - (1 : Int64))) - ((1 : Int64) <<< ((16 : Int32) &&& 0x3f).toInt64))), .second] [])) _
    refine XS.lload X9.here hx rfl (hb hby d1_55) rfl ?_
    show Steps p.tables e below (T9.setTop (mkF m 57 #[.val (.ref a1), .val (.long q2), .second, .val (.long q2), .second, .val (.long ((q2 &&& (((1 : Int64) <<< ((16 : Int32) &&& 0x3f).toInt64) - (1 : Int64))) - ((1 : Int64) <<< ((16 : Int32) &&& 0x3f).toInt64))), .second] [(.long ((q2 &&& (((1 : Int64) <<< ((16 : Int32) &&& 0x3f).toInt64) - (1 : Int64))) - ((1 : Int64) <<< ((16 : Int32) &&& 0x3f).toInt64)))])) _
    refine XS.lstoreN X9.here hx rfl (hb hby d1_57) rfl (l' := #[.val (.ref a1), .val (.long q2), .second, .val (.long ((q2 &&& (((1 : Int64) <<< ((16 : Int32) &&& 0x3f).toInt64) - (1 : Int64))) - ((1 : Int64) <<< ((16 : Int32) &&& 0x3f).toInt64))), .second, .val (.long ((q2 &&& (((1 : Int64) <<< ((16 : Int32) &&& 0x3f).toInt64) - (1 : Int64))) - ((1 : Int64) <<< ((16 : Int32) &&& 0x3f).toInt64))), .second]) rfl ?_
    show Steps p.tables e below (T9.setTop (mkF m 58 #[.val (.ref a1), .val (.long q2), .second, .val (.long ((q2 &&& (((1 : Int64) <<< ((16 : Int32) &&& 0x3f).toInt64) - (1 : Int64))) - ((1 : Int64) <<< ((16 : Int32) &&& 0x3f).toInt64))), .second, .val (.long ((q2 &&& (((1 : Int64) <<< ((16 : Int32) &&& 0x3f).toInt64) - (1 : Int64))) - ((1 : Int64) <<< ((16 : Int32) &&& 0x3f).toInt64))), .second] [])) _
    refine XS.lloadN X9.here hx rfl (hb hby d1_58) rfl ?_
    show Steps p.tables e below (T9.setTop (mkF m 59 #[.val (.ref a1), .val (.long q2), .second, .val (.long ((q2 &&& (((1 : Int64) <<< ((16 : Int32) &&& 0x3f).toInt64) - (1 : Int64))) - ((1 : Int64) <<< ((16 : Int32) &&& 0x3f).toInt64))), .second, .val (.long ((q2 &&& (((1 : Int64) <<< ((16 : Int32) &&& 0x3f).toInt64) - (1 : Int64))) - ((1 : Int64) <<< ((16 : Int32) &&& 0x3f).toInt64))), .second] [(.long ((q2 &&& (((1 : Int64) <<< ((16 : Int32) &&& 0x3f).toInt64) - (1 : Int64))) - ((1 : Int64) <<< ((16 : Int32) &&& 0x3f).toInt64)))])) _
    exact retOut X9 hx (t := .long) Bd.returns rfl (Or.inr (Or.inl ⟨rfl, rfl, _, rfl⟩)) (hb hby d1_59) hr
  · show Q1_SHORT_n Z a1 q2 h0 n0 _ T9.heap _
    rw [e9]
    exact ⟨rfl, N0, rfl⟩

def Q1_INT_p (Z : State) (a1 : Addr) (q2 : Int64) (h0 : Heap) (n0 : Nat) (v : Option Value) (h : Heap) (L : List Loc) : Prop := v = some (.long (q2 &&& (((1 : Int64) <<< ((32 : Int32) &&& 0x3f).toInt64) - (1 : Int64)))) ∧ Fr n0 L ∧ h = h0
set_option maxRecDepth 65536 in
set_option maxHeartbeats 40000000 in
theorem rm1_INT_p (l : Launch) (Z : State) (a0 : Array Value) (hw : ∀ d ∈ tables_1, d.before a0 Z = true) (ws : List Jvm.Cond) (a1 : Addr) (q2 : Int64) (h0 : Heap) (n0 : Nat) (Z0 : n0 ≤ h0.size) (F_bits_a1 : Fld Z h0 a1 "com/example/pathglass/pathglass/symbolic/InputType" "bits" "I" (.int (32 : Int32))) (F_signed_a1 : Fld Z h0 a1 "com/example/pathglass/pathglass/symbolic/InputType" "signed" "Z" (.int (1 : Int32))) (hc41 : (lcmpW (((q2 &&& (((1 : Int64) <<< ((32 : Int32) &&& 0x3f).toInt64) - (1 : Int64))).toUInt64 >>> (((32 : Int32) - (1 : Int32)) &&& 0x3f).toInt64.toUInt64).toInt64) (0 : Int64)) = (0 : Int32)) :
    MetFree l (⟨"com/example/pathglass/pathglass/symbolic/InputType", "valueOf", "(J)J"⟩ : MethodName) (head1 (Jvm.Cond.code (⟨"com/example/pathglass/pathglass/symbolic/InputType", "valueOf", "(J)J"⟩ : MethodName) prog_31_method_9_code 7 (some .long) :: ws) ({ frames := 0, cells := 0, slots := 0, locals := 0 } : Room)) (fun a U => a = #[(.ref a1), (.long q2)] ∧ Z.Warmed39 U.vm ∧ U.heap = h0) (fun _ _ _ _ _ => True) (fun _ U o U' => ∃ v L, o = .returned v ∧ Q1_INT_p Z a1 q2 h0 n0 v U'.heap L ∧ FrameEnd U o U' L ({ frames := 0, cells := 0, slots := 0, locals := 0 } : Room).cells ({ frames := 0, cells := 0, slots := 0, locals := 0 } : Room).slots) := by
  refine MetFree.of_bodySF (plainFor_of_name pn_1) hisR ?_
  intro p e s m args below meth c s₁ Bd hml0 hP hK
  obtain ⟨rfl, hZ, hh⟩ := hP
  have hx := Bd.exec
  have hby := Bd.bytes
  have hml : c.maxLocals = 7 := hml0
  have hown : s.vm.findClass "com/example/pathglass/pathglass/symbolic/InputType" = some m.cls := findClass_of_methodNamed Bd.named
  have hnm := (name_of_methodNamed Bd.named Bd.method).1
  have X0 : Stand p l e ({ frames := 0, cells := 0, slots := 0, locals := 0 } : Room) s m #[(.ref a1), (.long q2)] below meth c s₁ [] 0 0 := Stand.of_body Bd
  have e0 : s₁.heap = h0 := by rw [← hh, Bd.state]; rfl
  have N0 := Fr.nil n0
  have pre0 : ∀ t, Steps p.tables e below (s₁.setTop (mkF m 0 #[.val (.ref a1), .val (.long q2), .second, .unset, .unset, .unset, .unset] [])) t → Steps p.tables e below (s₁.setTop (entryFrame m #[(.ref a1), (.long q2)] 7)) t := fun t k => castTop (ef_1 m a1 q2) k
  -- 3. LAWS
  obtain ⟨T4, X4, e4, st4⟩ := getF X0 hx hZ hown (host := "") (Or.inl (hw _ (List.mem_of_getElem? (i := 9) rfl))) Via.refl e0 F_bits_a1 (g := (mkF m 3 #[.val (.ref a1), .val (.long q2), .second, .val (.long q2), .second, .unset, .unset] [(.ref a1)])) rfl rfl (hb hby d1_3)
  obtain ⟨T5, X5, e5, st5⟩ := getF X4 hx hZ hown (host := "") (Or.inl (hw _ (List.mem_of_getElem? (i := 9) rfl))) Via.refl e4 F_bits_a1 (g := (mkF m 14 #[.val (.ref a1), .val (.long q2), .second, .val (.long q2), .second, .unset, .unset] [(.ref a1), (.long (1 : Int64)), (.long q2)])) rfl rfl (hb hby d1_14)
  obtain ⟨T7, X7, e7, st7⟩ := getF X5 hx hZ hown (host := "") (Or.inl (hw _ (List.mem_of_getElem? (i := 11) rfl))) Via.refl e5 F_signed_a1 (g := (mkF m 24 #[.val (.ref a1), .val (.long q2), .second, .val (.long q2), .second, .val (.long (q2 &&& (((1 : Int64) <<< ((32 : Int32) &&& 0x3f).toInt64) - (1 : Int64)))), .second] [(.ref a1)])) rfl rfl (hb hby d1_24)
  obtain ⟨T8, X8, e8, st8⟩ := getF X7 hx hZ hown (host := "") (Or.inl (hw _ (List.mem_of_getElem? (i := 9) rfl))) Via.refl e7 F_bits_a1 (g := (mkF m 33 #[.val (.ref a1), .val (.long q2), .second, .val (.long q2), .second, .val (.long (q2 &&& (((1 : Int64) <<< ((32 : Int32) &&& 0x3f).toInt64) - (1 : Int64)))), .second] [(.ref a1), (.long (q2 &&& (((1 : Int64) <<< ((32 : Int32) &&& 0x3f).toInt64) - (1 : Int64))))])) rfl rfl (hb hby d1_33)
  obtain ⟨fs, hr, hrun, hended, hW, hsame⟩ := X8.leave (v := some (.long (q2 &&& (((1 : Int64) <<< ((32 : Int32) &&& 0x3f).toInt64) - (1 : Int64))))) (fun h => by rw [Bd.returns] at h; cases h)
  refine ⟨_, _, pre0 _ ?_, hrun, hended, _, _, rfl, ?_, ⟨_, rfl⟩, hW, hsame.mono (by decide) (by decide)⟩
  -- 4. STEPS
  · show Steps p.tables e below (s₁.setTop (mkF m 0 #[.val (.ref a1), .val (.long q2), .second, .unset, .unset, .unset, .unset] [])) _
    refine XS.lloadN X0.here hx rfl (hb hby d1_0) rfl ?_
    show Steps p.tables e below (s₁.setTop (mkF m 1 #[.val (.ref a1), .val (.long q2), .second, .unset, .unset, .unset, .unset] [(.long q2)])) _
    refine XS.lstoreN X0.here hx rfl (hb hby d1_1) rfl (l' := #[.val (.ref a1), .val (.long q2), .second, .val (.long q2), .second, .unset, .unset]) rfl ?_
    show Steps p.tables e below (s₁.setTop (mkF m 2 #[.val (.ref a1), .val (.long q2), .second, .val (.long q2), .second, .unset, .unset] [])) _
    refine XS.aloadN X0.here hx rfl (hb hby d1_2) rfl rfl ?_
    show Steps p.tables e below (s₁.setTop (mkF m 3 #[.val (.ref a1), .val (.long q2), .second, .val (.long q2), .second, .unset, .unset] [(.ref a1)])) _
    refine st4 _ ?_
    show Steps p.tables e below (T4.setTop (mkF m 6 #[.val (.ref a1), .val (.long q2), .second, .val (.long q2), .second, .unset, .unset] [(.int (32 : Int32))])) _
    refine XS.bipush X4.here hx rfl (hb hby d1_6) ?_
    show Steps p.tables e below (T4.setTop (mkF m 8 #[.val (.ref a1), .val (.long q2), .second, .val (.long q2), .second, .unset, .unset] [(.int (64 : Int32)), (.int (32 : Int32))])) _
    refine XS.icmpNo X4.here hx rfl (hb hby d1_8) rfl (tlt (by decide : (32 : Int32) < (64 : Int32))).2.1 ?_
    show Steps p.tables e below (T4.setTop (mkF m 11 #[.val (.ref a1), .val (.long q2), .second, .val (.long q2), .second, .unset, .unset] [])) _
    refine XS.lloadN X4.here hx rfl (hb hby d1_11) rfl ?_
    show Steps p.tables e below (T4.setTop (mkF m 12 #[.val (.ref a1), .val (.long q2), .second, .val (.long q2), .second, .unset, .unset] [(.long q2)])) _
    refine XS.lconst X4.here hx rfl (hb hby d1_12) ?_
    show Steps p.tables e below (T4.setTop (mkF m 13 #[.val (.ref a1), .val (.long q2), .second, .val (.long q2), .second, .unset, .unset] [(.long (1 : Int64)), (.long q2)])) _
    refine XS.aloadN X4.here hx rfl (hb hby d1_13) rfl rfl ?_
    show Steps p.tables e below (T4.setTop (mkF m 14 #[.val (.ref a1), .val (.long q2), .second, .val (.long q2), .second, .unset, .unset] [(.ref a1), (.long (1 : Int64)), (.long q2)])) _
    refine st5 _ ?_
    show Steps p.tables e below (T5.setTop (mkF m 17 #[.val (.ref a1), .val (.long q2), .second, .val (.long q2), .second, .unset, .unset] [(.int (32 : Int32)), (.long (1 : Int64)), (.long q2)])) _
    refine XS.lshl X5.here hx rfl (hb hby d1_17) rfl ?_
    show Steps p.tables e below (T5.setTop (mkF m 18 #[.val (.ref a1), .val (.long q2), .second, .val (.long q2), .second, .unset, .unset] [(.long ((1 : Int64) <<< ((32 : Int32) &&& 0x3f).toInt64)), (.long q2)])) _
    refine XS.lconst X5.here hx rfl (hb hby d1_18) ?_
    show Steps p.tables e below (T5.setTop (mkF m 19 #[.val (.ref a1), .val (.long q2), .second, .val (.long q2), .second, .unset, .unset] [(.long (1 : Int64)), (.long ((1 : Int64) <<< ((32 : Int32) &&& 0x3f).toInt64)), (.long q2)])) _
    refine XS.lsub X5.here hx rfl (hb hby d1_19) rfl ?_
    show Steps p.tables e below (T5.setTop (mkF m 20 #[.val (.ref a1), .val (.long q2), .second, .val (.long q2), .second, .unset, .unset] [(.long (((1 : Int64) <<< ((32 : Int32) &&& 0x3f).toInt64) - (1 : Int64))), (.long q2)])) _
    refine XS.land X5.here hx rfl (hb hby d1_20) rfl ?_
    show Steps p.tables e below (T5.setTop (mkF m 21 #[.val (.ref a1), .val (.long q2), .second, .val (.long q2), .second, .unset, .unset] [(.long (q2 &&& (((1 : Int64) <<< ((32 : Int32) &&& 0x3f).toInt64) - (1 : Int64))))])) _
    refine XS.lstore X5.here hx rfl (hb hby d1_21) rfl (l' := #[.val (.ref a1), .val (.long q2), .second, .val (.long q2), .second, .val (.long (q2 &&& (((1 : Int64) <<< ((32 : Int32) &&& 0x3f).toInt64) - (1 : Int64)))), .second]) rfl ?_
    show Steps p.tables e below (T5.setTop (mkF m 23 #[.val (.ref a1), .val (.long q2), .second, .val (.long q2), .second, .val (.long (q2 &&& (((1 : Int64) <<< ((32 : Int32) &&& 0x3f).toInt64) - (1 : Int64)))), .second] [])) _
    refine XS.aloadN X5.here hx rfl (hb hby d1_23) rfl rfl ?_
    show Steps p.tables e below (T5.setTop (mkF m 24 #[.val (.ref a1), .val (.long q2), .second, .val (.long q2), .second, .val (.long (q2 &&& (((1 : Int64) <<< ((32 : Int32) &&& 0x3f).toInt64) - (1 : Int64)))), .second] [(.ref a1)])) _
    refine st7 _ ?_
    show Steps p.tables e below (T7.setTop (mkF m 27 #[.val (.ref a1), .val (.long q2), .second, .val (.long q2), .second, .val (.long (q2 &&& (((1 : Int64) <<< ((32 : Int32) &&& 0x3f).toInt64) - (1 : Int64)))), .second] [(.int (1 : Int32))])) _
    refine XS.ifNo X7.here hx rfl (hb hby d1_27) rfl ((if0 _ _).trans (feq (by decide : ¬ ((1 : Int32) = (0 : Int32)))).1) ?_
    show Steps p.tables e below (T7.setTop (mkF m 30 #[.val (.ref a1), .val (.long q2), .second, .val (.long q2), .second, .val (.long (q2 &&& (((1 : Int64) <<< ((32 : Int32) &&& 0x3f).toInt64) - (1 : Int64)))), .second] [])) _
    refine XS.lload X7.here hx rfl (hb hby d1_30) rfl ?_
    show Steps p.tables e below (T7.setTop (mkF m 32 #[.val (.ref a1), .val (.long q2), .second, .val (.long q2), .second, .val (.long (q2 &&& (((1 : Int64) <<< ((32 : Int32) &&& 0x3f).toInt64) - (1 : Int64)))), .second] [(.long (q2 &&& (((1 : Int64) <<< ((32 : Int32) &&& 0x3f).toInt64) - (1 : Int64))))])) _
    refine XS.aloadN X7.here hx rfl (hb hby d1_32) rfl rfl ?_
    show Steps p.tables e below (T7.setTop (mkF m 33 #[.val (.ref a1), .val (.long q2), .second, .val (.long q2), .second, .val (.long (q2 &&& (((1 : Int64) <<< ((32 : Int32) &&& 0x3f).toInt64) - (1 : Int64)))), .second] [(.ref a1), (.long (q2 &&& (((1 : Int64) <<< ((32 : Int32) &&& 0x3f).toInt64) - (1 : Int64))))])) _
    refine st8 _ ?_
    show Steps p.tables e below (T8.setTop (mkF m 36 #[.val (.ref a1), .val (.long q2), .second, .val (.long q2), .second, .val (.long (q2 &&& (((1 : Int64) <<< ((32 : Int32) &&& 0x3f).toInt64) - (1 : Int64)))), .second] [(.int (32 : Int32)), (.long (q2 &&& (((1 : Int64) <<< ((32 : Int32) &&& 0x3f).toInt64) - (1 : Int64))))])) _
    refine XS.iconst X8.here hx rfl (hb hby d1_36) ?_
    show Steps p.tables e below (T8.setTop (mkF m 37 #[.val (.ref a1), .val (.long q2), .second, .val (.long q2), .second, .val (.long (q2 &&& (((1 : Int64) <<< ((32 : Int32) &&& 0x3f).toInt64) - (1 : Int64)))), .second] [(.int (1 : Int32)), (.int (32 : Int32)), (.long (q2 &&& (((1 : Int64) <<< ((32 : Int32) &&& 0x3f).toInt64) - (1 : Int64))))])) _
    refine XS.isub X8.here hx rfl (hb hby d1_37) rfl ?_
    show Steps p.tables e below (T8.setTop (mkF m 38 #[.val (.ref a1), .val (.long q2), .second, .val (.long q2), .second, .val (.long (q2 &&& (((1 : Int64) <<< ((32 : Int32) &&& 0x3f).toInt64) - (1 : Int64)))), .second] [(.int ((32 : Int32) - (1 : Int32))), (.long (q2 &&& (((1 : Int64) <<< ((32 : Int32) &&& 0x3f).toInt64) - (1 : Int64))))])) _
    refine XS.lushr X8.here hx rfl (hb hby d1_38) rfl ?_
    show Steps p.tables e below (T8.setTop (mkF m 39 #[.val (.ref a1), .val (.long q2), .second, .val (.long q2), .second, .val (.long (q2 &&& (((1 : Int64) <<< ((32 : Int32) &&& 0x3f).toInt64) - (1 : Int64)))), .second] [(.long (((q2 &&& (((1 : Int64) <<< ((32 : Int32) &&& 0x3f).toInt64) - (1 : Int64))).toUInt64 >>> (((32 : Int32) - (1 : Int32)) &&& 0x3f).toInt64.toUInt64).toInt64))])) _
    refine XS.lconst X8.here hx rfl (hb hby d1_39) ?_
    show Steps p.tables e below (T8.setTop (mkF m 40 #[.val (.ref a1), .val (.long q2), .second, .val (.long q2), .second, .val (.long (q2 &&& (((1 : Int64) <<< ((32 : Int32) &&& 0x3f).toInt64) - (1 : Int64)))), .second] [(.long (0 : Int64)), (.long (((q2 &&& (((1 : Int64) <<< ((32 : Int32) &&& 0x3f).toInt64) - (1 : Int64))).toUInt64 >>> (((32 : Int32) - (1 : Int32)) &&& 0x3f).toInt64.toUInt64).toInt64))])) _
    refine XS.lcmp X8.here hx rfl (hb hby d1_40) rfl ?_
    show Steps p.tables e below (T8.setTop (mkF m 41 #[.val (.ref a1), .val (.long q2), .second, .val (.long q2), .second, .val (.long (q2 &&& (((1 : Int64) <<< ((32 : Int32) &&& 0x3f).toInt64) - (1 : Int64)))), .second] [(.int (lcmpW (((q2 &&& (((1 : Int64) <<< ((32 : Int32) &&& 0x3f).toInt64) - (1 : Int64))).toUInt64 >>> (((32 : Int32) - (1 : Int32)) &&& 0x3f).toInt64.toUInt64).toInt64) (0 : Int64)))])) _
    refine XS.ifYes X8.here hx rfl (pc0 := 41) (pc' := 55) rfl (hb hby d1_41) rfl ((if0 _ _).trans (teq hc41).1) (by decide) (by decide) ?_
    show Steps p.tables e below (T8.setTop (mkF m 55 #[.val (.ref a1), .val (.long q2), .second, .val (.long q2), .second, .val (.long (q2 &&& (((1 : Int64) <<< ((32 : Int32) &&& 0x3f).toInt64) - (1 : Int64)))), .second] [])) _
    refine XS.lload X8.here hx rfl (hb hby d1_55) rfl ?_
    show Steps p.tables e below (T8.setTop (mkF m 57 #[.val (.ref a1), .val (.long q2), .second, .val (.long q2), .second, .val (.long (q2 &&& (((1 : Int64) <<< ((32 : Int32) &&& 0x3f).toInt64) - (1 : Int64)))), .second] [(.long (q2 &&& (((1 : Int64) <<< ((32 : Int32) &&& 0x3f).toInt64) - (1 : Int64))))])) _
    refine XS.lstoreN X8.here hx rfl (hb hby d1_57) rfl (l' := #[.val (.ref a1), .val (.long q2), .second, .val (.long (q2 &&& (((1 : Int64) <<< ((32 : Int32) &&& 0x3f).toInt64) - (1 : Int64)))), .second, .val (.long (q2 &&& (((1 : Int64) <<< ((32 : Int32) &&& 0x3f).toInt64) - (1 : Int64)))), .second]) rfl ?_
    show Steps p.tables e below (T8.setTop (mkF m 58 #[.val (.ref a1), .val (.long q2), .second, .val (.long (q2 &&& (((1 : Int64) <<< ((32 : Int32) &&& 0x3f).toInt64) - (1 : Int64)))), .second, .val (.long (q2 &&& (((1 : Int64) <<< ((32 : Int32) &&& 0x3f).toInt64) - (1 : Int64)))), .second] [])) _
    refine XS.lloadN X8.here hx rfl (hb hby d1_58) rfl ?_
    show Steps p.tables e below (T8.setTop (mkF m 59 #[.val (.ref a1), .val (.long q2), .second, .val (.long (q2 &&& (((1 : Int64) <<< ((32 : Int32) &&& 0x3f).toInt64) - (1 : Int64)))), .second, .val (.long (q2 &&& (((1 : Int64) <<< ((32 : Int32) &&& 0x3f).toInt64) - (1 : Int64)))), .second] [(.long (q2 &&& (((1 : Int64) <<< ((32 : Int32) &&& 0x3f).toInt64) - (1 : Int64))))])) _
    exact retOut X8 hx (t := .long) Bd.returns rfl (Or.inr (Or.inl ⟨rfl, rfl, _, rfl⟩)) (hb hby d1_59) hr
  · show Q1_INT_p Z a1 q2 h0 n0 _ T8.heap _
    rw [e8]
    exact ⟨rfl, N0, rfl⟩

def Q1_INT_n (Z : State) (a1 : Addr) (q2 : Int64) (h0 : Heap) (n0 : Nat) (v : Option Value) (h : Heap) (L : List Loc) : Prop := v = some (.long ((q2 &&& (((1 : Int64) <<< ((32 : Int32) &&& 0x3f).toInt64) - (1 : Int64))) - ((1 : Int64) <<< ((32 : Int32) &&& 0x3f).toInt64))) ∧ Fr n0 L ∧ h = h0
set_option maxRecDepth 65536 in
set_option maxHeartbeats 40000000 in
theorem rm1_INT_n (l : Launch) (Z : State) (a0 : Array Value) (hw : ∀ d ∈ tables_1, d.before a0 Z = true) (ws : List Jvm.Cond) (a1 : Addr) (q2 : Int64) (h0 : Heap) (n0 : Nat) (Z0 : n0 ≤ h0.size) (F_bits_a1 : Fld Z h0 a1 "com/example/pathglass/pathglass/symbolic/InputType" "bits" "I" (.int (32 : Int32))) (F_signed_a1 : Fld Z h0 a1 "com/example/pathglass/pathglass/symbolic/InputType" "signed" "Z" (.int (1 : Int32))) (hc41 : ¬ ((lcmpW (((q2 &&& (((1 : Int64) <<< ((32 : Int32) &&& 0x3f).toInt64) - (1 : Int64))).toUInt64 >>> (((32 : Int32) - (1 : Int32)) &&& 0x3f).toInt64.toUInt64).toInt64) (0 : Int64)) = (0 : Int32))) :
    MetFree l (⟨"com/example/pathglass/pathglass/symbolic/InputType", "valueOf", "(J)J"⟩ : MethodName) (head1 (Jvm.Cond.code (⟨"com/example/pathglass/pathglass/symbolic/InputType", "valueOf", "(J)J"⟩ : MethodName) prog_31_method_9_code 7 (some .long) :: ws) ({ frames := 0, cells := 0, slots := 0, locals := 0 } : Room)) (fun a U => a = #[(.ref a1), (.long q2)] ∧ Z.Warmed39 U.vm ∧ U.heap = h0) (fun _ _ _ _ _ => True) (fun _ U o U' => ∃ v L, o = .returned v ∧ Q1_INT_n Z a1 q2 h0 n0 v U'.heap L ∧ FrameEnd U o U' L ({ frames := 0, cells := 0, slots := 0, locals := 0 } : Room).cells ({ frames := 0, cells := 0, slots := 0, locals := 0 } : Room).slots) := by
  refine MetFree.of_bodySF (plainFor_of_name pn_1) hisR ?_
  intro p e s m args below meth c s₁ Bd hml0 hP hK
  obtain ⟨rfl, hZ, hh⟩ := hP
  have hx := Bd.exec
  have hby := Bd.bytes
  have hml : c.maxLocals = 7 := hml0
  have hown : s.vm.findClass "com/example/pathglass/pathglass/symbolic/InputType" = some m.cls := findClass_of_methodNamed Bd.named
  have hnm := (name_of_methodNamed Bd.named Bd.method).1
  have X0 : Stand p l e ({ frames := 0, cells := 0, slots := 0, locals := 0 } : Room) s m #[(.ref a1), (.long q2)] below meth c s₁ [] 0 0 := Stand.of_body Bd
  have e0 : s₁.heap = h0 := by rw [← hh, Bd.state]; rfl
  have N0 := Fr.nil n0
  have pre0 : ∀ t, Steps p.tables e below (s₁.setTop (mkF m 0 #[.val (.ref a1), .val (.long q2), .second, .unset, .unset, .unset, .unset] [])) t → Steps p.tables e below (s₁.setTop (entryFrame m #[(.ref a1), (.long q2)] 7)) t := fun t k => castTop (ef_1 m a1 q2) k
  -- 3. LAWS
  obtain ⟨T4, X4, e4, st4⟩ := getF X0 hx hZ hown (host := "") (Or.inl (hw _ (List.mem_of_getElem? (i := 9) rfl))) Via.refl e0 F_bits_a1 (g := (mkF m 3 #[.val (.ref a1), .val (.long q2), .second, .val (.long q2), .second, .unset, .unset] [(.ref a1)])) rfl rfl (hb hby d1_3)
  obtain ⟨T5, X5, e5, st5⟩ := getF X4 hx hZ hown (host := "") (Or.inl (hw _ (List.mem_of_getElem? (i := 9) rfl))) Via.refl e4 F_bits_a1 (g := (mkF m 14 #[.val (.ref a1), .val (.long q2), .second, .val (.long q2), .second, .unset, .unset] [(.ref a1), (.long (1 : Int64)), (.long q2)])) rfl rfl (hb hby d1_14)
  obtain ⟨T7, X7, e7, st7⟩ := getF X5 hx hZ hown (host := "") (Or.inl (hw _ (List.mem_of_getElem? (i := 11) rfl))) Via.refl e5 F_signed_a1 (g := (mkF m 24 #[.val (.ref a1), .val (.long q2), .second, .val (.long q2), .second, .val (.long (q2 &&& (((1 : Int64) <<< ((32 : Int32) &&& 0x3f).toInt64) - (1 : Int64)))), .second] [(.ref a1)])) rfl rfl (hb hby d1_24)
  obtain ⟨T8, X8, e8, st8⟩ := getF X7 hx hZ hown (host := "") (Or.inl (hw _ (List.mem_of_getElem? (i := 9) rfl))) Via.refl e7 F_bits_a1 (g := (mkF m 33 #[.val (.ref a1), .val (.long q2), .second, .val (.long q2), .second, .val (.long (q2 &&& (((1 : Int64) <<< ((32 : Int32) &&& 0x3f).toInt64) - (1 : Int64)))), .second] [(.ref a1), (.long (q2 &&& (((1 : Int64) <<< ((32 : Int32) &&& 0x3f).toInt64) - (1 : Int64))))])) rfl rfl (hb hby d1_33)
  obtain ⟨T9, X9, e9, st9⟩ := getF X8 hx hZ hown (host := "") (Or.inl (hw _ (List.mem_of_getElem? (i := 9) rfl))) Via.refl e8 F_bits_a1 (g := (mkF m 48 #[.val (.ref a1), .val (.long q2), .second, .val (.long q2), .second, .val (.long (q2 &&& (((1 : Int64) <<< ((32 : Int32) &&& 0x3f).toInt64) - (1 : Int64)))), .second] [(.ref a1), (.long (1 : Int64)), (.long (q2 &&& (((1 : Int64) <<< ((32 : Int32) &&& 0x3f).toInt64) - (1 : Int64))))])) rfl rfl (hb hby d1_48)
  obtain ⟨fs, hr, hrun, hended, hW, hsame⟩ := X9.leave (v := some (.long ((q2 &&& (((1 : Int64) <<< ((32 : Int32) &&& 0x3f).toInt64) - (1 : Int64))) - ((1 : Int64) <<< ((32 : Int32) &&& 0x3f).toInt64)))) (fun h => by rw [Bd.returns] at h; cases h)
  refine ⟨_, _, pre0 _ ?_, hrun, hended, _, _, rfl, ?_, ⟨_, rfl⟩, hW, hsame.mono (by decide) (by decide)⟩
  -- 4. STEPS
  · show Steps p.tables e below (s₁.setTop (mkF m 0 #[.val (.ref a1), .val (.long q2), .second, .unset, .unset, .unset, .unset] [])) _
    refine XS.lloadN X0.here hx rfl (hb hby d1_0) rfl ?_
    show Steps p.tables e below (s₁.setTop (mkF m 1 #[.val (.ref a1), .val (.long q2), .second, .unset, .unset, .unset, .unset] [(.long q2)])) _
    refine XS.lstoreN X0.here hx rfl (hb hby d1_1) rfl (l' := #[.val (.ref a1), .val (.long q2), .second, .val (.long q2), .second, .unset, .unset]) rfl ?_
    show Steps p.tables e below (s₁.setTop (mkF m 2 #[.val (.ref a1), .val (.long q2), .second, .val (.long q2), .second, .unset, .unset] [])) _
    refine XS.aloadN X0.here hx rfl (hb hby d1_2) rfl rfl ?_
    show Steps p.tables e below (s₁.setTop (mkF m 3 #[.val (.ref a1), .val (.long q2), .second, .val (.long q2), .second, .unset, .unset] [(.ref a1)])) _
    refine st4 _ ?_
    show Steps p.tables e below (T4.setTop (mkF m 6 #[.val (.ref a1), .val (.long q2), .second, .val (.long q2), .second, .unset, .unset] [(.int (32 : Int32))])) _
    refine XS.bipush X4.here hx rfl (hb hby d1_6) ?_
    show Steps p.tables e below (T4.setTop (mkF m 8 #[.val (.ref a1), .val (.long q2), .second, .val (.long q2), .second, .unset, .unset] [(.int (64 : Int32)), (.int (32 : Int32))])) _
    refine XS.icmpNo X4.here hx rfl (hb hby d1_8) rfl (tlt (by decide : (32 : Int32) < (64 : Int32))).2.1 ?_
    show Steps p.tables e below (T4.setTop (mkF m 11 #[.val (.ref a1), .val (.long q2), .second, .val (.long q2), .second, .unset, .unset] [])) _
    refine XS.lloadN X4.here hx rfl (hb hby d1_11) rfl ?_
    show Steps p.tables e below (T4.setTop (mkF m 12 #[.val (.ref a1), .val (.long q2), .second, .val (.long q2), .second, .unset, .unset] [(.long q2)])) _
    refine XS.lconst X4.here hx rfl (hb hby d1_12) ?_
    show Steps p.tables e below (T4.setTop (mkF m 13 #[.val (.ref a1), .val (.long q2), .second, .val (.long q2), .second, .unset, .unset] [(.long (1 : Int64)), (.long q2)])) _
    refine XS.aloadN X4.here hx rfl (hb hby d1_13) rfl rfl ?_
    show Steps p.tables e below (T4.setTop (mkF m 14 #[.val (.ref a1), .val (.long q2), .second, .val (.long q2), .second, .unset, .unset] [(.ref a1), (.long (1 : Int64)), (.long q2)])) _
    refine st5 _ ?_
    show Steps p.tables e below (T5.setTop (mkF m 17 #[.val (.ref a1), .val (.long q2), .second, .val (.long q2), .second, .unset, .unset] [(.int (32 : Int32)), (.long (1 : Int64)), (.long q2)])) _
    refine XS.lshl X5.here hx rfl (hb hby d1_17) rfl ?_
    show Steps p.tables e below (T5.setTop (mkF m 18 #[.val (.ref a1), .val (.long q2), .second, .val (.long q2), .second, .unset, .unset] [(.long ((1 : Int64) <<< ((32 : Int32) &&& 0x3f).toInt64)), (.long q2)])) _
    refine XS.lconst X5.here hx rfl (hb hby d1_18) ?_
    show Steps p.tables e below (T5.setTop (mkF m 19 #[.val (.ref a1), .val (.long q2), .second, .val (.long q2), .second, .unset, .unset] [(.long (1 : Int64)), (.long ((1 : Int64) <<< ((32 : Int32) &&& 0x3f).toInt64)), (.long q2)])) _
    refine XS.lsub X5.here hx rfl (hb hby d1_19) rfl ?_
    show Steps p.tables e below (T5.setTop (mkF m 20 #[.val (.ref a1), .val (.long q2), .second, .val (.long q2), .second, .unset, .unset] [(.long (((1 : Int64) <<< ((32 : Int32) &&& 0x3f).toInt64) - (1 : Int64))), (.long q2)])) _
    refine XS.land X5.here hx rfl (hb hby d1_20) rfl ?_
    show Steps p.tables e below (T5.setTop (mkF m 21 #[.val (.ref a1), .val (.long q2), .second, .val (.long q2), .second, .unset, .unset] [(.long (q2 &&& (((1 : Int64) <<< ((32 : Int32) &&& 0x3f).toInt64) - (1 : Int64))))])) _
    refine XS.lstore X5.here hx rfl (hb hby d1_21) rfl (l' := #[.val (.ref a1), .val (.long q2), .second, .val (.long q2), .second, .val (.long (q2 &&& (((1 : Int64) <<< ((32 : Int32) &&& 0x3f).toInt64) - (1 : Int64)))), .second]) rfl ?_
    show Steps p.tables e below (T5.setTop (mkF m 23 #[.val (.ref a1), .val (.long q2), .second, .val (.long q2), .second, .val (.long (q2 &&& (((1 : Int64) <<< ((32 : Int32) &&& 0x3f).toInt64) - (1 : Int64)))), .second] [])) _
    refine XS.aloadN X5.here hx rfl (hb hby d1_23) rfl rfl ?_
    show Steps p.tables e below (T5.setTop (mkF m 24 #[.val (.ref a1), .val (.long q2), .second, .val (.long q2), .second, .val (.long (q2 &&& (((1 : Int64) <<< ((32 : Int32) &&& 0x3f).toInt64) - (1 : Int64)))), .second] [(.ref a1)])) _
    refine st7 _ ?_
    show Steps p.tables e below (T7.setTop (mkF m 27 #[.val (.ref a1), .val (.long q2), .second, .val (.long q2), .second, .val (.long (q2 &&& (((1 : Int64) <<< ((32 : Int32) &&& 0x3f).toInt64) - (1 : Int64)))), .second] [(.int (1 : Int32))])) _
    refine XS.ifNo X7.here hx rfl (hb hby d1_27) rfl ((if0 _ _).trans (feq (by decide : ¬ ((1 : Int32) = (0 : Int32)))).1) ?_
    show Steps p.tables e below (T7.setTop (mkF m 30 #[.val (.ref a1), .val (.long q2), .second, .val (.long q2), .second, .val (.long (q2 &&& (((1 : Int64) <<< ((32 : Int32) &&& 0x3f).toInt64) - (1 : Int64)))), .second] [])) _
    refine XS.lload X7.here hx rfl (hb hby d1_30) rfl ?_
    show Steps p.tables e below (T7.setTop (mkF m 32 #[.val (.ref a1), .val (.long q2), .second, .val (.long q2), .second, .val (.long (q2 &&& (((1 : Int64) <<< ((32 : Int32) &&& 0x3f).toInt64) - (1 : Int64)))), .second] [(.long (q2 &&& (((1 : Int64) <<< ((32 : Int32) &&& 0x3f).toInt64) - (1 : Int64))))])) _
    refine XS.aloadN X7.here hx rfl (hb hby d1_32) rfl rfl ?_
    show Steps p.tables e below (T7.setTop (mkF m 33 #[.val (.ref a1), .val (.long q2), .second, .val (.long q2), .second, .val (.long (q2 &&& (((1 : Int64) <<< ((32 : Int32) &&& 0x3f).toInt64) - (1 : Int64)))), .second] [(.ref a1), (.long (q2 &&& (((1 : Int64) <<< ((32 : Int32) &&& 0x3f).toInt64) - (1 : Int64))))])) _
    refine st8 _ ?_
    show Steps p.tables e below (T8.setTop (mkF m 36 #[.val (.ref a1), .val (.long q2), .second, .val (.long q2), .second, .val (.long (q2 &&& (((1 : Int64) <<< ((32 : Int32) &&& 0x3f).toInt64) - (1 : Int64)))), .second] [(.int (32 : Int32)), (.long (q2 &&& (((1 : Int64) <<< ((32 : Int32) &&& 0x3f).toInt64) - (1 : Int64))))])) _
    refine XS.iconst X8.here hx rfl (hb hby d1_36) ?_
    show Steps p.tables e below (T8.setTop (mkF m 37 #[.val (.ref a1), .val (.long q2), .second, .val (.long q2), .second, .val (.long (q2 &&& (((1 : Int64) <<< ((32 : Int32) &&& 0x3f).toInt64) - (1 : Int64)))), .second] [(.int (1 : Int32)), (.int (32 : Int32)), (.long (q2 &&& (((1 : Int64) <<< ((32 : Int32) &&& 0x3f).toInt64) - (1 : Int64))))])) _
    refine XS.isub X8.here hx rfl (hb hby d1_37) rfl ?_
    show Steps p.tables e below (T8.setTop (mkF m 38 #[.val (.ref a1), .val (.long q2), .second, .val (.long q2), .second, .val (.long (q2 &&& (((1 : Int64) <<< ((32 : Int32) &&& 0x3f).toInt64) - (1 : Int64)))), .second] [(.int ((32 : Int32) - (1 : Int32))), (.long (q2 &&& (((1 : Int64) <<< ((32 : Int32) &&& 0x3f).toInt64) - (1 : Int64))))])) _
    refine XS.lushr X8.here hx rfl (hb hby d1_38) rfl ?_
    show Steps p.tables e below (T8.setTop (mkF m 39 #[.val (.ref a1), .val (.long q2), .second, .val (.long q2), .second, .val (.long (q2 &&& (((1 : Int64) <<< ((32 : Int32) &&& 0x3f).toInt64) - (1 : Int64)))), .second] [(.long (((q2 &&& (((1 : Int64) <<< ((32 : Int32) &&& 0x3f).toInt64) - (1 : Int64))).toUInt64 >>> (((32 : Int32) - (1 : Int32)) &&& 0x3f).toInt64.toUInt64).toInt64))])) _
    refine XS.lconst X8.here hx rfl (hb hby d1_39) ?_
    show Steps p.tables e below (T8.setTop (mkF m 40 #[.val (.ref a1), .val (.long q2), .second, .val (.long q2), .second, .val (.long (q2 &&& (((1 : Int64) <<< ((32 : Int32) &&& 0x3f).toInt64) - (1 : Int64)))), .second] [(.long (0 : Int64)), (.long (((q2 &&& (((1 : Int64) <<< ((32 : Int32) &&& 0x3f).toInt64) - (1 : Int64))).toUInt64 >>> (((32 : Int32) - (1 : Int32)) &&& 0x3f).toInt64.toUInt64).toInt64))])) _
    refine XS.lcmp X8.here hx rfl (hb hby d1_40) rfl ?_
    show Steps p.tables e below (T8.setTop (mkF m 41 #[.val (.ref a1), .val (.long q2), .second, .val (.long q2), .second, .val (.long (q2 &&& (((1 : Int64) <<< ((32 : Int32) &&& 0x3f).toInt64) - (1 : Int64)))), .second] [(.int (lcmpW (((q2 &&& (((1 : Int64) <<< ((32 : Int32) &&& 0x3f).toInt64) - (1 : Int64))).toUInt64 >>> (((32 : Int32) - (1 : Int32)) &&& 0x3f).toInt64.toUInt64).toInt64) (0 : Int64)))])) _
    refine XS.ifNo X8.here hx rfl (hb hby d1_41) rfl ((if0 _ _).trans (feq hc41).1) ?_
    show Steps p.tables e below (T8.setTop (mkF m 44 #[.val (.ref a1), .val (.long q2), .second, .val (.long q2), .second, .val (.long (q2 &&& (((1 : Int64) <<< ((32 : Int32) &&& 0x3f).toInt64) - (1 : Int64)))), .second] [])) _
    refine XS.lload X8.here hx rfl (hb hby d1_44) rfl ?_
    show Steps p.tables e below (T8.setTop (mkF m 46 #[.val (.ref a1), .val (.long q2), .second, .val (.long q2), .second, .val (.long (q2 &&& (((1 : Int64) <<< ((32 : Int32) &&& 0x3f).toInt64) - (1 : Int64)))), .second] [(.long (q2 &&& (((1 : Int64) <<< ((32 : Int32) &&& 0x3f).toInt64) - (1 : Int64))))])) _
    refine XS.lconst X8.here hx rfl (hb hby d1_46) ?_
    show Steps p.tables e below (T8.setTop (mkF m 47 #[.val (.ref a1), .val (.long q2), .second, .val (.long q2), .second, .val (.long (q2 &&& (((1 : Int64) <<< ((32 : Int32) &&& 0x3f).toInt64) - (1 : Int64)))), .second] [(.long (1 : Int64)), (.long (q2 &&& (((1 : Int64) <<< ((32 : Int32) &&& 0x3f).toInt64) - (1 : Int64))))])) _
    refine XS.aloadN X8.here hx rfl (hb hby d1_47) rfl rfl ?_
    show Steps p.tables e below (T8.setTop (mkF m 48 #[.val (.ref a1), .val (.long q2), .second, .val (.long q2), .second, .val (.long (q2 &&& (((1 : Int64) <<< ((32 : Int32) &&& 0x3f).toInt64) - (1 : Int64)))), .second] [(.ref a1), (.long (1 : Int64)), (.long (q2 &&& (((1 : Int64) <<< ((32 : Int32) &&& 0x3f).toInt64) - (1 : Int64))))])) _
    refine st9 _ ?_
    show Steps p.tables e below (T9.setTop (mkF m 51 #[.val (.ref a1), .val (.long q2), .second, .val (.long q2), .second, .val (.long (q2 &&& (((1 : Int64) <<< ((32 : Int32) &&& 0x3f).toInt64) - (1 : Int64)))), .second] [(.int (32 : Int32)), (.long (1 : Int64)), (.long (q2 &&& (((1 : Int64) <<< ((32 : Int32) &&& 0x3f).toInt64) - (1 : Int64))))])) _
    refine XS.lshl X9.here hx rfl (hb hby d1_51) rfl ?_
    show Steps p.tables e below (T9.setTop (mkF m 52 #[.val (.ref a1), .val (.long q2), .second, .val (.long q2), .second, .val (.long (q2 &&& (((1 : Int64) <<< ((32 : Int32) &&& 0x3f).toInt64) - (1 : Int64)))), .second] [(.long ((1 : Int64) <<< ((32 : Int32) &&& 0x3f).toInt64)), (.long (q2 &&& (((1 : Int64) <<< ((32 : Int32) &&& 0x3f).toInt64) - (1 : Int64))))])) _
    refine XS.lsub X9.here hx rfl (hb hby d1_52) rfl ?_
    show Steps p.tables e below (T9.setTop (mkF m 53 #[.val (.ref a1), .val (.long q2), .second, .val (.long q2), .second, .val (.long (q2 &&& (((1 : Int64) <<< ((32 : Int32) &&& 0x3f).toInt64) - (1 : Int64)))), .second] [(.long ((q2 &&& (((1 : Int64) <<< ((32 : Int32) &&& 0x3f).toInt64) - (1 : Int64))) - ((1 : Int64) <<< ((32 : Int32) &&& 0x3f).toInt64)))])) _
    refine XS.lstore X9.here hx rfl (hb hby d1_53) rfl (l' := #[.val (.ref a1), .val (.long q2), .second, .val (.long q2), .second, .val (.long ((q2 &&& (((1 : Int64) <<< ((32 : Int32) &&& 0x3f).toInt64) - (1 : Int64))) - ((1 : Int64) <<< ((32 : Int32) &&& 0x3f).toInt64))), .second]) rfl ?_
    show Steps p.tables e below (T9.setTop (mkF m 55 #[.val (.ref a1), .val (.long q2), .second, .val (.long q2), .second, .val (.long ((q2 &&& (((1 : Int64) <<< ((32 : Int32) &&& 0x3f).toInt64) - (1 : Int64))) - ((1 : Int64) <<< ((32 : Int32) &&& 0x3f).toInt64))), .second] [])) _
    refine XS.lload X9.here hx rfl (hb hby d1_55) rfl ?_
    show Steps p.tables e below (T9.setTop (mkF m 57 #[.val (.ref a1), .val (.long q2), .second, .val (.long q2), .second, .val (.long ((q2 &&& (((1 : Int64) <<< ((32 : Int32) &&& 0x3f).toInt64) - (1 : Int64))) - ((1 : Int64) <<< ((32 : Int32) &&& 0x3f).toInt64))), .second] [(.long ((q2 &&& (((1 : Int64) <<< ((32 : Int32) &&& 0x3f).toInt64) - (1 : Int64))) - ((1 : Int64) <<< ((32 : Int32) &&& 0x3f).toInt64)))])) _
    refine XS.lstoreN X9.here hx rfl (hb hby d1_57) rfl (l' := #[.val (.ref a1), .val (.long q2), .second, .val (.long ((q2 &&& (((1 : Int64) <<< ((32 : Int32) &&& 0x3f).toInt64) - (1 : Int64))) - ((1 : Int64) <<< ((32 : Int32) &&& 0x3f).toInt64))), .second, .val (.long ((q2 &&& (((1 : Int64) <<< ((32 : Int32) &&& 0x3f).toInt64) - (1 : Int64))) - ((1 : Int64) <<< ((32 : Int32) &&& 0x3f).toInt64))), .second]) rfl ?_
    show Steps p.tables e below (T9.setTop (mkF m 58 #[.val (.ref a1), .val (.long q2), .second, .val (.long ((q2 &&& (((1 : Int64) <<< ((32 : Int32) &&& 0x3f).toInt64) - (1 : Int64))) - ((1 : Int64) <<< ((32 : Int32) &&& 0x3f).toInt64))), .second, .val (.long ((q2 &&& (((1 : Int64) <<< ((32 : Int32) &&& 0x3f).toInt64) - (1 : Int64))) - ((1 : Int64) <<< ((32 : Int32) &&& 0x3f).toInt64))), .second] [])) _
    refine XS.lloadN X9.here hx rfl (hb hby d1_58) rfl ?_
    show Steps p.tables e below (T9.setTop (mkF m 59 #[.val (.ref a1), .val (.long q2), .second, .val (.long ((q2 &&& (((1 : Int64) <<< ((32 : Int32) &&& 0x3f).toInt64) - (1 : Int64))) - ((1 : Int64) <<< ((32 : Int32) &&& 0x3f).toInt64))), .second, .val (.long ((q2 &&& (((1 : Int64) <<< ((32 : Int32) &&& 0x3f).toInt64) - (1 : Int64))) - ((1 : Int64) <<< ((32 : Int32) &&& 0x3f).toInt64))), .second] [(.long ((q2 &&& (((1 : Int64) <<< ((32 : Int32) &&& 0x3f).toInt64) - (1 : Int64))) - ((1 : Int64) <<< ((32 : Int32) &&& 0x3f).toInt64)))])) _
    exact retOut X9 hx (t := .long) Bd.returns rfl (Or.inr (Or.inl ⟨rfl, rfl, _, rfl⟩)) (hb hby d1_59) hr
  · show Q1_INT_n Z a1 q2 h0 n0 _ T9.heap _
    rw [e9]
    exact ⟨rfl, N0, rfl⟩

def Q1_LONG (Z : State) (a1 : Addr) (q2 : Int64) (h0 : Heap) (n0 : Nat) (v : Option Value) (h : Heap) (L : List Loc) : Prop := v = some (.long q2) ∧ Fr n0 L ∧ h = h0
set_option maxRecDepth 65536 in
set_option maxHeartbeats 40000000 in
theorem rm1_LONG (l : Launch) (Z : State) (a0 : Array Value) (hw : ∀ d ∈ tables_1, d.before a0 Z = true) (ws : List Jvm.Cond) (a1 : Addr) (q2 : Int64) (h0 : Heap) (n0 : Nat) (Z0 : n0 ≤ h0.size) (F_bits_a1 : Fld Z h0 a1 "com/example/pathglass/pathglass/symbolic/InputType" "bits" "I" (.int (64 : Int32))) :
    MetFree l (⟨"com/example/pathglass/pathglass/symbolic/InputType", "valueOf", "(J)J"⟩ : MethodName) (head1 (Jvm.Cond.code (⟨"com/example/pathglass/pathglass/symbolic/InputType", "valueOf", "(J)J"⟩ : MethodName) prog_31_method_9_code 7 (some .long) :: ws) ({ frames := 0, cells := 0, slots := 0, locals := 0 } : Room)) (fun a U => a = #[(.ref a1), (.long q2)] ∧ Z.Warmed39 U.vm ∧ U.heap = h0) (fun _ _ _ _ _ => True) (fun _ U o U' => ∃ v L, o = .returned v ∧ Q1_LONG Z a1 q2 h0 n0 v U'.heap L ∧ FrameEnd U o U' L ({ frames := 0, cells := 0, slots := 0, locals := 0 } : Room).cells ({ frames := 0, cells := 0, slots := 0, locals := 0 } : Room).slots) := by
  refine MetFree.of_bodySF (plainFor_of_name pn_1) hisR ?_
  intro p e s m args below meth c s₁ Bd hml0 hP hK
  obtain ⟨rfl, hZ, hh⟩ := hP
  have hx := Bd.exec
  have hby := Bd.bytes
  have hml : c.maxLocals = 7 := hml0
  have hown : s.vm.findClass "com/example/pathglass/pathglass/symbolic/InputType" = some m.cls := findClass_of_methodNamed Bd.named
  have hnm := (name_of_methodNamed Bd.named Bd.method).1
  have X0 : Stand p l e ({ frames := 0, cells := 0, slots := 0, locals := 0 } : Room) s m #[(.ref a1), (.long q2)] below meth c s₁ [] 0 0 := Stand.of_body Bd
  have e0 : s₁.heap = h0 := by rw [← hh, Bd.state]; rfl
  have N0 := Fr.nil n0
  have pre0 : ∀ t, Steps p.tables e below (s₁.setTop (mkF m 0 #[.val (.ref a1), .val (.long q2), .second, .unset, .unset, .unset, .unset] [])) t → Steps p.tables e below (s₁.setTop (entryFrame m #[(.ref a1), (.long q2)] 7)) t := fun t k => castTop (ef_1 m a1 q2) k
  -- 3. LAWS
  obtain ⟨T4, X4, e4, st4⟩ := getF X0 hx hZ hown (host := "") (Or.inl (hw _ (List.mem_of_getElem? (i := 9) rfl))) Via.refl e0 F_bits_a1 (g := (mkF m 3 #[.val (.ref a1), .val (.long q2), .second, .val (.long q2), .second, .unset, .unset] [(.ref a1)])) rfl rfl (hb hby d1_3)
  obtain ⟨fs, hr, hrun, hended, hW, hsame⟩ := X4.leave (v := some (.long q2)) (fun h => by rw [Bd.returns] at h; cases h)
  refine ⟨_, _, pre0 _ ?_, hrun, hended, _, _, rfl, ?_, ⟨_, rfl⟩, hW, hsame.mono (by decide) (by decide)⟩
  -- 4. STEPS
  · show Steps p.tables e below (s₁.setTop (mkF m 0 #[.val (.ref a1), .val (.long q2), .second, .unset, .unset, .unset, .unset] [])) _
    refine XS.lloadN X0.here hx rfl (hb hby d1_0) rfl ?_
    show Steps p.tables e below (s₁.setTop (mkF m 1 #[.val (.ref a1), .val (.long q2), .second, .unset, .unset, .unset, .unset] [(.long q2)])) _
    refine XS.lstoreN X0.here hx rfl (hb hby d1_1) rfl (l' := #[.val (.ref a1), .val (.long q2), .second, .val (.long q2), .second, .unset, .unset]) rfl ?_
    show Steps p.tables e below (s₁.setTop (mkF m 2 #[.val (.ref a1), .val (.long q2), .second, .val (.long q2), .second, .unset, .unset] [])) _
    refine XS.aloadN X0.here hx rfl (hb hby d1_2) rfl rfl ?_
    show Steps p.tables e below (s₁.setTop (mkF m 3 #[.val (.ref a1), .val (.long q2), .second, .val (.long q2), .second, .unset, .unset] [(.ref a1)])) _
    refine st4 _ ?_
    show Steps p.tables e below (T4.setTop (mkF m 6 #[.val (.ref a1), .val (.long q2), .second, .val (.long q2), .second, .unset, .unset] [(.int (64 : Int32))])) _
    refine XS.bipush X4.here hx rfl (hb hby d1_6) ?_
    show Steps p.tables e below (T4.setTop (mkF m 8 #[.val (.ref a1), .val (.long q2), .second, .val (.long q2), .second, .unset, .unset] [(.int (64 : Int32)), (.int (64 : Int32))])) _
    refine XS.icmpYes X4.here hx rfl (pc0 := 8) (pc' := 58) rfl (hb hby d1_8) rfl (flt (by decide : ¬ ((64 : Int32) < (64 : Int32)))).2.1 (by decide) (by decide) ?_
    show Steps p.tables e below (T4.setTop (mkF m 58 #[.val (.ref a1), .val (.long q2), .second, .val (.long q2), .second, .unset, .unset] [])) _
    refine XS.lloadN X4.here hx rfl (hb hby d1_58) rfl ?_
    show Steps p.tables e below (T4.setTop (mkF m 59 #[.val (.ref a1), .val (.long q2), .second, .val (.long q2), .second, .unset, .unset] [(.long q2)])) _
    exact retOut X4 hx (t := .long) Bd.returns rfl (Or.inr (Or.inl ⟨rfl, rfl, _, rfl⟩)) (hb hby d1_59) hr
  · show Q1_LONG Z a1 q2 h0 n0 _ T4.heap _
    rw [e4]
    exact ⟨rfl, N0, rfl⟩

theorem own_BOOLEAN (x : Int64) : (lcmpW (x &&& (((1 : Int64) <<< ((1 : Int32) &&& 0x3f).toInt64) - (1 : Int64))) (x &&& (1 : Int64))) = (0 : Int32) := by
  have hM : (((1 : Int64) <<< ((1 : Int32) &&& 0x3f).toInt64) - (1 : Int64)) = (1 : Int64) := by decide +kernel
  rw [hM]
  exact (lw_eq _ _).mpr rfl

theorem own_BYTE_p (x : Int64) (hs : (lcmpW (((x &&& (((1 : Int64) <<< ((8 : Int32) &&& 0x3f).toInt64) - (1 : Int64))).toUInt64 >>> (((8 : Int32) - (1 : Int32)) &&& 0x3f).toInt64.toUInt64).toInt64) (0 : Int64)) = (0 : Int32)) : (lcmpW (x &&& (((1 : Int64) <<< ((8 : Int32) &&& 0x3f).toInt64) - (1 : Int64))) (((x.toInt32)).toInt8.toInt32).toInt64) = (0 : Int32) := by
  have hB : ((1 : Int64) <<< ((8 : Int32) &&& 0x3f).toInt64) = (256 : Int64) := by decide +kernel
  have hM : ((256 : Int64) - (1 : Int64)) = (255 : Int64) := by decide +kernel
  rw [hB, hM] at hs
  have hm2 : (256 : Int64).toInt = 256 := by decide +kernel
  rw [hB, hM]
  have hm : (x &&& (255 : Int64)).toInt = x.toInt % 256 := c_maskL x 255 8 (by decide) (by decide +kernel)
  have hl : ((((x &&& (255 : Int64)).toUInt64 >>> (((8 : Int32) - (1 : Int32)) &&& 0x3f).toInt64.toUInt64).toInt64)).toInt = ((x &&& (255 : Int64)).toInt % 18446744073709551616) / 128 := c_lushr (x &&& (255 : Int64)) ((8 : Int32) - (1 : Int32)) 7 (by decide +kernel) (by decide)
  rw [lw_eq, ← Int64.toInt_inj, hl] at hs
  have z0 : (0 : Int64).toInt = 0 := rfl
  rw [z0] at hs
  rw [lw_eq, ← Int64.toInt_inj, c_i2l]
  rw [hm]
  have q1 := c_l2i x
  have q2 := rng32 x.toInt32
  have q3 := c_i2b x.toInt32
  rw [hm] at hs
  omega
theorem own_BYTE_n (x : Int64) (hs : ¬ ((lcmpW (((x &&& (((1 : Int64) <<< ((8 : Int32) &&& 0x3f).toInt64) - (1 : Int64))).toUInt64 >>> (((8 : Int32) - (1 : Int32)) &&& 0x3f).toInt64.toUInt64).toInt64) (0 : Int64)) = (0 : Int32))) : (lcmpW ((x &&& (((1 : Int64) <<< ((8 : Int32) &&& 0x3f).toInt64) - (1 : Int64))) - ((1 : Int64) <<< ((8 : Int32) &&& 0x3f).toInt64)) (((x.toInt32)).toInt8.toInt32).toInt64) = (0 : Int32) := by
  have hB : ((1 : Int64) <<< ((8 : Int32) &&& 0x3f).toInt64) = (256 : Int64) := by decide +kernel
  have hM : ((256 : Int64) - (1 : Int64)) = (255 : Int64) := by decide +kernel
  rw [hB, hM] at hs
  have hm2 : (256 : Int64).toInt = 256 := by decide +kernel
  rw [hB, hM]
  have hm : (x &&& (255 : Int64)).toInt = x.toInt % 256 := c_maskL x 255 8 (by decide) (by decide +kernel)
  have hl : ((((x &&& (255 : Int64)).toUInt64 >>> (((8 : Int32) - (1 : Int32)) &&& 0x3f).toInt64.toUInt64).toInt64)).toInt = ((x &&& (255 : Int64)).toInt % 18446744073709551616) / 128 := c_lushr (x &&& (255 : Int64)) ((8 : Int32) - (1 : Int32)) 7 (by decide +kernel) (by decide)
  rw [lw_eq, ← Int64.toInt_inj, hl] at hs
  have z0 : (0 : Int64).toInt = 0 := rfl
  rw [z0] at hs
  rw [lw_eq, ← Int64.toInt_inj, c_i2l]
  have hd := c_lsub (x &&& (255 : Int64)) (256 : Int64)
  have r1 := rng64 ((x &&& (255 : Int64)) - (256 : Int64))
  rw [hm, hm2] at hd
  have q1 := c_l2i x
  have q2 := rng32 x.toInt32
  have q3 := c_i2b x.toInt32
  rw [hm] at hs
  omega

theorem own_CHAR (x : Int64) : (lcmpW (x &&& (((1 : Int64) <<< ((16 : Int32) &&& 0x3f).toInt64) - (1 : Int64))) (((x.toInt32).toUInt32.toUInt16.toUInt32.toInt32)).toInt64) = (0 : Int32) := by
  have hB : ((1 : Int64) <<< ((16 : Int32) &&& 0x3f).toInt64) = (65536 : Int64) := by decide +kernel
  have hM : ((65536 : Int64) - (1 : Int64)) = (65535 : Int64) := by decide +kernel
  rw [hB, hM]
  have hm : (x &&& (65535 : Int64)).toInt = x.toInt % 65536 := c_maskL x 65535 16 (by decide) (by decide +kernel)
  rw [lw_eq, ← Int64.toInt_inj, c_i2l]
  rw [hm]
  have q1 := c_l2i x
  have q2 := rng32 x.toInt32
  have q3 := c_i2c x.toInt32
  omega

theorem own_SHORT_p (x : Int64) (hs : (lcmpW (((x &&& (((1 : Int64) <<< ((16 : Int32) &&& 0x3f).toInt64) - (1 : Int64))).toUInt64 >>> (((16 : Int32) - (1 : Int32)) &&& 0x3f).toInt64.toUInt64).toInt64) (0 : Int64)) = (0 : Int32)) : (lcmpW (x &&& (((1 : Int64) <<< ((16 : Int32) &&& 0x3f).toInt64) - (1 : Int64))) (((x.toInt32).toInt16.toInt32)).toInt64) = (0 : Int32) := by
  have hB : ((1 : Int64) <<< ((16 : Int32) &&& 0x3f).toInt64) = (65536 : Int64) := by decide +kernel
  have hM : ((65536 : Int64) - (1 : Int64)) = (65535 : Int64) := by decide +kernel
  rw [hB, hM] at hs
  have hm2 : (65536 : Int64).toInt = 65536 := by decide +kernel
  rw [hB, hM]
  have hm : (x &&& (65535 : Int64)).toInt = x.toInt % 65536 := c_maskL x 65535 16 (by decide) (by decide +kernel)
  have hl : ((((x &&& (65535 : Int64)).toUInt64 >>> (((16 : Int32) - (1 : Int32)) &&& 0x3f).toInt64.toUInt64).toInt64)).toInt = ((x &&& (65535 : Int64)).toInt % 18446744073709551616) / 32768 := c_lushr (x &&& (65535 : Int64)) ((16 : Int32) - (1 : Int32)) 15 (by decide +kernel) (by decide)
  rw [lw_eq, ← Int64.toInt_inj, hl] at hs
  have z0 : (0 : Int64).toInt = 0 := rfl
  rw [z0] at hs
  rw [lw_eq, ← Int64.toInt_inj, c_i2l]
  rw [hm]
  have q1 := c_l2i x
  have q2 := rng32 x.toInt32
  have q3 := c_i2s x.toInt32
  rw [hm] at hs
  omega
theorem own_SHORT_n (x : Int64) (hs : ¬ ((lcmpW (((x &&& (((1 : Int64) <<< ((16 : Int32) &&& 0x3f).toInt64) - (1 : Int64))).toUInt64 >>> (((16 : Int32) - (1 : Int32)) &&& 0x3f).toInt64.toUInt64).toInt64) (0 : Int64)) = (0 : Int32))) : (lcmpW ((x &&& (((1 : Int64) <<< ((16 : Int32) &&& 0x3f).toInt64) - (1 : Int64))) - ((1 : Int64) <<< ((16 : Int32) &&& 0x3f).toInt64)) (((x.toInt32).toInt16.toInt32)).toInt64) = (0 : Int32) := by
  have hB : ((1 : Int64) <<< ((16 : Int32) &&& 0x3f).toInt64) = (65536 : Int64) := by decide +kernel
  have hM : ((65536 : Int64) - (1 : Int64)) = (65535 : Int64) := by decide +kernel
  rw [hB, hM] at hs
  have hm2 : (65536 : Int64).toInt = 65536 := by decide +kernel
  rw [hB, hM]
  have hm : (x &&& (65535 : Int64)).toInt = x.toInt % 65536 := c_maskL x 65535 16 (by decide) (by decide +kernel)
  have hl : ((((x &&& (65535 : Int64)).toUInt64 >>> (((16 : Int32) - (1 : Int32)) &&& 0x3f).toInt64.toUInt64).toInt64)).toInt = ((x &&& (65535 : Int64)).toInt % 18446744073709551616) / 32768 := c_lushr (x &&& (65535 : Int64)) ((16 : Int32) - (1 : Int32)) 15 (by decide +kernel) (by decide)
  rw [lw_eq, ← Int64.toInt_inj, hl] at hs
  have z0 : (0 : Int64).toInt = 0 := rfl
  rw [z0] at hs
  rw [lw_eq, ← Int64.toInt_inj, c_i2l]
  have hd := c_lsub (x &&& (65535 : Int64)) (65536 : Int64)
  have r1 := rng64 ((x &&& (65535 : Int64)) - (65536 : Int64))
  rw [hm, hm2] at hd
  have q1 := c_l2i x
  have q2 := rng32 x.toInt32
  have q3 := c_i2s x.toInt32
  rw [hm] at hs
  omega

theorem own_INT_p (x : Int64) (hs : (lcmpW (((x &&& (((1 : Int64) <<< ((32 : Int32) &&& 0x3f).toInt64) - (1 : Int64))).toUInt64 >>> (((32 : Int32) - (1 : Int32)) &&& 0x3f).toInt64.toUInt64).toInt64) (0 : Int64)) = (0 : Int32)) : (lcmpW (x &&& (((1 : Int64) <<< ((32 : Int32) &&& 0x3f).toInt64) - (1 : Int64))) ((x.toInt32)).toInt64) = (0 : Int32) := by
  have hB : ((1 : Int64) <<< ((32 : Int32) &&& 0x3f).toInt64) = (4294967296 : Int64) := by decide +kernel
  have hM : ((4294967296 : Int64) - (1 : Int64)) = (4294967295 : Int64) := by decide +kernel
  rw [hB, hM] at hs
  have hm2 : (4294967296 : Int64).toInt = 4294967296 := by decide +kernel
  rw [hB, hM]
  have hm : (x &&& (4294967295 : Int64)).toInt = x.toInt % 4294967296 := c_maskL x 4294967295 32 (by decide) (by decide +kernel)
  have hl : ((((x &&& (4294967295 : Int64)).toUInt64 >>> (((32 : Int32) - (1 : Int32)) &&& 0x3f).toInt64.toUInt64).toInt64)).toInt = ((x &&& (4294967295 : Int64)).toInt % 18446744073709551616) / 2147483648 := c_lushr (x &&& (4294967295 : Int64)) ((32 : Int32) - (1 : Int32)) 31 (by decide +kernel) (by decide)
  rw [lw_eq, ← Int64.toInt_inj, hl] at hs
  have z0 : (0 : Int64).toInt = 0 := rfl
  rw [z0] at hs
  rw [lw_eq, ← Int64.toInt_inj, c_i2l]
  rw [hm]
  have q1 := c_l2i x
  have q2 := rng32 x.toInt32
  rw [hm] at hs
  omega
theorem own_INT_n (x : Int64) (hs : ¬ ((lcmpW (((x &&& (((1 : Int64) <<< ((32 : Int32) &&& 0x3f).toInt64) - (1 : Int64))).toUInt64 >>> (((32 : Int32) - (1 : Int32)) &&& 0x3f).toInt64.toUInt64).toInt64) (0 : Int64)) = (0 : Int32))) : (lcmpW ((x &&& (((1 : Int64) <<< ((32 : Int32) &&& 0x3f).toInt64) - (1 : Int64))) - ((1 : Int64) <<< ((32 : Int32) &&& 0x3f).toInt64)) ((x.toInt32)).toInt64) = (0 : Int32) := by
  have hB : ((1 : Int64) <<< ((32 : Int32) &&& 0x3f).toInt64) = (4294967296 : Int64) := by decide +kernel
  have hM : ((4294967296 : Int64) - (1 : Int64)) = (4294967295 : Int64) := by decide +kernel
  rw [hB, hM] at hs
  have hm2 : (4294967296 : Int64).toInt = 4294967296 := by decide +kernel
  rw [hB, hM]
  have hm : (x &&& (4294967295 : Int64)).toInt = x.toInt % 4294967296 := c_maskL x 4294967295 32 (by decide) (by decide +kernel)
  have hl : ((((x &&& (4294967295 : Int64)).toUInt64 >>> (((32 : Int32) - (1 : Int32)) &&& 0x3f).toInt64.toUInt64).toInt64)).toInt = ((x &&& (4294967295 : Int64)).toInt % 18446744073709551616) / 2147483648 := c_lushr (x &&& (4294967295 : Int64)) ((32 : Int32) - (1 : Int32)) 31 (by decide +kernel) (by decide)
  rw [lw_eq, ← Int64.toInt_inj, hl] at hs
  have z0 : (0 : Int64).toInt = 0 := rfl
  rw [z0] at hs
  rw [lw_eq, ← Int64.toInt_inj, c_i2l]
  have hd := c_lsub (x &&& (4294967295 : Int64)) (4294967296 : Int64)
  have r1 := rng64 ((x &&& (4294967295 : Int64)) - (4294967296 : Int64))
  rw [hm, hm2] at hd
  have q1 := c_l2i x
  have q2 := rng32 x.toInt32
  rw [hm] at hs
  omega

theorem own_LONG (x : Int64) : (lcmpW x x) = (0 : Int32) := (lw_eq _ _).mpr rfl

def Q0 (n0 : Nat) (v : Option Value) (L : List Loc) : Prop := v = some (.int (1 : Int32)) ∧ Fr n0 L

theorem pn_0 : plainName "com/example/pathglass/pathglass/symbolic/InputTypeValueOfPinLaw" = true := by first | (simp [plainName, overriddenIn]; done) | decide +kernel
theorem pd_0_0 : parseMethodDescriptor "(J)J" = some ⟨[.long], some .long⟩ := by decide +kernel
theorem ef_0 (m : MethodId) (x0 : Int32) (x1 : Int64) : entryFrame m #[(.int x0), (.long x1)] maxLocals = mkF m 0 #[.val (.int x0), .val (.long x1), .second, .unset, .unset, .unset, .unset] [] := by first | (simp [entryFrame, mkF, argsToLocals, Value.category, maxLocals]; done) | rfl
set_option maxRecDepth 65536 in
set_option maxHeartbeats 40000000 in
theorem rm0_BOOLEAN (l : Launch) (Z : State) (a0 : Array Value) (hw : ∀ d ∈ tables_1, d.before a0 Z = true) (ws : List Jvm.Cond) (p1 : Int32) (q2 : Int64) (w3 : Addr)  (h0 : Heap) (n0 : Nat) (Z0 : n0 ≤ h0.size) (F_bits : Fld Z h0 w3 "com/example/pathglass/pathglass/symbolic/InputType" "bits" "I" (.int (1 : Int32))) (F_signed : Fld Z h0 w3 "com/example/pathglass/pathglass/symbolic/InputType" "signed" "Z" (.int (0 : Int32))) (S_BOOLEAN : Sta Z h0 "com/example/pathglass/pathglass/symbolic/InputType" "BOOLEAN" "Lcom/example/pathglass/pathglass/symbolic/InputType;" (.ref w3)) (E_w3 : Exa Z h0 w3 "com/example/pathglass/pathglass/symbolic/InputType") (hc9 : ((p1 &&& (2147483647 : Int32)) % (6 : Int32)) = (0 : Int32)) (hc117 : (lcmpW (q2 &&& (((1 : Int64) <<< ((1 : Int32) &&& 0x3f).toInt64) - (1 : Int64))) (q2 &&& (1 : Int64))) = (0 : Int32)) :
    MetFree l x (head1 (Jvm.Cond.code x code maxLocals ret :: ws) room_1) (fun a U => a = #[(.int p1), (.long q2)] ∧ Z.Warmed39 U.vm ∧ U.heap = h0) (fun _ _ _ _ _ => True) (fun _ U o U' => ∃ v L, o = .returned v ∧ Q0 n0 v L ∧ FrameEnd U o U' L room_1.cells room_1.slots) := by
  refine MetFree.of_bodySF (plainFor_of_name pn_0) hisR ?_
  intro p e s m args below meth c s₁ Bd hml0 hP hK
  obtain ⟨rfl, hZ, hh⟩ := hP
  have hx := Bd.exec
  have hby := Bd.bytes
  have hml : c.maxLocals = 7 := hml0
  have hown : s.vm.findClass "com/example/pathglass/pathglass/symbolic/InputTypeValueOfPinLaw" = some m.cls := findClass_of_methodNamed Bd.named
  have hnm := (name_of_methodNamed Bd.named Bd.method).1
  have X0 : Stand p l e room_1 s m #[(.int p1), (.long q2)] below meth c s₁ [] 0 0 := Stand.of_body Bd
  have e0 : s₁.heap = h0 := by rw [← hh, Bd.state]; rfl
  have N0 := Fr.nil n0
  have pre0 : ∀ t, Steps p.tables e below (s₁.setTop (mkF m 0 #[.val (.int p1), .val (.long q2), .second, .unset, .unset, .unset, .unset] [])) t → Steps p.tables e below (s₁.setTop (entryFrame m #[(.int p1), (.long q2)] maxLocals)) t := fun t k => castTop (ef_0 m p1 q2) k
  -- 3. LAWS
  obtain ⟨T4, X4, e4, st4⟩ := getS2 X0 hx hZ hown (host := "") (Or.inl (hw _ (List.mem_of_getElem? (i := 1) rfl))) Via.refl e0 S_BOOLEAN (g := (mkF m 12 #[.val (.int p1), .val (.long q2), .second, .val (.int ((p1 &&& (2147483647 : Int32)) % (6 : Int32))), .unset, .unset, .unset] [])) rfl (hb hby at_12)
  -- pc 111: com/example/pathglass/pathglass/symbolic/InputType.valueOf by the contract of the body that the receiver's class selects, rm1
  obtain ⟨cq5, kq5, q5a, q5b, q5c⟩ := isOf hZ e4 E_w3
  obtain ⟨_, _, ⟨T5, L5, k5, n5⟩, -, X5, ⟨Lc5, hQ5, l5, y5, z5⟩, st5⟩ := X4.virtualBack hx (y := (⟨"com/example/pathglass/pathglass/symbolic/InputType", "valueOf", "(J)J"⟩ : MethodName)) (z := (⟨"com/example/pathglass/pathglass/symbolic/InputType", "valueOf", "(J)J"⟩ : MethodName)) hown (mvT hZ (hw _ (List.mem_of_getElem? (i := 4) rfl))) (mvT hZ (hw _ (List.mem_of_getElem? (i := 5) rfl))) (notFace_of_selects (args := #[]) (mvT hZ (hw _ (List.mem_of_getElem? (i := 7) rfl)))) (mvT hZ (hw _ (List.mem_of_getElem? (i := 7) rfl))) (mvT hZ (hw _ (List.mem_of_getElem? (i := 6) rfl))) (by decide) (backOf (W := 0) (rm1_BOOLEAN l Z a0 hw [] w3 q2  h0 n0 Z0 F_bits F_signed) hZ (hw _ (List.mem_of_getElem? (i := 8) rfl)) (hw _ (List.mem_of_getElem? (i := 2) rfl)) (by decide) (by decide)) q5a q5c (g := (mkF m 111 #[.val (.int p1), .val (.long q2), .second, .val (.int ((p1 &&& (2147483647 : Int32)) % (6 : Int32))), .val (.ref w3), .val (.long (q2 &&& (1 : Int64))), .second] [(.long q2), (.ref w3)])) rfl (by rw [hml]; rfl) (Steps.refl _) (argsL := [(.long q2)]) (rest := []) (lenOf pd_0_0 rfl) rfl (by show 2 * 0 + _ ≤ _; exact Nat.le_of_eq rfl) (hb hby at_111) (fun _ _ => ⟨rfl, e4, (by decide : 0 + 0 ≤ _), (by decide : 0 + 0 ≤ _)⟩)
  dsimp only [Pt.U, Pt.locs, Pt.cells, Pt.slots] at X5 l5 y5 z5 st5 hQ5
  subst l5 y5 z5
  obtain ⟨rfl, N5q, hh5⟩ := hQ5
  have N5 := Fr.app N0 N5q
  obtain ⟨fs, hr, hrun, hended, hW, hsame⟩ := X5.leave (v := some (.int (1 : Int32))) (fun h => by rw [Bd.returns] at h; cases h)
  refine ⟨_, _, pre0 _ ?_, hrun, hended, _, _, rfl, ?_, ⟨_, rfl⟩, hW, hsame.mono (by decide) (by decide)⟩
  -- 4. STEPS
  · show Steps p.tables e below (s₁.setTop (mkF m 0 #[.val (.int p1), .val (.long q2), .second, .unset, .unset, .unset, .unset] [])) _
    refine XS.iloadN X0.here hx rfl (hb hby at_0) rfl ?_
    show Steps p.tables e below (s₁.setTop (mkF m 1 #[.val (.int p1), .val (.long q2), .second, .unset, .unset, .unset, .unset] [(.int p1)])) _
    refine X0.ldcInt hx hown (mvT hZ (hw _ (List.mem_of_getElem? (i := 0) rfl))) (g := (mkF m 1 #[.val (.int p1), .val (.long q2), .second, .unset, .unset, .unset, .unset] [(.int p1)])) rfl (hb hby at_1) _ ?_
    show Steps p.tables e below (s₁.setTop (mkF m 3 #[.val (.int p1), .val (.long q2), .second, .unset, .unset, .unset, .unset] [(.int (2147483647 : Int32)), (.int p1)])) _
    refine XS.iand X0.here hx rfl (hb hby at_3) rfl ?_
    show Steps p.tables e below (s₁.setTop (mkF m 4 #[.val (.int p1), .val (.long q2), .second, .unset, .unset, .unset, .unset] [(.int (p1 &&& (2147483647 : Int32)))])) _
    refine XS.bipush X0.here hx rfl (hb hby at_4) ?_
    show Steps p.tables e below (s₁.setTop (mkF m 6 #[.val (.int p1), .val (.long q2), .second, .unset, .unset, .unset, .unset] [(.int (6 : Int32)), (.int (p1 &&& (2147483647 : Int32)))])) _
    refine iremM X0 hx rfl (hb hby at_6) rfl (by decide) ?_
    show Steps p.tables e below (s₁.setTop (mkF m 7 #[.val (.int p1), .val (.long q2), .second, .unset, .unset, .unset, .unset] [(.int ((p1 &&& (2147483647 : Int32)) % (6 : Int32)))])) _
    refine XS.istoreN X0.here hx rfl (hb hby at_7) rfl (l' := #[.val (.int p1), .val (.long q2), .second, .val (.int ((p1 &&& (2147483647 : Int32)) % (6 : Int32))), .unset, .unset, .unset]) rfl ?_
    show Steps p.tables e below (s₁.setTop (mkF m 8 #[.val (.int p1), .val (.long q2), .second, .val (.int ((p1 &&& (2147483647 : Int32)) % (6 : Int32))), .unset, .unset, .unset] [])) _
    refine XS.iloadN X0.here hx rfl (hb hby at_8) rfl ?_
    show Steps p.tables e below (s₁.setTop (mkF m 9 #[.val (.int p1), .val (.long q2), .second, .val (.int ((p1 &&& (2147483647 : Int32)) % (6 : Int32))), .unset, .unset, .unset] [(.int ((p1 &&& (2147483647 : Int32)) % (6 : Int32)))])) _
    refine XS.ifNo X0.here hx rfl (hb hby at_9) rfl ((if0 _ _).trans (teq hc9).2) ?_
    show Steps p.tables e below (s₁.setTop (mkF m 12 #[.val (.int p1), .val (.long q2), .second, .val (.int ((p1 &&& (2147483647 : Int32)) % (6 : Int32))), .unset, .unset, .unset] [])) _
    refine st4 _ ?_
    show Steps p.tables e below (T4.setTop (mkF m 15 #[.val (.int p1), .val (.long q2), .second, .val (.int ((p1 &&& (2147483647 : Int32)) % (6 : Int32))), .unset, .unset, .unset] [(.ref w3)])) _
    refine XS.astore X4.here hx rfl (hb hby at_15) rfl rfl (l' := #[.val (.int p1), .val (.long q2), .second, .val (.int ((p1 &&& (2147483647 : Int32)) % (6 : Int32))), .val (.ref w3), .unset, .unset]) rfl ?_
    show Steps p.tables e below (T4.setTop (mkF m 17 #[.val (.int p1), .val (.long q2), .second, .val (.int ((p1 &&& (2147483647 : Int32)) % (6 : Int32))), .val (.ref w3), .unset, .unset] [])) _
    refine XS.lloadN X4.here hx rfl (hb hby at_17) rfl ?_
    show Steps p.tables e below (T4.setTop (mkF m 18 #[.val (.int p1), .val (.long q2), .second, .val (.int ((p1 &&& (2147483647 : Int32)) % (6 : Int32))), .val (.ref w3), .unset, .unset] [(.long q2)])) _
    refine XS.lconst X4.here hx rfl (hb hby at_18) ?_
    show Steps p.tables e below (T4.setTop (mkF m 19 #[.val (.int p1), .val (.long q2), .second, .val (.int ((p1 &&& (2147483647 : Int32)) % (6 : Int32))), .val (.ref w3), .unset, .unset] [(.long (1 : Int64)), (.long q2)])) _
    refine XS.land X4.here hx rfl (hb hby at_19) rfl ?_
    show Steps p.tables e below (T4.setTop (mkF m 20 #[.val (.int p1), .val (.long q2), .second, .val (.int ((p1 &&& (2147483647 : Int32)) % (6 : Int32))), .val (.ref w3), .unset, .unset] [(.long (q2 &&& (1 : Int64)))])) _
    refine XS.lstore X4.here hx rfl (hb hby at_20) rfl (l' := #[.val (.int p1), .val (.long q2), .second, .val (.int ((p1 &&& (2147483647 : Int32)) % (6 : Int32))), .val (.ref w3), .val (.long (q2 &&& (1 : Int64))), .second]) rfl ?_
    show Steps p.tables e below (T4.setTop (mkF m 22 #[.val (.int p1), .val (.long q2), .second, .val (.int ((p1 &&& (2147483647 : Int32)) % (6 : Int32))), .val (.ref w3), .val (.long (q2 &&& (1 : Int64))), .second] [])) _
    refine XS.goto X4.here hx rfl (pc0 := 22) (pc' := 108) rfl (hb hby at_22) (by decide) (by decide) ?_
    show Steps p.tables e below (T4.setTop (mkF m 108 #[.val (.int p1), .val (.long q2), .second, .val (.int ((p1 &&& (2147483647 : Int32)) % (6 : Int32))), .val (.ref w3), .val (.long (q2 &&& (1 : Int64))), .second] [])) _
    refine XS.aload X4.here hx rfl (hb hby at_108) rfl rfl ?_
    show Steps p.tables e below (T4.setTop (mkF m 110 #[.val (.int p1), .val (.long q2), .second, .val (.int ((p1 &&& (2147483647 : Int32)) % (6 : Int32))), .val (.ref w3), .val (.long (q2 &&& (1 : Int64))), .second] [(.ref w3)])) _
    refine XS.lloadN X4.here hx rfl (hb hby at_110) rfl ?_
    show Steps p.tables e below (T4.setTop (mkF m 111 #[.val (.int p1), .val (.long q2), .second, .val (.int ((p1 &&& (2147483647 : Int32)) % (6 : Int32))), .val (.ref w3), .val (.long (q2 &&& (1 : Int64))), .second] [(.long q2), (.ref w3)])) _
    refine st5.trans ?_
    show Steps p.tables e below (T5.setTop (mkF m 114 #[.val (.int p1), .val (.long q2), .second, .val (.int ((p1 &&& (2147483647 : Int32)) % (6 : Int32))), .val (.ref w3), .val (.long (q2 &&& (1 : Int64))), .second] [(.long (q2 &&& (((1 : Int64) <<< ((1 : Int32) &&& 0x3f).toInt64) - (1 : Int64))))])) _
    refine XS.lload X5.here hx rfl (hb hby at_114) rfl ?_
    show Steps p.tables e below (T5.setTop (mkF m 116 #[.val (.int p1), .val (.long q2), .second, .val (.int ((p1 &&& (2147483647 : Int32)) % (6 : Int32))), .val (.ref w3), .val (.long (q2 &&& (1 : Int64))), .second] [(.long (q2 &&& (1 : Int64))), (.long (q2 &&& (((1 : Int64) <<< ((1 : Int32) &&& 0x3f).toInt64) - (1 : Int64))))])) _
    refine XS.lcmp X5.here hx rfl (hb hby at_116) rfl ?_
    show Steps p.tables e below (T5.setTop (mkF m 117 #[.val (.int p1), .val (.long q2), .second, .val (.int ((p1 &&& (2147483647 : Int32)) % (6 : Int32))), .val (.ref w3), .val (.long (q2 &&& (1 : Int64))), .second] [(.int (lcmpW (q2 &&& (((1 : Int64) <<< ((1 : Int32) &&& 0x3f).toInt64) - (1 : Int64))) (q2 &&& (1 : Int64))))])) _
    refine XS.ifNo X5.here hx rfl (hb hby at_117) rfl ((if0 _ _).trans (teq hc117).2) ?_
    show Steps p.tables e below (T5.setTop (mkF m 120 #[.val (.int p1), .val (.long q2), .second, .val (.int ((p1 &&& (2147483647 : Int32)) % (6 : Int32))), .val (.ref w3), .val (.long (q2 &&& (1 : Int64))), .second] [])) _
    refine XS.iconst X5.here hx rfl (hb hby at_120) ?_
    show Steps p.tables e below (T5.setTop (mkF m 121 #[.val (.int p1), .val (.long q2), .second, .val (.int ((p1 &&& (2147483647 : Int32)) % (6 : Int32))), .val (.ref w3), .val (.long (q2 &&& (1 : Int64))), .second] [(.int (1 : Int32))])) _
    refine XS.goto X5.here hx rfl (pc0 := 121) (pc' := 125) rfl (hb hby at_121) (by decide) (by decide) ?_
    show Steps p.tables e below (T5.setTop (mkF m 125 #[.val (.int p1), .val (.long q2), .second, .val (.int ((p1 &&& (2147483647 : Int32)) % (6 : Int32))), .val (.ref w3), .val (.long (q2 &&& (1 : Int64))), .second] [(.int (1 : Int32))])) _
    exact retN X5 hx (t := .boolean) Bd.returns (by simp) (hb hby at_125) hr
  · show Q0 n0 _ _
    exact ⟨rfl, N5⟩

set_option maxRecDepth 65536 in
set_option maxHeartbeats 40000000 in
theorem rm0_BYTE_p (l : Launch) (Z : State) (a0 : Array Value) (hw : ∀ d ∈ tables_1, d.before a0 Z = true) (ws : List Jvm.Cond) (p1 : Int32) (q2 : Int64) (w3 : Addr)  (h0 : Heap) (n0 : Nat) (Z0 : n0 ≤ h0.size) (F_bits : Fld Z h0 w3 "com/example/pathglass/pathglass/symbolic/InputType" "bits" "I" (.int (8 : Int32))) (F_signed : Fld Z h0 w3 "com/example/pathglass/pathglass/symbolic/InputType" "signed" "Z" (.int (1 : Int32))) (hs : (lcmpW (((q2 &&& (((1 : Int64) <<< ((8 : Int32) &&& 0x3f).toInt64) - (1 : Int64))).toUInt64 >>> (((8 : Int32) - (1 : Int32)) &&& 0x3f).toInt64.toUInt64).toInt64) (0 : Int64)) = (0 : Int32)) (S_BYTE : Sta Z h0 "com/example/pathglass/pathglass/symbolic/InputType" "BYTE" "Lcom/example/pathglass/pathglass/symbolic/InputType;" (.ref w3)) (E_w3 : Exa Z h0 w3 "com/example/pathglass/pathglass/symbolic/InputType") (hc9 : ¬ (((p1 &&& (2147483647 : Int32)) % (6 : Int32)) = (0 : Int32))) (hc27 : ((p1 &&& (2147483647 : Int32)) % (6 : Int32)) = (1 : Int32)) (hc117 : (lcmpW (q2 &&& (((1 : Int64) <<< ((8 : Int32) &&& 0x3f).toInt64) - (1 : Int64))) (((q2.toInt32).toInt8.toInt32).toInt64)) = (0 : Int32)) :
    MetFree l x (head1 (Jvm.Cond.code x code maxLocals ret :: ws) room_1) (fun a U => a = #[(.int p1), (.long q2)] ∧ Z.Warmed39 U.vm ∧ U.heap = h0) (fun _ _ _ _ _ => True) (fun _ U o U' => ∃ v L, o = .returned v ∧ Q0 n0 v L ∧ FrameEnd U o U' L room_1.cells room_1.slots) := by
  refine MetFree.of_bodySF (plainFor_of_name pn_0) hisR ?_
  intro p e s m args below meth c s₁ Bd hml0 hP hK
  obtain ⟨rfl, hZ, hh⟩ := hP
  have hx := Bd.exec
  have hby := Bd.bytes
  have hml : c.maxLocals = 7 := hml0
  have hown : s.vm.findClass "com/example/pathglass/pathglass/symbolic/InputTypeValueOfPinLaw" = some m.cls := findClass_of_methodNamed Bd.named
  have hnm := (name_of_methodNamed Bd.named Bd.method).1
  have X0 : Stand p l e room_1 s m #[(.int p1), (.long q2)] below meth c s₁ [] 0 0 := Stand.of_body Bd
  have e0 : s₁.heap = h0 := by rw [← hh, Bd.state]; rfl
  have N0 := Fr.nil n0
  have pre0 : ∀ t, Steps p.tables e below (s₁.setTop (mkF m 0 #[.val (.int p1), .val (.long q2), .second, .unset, .unset, .unset, .unset] [])) t → Steps p.tables e below (s₁.setTop (entryFrame m #[(.int p1), (.long q2)] maxLocals)) t := fun t k => castTop (ef_0 m p1 q2) k
  -- 3. LAWS
  obtain ⟨T4, X4, e4, st4⟩ := getS2 X0 hx hZ hown (host := "") (Or.inl (hw _ (List.mem_of_getElem? (i := 13) rfl))) Via.refl e0 S_BYTE (g := (mkF m 30 #[.val (.int p1), .val (.long q2), .second, .val (.int ((p1 &&& (2147483647 : Int32)) % (6 : Int32))), .unset, .unset, .unset] [])) rfl (hb hby at_30)
  -- pc 111: com/example/pathglass/pathglass/symbolic/InputType.valueOf by the contract of the body that the receiver's class selects, rm1
  obtain ⟨cq5, kq5, q5a, q5b, q5c⟩ := isOf hZ e4 E_w3
  obtain ⟨_, _, ⟨T5, L5, k5, n5⟩, -, X5, ⟨Lc5, hQ5, l5, y5, z5⟩, st5⟩ := X4.virtualBack hx (y := (⟨"com/example/pathglass/pathglass/symbolic/InputType", "valueOf", "(J)J"⟩ : MethodName)) (z := (⟨"com/example/pathglass/pathglass/symbolic/InputType", "valueOf", "(J)J"⟩ : MethodName)) hown (mvT hZ (hw _ (List.mem_of_getElem? (i := 4) rfl))) (mvT hZ (hw _ (List.mem_of_getElem? (i := 5) rfl))) (notFace_of_selects (args := #[]) (mvT hZ (hw _ (List.mem_of_getElem? (i := 7) rfl)))) (mvT hZ (hw _ (List.mem_of_getElem? (i := 7) rfl))) (mvT hZ (hw _ (List.mem_of_getElem? (i := 6) rfl))) (by decide) (backOf (W := 0) (rm1_BYTE_p l Z a0 hw [] w3 q2  h0 n0 Z0 F_bits F_signed hs) hZ (hw _ (List.mem_of_getElem? (i := 8) rfl)) (hw _ (List.mem_of_getElem? (i := 2) rfl)) (by decide) (by decide)) q5a q5c (g := (mkF m 111 #[.val (.int p1), .val (.long q2), .second, .val (.int ((p1 &&& (2147483647 : Int32)) % (6 : Int32))), .val (.ref w3), .val (.long (((q2.toInt32).toInt8.toInt32).toInt64)), .second] [(.long q2), (.ref w3)])) rfl (by rw [hml]; rfl) (Steps.refl _) (argsL := [(.long q2)]) (rest := []) (lenOf pd_0_0 rfl) rfl (by show 2 * 0 + _ ≤ _; exact Nat.le_of_eq rfl) (hb hby at_111) (fun _ _ => ⟨rfl, e4, (by decide : 0 + 0 ≤ _), (by decide : 0 + 0 ≤ _)⟩)
  dsimp only [Pt.U, Pt.locs, Pt.cells, Pt.slots] at X5 l5 y5 z5 st5 hQ5
  subst l5 y5 z5
  obtain ⟨rfl, N5q, hh5⟩ := hQ5
  have N5 := Fr.app N0 N5q
  obtain ⟨fs, hr, hrun, hended, hW, hsame⟩ := X5.leave (v := some (.int (1 : Int32))) (fun h => by rw [Bd.returns] at h; cases h)
  refine ⟨_, _, pre0 _ ?_, hrun, hended, _, _, rfl, ?_, ⟨_, rfl⟩, hW, hsame.mono (by decide) (by decide)⟩
  -- 4. STEPS
  · show Steps p.tables e below (s₁.setTop (mkF m 0 #[.val (.int p1), .val (.long q2), .second, .unset, .unset, .unset, .unset] [])) _
    refine XS.iloadN X0.here hx rfl (hb hby at_0) rfl ?_
    show Steps p.tables e below (s₁.setTop (mkF m 1 #[.val (.int p1), .val (.long q2), .second, .unset, .unset, .unset, .unset] [(.int p1)])) _
    refine X0.ldcInt hx hown (mvT hZ (hw _ (List.mem_of_getElem? (i := 0) rfl))) (g := (mkF m 1 #[.val (.int p1), .val (.long q2), .second, .unset, .unset, .unset, .unset] [(.int p1)])) rfl (hb hby at_1) _ ?_
    show Steps p.tables e below (s₁.setTop (mkF m 3 #[.val (.int p1), .val (.long q2), .second, .unset, .unset, .unset, .unset] [(.int (2147483647 : Int32)), (.int p1)])) _
    refine XS.iand X0.here hx rfl (hb hby at_3) rfl ?_
    show Steps p.tables e below (s₁.setTop (mkF m 4 #[.val (.int p1), .val (.long q2), .second, .unset, .unset, .unset, .unset] [(.int (p1 &&& (2147483647 : Int32)))])) _
    refine XS.bipush X0.here hx rfl (hb hby at_4) ?_
    show Steps p.tables e below (s₁.setTop (mkF m 6 #[.val (.int p1), .val (.long q2), .second, .unset, .unset, .unset, .unset] [(.int (6 : Int32)), (.int (p1 &&& (2147483647 : Int32)))])) _
    refine iremM X0 hx rfl (hb hby at_6) rfl (by decide) ?_
    show Steps p.tables e below (s₁.setTop (mkF m 7 #[.val (.int p1), .val (.long q2), .second, .unset, .unset, .unset, .unset] [(.int ((p1 &&& (2147483647 : Int32)) % (6 : Int32)))])) _
    refine XS.istoreN X0.here hx rfl (hb hby at_7) rfl (l' := #[.val (.int p1), .val (.long q2), .second, .val (.int ((p1 &&& (2147483647 : Int32)) % (6 : Int32))), .unset, .unset, .unset]) rfl ?_
    show Steps p.tables e below (s₁.setTop (mkF m 8 #[.val (.int p1), .val (.long q2), .second, .val (.int ((p1 &&& (2147483647 : Int32)) % (6 : Int32))), .unset, .unset, .unset] [])) _
    refine XS.iloadN X0.here hx rfl (hb hby at_8) rfl ?_
    show Steps p.tables e below (s₁.setTop (mkF m 9 #[.val (.int p1), .val (.long q2), .second, .val (.int ((p1 &&& (2147483647 : Int32)) % (6 : Int32))), .unset, .unset, .unset] [(.int ((p1 &&& (2147483647 : Int32)) % (6 : Int32)))])) _
    refine XS.ifYes X0.here hx rfl (pc0 := 9) (pc' := 25) rfl (hb hby at_9) rfl ((if0 _ _).trans (feq hc9).2) (by decide) (by decide) ?_
    show Steps p.tables e below (s₁.setTop (mkF m 25 #[.val (.int p1), .val (.long q2), .second, .val (.int ((p1 &&& (2147483647 : Int32)) % (6 : Int32))), .unset, .unset, .unset] [])) _
    refine XS.iloadN X0.here hx rfl (hb hby at_25) rfl ?_
    show Steps p.tables e below (s₁.setTop (mkF m 26 #[.val (.int p1), .val (.long q2), .second, .val (.int ((p1 &&& (2147483647 : Int32)) % (6 : Int32))), .unset, .unset, .unset] [(.int ((p1 &&& (2147483647 : Int32)) % (6 : Int32)))])) _
    refine XS.iconst X0.here hx rfl (hb hby at_26) ?_
    show Steps p.tables e below (s₁.setTop (mkF m 27 #[.val (.int p1), .val (.long q2), .second, .val (.int ((p1 &&& (2147483647 : Int32)) % (6 : Int32))), .unset, .unset, .unset] [(.int (1 : Int32)), (.int ((p1 &&& (2147483647 : Int32)) % (6 : Int32)))])) _
    refine XS.icmpNo X0.here hx rfl (hb hby at_27) rfl (teq hc27).2 ?_
    show Steps p.tables e below (s₁.setTop (mkF m 30 #[.val (.int p1), .val (.long q2), .second, .val (.int ((p1 &&& (2147483647 : Int32)) % (6 : Int32))), .unset, .unset, .unset] [])) _
    refine st4 _ ?_
    show Steps p.tables e below (T4.setTop (mkF m 33 #[.val (.int p1), .val (.long q2), .second, .val (.int ((p1 &&& (2147483647 : Int32)) % (6 : Int32))), .unset, .unset, .unset] [(.ref w3)])) _
    refine XS.astore X4.here hx rfl (hb hby at_33) rfl rfl (l' := #[.val (.int p1), .val (.long q2), .second, .val (.int ((p1 &&& (2147483647 : Int32)) % (6 : Int32))), .val (.ref w3), .unset, .unset]) rfl ?_
    show Steps p.tables e below (T4.setTop (mkF m 35 #[.val (.int p1), .val (.long q2), .second, .val (.int ((p1 &&& (2147483647 : Int32)) % (6 : Int32))), .val (.ref w3), .unset, .unset] [])) _
    refine XS.lloadN X4.here hx rfl (hb hby at_35) rfl ?_
    show Steps p.tables e below (T4.setTop (mkF m 36 #[.val (.int p1), .val (.long q2), .second, .val (.int ((p1 &&& (2147483647 : Int32)) % (6 : Int32))), .val (.ref w3), .unset, .unset] [(.long q2)])) _
    refine XS.l2i X4.here hx rfl (hb hby at_36) rfl ?_
    show Steps p.tables e below (T4.setTop (mkF m 37 #[.val (.int p1), .val (.long q2), .second, .val (.int ((p1 &&& (2147483647 : Int32)) % (6 : Int32))), .val (.ref w3), .unset, .unset] [(.int (q2.toInt32))])) _
    refine XS.i2b X4.here hx rfl (hb hby at_37) rfl ?_
    show Steps p.tables e below (T4.setTop (mkF m 38 #[.val (.int p1), .val (.long q2), .second, .val (.int ((p1 &&& (2147483647 : Int32)) % (6 : Int32))), .val (.ref w3), .unset, .unset] [(.int ((q2.toInt32).toInt8.toInt32))])) _
    refine XS.i2l X4.here hx rfl (hb hby at_38) rfl ?_
    show Steps p.tables e below (T4.setTop (mkF m 39 #[.val (.int p1), .val (.long q2), .second, .val (.int ((p1 &&& (2147483647 : Int32)) % (6 : Int32))), .val (.ref w3), .unset, .unset] [(.long (((q2.toInt32).toInt8.toInt32).toInt64))])) _
    refine XS.lstore X4.here hx rfl (hb hby at_39) rfl (l' := #[.val (.int p1), .val (.long q2), .second, .val (.int ((p1 &&& (2147483647 : Int32)) % (6 : Int32))), .val (.ref w3), .val (.long (((q2.toInt32).toInt8.toInt32).toInt64)), .second]) rfl ?_
    show Steps p.tables e below (T4.setTop (mkF m 41 #[.val (.int p1), .val (.long q2), .second, .val (.int ((p1 &&& (2147483647 : Int32)) % (6 : Int32))), .val (.ref w3), .val (.long (((q2.toInt32).toInt8.toInt32).toInt64)), .second] [])) _
    refine XS.goto X4.here hx rfl (pc0 := 41) (pc' := 108) rfl (hb hby at_41) (by decide) (by decide) ?_
    show Steps p.tables e below (T4.setTop (mkF m 108 #[.val (.int p1), .val (.long q2), .second, .val (.int ((p1 &&& (2147483647 : Int32)) % (6 : Int32))), .val (.ref w3), .val (.long (((q2.toInt32).toInt8.toInt32).toInt64)), .second] [])) _
    refine XS.aload X4.here hx rfl (hb hby at_108) rfl rfl ?_
    show Steps p.tables e below (T4.setTop (mkF m 110 #[.val (.int p1), .val (.long q2), .second, .val (.int ((p1 &&& (2147483647 : Int32)) % (6 : Int32))), .val (.ref w3), .val (.long (((q2.toInt32).toInt8.toInt32).toInt64)), .second] [(.ref w3)])) _
    refine XS.lloadN X4.here hx rfl (hb hby at_110) rfl ?_
    show Steps p.tables e below (T4.setTop (mkF m 111 #[.val (.int p1), .val (.long q2), .second, .val (.int ((p1 &&& (2147483647 : Int32)) % (6 : Int32))), .val (.ref w3), .val (.long (((q2.toInt32).toInt8.toInt32).toInt64)), .second] [(.long q2), (.ref w3)])) _
    refine st5.trans ?_
    show Steps p.tables e below (T5.setTop (mkF m 114 #[.val (.int p1), .val (.long q2), .second, .val (.int ((p1 &&& (2147483647 : Int32)) % (6 : Int32))), .val (.ref w3), .val (.long (((q2.toInt32).toInt8.toInt32).toInt64)), .second] [(.long (q2 &&& (((1 : Int64) <<< ((8 : Int32) &&& 0x3f).toInt64) - (1 : Int64))))])) _
    refine XS.lload X5.here hx rfl (hb hby at_114) rfl ?_
    show Steps p.tables e below (T5.setTop (mkF m 116 #[.val (.int p1), .val (.long q2), .second, .val (.int ((p1 &&& (2147483647 : Int32)) % (6 : Int32))), .val (.ref w3), .val (.long (((q2.toInt32).toInt8.toInt32).toInt64)), .second] [(.long (((q2.toInt32).toInt8.toInt32).toInt64)), (.long (q2 &&& (((1 : Int64) <<< ((8 : Int32) &&& 0x3f).toInt64) - (1 : Int64))))])) _
    refine XS.lcmp X5.here hx rfl (hb hby at_116) rfl ?_
    show Steps p.tables e below (T5.setTop (mkF m 117 #[.val (.int p1), .val (.long q2), .second, .val (.int ((p1 &&& (2147483647 : Int32)) % (6 : Int32))), .val (.ref w3), .val (.long (((q2.toInt32).toInt8.toInt32).toInt64)), .second] [(.int (lcmpW (q2 &&& (((1 : Int64) <<< ((8 : Int32) &&& 0x3f).toInt64) - (1 : Int64))) (((q2.toInt32).toInt8.toInt32).toInt64)))])) _
    refine XS.ifNo X5.here hx rfl (hb hby at_117) rfl ((if0 _ _).trans (teq hc117).2) ?_
    show Steps p.tables e below (T5.setTop (mkF m 120 #[.val (.int p1), .val (.long q2), .second, .val (.int ((p1 &&& (2147483647 : Int32)) % (6 : Int32))), .val (.ref w3), .val (.long (((q2.toInt32).toInt8.toInt32).toInt64)), .second] [])) _
    refine XS.iconst X5.here hx rfl (hb hby at_120) ?_
    show Steps p.tables e below (T5.setTop (mkF m 121 #[.val (.int p1), .val (.long q2), .second, .val (.int ((p1 &&& (2147483647 : Int32)) % (6 : Int32))), .val (.ref w3), .val (.long (((q2.toInt32).toInt8.toInt32).toInt64)), .second] [(.int (1 : Int32))])) _
    refine XS.goto X5.here hx rfl (pc0 := 121) (pc' := 125) rfl (hb hby at_121) (by decide) (by decide) ?_
    show Steps p.tables e below (T5.setTop (mkF m 125 #[.val (.int p1), .val (.long q2), .second, .val (.int ((p1 &&& (2147483647 : Int32)) % (6 : Int32))), .val (.ref w3), .val (.long (((q2.toInt32).toInt8.toInt32).toInt64)), .second] [(.int (1 : Int32))])) _
    exact retN X5 hx (t := .boolean) Bd.returns (by simp) (hb hby at_125) hr
  · show Q0 n0 _ _
    exact ⟨rfl, N5⟩

set_option maxRecDepth 65536 in
set_option maxHeartbeats 40000000 in
theorem rm0_BYTE_n (l : Launch) (Z : State) (a0 : Array Value) (hw : ∀ d ∈ tables_1, d.before a0 Z = true) (ws : List Jvm.Cond) (p1 : Int32) (q2 : Int64) (w3 : Addr)  (h0 : Heap) (n0 : Nat) (Z0 : n0 ≤ h0.size) (F_bits : Fld Z h0 w3 "com/example/pathglass/pathglass/symbolic/InputType" "bits" "I" (.int (8 : Int32))) (F_signed : Fld Z h0 w3 "com/example/pathglass/pathglass/symbolic/InputType" "signed" "Z" (.int (1 : Int32))) (hs : ¬ ((lcmpW (((q2 &&& (((1 : Int64) <<< ((8 : Int32) &&& 0x3f).toInt64) - (1 : Int64))).toUInt64 >>> (((8 : Int32) - (1 : Int32)) &&& 0x3f).toInt64.toUInt64).toInt64) (0 : Int64)) = (0 : Int32))) (S_BYTE : Sta Z h0 "com/example/pathglass/pathglass/symbolic/InputType" "BYTE" "Lcom/example/pathglass/pathglass/symbolic/InputType;" (.ref w3)) (E_w3 : Exa Z h0 w3 "com/example/pathglass/pathglass/symbolic/InputType") (hc9 : ¬ (((p1 &&& (2147483647 : Int32)) % (6 : Int32)) = (0 : Int32))) (hc27 : ((p1 &&& (2147483647 : Int32)) % (6 : Int32)) = (1 : Int32)) (hc117 : (lcmpW ((q2 &&& (((1 : Int64) <<< ((8 : Int32) &&& 0x3f).toInt64) - (1 : Int64))) - ((1 : Int64) <<< ((8 : Int32) &&& 0x3f).toInt64)) (((q2.toInt32).toInt8.toInt32).toInt64)) = (0 : Int32)) :
    MetFree l x (head1 (Jvm.Cond.code x code maxLocals ret :: ws) room_1) (fun a U => a = #[(.int p1), (.long q2)] ∧ Z.Warmed39 U.vm ∧ U.heap = h0) (fun _ _ _ _ _ => True) (fun _ U o U' => ∃ v L, o = .returned v ∧ Q0 n0 v L ∧ FrameEnd U o U' L room_1.cells room_1.slots) := by
  refine MetFree.of_bodySF (plainFor_of_name pn_0) hisR ?_
  intro p e s m args below meth c s₁ Bd hml0 hP hK
  obtain ⟨rfl, hZ, hh⟩ := hP
  have hx := Bd.exec
  have hby := Bd.bytes
  have hml : c.maxLocals = 7 := hml0
  have hown : s.vm.findClass "com/example/pathglass/pathglass/symbolic/InputTypeValueOfPinLaw" = some m.cls := findClass_of_methodNamed Bd.named
  have hnm := (name_of_methodNamed Bd.named Bd.method).1
  have X0 : Stand p l e room_1 s m #[(.int p1), (.long q2)] below meth c s₁ [] 0 0 := Stand.of_body Bd
  have e0 : s₁.heap = h0 := by rw [← hh, Bd.state]; rfl
  have N0 := Fr.nil n0
  have pre0 : ∀ t, Steps p.tables e below (s₁.setTop (mkF m 0 #[.val (.int p1), .val (.long q2), .second, .unset, .unset, .unset, .unset] [])) t → Steps p.tables e below (s₁.setTop (entryFrame m #[(.int p1), (.long q2)] maxLocals)) t := fun t k => castTop (ef_0 m p1 q2) k
  -- 3. LAWS
  obtain ⟨T4, X4, e4, st4⟩ := getS2 X0 hx hZ hown (host := "") (Or.inl (hw _ (List.mem_of_getElem? (i := 13) rfl))) Via.refl e0 S_BYTE (g := (mkF m 30 #[.val (.int p1), .val (.long q2), .second, .val (.int ((p1 &&& (2147483647 : Int32)) % (6 : Int32))), .unset, .unset, .unset] [])) rfl (hb hby at_30)
  -- pc 111: com/example/pathglass/pathglass/symbolic/InputType.valueOf by the contract of the body that the receiver's class selects, rm1
  obtain ⟨cq5, kq5, q5a, q5b, q5c⟩ := isOf hZ e4 E_w3
  obtain ⟨_, _, ⟨T5, L5, k5, n5⟩, -, X5, ⟨Lc5, hQ5, l5, y5, z5⟩, st5⟩ := X4.virtualBack hx (y := (⟨"com/example/pathglass/pathglass/symbolic/InputType", "valueOf", "(J)J"⟩ : MethodName)) (z := (⟨"com/example/pathglass/pathglass/symbolic/InputType", "valueOf", "(J)J"⟩ : MethodName)) hown (mvT hZ (hw _ (List.mem_of_getElem? (i := 4) rfl))) (mvT hZ (hw _ (List.mem_of_getElem? (i := 5) rfl))) (notFace_of_selects (args := #[]) (mvT hZ (hw _ (List.mem_of_getElem? (i := 7) rfl)))) (mvT hZ (hw _ (List.mem_of_getElem? (i := 7) rfl))) (mvT hZ (hw _ (List.mem_of_getElem? (i := 6) rfl))) (by decide) (backOf (W := 0) (rm1_BYTE_n l Z a0 hw [] w3 q2  h0 n0 Z0 F_bits F_signed hs) hZ (hw _ (List.mem_of_getElem? (i := 8) rfl)) (hw _ (List.mem_of_getElem? (i := 2) rfl)) (by decide) (by decide)) q5a q5c (g := (mkF m 111 #[.val (.int p1), .val (.long q2), .second, .val (.int ((p1 &&& (2147483647 : Int32)) % (6 : Int32))), .val (.ref w3), .val (.long (((q2.toInt32).toInt8.toInt32).toInt64)), .second] [(.long q2), (.ref w3)])) rfl (by rw [hml]; rfl) (Steps.refl _) (argsL := [(.long q2)]) (rest := []) (lenOf pd_0_0 rfl) rfl (by show 2 * 0 + _ ≤ _; exact Nat.le_of_eq rfl) (hb hby at_111) (fun _ _ => ⟨rfl, e4, (by decide : 0 + 0 ≤ _), (by decide : 0 + 0 ≤ _)⟩)
  dsimp only [Pt.U, Pt.locs, Pt.cells, Pt.slots] at X5 l5 y5 z5 st5 hQ5
  subst l5 y5 z5
  obtain ⟨rfl, N5q, hh5⟩ := hQ5
  have N5 := Fr.app N0 N5q
  obtain ⟨fs, hr, hrun, hended, hW, hsame⟩ := X5.leave (v := some (.int (1 : Int32))) (fun h => by rw [Bd.returns] at h; cases h)
  refine ⟨_, _, pre0 _ ?_, hrun, hended, _, _, rfl, ?_, ⟨_, rfl⟩, hW, hsame.mono (by decide) (by decide)⟩
  -- 4. STEPS
  · show Steps p.tables e below (s₁.setTop (mkF m 0 #[.val (.int p1), .val (.long q2), .second, .unset, .unset, .unset, .unset] [])) _
    refine XS.iloadN X0.here hx rfl (hb hby at_0) rfl ?_
    show Steps p.tables e below (s₁.setTop (mkF m 1 #[.val (.int p1), .val (.long q2), .second, .unset, .unset, .unset, .unset] [(.int p1)])) _
    refine X0.ldcInt hx hown (mvT hZ (hw _ (List.mem_of_getElem? (i := 0) rfl))) (g := (mkF m 1 #[.val (.int p1), .val (.long q2), .second, .unset, .unset, .unset, .unset] [(.int p1)])) rfl (hb hby at_1) _ ?_
    show Steps p.tables e below (s₁.setTop (mkF m 3 #[.val (.int p1), .val (.long q2), .second, .unset, .unset, .unset, .unset] [(.int (2147483647 : Int32)), (.int p1)])) _
    refine XS.iand X0.here hx rfl (hb hby at_3) rfl ?_
    show Steps p.tables e below (s₁.setTop (mkF m 4 #[.val (.int p1), .val (.long q2), .second, .unset, .unset, .unset, .unset] [(.int (p1 &&& (2147483647 : Int32)))])) _
    refine XS.bipush X0.here hx rfl (hb hby at_4) ?_
    show Steps p.tables e below (s₁.setTop (mkF m 6 #[.val (.int p1), .val (.long q2), .second, .unset, .unset, .unset, .unset] [(.int (6 : Int32)), (.int (p1 &&& (2147483647 : Int32)))])) _
    refine iremM X0 hx rfl (hb hby at_6) rfl (by decide) ?_
    show Steps p.tables e below (s₁.setTop (mkF m 7 #[.val (.int p1), .val (.long q2), .second, .unset, .unset, .unset, .unset] [(.int ((p1 &&& (2147483647 : Int32)) % (6 : Int32)))])) _
    refine XS.istoreN X0.here hx rfl (hb hby at_7) rfl (l' := #[.val (.int p1), .val (.long q2), .second, .val (.int ((p1 &&& (2147483647 : Int32)) % (6 : Int32))), .unset, .unset, .unset]) rfl ?_
    show Steps p.tables e below (s₁.setTop (mkF m 8 #[.val (.int p1), .val (.long q2), .second, .val (.int ((p1 &&& (2147483647 : Int32)) % (6 : Int32))), .unset, .unset, .unset] [])) _
    refine XS.iloadN X0.here hx rfl (hb hby at_8) rfl ?_
    show Steps p.tables e below (s₁.setTop (mkF m 9 #[.val (.int p1), .val (.long q2), .second, .val (.int ((p1 &&& (2147483647 : Int32)) % (6 : Int32))), .unset, .unset, .unset] [(.int ((p1 &&& (2147483647 : Int32)) % (6 : Int32)))])) _
    refine XS.ifYes X0.here hx rfl (pc0 := 9) (pc' := 25) rfl (hb hby at_9) rfl ((if0 _ _).trans (feq hc9).2) (by decide) (by decide) ?_
    show Steps p.tables e below (s₁.setTop (mkF m 25 #[.val (.int p1), .val (.long q2), .second, .val (.int ((p1 &&& (2147483647 : Int32)) % (6 : Int32))), .unset, .unset, .unset] [])) _
    refine XS.iloadN X0.here hx rfl (hb hby at_25) rfl ?_
    show Steps p.tables e below (s₁.setTop (mkF m 26 #[.val (.int p1), .val (.long q2), .second, .val (.int ((p1 &&& (2147483647 : Int32)) % (6 : Int32))), .unset, .unset, .unset] [(.int ((p1 &&& (2147483647 : Int32)) % (6 : Int32)))])) _
    refine XS.iconst X0.here hx rfl (hb hby at_26) ?_
    show Steps p.tables e below (s₁.setTop (mkF m 27 #[.val (.int p1), .val (.long q2), .second, .val (.int ((p1 &&& (2147483647 : Int32)) % (6 : Int32))), .unset, .unset, .unset] [(.int (1 : Int32)), (.int ((p1 &&& (2147483647 : Int32)) % (6 : Int32)))])) _
    refine XS.icmpNo X0.here hx rfl (hb hby at_27) rfl (teq hc27).2 ?_
    show Steps p.tables e below (s₁.setTop (mkF m 30 #[.val (.int p1), .val (.long q2), .second, .val (.int ((p1 &&& (2147483647 : Int32)) % (6 : Int32))), .unset, .unset, .unset] [])) _
    refine st4 _ ?_
    show Steps p.tables e below (T4.setTop (mkF m 33 #[.val (.int p1), .val (.long q2), .second, .val (.int ((p1 &&& (2147483647 : Int32)) % (6 : Int32))), .unset, .unset, .unset] [(.ref w3)])) _
    refine XS.astore X4.here hx rfl (hb hby at_33) rfl rfl (l' := #[.val (.int p1), .val (.long q2), .second, .val (.int ((p1 &&& (2147483647 : Int32)) % (6 : Int32))), .val (.ref w3), .unset, .unset]) rfl ?_
    show Steps p.tables e below (T4.setTop (mkF m 35 #[.val (.int p1), .val (.long q2), .second, .val (.int ((p1 &&& (2147483647 : Int32)) % (6 : Int32))), .val (.ref w3), .unset, .unset] [])) _
    refine XS.lloadN X4.here hx rfl (hb hby at_35) rfl ?_
    show Steps p.tables e below (T4.setTop (mkF m 36 #[.val (.int p1), .val (.long q2), .second, .val (.int ((p1 &&& (2147483647 : Int32)) % (6 : Int32))), .val (.ref w3), .unset, .unset] [(.long q2)])) _
    refine XS.l2i X4.here hx rfl (hb hby at_36) rfl ?_
    show Steps p.tables e below (T4.setTop (mkF m 37 #[.val (.int p1), .val (.long q2), .second, .val (.int ((p1 &&& (2147483647 : Int32)) % (6 : Int32))), .val (.ref w3), .unset, .unset] [(.int (q2.toInt32))])) _
    refine XS.i2b X4.here hx rfl (hb hby at_37) rfl ?_
    show Steps p.tables e below (T4.setTop (mkF m 38 #[.val (.int p1), .val (.long q2), .second, .val (.int ((p1 &&& (2147483647 : Int32)) % (6 : Int32))), .val (.ref w3), .unset, .unset] [(.int ((q2.toInt32).toInt8.toInt32))])) _
    refine XS.i2l X4.here hx rfl (hb hby at_38) rfl ?_
    show Steps p.tables e below (T4.setTop (mkF m 39 #[.val (.int p1), .val (.long q2), .second, .val (.int ((p1 &&& (2147483647 : Int32)) % (6 : Int32))), .val (.ref w3), .unset, .unset] [(.long (((q2.toInt32).toInt8.toInt32).toInt64))])) _
    refine XS.lstore X4.here hx rfl (hb hby at_39) rfl (l' := #[.val (.int p1), .val (.long q2), .second, .val (.int ((p1 &&& (2147483647 : Int32)) % (6 : Int32))), .val (.ref w3), .val (.long (((q2.toInt32).toInt8.toInt32).toInt64)), .second]) rfl ?_
    show Steps p.tables e below (T4.setTop (mkF m 41 #[.val (.int p1), .val (.long q2), .second, .val (.int ((p1 &&& (2147483647 : Int32)) % (6 : Int32))), .val (.ref w3), .val (.long (((q2.toInt32).toInt8.toInt32).toInt64)), .second] [])) _
    refine XS.goto X4.here hx rfl (pc0 := 41) (pc' := 108) rfl (hb hby at_41) (by decide) (by decide) ?_
    show Steps p.tables e below (T4.setTop (mkF m 108 #[.val (.int p1), .val (.long q2), .second, .val (.int ((p1 &&& (2147483647 : Int32)) % (6 : Int32))), .val (.ref w3), .val (.long (((q2.toInt32).toInt8.toInt32).toInt64)), .second] [])) _
    refine XS.aload X4.here hx rfl (hb hby at_108) rfl rfl ?_
    show Steps p.tables e below (T4.setTop (mkF m 110 #[.val (.int p1), .val (.long q2), .second, .val (.int ((p1 &&& (2147483647 : Int32)) % (6 : Int32))), .val (.ref w3), .val (.long (((q2.toInt32).toInt8.toInt32).toInt64)), .second] [(.ref w3)])) _
    refine XS.lloadN X4.here hx rfl (hb hby at_110) rfl ?_
    show Steps p.tables e below (T4.setTop (mkF m 111 #[.val (.int p1), .val (.long q2), .second, .val (.int ((p1 &&& (2147483647 : Int32)) % (6 : Int32))), .val (.ref w3), .val (.long (((q2.toInt32).toInt8.toInt32).toInt64)), .second] [(.long q2), (.ref w3)])) _
    refine st5.trans ?_
    show Steps p.tables e below (T5.setTop (mkF m 114 #[.val (.int p1), .val (.long q2), .second, .val (.int ((p1 &&& (2147483647 : Int32)) % (6 : Int32))), .val (.ref w3), .val (.long (((q2.toInt32).toInt8.toInt32).toInt64)), .second] [(.long ((q2 &&& (((1 : Int64) <<< ((8 : Int32) &&& 0x3f).toInt64) - (1 : Int64))) - ((1 : Int64) <<< ((8 : Int32) &&& 0x3f).toInt64)))])) _
    refine XS.lload X5.here hx rfl (hb hby at_114) rfl ?_
    show Steps p.tables e below (T5.setTop (mkF m 116 #[.val (.int p1), .val (.long q2), .second, .val (.int ((p1 &&& (2147483647 : Int32)) % (6 : Int32))), .val (.ref w3), .val (.long (((q2.toInt32).toInt8.toInt32).toInt64)), .second] [(.long (((q2.toInt32).toInt8.toInt32).toInt64)), (.long ((q2 &&& (((1 : Int64) <<< ((8 : Int32) &&& 0x3f).toInt64) - (1 : Int64))) - ((1 : Int64) <<< ((8 : Int32) &&& 0x3f).toInt64)))])) _
    refine XS.lcmp X5.here hx rfl (hb hby at_116) rfl ?_
    show Steps p.tables e below (T5.setTop (mkF m 117 #[.val (.int p1), .val (.long q2), .second, .val (.int ((p1 &&& (2147483647 : Int32)) % (6 : Int32))), .val (.ref w3), .val (.long (((q2.toInt32).toInt8.toInt32).toInt64)), .second] [(.int (lcmpW ((q2 &&& (((1 : Int64) <<< ((8 : Int32) &&& 0x3f).toInt64) - (1 : Int64))) - ((1 : Int64) <<< ((8 : Int32) &&& 0x3f).toInt64)) (((q2.toInt32).toInt8.toInt32).toInt64)))])) _
    refine XS.ifNo X5.here hx rfl (hb hby at_117) rfl ((if0 _ _).trans (teq hc117).2) ?_
    show Steps p.tables e below (T5.setTop (mkF m 120 #[.val (.int p1), .val (.long q2), .second, .val (.int ((p1 &&& (2147483647 : Int32)) % (6 : Int32))), .val (.ref w3), .val (.long (((q2.toInt32).toInt8.toInt32).toInt64)), .second] [])) _
    refine XS.iconst X5.here hx rfl (hb hby at_120) ?_
    show Steps p.tables e below (T5.setTop (mkF m 121 #[.val (.int p1), .val (.long q2), .second, .val (.int ((p1 &&& (2147483647 : Int32)) % (6 : Int32))), .val (.ref w3), .val (.long (((q2.toInt32).toInt8.toInt32).toInt64)), .second] [(.int (1 : Int32))])) _
    refine XS.goto X5.here hx rfl (pc0 := 121) (pc' := 125) rfl (hb hby at_121) (by decide) (by decide) ?_
    show Steps p.tables e below (T5.setTop (mkF m 125 #[.val (.int p1), .val (.long q2), .second, .val (.int ((p1 &&& (2147483647 : Int32)) % (6 : Int32))), .val (.ref w3), .val (.long (((q2.toInt32).toInt8.toInt32).toInt64)), .second] [(.int (1 : Int32))])) _
    exact retN X5 hx (t := .boolean) Bd.returns (by simp) (hb hby at_125) hr
  · show Q0 n0 _ _
    exact ⟨rfl, N5⟩

set_option maxRecDepth 65536 in
set_option maxHeartbeats 40000000 in
theorem rm0_CHAR (l : Launch) (Z : State) (a0 : Array Value) (hw : ∀ d ∈ tables_1, d.before a0 Z = true) (ws : List Jvm.Cond) (p1 : Int32) (q2 : Int64) (w3 : Addr)  (h0 : Heap) (n0 : Nat) (Z0 : n0 ≤ h0.size) (F_bits : Fld Z h0 w3 "com/example/pathglass/pathglass/symbolic/InputType" "bits" "I" (.int (16 : Int32))) (F_signed : Fld Z h0 w3 "com/example/pathglass/pathglass/symbolic/InputType" "signed" "Z" (.int (0 : Int32))) (S_CHAR : Sta Z h0 "com/example/pathglass/pathglass/symbolic/InputType" "CHAR" "Lcom/example/pathglass/pathglass/symbolic/InputType;" (.ref w3)) (E_w3 : Exa Z h0 w3 "com/example/pathglass/pathglass/symbolic/InputType") (hc9 : ¬ (((p1 &&& (2147483647 : Int32)) % (6 : Int32)) = (0 : Int32))) (hc27 : ¬ (((p1 &&& (2147483647 : Int32)) % (6 : Int32)) = (1 : Int32))) (hc46 : ((p1 &&& (2147483647 : Int32)) % (6 : Int32)) = (2 : Int32)) (hc117 : (lcmpW (q2 &&& (((1 : Int64) <<< ((16 : Int32) &&& 0x3f).toInt64) - (1 : Int64))) (((q2.toInt32).toUInt32.toUInt16.toUInt32.toInt32).toInt64)) = (0 : Int32)) :
    MetFree l x (head1 (Jvm.Cond.code x code maxLocals ret :: ws) room_1) (fun a U => a = #[(.int p1), (.long q2)] ∧ Z.Warmed39 U.vm ∧ U.heap = h0) (fun _ _ _ _ _ => True) (fun _ U o U' => ∃ v L, o = .returned v ∧ Q0 n0 v L ∧ FrameEnd U o U' L room_1.cells room_1.slots) := by
  refine MetFree.of_bodySF (plainFor_of_name pn_0) hisR ?_
  intro p e s m args below meth c s₁ Bd hml0 hP hK
  obtain ⟨rfl, hZ, hh⟩ := hP
  have hx := Bd.exec
  have hby := Bd.bytes
  have hml : c.maxLocals = 7 := hml0
  have hown : s.vm.findClass "com/example/pathglass/pathglass/symbolic/InputTypeValueOfPinLaw" = some m.cls := findClass_of_methodNamed Bd.named
  have hnm := (name_of_methodNamed Bd.named Bd.method).1
  have X0 : Stand p l e room_1 s m #[(.int p1), (.long q2)] below meth c s₁ [] 0 0 := Stand.of_body Bd
  have e0 : s₁.heap = h0 := by rw [← hh, Bd.state]; rfl
  have N0 := Fr.nil n0
  have pre0 : ∀ t, Steps p.tables e below (s₁.setTop (mkF m 0 #[.val (.int p1), .val (.long q2), .second, .unset, .unset, .unset, .unset] [])) t → Steps p.tables e below (s₁.setTop (entryFrame m #[(.int p1), (.long q2)] maxLocals)) t := fun t k => castTop (ef_0 m p1 q2) k
  -- 3. LAWS
  obtain ⟨T4, X4, e4, st4⟩ := getS2 X0 hx hZ hown (host := "") (Or.inl (hw _ (List.mem_of_getElem? (i := 15) rfl))) Via.refl e0 S_CHAR (g := (mkF m 49 #[.val (.int p1), .val (.long q2), .second, .val (.int ((p1 &&& (2147483647 : Int32)) % (6 : Int32))), .unset, .unset, .unset] [])) rfl (hb hby at_49)
  -- pc 111: com/example/pathglass/pathglass/symbolic/InputType.valueOf by the contract of the body that the receiver's class selects, rm1
  obtain ⟨cq5, kq5, q5a, q5b, q5c⟩ := isOf hZ e4 E_w3
  obtain ⟨_, _, ⟨T5, L5, k5, n5⟩, -, X5, ⟨Lc5, hQ5, l5, y5, z5⟩, st5⟩ := X4.virtualBack hx (y := (⟨"com/example/pathglass/pathglass/symbolic/InputType", "valueOf", "(J)J"⟩ : MethodName)) (z := (⟨"com/example/pathglass/pathglass/symbolic/InputType", "valueOf", "(J)J"⟩ : MethodName)) hown (mvT hZ (hw _ (List.mem_of_getElem? (i := 4) rfl))) (mvT hZ (hw _ (List.mem_of_getElem? (i := 5) rfl))) (notFace_of_selects (args := #[]) (mvT hZ (hw _ (List.mem_of_getElem? (i := 7) rfl)))) (mvT hZ (hw _ (List.mem_of_getElem? (i := 7) rfl))) (mvT hZ (hw _ (List.mem_of_getElem? (i := 6) rfl))) (by decide) (backOf (W := 0) (rm1_CHAR l Z a0 hw [] w3 q2  h0 n0 Z0 F_bits F_signed) hZ (hw _ (List.mem_of_getElem? (i := 8) rfl)) (hw _ (List.mem_of_getElem? (i := 2) rfl)) (by decide) (by decide)) q5a q5c (g := (mkF m 111 #[.val (.int p1), .val (.long q2), .second, .val (.int ((p1 &&& (2147483647 : Int32)) % (6 : Int32))), .val (.ref w3), .val (.long (((q2.toInt32).toUInt32.toUInt16.toUInt32.toInt32).toInt64)), .second] [(.long q2), (.ref w3)])) rfl (by rw [hml]; rfl) (Steps.refl _) (argsL := [(.long q2)]) (rest := []) (lenOf pd_0_0 rfl) rfl (by show 2 * 0 + _ ≤ _; exact Nat.le_of_eq rfl) (hb hby at_111) (fun _ _ => ⟨rfl, e4, (by decide : 0 + 0 ≤ _), (by decide : 0 + 0 ≤ _)⟩)
  dsimp only [Pt.U, Pt.locs, Pt.cells, Pt.slots] at X5 l5 y5 z5 st5 hQ5
  subst l5 y5 z5
  obtain ⟨rfl, N5q, hh5⟩ := hQ5
  have N5 := Fr.app N0 N5q
  obtain ⟨fs, hr, hrun, hended, hW, hsame⟩ := X5.leave (v := some (.int (1 : Int32))) (fun h => by rw [Bd.returns] at h; cases h)
  refine ⟨_, _, pre0 _ ?_, hrun, hended, _, _, rfl, ?_, ⟨_, rfl⟩, hW, hsame.mono (by decide) (by decide)⟩
  -- 4. STEPS
  · show Steps p.tables e below (s₁.setTop (mkF m 0 #[.val (.int p1), .val (.long q2), .second, .unset, .unset, .unset, .unset] [])) _
    refine XS.iloadN X0.here hx rfl (hb hby at_0) rfl ?_
    show Steps p.tables e below (s₁.setTop (mkF m 1 #[.val (.int p1), .val (.long q2), .second, .unset, .unset, .unset, .unset] [(.int p1)])) _
    refine X0.ldcInt hx hown (mvT hZ (hw _ (List.mem_of_getElem? (i := 0) rfl))) (g := (mkF m 1 #[.val (.int p1), .val (.long q2), .second, .unset, .unset, .unset, .unset] [(.int p1)])) rfl (hb hby at_1) _ ?_
    show Steps p.tables e below (s₁.setTop (mkF m 3 #[.val (.int p1), .val (.long q2), .second, .unset, .unset, .unset, .unset] [(.int (2147483647 : Int32)), (.int p1)])) _
    refine XS.iand X0.here hx rfl (hb hby at_3) rfl ?_
    show Steps p.tables e below (s₁.setTop (mkF m 4 #[.val (.int p1), .val (.long q2), .second, .unset, .unset, .unset, .unset] [(.int (p1 &&& (2147483647 : Int32)))])) _
    refine XS.bipush X0.here hx rfl (hb hby at_4) ?_
    show Steps p.tables e below (s₁.setTop (mkF m 6 #[.val (.int p1), .val (.long q2), .second, .unset, .unset, .unset, .unset] [(.int (6 : Int32)), (.int (p1 &&& (2147483647 : Int32)))])) _
    refine iremM X0 hx rfl (hb hby at_6) rfl (by decide) ?_
    show Steps p.tables e below (s₁.setTop (mkF m 7 #[.val (.int p1), .val (.long q2), .second, .unset, .unset, .unset, .unset] [(.int ((p1 &&& (2147483647 : Int32)) % (6 : Int32)))])) _
    refine XS.istoreN X0.here hx rfl (hb hby at_7) rfl (l' := #[.val (.int p1), .val (.long q2), .second, .val (.int ((p1 &&& (2147483647 : Int32)) % (6 : Int32))), .unset, .unset, .unset]) rfl ?_
    show Steps p.tables e below (s₁.setTop (mkF m 8 #[.val (.int p1), .val (.long q2), .second, .val (.int ((p1 &&& (2147483647 : Int32)) % (6 : Int32))), .unset, .unset, .unset] [])) _
    refine XS.iloadN X0.here hx rfl (hb hby at_8) rfl ?_
    show Steps p.tables e below (s₁.setTop (mkF m 9 #[.val (.int p1), .val (.long q2), .second, .val (.int ((p1 &&& (2147483647 : Int32)) % (6 : Int32))), .unset, .unset, .unset] [(.int ((p1 &&& (2147483647 : Int32)) % (6 : Int32)))])) _
    refine XS.ifYes X0.here hx rfl (pc0 := 9) (pc' := 25) rfl (hb hby at_9) rfl ((if0 _ _).trans (feq hc9).2) (by decide) (by decide) ?_
    show Steps p.tables e below (s₁.setTop (mkF m 25 #[.val (.int p1), .val (.long q2), .second, .val (.int ((p1 &&& (2147483647 : Int32)) % (6 : Int32))), .unset, .unset, .unset] [])) _
    refine XS.iloadN X0.here hx rfl (hb hby at_25) rfl ?_
    show Steps p.tables e below (s₁.setTop (mkF m 26 #[.val (.int p1), .val (.long q2), .second, .val (.int ((p1 &&& (2147483647 : Int32)) % (6 : Int32))), .unset, .unset, .unset] [(.int ((p1 &&& (2147483647 : Int32)) % (6 : Int32)))])) _
    refine XS.iconst X0.here hx rfl (hb hby at_26) ?_
    show Steps p.tables e below (s₁.setTop (mkF m 27 #[.val (.int p1), .val (.long q2), .second, .val (.int ((p1 &&& (2147483647 : Int32)) % (6 : Int32))), .unset, .unset, .unset] [(.int (1 : Int32)), (.int ((p1 &&& (2147483647 : Int32)) % (6 : Int32)))])) _
    refine XS.icmpYes X0.here hx rfl (pc0 := 27) (pc' := 44) rfl (hb hby at_27) rfl (feq hc27).2 (by decide) (by decide) ?_
    show Steps p.tables e below (s₁.setTop (mkF m 44 #[.val (.int p1), .val (.long q2), .second, .val (.int ((p1 &&& (2147483647 : Int32)) % (6 : Int32))), .unset, .unset, .unset] [])) _
    refine XS.iloadN X0.here hx rfl (hb hby at_44) rfl ?_
    show Steps p.tables e below (s₁.setTop (mkF m 45 #[.val (.int p1), .val (.long q2), .second, .val (.int ((p1 &&& (2147483647 : Int32)) % (6 : Int32))), .unset, .unset, .unset] [(.int ((p1 &&& (2147483647 : Int32)) % (6 : Int32)))])) _
    refine XS.iconst X0.here hx rfl (hb hby at_45) ?_
    show Steps p.tables e below (s₁.setTop (mkF m 46 #[.val (.int p1), .val (.long q2), .second, .val (.int ((p1 &&& (2147483647 : Int32)) % (6 : Int32))), .unset, .unset, .unset] [(.int (2 : Int32)), (.int ((p1 &&& (2147483647 : Int32)) % (6 : Int32)))])) _
    refine XS.icmpNo X0.here hx rfl (hb hby at_46) rfl (teq hc46).2 ?_
    show Steps p.tables e below (s₁.setTop (mkF m 49 #[.val (.int p1), .val (.long q2), .second, .val (.int ((p1 &&& (2147483647 : Int32)) % (6 : Int32))), .unset, .unset, .unset] [])) _
    refine st4 _ ?_
    show Steps p.tables e below (T4.setTop (mkF m 52 #[.val (.int p1), .val (.long q2), .second, .val (.int ((p1 &&& (2147483647 : Int32)) % (6 : Int32))), .unset, .unset, .unset] [(.ref w3)])) _
    refine XS.astore X4.here hx rfl (hb hby at_52) rfl rfl (l' := #[.val (.int p1), .val (.long q2), .second, .val (.int ((p1 &&& (2147483647 : Int32)) % (6 : Int32))), .val (.ref w3), .unset, .unset]) rfl ?_
    show Steps p.tables e below (T4.setTop (mkF m 54 #[.val (.int p1), .val (.long q2), .second, .val (.int ((p1 &&& (2147483647 : Int32)) % (6 : Int32))), .val (.ref w3), .unset, .unset] [])) _
    refine XS.lloadN X4.here hx rfl (hb hby at_54) rfl ?_
    show Steps p.tables e below (T4.setTop (mkF m 55 #[.val (.int p1), .val (.long q2), .second, .val (.int ((p1 &&& (2147483647 : Int32)) % (6 : Int32))), .val (.ref w3), .unset, .unset] [(.long q2)])) _
    refine XS.l2i X4.here hx rfl (hb hby at_55) rfl ?_
    show Steps p.tables e below (T4.setTop (mkF m 56 #[.val (.int p1), .val (.long q2), .second, .val (.int ((p1 &&& (2147483647 : Int32)) % (6 : Int32))), .val (.ref w3), .unset, .unset] [(.int (q2.toInt32))])) _
    refine XS.i2c X4.here hx rfl (hb hby at_56) rfl ?_
    show Steps p.tables e below (T4.setTop (mkF m 57 #[.val (.int p1), .val (.long q2), .second, .val (.int ((p1 &&& (2147483647 : Int32)) % (6 : Int32))), .val (.ref w3), .unset, .unset] [(.int ((q2.toInt32).toUInt32.toUInt16.toUInt32.toInt32))])) _
    refine XS.i2l X4.here hx rfl (hb hby at_57) rfl ?_
    show Steps p.tables e below (T4.setTop (mkF m 58 #[.val (.int p1), .val (.long q2), .second, .val (.int ((p1 &&& (2147483647 : Int32)) % (6 : Int32))), .val (.ref w3), .unset, .unset] [(.long (((q2.toInt32).toUInt32.toUInt16.toUInt32.toInt32).toInt64))])) _
    refine XS.lstore X4.here hx rfl (hb hby at_58) rfl (l' := #[.val (.int p1), .val (.long q2), .second, .val (.int ((p1 &&& (2147483647 : Int32)) % (6 : Int32))), .val (.ref w3), .val (.long (((q2.toInt32).toUInt32.toUInt16.toUInt32.toInt32).toInt64)), .second]) rfl ?_
    show Steps p.tables e below (T4.setTop (mkF m 60 #[.val (.int p1), .val (.long q2), .second, .val (.int ((p1 &&& (2147483647 : Int32)) % (6 : Int32))), .val (.ref w3), .val (.long (((q2.toInt32).toUInt32.toUInt16.toUInt32.toInt32).toInt64)), .second] [])) _
    refine XS.goto X4.here hx rfl (pc0 := 60) (pc' := 108) rfl (hb hby at_60) (by decide) (by decide) ?_
    show Steps p.tables e below (T4.setTop (mkF m 108 #[.val (.int p1), .val (.long q2), .second, .val (.int ((p1 &&& (2147483647 : Int32)) % (6 : Int32))), .val (.ref w3), .val (.long (((q2.toInt32).toUInt32.toUInt16.toUInt32.toInt32).toInt64)), .second] [])) _
    refine XS.aload X4.here hx rfl (hb hby at_108) rfl rfl ?_
    show Steps p.tables e below (T4.setTop (mkF m 110 #[.val (.int p1), .val (.long q2), .second, .val (.int ((p1 &&& (2147483647 : Int32)) % (6 : Int32))), .val (.ref w3), .val (.long (((q2.toInt32).toUInt32.toUInt16.toUInt32.toInt32).toInt64)), .second] [(.ref w3)])) _
    refine XS.lloadN X4.here hx rfl (hb hby at_110) rfl ?_
    show Steps p.tables e below (T4.setTop (mkF m 111 #[.val (.int p1), .val (.long q2), .second, .val (.int ((p1 &&& (2147483647 : Int32)) % (6 : Int32))), .val (.ref w3), .val (.long (((q2.toInt32).toUInt32.toUInt16.toUInt32.toInt32).toInt64)), .second] [(.long q2), (.ref w3)])) _
    refine st5.trans ?_
    show Steps p.tables e below (T5.setTop (mkF m 114 #[.val (.int p1), .val (.long q2), .second, .val (.int ((p1 &&& (2147483647 : Int32)) % (6 : Int32))), .val (.ref w3), .val (.long (((q2.toInt32).toUInt32.toUInt16.toUInt32.toInt32).toInt64)), .second] [(.long (q2 &&& (((1 : Int64) <<< ((16 : Int32) &&& 0x3f).toInt64) - (1 : Int64))))])) _
    refine XS.lload X5.here hx rfl (hb hby at_114) rfl ?_
    show Steps p.tables e below (T5.setTop (mkF m 116 #[.val (.int p1), .val (.long q2), .second, .val (.int ((p1 &&& (2147483647 : Int32)) % (6 : Int32))), .val (.ref w3), .val (.long (((q2.toInt32).toUInt32.toUInt16.toUInt32.toInt32).toInt64)), .second] [(.long (((q2.toInt32).toUInt32.toUInt16.toUInt32.toInt32).toInt64)), (.long (q2 &&& (((1 : Int64) <<< ((16 : Int32) &&& 0x3f).toInt64) - (1 : Int64))))])) _
    refine XS.lcmp X5.here hx rfl (hb hby at_116) rfl ?_
    show Steps p.tables e below (T5.setTop (mkF m 117 #[.val (.int p1), .val (.long q2), .second, .val (.int ((p1 &&& (2147483647 : Int32)) % (6 : Int32))), .val (.ref w3), .val (.long (((q2.toInt32).toUInt32.toUInt16.toUInt32.toInt32).toInt64)), .second] [(.int (lcmpW (q2 &&& (((1 : Int64) <<< ((16 : Int32) &&& 0x3f).toInt64) - (1 : Int64))) (((q2.toInt32).toUInt32.toUInt16.toUInt32.toInt32).toInt64)))])) _
    refine XS.ifNo X5.here hx rfl (hb hby at_117) rfl ((if0 _ _).trans (teq hc117).2) ?_
    show Steps p.tables e below (T5.setTop (mkF m 120 #[.val (.int p1), .val (.long q2), .second, .val (.int ((p1 &&& (2147483647 : Int32)) % (6 : Int32))), .val (.ref w3), .val (.long (((q2.toInt32).toUInt32.toUInt16.toUInt32.toInt32).toInt64)), .second] [])) _
    refine XS.iconst X5.here hx rfl (hb hby at_120) ?_
    show Steps p.tables e below (T5.setTop (mkF m 121 #[.val (.int p1), .val (.long q2), .second, .val (.int ((p1 &&& (2147483647 : Int32)) % (6 : Int32))), .val (.ref w3), .val (.long (((q2.toInt32).toUInt32.toUInt16.toUInt32.toInt32).toInt64)), .second] [(.int (1 : Int32))])) _
    refine XS.goto X5.here hx rfl (pc0 := 121) (pc' := 125) rfl (hb hby at_121) (by decide) (by decide) ?_
    show Steps p.tables e below (T5.setTop (mkF m 125 #[.val (.int p1), .val (.long q2), .second, .val (.int ((p1 &&& (2147483647 : Int32)) % (6 : Int32))), .val (.ref w3), .val (.long (((q2.toInt32).toUInt32.toUInt16.toUInt32.toInt32).toInt64)), .second] [(.int (1 : Int32))])) _
    exact retN X5 hx (t := .boolean) Bd.returns (by simp) (hb hby at_125) hr
  · show Q0 n0 _ _
    exact ⟨rfl, N5⟩

set_option maxRecDepth 65536 in
set_option maxHeartbeats 40000000 in
theorem rm0_SHORT_p (l : Launch) (Z : State) (a0 : Array Value) (hw : ∀ d ∈ tables_1, d.before a0 Z = true) (ws : List Jvm.Cond) (p1 : Int32) (q2 : Int64) (w3 : Addr)  (h0 : Heap) (n0 : Nat) (Z0 : n0 ≤ h0.size) (F_bits : Fld Z h0 w3 "com/example/pathglass/pathglass/symbolic/InputType" "bits" "I" (.int (16 : Int32))) (F_signed : Fld Z h0 w3 "com/example/pathglass/pathglass/symbolic/InputType" "signed" "Z" (.int (1 : Int32))) (hs : (lcmpW (((q2 &&& (((1 : Int64) <<< ((16 : Int32) &&& 0x3f).toInt64) - (1 : Int64))).toUInt64 >>> (((16 : Int32) - (1 : Int32)) &&& 0x3f).toInt64.toUInt64).toInt64) (0 : Int64)) = (0 : Int32)) (S_SHORT : Sta Z h0 "com/example/pathglass/pathglass/symbolic/InputType" "SHORT" "Lcom/example/pathglass/pathglass/symbolic/InputType;" (.ref w3)) (E_w3 : Exa Z h0 w3 "com/example/pathglass/pathglass/symbolic/InputType") (hc9 : ¬ (((p1 &&& (2147483647 : Int32)) % (6 : Int32)) = (0 : Int32))) (hc27 : ¬ (((p1 &&& (2147483647 : Int32)) % (6 : Int32)) = (1 : Int32))) (hc46 : ¬ (((p1 &&& (2147483647 : Int32)) % (6 : Int32)) = (2 : Int32))) (hc65 : ((p1 &&& (2147483647 : Int32)) % (6 : Int32)) = (3 : Int32)) (hc117 : (lcmpW (q2 &&& (((1 : Int64) <<< ((16 : Int32) &&& 0x3f).toInt64) - (1 : Int64))) (((q2.toInt32).toInt16.toInt32).toInt64)) = (0 : Int32)) :
    MetFree l x (head1 (Jvm.Cond.code x code maxLocals ret :: ws) room_1) (fun a U => a = #[(.int p1), (.long q2)] ∧ Z.Warmed39 U.vm ∧ U.heap = h0) (fun _ _ _ _ _ => True) (fun _ U o U' => ∃ v L, o = .returned v ∧ Q0 n0 v L ∧ FrameEnd U o U' L room_1.cells room_1.slots) := by
  refine MetFree.of_bodySF (plainFor_of_name pn_0) hisR ?_
  intro p e s m args below meth c s₁ Bd hml0 hP hK
  obtain ⟨rfl, hZ, hh⟩ := hP
  have hx := Bd.exec
  have hby := Bd.bytes
  have hml : c.maxLocals = 7 := hml0
  have hown : s.vm.findClass "com/example/pathglass/pathglass/symbolic/InputTypeValueOfPinLaw" = some m.cls := findClass_of_methodNamed Bd.named
  have hnm := (name_of_methodNamed Bd.named Bd.method).1
  have X0 : Stand p l e room_1 s m #[(.int p1), (.long q2)] below meth c s₁ [] 0 0 := Stand.of_body Bd
  have e0 : s₁.heap = h0 := by rw [← hh, Bd.state]; rfl
  have N0 := Fr.nil n0
  have pre0 : ∀ t, Steps p.tables e below (s₁.setTop (mkF m 0 #[.val (.int p1), .val (.long q2), .second, .unset, .unset, .unset, .unset] [])) t → Steps p.tables e below (s₁.setTop (entryFrame m #[(.int p1), (.long q2)] maxLocals)) t := fun t k => castTop (ef_0 m p1 q2) k
  -- 3. LAWS
  obtain ⟨T4, X4, e4, st4⟩ := getS2 X0 hx hZ hown (host := "") (Or.inl (hw _ (List.mem_of_getElem? (i := 19) rfl))) Via.refl e0 S_SHORT (g := (mkF m 68 #[.val (.int p1), .val (.long q2), .second, .val (.int ((p1 &&& (2147483647 : Int32)) % (6 : Int32))), .unset, .unset, .unset] [])) rfl (hb hby at_68)
  -- pc 111: com/example/pathglass/pathglass/symbolic/InputType.valueOf by the contract of the body that the receiver's class selects, rm1
  obtain ⟨cq5, kq5, q5a, q5b, q5c⟩ := isOf hZ e4 E_w3
  obtain ⟨_, _, ⟨T5, L5, k5, n5⟩, -, X5, ⟨Lc5, hQ5, l5, y5, z5⟩, st5⟩ := X4.virtualBack hx (y := (⟨"com/example/pathglass/pathglass/symbolic/InputType", "valueOf", "(J)J"⟩ : MethodName)) (z := (⟨"com/example/pathglass/pathglass/symbolic/InputType", "valueOf", "(J)J"⟩ : MethodName)) hown (mvT hZ (hw _ (List.mem_of_getElem? (i := 4) rfl))) (mvT hZ (hw _ (List.mem_of_getElem? (i := 5) rfl))) (notFace_of_selects (args := #[]) (mvT hZ (hw _ (List.mem_of_getElem? (i := 7) rfl)))) (mvT hZ (hw _ (List.mem_of_getElem? (i := 7) rfl))) (mvT hZ (hw _ (List.mem_of_getElem? (i := 6) rfl))) (by decide) (backOf (W := 0) (rm1_SHORT_p l Z a0 hw [] w3 q2  h0 n0 Z0 F_bits F_signed hs) hZ (hw _ (List.mem_of_getElem? (i := 8) rfl)) (hw _ (List.mem_of_getElem? (i := 2) rfl)) (by decide) (by decide)) q5a q5c (g := (mkF m 111 #[.val (.int p1), .val (.long q2), .second, .val (.int ((p1 &&& (2147483647 : Int32)) % (6 : Int32))), .val (.ref w3), .val (.long (((q2.toInt32).toInt16.toInt32).toInt64)), .second] [(.long q2), (.ref w3)])) rfl (by rw [hml]; rfl) (Steps.refl _) (argsL := [(.long q2)]) (rest := []) (lenOf pd_0_0 rfl) rfl (by show 2 * 0 + _ ≤ _; exact Nat.le_of_eq rfl) (hb hby at_111) (fun _ _ => ⟨rfl, e4, (by decide : 0 + 0 ≤ _), (by decide : 0 + 0 ≤ _)⟩)
  dsimp only [Pt.U, Pt.locs, Pt.cells, Pt.slots] at X5 l5 y5 z5 st5 hQ5
  subst l5 y5 z5
  obtain ⟨rfl, N5q, hh5⟩ := hQ5
  have N5 := Fr.app N0 N5q
  obtain ⟨fs, hr, hrun, hended, hW, hsame⟩ := X5.leave (v := some (.int (1 : Int32))) (fun h => by rw [Bd.returns] at h; cases h)
  refine ⟨_, _, pre0 _ ?_, hrun, hended, _, _, rfl, ?_, ⟨_, rfl⟩, hW, hsame.mono (by decide) (by decide)⟩
  -- 4. STEPS
  · show Steps p.tables e below (s₁.setTop (mkF m 0 #[.val (.int p1), .val (.long q2), .second, .unset, .unset, .unset, .unset] [])) _
    refine XS.iloadN X0.here hx rfl (hb hby at_0) rfl ?_
    show Steps p.tables e below (s₁.setTop (mkF m 1 #[.val (.int p1), .val (.long q2), .second, .unset, .unset, .unset, .unset] [(.int p1)])) _
    refine X0.ldcInt hx hown (mvT hZ (hw _ (List.mem_of_getElem? (i := 0) rfl))) (g := (mkF m 1 #[.val (.int p1), .val (.long q2), .second, .unset, .unset, .unset, .unset] [(.int p1)])) rfl (hb hby at_1) _ ?_
    show Steps p.tables e below (s₁.setTop (mkF m 3 #[.val (.int p1), .val (.long q2), .second, .unset, .unset, .unset, .unset] [(.int (2147483647 : Int32)), (.int p1)])) _
    refine XS.iand X0.here hx rfl (hb hby at_3) rfl ?_
    show Steps p.tables e below (s₁.setTop (mkF m 4 #[.val (.int p1), .val (.long q2), .second, .unset, .unset, .unset, .unset] [(.int (p1 &&& (2147483647 : Int32)))])) _
    refine XS.bipush X0.here hx rfl (hb hby at_4) ?_
    show Steps p.tables e below (s₁.setTop (mkF m 6 #[.val (.int p1), .val (.long q2), .second, .unset, .unset, .unset, .unset] [(.int (6 : Int32)), (.int (p1 &&& (2147483647 : Int32)))])) _
    refine iremM X0 hx rfl (hb hby at_6) rfl (by decide) ?_
    show Steps p.tables e below (s₁.setTop (mkF m 7 #[.val (.int p1), .val (.long q2), .second, .unset, .unset, .unset, .unset] [(.int ((p1 &&& (2147483647 : Int32)) % (6 : Int32)))])) _
    refine XS.istoreN X0.here hx rfl (hb hby at_7) rfl (l' := #[.val (.int p1), .val (.long q2), .second, .val (.int ((p1 &&& (2147483647 : Int32)) % (6 : Int32))), .unset, .unset, .unset]) rfl ?_
    show Steps p.tables e below (s₁.setTop (mkF m 8 #[.val (.int p1), .val (.long q2), .second, .val (.int ((p1 &&& (2147483647 : Int32)) % (6 : Int32))), .unset, .unset, .unset] [])) _
    refine XS.iloadN X0.here hx rfl (hb hby at_8) rfl ?_
    show Steps p.tables e below (s₁.setTop (mkF m 9 #[.val (.int p1), .val (.long q2), .second, .val (.int ((p1 &&& (2147483647 : Int32)) % (6 : Int32))), .unset, .unset, .unset] [(.int ((p1 &&& (2147483647 : Int32)) % (6 : Int32)))])) _
    refine XS.ifYes X0.here hx rfl (pc0 := 9) (pc' := 25) rfl (hb hby at_9) rfl ((if0 _ _).trans (feq hc9).2) (by decide) (by decide) ?_
    show Steps p.tables e below (s₁.setTop (mkF m 25 #[.val (.int p1), .val (.long q2), .second, .val (.int ((p1 &&& (2147483647 : Int32)) % (6 : Int32))), .unset, .unset, .unset] [])) _
    refine XS.iloadN X0.here hx rfl (hb hby at_25) rfl ?_
    show Steps p.tables e below (s₁.setTop (mkF m 26 #[.val (.int p1), .val (.long q2), .second, .val (.int ((p1 &&& (2147483647 : Int32)) % (6 : Int32))), .unset, .unset, .unset] [(.int ((p1 &&& (2147483647 : Int32)) % (6 : Int32)))])) _
    refine XS.iconst X0.here hx rfl (hb hby at_26) ?_
    show Steps p.tables e below (s₁.setTop (mkF m 27 #[.val (.int p1), .val (.long q2), .second, .val (.int ((p1 &&& (2147483647 : Int32)) % (6 : Int32))), .unset, .unset, .unset] [(.int (1 : Int32)), (.int ((p1 &&& (2147483647 : Int32)) % (6 : Int32)))])) _
    refine XS.icmpYes X0.here hx rfl (pc0 := 27) (pc' := 44) rfl (hb hby at_27) rfl (feq hc27).2 (by decide) (by decide) ?_
    show Steps p.tables e below (s₁.setTop (mkF m 44 #[.val (.int p1), .val (.long q2), .second, .val (.int ((p1 &&& (2147483647 : Int32)) % (6 : Int32))), .unset, .unset, .unset] [])) _
    refine XS.iloadN X0.here hx rfl (hb hby at_44) rfl ?_
    show Steps p.tables e below (s₁.setTop (mkF m 45 #[.val (.int p1), .val (.long q2), .second, .val (.int ((p1 &&& (2147483647 : Int32)) % (6 : Int32))), .unset, .unset, .unset] [(.int ((p1 &&& (2147483647 : Int32)) % (6 : Int32)))])) _
    refine XS.iconst X0.here hx rfl (hb hby at_45) ?_
    show Steps p.tables e below (s₁.setTop (mkF m 46 #[.val (.int p1), .val (.long q2), .second, .val (.int ((p1 &&& (2147483647 : Int32)) % (6 : Int32))), .unset, .unset, .unset] [(.int (2 : Int32)), (.int ((p1 &&& (2147483647 : Int32)) % (6 : Int32)))])) _
    refine XS.icmpYes X0.here hx rfl (pc0 := 46) (pc' := 63) rfl (hb hby at_46) rfl (feq hc46).2 (by decide) (by decide) ?_
    show Steps p.tables e below (s₁.setTop (mkF m 63 #[.val (.int p1), .val (.long q2), .second, .val (.int ((p1 &&& (2147483647 : Int32)) % (6 : Int32))), .unset, .unset, .unset] [])) _
    refine XS.iloadN X0.here hx rfl (hb hby at_63) rfl ?_
    show Steps p.tables e below (s₁.setTop (mkF m 64 #[.val (.int p1), .val (.long q2), .second, .val (.int ((p1 &&& (2147483647 : Int32)) % (6 : Int32))), .unset, .unset, .unset] [(.int ((p1 &&& (2147483647 : Int32)) % (6 : Int32)))])) _
    refine XS.iconst X0.here hx rfl (hb hby at_64) ?_
    show Steps p.tables e below (s₁.setTop (mkF m 65 #[.val (.int p1), .val (.long q2), .second, .val (.int ((p1 &&& (2147483647 : Int32)) % (6 : Int32))), .unset, .unset, .unset] [(.int (3 : Int32)), (.int ((p1 &&& (2147483647 : Int32)) % (6 : Int32)))])) _
    refine XS.icmpNo X0.here hx rfl (hb hby at_65) rfl (teq hc65).2 ?_
    show Steps p.tables e below (s₁.setTop (mkF m 68 #[.val (.int p1), .val (.long q2), .second, .val (.int ((p1 &&& (2147483647 : Int32)) % (6 : Int32))), .unset, .unset, .unset] [])) _
    refine st4 _ ?_
    show Steps p.tables e below (T4.setTop (mkF m 71 #[.val (.int p1), .val (.long q2), .second, .val (.int ((p1 &&& (2147483647 : Int32)) % (6 : Int32))), .unset, .unset, .unset] [(.ref w3)])) _
    refine XS.astore X4.here hx rfl (hb hby at_71) rfl rfl (l' := #[.val (.int p1), .val (.long q2), .second, .val (.int ((p1 &&& (2147483647 : Int32)) % (6 : Int32))), .val (.ref w3), .unset, .unset]) rfl ?_
    show Steps p.tables e below (T4.setTop (mkF m 73 #[.val (.int p1), .val (.long q2), .second, .val (.int ((p1 &&& (2147483647 : Int32)) % (6 : Int32))), .val (.ref w3), .unset, .unset] [])) _
    refine XS.lloadN X4.here hx rfl (hb hby at_73) rfl ?_
    show Steps p.tables e below (T4.setTop (mkF m 74 #[.val (.int p1), .val (.long q2), .second, .val (.int ((p1 &&& (2147483647 : Int32)) % (6 : Int32))), .val (.ref w3), .unset, .unset] [(.long q2)])) _
    refine XS.l2i X4.here hx rfl (hb hby at_74) rfl ?_
    show Steps p.tables e below (T4.setTop (mkF m 75 #[.val (.int p1), .val (.long q2), .second, .val (.int ((p1 &&& (2147483647 : Int32)) % (6 : Int32))), .val (.ref w3), .unset, .unset] [(.int (q2.toInt32))])) _
    refine XS.i2s X4.here hx rfl (hb hby at_75) rfl ?_
    show Steps p.tables e below (T4.setTop (mkF m 76 #[.val (.int p1), .val (.long q2), .second, .val (.int ((p1 &&& (2147483647 : Int32)) % (6 : Int32))), .val (.ref w3), .unset, .unset] [(.int ((q2.toInt32).toInt16.toInt32))])) _
    refine XS.i2l X4.here hx rfl (hb hby at_76) rfl ?_
    show Steps p.tables e below (T4.setTop (mkF m 77 #[.val (.int p1), .val (.long q2), .second, .val (.int ((p1 &&& (2147483647 : Int32)) % (6 : Int32))), .val (.ref w3), .unset, .unset] [(.long (((q2.toInt32).toInt16.toInt32).toInt64))])) _
    refine XS.lstore X4.here hx rfl (hb hby at_77) rfl (l' := #[.val (.int p1), .val (.long q2), .second, .val (.int ((p1 &&& (2147483647 : Int32)) % (6 : Int32))), .val (.ref w3), .val (.long (((q2.toInt32).toInt16.toInt32).toInt64)), .second]) rfl ?_
    show Steps p.tables e below (T4.setTop (mkF m 79 #[.val (.int p1), .val (.long q2), .second, .val (.int ((p1 &&& (2147483647 : Int32)) % (6 : Int32))), .val (.ref w3), .val (.long (((q2.toInt32).toInt16.toInt32).toInt64)), .second] [])) _
    refine XS.goto X4.here hx rfl (pc0 := 79) (pc' := 108) rfl (hb hby at_79) (by decide) (by decide) ?_
    show Steps p.tables e below (T4.setTop (mkF m 108 #[.val (.int p1), .val (.long q2), .second, .val (.int ((p1 &&& (2147483647 : Int32)) % (6 : Int32))), .val (.ref w3), .val (.long (((q2.toInt32).toInt16.toInt32).toInt64)), .second] [])) _
    refine XS.aload X4.here hx rfl (hb hby at_108) rfl rfl ?_
    show Steps p.tables e below (T4.setTop (mkF m 110 #[.val (.int p1), .val (.long q2), .second, .val (.int ((p1 &&& (2147483647 : Int32)) % (6 : Int32))), .val (.ref w3), .val (.long (((q2.toInt32).toInt16.toInt32).toInt64)), .second] [(.ref w3)])) _
    refine XS.lloadN X4.here hx rfl (hb hby at_110) rfl ?_
    show Steps p.tables e below (T4.setTop (mkF m 111 #[.val (.int p1), .val (.long q2), .second, .val (.int ((p1 &&& (2147483647 : Int32)) % (6 : Int32))), .val (.ref w3), .val (.long (((q2.toInt32).toInt16.toInt32).toInt64)), .second] [(.long q2), (.ref w3)])) _
    refine st5.trans ?_
    show Steps p.tables e below (T5.setTop (mkF m 114 #[.val (.int p1), .val (.long q2), .second, .val (.int ((p1 &&& (2147483647 : Int32)) % (6 : Int32))), .val (.ref w3), .val (.long (((q2.toInt32).toInt16.toInt32).toInt64)), .second] [(.long (q2 &&& (((1 : Int64) <<< ((16 : Int32) &&& 0x3f).toInt64) - (1 : Int64))))])) _
    refine XS.lload X5.here hx rfl (hb hby at_114) rfl ?_
    show Steps p.tables e below (T5.setTop (mkF m 116 #[.val (.int p1), .val (.long q2), .second, .val (.int ((p1 &&& (2147483647 : Int32)) % (6 : Int32))), .val (.ref w3), .val (.long (((q2.toInt32).toInt16.toInt32).toInt64)), .second] [(.long (((q2.toInt32).toInt16.toInt32).toInt64)), (.long (q2 &&& (((1 : Int64) <<< ((16 : Int32) &&& 0x3f).toInt64) - (1 : Int64))))])) _
    refine XS.lcmp X5.here hx rfl (hb hby at_116) rfl ?_
    show Steps p.tables e below (T5.setTop (mkF m 117 #[.val (.int p1), .val (.long q2), .second, .val (.int ((p1 &&& (2147483647 : Int32)) % (6 : Int32))), .val (.ref w3), .val (.long (((q2.toInt32).toInt16.toInt32).toInt64)), .second] [(.int (lcmpW (q2 &&& (((1 : Int64) <<< ((16 : Int32) &&& 0x3f).toInt64) - (1 : Int64))) (((q2.toInt32).toInt16.toInt32).toInt64)))])) _
    refine XS.ifNo X5.here hx rfl (hb hby at_117) rfl ((if0 _ _).trans (teq hc117).2) ?_
    show Steps p.tables e below (T5.setTop (mkF m 120 #[.val (.int p1), .val (.long q2), .second, .val (.int ((p1 &&& (2147483647 : Int32)) % (6 : Int32))), .val (.ref w3), .val (.long (((q2.toInt32).toInt16.toInt32).toInt64)), .second] [])) _
    refine XS.iconst X5.here hx rfl (hb hby at_120) ?_
    show Steps p.tables e below (T5.setTop (mkF m 121 #[.val (.int p1), .val (.long q2), .second, .val (.int ((p1 &&& (2147483647 : Int32)) % (6 : Int32))), .val (.ref w3), .val (.long (((q2.toInt32).toInt16.toInt32).toInt64)), .second] [(.int (1 : Int32))])) _
    refine XS.goto X5.here hx rfl (pc0 := 121) (pc' := 125) rfl (hb hby at_121) (by decide) (by decide) ?_
    show Steps p.tables e below (T5.setTop (mkF m 125 #[.val (.int p1), .val (.long q2), .second, .val (.int ((p1 &&& (2147483647 : Int32)) % (6 : Int32))), .val (.ref w3), .val (.long (((q2.toInt32).toInt16.toInt32).toInt64)), .second] [(.int (1 : Int32))])) _
    exact retN X5 hx (t := .boolean) Bd.returns (by simp) (hb hby at_125) hr
  · show Q0 n0 _ _
    exact ⟨rfl, N5⟩

set_option maxRecDepth 65536 in
set_option maxHeartbeats 40000000 in
theorem rm0_SHORT_n (l : Launch) (Z : State) (a0 : Array Value) (hw : ∀ d ∈ tables_1, d.before a0 Z = true) (ws : List Jvm.Cond) (p1 : Int32) (q2 : Int64) (w3 : Addr)  (h0 : Heap) (n0 : Nat) (Z0 : n0 ≤ h0.size) (F_bits : Fld Z h0 w3 "com/example/pathglass/pathglass/symbolic/InputType" "bits" "I" (.int (16 : Int32))) (F_signed : Fld Z h0 w3 "com/example/pathglass/pathglass/symbolic/InputType" "signed" "Z" (.int (1 : Int32))) (hs : ¬ ((lcmpW (((q2 &&& (((1 : Int64) <<< ((16 : Int32) &&& 0x3f).toInt64) - (1 : Int64))).toUInt64 >>> (((16 : Int32) - (1 : Int32)) &&& 0x3f).toInt64.toUInt64).toInt64) (0 : Int64)) = (0 : Int32))) (S_SHORT : Sta Z h0 "com/example/pathglass/pathglass/symbolic/InputType" "SHORT" "Lcom/example/pathglass/pathglass/symbolic/InputType;" (.ref w3)) (E_w3 : Exa Z h0 w3 "com/example/pathglass/pathglass/symbolic/InputType") (hc9 : ¬ (((p1 &&& (2147483647 : Int32)) % (6 : Int32)) = (0 : Int32))) (hc27 : ¬ (((p1 &&& (2147483647 : Int32)) % (6 : Int32)) = (1 : Int32))) (hc46 : ¬ (((p1 &&& (2147483647 : Int32)) % (6 : Int32)) = (2 : Int32))) (hc65 : ((p1 &&& (2147483647 : Int32)) % (6 : Int32)) = (3 : Int32)) (hc117 : (lcmpW ((q2 &&& (((1 : Int64) <<< ((16 : Int32) &&& 0x3f).toInt64) - (1 : Int64))) - ((1 : Int64) <<< ((16 : Int32) &&& 0x3f).toInt64)) (((q2.toInt32).toInt16.toInt32).toInt64)) = (0 : Int32)) :
    MetFree l x (head1 (Jvm.Cond.code x code maxLocals ret :: ws) room_1) (fun a U => a = #[(.int p1), (.long q2)] ∧ Z.Warmed39 U.vm ∧ U.heap = h0) (fun _ _ _ _ _ => True) (fun _ U o U' => ∃ v L, o = .returned v ∧ Q0 n0 v L ∧ FrameEnd U o U' L room_1.cells room_1.slots) := by
  refine MetFree.of_bodySF (plainFor_of_name pn_0) hisR ?_
  intro p e s m args below meth c s₁ Bd hml0 hP hK
  obtain ⟨rfl, hZ, hh⟩ := hP
  have hx := Bd.exec
  have hby := Bd.bytes
  have hml : c.maxLocals = 7 := hml0
  have hown : s.vm.findClass "com/example/pathglass/pathglass/symbolic/InputTypeValueOfPinLaw" = some m.cls := findClass_of_methodNamed Bd.named
  have hnm := (name_of_methodNamed Bd.named Bd.method).1
  have X0 : Stand p l e room_1 s m #[(.int p1), (.long q2)] below meth c s₁ [] 0 0 := Stand.of_body Bd
  have e0 : s₁.heap = h0 := by rw [← hh, Bd.state]; rfl
  have N0 := Fr.nil n0
  have pre0 : ∀ t, Steps p.tables e below (s₁.setTop (mkF m 0 #[.val (.int p1), .val (.long q2), .second, .unset, .unset, .unset, .unset] [])) t → Steps p.tables e below (s₁.setTop (entryFrame m #[(.int p1), (.long q2)] maxLocals)) t := fun t k => castTop (ef_0 m p1 q2) k
  -- 3. LAWS
  obtain ⟨T4, X4, e4, st4⟩ := getS2 X0 hx hZ hown (host := "") (Or.inl (hw _ (List.mem_of_getElem? (i := 19) rfl))) Via.refl e0 S_SHORT (g := (mkF m 68 #[.val (.int p1), .val (.long q2), .second, .val (.int ((p1 &&& (2147483647 : Int32)) % (6 : Int32))), .unset, .unset, .unset] [])) rfl (hb hby at_68)
  -- pc 111: com/example/pathglass/pathglass/symbolic/InputType.valueOf by the contract of the body that the receiver's class selects, rm1
  obtain ⟨cq5, kq5, q5a, q5b, q5c⟩ := isOf hZ e4 E_w3
  obtain ⟨_, _, ⟨T5, L5, k5, n5⟩, -, X5, ⟨Lc5, hQ5, l5, y5, z5⟩, st5⟩ := X4.virtualBack hx (y := (⟨"com/example/pathglass/pathglass/symbolic/InputType", "valueOf", "(J)J"⟩ : MethodName)) (z := (⟨"com/example/pathglass/pathglass/symbolic/InputType", "valueOf", "(J)J"⟩ : MethodName)) hown (mvT hZ (hw _ (List.mem_of_getElem? (i := 4) rfl))) (mvT hZ (hw _ (List.mem_of_getElem? (i := 5) rfl))) (notFace_of_selects (args := #[]) (mvT hZ (hw _ (List.mem_of_getElem? (i := 7) rfl)))) (mvT hZ (hw _ (List.mem_of_getElem? (i := 7) rfl))) (mvT hZ (hw _ (List.mem_of_getElem? (i := 6) rfl))) (by decide) (backOf (W := 0) (rm1_SHORT_n l Z a0 hw [] w3 q2  h0 n0 Z0 F_bits F_signed hs) hZ (hw _ (List.mem_of_getElem? (i := 8) rfl)) (hw _ (List.mem_of_getElem? (i := 2) rfl)) (by decide) (by decide)) q5a q5c (g := (mkF m 111 #[.val (.int p1), .val (.long q2), .second, .val (.int ((p1 &&& (2147483647 : Int32)) % (6 : Int32))), .val (.ref w3), .val (.long (((q2.toInt32).toInt16.toInt32).toInt64)), .second] [(.long q2), (.ref w3)])) rfl (by rw [hml]; rfl) (Steps.refl _) (argsL := [(.long q2)]) (rest := []) (lenOf pd_0_0 rfl) rfl (by show 2 * 0 + _ ≤ _; exact Nat.le_of_eq rfl) (hb hby at_111) (fun _ _ => ⟨rfl, e4, (by decide : 0 + 0 ≤ _), (by decide : 0 + 0 ≤ _)⟩)
  dsimp only [Pt.U, Pt.locs, Pt.cells, Pt.slots] at X5 l5 y5 z5 st5 hQ5
  subst l5 y5 z5
  obtain ⟨rfl, N5q, hh5⟩ := hQ5
  have N5 := Fr.app N0 N5q
  obtain ⟨fs, hr, hrun, hended, hW, hsame⟩ := X5.leave (v := some (.int (1 : Int32))) (fun h => by rw [Bd.returns] at h; cases h)
  refine ⟨_, _, pre0 _ ?_, hrun, hended, _, _, rfl, ?_, ⟨_, rfl⟩, hW, hsame.mono (by decide) (by decide)⟩
  -- 4. STEPS
  · show Steps p.tables e below (s₁.setTop (mkF m 0 #[.val (.int p1), .val (.long q2), .second, .unset, .unset, .unset, .unset] [])) _
    refine XS.iloadN X0.here hx rfl (hb hby at_0) rfl ?_
    show Steps p.tables e below (s₁.setTop (mkF m 1 #[.val (.int p1), .val (.long q2), .second, .unset, .unset, .unset, .unset] [(.int p1)])) _
    refine X0.ldcInt hx hown (mvT hZ (hw _ (List.mem_of_getElem? (i := 0) rfl))) (g := (mkF m 1 #[.val (.int p1), .val (.long q2), .second, .unset, .unset, .unset, .unset] [(.int p1)])) rfl (hb hby at_1) _ ?_
    show Steps p.tables e below (s₁.setTop (mkF m 3 #[.val (.int p1), .val (.long q2), .second, .unset, .unset, .unset, .unset] [(.int (2147483647 : Int32)), (.int p1)])) _
    refine XS.iand X0.here hx rfl (hb hby at_3) rfl ?_
    show Steps p.tables e below (s₁.setTop (mkF m 4 #[.val (.int p1), .val (.long q2), .second, .unset, .unset, .unset, .unset] [(.int (p1 &&& (2147483647 : Int32)))])) _
    refine XS.bipush X0.here hx rfl (hb hby at_4) ?_
    show Steps p.tables e below (s₁.setTop (mkF m 6 #[.val (.int p1), .val (.long q2), .second, .unset, .unset, .unset, .unset] [(.int (6 : Int32)), (.int (p1 &&& (2147483647 : Int32)))])) _
    refine iremM X0 hx rfl (hb hby at_6) rfl (by decide) ?_
    show Steps p.tables e below (s₁.setTop (mkF m 7 #[.val (.int p1), .val (.long q2), .second, .unset, .unset, .unset, .unset] [(.int ((p1 &&& (2147483647 : Int32)) % (6 : Int32)))])) _
    refine XS.istoreN X0.here hx rfl (hb hby at_7) rfl (l' := #[.val (.int p1), .val (.long q2), .second, .val (.int ((p1 &&& (2147483647 : Int32)) % (6 : Int32))), .unset, .unset, .unset]) rfl ?_
    show Steps p.tables e below (s₁.setTop (mkF m 8 #[.val (.int p1), .val (.long q2), .second, .val (.int ((p1 &&& (2147483647 : Int32)) % (6 : Int32))), .unset, .unset, .unset] [])) _
    refine XS.iloadN X0.here hx rfl (hb hby at_8) rfl ?_
    show Steps p.tables e below (s₁.setTop (mkF m 9 #[.val (.int p1), .val (.long q2), .second, .val (.int ((p1 &&& (2147483647 : Int32)) % (6 : Int32))), .unset, .unset, .unset] [(.int ((p1 &&& (2147483647 : Int32)) % (6 : Int32)))])) _
    refine XS.ifYes X0.here hx rfl (pc0 := 9) (pc' := 25) rfl (hb hby at_9) rfl ((if0 _ _).trans (feq hc9).2) (by decide) (by decide) ?_
    show Steps p.tables e below (s₁.setTop (mkF m 25 #[.val (.int p1), .val (.long q2), .second, .val (.int ((p1 &&& (2147483647 : Int32)) % (6 : Int32))), .unset, .unset, .unset] [])) _
    refine XS.iloadN X0.here hx rfl (hb hby at_25) rfl ?_
    show Steps p.tables e below (s₁.setTop (mkF m 26 #[.val (.int p1), .val (.long q2), .second, .val (.int ((p1 &&& (2147483647 : Int32)) % (6 : Int32))), .unset, .unset, .unset] [(.int ((p1 &&& (2147483647 : Int32)) % (6 : Int32)))])) _
    refine XS.iconst X0.here hx rfl (hb hby at_26) ?_
    show Steps p.tables e below (s₁.setTop (mkF m 27 #[.val (.int p1), .val (.long q2), .second, .val (.int ((p1 &&& (2147483647 : Int32)) % (6 : Int32))), .unset, .unset, .unset] [(.int (1 : Int32)), (.int ((p1 &&& (2147483647 : Int32)) % (6 : Int32)))])) _
    refine XS.icmpYes X0.here hx rfl (pc0 := 27) (pc' := 44) rfl (hb hby at_27) rfl (feq hc27).2 (by decide) (by decide) ?_
    show Steps p.tables e below (s₁.setTop (mkF m 44 #[.val (.int p1), .val (.long q2), .second, .val (.int ((p1 &&& (2147483647 : Int32)) % (6 : Int32))), .unset, .unset, .unset] [])) _
    refine XS.iloadN X0.here hx rfl (hb hby at_44) rfl ?_
    show Steps p.tables e below (s₁.setTop (mkF m 45 #[.val (.int p1), .val (.long q2), .second, .val (.int ((p1 &&& (2147483647 : Int32)) % (6 : Int32))), .unset, .unset, .unset] [(.int ((p1 &&& (2147483647 : Int32)) % (6 : Int32)))])) _
    refine XS.iconst X0.here hx rfl (hb hby at_45) ?_
    show Steps p.tables e below (s₁.setTop (mkF m 46 #[.val (.int p1), .val (.long q2), .second, .val (.int ((p1 &&& (2147483647 : Int32)) % (6 : Int32))), .unset, .unset, .unset] [(.int (2 : Int32)), (.int ((p1 &&& (2147483647 : Int32)) % (6 : Int32)))])) _
    refine XS.icmpYes X0.here hx rfl (pc0 := 46) (pc' := 63) rfl (hb hby at_46) rfl (feq hc46).2 (by decide) (by decide) ?_
    show Steps p.tables e below (s₁.setTop (mkF m 63 #[.val (.int p1), .val (.long q2), .second, .val (.int ((p1 &&& (2147483647 : Int32)) % (6 : Int32))), .unset, .unset, .unset] [])) _
    refine XS.iloadN X0.here hx rfl (hb hby at_63) rfl ?_
    show Steps p.tables e below (s₁.setTop (mkF m 64 #[.val (.int p1), .val (.long q2), .second, .val (.int ((p1 &&& (2147483647 : Int32)) % (6 : Int32))), .unset, .unset, .unset] [(.int ((p1 &&& (2147483647 : Int32)) % (6 : Int32)))])) _
    refine XS.iconst X0.here hx rfl (hb hby at_64) ?_
    show Steps p.tables e below (s₁.setTop (mkF m 65 #[.val (.int p1), .val (.long q2), .second, .val (.int ((p1 &&& (2147483647 : Int32)) % (6 : Int32))), .unset, .unset, .unset] [(.int (3 : Int32)), (.int ((p1 &&& (2147483647 : Int32)) % (6 : Int32)))])) _
    refine XS.icmpNo X0.here hx rfl (hb hby at_65) rfl (teq hc65).2 ?_
    show Steps p.tables e below (s₁.setTop (mkF m 68 #[.val (.int p1), .val (.long q2), .second, .val (.int ((p1 &&& (2147483647 : Int32)) % (6 : Int32))), .unset, .unset, .unset] [])) _
    refine st4 _ ?_
    show Steps p.tables e below (T4.setTop (mkF m 71 #[.val (.int p1), .val (.long q2), .second, .val (.int ((p1 &&& (2147483647 : Int32)) % (6 : Int32))), .unset, .unset, .unset] [(.ref w3)])) _
    refine XS.astore X4.here hx rfl (hb hby at_71) rfl rfl (l' := #[.val (.int p1), .val (.long q2), .second, .val (.int ((p1 &&& (2147483647 : Int32)) % (6 : Int32))), .val (.ref w3), .unset, .unset]) rfl ?_
    show Steps p.tables e below (T4.setTop (mkF m 73 #[.val (.int p1), .val (.long q2), .second, .val (.int ((p1 &&& (2147483647 : Int32)) % (6 : Int32))), .val (.ref w3), .unset, .unset] [])) _
    refine XS.lloadN X4.here hx rfl (hb hby at_73) rfl ?_
    show Steps p.tables e below (T4.setTop (mkF m 74 #[.val (.int p1), .val (.long q2), .second, .val (.int ((p1 &&& (2147483647 : Int32)) % (6 : Int32))), .val (.ref w3), .unset, .unset] [(.long q2)])) _
    refine XS.l2i X4.here hx rfl (hb hby at_74) rfl ?_
    show Steps p.tables e below (T4.setTop (mkF m 75 #[.val (.int p1), .val (.long q2), .second, .val (.int ((p1 &&& (2147483647 : Int32)) % (6 : Int32))), .val (.ref w3), .unset, .unset] [(.int (q2.toInt32))])) _
    refine XS.i2s X4.here hx rfl (hb hby at_75) rfl ?_
    show Steps p.tables e below (T4.setTop (mkF m 76 #[.val (.int p1), .val (.long q2), .second, .val (.int ((p1 &&& (2147483647 : Int32)) % (6 : Int32))), .val (.ref w3), .unset, .unset] [(.int ((q2.toInt32).toInt16.toInt32))])) _
    refine XS.i2l X4.here hx rfl (hb hby at_76) rfl ?_
    show Steps p.tables e below (T4.setTop (mkF m 77 #[.val (.int p1), .val (.long q2), .second, .val (.int ((p1 &&& (2147483647 : Int32)) % (6 : Int32))), .val (.ref w3), .unset, .unset] [(.long (((q2.toInt32).toInt16.toInt32).toInt64))])) _
    refine XS.lstore X4.here hx rfl (hb hby at_77) rfl (l' := #[.val (.int p1), .val (.long q2), .second, .val (.int ((p1 &&& (2147483647 : Int32)) % (6 : Int32))), .val (.ref w3), .val (.long (((q2.toInt32).toInt16.toInt32).toInt64)), .second]) rfl ?_
    show Steps p.tables e below (T4.setTop (mkF m 79 #[.val (.int p1), .val (.long q2), .second, .val (.int ((p1 &&& (2147483647 : Int32)) % (6 : Int32))), .val (.ref w3), .val (.long (((q2.toInt32).toInt16.toInt32).toInt64)), .second] [])) _
    refine XS.goto X4.here hx rfl (pc0 := 79) (pc' := 108) rfl (hb hby at_79) (by decide) (by decide) ?_
    show Steps p.tables e below (T4.setTop (mkF m 108 #[.val (.int p1), .val (.long q2), .second, .val (.int ((p1 &&& (2147483647 : Int32)) % (6 : Int32))), .val (.ref w3), .val (.long (((q2.toInt32).toInt16.toInt32).toInt64)), .second] [])) _
    refine XS.aload X4.here hx rfl (hb hby at_108) rfl rfl ?_
    show Steps p.tables e below (T4.setTop (mkF m 110 #[.val (.int p1), .val (.long q2), .second, .val (.int ((p1 &&& (2147483647 : Int32)) % (6 : Int32))), .val (.ref w3), .val (.long (((q2.toInt32).toInt16.toInt32).toInt64)), .second] [(.ref w3)])) _
    refine XS.lloadN X4.here hx rfl (hb hby at_110) rfl ?_
    show Steps p.tables e below (T4.setTop (mkF m 111 #[.val (.int p1), .val (.long q2), .second, .val (.int ((p1 &&& (2147483647 : Int32)) % (6 : Int32))), .val (.ref w3), .val (.long (((q2.toInt32).toInt16.toInt32).toInt64)), .second] [(.long q2), (.ref w3)])) _
    refine st5.trans ?_
    show Steps p.tables e below (T5.setTop (mkF m 114 #[.val (.int p1), .val (.long q2), .second, .val (.int ((p1 &&& (2147483647 : Int32)) % (6 : Int32))), .val (.ref w3), .val (.long (((q2.toInt32).toInt16.toInt32).toInt64)), .second] [(.long ((q2 &&& (((1 : Int64) <<< ((16 : Int32) &&& 0x3f).toInt64) - (1 : Int64))) - ((1 : Int64) <<< ((16 : Int32) &&& 0x3f).toInt64)))])) _
    refine XS.lload X5.here hx rfl (hb hby at_114) rfl ?_
    show Steps p.tables e below (T5.setTop (mkF m 116 #[.val (.int p1), .val (.long q2), .second, .val (.int ((p1 &&& (2147483647 : Int32)) % (6 : Int32))), .val (.ref w3), .val (.long (((q2.toInt32).toInt16.toInt32).toInt64)), .second] [(.long (((q2.toInt32).toInt16.toInt32).toInt64)), (.long ((q2 &&& (((1 : Int64) <<< ((16 : Int32) &&& 0x3f).toInt64) - (1 : Int64))) - ((1 : Int64) <<< ((16 : Int32) &&& 0x3f).toInt64)))])) _
    refine XS.lcmp X5.here hx rfl (hb hby at_116) rfl ?_
    show Steps p.tables e below (T5.setTop (mkF m 117 #[.val (.int p1), .val (.long q2), .second, .val (.int ((p1 &&& (2147483647 : Int32)) % (6 : Int32))), .val (.ref w3), .val (.long (((q2.toInt32).toInt16.toInt32).toInt64)), .second] [(.int (lcmpW ((q2 &&& (((1 : Int64) <<< ((16 : Int32) &&& 0x3f).toInt64) - (1 : Int64))) - ((1 : Int64) <<< ((16 : Int32) &&& 0x3f).toInt64)) (((q2.toInt32).toInt16.toInt32).toInt64)))])) _
    refine XS.ifNo X5.here hx rfl (hb hby at_117) rfl ((if0 _ _).trans (teq hc117).2) ?_
    show Steps p.tables e below (T5.setTop (mkF m 120 #[.val (.int p1), .val (.long q2), .second, .val (.int ((p1 &&& (2147483647 : Int32)) % (6 : Int32))), .val (.ref w3), .val (.long (((q2.toInt32).toInt16.toInt32).toInt64)), .second] [])) _
    refine XS.iconst X5.here hx rfl (hb hby at_120) ?_
    show Steps p.tables e below (T5.setTop (mkF m 121 #[.val (.int p1), .val (.long q2), .second, .val (.int ((p1 &&& (2147483647 : Int32)) % (6 : Int32))), .val (.ref w3), .val (.long (((q2.toInt32).toInt16.toInt32).toInt64)), .second] [(.int (1 : Int32))])) _
    refine XS.goto X5.here hx rfl (pc0 := 121) (pc' := 125) rfl (hb hby at_121) (by decide) (by decide) ?_
    show Steps p.tables e below (T5.setTop (mkF m 125 #[.val (.int p1), .val (.long q2), .second, .val (.int ((p1 &&& (2147483647 : Int32)) % (6 : Int32))), .val (.ref w3), .val (.long (((q2.toInt32).toInt16.toInt32).toInt64)), .second] [(.int (1 : Int32))])) _
    exact retN X5 hx (t := .boolean) Bd.returns (by simp) (hb hby at_125) hr
  · show Q0 n0 _ _
    exact ⟨rfl, N5⟩

set_option maxRecDepth 65536 in
set_option maxHeartbeats 40000000 in
theorem rm0_INT_p (l : Launch) (Z : State) (a0 : Array Value) (hw : ∀ d ∈ tables_1, d.before a0 Z = true) (ws : List Jvm.Cond) (p1 : Int32) (q2 : Int64) (w3 : Addr)  (h0 : Heap) (n0 : Nat) (Z0 : n0 ≤ h0.size) (F_bits : Fld Z h0 w3 "com/example/pathglass/pathglass/symbolic/InputType" "bits" "I" (.int (32 : Int32))) (F_signed : Fld Z h0 w3 "com/example/pathglass/pathglass/symbolic/InputType" "signed" "Z" (.int (1 : Int32))) (hs : (lcmpW (((q2 &&& (((1 : Int64) <<< ((32 : Int32) &&& 0x3f).toInt64) - (1 : Int64))).toUInt64 >>> (((32 : Int32) - (1 : Int32)) &&& 0x3f).toInt64.toUInt64).toInt64) (0 : Int64)) = (0 : Int32)) (S_INT : Sta Z h0 "com/example/pathglass/pathglass/symbolic/InputType" "INT" "Lcom/example/pathglass/pathglass/symbolic/InputType;" (.ref w3)) (E_w3 : Exa Z h0 w3 "com/example/pathglass/pathglass/symbolic/InputType") (hc9 : ¬ (((p1 &&& (2147483647 : Int32)) % (6 : Int32)) = (0 : Int32))) (hc27 : ¬ (((p1 &&& (2147483647 : Int32)) % (6 : Int32)) = (1 : Int32))) (hc46 : ¬ (((p1 &&& (2147483647 : Int32)) % (6 : Int32)) = (2 : Int32))) (hc65 : ¬ (((p1 &&& (2147483647 : Int32)) % (6 : Int32)) = (3 : Int32))) (hc84 : ((p1 &&& (2147483647 : Int32)) % (6 : Int32)) = (4 : Int32)) (hc117 : (lcmpW (q2 &&& (((1 : Int64) <<< ((32 : Int32) &&& 0x3f).toInt64) - (1 : Int64))) ((q2.toInt32).toInt64)) = (0 : Int32)) :
    MetFree l x (head1 (Jvm.Cond.code x code maxLocals ret :: ws) room_1) (fun a U => a = #[(.int p1), (.long q2)] ∧ Z.Warmed39 U.vm ∧ U.heap = h0) (fun _ _ _ _ _ => True) (fun _ U o U' => ∃ v L, o = .returned v ∧ Q0 n0 v L ∧ FrameEnd U o U' L room_1.cells room_1.slots) := by
  refine MetFree.of_bodySF (plainFor_of_name pn_0) hisR ?_
  intro p e s m args below meth c s₁ Bd hml0 hP hK
  obtain ⟨rfl, hZ, hh⟩ := hP
  have hx := Bd.exec
  have hby := Bd.bytes
  have hml : c.maxLocals = 7 := hml0
  have hown : s.vm.findClass "com/example/pathglass/pathglass/symbolic/InputTypeValueOfPinLaw" = some m.cls := findClass_of_methodNamed Bd.named
  have hnm := (name_of_methodNamed Bd.named Bd.method).1
  have X0 : Stand p l e room_1 s m #[(.int p1), (.long q2)] below meth c s₁ [] 0 0 := Stand.of_body Bd
  have e0 : s₁.heap = h0 := by rw [← hh, Bd.state]; rfl
  have N0 := Fr.nil n0
  have pre0 : ∀ t, Steps p.tables e below (s₁.setTop (mkF m 0 #[.val (.int p1), .val (.long q2), .second, .unset, .unset, .unset, .unset] [])) t → Steps p.tables e below (s₁.setTop (entryFrame m #[(.int p1), (.long q2)] maxLocals)) t := fun t k => castTop (ef_0 m p1 q2) k
  -- 3. LAWS
  obtain ⟨T4, X4, e4, st4⟩ := getS2 X0 hx hZ hown (host := "") (Or.inl (hw _ (List.mem_of_getElem? (i := 17) rfl))) Via.refl e0 S_INT (g := (mkF m 87 #[.val (.int p1), .val (.long q2), .second, .val (.int ((p1 &&& (2147483647 : Int32)) % (6 : Int32))), .unset, .unset, .unset] [])) rfl (hb hby at_87)
  -- pc 111: com/example/pathglass/pathglass/symbolic/InputType.valueOf by the contract of the body that the receiver's class selects, rm1
  obtain ⟨cq5, kq5, q5a, q5b, q5c⟩ := isOf hZ e4 E_w3
  obtain ⟨_, _, ⟨T5, L5, k5, n5⟩, -, X5, ⟨Lc5, hQ5, l5, y5, z5⟩, st5⟩ := X4.virtualBack hx (y := (⟨"com/example/pathglass/pathglass/symbolic/InputType", "valueOf", "(J)J"⟩ : MethodName)) (z := (⟨"com/example/pathglass/pathglass/symbolic/InputType", "valueOf", "(J)J"⟩ : MethodName)) hown (mvT hZ (hw _ (List.mem_of_getElem? (i := 4) rfl))) (mvT hZ (hw _ (List.mem_of_getElem? (i := 5) rfl))) (notFace_of_selects (args := #[]) (mvT hZ (hw _ (List.mem_of_getElem? (i := 7) rfl)))) (mvT hZ (hw _ (List.mem_of_getElem? (i := 7) rfl))) (mvT hZ (hw _ (List.mem_of_getElem? (i := 6) rfl))) (by decide) (backOf (W := 0) (rm1_INT_p l Z a0 hw [] w3 q2  h0 n0 Z0 F_bits F_signed hs) hZ (hw _ (List.mem_of_getElem? (i := 8) rfl)) (hw _ (List.mem_of_getElem? (i := 2) rfl)) (by decide) (by decide)) q5a q5c (g := (mkF m 111 #[.val (.int p1), .val (.long q2), .second, .val (.int ((p1 &&& (2147483647 : Int32)) % (6 : Int32))), .val (.ref w3), .val (.long ((q2.toInt32).toInt64)), .second] [(.long q2), (.ref w3)])) rfl (by rw [hml]; rfl) (Steps.refl _) (argsL := [(.long q2)]) (rest := []) (lenOf pd_0_0 rfl) rfl (by show 2 * 0 + _ ≤ _; exact Nat.le_of_eq rfl) (hb hby at_111) (fun _ _ => ⟨rfl, e4, (by decide : 0 + 0 ≤ _), (by decide : 0 + 0 ≤ _)⟩)
  dsimp only [Pt.U, Pt.locs, Pt.cells, Pt.slots] at X5 l5 y5 z5 st5 hQ5
  subst l5 y5 z5
  obtain ⟨rfl, N5q, hh5⟩ := hQ5
  have N5 := Fr.app N0 N5q
  obtain ⟨fs, hr, hrun, hended, hW, hsame⟩ := X5.leave (v := some (.int (1 : Int32))) (fun h => by rw [Bd.returns] at h; cases h)
  refine ⟨_, _, pre0 _ ?_, hrun, hended, _, _, rfl, ?_, ⟨_, rfl⟩, hW, hsame.mono (by decide) (by decide)⟩
  -- 4. STEPS
  · show Steps p.tables e below (s₁.setTop (mkF m 0 #[.val (.int p1), .val (.long q2), .second, .unset, .unset, .unset, .unset] [])) _
    refine XS.iloadN X0.here hx rfl (hb hby at_0) rfl ?_
    show Steps p.tables e below (s₁.setTop (mkF m 1 #[.val (.int p1), .val (.long q2), .second, .unset, .unset, .unset, .unset] [(.int p1)])) _
    refine X0.ldcInt hx hown (mvT hZ (hw _ (List.mem_of_getElem? (i := 0) rfl))) (g := (mkF m 1 #[.val (.int p1), .val (.long q2), .second, .unset, .unset, .unset, .unset] [(.int p1)])) rfl (hb hby at_1) _ ?_
    show Steps p.tables e below (s₁.setTop (mkF m 3 #[.val (.int p1), .val (.long q2), .second, .unset, .unset, .unset, .unset] [(.int (2147483647 : Int32)), (.int p1)])) _
    refine XS.iand X0.here hx rfl (hb hby at_3) rfl ?_
    show Steps p.tables e below (s₁.setTop (mkF m 4 #[.val (.int p1), .val (.long q2), .second, .unset, .unset, .unset, .unset] [(.int (p1 &&& (2147483647 : Int32)))])) _
    refine XS.bipush X0.here hx rfl (hb hby at_4) ?_
    show Steps p.tables e below (s₁.setTop (mkF m 6 #[.val (.int p1), .val (.long q2), .second, .unset, .unset, .unset, .unset] [(.int (6 : Int32)), (.int (p1 &&& (2147483647 : Int32)))])) _
    refine iremM X0 hx rfl (hb hby at_6) rfl (by decide) ?_
    show Steps p.tables e below (s₁.setTop (mkF m 7 #[.val (.int p1), .val (.long q2), .second, .unset, .unset, .unset, .unset] [(.int ((p1 &&& (2147483647 : Int32)) % (6 : Int32)))])) _
    refine XS.istoreN X0.here hx rfl (hb hby at_7) rfl (l' := #[.val (.int p1), .val (.long q2), .second, .val (.int ((p1 &&& (2147483647 : Int32)) % (6 : Int32))), .unset, .unset, .unset]) rfl ?_
    show Steps p.tables e below (s₁.setTop (mkF m 8 #[.val (.int p1), .val (.long q2), .second, .val (.int ((p1 &&& (2147483647 : Int32)) % (6 : Int32))), .unset, .unset, .unset] [])) _
    refine XS.iloadN X0.here hx rfl (hb hby at_8) rfl ?_
    show Steps p.tables e below (s₁.setTop (mkF m 9 #[.val (.int p1), .val (.long q2), .second, .val (.int ((p1 &&& (2147483647 : Int32)) % (6 : Int32))), .unset, .unset, .unset] [(.int ((p1 &&& (2147483647 : Int32)) % (6 : Int32)))])) _
    refine XS.ifYes X0.here hx rfl (pc0 := 9) (pc' := 25) rfl (hb hby at_9) rfl ((if0 _ _).trans (feq hc9).2) (by decide) (by decide) ?_
    show Steps p.tables e below (s₁.setTop (mkF m 25 #[.val (.int p1), .val (.long q2), .second, .val (.int ((p1 &&& (2147483647 : Int32)) % (6 : Int32))), .unset, .unset, .unset] [])) _
    refine XS.iloadN X0.here hx rfl (hb hby at_25) rfl ?_
    show Steps p.tables e below (s₁.setTop (mkF m 26 #[.val (.int p1), .val (.long q2), .second, .val (.int ((p1 &&& (2147483647 : Int32)) % (6 : Int32))), .unset, .unset, .unset] [(.int ((p1 &&& (2147483647 : Int32)) % (6 : Int32)))])) _
    refine XS.iconst X0.here hx rfl (hb hby at_26) ?_
    show Steps p.tables e below (s₁.setTop (mkF m 27 #[.val (.int p1), .val (.long q2), .second, .val (.int ((p1 &&& (2147483647 : Int32)) % (6 : Int32))), .unset, .unset, .unset] [(.int (1 : Int32)), (.int ((p1 &&& (2147483647 : Int32)) % (6 : Int32)))])) _
    refine XS.icmpYes X0.here hx rfl (pc0 := 27) (pc' := 44) rfl (hb hby at_27) rfl (feq hc27).2 (by decide) (by decide) ?_
    show Steps p.tables e below (s₁.setTop (mkF m 44 #[.val (.int p1), .val (.long q2), .second, .val (.int ((p1 &&& (2147483647 : Int32)) % (6 : Int32))), .unset, .unset, .unset] [])) _
    refine XS.iloadN X0.here hx rfl (hb hby at_44) rfl ?_
    show Steps p.tables e below (s₁.setTop (mkF m 45 #[.val (.int p1), .val (.long q2), .second, .val (.int ((p1 &&& (2147483647 : Int32)) % (6 : Int32))), .unset, .unset, .unset] [(.int ((p1 &&& (2147483647 : Int32)) % (6 : Int32)))])) _
    refine XS.iconst X0.here hx rfl (hb hby at_45) ?_
    show Steps p.tables e below (s₁.setTop (mkF m 46 #[.val (.int p1), .val (.long q2), .second, .val (.int ((p1 &&& (2147483647 : Int32)) % (6 : Int32))), .unset, .unset, .unset] [(.int (2 : Int32)), (.int ((p1 &&& (2147483647 : Int32)) % (6 : Int32)))])) _
    refine XS.icmpYes X0.here hx rfl (pc0 := 46) (pc' := 63) rfl (hb hby at_46) rfl (feq hc46).2 (by decide) (by decide) ?_
    show Steps p.tables e below (s₁.setTop (mkF m 63 #[.val (.int p1), .val (.long q2), .second, .val (.int ((p1 &&& (2147483647 : Int32)) % (6 : Int32))), .unset, .unset, .unset] [])) _
    refine XS.iloadN X0.here hx rfl (hb hby at_63) rfl ?_
    show Steps p.tables e below (s₁.setTop (mkF m 64 #[.val (.int p1), .val (.long q2), .second, .val (.int ((p1 &&& (2147483647 : Int32)) % (6 : Int32))), .unset, .unset, .unset] [(.int ((p1 &&& (2147483647 : Int32)) % (6 : Int32)))])) _
    refine XS.iconst X0.here hx rfl (hb hby at_64) ?_
    show Steps p.tables e below (s₁.setTop (mkF m 65 #[.val (.int p1), .val (.long q2), .second, .val (.int ((p1 &&& (2147483647 : Int32)) % (6 : Int32))), .unset, .unset, .unset] [(.int (3 : Int32)), (.int ((p1 &&& (2147483647 : Int32)) % (6 : Int32)))])) _
    refine XS.icmpYes X0.here hx rfl (pc0 := 65) (pc' := 82) rfl (hb hby at_65) rfl (feq hc65).2 (by decide) (by decide) ?_
    show Steps p.tables e below (s₁.setTop (mkF m 82 #[.val (.int p1), .val (.long q2), .second, .val (.int ((p1 &&& (2147483647 : Int32)) % (6 : Int32))), .unset, .unset, .unset] [])) _
    refine XS.iloadN X0.here hx rfl (hb hby at_82) rfl ?_
    show Steps p.tables e below (s₁.setTop (mkF m 83 #[.val (.int p1), .val (.long q2), .second, .val (.int ((p1 &&& (2147483647 : Int32)) % (6 : Int32))), .unset, .unset, .unset] [(.int ((p1 &&& (2147483647 : Int32)) % (6 : Int32)))])) _
    refine XS.iconst X0.here hx rfl (hb hby at_83) ?_
    show Steps p.tables e below (s₁.setTop (mkF m 84 #[.val (.int p1), .val (.long q2), .second, .val (.int ((p1 &&& (2147483647 : Int32)) % (6 : Int32))), .unset, .unset, .unset] [(.int (4 : Int32)), (.int ((p1 &&& (2147483647 : Int32)) % (6 : Int32)))])) _
    refine XS.icmpNo X0.here hx rfl (hb hby at_84) rfl (teq hc84).2 ?_
    show Steps p.tables e below (s₁.setTop (mkF m 87 #[.val (.int p1), .val (.long q2), .second, .val (.int ((p1 &&& (2147483647 : Int32)) % (6 : Int32))), .unset, .unset, .unset] [])) _
    refine st4 _ ?_
    show Steps p.tables e below (T4.setTop (mkF m 90 #[.val (.int p1), .val (.long q2), .second, .val (.int ((p1 &&& (2147483647 : Int32)) % (6 : Int32))), .unset, .unset, .unset] [(.ref w3)])) _
    refine XS.astore X4.here hx rfl (hb hby at_90) rfl rfl (l' := #[.val (.int p1), .val (.long q2), .second, .val (.int ((p1 &&& (2147483647 : Int32)) % (6 : Int32))), .val (.ref w3), .unset, .unset]) rfl ?_
    show Steps p.tables e below (T4.setTop (mkF m 92 #[.val (.int p1), .val (.long q2), .second, .val (.int ((p1 &&& (2147483647 : Int32)) % (6 : Int32))), .val (.ref w3), .unset, .unset] [])) _
    refine XS.lloadN X4.here hx rfl (hb hby at_92) rfl ?_
    show Steps p.tables e below (T4.setTop (mkF m 93 #[.val (.int p1), .val (.long q2), .second, .val (.int ((p1 &&& (2147483647 : Int32)) % (6 : Int32))), .val (.ref w3), .unset, .unset] [(.long q2)])) _
    refine XS.l2i X4.here hx rfl (hb hby at_93) rfl ?_
    show Steps p.tables e below (T4.setTop (mkF m 94 #[.val (.int p1), .val (.long q2), .second, .val (.int ((p1 &&& (2147483647 : Int32)) % (6 : Int32))), .val (.ref w3), .unset, .unset] [(.int (q2.toInt32))])) _
    refine XS.i2l X4.here hx rfl (hb hby at_94) rfl ?_
    show Steps p.tables e below (T4.setTop (mkF m 95 #[.val (.int p1), .val (.long q2), .second, .val (.int ((p1 &&& (2147483647 : Int32)) % (6 : Int32))), .val (.ref w3), .unset, .unset] [(.long ((q2.toInt32).toInt64))])) _
    refine XS.lstore X4.here hx rfl (hb hby at_95) rfl (l' := #[.val (.int p1), .val (.long q2), .second, .val (.int ((p1 &&& (2147483647 : Int32)) % (6 : Int32))), .val (.ref w3), .val (.long ((q2.toInt32).toInt64)), .second]) rfl ?_
    show Steps p.tables e below (T4.setTop (mkF m 97 #[.val (.int p1), .val (.long q2), .second, .val (.int ((p1 &&& (2147483647 : Int32)) % (6 : Int32))), .val (.ref w3), .val (.long ((q2.toInt32).toInt64)), .second] [])) _
    refine XS.goto X4.here hx rfl (pc0 := 97) (pc' := 108) rfl (hb hby at_97) (by decide) (by decide) ?_
    show Steps p.tables e below (T4.setTop (mkF m 108 #[.val (.int p1), .val (.long q2), .second, .val (.int ((p1 &&& (2147483647 : Int32)) % (6 : Int32))), .val (.ref w3), .val (.long ((q2.toInt32).toInt64)), .second] [])) _
    refine XS.aload X4.here hx rfl (hb hby at_108) rfl rfl ?_
    show Steps p.tables e below (T4.setTop (mkF m 110 #[.val (.int p1), .val (.long q2), .second, .val (.int ((p1 &&& (2147483647 : Int32)) % (6 : Int32))), .val (.ref w3), .val (.long ((q2.toInt32).toInt64)), .second] [(.ref w3)])) _
    refine XS.lloadN X4.here hx rfl (hb hby at_110) rfl ?_
    show Steps p.tables e below (T4.setTop (mkF m 111 #[.val (.int p1), .val (.long q2), .second, .val (.int ((p1 &&& (2147483647 : Int32)) % (6 : Int32))), .val (.ref w3), .val (.long ((q2.toInt32).toInt64)), .second] [(.long q2), (.ref w3)])) _
    refine st5.trans ?_
    show Steps p.tables e below (T5.setTop (mkF m 114 #[.val (.int p1), .val (.long q2), .second, .val (.int ((p1 &&& (2147483647 : Int32)) % (6 : Int32))), .val (.ref w3), .val (.long ((q2.toInt32).toInt64)), .second] [(.long (q2 &&& (((1 : Int64) <<< ((32 : Int32) &&& 0x3f).toInt64) - (1 : Int64))))])) _
    refine XS.lload X5.here hx rfl (hb hby at_114) rfl ?_
    show Steps p.tables e below (T5.setTop (mkF m 116 #[.val (.int p1), .val (.long q2), .second, .val (.int ((p1 &&& (2147483647 : Int32)) % (6 : Int32))), .val (.ref w3), .val (.long ((q2.toInt32).toInt64)), .second] [(.long ((q2.toInt32).toInt64)), (.long (q2 &&& (((1 : Int64) <<< ((32 : Int32) &&& 0x3f).toInt64) - (1 : Int64))))])) _
    refine XS.lcmp X5.here hx rfl (hb hby at_116) rfl ?_
    show Steps p.tables e below (T5.setTop (mkF m 117 #[.val (.int p1), .val (.long q2), .second, .val (.int ((p1 &&& (2147483647 : Int32)) % (6 : Int32))), .val (.ref w3), .val (.long ((q2.toInt32).toInt64)), .second] [(.int (lcmpW (q2 &&& (((1 : Int64) <<< ((32 : Int32) &&& 0x3f).toInt64) - (1 : Int64))) ((q2.toInt32).toInt64)))])) _
    refine XS.ifNo X5.here hx rfl (hb hby at_117) rfl ((if0 _ _).trans (teq hc117).2) ?_
    show Steps p.tables e below (T5.setTop (mkF m 120 #[.val (.int p1), .val (.long q2), .second, .val (.int ((p1 &&& (2147483647 : Int32)) % (6 : Int32))), .val (.ref w3), .val (.long ((q2.toInt32).toInt64)), .second] [])) _
    refine XS.iconst X5.here hx rfl (hb hby at_120) ?_
    show Steps p.tables e below (T5.setTop (mkF m 121 #[.val (.int p1), .val (.long q2), .second, .val (.int ((p1 &&& (2147483647 : Int32)) % (6 : Int32))), .val (.ref w3), .val (.long ((q2.toInt32).toInt64)), .second] [(.int (1 : Int32))])) _
    refine XS.goto X5.here hx rfl (pc0 := 121) (pc' := 125) rfl (hb hby at_121) (by decide) (by decide) ?_
    show Steps p.tables e below (T5.setTop (mkF m 125 #[.val (.int p1), .val (.long q2), .second, .val (.int ((p1 &&& (2147483647 : Int32)) % (6 : Int32))), .val (.ref w3), .val (.long ((q2.toInt32).toInt64)), .second] [(.int (1 : Int32))])) _
    exact retN X5 hx (t := .boolean) Bd.returns (by simp) (hb hby at_125) hr
  · show Q0 n0 _ _
    exact ⟨rfl, N5⟩

set_option maxRecDepth 65536 in
set_option maxHeartbeats 40000000 in
theorem rm0_INT_n (l : Launch) (Z : State) (a0 : Array Value) (hw : ∀ d ∈ tables_1, d.before a0 Z = true) (ws : List Jvm.Cond) (p1 : Int32) (q2 : Int64) (w3 : Addr)  (h0 : Heap) (n0 : Nat) (Z0 : n0 ≤ h0.size) (F_bits : Fld Z h0 w3 "com/example/pathglass/pathglass/symbolic/InputType" "bits" "I" (.int (32 : Int32))) (F_signed : Fld Z h0 w3 "com/example/pathglass/pathglass/symbolic/InputType" "signed" "Z" (.int (1 : Int32))) (hs : ¬ ((lcmpW (((q2 &&& (((1 : Int64) <<< ((32 : Int32) &&& 0x3f).toInt64) - (1 : Int64))).toUInt64 >>> (((32 : Int32) - (1 : Int32)) &&& 0x3f).toInt64.toUInt64).toInt64) (0 : Int64)) = (0 : Int32))) (S_INT : Sta Z h0 "com/example/pathglass/pathglass/symbolic/InputType" "INT" "Lcom/example/pathglass/pathglass/symbolic/InputType;" (.ref w3)) (E_w3 : Exa Z h0 w3 "com/example/pathglass/pathglass/symbolic/InputType") (hc9 : ¬ (((p1 &&& (2147483647 : Int32)) % (6 : Int32)) = (0 : Int32))) (hc27 : ¬ (((p1 &&& (2147483647 : Int32)) % (6 : Int32)) = (1 : Int32))) (hc46 : ¬ (((p1 &&& (2147483647 : Int32)) % (6 : Int32)) = (2 : Int32))) (hc65 : ¬ (((p1 &&& (2147483647 : Int32)) % (6 : Int32)) = (3 : Int32))) (hc84 : ((p1 &&& (2147483647 : Int32)) % (6 : Int32)) = (4 : Int32)) (hc117 : (lcmpW ((q2 &&& (((1 : Int64) <<< ((32 : Int32) &&& 0x3f).toInt64) - (1 : Int64))) - ((1 : Int64) <<< ((32 : Int32) &&& 0x3f).toInt64)) ((q2.toInt32).toInt64)) = (0 : Int32)) :
    MetFree l x (head1 (Jvm.Cond.code x code maxLocals ret :: ws) room_1) (fun a U => a = #[(.int p1), (.long q2)] ∧ Z.Warmed39 U.vm ∧ U.heap = h0) (fun _ _ _ _ _ => True) (fun _ U o U' => ∃ v L, o = .returned v ∧ Q0 n0 v L ∧ FrameEnd U o U' L room_1.cells room_1.slots) := by
  refine MetFree.of_bodySF (plainFor_of_name pn_0) hisR ?_
  intro p e s m args below meth c s₁ Bd hml0 hP hK
  obtain ⟨rfl, hZ, hh⟩ := hP
  have hx := Bd.exec
  have hby := Bd.bytes
  have hml : c.maxLocals = 7 := hml0
  have hown : s.vm.findClass "com/example/pathglass/pathglass/symbolic/InputTypeValueOfPinLaw" = some m.cls := findClass_of_methodNamed Bd.named
  have hnm := (name_of_methodNamed Bd.named Bd.method).1
  have X0 : Stand p l e room_1 s m #[(.int p1), (.long q2)] below meth c s₁ [] 0 0 := Stand.of_body Bd
  have e0 : s₁.heap = h0 := by rw [← hh, Bd.state]; rfl
  have N0 := Fr.nil n0
  have pre0 : ∀ t, Steps p.tables e below (s₁.setTop (mkF m 0 #[.val (.int p1), .val (.long q2), .second, .unset, .unset, .unset, .unset] [])) t → Steps p.tables e below (s₁.setTop (entryFrame m #[(.int p1), (.long q2)] maxLocals)) t := fun t k => castTop (ef_0 m p1 q2) k
  -- 3. LAWS
  obtain ⟨T4, X4, e4, st4⟩ := getS2 X0 hx hZ hown (host := "") (Or.inl (hw _ (List.mem_of_getElem? (i := 17) rfl))) Via.refl e0 S_INT (g := (mkF m 87 #[.val (.int p1), .val (.long q2), .second, .val (.int ((p1 &&& (2147483647 : Int32)) % (6 : Int32))), .unset, .unset, .unset] [])) rfl (hb hby at_87)
  -- pc 111: com/example/pathglass/pathglass/symbolic/InputType.valueOf by the contract of the body that the receiver's class selects, rm1
  obtain ⟨cq5, kq5, q5a, q5b, q5c⟩ := isOf hZ e4 E_w3
  obtain ⟨_, _, ⟨T5, L5, k5, n5⟩, -, X5, ⟨Lc5, hQ5, l5, y5, z5⟩, st5⟩ := X4.virtualBack hx (y := (⟨"com/example/pathglass/pathglass/symbolic/InputType", "valueOf", "(J)J"⟩ : MethodName)) (z := (⟨"com/example/pathglass/pathglass/symbolic/InputType", "valueOf", "(J)J"⟩ : MethodName)) hown (mvT hZ (hw _ (List.mem_of_getElem? (i := 4) rfl))) (mvT hZ (hw _ (List.mem_of_getElem? (i := 5) rfl))) (notFace_of_selects (args := #[]) (mvT hZ (hw _ (List.mem_of_getElem? (i := 7) rfl)))) (mvT hZ (hw _ (List.mem_of_getElem? (i := 7) rfl))) (mvT hZ (hw _ (List.mem_of_getElem? (i := 6) rfl))) (by decide) (backOf (W := 0) (rm1_INT_n l Z a0 hw [] w3 q2  h0 n0 Z0 F_bits F_signed hs) hZ (hw _ (List.mem_of_getElem? (i := 8) rfl)) (hw _ (List.mem_of_getElem? (i := 2) rfl)) (by decide) (by decide)) q5a q5c (g := (mkF m 111 #[.val (.int p1), .val (.long q2), .second, .val (.int ((p1 &&& (2147483647 : Int32)) % (6 : Int32))), .val (.ref w3), .val (.long ((q2.toInt32).toInt64)), .second] [(.long q2), (.ref w3)])) rfl (by rw [hml]; rfl) (Steps.refl _) (argsL := [(.long q2)]) (rest := []) (lenOf pd_0_0 rfl) rfl (by show 2 * 0 + _ ≤ _; exact Nat.le_of_eq rfl) (hb hby at_111) (fun _ _ => ⟨rfl, e4, (by decide : 0 + 0 ≤ _), (by decide : 0 + 0 ≤ _)⟩)
  dsimp only [Pt.U, Pt.locs, Pt.cells, Pt.slots] at X5 l5 y5 z5 st5 hQ5
  subst l5 y5 z5
  obtain ⟨rfl, N5q, hh5⟩ := hQ5
  have N5 := Fr.app N0 N5q
  obtain ⟨fs, hr, hrun, hended, hW, hsame⟩ := X5.leave (v := some (.int (1 : Int32))) (fun h => by rw [Bd.returns] at h; cases h)
  refine ⟨_, _, pre0 _ ?_, hrun, hended, _, _, rfl, ?_, ⟨_, rfl⟩, hW, hsame.mono (by decide) (by decide)⟩
  -- 4. STEPS
  · show Steps p.tables e below (s₁.setTop (mkF m 0 #[.val (.int p1), .val (.long q2), .second, .unset, .unset, .unset, .unset] [])) _
    refine XS.iloadN X0.here hx rfl (hb hby at_0) rfl ?_
    show Steps p.tables e below (s₁.setTop (mkF m 1 #[.val (.int p1), .val (.long q2), .second, .unset, .unset, .unset, .unset] [(.int p1)])) _
    refine X0.ldcInt hx hown (mvT hZ (hw _ (List.mem_of_getElem? (i := 0) rfl))) (g := (mkF m 1 #[.val (.int p1), .val (.long q2), .second, .unset, .unset, .unset, .unset] [(.int p1)])) rfl (hb hby at_1) _ ?_
    show Steps p.tables e below (s₁.setTop (mkF m 3 #[.val (.int p1), .val (.long q2), .second, .unset, .unset, .unset, .unset] [(.int (2147483647 : Int32)), (.int p1)])) _
    refine XS.iand X0.here hx rfl (hb hby at_3) rfl ?_
    show Steps p.tables e below (s₁.setTop (mkF m 4 #[.val (.int p1), .val (.long q2), .second, .unset, .unset, .unset, .unset] [(.int (p1 &&& (2147483647 : Int32)))])) _
    refine XS.bipush X0.here hx rfl (hb hby at_4) ?_
    show Steps p.tables e below (s₁.setTop (mkF m 6 #[.val (.int p1), .val (.long q2), .second, .unset, .unset, .unset, .unset] [(.int (6 : Int32)), (.int (p1 &&& (2147483647 : Int32)))])) _
    refine iremM X0 hx rfl (hb hby at_6) rfl (by decide) ?_
    show Steps p.tables e below (s₁.setTop (mkF m 7 #[.val (.int p1), .val (.long q2), .second, .unset, .unset, .unset, .unset] [(.int ((p1 &&& (2147483647 : Int32)) % (6 : Int32)))])) _
    refine XS.istoreN X0.here hx rfl (hb hby at_7) rfl (l' := #[.val (.int p1), .val (.long q2), .second, .val (.int ((p1 &&& (2147483647 : Int32)) % (6 : Int32))), .unset, .unset, .unset]) rfl ?_
    show Steps p.tables e below (s₁.setTop (mkF m 8 #[.val (.int p1), .val (.long q2), .second, .val (.int ((p1 &&& (2147483647 : Int32)) % (6 : Int32))), .unset, .unset, .unset] [])) _
    refine XS.iloadN X0.here hx rfl (hb hby at_8) rfl ?_
    show Steps p.tables e below (s₁.setTop (mkF m 9 #[.val (.int p1), .val (.long q2), .second, .val (.int ((p1 &&& (2147483647 : Int32)) % (6 : Int32))), .unset, .unset, .unset] [(.int ((p1 &&& (2147483647 : Int32)) % (6 : Int32)))])) _
    refine XS.ifYes X0.here hx rfl (pc0 := 9) (pc' := 25) rfl (hb hby at_9) rfl ((if0 _ _).trans (feq hc9).2) (by decide) (by decide) ?_
    show Steps p.tables e below (s₁.setTop (mkF m 25 #[.val (.int p1), .val (.long q2), .second, .val (.int ((p1 &&& (2147483647 : Int32)) % (6 : Int32))), .unset, .unset, .unset] [])) _
    refine XS.iloadN X0.here hx rfl (hb hby at_25) rfl ?_
    show Steps p.tables e below (s₁.setTop (mkF m 26 #[.val (.int p1), .val (.long q2), .second, .val (.int ((p1 &&& (2147483647 : Int32)) % (6 : Int32))), .unset, .unset, .unset] [(.int ((p1 &&& (2147483647 : Int32)) % (6 : Int32)))])) _
    refine XS.iconst X0.here hx rfl (hb hby at_26) ?_
    show Steps p.tables e below (s₁.setTop (mkF m 27 #[.val (.int p1), .val (.long q2), .second, .val (.int ((p1 &&& (2147483647 : Int32)) % (6 : Int32))), .unset, .unset, .unset] [(.int (1 : Int32)), (.int ((p1 &&& (2147483647 : Int32)) % (6 : Int32)))])) _
    refine XS.icmpYes X0.here hx rfl (pc0 := 27) (pc' := 44) rfl (hb hby at_27) rfl (feq hc27).2 (by decide) (by decide) ?_
    show Steps p.tables e below (s₁.setTop (mkF m 44 #[.val (.int p1), .val (.long q2), .second, .val (.int ((p1 &&& (2147483647 : Int32)) % (6 : Int32))), .unset, .unset, .unset] [])) _
    refine XS.iloadN X0.here hx rfl (hb hby at_44) rfl ?_
    show Steps p.tables e below (s₁.setTop (mkF m 45 #[.val (.int p1), .val (.long q2), .second, .val (.int ((p1 &&& (2147483647 : Int32)) % (6 : Int32))), .unset, .unset, .unset] [(.int ((p1 &&& (2147483647 : Int32)) % (6 : Int32)))])) _
    refine XS.iconst X0.here hx rfl (hb hby at_45) ?_
    show Steps p.tables e below (s₁.setTop (mkF m 46 #[.val (.int p1), .val (.long q2), .second, .val (.int ((p1 &&& (2147483647 : Int32)) % (6 : Int32))), .unset, .unset, .unset] [(.int (2 : Int32)), (.int ((p1 &&& (2147483647 : Int32)) % (6 : Int32)))])) _
    refine XS.icmpYes X0.here hx rfl (pc0 := 46) (pc' := 63) rfl (hb hby at_46) rfl (feq hc46).2 (by decide) (by decide) ?_
    show Steps p.tables e below (s₁.setTop (mkF m 63 #[.val (.int p1), .val (.long q2), .second, .val (.int ((p1 &&& (2147483647 : Int32)) % (6 : Int32))), .unset, .unset, .unset] [])) _
    refine XS.iloadN X0.here hx rfl (hb hby at_63) rfl ?_
    show Steps p.tables e below (s₁.setTop (mkF m 64 #[.val (.int p1), .val (.long q2), .second, .val (.int ((p1 &&& (2147483647 : Int32)) % (6 : Int32))), .unset, .unset, .unset] [(.int ((p1 &&& (2147483647 : Int32)) % (6 : Int32)))])) _
    refine XS.iconst X0.here hx rfl (hb hby at_64) ?_
    show Steps p.tables e below (s₁.setTop (mkF m 65 #[.val (.int p1), .val (.long q2), .second, .val (.int ((p1 &&& (2147483647 : Int32)) % (6 : Int32))), .unset, .unset, .unset] [(.int (3 : Int32)), (.int ((p1 &&& (2147483647 : Int32)) % (6 : Int32)))])) _
    refine XS.icmpYes X0.here hx rfl (pc0 := 65) (pc' := 82) rfl (hb hby at_65) rfl (feq hc65).2 (by decide) (by decide) ?_
    show Steps p.tables e below (s₁.setTop (mkF m 82 #[.val (.int p1), .val (.long q2), .second, .val (.int ((p1 &&& (2147483647 : Int32)) % (6 : Int32))), .unset, .unset, .unset] [])) _
    refine XS.iloadN X0.here hx rfl (hb hby at_82) rfl ?_
    show Steps p.tables e below (s₁.setTop (mkF m 83 #[.val (.int p1), .val (.long q2), .second, .val (.int ((p1 &&& (2147483647 : Int32)) % (6 : Int32))), .unset, .unset, .unset] [(.int ((p1 &&& (2147483647 : Int32)) % (6 : Int32)))])) _
    refine XS.iconst X0.here hx rfl (hb hby at_83) ?_
    show Steps p.tables e below (s₁.setTop (mkF m 84 #[.val (.int p1), .val (.long q2), .second, .val (.int ((p1 &&& (2147483647 : Int32)) % (6 : Int32))), .unset, .unset, .unset] [(.int (4 : Int32)), (.int ((p1 &&& (2147483647 : Int32)) % (6 : Int32)))])) _
    refine XS.icmpNo X0.here hx rfl (hb hby at_84) rfl (teq hc84).2 ?_
    show Steps p.tables e below (s₁.setTop (mkF m 87 #[.val (.int p1), .val (.long q2), .second, .val (.int ((p1 &&& (2147483647 : Int32)) % (6 : Int32))), .unset, .unset, .unset] [])) _
    refine st4 _ ?_
    show Steps p.tables e below (T4.setTop (mkF m 90 #[.val (.int p1), .val (.long q2), .second, .val (.int ((p1 &&& (2147483647 : Int32)) % (6 : Int32))), .unset, .unset, .unset] [(.ref w3)])) _
    refine XS.astore X4.here hx rfl (hb hby at_90) rfl rfl (l' := #[.val (.int p1), .val (.long q2), .second, .val (.int ((p1 &&& (2147483647 : Int32)) % (6 : Int32))), .val (.ref w3), .unset, .unset]) rfl ?_
    show Steps p.tables e below (T4.setTop (mkF m 92 #[.val (.int p1), .val (.long q2), .second, .val (.int ((p1 &&& (2147483647 : Int32)) % (6 : Int32))), .val (.ref w3), .unset, .unset] [])) _
    refine XS.lloadN X4.here hx rfl (hb hby at_92) rfl ?_
    show Steps p.tables e below (T4.setTop (mkF m 93 #[.val (.int p1), .val (.long q2), .second, .val (.int ((p1 &&& (2147483647 : Int32)) % (6 : Int32))), .val (.ref w3), .unset, .unset] [(.long q2)])) _
    refine XS.l2i X4.here hx rfl (hb hby at_93) rfl ?_
    show Steps p.tables e below (T4.setTop (mkF m 94 #[.val (.int p1), .val (.long q2), .second, .val (.int ((p1 &&& (2147483647 : Int32)) % (6 : Int32))), .val (.ref w3), .unset, .unset] [(.int (q2.toInt32))])) _
    refine XS.i2l X4.here hx rfl (hb hby at_94) rfl ?_
    show Steps p.tables e below (T4.setTop (mkF m 95 #[.val (.int p1), .val (.long q2), .second, .val (.int ((p1 &&& (2147483647 : Int32)) % (6 : Int32))), .val (.ref w3), .unset, .unset] [(.long ((q2.toInt32).toInt64))])) _
    refine XS.lstore X4.here hx rfl (hb hby at_95) rfl (l' := #[.val (.int p1), .val (.long q2), .second, .val (.int ((p1 &&& (2147483647 : Int32)) % (6 : Int32))), .val (.ref w3), .val (.long ((q2.toInt32).toInt64)), .second]) rfl ?_
    show Steps p.tables e below (T4.setTop (mkF m 97 #[.val (.int p1), .val (.long q2), .second, .val (.int ((p1 &&& (2147483647 : Int32)) % (6 : Int32))), .val (.ref w3), .val (.long ((q2.toInt32).toInt64)), .second] [])) _
    refine XS.goto X4.here hx rfl (pc0 := 97) (pc' := 108) rfl (hb hby at_97) (by decide) (by decide) ?_
    show Steps p.tables e below (T4.setTop (mkF m 108 #[.val (.int p1), .val (.long q2), .second, .val (.int ((p1 &&& (2147483647 : Int32)) % (6 : Int32))), .val (.ref w3), .val (.long ((q2.toInt32).toInt64)), .second] [])) _
    refine XS.aload X4.here hx rfl (hb hby at_108) rfl rfl ?_
    show Steps p.tables e below (T4.setTop (mkF m 110 #[.val (.int p1), .val (.long q2), .second, .val (.int ((p1 &&& (2147483647 : Int32)) % (6 : Int32))), .val (.ref w3), .val (.long ((q2.toInt32).toInt64)), .second] [(.ref w3)])) _
    refine XS.lloadN X4.here hx rfl (hb hby at_110) rfl ?_
    show Steps p.tables e below (T4.setTop (mkF m 111 #[.val (.int p1), .val (.long q2), .second, .val (.int ((p1 &&& (2147483647 : Int32)) % (6 : Int32))), .val (.ref w3), .val (.long ((q2.toInt32).toInt64)), .second] [(.long q2), (.ref w3)])) _
    refine st5.trans ?_
    show Steps p.tables e below (T5.setTop (mkF m 114 #[.val (.int p1), .val (.long q2), .second, .val (.int ((p1 &&& (2147483647 : Int32)) % (6 : Int32))), .val (.ref w3), .val (.long ((q2.toInt32).toInt64)), .second] [(.long ((q2 &&& (((1 : Int64) <<< ((32 : Int32) &&& 0x3f).toInt64) - (1 : Int64))) - ((1 : Int64) <<< ((32 : Int32) &&& 0x3f).toInt64)))])) _
    refine XS.lload X5.here hx rfl (hb hby at_114) rfl ?_
    show Steps p.tables e below (T5.setTop (mkF m 116 #[.val (.int p1), .val (.long q2), .second, .val (.int ((p1 &&& (2147483647 : Int32)) % (6 : Int32))), .val (.ref w3), .val (.long ((q2.toInt32).toInt64)), .second] [(.long ((q2.toInt32).toInt64)), (.long ((q2 &&& (((1 : Int64) <<< ((32 : Int32) &&& 0x3f).toInt64) - (1 : Int64))) - ((1 : Int64) <<< ((32 : Int32) &&& 0x3f).toInt64)))])) _
    refine XS.lcmp X5.here hx rfl (hb hby at_116) rfl ?_
    show Steps p.tables e below (T5.setTop (mkF m 117 #[.val (.int p1), .val (.long q2), .second, .val (.int ((p1 &&& (2147483647 : Int32)) % (6 : Int32))), .val (.ref w3), .val (.long ((q2.toInt32).toInt64)), .second] [(.int (lcmpW ((q2 &&& (((1 : Int64) <<< ((32 : Int32) &&& 0x3f).toInt64) - (1 : Int64))) - ((1 : Int64) <<< ((32 : Int32) &&& 0x3f).toInt64)) ((q2.toInt32).toInt64)))])) _
    refine XS.ifNo X5.here hx rfl (hb hby at_117) rfl ((if0 _ _).trans (teq hc117).2) ?_
    show Steps p.tables e below (T5.setTop (mkF m 120 #[.val (.int p1), .val (.long q2), .second, .val (.int ((p1 &&& (2147483647 : Int32)) % (6 : Int32))), .val (.ref w3), .val (.long ((q2.toInt32).toInt64)), .second] [])) _
    refine XS.iconst X5.here hx rfl (hb hby at_120) ?_
    show Steps p.tables e below (T5.setTop (mkF m 121 #[.val (.int p1), .val (.long q2), .second, .val (.int ((p1 &&& (2147483647 : Int32)) % (6 : Int32))), .val (.ref w3), .val (.long ((q2.toInt32).toInt64)), .second] [(.int (1 : Int32))])) _
    refine XS.goto X5.here hx rfl (pc0 := 121) (pc' := 125) rfl (hb hby at_121) (by decide) (by decide) ?_
    show Steps p.tables e below (T5.setTop (mkF m 125 #[.val (.int p1), .val (.long q2), .second, .val (.int ((p1 &&& (2147483647 : Int32)) % (6 : Int32))), .val (.ref w3), .val (.long ((q2.toInt32).toInt64)), .second] [(.int (1 : Int32))])) _
    exact retN X5 hx (t := .boolean) Bd.returns (by simp) (hb hby at_125) hr
  · show Q0 n0 _ _
    exact ⟨rfl, N5⟩

set_option maxRecDepth 65536 in
set_option maxHeartbeats 40000000 in
theorem rm0_LONG (l : Launch) (Z : State) (a0 : Array Value) (hw : ∀ d ∈ tables_1, d.before a0 Z = true) (ws : List Jvm.Cond) (p1 : Int32) (q2 : Int64) (w3 : Addr)  (h0 : Heap) (n0 : Nat) (Z0 : n0 ≤ h0.size) (F_bits : Fld Z h0 w3 "com/example/pathglass/pathglass/symbolic/InputType" "bits" "I" (.int (64 : Int32))) (F_signed : Fld Z h0 w3 "com/example/pathglass/pathglass/symbolic/InputType" "signed" "Z" (.int (1 : Int32))) (S_LONG : Sta Z h0 "com/example/pathglass/pathglass/symbolic/InputType" "LONG" "Lcom/example/pathglass/pathglass/symbolic/InputType;" (.ref w3)) (E_w3 : Exa Z h0 w3 "com/example/pathglass/pathglass/symbolic/InputType") (hc9 : ¬ (((p1 &&& (2147483647 : Int32)) % (6 : Int32)) = (0 : Int32))) (hc27 : ¬ (((p1 &&& (2147483647 : Int32)) % (6 : Int32)) = (1 : Int32))) (hc46 : ¬ (((p1 &&& (2147483647 : Int32)) % (6 : Int32)) = (2 : Int32))) (hc65 : ¬ (((p1 &&& (2147483647 : Int32)) % (6 : Int32)) = (3 : Int32))) (hc84 : ¬ (((p1 &&& (2147483647 : Int32)) % (6 : Int32)) = (4 : Int32))) (hc117 : (lcmpW q2 q2) = (0 : Int32)) :
    MetFree l x (head1 (Jvm.Cond.code x code maxLocals ret :: ws) room_1) (fun a U => a = #[(.int p1), (.long q2)] ∧ Z.Warmed39 U.vm ∧ U.heap = h0) (fun _ _ _ _ _ => True) (fun _ U o U' => ∃ v L, o = .returned v ∧ Q0 n0 v L ∧ FrameEnd U o U' L room_1.cells room_1.slots) := by
  refine MetFree.of_bodySF (plainFor_of_name pn_0) hisR ?_
  intro p e s m args below meth c s₁ Bd hml0 hP hK
  obtain ⟨rfl, hZ, hh⟩ := hP
  have hx := Bd.exec
  have hby := Bd.bytes
  have hml : c.maxLocals = 7 := hml0
  have hown : s.vm.findClass "com/example/pathglass/pathglass/symbolic/InputTypeValueOfPinLaw" = some m.cls := findClass_of_methodNamed Bd.named
  have hnm := (name_of_methodNamed Bd.named Bd.method).1
  have X0 : Stand p l e room_1 s m #[(.int p1), (.long q2)] below meth c s₁ [] 0 0 := Stand.of_body Bd
  have e0 : s₁.heap = h0 := by rw [← hh, Bd.state]; rfl
  have N0 := Fr.nil n0
  have pre0 : ∀ t, Steps p.tables e below (s₁.setTop (mkF m 0 #[.val (.int p1), .val (.long q2), .second, .unset, .unset, .unset, .unset] [])) t → Steps p.tables e below (s₁.setTop (entryFrame m #[(.int p1), (.long q2)] maxLocals)) t := fun t k => castTop (ef_0 m p1 q2) k
  -- 3. LAWS
  obtain ⟨T4, X4, e4, st4⟩ := getS2 X0 hx hZ hown (host := "") (Or.inl (hw _ (List.mem_of_getElem? (i := 21) rfl))) Via.refl e0 S_LONG (g := (mkF m 100 #[.val (.int p1), .val (.long q2), .second, .val (.int ((p1 &&& (2147483647 : Int32)) % (6 : Int32))), .unset, .unset, .unset] [])) rfl (hb hby at_100)
  -- pc 111: com/example/pathglass/pathglass/symbolic/InputType.valueOf by the contract of the body that the receiver's class selects, rm1
  obtain ⟨cq5, kq5, q5a, q5b, q5c⟩ := isOf hZ e4 E_w3
  obtain ⟨_, _, ⟨T5, L5, k5, n5⟩, -, X5, ⟨Lc5, hQ5, l5, y5, z5⟩, st5⟩ := X4.virtualBack hx (y := (⟨"com/example/pathglass/pathglass/symbolic/InputType", "valueOf", "(J)J"⟩ : MethodName)) (z := (⟨"com/example/pathglass/pathglass/symbolic/InputType", "valueOf", "(J)J"⟩ : MethodName)) hown (mvT hZ (hw _ (List.mem_of_getElem? (i := 4) rfl))) (mvT hZ (hw _ (List.mem_of_getElem? (i := 5) rfl))) (notFace_of_selects (args := #[]) (mvT hZ (hw _ (List.mem_of_getElem? (i := 7) rfl)))) (mvT hZ (hw _ (List.mem_of_getElem? (i := 7) rfl))) (mvT hZ (hw _ (List.mem_of_getElem? (i := 6) rfl))) (by decide) (backOf (W := 0) (rm1_LONG l Z a0 hw [] w3 q2  h0 n0 Z0 F_bits) hZ (hw _ (List.mem_of_getElem? (i := 8) rfl)) (hw _ (List.mem_of_getElem? (i := 2) rfl)) (by decide) (by decide)) q5a q5c (g := (mkF m 111 #[.val (.int p1), .val (.long q2), .second, .val (.int ((p1 &&& (2147483647 : Int32)) % (6 : Int32))), .val (.ref w3), .val (.long q2), .second] [(.long q2), (.ref w3)])) rfl (by rw [hml]; rfl) (Steps.refl _) (argsL := [(.long q2)]) (rest := []) (lenOf pd_0_0 rfl) rfl (by show 2 * 0 + _ ≤ _; exact Nat.le_of_eq rfl) (hb hby at_111) (fun _ _ => ⟨rfl, e4, (by decide : 0 + 0 ≤ _), (by decide : 0 + 0 ≤ _)⟩)
  dsimp only [Pt.U, Pt.locs, Pt.cells, Pt.slots] at X5 l5 y5 z5 st5 hQ5
  subst l5 y5 z5
  obtain ⟨rfl, N5q, hh5⟩ := hQ5
  have N5 := Fr.app N0 N5q
  obtain ⟨fs, hr, hrun, hended, hW, hsame⟩ := X5.leave (v := some (.int (1 : Int32))) (fun h => by rw [Bd.returns] at h; cases h)
  refine ⟨_, _, pre0 _ ?_, hrun, hended, _, _, rfl, ?_, ⟨_, rfl⟩, hW, hsame.mono (by decide) (by decide)⟩
  -- 4. STEPS
  · show Steps p.tables e below (s₁.setTop (mkF m 0 #[.val (.int p1), .val (.long q2), .second, .unset, .unset, .unset, .unset] [])) _
    refine XS.iloadN X0.here hx rfl (hb hby at_0) rfl ?_
    show Steps p.tables e below (s₁.setTop (mkF m 1 #[.val (.int p1), .val (.long q2), .second, .unset, .unset, .unset, .unset] [(.int p1)])) _
    refine X0.ldcInt hx hown (mvT hZ (hw _ (List.mem_of_getElem? (i := 0) rfl))) (g := (mkF m 1 #[.val (.int p1), .val (.long q2), .second, .unset, .unset, .unset, .unset] [(.int p1)])) rfl (hb hby at_1) _ ?_
    show Steps p.tables e below (s₁.setTop (mkF m 3 #[.val (.int p1), .val (.long q2), .second, .unset, .unset, .unset, .unset] [(.int (2147483647 : Int32)), (.int p1)])) _
    refine XS.iand X0.here hx rfl (hb hby at_3) rfl ?_
    show Steps p.tables e below (s₁.setTop (mkF m 4 #[.val (.int p1), .val (.long q2), .second, .unset, .unset, .unset, .unset] [(.int (p1 &&& (2147483647 : Int32)))])) _
    refine XS.bipush X0.here hx rfl (hb hby at_4) ?_
    show Steps p.tables e below (s₁.setTop (mkF m 6 #[.val (.int p1), .val (.long q2), .second, .unset, .unset, .unset, .unset] [(.int (6 : Int32)), (.int (p1 &&& (2147483647 : Int32)))])) _
    refine iremM X0 hx rfl (hb hby at_6) rfl (by decide) ?_
    show Steps p.tables e below (s₁.setTop (mkF m 7 #[.val (.int p1), .val (.long q2), .second, .unset, .unset, .unset, .unset] [(.int ((p1 &&& (2147483647 : Int32)) % (6 : Int32)))])) _
    refine XS.istoreN X0.here hx rfl (hb hby at_7) rfl (l' := #[.val (.int p1), .val (.long q2), .second, .val (.int ((p1 &&& (2147483647 : Int32)) % (6 : Int32))), .unset, .unset, .unset]) rfl ?_
    show Steps p.tables e below (s₁.setTop (mkF m 8 #[.val (.int p1), .val (.long q2), .second, .val (.int ((p1 &&& (2147483647 : Int32)) % (6 : Int32))), .unset, .unset, .unset] [])) _
    refine XS.iloadN X0.here hx rfl (hb hby at_8) rfl ?_
    show Steps p.tables e below (s₁.setTop (mkF m 9 #[.val (.int p1), .val (.long q2), .second, .val (.int ((p1 &&& (2147483647 : Int32)) % (6 : Int32))), .unset, .unset, .unset] [(.int ((p1 &&& (2147483647 : Int32)) % (6 : Int32)))])) _
    refine XS.ifYes X0.here hx rfl (pc0 := 9) (pc' := 25) rfl (hb hby at_9) rfl ((if0 _ _).trans (feq hc9).2) (by decide) (by decide) ?_
    show Steps p.tables e below (s₁.setTop (mkF m 25 #[.val (.int p1), .val (.long q2), .second, .val (.int ((p1 &&& (2147483647 : Int32)) % (6 : Int32))), .unset, .unset, .unset] [])) _
    refine XS.iloadN X0.here hx rfl (hb hby at_25) rfl ?_
    show Steps p.tables e below (s₁.setTop (mkF m 26 #[.val (.int p1), .val (.long q2), .second, .val (.int ((p1 &&& (2147483647 : Int32)) % (6 : Int32))), .unset, .unset, .unset] [(.int ((p1 &&& (2147483647 : Int32)) % (6 : Int32)))])) _
    refine XS.iconst X0.here hx rfl (hb hby at_26) ?_
    show Steps p.tables e below (s₁.setTop (mkF m 27 #[.val (.int p1), .val (.long q2), .second, .val (.int ((p1 &&& (2147483647 : Int32)) % (6 : Int32))), .unset, .unset, .unset] [(.int (1 : Int32)), (.int ((p1 &&& (2147483647 : Int32)) % (6 : Int32)))])) _
    refine XS.icmpYes X0.here hx rfl (pc0 := 27) (pc' := 44) rfl (hb hby at_27) rfl (feq hc27).2 (by decide) (by decide) ?_
    show Steps p.tables e below (s₁.setTop (mkF m 44 #[.val (.int p1), .val (.long q2), .second, .val (.int ((p1 &&& (2147483647 : Int32)) % (6 : Int32))), .unset, .unset, .unset] [])) _
    refine XS.iloadN X0.here hx rfl (hb hby at_44) rfl ?_
    show Steps p.tables e below (s₁.setTop (mkF m 45 #[.val (.int p1), .val (.long q2), .second, .val (.int ((p1 &&& (2147483647 : Int32)) % (6 : Int32))), .unset, .unset, .unset] [(.int ((p1 &&& (2147483647 : Int32)) % (6 : Int32)))])) _
    refine XS.iconst X0.here hx rfl (hb hby at_45) ?_
    show Steps p.tables e below (s₁.setTop (mkF m 46 #[.val (.int p1), .val (.long q2), .second, .val (.int ((p1 &&& (2147483647 : Int32)) % (6 : Int32))), .unset, .unset, .unset] [(.int (2 : Int32)), (.int ((p1 &&& (2147483647 : Int32)) % (6 : Int32)))])) _
    refine XS.icmpYes X0.here hx rfl (pc0 := 46) (pc' := 63) rfl (hb hby at_46) rfl (feq hc46).2 (by decide) (by decide) ?_
    show Steps p.tables e below (s₁.setTop (mkF m 63 #[.val (.int p1), .val (.long q2), .second, .val (.int ((p1 &&& (2147483647 : Int32)) % (6 : Int32))), .unset, .unset, .unset] [])) _
    refine XS.iloadN X0.here hx rfl (hb hby at_63) rfl ?_
    show Steps p.tables e below (s₁.setTop (mkF m 64 #[.val (.int p1), .val (.long q2), .second, .val (.int ((p1 &&& (2147483647 : Int32)) % (6 : Int32))), .unset, .unset, .unset] [(.int ((p1 &&& (2147483647 : Int32)) % (6 : Int32)))])) _
    refine XS.iconst X0.here hx rfl (hb hby at_64) ?_
    show Steps p.tables e below (s₁.setTop (mkF m 65 #[.val (.int p1), .val (.long q2), .second, .val (.int ((p1 &&& (2147483647 : Int32)) % (6 : Int32))), .unset, .unset, .unset] [(.int (3 : Int32)), (.int ((p1 &&& (2147483647 : Int32)) % (6 : Int32)))])) _
    refine XS.icmpYes X0.here hx rfl (pc0 := 65) (pc' := 82) rfl (hb hby at_65) rfl (feq hc65).2 (by decide) (by decide) ?_
    show Steps p.tables e below (s₁.setTop (mkF m 82 #[.val (.int p1), .val (.long q2), .second, .val (.int ((p1 &&& (2147483647 : Int32)) % (6 : Int32))), .unset, .unset, .unset] [])) _
    refine XS.iloadN X0.here hx rfl (hb hby at_82) rfl ?_
    show Steps p.tables e below (s₁.setTop (mkF m 83 #[.val (.int p1), .val (.long q2), .second, .val (.int ((p1 &&& (2147483647 : Int32)) % (6 : Int32))), .unset, .unset, .unset] [(.int ((p1 &&& (2147483647 : Int32)) % (6 : Int32)))])) _
    refine XS.iconst X0.here hx rfl (hb hby at_83) ?_
    show Steps p.tables e below (s₁.setTop (mkF m 84 #[.val (.int p1), .val (.long q2), .second, .val (.int ((p1 &&& (2147483647 : Int32)) % (6 : Int32))), .unset, .unset, .unset] [(.int (4 : Int32)), (.int ((p1 &&& (2147483647 : Int32)) % (6 : Int32)))])) _
    refine XS.icmpYes X0.here hx rfl (pc0 := 84) (pc' := 100) rfl (hb hby at_84) rfl (feq hc84).2 (by decide) (by decide) ?_
    show Steps p.tables e below (s₁.setTop (mkF m 100 #[.val (.int p1), .val (.long q2), .second, .val (.int ((p1 &&& (2147483647 : Int32)) % (6 : Int32))), .unset, .unset, .unset] [])) _
    refine st4 _ ?_
    show Steps p.tables e below (T4.setTop (mkF m 103 #[.val (.int p1), .val (.long q2), .second, .val (.int ((p1 &&& (2147483647 : Int32)) % (6 : Int32))), .unset, .unset, .unset] [(.ref w3)])) _
    refine XS.astore X4.here hx rfl (hb hby at_103) rfl rfl (l' := #[.val (.int p1), .val (.long q2), .second, .val (.int ((p1 &&& (2147483647 : Int32)) % (6 : Int32))), .val (.ref w3), .unset, .unset]) rfl ?_
    show Steps p.tables e below (T4.setTop (mkF m 105 #[.val (.int p1), .val (.long q2), .second, .val (.int ((p1 &&& (2147483647 : Int32)) % (6 : Int32))), .val (.ref w3), .unset, .unset] [])) _
    refine XS.lloadN X4.here hx rfl (hb hby at_105) rfl ?_
    show Steps p.tables e below (T4.setTop (mkF m 106 #[.val (.int p1), .val (.long q2), .second, .val (.int ((p1 &&& (2147483647 : Int32)) % (6 : Int32))), .val (.ref w3), .unset, .unset] [(.long q2)])) _
    refine XS.lstore X4.here hx rfl (hb hby at_106) rfl (l' := #[.val (.int p1), .val (.long q2), .second, .val (.int ((p1 &&& (2147483647 : Int32)) % (6 : Int32))), .val (.ref w3), .val (.long q2), .second]) rfl ?_
    show Steps p.tables e below (T4.setTop (mkF m 108 #[.val (.int p1), .val (.long q2), .second, .val (.int ((p1 &&& (2147483647 : Int32)) % (6 : Int32))), .val (.ref w3), .val (.long q2), .second] [])) _
    refine XS.aload X4.here hx rfl (hb hby at_108) rfl rfl ?_
    show Steps p.tables e below (T4.setTop (mkF m 110 #[.val (.int p1), .val (.long q2), .second, .val (.int ((p1 &&& (2147483647 : Int32)) % (6 : Int32))), .val (.ref w3), .val (.long q2), .second] [(.ref w3)])) _
    refine XS.lloadN X4.here hx rfl (hb hby at_110) rfl ?_
    show Steps p.tables e below (T4.setTop (mkF m 111 #[.val (.int p1), .val (.long q2), .second, .val (.int ((p1 &&& (2147483647 : Int32)) % (6 : Int32))), .val (.ref w3), .val (.long q2), .second] [(.long q2), (.ref w3)])) _
    refine st5.trans ?_
    show Steps p.tables e below (T5.setTop (mkF m 114 #[.val (.int p1), .val (.long q2), .second, .val (.int ((p1 &&& (2147483647 : Int32)) % (6 : Int32))), .val (.ref w3), .val (.long q2), .second] [(.long q2)])) _
    refine XS.lload X5.here hx rfl (hb hby at_114) rfl ?_
    show Steps p.tables e below (T5.setTop (mkF m 116 #[.val (.int p1), .val (.long q2), .second, .val (.int ((p1 &&& (2147483647 : Int32)) % (6 : Int32))), .val (.ref w3), .val (.long q2), .second] [(.long q2), (.long q2)])) _
    refine XS.lcmp X5.here hx rfl (hb hby at_116) rfl ?_
    show Steps p.tables e below (T5.setTop (mkF m 117 #[.val (.int p1), .val (.long q2), .second, .val (.int ((p1 &&& (2147483647 : Int32)) % (6 : Int32))), .val (.ref w3), .val (.long q2), .second] [(.int (lcmpW q2 q2))])) _
    refine XS.ifNo X5.here hx rfl (hb hby at_117) rfl ((if0 _ _).trans (teq hc117).2) ?_
    show Steps p.tables e below (T5.setTop (mkF m 120 #[.val (.int p1), .val (.long q2), .second, .val (.int ((p1 &&& (2147483647 : Int32)) % (6 : Int32))), .val (.ref w3), .val (.long q2), .second] [])) _
    refine XS.iconst X5.here hx rfl (hb hby at_120) ?_
    show Steps p.tables e below (T5.setTop (mkF m 121 #[.val (.int p1), .val (.long q2), .second, .val (.int ((p1 &&& (2147483647 : Int32)) % (6 : Int32))), .val (.ref w3), .val (.long q2), .second] [(.int (1 : Int32))])) _
    refine XS.goto X5.here hx rfl (pc0 := 121) (pc' := 125) rfl (hb hby at_121) (by decide) (by decide) ?_
    show Steps p.tables e below (T5.setTop (mkF m 125 #[.val (.int p1), .val (.long q2), .second, .val (.int ((p1 &&& (2147483647 : Int32)) % (6 : Int32))), .val (.ref w3), .val (.long q2), .second] [(.int (1 : Int32))])) _
    exact retN X5 hx (t := .boolean) Bd.returns (by simp) (hb hby at_125) hr
  · show Q0 n0 _ _
    exact ⟨rfl, N5⟩

theorem own_fld {args : Array Value} {s : State} {t : Term} {C n d : String} {k : Int32} {y : Addr} (ev : t.eval args s none [] s = some (.ref y)) (h : (Jvm.Cond.eq (.field t C n d) (.int k)).value args s none s [] = some true) : Fld s s.heap y C n d (.int k) := by
  obtain ⟨u, v, h1, h2, k1, k2⟩ := cmp_v (Or.inl h)
  have h2' : v = .int k := (Option.some.inj h2).symm
  subst h2'
  obtain ⟨z, rfl⟩ : ∃ z, u = .int z := k2
  have e : z = k := by simpa [Cond.value, h1, h2] using h
  subst e
  exact Fld.start ((fld_at ev).symm.trans h1)

set_option maxRecDepth 65536 in
set_option maxHeartbeats 40000000 in
theorem comes_1 {Post : Tables → Env → Array Value → State → Outcome → State → Prop} (hpost : ∀ tb e args s v u, (limb_1_1.after args s (.returned v) u = true ∧ limb_1_2.after args s (.returned v) u = true ∧ True) → FrameEnd s (.returned v) u (Jvm.fieldLocs frame_1_writes args s ++ Jvm.arrayLocs frame_1_arrays args s ++ Jvm.staticLocs frame_1_statics s) 0 0 → Post tb e args s (.returned v) u) :
    ArmFor flags0 classFile x code maxLocals ret World_1 tables_1 room_1 Calls_1 rest_1 Pre_1 Post := by
  intro l hfl _ _ p e ha hc hk s m args below hf hA hF happ hP
  obtain ⟨hcalls, hrest, hpre⟩ := hP
  obtain ⟨-, -, -, hnamed, -, -, -, hat⟩ := (Spec.applies_iff hf).mp happ
  obtain ⟨hg, hn⟩ := and_e (Cond.before_iff.mp (show (Jvm.Cond.and given_1 narrow_1).before args s = true from hpre))
  obtain ⟨g6, g7⟩ := and_e hg
  obtain ⟨g8, g9⟩ := and_e g7
  obtain ⟨w0, w1, rfl⟩ : ∃ w0 w1 : Value, args = #[w0, w1] := by
    have hs : args.size = 2 := by simpa [Cond.value, given_1] using g6
    obtain ⟨L⟩ := args
    match L, hs with
    | [w0, w1], _ => exact ⟨w0, w1, rfl⟩
  have hw := fun d (hd : d ∈ tables_1) => atoms_spec (ws := Jvm.Cond.code x code maxLocals ret :: tables_1) hat d (List.mem_cons_of_mem _ hd)
  have hfit : Fit s := fun {y c} hc i hi => by
    obtain ⟨ha, rfl⟩ := Array.getElem?_eq_some_iff.mp hc
    have q := List.all_eq_true.mp ((Array.all_eq_true_iff_forall_mem.mp hF) _ (Array.getElem_mem ha)) i (List.mem_range.mpr hi)
    simpa [Array.getElem?_eq_getElem hi] using q
  obtain ⟨i0, ei0⟩ := is_v g8
  obtain rfl : w0 = (.int i0) := Option.some.inj ei0
  obtain ⟨i1, ei1⟩ := isL_v g9
  obtain rfl : w1 = (.long i1) := Option.some.inj ei1
  obtain ⟨na1, nb1⟩ := and_e hn
  obtain ⟨w_BOOLEAN, ev_BOOLEAN⟩ := exa_v na1
  have E_BOOLEAN : Exa s s.heap w_BOOLEAN "com/example/pathglass/pathglass/symbolic/InputType" := Exa.start ev_BOOLEAN na1
  have S_BOOLEAN : Sta s s.heap "com/example/pathglass/pathglass/symbolic/InputType" "BOOLEAN" "Lcom/example/pathglass/pathglass/symbolic/InputType;" (.ref w_BOOLEAN) := Sta.start ev_BOOLEAN (Or.inr ⟨hw _ (List.mem_of_getElem? (i := 2) rfl), hw _ (List.mem_of_getElem? (i := 3) rfl)⟩)
  obtain ⟨na2, nb2⟩ := and_e nb1
  obtain ⟨na3, nb3⟩ := and_e nb2
  obtain ⟨na4, nb4⟩ := and_e nb3
  obtain ⟨w_BYTE, ev_BYTE⟩ := exa_v na4
  have E_BYTE : Exa s s.heap w_BYTE "com/example/pathglass/pathglass/symbolic/InputType" := Exa.start ev_BYTE na4
  have S_BYTE : Sta s s.heap "com/example/pathglass/pathglass/symbolic/InputType" "BYTE" "Lcom/example/pathglass/pathglass/symbolic/InputType;" (.ref w_BYTE) := Sta.start ev_BYTE (Or.inr ⟨hw _ (List.mem_of_getElem? (i := 2) rfl), hw _ (List.mem_of_getElem? (i := 14) rfl)⟩)
  obtain ⟨na5, nb5⟩ := and_e nb4
  obtain ⟨na6, nb6⟩ := and_e nb5
  obtain ⟨na7, nb7⟩ := and_e nb6
  obtain ⟨w_CHAR, ev_CHAR⟩ := exa_v na7
  have E_CHAR : Exa s s.heap w_CHAR "com/example/pathglass/pathglass/symbolic/InputType" := Exa.start ev_CHAR na7
  have S_CHAR : Sta s s.heap "com/example/pathglass/pathglass/symbolic/InputType" "CHAR" "Lcom/example/pathglass/pathglass/symbolic/InputType;" (.ref w_CHAR) := Sta.start ev_CHAR (Or.inr ⟨hw _ (List.mem_of_getElem? (i := 2) rfl), hw _ (List.mem_of_getElem? (i := 16) rfl)⟩)
  obtain ⟨na8, nb8⟩ := and_e nb7
  obtain ⟨na9, nb9⟩ := and_e nb8
  obtain ⟨na10, nb10⟩ := and_e nb9
  obtain ⟨w_INT, ev_INT⟩ := exa_v na10
  have E_INT : Exa s s.heap w_INT "com/example/pathglass/pathglass/symbolic/InputType" := Exa.start ev_INT na10
  have S_INT : Sta s s.heap "com/example/pathglass/pathglass/symbolic/InputType" "INT" "Lcom/example/pathglass/pathglass/symbolic/InputType;" (.ref w_INT) := Sta.start ev_INT (Or.inr ⟨hw _ (List.mem_of_getElem? (i := 2) rfl), hw _ (List.mem_of_getElem? (i := 18) rfl)⟩)
  obtain ⟨na11, nb11⟩ := and_e nb10
  obtain ⟨na12, nb12⟩ := and_e nb11
  obtain ⟨na13, nb13⟩ := and_e nb12
  obtain ⟨w_SHORT, ev_SHORT⟩ := exa_v na13
  have E_SHORT : Exa s s.heap w_SHORT "com/example/pathglass/pathglass/symbolic/InputType" := Exa.start ev_SHORT na13
  have S_SHORT : Sta s s.heap "com/example/pathglass/pathglass/symbolic/InputType" "SHORT" "Lcom/example/pathglass/pathglass/symbolic/InputType;" (.ref w_SHORT) := Sta.start ev_SHORT (Or.inr ⟨hw _ (List.mem_of_getElem? (i := 2) rfl), hw _ (List.mem_of_getElem? (i := 20) rfl)⟩)
  obtain ⟨na14, nb14⟩ := and_e nb13
  obtain ⟨na15, nb15⟩ := and_e nb14
  obtain ⟨na16, nb16⟩ := and_e nb15
  obtain ⟨w_LONG, ev_LONG⟩ := exa_v na16
  have E_LONG : Exa s s.heap w_LONG "com/example/pathglass/pathglass/symbolic/InputType" := Exa.start ev_LONG na16
  have S_LONG : Sta s s.heap "com/example/pathglass/pathglass/symbolic/InputType" "LONG" "Lcom/example/pathglass/pathglass/symbolic/InputType;" (.ref w_LONG) := Sta.start ev_LONG (Or.inr ⟨hw _ (List.mem_of_getElem? (i := 2) rfl), hw _ (List.mem_of_getElem? (i := 22) rfl)⟩)
  obtain ⟨na17, nb17⟩ := and_e nb16
  have F_bits_BOOLEAN : Fld s s.heap w_BOOLEAN "com/example/pathglass/pathglass/symbolic/InputType" "bits" "I" (.int (1 : Int32)) := own_fld ev_BOOLEAN na2
  have F_signed_BOOLEAN : Fld s s.heap w_BOOLEAN "com/example/pathglass/pathglass/symbolic/InputType" "signed" "Z" (.int (0 : Int32)) := own_fld ev_BOOLEAN na3
  have F_bits_BYTE : Fld s s.heap w_BYTE "com/example/pathglass/pathglass/symbolic/InputType" "bits" "I" (.int (8 : Int32)) := own_fld ev_BYTE na5
  have F_signed_BYTE : Fld s s.heap w_BYTE "com/example/pathglass/pathglass/symbolic/InputType" "signed" "Z" (.int (1 : Int32)) := own_fld ev_BYTE na6
  have F_bits_CHAR : Fld s s.heap w_CHAR "com/example/pathglass/pathglass/symbolic/InputType" "bits" "I" (.int (16 : Int32)) := own_fld ev_CHAR na8
  have F_signed_CHAR : Fld s s.heap w_CHAR "com/example/pathglass/pathglass/symbolic/InputType" "signed" "Z" (.int (0 : Int32)) := own_fld ev_CHAR na9
  have F_bits_INT : Fld s s.heap w_INT "com/example/pathglass/pathglass/symbolic/InputType" "bits" "I" (.int (32 : Int32)) := own_fld ev_INT na11
  have F_signed_INT : Fld s s.heap w_INT "com/example/pathglass/pathglass/symbolic/InputType" "signed" "Z" (.int (1 : Int32)) := own_fld ev_INT na12
  have F_bits_SHORT : Fld s s.heap w_SHORT "com/example/pathglass/pathglass/symbolic/InputType" "bits" "I" (.int (16 : Int32)) := own_fld ev_SHORT na14
  have F_signed_SHORT : Fld s s.heap w_SHORT "com/example/pathglass/pathglass/symbolic/InputType" "signed" "Z" (.int (1 : Int32)) := own_fld ev_SHORT na15
  have F_bits_LONG : Fld s s.heap w_LONG "com/example/pathglass/pathglass/symbolic/InputType" "bits" "I" (.int (64 : Int32)) := own_fld ev_LONG na17
  have F_signed_LONG : Fld s s.heap w_LONG "com/example/pathglass/pathglass/symbolic/InputType" "signed" "Z" (.int (1 : Int32)) := own_fld ev_LONG nb17
  have M : MetFree l x (head1 (Jvm.Cond.code x code maxLocals ret :: tables_1) room_1) (fun a U => a = #[(.int i0), (.long i1)] ∧ s.Warmed39 U.vm ∧ U.heap = s.heap) (fun _ _ _ _ _ => True) (fun _ U o U' => ∃ v L, o = .returned v ∧ Q0 s.heap.size v L ∧ FrameEnd U o U' L room_1.cells room_1.slots) := by
    by_cases k0 : ((i0 &&& (2147483647 : Int32)) % (6 : Int32)) = (0 : Int32)
    · exact rm0_BOOLEAN l s _ hw tables_1 i0 i1 w_BOOLEAN s.heap s.heap.size (Nat.le_refl _) F_bits_BOOLEAN F_signed_BOOLEAN S_BOOLEAN E_BOOLEAN  k0 (own_BOOLEAN i1)
    by_cases k1 : ((i0 &&& (2147483647 : Int32)) % (6 : Int32)) = (1 : Int32)
    · by_cases hs : (lcmpW (((i1 &&& (((1 : Int64) <<< ((8 : Int32) &&& 0x3f).toInt64) - (1 : Int64))).toUInt64 >>> (((8 : Int32) - (1 : Int32)) &&& 0x3f).toInt64.toUInt64).toInt64) (0 : Int64)) = (0 : Int32)
      · exact rm0_BYTE_p l s _ hw tables_1 i0 i1 w_BYTE s.heap s.heap.size (Nat.le_refl _) F_bits_BYTE F_signed_BYTE hs S_BYTE E_BYTE  k0 k1 (own_BYTE_p i1 hs)
      · exact rm0_BYTE_n l s _ hw tables_1 i0 i1 w_BYTE s.heap s.heap.size (Nat.le_refl _) F_bits_BYTE F_signed_BYTE hs S_BYTE E_BYTE  k0 k1 (own_BYTE_n i1 hs)
    by_cases k2 : ((i0 &&& (2147483647 : Int32)) % (6 : Int32)) = (2 : Int32)
    · exact rm0_CHAR l s _ hw tables_1 i0 i1 w_CHAR s.heap s.heap.size (Nat.le_refl _) F_bits_CHAR F_signed_CHAR S_CHAR E_CHAR  k0 k1 k2 (own_CHAR i1)
    by_cases k3 : ((i0 &&& (2147483647 : Int32)) % (6 : Int32)) = (3 : Int32)
    · by_cases hs : (lcmpW (((i1 &&& (((1 : Int64) <<< ((16 : Int32) &&& 0x3f).toInt64) - (1 : Int64))).toUInt64 >>> (((16 : Int32) - (1 : Int32)) &&& 0x3f).toInt64.toUInt64).toInt64) (0 : Int64)) = (0 : Int32)
      · exact rm0_SHORT_p l s _ hw tables_1 i0 i1 w_SHORT s.heap s.heap.size (Nat.le_refl _) F_bits_SHORT F_signed_SHORT hs S_SHORT E_SHORT  k0 k1 k2 k3 (own_SHORT_p i1 hs)
      · exact rm0_SHORT_n l s _ hw tables_1 i0 i1 w_SHORT s.heap s.heap.size (Nat.le_refl _) F_bits_SHORT F_signed_SHORT hs S_SHORT E_SHORT  k0 k1 k2 k3 (own_SHORT_n i1 hs)
    by_cases k4 : ((i0 &&& (2147483647 : Int32)) % (6 : Int32)) = (4 : Int32)
    · by_cases hs : (lcmpW (((i1 &&& (((1 : Int64) <<< ((32 : Int32) &&& 0x3f).toInt64) - (1 : Int64))).toUInt64 >>> (((32 : Int32) - (1 : Int32)) &&& 0x3f).toInt64.toUInt64).toInt64) (0 : Int64)) = (0 : Int32)
      · exact rm0_INT_p l s _ hw tables_1 i0 i1 w_INT s.heap s.heap.size (Nat.le_refl _) F_bits_INT F_signed_INT hs S_INT E_INT  k0 k1 k2 k3 k4 (own_INT_p i1 hs)
      · exact rm0_INT_n l s _ hw tables_1 i0 i1 w_INT s.heap s.heap.size (Nat.le_refl _) F_bits_INT F_signed_INT hs S_INT E_INT  k0 k1 k2 k3 k4 (own_INT_n i1 hs)
    exact rm0_LONG l s _ hw tables_1 i0 i1 w_LONG s.heap s.heap.size (Nat.le_refl _) F_bits_LONG F_signed_LONG S_LONG E_LONG  k0 k1 k2 k3 k4 (own_LONG i1)
  obtain ⟨n, o, h1, h2, h3, _, L, rfl, ⟨rfl, N⟩, hq⟩ := M p e ha hc hk s m _ below hf ((Spec.applies_iff_loose hf).mp happ).1 ⟨rfl, State.Warmed39.refl s, rfl⟩ trivial
  refine ⟨n, _, h1, h2, h3, hpost _ _ _ _ _ _ ⟨Cond.after_iff.mpr rfl, Cond.after_iff.mpr (eq_i res_at (Term.int_eval (1)) rfl), trivial⟩ ⟨hq.1, hq.2.1, (hq.2.2.sift fun y hy => Or.inr (N y hy)).mono (by decide) (by decide)⟩⟩
theorem main_1_1 : Claimed_1_1 := comes_1 fun _ _ _ _ _ _ h hF => ⟨h.1, hF⟩
theorem main_1_2 : Claimed_1_2 := comes_1 fun _ _ _ _ _ _ h hF => ⟨h.2.1, hF⟩
end Jvm.Pilot.@@N@@
namespace Jvm.Pilot.@@N@@
open Jvm Jvm.ClassFile Sem Op Lib Jvm.Free Jvm.Stand Jvm.Pilot.@@N@@.Jvm.D
/-! MADE BY PROGRAM (witnessworld.py) out of the Statement's table words and the real class files: 12 classes; the members and pool entries that the words name. The judged class is class 1, her method 1. -/
namespace start1
open Jvm.ClassFile
def u (s : String) : CpInfo := .utf8 (stringToUtf16 s)
/-- a pool by its gaps: so many unusable entries, then the entry; so many at the end -/
def gap : Nat → List CpInfo → List CpInfo
  | 0, r => r
  | n + 1, r => .unusable :: gap n r
def poolList (es : List (Nat × CpInfo)) (last : Nat) : List CpInfo := es.foldr (fun e r => gap e.1 (e.2 :: r)) (gap last [])
def pool (es : List (Nat × CpInfo)) (last : Nat) : Array CpInfo := ⟨poolList es last⟩
def fileOf (pool : Array CpInfo) (this : Nat) (attrs : Array Attribute := #[]) (ms : Array MethodInfo := #[]) (fl : Nat := 33) (sup : Nat := 0) (ifs : Array Nat := #[]) (fds : Array FieldInfo := #[]) : ClassFile where
  minorVersion := 0
  majorVersion := 65
  constantPool := pool
  accessFlags := fl
  thisClass := this
  superClass := sup
  interfaces := ifs
  fields := fds
  methods := ms
  attributes := attrs
def plain (name : String) (sup : Option ClassId) : Class where
  name := name
  kind := .ordinary
  loader := none
  accessFlags := 33
  super := sup
  interfaces := #[]
  cf := none
  fields := #[]
  methods := #[]
  instanceTypes := #[]
  staticTypes := #[]
  resolved := #[]
  callSites := []
  init := .initialized
  statics := none
  mirror := none

def pool0 : Array CpInfo := pool [(5, u "<init>"), (0, u "()V"), (1, .class_ 10), (1, u "java/lang/Object")] 113

def k0m0 : Method := { name := "<init>", desc := "()V", sig := { parameters := [], returnType := none }, accessFlags := 1, code := none }
/-- java/lang/Object -/
def k0 : Class := { plain "java/lang/Object" none with
  accessFlags := 33
  interfaces := #[]
  cf := some (fileOf pool0 8 #[] #[{ accessFlags := 1, nameIndex := 5, descriptorIndex := 6, attributes := #[] }] 33 0 #[] #[])
  fields := #[]
  methods := #[k0m0]
  instanceTypes := #[]
  staticTypes := #[]
  resolved := Array.replicate 124 none
  statics := none }

def pool1 : Array CpInfo := pool [(2, .class_ 4), (1, u "java/lang/Object"), (0, u "<init>"), (0, u "()V"), (0, .integer 2147483647), (0, .fieldref 9 10), (0, .class_ 11), (0, .nameAndType 12 13), (0, u "com/example/pathglass/pathglass/symbolic/InputType"), (0, u "BOOLEAN"), (0, u "Lcom/example/pathglass/pathglass/symbolic/InputType;"), (0, .fieldref 9 15), (0, .nameAndType 16 13), (0, u "BYTE"), (0, .fieldref 9 18), (0, .nameAndType 19 13), (0, u "CHAR"), (0, .fieldref 9 21), (0, .nameAndType 22 13), (0, u "SHORT"), (0, .fieldref 9 24), (0, .nameAndType 25 13), (0, u "INT"), (0, .fieldref 9 27), (0, .nameAndType 28 13), (0, u "LONG"), (0, .methodref 9 30), (0, .nameAndType 31 32), (0, u "valueOf"), (0, u "(J)J"), (0, .class_ 34), (0, u "com/example/pathglass/pathglass/symbolic/InputTypeValueOfPinLaw"), (2, u "law"), (0, u "(IJ)Z")] 3

def k1m0 : Method := { name := "<init>", desc := "()V", sig := { parameters := [], returnType := none }, accessFlags := 2, code := none }
def k1c1 : Code := { maxStack := 4, maxLocals := 7, code := code, exceptionTable := #[], attributes := #[] }
def k1m1 : Method := { name := "law", desc := "(IJ)Z", sig := { parameters := [.int, .long], returnType := some .boolean }, accessFlags := 9, code := some k1c1 }
/-- com/example/pathglass/pathglass/symbolic/InputTypeValueOfPinLaw -/
def k1 : Class := { plain "com/example/pathglass/pathglass/symbolic/InputTypeValueOfPinLaw" (some 0) with
  accessFlags := 49
  interfaces := #[]
  cf := some (fileOf pool1 33 #[] #[{ accessFlags := 2, nameIndex := 5, descriptorIndex := 6, attributes := #[] }, { accessFlags := 9, nameIndex := 37, descriptorIndex := 38, attributes := #[] }] 49 2 #[] #[])
  fields := #[]
  methods := #[k1m0, k1m1]
  instanceTypes := #[]
  staticTypes := #[]
  resolved := Array.replicate 42 none
  statics := none }

def pool2 : Array CpInfo := pool [(1, .class_ 2), (0, u "java/lang/constant/Constable"), (0, .class_ 4), (0, u "java/lang/Object")] 6

/-- java/lang/constant/Constable -/
def k2 : Class := { plain "java/lang/constant/Constable" (some 0) with
  accessFlags := 1537
  interfaces := #[]
  cf := some (fileOf pool2 1 #[] #[] 1537 3 #[] #[])
  fields := #[]
  methods := #[]
  instanceTypes := #[]
  staticTypes := #[]
  resolved := Array.replicate 11 none
  statics := none }

def pool3 : Array CpInfo := pool [(1, .class_ 2), (0, u "java/lang/Comparable"), (0, .class_ 4), (0, u "java/lang/Object")] 7

/-- java/lang/Comparable -/
def k3 : Class := { plain "java/lang/Comparable" (some 0) with
  accessFlags := 1537
  interfaces := #[]
  cf := some (fileOf pool3 1 #[] #[] 1537 3 #[] #[])
  fields := #[]
  methods := #[]
  instanceTypes := #[]
  staticTypes := #[]
  resolved := Array.replicate 12 none
  statics := none }

def pool4 : Array CpInfo := pool [(1, .class_ 2), (0, u "java/io/Serializable"), (0, .class_ 4), (0, u "java/lang/Object")] 2

/-- java/io/Serializable -/
def k4 : Class := { plain "java/io/Serializable" (some 0) with
  accessFlags := 1537
  interfaces := #[]
  cf := some (fileOf pool4 1 #[] #[] 1537 3 #[] #[])
  fields := #[]
  methods := #[]
  instanceTypes := #[]
  staticTypes := #[]
  resolved := Array.replicate 7 none
  statics := none }

def pool5 : Array CpInfo := pool [(2, .class_ 4), (1, u "java/lang/Enum"), (0, u "name"), (0, u "Ljava/lang/String;"), (2, u "ordinal"), (0, u "I"), (1, .class_ 14), (1, u "java/lang/Object"), (4, u "hash"), (86, .class_ 108), (1, u "java/lang/Enum$EnumDesc"), (2, .class_ 112), (0, u "java/lang/constant/Constable"), (0, .class_ 114), (0, u "java/lang/Comparable"), (0, .class_ 116), (0, u "java/io/Serializable")] 87

/-- java/lang/Enum -/
def k5 : Class := { plain "java/lang/Enum" (some 0) with
  accessFlags := 1057
  interfaces := #[2, 3, 4]
  cf := some (fileOf pool5 2 #[.nestMembers #[106]] #[] 1057 12 #[111, 113, 115] #[{ accessFlags := 18, nameIndex := 5, descriptorIndex := 6, attributes := #[] }, { accessFlags := 18, nameIndex := 9, descriptorIndex := 10, attributes := #[] }, { accessFlags := 2, nameIndex := 19, descriptorIndex := 10, attributes := #[] }])
  fields := #[{ name := "name", type := (.object "java/lang/String"), accessFlags := 18, slot := 0, constantValue := 0 }, { name := "ordinal", type := .int, accessFlags := 18, slot := 1, constantValue := 0 }, { name := "hash", type := .int, accessFlags := 2, slot := 2, constantValue := 0 }]
  methods := #[]
  instanceTypes := #[(.object "java/lang/String"), .int, .int]
  staticTypes := #[]
  resolved := Array.replicate 204 none
  statics := none }

def pool6 : Array CpInfo := pool [(1, .class_ 2), (0, u "com/example/pathglass/pathglass/symbolic/InputType"), (2, u "BOOLEAN"), (0, u "Lcom/example/pathglass/pathglass/symbolic/InputType;"), (2, u "BYTE"), (2, u "CHAR"), (2, u "SHORT"), (2, u "INT"), (2, u "LONG"), (2, u "$VALUES"), (0, u "[Lcom/example/pathglass/pathglass/symbolic/InputType;"), (6, .class_ 34), (1, u "java/lang/Enum"), (0, u "valueOf"), (7, u "javaName"), (0, u "Ljava/lang/String;"), (2, u "descriptor"), (0, .fieldref 1 49), (0, .nameAndType 50 51), (0, u "bits"), (0, u "I"), (0, .fieldref 1 53), (0, .nameAndType 54 55), (0, u "signed"), (0, u "Z"), (11, u "(J)J")] 68

def k6c0 : Code := { maxStack := 6, maxLocals := 7, code := prog_31_method_9_code, exceptionTable := #[], attributes := #[] }
def k6m0 : Method := { name := "valueOf", desc := "(J)J", sig := { parameters := [.long], returnType := some .long }, accessFlags := 1, code := some k6c0 }
/-- com/example/pathglass/pathglass/symbolic/InputType -/
def k6 : Class := { plain "com/example/pathglass/pathglass/symbolic/InputType" (some 5) with
  accessFlags := 16433
  interfaces := #[]
  cf := some (fileOf pool6 1 #[] #[{ accessFlags := 1, nameIndex := 35, descriptorIndex := 67, attributes := #[] }] 16433 32 #[] #[{ accessFlags := 16409, nameIndex := 5, descriptorIndex := 6, attributes := #[] }, { accessFlags := 16409, nameIndex := 9, descriptorIndex := 6, attributes := #[] }, { accessFlags := 16409, nameIndex := 12, descriptorIndex := 6, attributes := #[] }, { accessFlags := 16409, nameIndex := 15, descriptorIndex := 6, attributes := #[] }, { accessFlags := 16409, nameIndex := 18, descriptorIndex := 6, attributes := #[] }, { accessFlags := 16409, nameIndex := 21, descriptorIndex := 6, attributes := #[] }, { accessFlags := 18, nameIndex := 43, descriptorIndex := 44, attributes := #[] }, { accessFlags := 18, nameIndex := 47, descriptorIndex := 44, attributes := #[] }, { accessFlags := 18, nameIndex := 50, descriptorIndex := 51, attributes := #[] }, { accessFlags := 18, nameIndex := 54, descriptorIndex := 55, attributes := #[] }, { accessFlags := 4122, nameIndex := 24, descriptorIndex := 25, attributes := #[] }])
  fields := #[{ name := "BOOLEAN", type := (.object "com/example/pathglass/pathglass/symbolic/InputType"), accessFlags := 16409, slot := 0, constantValue := 0 }, { name := "BYTE", type := (.object "com/example/pathglass/pathglass/symbolic/InputType"), accessFlags := 16409, slot := 1, constantValue := 0 }, { name := "CHAR", type := (.object "com/example/pathglass/pathglass/symbolic/InputType"), accessFlags := 16409, slot := 2, constantValue := 0 }, { name := "SHORT", type := (.object "com/example/pathglass/pathglass/symbolic/InputType"), accessFlags := 16409, slot := 3, constantValue := 0 }, { name := "INT", type := (.object "com/example/pathglass/pathglass/symbolic/InputType"), accessFlags := 16409, slot := 4, constantValue := 0 }, { name := "LONG", type := (.object "com/example/pathglass/pathglass/symbolic/InputType"), accessFlags := 16409, slot := 5, constantValue := 0 }, { name := "javaName", type := (.object "java/lang/String"), accessFlags := 18, slot := 3, constantValue := 0 }, { name := "descriptor", type := (.object "java/lang/String"), accessFlags := 18, slot := 4, constantValue := 0 }, { name := "bits", type := .int, accessFlags := 18, slot := 5, constantValue := 0 }, { name := "signed", type := .boolean, accessFlags := 18, slot := 6, constantValue := 0 }, { name := "$VALUES", type := (.array (.object "com/example/pathglass/pathglass/symbolic/InputType")), accessFlags := 4122, slot := 6, constantValue := 0 }]
  methods := #[k6m0]
  instanceTypes := #[(.object "java/lang/String"), .int, .int, (.object "java/lang/String"), (.object "java/lang/String"), .int, .boolean]
  staticTypes := #[(.object "com/example/pathglass/pathglass/symbolic/InputType"), (.object "com/example/pathglass/pathglass/symbolic/InputType"), (.object "com/example/pathglass/pathglass/symbolic/InputType"), (.object "com/example/pathglass/pathglass/symbolic/InputType"), (.object "com/example/pathglass/pathglass/symbolic/InputType"), (.object "com/example/pathglass/pathglass/symbolic/InputType"), (.array (.object "com/example/pathglass/pathglass/symbolic/InputType"))]
  resolved := Array.replicate 136 none
  statics := some 0 }

def pool7 : Array CpInfo := pool [(1, u "java/lang/Cloneable"), (0, .class_ 1), (0, u "java/lang/Object"), (0, .class_ 3)] 3

/-- java/lang/Cloneable -/
def k7 : Class := { plain "java/lang/Cloneable" (some 0) with
  accessFlags := 1537
  interfaces := #[]
  cf := some (fileOf pool7 2 #[] #[] 1537 4 #[] #[])
  fields := #[]
  methods := #[]
  instanceTypes := #[]
  staticTypes := #[]
  resolved := Array.replicate 8 none
  statics := none }

/-- the primitive byte -/
def k8 : Class := { plain "byte" none with kind := .primitive 'B', accessFlags := 0x411 }
/-- [B -/
def k9 : Class := { plain "[B" (some 0) with kind := .array 8 .byte, interfaces := #[7, 4], accessFlags := 1041 }

/-- the primitive int -/
def k10 : Class := { plain "int" none with kind := .primitive 'I', accessFlags := 0x411 }
/-- [I -/
def k11 : Class := { plain "[I" (some 0) with kind := .array 10 .int, interfaces := #[7, 4], accessFlags := 1041 }

def heap : Heap := #[{ cls := 6, slots := #[.ref 1, .ref 2, .ref 3, .ref 4, .ref 5, .ref 6, .null], vm := .statics 6 },
  { cls := 6, slots := #[.null, .int 0, .int 0, .null, .null, .int 1, .int 0], vm := .none },
  { cls := 6, slots := #[.null, .int 1, .int 0, .null, .null, .int 8, .int 1], vm := .none },
  { cls := 6, slots := #[.null, .int 2, .int 0, .null, .null, .int 16, .int 0], vm := .none },
  { cls := 6, slots := #[.null, .int 3, .int 0, .null, .null, .int 16, .int 1], vm := .none },
  { cls := 6, slots := #[.null, .int 4, .int 0, .null, .null, .int 32, .int 1], vm := .none },
  { cls := 6, slots := #[.null, .int 5, .int 0, .null, .null, .int 64, .int 1], vm := .none }]
def classes : Array Class := #[k0, k1, k2, k3, k4, k5, k6, k7, k8, k9, k10, k11]
def interned : List (Array UInt16 × Addr) := []
def slotsUsed : Nat := 49
def theMethod : MethodId := ⟨1, 1⟩
def args0 : Array Value := #[.int 5, .long 300]
def aboutOver (below : List Frame) : State where
  vm := { classes := classes, interned := interned.toArray }
  heap := heap
  slotsUsed := slotsUsed
  threads := #[{ frames := .invoking theMethod args0 :: below }]
def below0 : List Frame := [.native { method := ⟨0, 0⟩, args := #[] }]
def about1 : State := aboutOver below0
def p0 : Program := .bare "" "" ""
def e0 : Env := launch0.env 0 0 0
theorem w_frames : about1.frames = Frame.invoking theMethod args0 :: below0 := rfl
set_option maxRecDepth 65536 in
theorem w_args : argsFit about1.vm theMethod args0 = true := by decide +kernel
set_option maxRecDepth 65536 in
theorem w_heap : heapFits about1 = true := by decide +kernel
set_option maxRecDepth 65536 in
theorem w_runnable : about1.curStatus? = some .runnable := by decide +kernel
set_option maxRecDepth 65536 in
theorem w_alone : about1.alone = true := by decide +kernel
set_option maxRecDepth 65536 in
theorem w_named : about1.methodNamed? x = some theMethod := by decide +kernel
set_option maxRecDepth 65536 in
theorem w_hears : about1.hears theMethod below0 = true := by decide +kernel
set_option maxRecDepth 65536 in
theorem w_ripe : about1.ripe theMethod args0 below0 = true := by decide +kernel
theorem w_running : about1.status = .running := rfl
set_option maxRecDepth 65536 in
theorem w_room : about1.hasRoom e0.platform room_1 = true :=
  launch0.hasRoom_least _ room_1 (by decide +kernel) (by decide +kernel) (by decide +kernel) (by decide +kernel) (by decide +kernel) (by decide +kernel)
theorem allAtoms_all (ts : List Jvm.Cond) (a : Array Jvm.Value) (st : Jvm.State) : (allAtoms ts).before a st = ts.all (fun c => c.before a st) := by
  induction ts with
  | nil => rfl
  | cons c t ih =>
    show (Jvm.Cond.and c (allAtoms t)).before a st = _
    rw [Jvm.Cond.before_and, ih, List.all_cons]
def words1 : List Jvm.Cond := Jvm.Cond.code x code maxLocals ret :: tables_1
/-- a 'code' word, met by the world's own term for the bytes: nothing is compared byte by byte -/
theorem code_word {y : MethodName} {bytes : ByteArray} {mx : Nat} {rt : Option FieldType} {a : Array Value} {s : State} {m : MethodId} {meth : Method} {c : Code} (h1 : s.methodNamed? y = some m) (h2 : s.vm.method? m = some meth) (h3 : meth.code = some c) (h4 : c.code = bytes)
    (h5 : (c.maxLocals == mx && c.exceptionTable.isEmpty && decide (c.maxStack ≤ mostOperands) && decide (meth.sig.returnType = rt) && !meth.locks && decide (parseMethodDescriptor y.desc = some meth.sig)) = true) : (Jvm.Cond.code y bytes mx rt).before a s = true := by
  simp only [Bool.and_eq_true, beq_iff_eq, Bool.not_eq_true', decide_eq_true_eq] at h5
  obtain ⟨⟨⟨⟨⟨g1, g2⟩, g3⟩, g4⟩, g5⟩, g6⟩ := h5
  simp [Cond.before, Cond.holds, Cond.value, h1, h2, h3, h4, g1, g2, g3, g4, g5, g6]
def isCode : Jvm.Cond → Bool
  | .code _ _ _ _ => true
  | _ => false
theorem all_split {L : List Jvm.Cond} {P : Jvm.Cond → Bool} (h1 : L.all (fun c => isCode c || P c) = true) (h2 : ∀ c ∈ L.filter isCode, P c = true) : L.all P = true := by
  refine List.all_eq_true.mpr fun c hc => ?_
  have h := List.all_eq_true.mp h1 c hc
  rcases Bool.eq_false_or_eq_true (isCode c) with hi | hi
  · exact h2 c (List.mem_filter.mpr ⟨hc, hi⟩)
  · simpa [hi] using h
set_option maxRecDepth 65536 in
theorem w_c0 : (Jvm.Cond.code x code maxLocals ret).before args0 about1 = true := code_word (m := ⟨1, 1⟩) (meth := k1m1) (c := k1c1) (by decide +kernel) rfl rfl rfl (by decide +kernel)
set_option maxRecDepth 65536 in
theorem w_c1 : (Jvm.Cond.code ({ cls := "com/example/pathglass/pathglass/symbolic/InputType", name := "valueOf", desc := "(J)J" } : Jvm.MethodName) prog_31_method_9_code (7 : Nat) (Option.some Jvm.ClassFile.FieldType.long)).before args0 about1 = true := code_word (m := ⟨6, 0⟩) (meth := k6m0) (c := k6c0) (by decide +kernel) rfl rfl rfl (by decide +kernel)
def codes1 : List Jvm.Cond := [Jvm.Cond.code x code maxLocals ret, Jvm.Cond.code ({ cls := "com/example/pathglass/pathglass/symbolic/InputType", name := "valueOf", desc := "(J)J" } : Jvm.MethodName) prog_31_method_9_code (7 : Nat) (Option.some Jvm.ClassFile.FieldType.long)]
set_option maxRecDepth 65536 in
theorem codes_eq : words1.filter isCode = codes1 := rfl
theorem w_codes : ∀ c ∈ words1.filter isCode, c.before args0 about1 = true := by
  rw [codes_eq]
  intro c hc
  simp only [codes1, List.mem_cons, List.not_mem_nil, or_false] at hc
  rcases hc with rfl | rfl
  · exact w_c0
  · exact w_c1
set_option maxRecDepth 65536 in
theorem w_t1 : words1.all (fun c => isCode c || c.before args0 about1) = true := by decide +kernel
theorem w_tables : (allAtoms (Jvm.Cond.code x code maxLocals ret :: tables_1)).before args0 about1 = true := by
  rw [allAtoms_all]
  show words1.all (fun c => c.before args0 about1) = true
  refine all_split ?_ w_codes
  rw [w_t1]
set_option maxRecDepth 65536 in
theorem w_case : (Jvm.Cond.and given_1 narrow_1).before args0 about1 = true := by decide +kernel
theorem w_applies : (headSpec (Jvm.Cond.code x code maxLocals ret :: tables_1) room_1).applies x e0.platform about1 = true :=
  (Spec.applies_iff w_frames).mpr ⟨w_running, w_runnable, w_alone, w_named, w_hears, w_ripe, w_room, w_tables⟩
theorem atStart : AtStart classFile x code maxLocals ret World_1 tables_1 room_1 Calls_1 rest_1 Pre_1 launch0 p0 e0 about1 theMethod args0 below0 :=
  ⟨lists_1, trivial, launch0.admits_env _ _ _, launch0.least_env, fairChoices_fair.cas, fairChoices_fair.clock, w_frames, w_args, w_heap, w_applies, trivial, trivial, w_case⟩
end start1
theorem witness_1 : WitnessClaimed_1 := ⟨start1.p0, start1.e0, start1.about1, start1.theMethod, start1.args0, start1.below0, start1.atStart⟩
end Jvm.Pilot.@@N@@
