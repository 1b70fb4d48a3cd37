import JvmDerived
import JvmDerived.Pilot.@@N@@Statement
import JvmDerived.Pilot.@@N@@Code
set_option linter.unusedVariables false
set_option linter.unusedSimpArgs false
namespace Jvm.RoadKit
open Sem ClassFile Op Lib Jvm.Stand Jvm.Free Jvm.LawKit
section New
variable {p : Program} {l : Launch} {e : Env} {R : Room} {s : State} {m : MethodId} {args : Array Value} {below : List Frame} {meth : Method} {c : Code} {T : State} {locs : List Loc} {cells slots : Nat}
theorem retI (X : Stand p l e R s m args below meth c T locs cells slots) (hx : p.tables.exec = Jvm.exec) {pc : Nat} {Ls : Array Slot} {z : Int32} {rest : List Value} (hret : meth.sig.returnType = some .int) (hd : decode c.code pc = .ok (.ireturn, 1)) {fs : List Frame}
    (hl : ∀ (f : JFrame) (acts : List Action), f.method = m → f.locked = none → f.entered = [] → (doReturn e (T.setTop f) acts (some (.int z))).1 = T.setFrames fs) : Steps p.tables e below (T.setTop (mkF m pc Ls (.int z :: rest))) (T.setFrames fs) := by
  have hm' : T.vm.method? m = some meth := X.method'
  have hn : narrow .int (.int z) = .int z := rfl
  show Steps p.tables e below (T.setTop { method := m, pc := pc, locals := Ls, stack := _ :: rest, locked := none }) _
  jvm_step X.here [X.here.top, hx, hd, hm', hret, hn]
  first | (intro acts; rw [hl _ acts rfl rfl rfl]) | rw [hl _ _ rfl rfl rfl]
  exact Steps.refl _
end New
end Jvm.RoadKit
namespace Jvm.Pilot.@@N@@
open Jvm Jvm.ClassFile Sem Op Lib Jvm.Free Jvm.Stand Jvm.LawKit Jvm.RoadKit Bundle Jvm.Pilot.@@N@@.Jvm.D
def own_Q (r : Option Value) (h0 : Heap) (n0 : Nat) (v : Option Value) (h : Heap) (L : List Loc) : Prop := v = r ∧ Fr n0 L ∧ h = h0
theorem d1_0 : decode prog_8_method_3_code 0 = .ok (.aload_n 0, 1) := by decide +kernel
theorem d1_1 : decode prog_8_method_3_code 1 = .ok (.getstatic 37, 3) := by decide +kernel
theorem d1_4 : decode prog_8_method_3_code 4 = .ok (.if_acmp .ne 9, 3) := by decide +kernel
theorem d1_7 : decode prog_8_method_3_code 7 = .ok (.getstatic 43, 3) := by decide +kernel
theorem d1_10 : decode prog_8_method_3_code 10 = .ok (.goto 6, 3) := by decide +kernel
theorem d1_13 : decode prog_8_method_3_code 13 = .ok (.getstatic 46, 3) := by decide +kernel
theorem d1_16 : decode prog_8_method_3_code 16 = .ok (.areturn, 1) := by decide +kernel
theorem d2_0 : decode prog_8_method_6_code 0 = .ok (.aload_n 0, 1) := by decide +kernel
theorem d2_1 : decode prog_8_method_6_code 1 = .ok (.getfield 18, 3) := by decide +kernel
theorem d2_4 : decode prog_8_method_6_code 4 = .ok (.areturn, 1) := by decide +kernel
theorem d3_0 : decode prog_76_method_5_code 0 = .ok (.aload_n 0, 1) := by decide +kernel
theorem d3_1 : decode prog_76_method_5_code 1 = .ok (.getfield 33, 3) := by decide +kernel
theorem d3_4 : decode prog_76_method_5_code 4 = .ok (.areturn, 1) := by decide +kernel
theorem d4_0 : decode prog_8_method_7_code 0 = .ok (.aload_n 0, 1) := by decide +kernel
theorem d4_1 : decode prog_8_method_7_code 1 = .ok (.getfield 22, 3) := by decide +kernel
theorem d4_4 : decode prog_8_method_7_code 4 = .ok (.areturn, 1) := by decide +kernel
theorem d5_0 : decode prog_8_method_8_code 0 = .ok (.aconst_null, 1) := by decide +kernel
theorem d5_1 : decode prog_8_method_8_code 1 = .ok (.astore_n 1, 1) := by decide +kernel
theorem d5_2 : decode prog_8_method_8_code 2 = .ok (.aload_n 0, 1) := by decide +kernel
theorem d5_3 : decode prog_8_method_8_code 3 = .ok (.getfield 18, 3) := by decide +kernel
theorem d5_6 : decode prog_8_method_8_code 6 = .ok (.getstatic 59, 3) := by decide +kernel
theorem d5_9 : decode prog_8_method_8_code 9 = .ok (.if_acmp .ne 10, 3) := by decide +kernel
theorem d5_12 : decode prog_8_method_8_code 12 = .ok (.getstatic 37, 3) := by decide +kernel
theorem d5_15 : decode prog_8_method_8_code 15 = .ok (.astore_n 1, 1) := by decide +kernel
theorem d5_16 : decode prog_8_method_8_code 16 = .ok (.goto 17, 3) := by decide +kernel
theorem d5_19 : decode prog_8_method_8_code 19 = .ok (.aload_n 0, 1) := by decide +kernel
theorem d5_20 : decode prog_8_method_8_code 20 = .ok (.getfield 18, 3) := by decide +kernel
theorem d5_23 : decode prog_8_method_8_code 23 = .ok (.getstatic 61, 3) := by decide +kernel
theorem d5_26 : decode prog_8_method_8_code 26 = .ok (.if_acmp .ne 7, 3) := by decide +kernel
theorem d5_29 : decode prog_8_method_8_code 29 = .ok (.getstatic 54, 3) := by decide +kernel
theorem d5_32 : decode prog_8_method_8_code 32 = .ok (.astore_n 1, 1) := by decide +kernel
theorem d5_33 : decode prog_8_method_8_code 33 = .ok (.aload_n 1, 1) := by decide +kernel
theorem d5_34 : decode prog_8_method_8_code 34 = .ok (.areturn, 1) := by decide +kernel
theorem d7_0 : decode prog_8_method_9_code 0 = .ok (.aload_n 0, 1) := by decide +kernel
theorem d7_1 : decode prog_8_method_9_code 1 = .ok (.getfield 33, 3) := by decide +kernel
theorem d7_4 : decode prog_8_method_9_code 4 = .ok (.areturn, 1) := by decide +kernel
theorem d8_0 : decode jdk_45_method_3_code 0 = .ok (.aload_n 0, 1) := by decide +kernel
theorem d8_1 : decode jdk_45_method_3_code 1 = .ok (.getfield 7, 3) := by decide +kernel
theorem d8_4 : decode jdk_45_method_3_code 4 = .ok (.arraylength, 1) := by decide +kernel
theorem d8_5 : decode jdk_45_method_3_code 5 = .ok (.ireturn, 1) := by decide +kernel
theorem ef_1 (m : MethodId) (x0 : Addr) : entryFrame m #[(.ref x0)] 1 = mkF m 0 #[.val (.ref x0)] [] := by first | (simp [entryFrame, mkF, argsToLocals, Value.category]; done) | rfl
theorem ef_2 (m : MethodId) (x0 : Addr) : entryFrame m #[(.ref x0)] 1 = mkF m 0 #[.val (.ref x0)] [] := by first | (simp [entryFrame, mkF, argsToLocals, Value.category]; done) | rfl
theorem ef_3 (m : MethodId) (x0 : Addr) : entryFrame m #[(.ref x0)] 1 = mkF m 0 #[.val (.ref x0)] [] := by first | (simp [entryFrame, mkF, argsToLocals, Value.category]; done) | rfl
theorem ef_4 (m : MethodId) (x0 : Addr) : entryFrame m #[(.ref x0)] 1 = mkF m 0 #[.val (.ref x0)] [] := by first | (simp [entryFrame, mkF, argsToLocals, Value.category]; done) | rfl
theorem ef_5 (m : MethodId) (x0 : Addr) : entryFrame m #[(.ref x0)] 2 = mkF m 0 #[.val (.ref x0), .unset] [] := by first | (simp [entryFrame, mkF, argsToLocals, Value.category]; done) | rfl
theorem ef_7 (m : MethodId) (x0 : Addr) : entryFrame m #[(.ref x0)] 1 = mkF m 0 #[.val (.ref x0)] [] := by first | (simp [entryFrame, mkF, argsToLocals, Value.category]; done) | rfl
theorem ef_8 (m : MethodId) (x0 : Addr) : entryFrame m #[(.ref x0)] 1 = mkF m 0 #[.val (.ref x0)] [] := by first | (simp [entryFrame, mkF, argsToLocals, Value.category]; done) | rfl
theorem pn_1 : plainName "com/example/attributary/attributary/engine/Outcome" = true := by first | (simp [plainName, overriddenIn]; done) | decide +kernel
theorem pn_2 : plainName "com/example/attributary/attributary/engine/Outcome" = true := by first | (simp [plainName, overriddenIn]; done) | decide +kernel
theorem pn_3 : plainName "com/example/attributary/attributary/model/Effect" = true := by first | (simp [plainName, overriddenIn]; done) | decide +kernel
theorem pn_4 : plainName "com/example/attributary/attributary/engine/Outcome" = true := by first | (simp [plainName, overriddenIn]; done) | decide +kernel
theorem pn_5 : plainName "com/example/attributary/attributary/engine/Outcome" = true := by first | (simp [plainName, overriddenIn]; done) | decide +kernel
theorem pn_7 : plainName "com/example/attributary/attributary/engine/Outcome" = true := by first | (simp [plainName, overriddenIn]; done) | decide +kernel
theorem pn_8 : plainName "java/util/ImmutableCollections$ListN" = true := by first | (simp [plainName, overriddenIn]; done) | decide +kernel
set_option maxRecDepth 65536 in
set_option maxHeartbeats 40000000 in
theorem own_rm1_f (l : Launch) (Z : State) (a0 : Array Value) (hw : ∀ d ∈ tables_1, d.before a0 Z = true) (ws : List Jvm.Cond) (a1 : Addr) (w2 : Addr) (w4 : Addr) (h0 : Heap) (n0 : Nat) (Z0 : n0 ≤ h0.size) (S_Effect_PERMIT : Sta Z h0 "com/example/attributary/attributary/model/Effect" "PERMIT" "Lcom/example/attributary/attributary/model/Effect;" (.ref w2)) (S_Outcome_PERMIT : Sta Z h0 "com/example/attributary/attributary/engine/Outcome" "PERMIT" "Lcom/example/attributary/attributary/engine/Outcome;" (.ref w4)) (ha4 : a1 = w2) :
    MetFree l (⟨"com/example/attributary/attributary/engine/Outcome", "of", "(Lcom/example/attributary/attributary/model/Effect;)Lcom/example/attributary/attributary/engine/Outcome;"⟩ : MethodName) (head1 (Jvm.Cond.code (⟨"com/example/attributary/attributary/engine/Outcome", "of", "(Lcom/example/attributary/attributary/model/Effect;)Lcom/example/attributary/attributary/engine/Outcome;"⟩ : MethodName) prog_8_method_3_code 1 (some (.object "com/example/attributary/attributary/engine/Outcome")) :: ws) ({ frames := 0, cells := 0, slots := 0, locals := 0 } : Room)) (fun a U => a = #[(.ref a1)] ∧ Z.Warmed39 U.vm ∧ U.heap = h0) (fun _ _ _ _ _ => True) (fun _ U o U' => ∃ v L, o = .returned v ∧ own_Q (some (.ref w4)) h0 n0 v U'.heap L ∧ FrameEnd U o U' L ({ frames := 0, cells := 0, slots := 0, locals := 0 } : Room).cells ({ frames := 0, cells := 0, slots := 0, locals := 0 } : Room).slots) := by
  refine MetFree.of_bodySF (plainFor_of_name pn_1) hisR ?_
  intro p e s m args below meth c s₁ Bd hml0 hP hK
  obtain ⟨rfl, hZ, hh⟩ := hP
  have hx := Bd.exec
  have hby := Bd.bytes
  have hml : c.maxLocals = 1 := hml0
  have hown : s.vm.findClass "com/example/attributary/attributary/engine/Outcome" = some m.cls := findClass_of_methodNamed Bd.named
  have hnm := (name_of_methodNamed Bd.named Bd.method).1
  have X0 : Stand p l e ({ frames := 0, cells := 0, slots := 0, locals := 0 } : Room) s m #[(.ref a1)] below meth c s₁ [] 0 0 := Stand.of_body Bd
  have e0 : s₁.heap = h0 := by rw [← hh, Bd.state]; rfl
  have N0 := Fr.nil n0
  have pre0 : ∀ t, Steps p.tables e below (s₁.setTop (mkF m 0 #[.val (.ref a1)] [])) t → Steps p.tables e below (s₁.setTop (entryFrame m #[(.ref a1)] 1)) t := fun t k => castTop (ef_1 m a1) k
  obtain ⟨T3, X3, e3, st3⟩ := getS2 X0 hx hZ hown (host := "") (Or.inl (hw _ (List.mem_of_getElem? (i := 9) rfl))) Via.refl e0 S_Effect_PERMIT (g := (mkF m 1 #[.val (.ref a1)] [(.ref a1)])) rfl (hb hby d1_1)
  obtain ⟨T5, X5, e5, st5⟩ := getS2 X3 hx hZ hown (host := "") (Or.inl (hw _ (List.mem_of_getElem? (i := 76) rfl))) Via.refl e3 S_Outcome_PERMIT (g := (mkF m 7 #[.val (.ref a1)] [])) rfl (hb hby d1_7)
  obtain ⟨fs, hr, hrun, hended, hW, hsame⟩ := X5.leave (v := some (.ref w4)) (fun h => by rw [Bd.returns] at h; cases h)
  refine ⟨_, _, pre0 _ ?_, hrun, hended, _, _, rfl, ?_, ⟨_, rfl⟩, hW, hsame.mono (by decide) (by decide)⟩
  · show Steps p.tables e below (s₁.setTop (mkF m 0 #[.val (.ref a1)] [])) _
    refine XS.aloadN X0.here hx rfl (hb hby d1_0) rfl rfl ?_
    show Steps p.tables e below (s₁.setTop (mkF m 1 #[.val (.ref a1)] [(.ref a1)])) _
    refine st3 _ ?_
    show Steps p.tables e below (T3.setTop (mkF m 4 #[.val (.ref a1)] [(.ref w2), (.ref a1)])) _
    refine Jvm.RoadKit.acmp (g := (mkF m 4 #[.val (.ref a1)] [(.ref w2), (.ref a1)])) X3 hx rfl rfl rfl (pc0 := 4) (pc' := 7) (same := true) rfl (hb hby d1_4) rfl (decide_eq_true (congrArg Value.ref ha4)) (by decide) (by decide) ?_
    show Steps p.tables e below (T3.setTop (mkF m 7 #[.val (.ref a1)] [])) _
    refine st5 _ ?_
    show Steps p.tables e below (T5.setTop (mkF m 10 #[.val (.ref a1)] [(.ref w4)])) _
    refine XS.goto X5.here hx rfl (pc0 := 10) (pc' := 16) rfl (hb hby d1_10) (by decide) (by decide) ?_
    show Steps p.tables e below (T5.setTop (mkF m 16 #[.val (.ref a1)] [(.ref w4)])) _
    jvm_step X5.here [X5.here.top, hx, (hb hby d1_16), X5.method', Bd.returns, Value.isRef, FieldType.isReference]
    first | (intro acts; rw [hr _ acts rfl rfl rfl]) | rw [hr _ _ rfl rfl rfl]
    exact Steps.refl _
  · show own_Q (some (.ref w4)) h0 n0 _ T5.heap _
    rw [e5]
    exact ⟨rfl, N0, rfl⟩
set_option maxRecDepth 65536 in
set_option maxHeartbeats 40000000 in
theorem own_rm1_t (l : Launch) (Z : State) (a0 : Array Value) (hw : ∀ d ∈ tables_1, d.before a0 Z = true) (ws : List Jvm.Cond) (a1 : Addr) (w2 : Addr) (w4 : Addr) (h0 : Heap) (n0 : Nat) (Z0 : n0 ≤ h0.size) (S_Effect_PERMIT : Sta Z h0 "com/example/attributary/attributary/model/Effect" "PERMIT" "Lcom/example/attributary/attributary/model/Effect;" (.ref w2)) (S_Outcome_DENY : Sta Z h0 "com/example/attributary/attributary/engine/Outcome" "DENY" "Lcom/example/attributary/attributary/engine/Outcome;" (.ref w4)) (ha4 : ¬ (a1 = w2)) :
    MetFree l (⟨"com/example/attributary/attributary/engine/Outcome", "of", "(Lcom/example/attributary/attributary/model/Effect;)Lcom/example/attributary/attributary/engine/Outcome;"⟩ : MethodName) (head1 (Jvm.Cond.code (⟨"com/example/attributary/attributary/engine/Outcome", "of", "(Lcom/example/attributary/attributary/model/Effect;)Lcom/example/attributary/attributary/engine/Outcome;"⟩ : MethodName) prog_8_method_3_code 1 (some (.object "com/example/attributary/attributary/engine/Outcome")) :: ws) ({ frames := 0, cells := 0, slots := 0, locals := 0 } : Room)) (fun a U => a = #[(.ref a1)] ∧ Z.Warmed39 U.vm ∧ U.heap = h0) (fun _ _ _ _ _ => True) (fun _ U o U' => ∃ v L, o = .returned v ∧ own_Q (some (.ref w4)) h0 n0 v U'.heap L ∧ FrameEnd U o U' L ({ frames := 0, cells := 0, slots := 0, locals := 0 } : Room).cells ({ frames := 0, cells := 0, slots := 0, locals := 0 } : Room).slots) := by
  refine MetFree.of_bodySF (plainFor_of_name pn_1) hisR ?_
  intro p e s m args below meth c s₁ Bd hml0 hP hK
  obtain ⟨rfl, hZ, hh⟩ := hP
  have hx := Bd.exec
  have hby := Bd.bytes
  have hml : c.maxLocals = 1 := hml0
  have hown : s.vm.findClass "com/example/attributary/attributary/engine/Outcome" = some m.cls := findClass_of_methodNamed Bd.named
  have hnm := (name_of_methodNamed Bd.named Bd.method).1
  have X0 : Stand p l e ({ frames := 0, cells := 0, slots := 0, locals := 0 } : Room) s m #[(.ref a1)] below meth c s₁ [] 0 0 := Stand.of_body Bd
  have e0 : s₁.heap = h0 := by rw [← hh, Bd.state]; rfl
  have N0 := Fr.nil n0
  have pre0 : ∀ t, Steps p.tables e below (s₁.setTop (mkF m 0 #[.val (.ref a1)] [])) t → Steps p.tables e below (s₁.setTop (entryFrame m #[(.ref a1)] 1)) t := fun t k => castTop (ef_1 m a1) k
  obtain ⟨T3, X3, e3, st3⟩ := getS2 X0 hx hZ hown (host := "") (Or.inl (hw _ (List.mem_of_getElem? (i := 9) rfl))) Via.refl e0 S_Effect_PERMIT (g := (mkF m 1 #[.val (.ref a1)] [(.ref a1)])) rfl (hb hby d1_1)
  obtain ⟨T5, X5, e5, st5⟩ := getS2 X3 hx hZ hown (host := "") (Or.inl (hw _ (List.mem_of_getElem? (i := 10) rfl))) Via.refl e3 S_Outcome_DENY (g := (mkF m 13 #[.val (.ref a1)] [])) rfl (hb hby d1_13)
  obtain ⟨fs, hr, hrun, hended, hW, hsame⟩ := X5.leave (v := some (.ref w4)) (fun h => by rw [Bd.returns] at h; cases h)
  refine ⟨_, _, pre0 _ ?_, hrun, hended, _, _, rfl, ?_, ⟨_, rfl⟩, hW, hsame.mono (by decide) (by decide)⟩
  · show Steps p.tables e below (s₁.setTop (mkF m 0 #[.val (.ref a1)] [])) _
    refine XS.aloadN X0.here hx rfl (hb hby d1_0) rfl rfl ?_
    show Steps p.tables e below (s₁.setTop (mkF m 1 #[.val (.ref a1)] [(.ref a1)])) _
    refine st3 _ ?_
    show Steps p.tables e below (T3.setTop (mkF m 4 #[.val (.ref a1)] [(.ref w2), (.ref a1)])) _
    refine Jvm.RoadKit.acmp (g := (mkF m 4 #[.val (.ref a1)] [(.ref w2), (.ref a1)])) X3 hx rfl rfl rfl (pc0 := 4) (pc' := 13) (same := false) rfl (hb hby d1_4) rfl (decide_eq_false fun q => ha4 (Value.ref.inj q)) (by decide) (by decide) ?_
    show Steps p.tables e below (T3.setTop (mkF m 13 #[.val (.ref a1)] [])) _
    refine st5 _ ?_
    show Steps p.tables e below (T5.setTop (mkF m 16 #[.val (.ref a1)] [(.ref w4)])) _
    jvm_step X5.here [X5.here.top, hx, (hb hby d1_16), X5.method', Bd.returns, Value.isRef, FieldType.isReference]
    first | (intro acts; rw [hr _ acts rfl rfl rfl]) | rw [hr _ _ rfl rfl rfl]
    exact Steps.refl _
  · show own_Q (some (.ref w4)) h0 n0 _ T5.heap _
    rw [e5]
    exact ⟨rfl, N0, rfl⟩
set_option maxRecDepth 65536 in
set_option maxHeartbeats 40000000 in
theorem own_rm2 (l : Launch) (Z : State) (a0 : Array Value) (hw : ∀ d ∈ tables_1, d.before a0 Z = true) (ws : List Jvm.Cond) (a1 : Addr) (w2 : Addr) (h0 : Heap) (n0 : Nat) (Z0 : n0 ≤ h0.size) (F_decision_a1 : Fld Z h0 a1 "com/example/attributary/attributary/engine/Outcome" "decision" "Lcom/example/attributary/attributary/model/Decision;" (.ref w2)) :
    MetFree l (⟨"com/example/attributary/attributary/engine/Outcome", "getDecision", "()Lcom/example/attributary/attributary/model/Decision;"⟩ : MethodName) (head1 (Jvm.Cond.code (⟨"com/example/attributary/attributary/engine/Outcome", "getDecision", "()Lcom/example/attributary/attributary/model/Decision;"⟩ : MethodName) prog_8_method_6_code 1 (some (.object "com/example/attributary/attributary/model/Decision")) :: ws) ({ frames := 0, cells := 0, slots := 0, locals := 0 } : Room)) (fun a U => a = #[(.ref a1)] ∧ Z.Warmed39 U.vm ∧ U.heap = h0) (fun _ _ _ _ _ => True) (fun _ U o U' => ∃ v L, o = .returned v ∧ own_Q (some (.ref w2)) h0 n0 v U'.heap L ∧ FrameEnd U o U' L ({ frames := 0, cells := 0, slots := 0, locals := 0 } : Room).cells ({ frames := 0, cells := 0, slots := 0, locals := 0 } : Room).slots) := by
  refine MetFree.of_bodySF (plainFor_of_name pn_2) hisR ?_
  intro p e s m args below meth c s₁ Bd hml0 hP hK
  obtain ⟨rfl, hZ, hh⟩ := hP
  have hx := Bd.exec
  have hby := Bd.bytes
  have hml : c.maxLocals = 1 := hml0
  have hown : s.vm.findClass "com/example/attributary/attributary/engine/Outcome" = some m.cls := findClass_of_methodNamed Bd.named
  have hnm := (name_of_methodNamed Bd.named Bd.method).1
  have X0 : Stand p l e ({ frames := 0, cells := 0, slots := 0, locals := 0 } : Room) s m #[(.ref a1)] below meth c s₁ [] 0 0 := Stand.of_body Bd
  have e0 : s₁.heap = h0 := by rw [← hh, Bd.state]; rfl
  have N0 := Fr.nil n0
  have pre0 : ∀ t, Steps p.tables e below (s₁.setTop (mkF m 0 #[.val (.ref a1)] [])) t → Steps p.tables e below (s₁.setTop (entryFrame m #[(.ref a1)] 1)) t := fun t k => castTop (ef_2 m a1) k
  obtain ⟨T3, X3, e3, st3⟩ := getF X0 hx hZ hown (host := "") (Or.inl (hw _ (List.mem_of_getElem? (i := 17) rfl))) Via.refl e0 F_decision_a1 (g := (mkF m 1 #[.val (.ref a1)] [(.ref a1)])) rfl rfl (hb hby d2_1)
  obtain ⟨fs, hr, hrun, hended, hW, hsame⟩ := X3.leave (v := some (.ref w2)) (fun h => by rw [Bd.returns] at h; cases h)
  refine ⟨_, _, pre0 _ ?_, hrun, hended, _, _, rfl, ?_, ⟨_, rfl⟩, hW, hsame.mono (by decide) (by decide)⟩
  · show Steps p.tables e below (s₁.setTop (mkF m 0 #[.val (.ref a1)] [])) _
    refine XS.aloadN X0.here hx rfl (hb hby d2_0) rfl rfl ?_
    show Steps p.tables e below (s₁.setTop (mkF m 1 #[.val (.ref a1)] [(.ref a1)])) _
    refine st3 _ ?_
    show Steps p.tables e below (T3.setTop (mkF m 4 #[.val (.ref a1)] [(.ref w2)])) _
    jvm_step X3.here [X3.here.top, hx, (hb hby d2_4), X3.method', Bd.returns, Value.isRef, FieldType.isReference]
    first | (intro acts; rw [hr _ acts rfl rfl rfl]) | rw [hr _ _ rfl rfl rfl]
    exact Steps.refl _
  · show own_Q (some (.ref w2)) h0 n0 _ T3.heap _
    rw [e3]
    exact ⟨rfl, N0, rfl⟩
set_option maxRecDepth 65536 in
set_option maxHeartbeats 40000000 in
theorem own_rm3 (l : Launch) (Z : State) (a0 : Array Value) (hw : ∀ d ∈ tables_1, d.before a0 Z = true) (ws : List Jvm.Cond) (a1 : Addr) (w2 : Addr) (h0 : Heap) (n0 : Nat) (Z0 : n0 ≤ h0.size) (F_decision_a1 : Fld Z h0 a1 "com/example/attributary/attributary/model/Effect" "decision" "Lcom/example/attributary/attributary/model/Decision;" (.ref w2)) :
    MetFree l (⟨"com/example/attributary/attributary/model/Effect", "getDecision", "()Lcom/example/attributary/attributary/model/Decision;"⟩ : MethodName) (head1 (Jvm.Cond.code (⟨"com/example/attributary/attributary/model/Effect", "getDecision", "()Lcom/example/attributary/attributary/model/Decision;"⟩ : MethodName) prog_76_method_5_code 1 (some (.object "com/example/attributary/attributary/model/Decision")) :: ws) ({ frames := 0, cells := 0, slots := 0, locals := 0 } : Room)) (fun a U => a = #[(.ref a1)] ∧ Z.Warmed39 U.vm ∧ U.heap = h0) (fun _ _ _ _ _ => True) (fun _ U o U' => ∃ v L, o = .returned v ∧ own_Q (some (.ref w2)) h0 n0 v U'.heap L ∧ FrameEnd U o U' L ({ frames := 0, cells := 0, slots := 0, locals := 0 } : Room).cells ({ frames := 0, cells := 0, slots := 0, locals := 0 } : Room).slots) := by
  refine MetFree.of_bodySF (plainFor_of_name pn_3) hisR ?_
  intro p e s m args below meth c s₁ Bd hml0 hP hK
  obtain ⟨rfl, hZ, hh⟩ := hP
  have hx := Bd.exec
  have hby := Bd.bytes
  have hml : c.maxLocals = 1 := hml0
  have hown : s.vm.findClass "com/example/attributary/attributary/model/Effect" = some m.cls := findClass_of_methodNamed Bd.named
  have hnm := (name_of_methodNamed Bd.named Bd.method).1
  have X0 : Stand p l e ({ frames := 0, cells := 0, slots := 0, locals := 0 } : Room) s m #[(.ref a1)] below meth c s₁ [] 0 0 := Stand.of_body Bd
  have e0 : s₁.heap = h0 := by rw [← hh, Bd.state]; rfl
  have N0 := Fr.nil n0
  have pre0 : ∀ t, Steps p.tables e below (s₁.setTop (mkF m 0 #[.val (.ref a1)] [])) t → Steps p.tables e below (s₁.setTop (entryFrame m #[(.ref a1)] 1)) t := fun t k => castTop (ef_3 m a1) k
  obtain ⟨T3, X3, e3, st3⟩ := getF X0 hx hZ hown (host := "") (Or.inl (hw _ (List.mem_of_getElem? (i := 26) rfl))) Via.refl e0 F_decision_a1 (g := (mkF m 1 #[.val (.ref a1)] [(.ref a1)])) rfl rfl (hb hby d3_1)
  obtain ⟨fs, hr, hrun, hended, hW, hsame⟩ := X3.leave (v := some (.ref w2)) (fun h => by rw [Bd.returns] at h; cases h)
  refine ⟨_, _, pre0 _ ?_, hrun, hended, _, _, rfl, ?_, ⟨_, rfl⟩, hW, hsame.mono (by decide) (by decide)⟩
  · show Steps p.tables e below (s₁.setTop (mkF m 0 #[.val (.ref a1)] [])) _
    refine XS.aloadN X0.here hx rfl (hb hby d3_0) rfl rfl ?_
    show Steps p.tables e below (s₁.setTop (mkF m 1 #[.val (.ref a1)] [(.ref a1)])) _
    refine st3 _ ?_
    show Steps p.tables e below (T3.setTop (mkF m 4 #[.val (.ref a1)] [(.ref w2)])) _
    jvm_step X3.here [X3.here.top, hx, (hb hby d3_4), X3.method', Bd.returns, Value.isRef, FieldType.isReference]
    first | (intro acts; rw [hr _ acts rfl rfl rfl]) | rw [hr _ _ rfl rfl rfl]
    exact Steps.refl _
  · show own_Q (some (.ref w2)) h0 n0 _ T3.heap _
    rw [e3]
    exact ⟨rfl, N0, rfl⟩
set_option maxRecDepth 65536 in
set_option maxHeartbeats 40000000 in
theorem own_rm4 (l : Launch) (Z : State) (a0 : Array Value) (hw : ∀ d ∈ tables_1, d.before a0 Z = true) (ws : List Jvm.Cond) (a1 : Addr) (w2 : Addr) (h0 : Heap) (n0 : Nat) (Z0 : n0 ≤ h0.size) (F_status_a1 : Fld Z h0 a1 "com/example/attributary/attributary/engine/Outcome" "status" "Lcom/example/attributary/attributary/model/StatusCode;" (.ref w2)) :
    MetFree l (⟨"com/example/attributary/attributary/engine/Outcome", "getStatus", "()Lcom/example/attributary/attributary/model/StatusCode;"⟩ : MethodName) (head1 (Jvm.Cond.code (⟨"com/example/attributary/attributary/engine/Outcome", "getStatus", "()Lcom/example/attributary/attributary/model/StatusCode;"⟩ : MethodName) prog_8_method_7_code 1 (some (.object "com/example/attributary/attributary/model/StatusCode")) :: ws) ({ frames := 0, cells := 0, slots := 0, locals := 0 } : Room)) (fun a U => a = #[(.ref a1)] ∧ Z.Warmed39 U.vm ∧ U.heap = h0) (fun _ _ _ _ _ => True) (fun _ U o U' => ∃ v L, o = .returned v ∧ own_Q (some (.ref w2)) h0 n0 v U'.heap L ∧ FrameEnd U o U' L ({ frames := 0, cells := 0, slots := 0, locals := 0 } : Room).cells ({ frames := 0, cells := 0, slots := 0, locals := 0 } : Room).slots) := by
  refine MetFree.of_bodySF (plainFor_of_name pn_4) hisR ?_
  intro p e s m args below meth c s₁ Bd hml0 hP hK
  obtain ⟨rfl, hZ, hh⟩ := hP
  have hx := Bd.exec
  have hby := Bd.bytes
  have hml : c.maxLocals = 1 := hml0
  have hown : s.vm.findClass "com/example/attributary/attributary/engine/Outcome" = some m.cls := findClass_of_methodNamed Bd.named
  have hnm := (name_of_methodNamed Bd.named Bd.method).1
  have X0 : Stand p l e ({ frames := 0, cells := 0, slots := 0, locals := 0 } : Room) s m #[(.ref a1)] below meth c s₁ [] 0 0 := Stand.of_body Bd
  have e0 : s₁.heap = h0 := by rw [← hh, Bd.state]; rfl
  have N0 := Fr.nil n0
  have pre0 : ∀ t, Steps p.tables e below (s₁.setTop (mkF m 0 #[.val (.ref a1)] [])) t → Steps p.tables e below (s₁.setTop (entryFrame m #[(.ref a1)] 1)) t := fun t k => castTop (ef_4 m a1) k
  obtain ⟨T3, X3, e3, st3⟩ := getF X0 hx hZ hown (host := "") (Or.inl (hw _ (List.mem_of_getElem? (i := 33) rfl))) Via.refl e0 F_status_a1 (g := (mkF m 1 #[.val (.ref a1)] [(.ref a1)])) rfl rfl (hb hby d4_1)
  obtain ⟨fs, hr, hrun, hended, hW, hsame⟩ := X3.leave (v := some (.ref w2)) (fun h => by rw [Bd.returns] at h; cases h)
  refine ⟨_, _, pre0 _ ?_, hrun, hended, _, _, rfl, ?_, ⟨_, rfl⟩, hW, hsame.mono (by decide) (by decide)⟩
  · show Steps p.tables e below (s₁.setTop (mkF m 0 #[.val (.ref a1)] [])) _
    refine XS.aloadN X0.here hx rfl (hb hby d4_0) rfl rfl ?_
    show Steps p.tables e below (s₁.setTop (mkF m 1 #[.val (.ref a1)] [(.ref a1)])) _
    refine st3 _ ?_
    show Steps p.tables e below (T3.setTop (mkF m 4 #[.val (.ref a1)] [(.ref w2)])) _
    jvm_step X3.here [X3.here.top, hx, (hb hby d4_4), X3.method', Bd.returns, Value.isRef, FieldType.isReference]
    first | (intro acts; rw [hr _ acts rfl rfl rfl]) | rw [hr _ _ rfl rfl rfl]
    exact Steps.refl _
  · show own_Q (some (.ref w2)) h0 n0 _ T3.heap _
    rw [e3]
    exact ⟨rfl, N0, rfl⟩
set_option maxRecDepth 65536 in
set_option maxHeartbeats 40000000 in
theorem own_rm5_f (l : Launch) (Z : State) (a0 : Array Value) (hw : ∀ d ∈ tables_1, d.before a0 Z = true) (ws : List Jvm.Cond) (a1 : Addr) (w2 : Addr) (w4 : Addr) (w6 : Addr) (h0 : Heap) (n0 : Nat) (Z0 : n0 ≤ h0.size) (F_decision_a1 : Fld Z h0 a1 "com/example/attributary/attributary/engine/Outcome" "decision" "Lcom/example/attributary/attributary/model/Decision;" (.ref w2)) (S_Decision_PERMIT : Sta Z h0 "com/example/attributary/attributary/model/Decision" "PERMIT" "Lcom/example/attributary/attributary/model/Decision;" (.ref w4)) (S_Effect_PERMIT : Sta Z h0 "com/example/attributary/attributary/model/Effect" "PERMIT" "Lcom/example/attributary/attributary/model/Effect;" (.ref w6)) (ha9 : w2 = w4) :
    MetFree l (⟨"com/example/attributary/attributary/engine/Outcome", "getEffect", "()Lcom/example/attributary/attributary/model/Effect;"⟩ : MethodName) (head1 (Jvm.Cond.code (⟨"com/example/attributary/attributary/engine/Outcome", "getEffect", "()Lcom/example/attributary/attributary/model/Effect;"⟩ : MethodName) prog_8_method_8_code 2 (some (.object "com/example/attributary/attributary/model/Effect")) :: ws) ({ frames := 0, cells := 0, slots := 0, locals := 0 } : Room)) (fun a U => a = #[(.ref a1)] ∧ Z.Warmed39 U.vm ∧ U.heap = h0) (fun _ _ _ _ _ => True) (fun _ U o U' => ∃ v L, o = .returned v ∧ own_Q (some (.ref w6)) h0 n0 v U'.heap L ∧ FrameEnd U o U' L ({ frames := 0, cells := 0, slots := 0, locals := 0 } : Room).cells ({ frames := 0, cells := 0, slots := 0, locals := 0 } : Room).slots) := by
  refine MetFree.of_bodySF (plainFor_of_name pn_5) hisR ?_
  intro p e s m args below meth c s₁ Bd hml0 hP hK
  obtain ⟨rfl, hZ, hh⟩ := hP
  have hx := Bd.exec
  have hby := Bd.bytes
  have hml : c.maxLocals = 2 := hml0
  have hown : s.vm.findClass "com/example/attributary/attributary/engine/Outcome" = some m.cls := findClass_of_methodNamed Bd.named
  have hnm := (name_of_methodNamed Bd.named Bd.method).1
  have X0 : Stand p l e ({ frames := 0, cells := 0, slots := 0, locals := 0 } : Room) s m #[(.ref a1)] below meth c s₁ [] 0 0 := Stand.of_body Bd
  have e0 : s₁.heap = h0 := by rw [← hh, Bd.state]; rfl
  have N0 := Fr.nil n0
  have pre0 : ∀ t, Steps p.tables e below (s₁.setTop (mkF m 0 #[.val (.ref a1), .unset] [])) t → Steps p.tables e below (s₁.setTop (entryFrame m #[(.ref a1)] 2)) t := fun t k => castTop (ef_5 m a1) k
  obtain ⟨T3, X3, e3, st3⟩ := getF X0 hx hZ hown (host := "") (Or.inl (hw _ (List.mem_of_getElem? (i := 17) rfl))) Via.refl e0 F_decision_a1 (g := (mkF m 3 #[.val (.ref a1), .val .null] [(.ref a1)])) rfl rfl (hb hby d5_3)
  obtain ⟨T5, X5, e5, st5⟩ := getS2 X3 hx hZ hown (host := "") (Or.inl (hw _ (List.mem_of_getElem? (i := 43) rfl))) Via.refl e3 S_Decision_PERMIT (g := (mkF m 6 #[.val (.ref a1), .val .null] [(.ref w2)])) rfl (hb hby d5_6)
  obtain ⟨T7, X7, e7, st7⟩ := getS2 X5 hx hZ hown (host := "") (Or.inl (hw _ (List.mem_of_getElem? (i := 9) rfl))) Via.refl e5 S_Effect_PERMIT (g := (mkF m 12 #[.val (.ref a1), .val .null] [])) rfl (hb hby d5_12)
  obtain ⟨fs, hr, hrun, hended, hW, hsame⟩ := X7.leave (v := some (.ref w6)) (fun h => by rw [Bd.returns] at h; cases h)
  refine ⟨_, _, pre0 _ ?_, hrun, hended, _, _, rfl, ?_, ⟨_, rfl⟩, hW, hsame.mono (by decide) (by decide)⟩
  · show Steps p.tables e below (s₁.setTop (mkF m 0 #[.val (.ref a1), .unset] [])) _
    refine XS.aconstNull X0.here hx rfl (hb hby d5_0) ?_
    show Steps p.tables e below (s₁.setTop (mkF m 1 #[.val (.ref a1), .unset] [.null])) _
    refine XS.astoreN X0.here hx rfl (hb hby d5_1) rfl rfl (l' := #[.val (.ref a1), .val .null]) rfl ?_
    show Steps p.tables e below (s₁.setTop (mkF m 2 #[.val (.ref a1), .val .null] [])) _
    refine XS.aloadN X0.here hx rfl (hb hby d5_2) rfl rfl ?_
    show Steps p.tables e below (s₁.setTop (mkF m 3 #[.val (.ref a1), .val .null] [(.ref a1)])) _
    refine st3 _ ?_
    show Steps p.tables e below (T3.setTop (mkF m 6 #[.val (.ref a1), .val .null] [(.ref w2)])) _
    refine st5 _ ?_
    show Steps p.tables e below (T5.setTop (mkF m 9 #[.val (.ref a1), .val .null] [(.ref w4), (.ref w2)])) _
    refine Jvm.RoadKit.acmp (g := (mkF m 9 #[.val (.ref a1), .val .null] [(.ref w4), (.ref w2)])) X5 hx rfl rfl rfl (pc0 := 9) (pc' := 12) (same := true) rfl (hb hby d5_9) rfl (decide_eq_true (congrArg Value.ref ha9)) (by decide) (by decide) ?_
    show Steps p.tables e below (T5.setTop (mkF m 12 #[.val (.ref a1), .val .null] [])) _
    refine st7 _ ?_
    show Steps p.tables e below (T7.setTop (mkF m 15 #[.val (.ref a1), .val .null] [(.ref w6)])) _
    refine XS.astoreN X7.here hx rfl (hb hby d5_15) rfl rfl (l' := #[.val (.ref a1), .val (.ref w6)]) rfl ?_
    show Steps p.tables e below (T7.setTop (mkF m 16 #[.val (.ref a1), .val (.ref w6)] [])) _
    refine XS.goto X7.here hx rfl (pc0 := 16) (pc' := 33) rfl (hb hby d5_16) (by decide) (by decide) ?_
    show Steps p.tables e below (T7.setTop (mkF m 33 #[.val (.ref a1), .val (.ref w6)] [])) _
    refine XS.aloadN X7.here hx rfl (hb hby d5_33) rfl rfl ?_
    show Steps p.tables e below (T7.setTop (mkF m 34 #[.val (.ref a1), .val (.ref w6)] [(.ref w6)])) _
    jvm_step X7.here [X7.here.top, hx, (hb hby d5_34), X7.method', Bd.returns, Value.isRef, FieldType.isReference]
    first | (intro acts; rw [hr _ acts rfl rfl rfl]) | rw [hr _ _ rfl rfl rfl]
    exact Steps.refl _
  · show own_Q (some (.ref w6)) h0 n0 _ T7.heap _
    rw [e7]
    exact ⟨rfl, N0, rfl⟩
set_option maxRecDepth 65536 in
set_option maxHeartbeats 40000000 in
theorem own_rm5_tf (l : Launch) (Z : State) (a0 : Array Value) (hw : ∀ d ∈ tables_1, d.before a0 Z = true) (ws : List Jvm.Cond) (a1 : Addr) (w2 : Addr) (w4 : Addr) (w7 : Addr) (w9 : Addr) (h0 : Heap) (n0 : Nat) (Z0 : n0 ≤ h0.size) (F_decision_a1 : Fld Z h0 a1 "com/example/attributary/attributary/engine/Outcome" "decision" "Lcom/example/attributary/attributary/model/Decision;" (.ref w2)) (S_Decision_PERMIT : Sta Z h0 "com/example/attributary/attributary/model/Decision" "PERMIT" "Lcom/example/attributary/attributary/model/Decision;" (.ref w4)) (S_Decision_DENY : Sta Z h0 "com/example/attributary/attributary/model/Decision" "DENY" "Lcom/example/attributary/attributary/model/Decision;" (.ref w7)) (S_Effect_DENY : Sta Z h0 "com/example/attributary/attributary/model/Effect" "DENY" "Lcom/example/attributary/attributary/model/Effect;" (.ref w9)) (ha9 : ¬ (w2 = w4)) (ha26 : w2 = w7) :
    MetFree l (⟨"com/example/attributary/attributary/engine/Outcome", "getEffect", "()Lcom/example/attributary/attributary/model/Effect;"⟩ : MethodName) (head1 (Jvm.Cond.code (⟨"com/example/attributary/attributary/engine/Outcome", "getEffect", "()Lcom/example/attributary/attributary/model/Effect;"⟩ : MethodName) prog_8_method_8_code 2 (some (.object "com/example/attributary/attributary/model/Effect")) :: ws) ({ frames := 0, cells := 0, slots := 0, locals := 0 } : Room)) (fun a U => a = #[(.ref a1)] ∧ Z.Warmed39 U.vm ∧ U.heap = h0) (fun _ _ _ _ _ => True) (fun _ U o U' => ∃ v L, o = .returned v ∧ own_Q (some (.ref w9)) h0 n0 v U'.heap L ∧ FrameEnd U o U' L ({ frames := 0, cells := 0, slots := 0, locals := 0 } : Room).cells ({ frames := 0, cells := 0, slots := 0, locals := 0 } : Room).slots) := by
  refine MetFree.of_bodySF (plainFor_of_name pn_5) hisR ?_
  intro p e s m args below meth c s₁ Bd hml0 hP hK
  obtain ⟨rfl, hZ, hh⟩ := hP
  have hx := Bd.exec
  have hby := Bd.bytes
  have hml : c.maxLocals = 2 := hml0
  have hown : s.vm.findClass "com/example/attributary/attributary/engine/Outcome" = some m.cls := findClass_of_methodNamed Bd.named
  have hnm := (name_of_methodNamed Bd.named Bd.method).1
  have X0 : Stand p l e ({ frames := 0, cells := 0, slots := 0, locals := 0 } : Room) s m #[(.ref a1)] below meth c s₁ [] 0 0 := Stand.of_body Bd
  have e0 : s₁.heap = h0 := by rw [← hh, Bd.state]; rfl
  have N0 := Fr.nil n0
  have pre0 : ∀ t, Steps p.tables e below (s₁.setTop (mkF m 0 #[.val (.ref a1), .unset] [])) t → Steps p.tables e below (s₁.setTop (entryFrame m #[(.ref a1)] 2)) t := fun t k => castTop (ef_5 m a1) k
  obtain ⟨T3, X3, e3, st3⟩ := getF X0 hx hZ hown (host := "") (Or.inl (hw _ (List.mem_of_getElem? (i := 17) rfl))) Via.refl e0 F_decision_a1 (g := (mkF m 3 #[.val (.ref a1), .val .null] [(.ref a1)])) rfl rfl (hb hby d5_3)
  obtain ⟨T5, X5, e5, st5⟩ := getS2 X3 hx hZ hown (host := "") (Or.inl (hw _ (List.mem_of_getElem? (i := 43) rfl))) Via.refl e3 S_Decision_PERMIT (g := (mkF m 6 #[.val (.ref a1), .val .null] [(.ref w2)])) rfl (hb hby d5_6)
  obtain ⟨T6, X6, e6, st6⟩ := getF X5 hx hZ hown (host := "") (Or.inl (hw _ (List.mem_of_getElem? (i := 17) rfl))) Via.refl e5 F_decision_a1 (g := (mkF m 20 #[.val (.ref a1), .val .null] [(.ref a1)])) rfl rfl (hb hby d5_20)
  obtain ⟨T8, X8, e8, st8⟩ := getS2 X6 hx hZ hown (host := "") (Or.inl (hw _ (List.mem_of_getElem? (i := 45) rfl))) Via.refl e6 S_Decision_DENY (g := (mkF m 23 #[.val (.ref a1), .val .null] [(.ref w2)])) rfl (hb hby d5_23)
  obtain ⟨T10, X10, e10, st10⟩ := getS2 X8 hx hZ hown (host := "") (Or.inl (hw _ (List.mem_of_getElem? (i := 46) rfl))) Via.refl e8 S_Effect_DENY (g := (mkF m 29 #[.val (.ref a1), .val .null] [])) rfl (hb hby d5_29)
  obtain ⟨fs, hr, hrun, hended, hW, hsame⟩ := X10.leave (v := some (.ref w9)) (fun h => by rw [Bd.returns] at h; cases h)
  refine ⟨_, _, pre0 _ ?_, hrun, hended, _, _, rfl, ?_, ⟨_, rfl⟩, hW, hsame.mono (by decide) (by decide)⟩
  · show Steps p.tables e below (s₁.setTop (mkF m 0 #[.val (.ref a1), .unset] [])) _
    refine XS.aconstNull X0.here hx rfl (hb hby d5_0) ?_
    show Steps p.tables e below (s₁.setTop (mkF m 1 #[.val (.ref a1), .unset] [.null])) _
    refine XS.astoreN X0.here hx rfl (hb hby d5_1) rfl rfl (l' := #[.val (.ref a1), .val .null]) rfl ?_
    show Steps p.tables e below (s₁.setTop (mkF m 2 #[.val (.ref a1), .val .null] [])) _
    refine XS.aloadN X0.here hx rfl (hb hby d5_2) rfl rfl ?_
    show Steps p.tables e below (s₁.setTop (mkF m 3 #[.val (.ref a1), .val .null] [(.ref a1)])) _
    refine st3 _ ?_
    show Steps p.tables e below (T3.setTop (mkF m 6 #[.val (.ref a1), .val .null] [(.ref w2)])) _
    refine st5 _ ?_
    show Steps p.tables e below (T5.setTop (mkF m 9 #[.val (.ref a1), .val .null] [(.ref w4), (.ref w2)])) _
    refine Jvm.RoadKit.acmp (g := (mkF m 9 #[.val (.ref a1), .val .null] [(.ref w4), (.ref w2)])) X5 hx rfl rfl rfl (pc0 := 9) (pc' := 19) (same := false) rfl (hb hby d5_9) rfl (decide_eq_false fun q => ha9 (Value.ref.inj q)) (by decide) (by decide) ?_
    show Steps p.tables e below (T5.setTop (mkF m 19 #[.val (.ref a1), .val .null] [])) _
    refine XS.aloadN X5.here hx rfl (hb hby d5_19) rfl rfl ?_
    show Steps p.tables e below (T5.setTop (mkF m 20 #[.val (.ref a1), .val .null] [(.ref a1)])) _
    refine st6 _ ?_
    show Steps p.tables e below (T6.setTop (mkF m 23 #[.val (.ref a1), .val .null] [(.ref w2)])) _
    refine st8 _ ?_
    show Steps p.tables e below (T8.setTop (mkF m 26 #[.val (.ref a1), .val .null] [(.ref w7), (.ref w2)])) _
    refine Jvm.RoadKit.acmp (g := (mkF m 26 #[.val (.ref a1), .val .null] [(.ref w7), (.ref w2)])) X8 hx rfl rfl rfl (pc0 := 26) (pc' := 29) (same := true) rfl (hb hby d5_26) rfl (decide_eq_true (congrArg Value.ref ha26)) (by decide) (by decide) ?_
    show Steps p.tables e below (T8.setTop (mkF m 29 #[.val (.ref a1), .val .null] [])) _
    refine st10 _ ?_
    show Steps p.tables e below (T10.setTop (mkF m 32 #[.val (.ref a1), .val .null] [(.ref w9)])) _
    refine XS.astoreN X10.here hx rfl (hb hby d5_32) rfl rfl (l' := #[.val (.ref a1), .val (.ref w9)]) rfl ?_
    show Steps p.tables e below (T10.setTop (mkF m 33 #[.val (.ref a1), .val (.ref w9)] [])) _
    refine XS.aloadN X10.here hx rfl (hb hby d5_33) rfl rfl ?_
    show Steps p.tables e below (T10.setTop (mkF m 34 #[.val (.ref a1), .val (.ref w9)] [(.ref w9)])) _
    jvm_step X10.here [X10.here.top, hx, (hb hby d5_34), X10.method', Bd.returns, Value.isRef, FieldType.isReference]
    first | (intro acts; rw [hr _ acts rfl rfl rfl]) | rw [hr _ _ rfl rfl rfl]
    exact Steps.refl _
  · show own_Q (some (.ref w9)) h0 n0 _ T10.heap _
    rw [e10]
    exact ⟨rfl, N0, rfl⟩
set_option maxRecDepth 65536 in
set_option maxHeartbeats 40000000 in
theorem own_rm7 (l : Launch) (Z : State) (a0 : Array Value) (hw : ∀ d ∈ tables_1, d.before a0 Z = true) (ws : List Jvm.Cond) (a1 : Addr) (w2 : Addr) (h0 : Heap) (n0 : Nat) (Z0 : n0 ≤ h0.size) (F_directives_a1 : Fld Z h0 a1 "com/example/attributary/attributary/engine/Outcome" "directives" "Ljava/util/List;" (.ref w2)) :
    MetFree l (⟨"com/example/attributary/attributary/engine/Outcome", "getDirectives", "()Ljava/util/List;"⟩ : MethodName) (head1 (Jvm.Cond.code (⟨"com/example/attributary/attributary/engine/Outcome", "getDirectives", "()Ljava/util/List;"⟩ : MethodName) prog_8_method_9_code 1 (some (.object "java/util/List")) :: ws) ({ frames := 0, cells := 0, slots := 0, locals := 0 } : Room)) (fun a U => a = #[(.ref a1)] ∧ Z.Warmed39 U.vm ∧ U.heap = h0) (fun _ _ _ _ _ => True) (fun _ U o U' => ∃ v L, o = .returned v ∧ own_Q (some (.ref w2)) h0 n0 v U'.heap L ∧ FrameEnd U o U' L ({ frames := 0, cells := 0, slots := 0, locals := 0 } : Room).cells ({ frames := 0, cells := 0, slots := 0, locals := 0 } : Room).slots) := by
  refine MetFree.of_bodySF (plainFor_of_name pn_7) hisR ?_
  intro p e s m args below meth c s₁ Bd hml0 hP hK
  obtain ⟨rfl, hZ, hh⟩ := hP
  have hx := Bd.exec
  have hby := Bd.bytes
  have hml : c.maxLocals = 1 := hml0
  have hown : s.vm.findClass "com/example/attributary/attributary/engine/Outcome" = some m.cls := findClass_of_methodNamed Bd.named
  have hnm := (name_of_methodNamed Bd.named Bd.method).1
  have X0 : Stand p l e ({ frames := 0, cells := 0, slots := 0, locals := 0 } : Room) s m #[(.ref a1)] below meth c s₁ [] 0 0 := Stand.of_body Bd
  have e0 : s₁.heap = h0 := by rw [← hh, Bd.state]; rfl
  have N0 := Fr.nil n0
  have pre0 : ∀ t, Steps p.tables e below (s₁.setTop (mkF m 0 #[.val (.ref a1)] [])) t → Steps p.tables e below (s₁.setTop (entryFrame m #[(.ref a1)] 1)) t := fun t k => castTop (ef_7 m a1) k
  obtain ⟨T3, X3, e3, st3⟩ := getF X0 hx hZ hown (host := "") (Or.inl (hw _ (List.mem_of_getElem? (i := 62) rfl))) Via.refl e0 F_directives_a1 (g := (mkF m 1 #[.val (.ref a1)] [(.ref a1)])) rfl rfl (hb hby d7_1)
  obtain ⟨fs, hr, hrun, hended, hW, hsame⟩ := X3.leave (v := some (.ref w2)) (fun h => by rw [Bd.returns] at h; cases h)
  refine ⟨_, _, pre0 _ ?_, hrun, hended, _, _, rfl, ?_, ⟨_, rfl⟩, hW, hsame.mono (by decide) (by decide)⟩
  · show Steps p.tables e below (s₁.setTop (mkF m 0 #[.val (.ref a1)] [])) _
    refine XS.aloadN X0.here hx rfl (hb hby d7_0) rfl rfl ?_
    show Steps p.tables e below (s₁.setTop (mkF m 1 #[.val (.ref a1)] [(.ref a1)])) _
    refine st3 _ ?_
    show Steps p.tables e below (T3.setTop (mkF m 4 #[.val (.ref a1)] [(.ref w2)])) _
    jvm_step X3.here [X3.here.top, hx, (hb hby d7_4), X3.method', Bd.returns, Value.isRef, FieldType.isReference]
    first | (intro acts; rw [hr _ acts rfl rfl rfl]) | rw [hr _ _ rfl rfl rfl]
    exact Steps.refl _
  · show own_Q (some (.ref w2)) h0 n0 _ T3.heap _
    rw [e3]
    exact ⟨rfl, N0, rfl⟩
set_option maxRecDepth 65536 in
set_option maxHeartbeats 40000000 in
theorem own_rm8 (l : Launch) (Z : State) (a0 : Array Value) (hw : ∀ d ∈ tables_1, d.before a0 Z = true) (ws : List Jvm.Cond) (a1 : Addr) (w2 : Addr) (cl_w2 : Cell) (z_w2 : Int32) (h0 : Heap) (n0 : Nat) (Z0 : n0 ≤ h0.size) (F_elements_a1 : Fld Z h0 a1 "java/util/ImmutableCollections$ListN" "elements" "[Ljava/lang/Object;" (.ref w2)) (Ar_w2 : Arr Z h0 w2 cl_w2 (.object "java/lang/Object")) (S_w2 : cl_w2.slots.size = z_w2.toNatClampNeg) (N_w2 : ¬ z_w2 < 0) :
    MetFree l (⟨"java/util/ImmutableCollections$ListN", "size", "()I"⟩ : MethodName) (head1 (Jvm.Cond.code (⟨"java/util/ImmutableCollections$ListN", "size", "()I"⟩ : MethodName) jdk_45_method_3_code 1 (some .int) :: ws) ({ frames := 0, cells := 0, slots := 0, locals := 0 } : Room)) (fun a U => a = #[(.ref a1)] ∧ Z.Warmed39 U.vm ∧ U.heap = h0) (fun _ _ _ _ _ => True) (fun _ U o U' => ∃ v L, o = .returned v ∧ own_Q (some (.int z_w2)) h0 n0 v U'.heap L ∧ FrameEnd U o U' L ({ frames := 0, cells := 0, slots := 0, locals := 0 } : Room).cells ({ frames := 0, cells := 0, slots := 0, locals := 0 } : Room).slots) := by
  refine MetFree.of_bodySF (plainFor_of_name pn_8) hisR ?_
  intro p e s m args below meth c s₁ Bd hml0 hP hK
  obtain ⟨rfl, hZ, hh⟩ := hP
  have hx := Bd.exec
  have hby := Bd.bytes
  have hml : c.maxLocals = 1 := hml0
  have hown : s.vm.findClass "java/util/ImmutableCollections$ListN" = some m.cls := findClass_of_methodNamed Bd.named
  have hnm := (name_of_methodNamed Bd.named Bd.method).1
  have X0 : Stand p l e ({ frames := 0, cells := 0, slots := 0, locals := 0 } : Room) s m #[(.ref a1)] below meth c s₁ [] 0 0 := Stand.of_body Bd
  have e0 : s₁.heap = h0 := by rw [← hh, Bd.state]; rfl
  have N0 := Fr.nil n0
  have pre0 : ∀ t, Steps p.tables e below (s₁.setTop (mkF m 0 #[.val (.ref a1)] [])) t → Steps p.tables e below (s₁.setTop (entryFrame m #[(.ref a1)] 1)) t := fun t k => castTop (ef_8 m a1) k
  obtain ⟨T3, X3, e3, st3⟩ := getF X0 hx hZ hown (host := "") (Or.inl (hw _ (List.mem_of_getElem? (i := 74) rfl))) Via.refl e0 F_elements_a1 (g := (mkF m 1 #[.val (.ref a1)] [(.ref a1)])) rfl rfl (hb hby d8_1)
  obtain ⟨fs, hr, hrun, hended, hW, hsame⟩ := X3.leave (v := some (.int z_w2)) (fun h => by rw [Bd.returns] at h; cases h)
  refine ⟨_, _, pre0 _ ?_, hrun, hended, _, _, rfl, ?_, ⟨_, rfl⟩, hW, hsame.mono (by decide) (by decide)⟩
  · show Steps p.tables e below (s₁.setTop (mkF m 0 #[.val (.ref a1)] [])) _
    refine XS.aloadN X0.here hx rfl (hb hby d8_0) rfl rfl ?_
    show Steps p.tables e below (s₁.setTop (mkF m 1 #[.val (.ref a1)] [(.ref a1)])) _
    refine st3 _ ?_
    show Steps p.tables e below (T3.setTop (mkF m 4 #[.val (.ref a1)] [(.ref w2)])) _
    refine X3.arraylength hx (by rw [e3]; exact Ar_w2.1) (State.isArrayOf_alike hZ.alike Ar_w2.2.1) (g := (mkF m 4 #[.val (.ref a1)] [(.ref w2)])) rfl rfl (hb hby d8_4) _ ?_
    rw [len_of S_w2 N_w2]
    show Steps p.tables e below (T3.setTop (mkF m 5 #[.val (.ref a1)] [(.int z_w2)])) _
    exact retI X3 hx Bd.returns (hb hby d8_5) hr
  · show own_Q (some (.int z_w2)) h0 n0 _ T3.heap _
    rw [e3]
    exact ⟨rfl, N0, rfl⟩
theorem d6_0 : decode prog_8_method_11_code 0 = .ok (.aload_n 1, 1) := by decide +kernel
theorem d6_1 : decode prog_8_method_11_code 1 = .ok (.getstatic 54, 3) := by decide +kernel
theorem d6_4 : decode prog_8_method_11_code 4 = .ok (.if_acmp .ne 10, 3) := by decide +kernel
theorem d6_7 : decode prog_8_method_11_code 7 = .ok (.aload_n 0, 1) := by decide +kernel
theorem d6_8 : decode prog_8_method_11_code 8 = .ok (.getfield 26, 3) := by decide +kernel
theorem d6_11 : decode prog_8_method_11_code 11 = .ok (.goto 7, 3) := by decide +kernel
theorem d6_14 : decode prog_8_method_11_code 14 = .ok (.aload_n 0, 1) := by decide +kernel
theorem d6_15 : decode prog_8_method_11_code 15 = .ok (.getfield 30, 3) := by decide +kernel
theorem d6_18 : decode prog_8_method_11_code 18 = .ok (.istore_n 2, 1) := by decide +kernel
theorem d6_19 : decode prog_8_method_11_code 19 = .ok (.aload_n 0, 1) := by decide +kernel
theorem d6_20 : decode prog_8_method_11_code 20 = .ok (.getfield 18, 3) := by decide +kernel
theorem d6_23 : decode prog_8_method_11_code 23 = .ok (.aload_n 1, 1) := by decide +kernel
theorem d6_24 : decode prog_8_method_11_code 24 = .ok (.invokevirtual 80, 3) := by decide +kernel
theorem d6_27 : decode prog_8_method_11_code 27 = .ok (.if_acmp .eq 7, 3) := by decide +kernel
theorem d6_30 : decode prog_8_method_11_code 30 = .ok (.iload_n 2, 1) := by decide +kernel
theorem d6_31 : decode prog_8_method_11_code 31 = .ok (.ifCond .eq 7, 3) := by decide +kernel
theorem d6_34 : decode prog_8_method_11_code 34 = .ok (.iconst 1, 1) := by decide +kernel
theorem d6_35 : decode prog_8_method_11_code 35 = .ok (.goto 4, 3) := by decide +kernel
theorem d6_38 : decode prog_8_method_11_code 38 = .ok (.iconst 0, 1) := by decide +kernel
theorem d6_39 : decode prog_8_method_11_code 39 = .ok (.ireturn, 1) := by decide +kernel
theorem ef_6 (m : MethodId) (x0 : Addr) (x1 : Addr) : entryFrame m #[(.ref x0), (.ref x1)] 3 = mkF m 0 #[.val (.ref x0), .val (.ref x1), .unset] [] := by first | (simp [entryFrame, mkF, argsToLocals, Value.category]; done) | rfl
theorem pd_6_1 : parseMethodDescriptor "()Lcom/example/attributary/attributary/model/Decision;" = some ⟨[], some (.object "com/example/attributary/attributary/model/Decision")⟩ := by decide +kernel
theorem pn_6 : plainName "com/example/attributary/attributary/engine/Outcome" = true := by first | (simp [plainName, overriddenIn]; done) | decide +kernel
set_option maxRecDepth 65536 in
set_option maxHeartbeats 40000000 in
theorem own_rm6_tt (l : Launch) (Z : State) (a0 : Array Value) (hw : ∀ d ∈ tables_1, d.before a0 Z = true) (ws : List Jvm.Cond) (a1 : Addr) (a2 : Addr) (w3 : Addr) (w5 : Int32) (w7 : Addr) (wD : Addr) (h0 : Heap) (n0 : Nat) (Z0 : n0 ≤ h0.size) (FD : Fld Z h0 a2 "com/example/attributary/attributary/model/Effect" "decision" "Lcom/example/attributary/attributary/model/Decision;" (.ref wD)) (S_Effect_DENY : Sta Z h0 "com/example/attributary/attributary/model/Effect" "DENY" "Lcom/example/attributary/attributary/model/Effect;" (.ref w3)) (F_couldPermit_a1 : Fld Z h0 a1 "com/example/attributary/attributary/engine/Outcome" "couldPermit" "Z" (.int w5)) (F_decision_a1 : Fld Z h0 a1 "com/example/attributary/attributary/engine/Outcome" "decision" "Lcom/example/attributary/attributary/model/Decision;" (.ref w7)) (E_a2 : Exa Z h0 a2 "com/example/attributary/attributary/model/Effect") (ha4 : ¬ (a2 = w3)) (ha27 : w7 = wD) :
    MetFree l (⟨"com/example/attributary/attributary/engine/Outcome", "couldBe", "(Lcom/example/attributary/attributary/model/Effect;)Z"⟩ : MethodName) (head1 (Jvm.Cond.code (⟨"com/example/attributary/attributary/engine/Outcome", "couldBe", "(Lcom/example/attributary/attributary/model/Effect;)Z"⟩ : MethodName) prog_8_method_11_code 3 (some .boolean) :: ws) ({ frames := 1, cells := 0, slots := 0, locals := 13 } : Room)) (fun a U => a = #[(.ref a1), (.ref a2)] ∧ Z.Warmed39 U.vm ∧ U.heap = h0) (fun _ _ _ _ _ => True) (fun _ U o U' => ∃ v L, o = .returned v ∧ own_Q (some (.int (1 : Int32))) h0 n0 v U'.heap L ∧ FrameEnd U o U' L ({ frames := 1, cells := 0, slots := 0, locals := 13 } : Room).cells ({ frames := 1, cells := 0, slots := 0, locals := 13 } : Room).slots) := by
  refine MetFree.of_bodySF (plainFor_of_name pn_6) hisR ?_
  intro p e s m args below meth c s₁ Bd hml0 hP hK
  obtain ⟨rfl, hZ, hh⟩ := hP
  have hx := Bd.exec
  have hby := Bd.bytes
  have hml : c.maxLocals = 3 := hml0
  have hown : s.vm.findClass "com/example/attributary/attributary/engine/Outcome" = some m.cls := findClass_of_methodNamed Bd.named
  have hnm := (name_of_methodNamed Bd.named Bd.method).1
  have X0 : Stand p l e ({ frames := 1, cells := 0, slots := 0, locals := 13 } : Room) s m #[(.ref a1), (.ref a2)] below meth c s₁ [] 0 0 := Stand.of_body Bd
  have e0 : s₁.heap = h0 := by rw [← hh, Bd.state]; rfl
  have N0 := Fr.nil n0
  have pre0 : ∀ t, Steps p.tables e below (s₁.setTop (mkF m 0 #[.val (.ref a1), .val (.ref a2), .unset] [])) t → Steps p.tables e below (s₁.setTop (entryFrame m #[(.ref a1), (.ref a2)] 3)) t := fun t k => castTop (ef_6 m a1 a2) k
  obtain ⟨T4, X4, e4, st4⟩ := getS2 X0 hx hZ hown (host := "") (Or.inl (hw _ (List.mem_of_getElem? (i := 46) rfl))) Via.refl e0 S_Effect_DENY (g := (mkF m 1 #[.val (.ref a1), .val (.ref a2), .unset] [(.ref a2)])) rfl (hb hby d6_1)
  obtain ⟨T6, X6, e6, st6⟩ := getF X4 hx hZ hown (host := "") (Or.inl (hw _ (List.mem_of_getElem? (i := 55) rfl))) Via.refl e4 F_couldPermit_a1 (g := (mkF m 15 #[.val (.ref a1), .val (.ref a2), .unset] [(.ref a1)])) rfl rfl (hb hby d6_15)
  obtain ⟨T8, X8, e8, st8⟩ := getF X6 hx hZ hown (host := "") (Or.inl (hw _ (List.mem_of_getElem? (i := 17) rfl))) Via.refl e6 F_decision_a1 (g := (mkF m 20 #[.val (.ref a1), .val (.ref a2), .val (.int w5)] [(.ref a1)])) rfl rfl (hb hby d6_20)
  obtain ⟨cq9, kq9, q9a, q9b, q9c⟩ := isOf hZ e8 E_a2
  obtain ⟨_, _, ⟨T9, L9, k9, n9⟩, -, X9, ⟨Lc9, hQ9, l9, y9, z9⟩, st9⟩ := X8.virtualBack hx (y := (⟨"com/example/attributary/attributary/model/Effect", "getDecision", "()Lcom/example/attributary/attributary/model/Decision;"⟩ : MethodName)) (z := (⟨"com/example/attributary/attributary/model/Effect", "getDecision", "()Lcom/example/attributary/attributary/model/Decision;"⟩ : MethodName)) hown (mvT hZ (hw _ (List.mem_of_getElem? (i := 54) rfl))) (mvT hZ (hw _ (List.mem_of_getElem? (i := 22) rfl))) (notFace_of_selects (args := #[]) (mvT hZ (hw _ (List.mem_of_getElem? (i := 24) rfl)))) (mvT hZ (hw _ (List.mem_of_getElem? (i := 24) rfl))) (mvT hZ (hw _ (List.mem_of_getElem? (i := 23) rfl))) (by decide) (backOf (W := 1) (own_rm3 l Z a0 hw [] a2 wD h0 n0 Z0 FD) hZ (hw _ (List.mem_of_getElem? (i := 25) rfl)) (hw _ (List.mem_of_getElem? (i := 1) rfl)) (by decide) (by decide)) q9a q9c (g := (mkF m 24 #[.val (.ref a1), .val (.ref a2), .val (.int w5)] [(.ref a2), (.ref w7)])) rfl (by rw [hml]; rfl) (Steps.refl _) (argsL := []) (rest := [(.ref w7)]) (lenOf pd_6_1 rfl) rfl (by show 2 * 0 + _ ≤ _; exact Nat.le_of_eq rfl) (hb hby d6_24) (fun _ _ => ⟨rfl, e8, (by decide : 0 + 0 ≤ _), (by decide : 0 + 0 ≤ _)⟩)
  dsimp only [Pt.U, Pt.locs, Pt.cells, Pt.slots] at X9 l9 y9 z9 st9 hQ9
  subst l9 y9 z9
  obtain ⟨rfl, N9q, e9⟩ := hQ9
  have N9 := Fr.app N0 N9q
  obtain ⟨fs, hr, hrun, hended, hW, hsame⟩ := X9.leave (v := some (.int (1 : Int32))) (fun h => by rw [Bd.returns] at h; cases h)
  refine ⟨_, _, pre0 _ ?_, hrun, hended, _, _, rfl, ?_, ⟨_, rfl⟩, hW, hsame.mono (by decide) (by decide)⟩
  · show Steps p.tables e below (s₁.setTop (mkF m 0 #[.val (.ref a1), .val (.ref a2), .unset] [])) _
    refine XS.aloadN X0.here hx rfl (hb hby d6_0) rfl rfl ?_
    show Steps p.tables e below (s₁.setTop (mkF m 1 #[.val (.ref a1), .val (.ref a2), .unset] [(.ref a2)])) _
    refine st4 _ ?_
    show Steps p.tables e below (T4.setTop (mkF m 4 #[.val (.ref a1), .val (.ref a2), .unset] [(.ref w3), (.ref a2)])) _
    refine Jvm.RoadKit.acmp (g := (mkF m 4 #[.val (.ref a1), .val (.ref a2), .unset] [(.ref w3), (.ref a2)])) X4 hx rfl rfl rfl (pc0 := 4) (pc' := 14) (same := false) rfl (hb hby d6_4) rfl (decide_eq_false fun q => ha4 (Value.ref.inj q)) (by decide) (by decide) ?_
    show Steps p.tables e below (T4.setTop (mkF m 14 #[.val (.ref a1), .val (.ref a2), .unset] [])) _
    refine XS.aloadN X4.here hx rfl (hb hby d6_14) rfl rfl ?_
    show Steps p.tables e below (T4.setTop (mkF m 15 #[.val (.ref a1), .val (.ref a2), .unset] [(.ref a1)])) _
    refine st6 _ ?_
    show Steps p.tables e below (T6.setTop (mkF m 18 #[.val (.ref a1), .val (.ref a2), .unset] [(.int w5)])) _
    refine XS.istoreN X6.here hx rfl (hb hby d6_18) rfl (l' := #[.val (.ref a1), .val (.ref a2), .val (.int w5)]) rfl ?_
    show Steps p.tables e below (T6.setTop (mkF m 19 #[.val (.ref a1), .val (.ref a2), .val (.int w5)] [])) _
    refine XS.aloadN X6.here hx rfl (hb hby d6_19) rfl rfl ?_
    show Steps p.tables e below (T6.setTop (mkF m 20 #[.val (.ref a1), .val (.ref a2), .val (.int w5)] [(.ref a1)])) _
    refine st8 _ ?_
    show Steps p.tables e below (T8.setTop (mkF m 23 #[.val (.ref a1), .val (.ref a2), .val (.int w5)] [(.ref w7)])) _
    refine XS.aloadN X8.here hx rfl (hb hby d6_23) rfl rfl ?_
    show Steps p.tables e below (T8.setTop (mkF m 24 #[.val (.ref a1), .val (.ref a2), .val (.int w5)] [(.ref a2), (.ref w7)])) _
    refine st9.trans ?_
    show Steps p.tables e below (T9.setTop (mkF m 27 #[.val (.ref a1), .val (.ref a2), .val (.int w5)] [(.ref wD), (.ref w7)])) _
    refine Jvm.RoadKit.acmp (g := (mkF m 27 #[.val (.ref a1), .val (.ref a2), .val (.int w5)] [(.ref wD), (.ref w7)])) X9 hx rfl rfl rfl (pc0 := 27) (pc' := 34) (same := true) rfl (hb hby d6_27) rfl (decide_eq_true (congrArg Value.ref ha27)) (by decide) (by decide) ?_
    show Steps p.tables e below (T9.setTop (mkF m 34 #[.val (.ref a1), .val (.ref a2), .val (.int w5)] [])) _
    refine XS.iconst X9.here hx rfl (hb hby d6_34) ?_
    show Steps p.tables e below (T9.setTop (mkF m 35 #[.val (.ref a1), .val (.ref a2), .val (.int w5)] [(.int (1 : Int32))])) _
    refine XS.goto X9.here hx rfl (pc0 := 35) (pc' := 39) rfl (hb hby d6_35) (by decide) (by decide) ?_
    show Steps p.tables e below (T9.setTop (mkF m 39 #[.val (.ref a1), .val (.ref a2), .val (.int w5)] [(.int (1 : Int32))])) _
    exact retN X9 hx (t := .boolean) Bd.returns (by simp) (hb hby d6_39) hr
  · show own_Q (some (.int (1 : Int32))) h0 n0 _ T9.heap _
    rw [e9]
    exact ⟨rfl, N9, rfl⟩
set_option maxRecDepth 65536 in
set_option maxHeartbeats 40000000 in
theorem own_rm6_fft (l : Launch) (Z : State) (a0 : Array Value) (hw : ∀ d ∈ tables_1, d.before a0 Z = true) (ws : List Jvm.Cond) (a1 : Addr) (a2 : Addr) (w3 : Addr) (w5 : Int32) (w7 : Addr) (wD : Addr) (h0 : Heap) (n0 : Nat) (Z0 : n0 ≤ h0.size) (FD : Fld Z h0 a2 "com/example/attributary/attributary/model/Effect" "decision" "Lcom/example/attributary/attributary/model/Decision;" (.ref wD)) (S_Effect_DENY : Sta Z h0 "com/example/attributary/attributary/model/Effect" "DENY" "Lcom/example/attributary/attributary/model/Effect;" (.ref w3)) (F_couldDeny_a1 : Fld Z h0 a1 "com/example/attributary/attributary/engine/Outcome" "couldDeny" "Z" (.int w5)) (F_decision_a1 : Fld Z h0 a1 "com/example/attributary/attributary/engine/Outcome" "decision" "Lcom/example/attributary/attributary/model/Decision;" (.ref w7)) (E_a2 : Exa Z h0 a2 "com/example/attributary/attributary/model/Effect") (ha4 : a2 = w3) (ha27 : ¬ (w7 = wD)) (hc31 : w5 = (0 : Int32)) :
    MetFree l (⟨"com/example/attributary/attributary/engine/Outcome", "couldBe", "(Lcom/example/attributary/attributary/model/Effect;)Z"⟩ : MethodName) (head1 (Jvm.Cond.code (⟨"com/example/attributary/attributary/engine/Outcome", "couldBe", "(Lcom/example/attributary/attributary/model/Effect;)Z"⟩ : MethodName) prog_8_method_11_code 3 (some .boolean) :: ws) ({ frames := 1, cells := 0, slots := 0, locals := 13 } : Room)) (fun a U => a = #[(.ref a1), (.ref a2)] ∧ Z.Warmed39 U.vm ∧ U.heap = h0) (fun _ _ _ _ _ => True) (fun _ U o U' => ∃ v L, o = .returned v ∧ own_Q (some (.int (0 : Int32))) h0 n0 v U'.heap L ∧ FrameEnd U o U' L ({ frames := 1, cells := 0, slots := 0, locals := 13 } : Room).cells ({ frames := 1, cells := 0, slots := 0, locals := 13 } : Room).slots) := by
  refine MetFree.of_bodySF (plainFor_of_name pn_6) hisR ?_
  intro p e s m args below meth c s₁ Bd hml0 hP hK
  obtain ⟨rfl, hZ, hh⟩ := hP
  have hx := Bd.exec
  have hby := Bd.bytes
  have hml : c.maxLocals = 3 := hml0
  have hown : s.vm.findClass "com/example/attributary/attributary/engine/Outcome" = some m.cls := findClass_of_methodNamed Bd.named
  have hnm := (name_of_methodNamed Bd.named Bd.method).1
  have X0 : Stand p l e ({ frames := 1, cells := 0, slots := 0, locals := 13 } : Room) s m #[(.ref a1), (.ref a2)] below meth c s₁ [] 0 0 := Stand.of_body Bd
  have e0 : s₁.heap = h0 := by rw [← hh, Bd.state]; rfl
  have N0 := Fr.nil n0
  have pre0 : ∀ t, Steps p.tables e below (s₁.setTop (mkF m 0 #[.val (.ref a1), .val (.ref a2), .unset] [])) t → Steps p.tables e below (s₁.setTop (entryFrame m #[(.ref a1), (.ref a2)] 3)) t := fun t k => castTop (ef_6 m a1 a2) k
  obtain ⟨T4, X4, e4, st4⟩ := getS2 X0 hx hZ hown (host := "") (Or.inl (hw _ (List.mem_of_getElem? (i := 46) rfl))) Via.refl e0 S_Effect_DENY (g := (mkF m 1 #[.val (.ref a1), .val (.ref a2), .unset] [(.ref a2)])) rfl (hb hby d6_1)
  obtain ⟨T6, X6, e6, st6⟩ := getF X4 hx hZ hown (host := "") (Or.inl (hw _ (List.mem_of_getElem? (i := 52) rfl))) Via.refl e4 F_couldDeny_a1 (g := (mkF m 8 #[.val (.ref a1), .val (.ref a2), .unset] [(.ref a1)])) rfl rfl (hb hby d6_8)
  obtain ⟨T8, X8, e8, st8⟩ := getF X6 hx hZ hown (host := "") (Or.inl (hw _ (List.mem_of_getElem? (i := 17) rfl))) Via.refl e6 F_decision_a1 (g := (mkF m 20 #[.val (.ref a1), .val (.ref a2), .val (.int w5)] [(.ref a1)])) rfl rfl (hb hby d6_20)
  obtain ⟨cq9, kq9, q9a, q9b, q9c⟩ := isOf hZ e8 E_a2
  obtain ⟨_, _, ⟨T9, L9, k9, n9⟩, -, X9, ⟨Lc9, hQ9, l9, y9, z9⟩, st9⟩ := X8.virtualBack hx (y := (⟨"com/example/attributary/attributary/model/Effect", "getDecision", "()Lcom/example/attributary/attributary/model/Decision;"⟩ : MethodName)) (z := (⟨"com/example/attributary/attributary/model/Effect", "getDecision", "()Lcom/example/attributary/attributary/model/Decision;"⟩ : MethodName)) hown (mvT hZ (hw _ (List.mem_of_getElem? (i := 54) rfl))) (mvT hZ (hw _ (List.mem_of_getElem? (i := 22) rfl))) (notFace_of_selects (args := #[]) (mvT hZ (hw _ (List.mem_of_getElem? (i := 24) rfl)))) (mvT hZ (hw _ (List.mem_of_getElem? (i := 24) rfl))) (mvT hZ (hw _ (List.mem_of_getElem? (i := 23) rfl))) (by decide) (backOf (W := 1) (own_rm3 l Z a0 hw [] a2 wD h0 n0 Z0 FD) hZ (hw _ (List.mem_of_getElem? (i := 25) rfl)) (hw _ (List.mem_of_getElem? (i := 1) rfl)) (by decide) (by decide)) q9a q9c (g := (mkF m 24 #[.val (.ref a1), .val (.ref a2), .val (.int w5)] [(.ref a2), (.ref w7)])) rfl (by rw [hml]; rfl) (Steps.refl _) (argsL := []) (rest := [(.ref w7)]) (lenOf pd_6_1 rfl) rfl (by show 2 * 0 + _ ≤ _; exact Nat.le_of_eq rfl) (hb hby d6_24) (fun _ _ => ⟨rfl, e8, (by decide : 0 + 0 ≤ _), (by decide : 0 + 0 ≤ _)⟩)
  dsimp only [Pt.U, Pt.locs, Pt.cells, Pt.slots] at X9 l9 y9 z9 st9 hQ9
  subst l9 y9 z9
  obtain ⟨rfl, N9q, e9⟩ := hQ9
  have N9 := Fr.app N0 N9q
  obtain ⟨fs, hr, hrun, hended, hW, hsame⟩ := X9.leave (v := some (.int (0 : Int32))) (fun h => by rw [Bd.returns] at h; cases h)
  refine ⟨_, _, pre0 _ ?_, hrun, hended, _, _, rfl, ?_, ⟨_, rfl⟩, hW, hsame.mono (by decide) (by decide)⟩
  · show Steps p.tables e below (s₁.setTop (mkF m 0 #[.val (.ref a1), .val (.ref a2), .unset] [])) _
    refine XS.aloadN X0.here hx rfl (hb hby d6_0) rfl rfl ?_
    show Steps p.tables e below (s₁.setTop (mkF m 1 #[.val (.ref a1), .val (.ref a2), .unset] [(.ref a2)])) _
    refine st4 _ ?_
    show Steps p.tables e below (T4.setTop (mkF m 4 #[.val (.ref a1), .val (.ref a2), .unset] [(.ref w3), (.ref a2)])) _
    refine Jvm.RoadKit.acmp (g := (mkF m 4 #[.val (.ref a1), .val (.ref a2), .unset] [(.ref w3), (.ref a2)])) X4 hx rfl rfl rfl (pc0 := 4) (pc' := 7) (same := true) rfl (hb hby d6_4) rfl (decide_eq_true (congrArg Value.ref ha4)) (by decide) (by decide) ?_
    show Steps p.tables e below (T4.setTop (mkF m 7 #[.val (.ref a1), .val (.ref a2), .unset] [])) _
    refine XS.aloadN X4.here hx rfl (hb hby d6_7) rfl rfl ?_
    show Steps p.tables e below (T4.setTop (mkF m 8 #[.val (.ref a1), .val (.ref a2), .unset] [(.ref a1)])) _
    refine st6 _ ?_
    show Steps p.tables e below (T6.setTop (mkF m 11 #[.val (.ref a1), .val (.ref a2), .unset] [(.int w5)])) _
    refine XS.goto X6.here hx rfl (pc0 := 11) (pc' := 18) rfl (hb hby d6_11) (by decide) (by decide) ?_
    show Steps p.tables e below (T6.setTop (mkF m 18 #[.val (.ref a1), .val (.ref a2), .unset] [(.int w5)])) _
    refine XS.istoreN X6.here hx rfl (hb hby d6_18) rfl (l' := #[.val (.ref a1), .val (.ref a2), .val (.int w5)]) rfl ?_
    show Steps p.tables e below (T6.setTop (mkF m 19 #[.val (.ref a1), .val (.ref a2), .val (.int w5)] [])) _
    refine XS.aloadN X6.here hx rfl (hb hby d6_19) rfl rfl ?_
    show Steps p.tables e below (T6.setTop (mkF m 20 #[.val (.ref a1), .val (.ref a2), .val (.int w5)] [(.ref a1)])) _
    refine st8 _ ?_
    show Steps p.tables e below (T8.setTop (mkF m 23 #[.val (.ref a1), .val (.ref a2), .val (.int w5)] [(.ref w7)])) _
    refine XS.aloadN X8.here hx rfl (hb hby d6_23) rfl rfl ?_
    show Steps p.tables e below (T8.setTop (mkF m 24 #[.val (.ref a1), .val (.ref a2), .val (.int w5)] [(.ref a2), (.ref w7)])) _
    refine st9.trans ?_
    show Steps p.tables e below (T9.setTop (mkF m 27 #[.val (.ref a1), .val (.ref a2), .val (.int w5)] [(.ref wD), (.ref w7)])) _
    refine Jvm.RoadKit.acmp (g := (mkF m 27 #[.val (.ref a1), .val (.ref a2), .val (.int w5)] [(.ref wD), (.ref w7)])) X9 hx rfl rfl rfl (pc0 := 27) (pc' := 30) (same := false) rfl (hb hby d6_27) rfl (decide_eq_false fun q => ha27 (Value.ref.inj q)) (by decide) (by decide) ?_
    show Steps p.tables e below (T9.setTop (mkF m 30 #[.val (.ref a1), .val (.ref a2), .val (.int w5)] [])) _
    refine XS.iloadN X9.here hx rfl (hb hby d6_30) rfl ?_
    show Steps p.tables e below (T9.setTop (mkF m 31 #[.val (.ref a1), .val (.ref a2), .val (.int w5)] [(.int w5)])) _
    refine XS.ifYes X9.here hx rfl (pc0 := 31) (pc' := 38) rfl (hb hby d6_31) rfl ((if0 _ _).trans (teq hc31).1) (by decide) (by decide) ?_
    show Steps p.tables e below (T9.setTop (mkF m 38 #[.val (.ref a1), .val (.ref a2), .val (.int w5)] [])) _
    refine XS.iconst X9.here hx rfl (hb hby d6_38) ?_
    show Steps p.tables e below (T9.setTop (mkF m 39 #[.val (.ref a1), .val (.ref a2), .val (.int w5)] [(.int (0 : Int32))])) _
    exact retN X9 hx (t := .boolean) Bd.returns (by simp) (hb hby d6_39) hr
  · show own_Q (some (.int (0 : Int32))) h0 n0 _ T9.heap _
    rw [e9]
    exact ⟨rfl, N9, rfl⟩
set_option maxRecDepth 65536 in
set_option maxHeartbeats 40000000 in
theorem own_rm6_ft (l : Launch) (Z : State) (a0 : Array Value) (hw : ∀ d ∈ tables_1, d.before a0 Z = true) (ws : List Jvm.Cond) (a1 : Addr) (a2 : Addr) (w3 : Addr) (w5 : Int32) (w7 : Addr) (wD : Addr) (h0 : Heap) (n0 : Nat) (Z0 : n0 ≤ h0.size) (FD : Fld Z h0 a2 "com/example/attributary/attributary/model/Effect" "decision" "Lcom/example/attributary/attributary/model/Decision;" (.ref wD)) (S_Effect_DENY : Sta Z h0 "com/example/attributary/attributary/model/Effect" "DENY" "Lcom/example/attributary/attributary/model/Effect;" (.ref w3)) (F_couldDeny_a1 : Fld Z h0 a1 "com/example/attributary/attributary/engine/Outcome" "couldDeny" "Z" (.int w5)) (F_decision_a1 : Fld Z h0 a1 "com/example/attributary/attributary/engine/Outcome" "decision" "Lcom/example/attributary/attributary/model/Decision;" (.ref w7)) (E_a2 : Exa Z h0 a2 "com/example/attributary/attributary/model/Effect") (ha4 : a2 = w3) (ha27 : w7 = wD) :
    MetFree l (⟨"com/example/attributary/attributary/engine/Outcome", "couldBe", "(Lcom/example/attributary/attributary/model/Effect;)Z"⟩ : MethodName) (head1 (Jvm.Cond.code (⟨"com/example/attributary/attributary/engine/Outcome", "couldBe", "(Lcom/example/attributary/attributary/model/Effect;)Z"⟩ : MethodName) prog_8_method_11_code 3 (some .boolean) :: ws) ({ frames := 1, cells := 0, slots := 0, locals := 13 } : Room)) (fun a U => a = #[(.ref a1), (.ref a2)] ∧ Z.Warmed39 U.vm ∧ U.heap = h0) (fun _ _ _ _ _ => True) (fun _ U o U' => ∃ v L, o = .returned v ∧ own_Q (some (.int (1 : Int32))) h0 n0 v U'.heap L ∧ FrameEnd U o U' L ({ frames := 1, cells := 0, slots := 0, locals := 13 } : Room).cells ({ frames := 1, cells := 0, slots := 0, locals := 13 } : Room).slots) := by
  refine MetFree.of_bodySF (plainFor_of_name pn_6) hisR ?_
  intro p e s m args below meth c s₁ Bd hml0 hP hK
  obtain ⟨rfl, hZ, hh⟩ := hP
  have hx := Bd.exec
  have hby := Bd.bytes
  have hml : c.maxLocals = 3 := hml0
  have hown : s.vm.findClass "com/example/attributary/attributary/engine/Outcome" = some m.cls := findClass_of_methodNamed Bd.named
  have hnm := (name_of_methodNamed Bd.named Bd.method).1
  have X0 : Stand p l e ({ frames := 1, cells := 0, slots := 0, locals := 13 } : Room) s m #[(.ref a1), (.ref a2)] below meth c s₁ [] 0 0 := Stand.of_body Bd
  have e0 : s₁.heap = h0 := by rw [← hh, Bd.state]; rfl
  have N0 := Fr.nil n0
  have pre0 : ∀ t, Steps p.tables e below (s₁.setTop (mkF m 0 #[.val (.ref a1), .val (.ref a2), .unset] [])) t → Steps p.tables e below (s₁.setTop (entryFrame m #[(.ref a1), (.ref a2)] 3)) t := fun t k => castTop (ef_6 m a1 a2) k
  obtain ⟨T4, X4, e4, st4⟩ := getS2 X0 hx hZ hown (host := "") (Or.inl (hw _ (List.mem_of_getElem? (i := 46) rfl))) Via.refl e0 S_Effect_DENY (g := (mkF m 1 #[.val (.ref a1), .val (.ref a2), .unset] [(.ref a2)])) rfl (hb hby d6_1)
  obtain ⟨T6, X6, e6, st6⟩ := getF X4 hx hZ hown (host := "") (Or.inl (hw _ (List.mem_of_getElem? (i := 52) rfl))) Via.refl e4 F_couldDeny_a1 (g := (mkF m 8 #[.val (.ref a1), .val (.ref a2), .unset] [(.ref a1)])) rfl rfl (hb hby d6_8)
  obtain ⟨T8, X8, e8, st8⟩ := getF X6 hx hZ hown (host := "") (Or.inl (hw _ (List.mem_of_getElem? (i := 17) rfl))) Via.refl e6 F_decision_a1 (g := (mkF m 20 #[.val (.ref a1), .val (.ref a2), .val (.int w5)] [(.ref a1)])) rfl rfl (hb hby d6_20)
  obtain ⟨cq9, kq9, q9a, q9b, q9c⟩ := isOf hZ e8 E_a2
  obtain ⟨_, _, ⟨T9, L9, k9, n9⟩, -, X9, ⟨Lc9, hQ9, l9, y9, z9⟩, st9⟩ := X8.virtualBack hx (y := (⟨"com/example/attributary/attributary/model/Effect", "getDecision", "()Lcom/example/attributary/attributary/model/Decision;"⟩ : MethodName)) (z := (⟨"com/example/attributary/attributary/model/Effect", "getDecision", "()Lcom/example/attributary/attributary/model/Decision;"⟩ : MethodName)) hown (mvT hZ (hw _ (List.mem_of_getElem? (i := 54) rfl))) (mvT hZ (hw _ (List.mem_of_getElem? (i := 22) rfl))) (notFace_of_selects (args := #[]) (mvT hZ (hw _ (List.mem_of_getElem? (i := 24) rfl)))) (mvT hZ (hw _ (List.mem_of_getElem? (i := 24) rfl))) (mvT hZ (hw _ (List.mem_of_getElem? (i := 23) rfl))) (by decide) (backOf (W := 1) (own_rm3 l Z a0 hw [] a2 wD h0 n0 Z0 FD) hZ (hw _ (List.mem_of_getElem? (i := 25) rfl)) (hw _ (List.mem_of_getElem? (i := 1) rfl)) (by decide) (by decide)) q9a q9c (g := (mkF m 24 #[.val (.ref a1), .val (.ref a2), .val (.int w5)] [(.ref a2), (.ref w7)])) rfl (by rw [hml]; rfl) (Steps.refl _) (argsL := []) (rest := [(.ref w7)]) (lenOf pd_6_1 rfl) rfl (by show 2 * 0 + _ ≤ _; exact Nat.le_of_eq rfl) (hb hby d6_24) (fun _ _ => ⟨rfl, e8, (by decide : 0 + 0 ≤ _), (by decide : 0 + 0 ≤ _)⟩)
  dsimp only [Pt.U, Pt.locs, Pt.cells, Pt.slots] at X9 l9 y9 z9 st9 hQ9
  subst l9 y9 z9
  obtain ⟨rfl, N9q, e9⟩ := hQ9
  have N9 := Fr.app N0 N9q
  obtain ⟨fs, hr, hrun, hended, hW, hsame⟩ := X9.leave (v := some (.int (1 : Int32))) (fun h => by rw [Bd.returns] at h; cases h)
  refine ⟨_, _, pre0 _ ?_, hrun, hended, _, _, rfl, ?_, ⟨_, rfl⟩, hW, hsame.mono (by decide) (by decide)⟩
  · show Steps p.tables e below (s₁.setTop (mkF m 0 #[.val (.ref a1), .val (.ref a2), .unset] [])) _
    refine XS.aloadN X0.here hx rfl (hb hby d6_0) rfl rfl ?_
    show Steps p.tables e below (s₁.setTop (mkF m 1 #[.val (.ref a1), .val (.ref a2), .unset] [(.ref a2)])) _
    refine st4 _ ?_
    show Steps p.tables e below (T4.setTop (mkF m 4 #[.val (.ref a1), .val (.ref a2), .unset] [(.ref w3), (.ref a2)])) _
    refine Jvm.RoadKit.acmp (g := (mkF m 4 #[.val (.ref a1), .val (.ref a2), .unset] [(.ref w3), (.ref a2)])) X4 hx rfl rfl rfl (pc0 := 4) (pc' := 7) (same := true) rfl (hb hby d6_4) rfl (decide_eq_true (congrArg Value.ref ha4)) (by decide) (by decide) ?_
    show Steps p.tables e below (T4.setTop (mkF m 7 #[.val (.ref a1), .val (.ref a2), .unset] [])) _
    refine XS.aloadN X4.here hx rfl (hb hby d6_7) rfl rfl ?_
    show Steps p.tables e below (T4.setTop (mkF m 8 #[.val (.ref a1), .val (.ref a2), .unset] [(.ref a1)])) _
    refine st6 _ ?_
    show Steps p.tables e below (T6.setTop (mkF m 11 #[.val (.ref a1), .val (.ref a2), .unset] [(.int w5)])) _
    refine XS.goto X6.here hx rfl (pc0 := 11) (pc' := 18) rfl (hb hby d6_11) (by decide) (by decide) ?_
    show Steps p.tables e below (T6.setTop (mkF m 18 #[.val (.ref a1), .val (.ref a2), .unset] [(.int w5)])) _
    refine XS.istoreN X6.here hx rfl (hb hby d6_18) rfl (l' := #[.val (.ref a1), .val (.ref a2), .val (.int w5)]) rfl ?_
    show Steps p.tables e below (T6.setTop (mkF m 19 #[.val (.ref a1), .val (.ref a2), .val (.int w5)] [])) _
    refine XS.aloadN X6.here hx rfl (hb hby d6_19) rfl rfl ?_
    show Steps p.tables e below (T6.setTop (mkF m 20 #[.val (.ref a1), .val (.ref a2), .val (.int w5)] [(.ref a1)])) _
    refine st8 _ ?_
    show Steps p.tables e below (T8.setTop (mkF m 23 #[.val (.ref a1), .val (.ref a2), .val (.int w5)] [(.ref w7)])) _
    refine XS.aloadN X8.here hx rfl (hb hby d6_23) rfl rfl ?_
    show Steps p.tables e below (T8.setTop (mkF m 24 #[.val (.ref a1), .val (.ref a2), .val (.int w5)] [(.ref a2), (.ref w7)])) _
    refine st9.trans ?_
    show Steps p.tables e below (T9.setTop (mkF m 27 #[.val (.ref a1), .val (.ref a2), .val (.int w5)] [(.ref wD), (.ref w7)])) _
    refine Jvm.RoadKit.acmp (g := (mkF m 27 #[.val (.ref a1), .val (.ref a2), .val (.int w5)] [(.ref wD), (.ref w7)])) X9 hx rfl rfl rfl (pc0 := 27) (pc' := 34) (same := true) rfl (hb hby d6_27) rfl (decide_eq_true (congrArg Value.ref ha27)) (by decide) (by decide) ?_
    show Steps p.tables e below (T9.setTop (mkF m 34 #[.val (.ref a1), .val (.ref a2), .val (.int w5)] [])) _
    refine XS.iconst X9.here hx rfl (hb hby d6_34) ?_
    show Steps p.tables e below (T9.setTop (mkF m 35 #[.val (.ref a1), .val (.ref a2), .val (.int w5)] [(.int (1 : Int32))])) _
    refine XS.goto X9.here hx rfl (pc0 := 35) (pc' := 39) rfl (hb hby d6_35) (by decide) (by decide) ?_
    show Steps p.tables e below (T9.setTop (mkF m 39 #[.val (.ref a1), .val (.ref a2), .val (.int w5)] [(.int (1 : Int32))])) _
    exact retN X9 hx (t := .boolean) Bd.returns (by simp) (hb hby d6_39) hr
  · show own_Q (some (.int (1 : Int32))) h0 n0 _ T9.heap _
    rw [e9]
    exact ⟨rfl, N9, rfl⟩
set_option maxRecDepth 65536 in
set_option maxHeartbeats 40000000 in
theorem own_rm6_tft (l : Launch) (Z : State) (a0 : Array Value) (hw : ∀ d ∈ tables_1, d.before a0 Z = true) (ws : List Jvm.Cond) (a1 : Addr) (a2 : Addr) (w3 : Addr) (w5 : Int32) (w7 : Addr) (wD : Addr) (h0 : Heap) (n0 : Nat) (Z0 : n0 ≤ h0.size) (FD : Fld Z h0 a2 "com/example/attributary/attributary/model/Effect" "decision" "Lcom/example/attributary/attributary/model/Decision;" (.ref wD)) (S_Effect_DENY : Sta Z h0 "com/example/attributary/attributary/model/Effect" "DENY" "Lcom/example/attributary/attributary/model/Effect;" (.ref w3)) (F_couldPermit_a1 : Fld Z h0 a1 "com/example/attributary/attributary/engine/Outcome" "couldPermit" "Z" (.int w5)) (F_decision_a1 : Fld Z h0 a1 "com/example/attributary/attributary/engine/Outcome" "decision" "Lcom/example/attributary/attributary/model/Decision;" (.ref w7)) (E_a2 : Exa Z h0 a2 "com/example/attributary/attributary/model/Effect") (ha4 : ¬ (a2 = w3)) (ha27 : ¬ (w7 = wD)) (hc31 : w5 = (0 : Int32)) :
    MetFree l (⟨"com/example/attributary/attributary/engine/Outcome", "couldBe", "(Lcom/example/attributary/attributary/model/Effect;)Z"⟩ : MethodName) (head1 (Jvm.Cond.code (⟨"com/example/attributary/attributary/engine/Outcome", "couldBe", "(Lcom/example/attributary/attributary/model/Effect;)Z"⟩ : MethodName) prog_8_method_11_code 3 (some .boolean) :: ws) ({ frames := 1, cells := 0, slots := 0, locals := 13 } : Room)) (fun a U => a = #[(.ref a1), (.ref a2)] ∧ Z.Warmed39 U.vm ∧ U.heap = h0) (fun _ _ _ _ _ => True) (fun _ U o U' => ∃ v L, o = .returned v ∧ own_Q (some (.int (0 : Int32))) h0 n0 v U'.heap L ∧ FrameEnd U o U' L ({ frames := 1, cells := 0, slots := 0, locals := 13 } : Room).cells ({ frames := 1, cells := 0, slots := 0, locals := 13 } : Room).slots) := by
  refine MetFree.of_bodySF (plainFor_of_name pn_6) hisR ?_
  intro p e s m args below meth c s₁ Bd hml0 hP hK
  obtain ⟨rfl, hZ, hh⟩ := hP
  have hx := Bd.exec
  have hby := Bd.bytes
  have hml : c.maxLocals = 3 := hml0
  have hown : s.vm.findClass "com/example/attributary/attributary/engine/Outcome" = some m.cls := findClass_of_methodNamed Bd.named
  have hnm := (name_of_methodNamed Bd.named Bd.method).1
  have X0 : Stand p l e ({ frames := 1, cells := 0, slots := 0, locals := 13 } : Room) s m #[(.ref a1), (.ref a2)] below meth c s₁ [] 0 0 := Stand.of_body Bd
  have e0 : s₁.heap = h0 := by rw [← hh, Bd.state]; rfl
  have N0 := Fr.nil n0
  have pre0 : ∀ t, Steps p.tables e below (s₁.setTop (mkF m 0 #[.val (.ref a1), .val (.ref a2), .unset] [])) t → Steps p.tables e below (s₁.setTop (entryFrame m #[(.ref a1), (.ref a2)] 3)) t := fun t k => castTop (ef_6 m a1 a2) k
  obtain ⟨T4, X4, e4, st4⟩ := getS2 X0 hx hZ hown (host := "") (Or.inl (hw _ (List.mem_of_getElem? (i := 46) rfl))) Via.refl e0 S_Effect_DENY (g := (mkF m 1 #[.val (.ref a1), .val (.ref a2), .unset] [(.ref a2)])) rfl (hb hby d6_1)
  obtain ⟨T6, X6, e6, st6⟩ := getF X4 hx hZ hown (host := "") (Or.inl (hw _ (List.mem_of_getElem? (i := 55) rfl))) Via.refl e4 F_couldPermit_a1 (g := (mkF m 15 #[.val (.ref a1), .val (.ref a2), .unset] [(.ref a1)])) rfl rfl (hb hby d6_15)
  obtain ⟨T8, X8, e8, st8⟩ := getF X6 hx hZ hown (host := "") (Or.inl (hw _ (List.mem_of_getElem? (i := 17) rfl))) Via.refl e6 F_decision_a1 (g := (mkF m 20 #[.val (.ref a1), .val (.ref a2), .val (.int w5)] [(.ref a1)])) rfl rfl (hb hby d6_20)
  obtain ⟨cq9, kq9, q9a, q9b, q9c⟩ := isOf hZ e8 E_a2
  obtain ⟨_, _, ⟨T9, L9, k9, n9⟩, -, X9, ⟨Lc9, hQ9, l9, y9, z9⟩, st9⟩ := X8.virtualBack hx (y := (⟨"com/example/attributary/attributary/model/Effect", "getDecision", "()Lcom/example/attributary/attributary/model/Decision;"⟩ : MethodName)) (z := (⟨"com/example/attributary/attributary/model/Effect", "getDecision", "()Lcom/example/attributary/attributary/model/Decision;"⟩ : MethodName)) hown (mvT hZ (hw _ (List.mem_of_getElem? (i := 54) rfl))) (mvT hZ (hw _ (List.mem_of_getElem? (i := 22) rfl))) (notFace_of_selects (args := #[]) (mvT hZ (hw _ (List.mem_of_getElem? (i := 24) rfl)))) (mvT hZ (hw _ (List.mem_of_getElem? (i := 24) rfl))) (mvT hZ (hw _ (List.mem_of_getElem? (i := 23) rfl))) (by decide) (backOf (W := 1) (own_rm3 l Z a0 hw [] a2 wD h0 n0 Z0 FD) hZ (hw _ (List.mem_of_getElem? (i := 25) rfl)) (hw _ (List.mem_of_getElem? (i := 1) rfl)) (by decide) (by decide)) q9a q9c (g := (mkF m 24 #[.val (.ref a1), .val (.ref a2), .val (.int w5)] [(.ref a2), (.ref w7)])) rfl (by rw [hml]; rfl) (Steps.refl _) (argsL := []) (rest := [(.ref w7)]) (lenOf pd_6_1 rfl) rfl (by show 2 * 0 + _ ≤ _; exact Nat.le_of_eq rfl) (hb hby d6_24) (fun _ _ => ⟨rfl, e8, (by decide : 0 + 0 ≤ _), (by decide : 0 + 0 ≤ _)⟩)
  dsimp only [Pt.U, Pt.locs, Pt.cells, Pt.slots] at X9 l9 y9 z9 st9 hQ9
  subst l9 y9 z9
  obtain ⟨rfl, N9q, e9⟩ := hQ9
  have N9 := Fr.app N0 N9q
  obtain ⟨fs, hr, hrun, hended, hW, hsame⟩ := X9.leave (v := some (.int (0 : Int32))) (fun h => by rw [Bd.returns] at h; cases h)
  refine ⟨_, _, pre0 _ ?_, hrun, hended, _, _, rfl, ?_, ⟨_, rfl⟩, hW, hsame.mono (by decide) (by decide)⟩
  · show Steps p.tables e below (s₁.setTop (mkF m 0 #[.val (.ref a1), .val (.ref a2), .unset] [])) _
    refine XS.aloadN X0.here hx rfl (hb hby d6_0) rfl rfl ?_
    show Steps p.tables e below (s₁.setTop (mkF m 1 #[.val (.ref a1), .val (.ref a2), .unset] [(.ref a2)])) _
    refine st4 _ ?_
    show Steps p.tables e below (T4.setTop (mkF m 4 #[.val (.ref a1), .val (.ref a2), .unset] [(.ref w3), (.ref a2)])) _
    refine Jvm.RoadKit.acmp (g := (mkF m 4 #[.val (.ref a1), .val (.ref a2), .unset] [(.ref w3), (.ref a2)])) X4 hx rfl rfl rfl (pc0 := 4) (pc' := 14) (same := false) rfl (hb hby d6_4) rfl (decide_eq_false fun q => ha4 (Value.ref.inj q)) (by decide) (by decide) ?_
    show Steps p.tables e below (T4.setTop (mkF m 14 #[.val (.ref a1), .val (.ref a2), .unset] [])) _
    refine XS.aloadN X4.here hx rfl (hb hby d6_14) rfl rfl ?_
    show Steps p.tables e below (T4.setTop (mkF m 15 #[.val (.ref a1), .val (.ref a2), .unset] [(.ref a1)])) _
    refine st6 _ ?_
    show Steps p.tables e below (T6.setTop (mkF m 18 #[.val (.ref a1), .val (.ref a2), .unset] [(.int w5)])) _
    refine XS.istoreN X6.here hx rfl (hb hby d6_18) rfl (l' := #[.val (.ref a1), .val (.ref a2), .val (.int w5)]) rfl ?_
    show Steps p.tables e below (T6.setTop (mkF m 19 #[.val (.ref a1), .val (.ref a2), .val (.int w5)] [])) _
    refine XS.aloadN X6.here hx rfl (hb hby d6_19) rfl rfl ?_
    show Steps p.tables e below (T6.setTop (mkF m 20 #[.val (.ref a1), .val (.ref a2), .val (.int w5)] [(.ref a1)])) _
    refine st8 _ ?_
    show Steps p.tables e below (T8.setTop (mkF m 23 #[.val (.ref a1), .val (.ref a2), .val (.int w5)] [(.ref w7)])) _
    refine XS.aloadN X8.here hx rfl (hb hby d6_23) rfl rfl ?_
    show Steps p.tables e below (T8.setTop (mkF m 24 #[.val (.ref a1), .val (.ref a2), .val (.int w5)] [(.ref a2), (.ref w7)])) _
    refine st9.trans ?_
    show Steps p.tables e below (T9.setTop (mkF m 27 #[.val (.ref a1), .val (.ref a2), .val (.int w5)] [(.ref wD), (.ref w7)])) _
    refine Jvm.RoadKit.acmp (g := (mkF m 27 #[.val (.ref a1), .val (.ref a2), .val (.int w5)] [(.ref wD), (.ref w7)])) X9 hx rfl rfl rfl (pc0 := 27) (pc' := 30) (same := false) rfl (hb hby d6_27) rfl (decide_eq_false fun q => ha27 (Value.ref.inj q)) (by decide) (by decide) ?_
    show Steps p.tables e below (T9.setTop (mkF m 30 #[.val (.ref a1), .val (.ref a2), .val (.int w5)] [])) _
    refine XS.iloadN X9.here hx rfl (hb hby d6_30) rfl ?_
    show Steps p.tables e below (T9.setTop (mkF m 31 #[.val (.ref a1), .val (.ref a2), .val (.int w5)] [(.int w5)])) _
    refine XS.ifYes X9.here hx rfl (pc0 := 31) (pc' := 38) rfl (hb hby d6_31) rfl ((if0 _ _).trans (teq hc31).1) (by decide) (by decide) ?_
    show Steps p.tables e below (T9.setTop (mkF m 38 #[.val (.ref a1), .val (.ref a2), .val (.int w5)] [])) _
    refine XS.iconst X9.here hx rfl (hb hby d6_38) ?_
    show Steps p.tables e below (T9.setTop (mkF m 39 #[.val (.ref a1), .val (.ref a2), .val (.int w5)] [(.int (0 : Int32))])) _
    exact retN X9 hx (t := .boolean) Bd.returns (by simp) (hb hby d6_39) hr
  · show own_Q (some (.int (0 : Int32))) h0 n0 _ T9.heap _
    rw [e9]
    exact ⟨rfl, N9, rfl⟩
theorem ef_0 (m : MethodId) (x0 : Int32) : entryFrame m #[(.int x0)] maxLocals = mkF m 0 #[.val (.int x0), .unset, .unset, .unset, .unset, .unset, .unset, .unset, .unset, .unset, .unset] [] := by first | (simp [entryFrame, mkF, argsToLocals, Value.category, maxLocals]; done) | rfl
theorem pd_0_0 : parseMethodDescriptor "(Lcom/example/attributary/attributary/model/Effect;)Lcom/example/attributary/attributary/engine/Outcome;" = some ⟨[(.object "com/example/attributary/attributary/model/Effect")], some (.object "com/example/attributary/attributary/engine/Outcome")⟩ := by decide +kernel
theorem pd_0_1 : parseMethodDescriptor "()Lcom/example/attributary/attributary/model/Decision;" = some ⟨[], some (.object "com/example/attributary/attributary/model/Decision")⟩ := by decide +kernel
theorem pd_0_2 : parseMethodDescriptor "()Lcom/example/attributary/attributary/model/StatusCode;" = some ⟨[], some (.object "com/example/attributary/attributary/model/StatusCode")⟩ := by decide +kernel
theorem pd_0_3 : parseMethodDescriptor "()Lcom/example/attributary/attributary/model/Effect;" = some ⟨[], some (.object "com/example/attributary/attributary/model/Effect")⟩ := by decide +kernel
theorem pd_0_4 : parseMethodDescriptor "(Lcom/example/attributary/attributary/model/Effect;)Z" = some ⟨[(.object "com/example/attributary/attributary/model/Effect")], some .boolean⟩ := by decide +kernel
theorem pd_0_5 : parseMethodDescriptor "()Ljava/util/List;" = some ⟨[], some (.object "java/util/List")⟩ := by decide +kernel
theorem pd_0_6 : parseMethodDescriptor "()I" = some ⟨[], some .int⟩ := by decide +kernel
theorem pn_0 : plainName "com/example/attributary/attributary/engine/OutcomeOfPinLaw" = true := by first | (simp [plainName, overriddenIn]; done) | decide +kernel
set_option maxRecDepth 65536 in
set_option maxHeartbeats 40000000 in
theorem own_rm0_P (l : Launch) (Z : State) (a0 : Array Value) (hw : ∀ d ∈ tables_1, d.before a0 Z = true) (ws : List Jvm.Cond) (p1 : Int32) (wEffect_DENY wEffect_PERMIT wOutcome_DENY wOutcome_PERMIT wDecision_DENY wDecision_PERMIT wStatusCode_OK wDir wEl : Addr) (cl : Cell) (h0 : Heap) (n0 : Nat) (Z0 : n0 ≤ h0.size) (S_Effect_DENY : Sta Z h0 "com/example/attributary/attributary/model/Effect" "DENY" "Lcom/example/attributary/attributary/model/Effect;" (.ref wEffect_DENY)) (S_Effect_PERMIT : Sta Z h0 "com/example/attributary/attributary/model/Effect" "PERMIT" "Lcom/example/attributary/attributary/model/Effect;" (.ref wEffect_PERMIT)) (S_Outcome_DENY : Sta Z h0 "com/example/attributary/attributary/engine/Outcome" "DENY" "Lcom/example/attributary/attributary/engine/Outcome;" (.ref wOutcome_DENY)) (S_Outcome_PERMIT : Sta Z h0 "com/example/attributary/attributary/engine/Outcome" "PERMIT" "Lcom/example/attributary/attributary/engine/Outcome;" (.ref wOutcome_PERMIT)) (S_Decision_DENY : Sta Z h0 "com/example/attributary/attributary/model/Decision" "DENY" "Lcom/example/attributary/attributary/model/Decision;" (.ref wDecision_DENY)) (S_Decision_PERMIT : Sta Z h0 "com/example/attributary/attributary/model/Decision" "PERMIT" "Lcom/example/attributary/attributary/model/Decision;" (.ref wDecision_PERMIT)) (S_StatusCode_OK : Sta Z h0 "com/example/attributary/attributary/model/StatusCode" "OK" "Lcom/example/attributary/attributary/model/StatusCode;" (.ref wStatusCode_OK)) (E_wEffect_DENY : Exa Z h0 wEffect_DENY "com/example/attributary/attributary/model/Effect") (E_wEffect_PERMIT : Exa Z h0 wEffect_PERMIT "com/example/attributary/attributary/model/Effect") (E_wOutcome_DENY : Exa Z h0 wOutcome_DENY "com/example/attributary/attributary/engine/Outcome") (E_wOutcome_PERMIT : Exa Z h0 wOutcome_PERMIT "com/example/attributary/attributary/engine/Outcome") (E_wDir : Exa Z h0 wDir "java/util/ImmutableCollections$ListN") (F_OD_decision : Fld Z h0 wOutcome_DENY "com/example/attributary/attributary/engine/Outcome" "decision" "Lcom/example/attributary/attributary/model/Decision;" (.ref wDecision_DENY)) (F_OP_decision : Fld Z h0 wOutcome_PERMIT "com/example/attributary/attributary/engine/Outcome" "decision" "Lcom/example/attributary/attributary/model/Decision;" (.ref wDecision_PERMIT)) (F_ED_decision : Fld Z h0 wEffect_DENY "com/example/attributary/attributary/model/Effect" "decision" "Lcom/example/attributary/attributary/model/Decision;" (.ref wDecision_DENY)) (F_EP_decision : Fld Z h0 wEffect_PERMIT "com/example/attributary/attributary/model/Effect" "decision" "Lcom/example/attributary/attributary/model/Decision;" (.ref wDecision_PERMIT)) (F_OD_status : Fld Z h0 wOutcome_DENY "com/example/attributary/attributary/engine/Outcome" "status" "Lcom/example/attributary/attributary/model/StatusCode;" (.ref wStatusCode_OK)) (F_OP_status : Fld Z h0 wOutcome_PERMIT "com/example/attributary/attributary/engine/Outcome" "status" "Lcom/example/attributary/attributary/model/StatusCode;" (.ref wStatusCode_OK)) (F_OD_couldDeny : Fld Z h0 wOutcome_DENY "com/example/attributary/attributary/engine/Outcome" "couldDeny" "Z" (.int 0)) (F_OD_couldPermit : Fld Z h0 wOutcome_DENY "com/example/attributary/attributary/engine/Outcome" "couldPermit" "Z" (.int 0)) (F_OP_couldDeny : Fld Z h0 wOutcome_PERMIT "com/example/attributary/attributary/engine/Outcome" "couldDeny" "Z" (.int 0)) (F_OP_couldPermit : Fld Z h0 wOutcome_PERMIT "com/example/attributary/attributary/engine/Outcome" "couldPermit" "Z" (.int 0)) (F_OD_dir : Fld Z h0 wOutcome_DENY "com/example/attributary/attributary/engine/Outcome" "directives" "Ljava/util/List;" (.ref wDir)) (F_OP_dir : Fld Z h0 wOutcome_PERMIT "com/example/attributary/attributary/engine/Outcome" "directives" "Ljava/util/List;" (.ref wDir)) (F_elements : Fld Z h0 wDir "java/util/ImmutableCollections$ListN" "elements" "[Ljava/lang/Object;" (.ref wEl)) (Ar : Arr Z h0 wEl cl (.object "java/lang/Object")) (Sz : cl.slots.size = (0 : Int32).toNatClampNeg) (nE : wEffect_PERMIT ≠ wEffect_DENY) (nDec : wDecision_PERMIT ≠ wDecision_DENY) (hc3 : ¬ ((p1 &&& (1 : Int32)) = (0 : Int32))) (hc13 : ¬ ((1 : Int32) = (0 : Int32))) (hc27 : ¬ ((1 : Int32) = (0 : Int32))) (hc145 : ¬ ((1 : Int32) = (0 : Int32))) (hc150 : ¬ ((1 : Int32) = (0 : Int32))) (hc155 : ¬ ((1 : Int32) = (0 : Int32))) (hc160 : ¬ ((1 : Int32) = (0 : Int32))) (hc165 : ¬ ((1 : Int32) = (0 : Int32))) (hc170 : ¬ ((1 : Int32) = (0 : Int32))) :
    MetFree l x (head1 (Jvm.Cond.code x code maxLocals ret :: ws) room_1) (fun a U => a = #[(.int p1)] ∧ Z.Warmed39 U.vm ∧ U.heap = h0) (fun _ _ _ _ _ => True) (fun _ U o U' => ∃ v L, o = .returned v ∧ own_Q (some (.int (1 : Int32))) h0 n0 v U'.heap L ∧ FrameEnd U o U' L room_1.cells room_1.slots) := by
  refine MetFree.of_bodySF (plainFor_of_name pn_0) hisR ?_
  intro p e s m args below meth c s₁ Bd hml0 hP hK
  obtain ⟨rfl, hZ, hh⟩ := hP
  have hx := Bd.exec
  have hby := Bd.bytes
  have hml : c.maxLocals = 11 := hml0
  have hown : s.vm.findClass "com/example/attributary/attributary/engine/OutcomeOfPinLaw" = some m.cls := findClass_of_methodNamed Bd.named
  have hnm := (name_of_methodNamed Bd.named Bd.method).1
  have X0 : Stand p l e room_1 s m #[(.int p1)] below meth c s₁ [] 0 0 := Stand.of_body Bd
  have e0 : s₁.heap = h0 := by rw [← hh, Bd.state]; rfl
  have N0 := Fr.nil n0
  have pre0 : ∀ t, Steps p.tables e below (s₁.setTop (mkF m 0 #[.val (.int p1), .unset, .unset, .unset, .unset, .unset, .unset, .unset, .unset, .unset, .unset] [])) t → Steps p.tables e below (s₁.setTop (entryFrame m #[(.int p1)] maxLocals)) t := fun t k => castTop (ef_0 m p1) k
  obtain ⟨T3, X3, e3, st3⟩ := getS2 X0 hx hZ hown (host := "") (Or.inl (hw _ (List.mem_of_getElem? (i := 3) rfl))) Via.refl e0 S_Effect_PERMIT (g := (mkF m 16 #[.val (.int p1), .val (.int (1 : Int32)), .unset, .unset, .unset, .unset, .unset, .unset, .unset, .unset, .unset] [])) rfl (hb hby at_16)
  obtain ⟨T5, X5, e5, st5⟩ := getS2 X3 hx hZ hown (host := "") (Or.inl (hw _ (List.mem_of_getElem? (i := 0) rfl))) Via.refl e3 S_Effect_DENY (g := (mkF m 30 #[.val (.int p1), .val (.int (1 : Int32)), .val (.ref wEffect_PERMIT), .unset, .unset, .unset, .unset, .unset, .unset, .unset, .unset] [])) rfl (hb hby at_30)
  obtain ⟨_, _, ⟨T6, L6, k6, n6⟩, -, X6, ⟨Lc6, hQ6, l6, y6, z6⟩, st6⟩ := Jvm.LawKit.callS X5 hx (y := (⟨"com/example/attributary/attributary/engine/Outcome", "of", "(Lcom/example/attributary/attributary/model/Effect;)Lcom/example/attributary/attributary/engine/Outcome;"⟩ : MethodName)) hown (mvT hZ (hw _ (List.mem_of_getElem? (i := 5) rfl))) (mvT hZ (hw _ (List.mem_of_getElem? (i := 6) rfl))) (mvT hZ (hw _ (List.mem_of_getElem? (i := 7) rfl))) (mvT hZ (hw _ (List.mem_of_getElem? (i := 8) rfl))) (by decide) (backOf (W := 0) (own_rm1_f l Z a0 hw [] wEffect_PERMIT wEffect_PERMIT wOutcome_PERMIT h0 n0 Z0 S_Effect_PERMIT S_Outcome_PERMIT rfl) hZ (hw _ (List.mem_of_getElem? (i := 8) rfl)) (hw _ (List.mem_of_getElem? (i := 7) rfl)) (by decide) (by decide)) (g := (mkF m 41 #[.val (.int p1), .val (.int (1 : Int32)), .val (.ref wEffect_PERMIT), .val (.ref wEffect_DENY), .unset, .unset, .unset, .unset, .unset, .unset, .unset] [(.ref wEffect_PERMIT)])) rfl (by rw [hml]; rfl) (argsL := [(.ref wEffect_PERMIT)]) (rest := []) (lenOf pd_0_0 rfl) rfl (by show 2 * 0 + _ ≤ _; exact Nat.le_of_eq rfl) (hb hby at_41) (fun _ _ => ⟨rfl, e5, (by decide : 0 + 0 ≤ _), (by decide : 0 + 0 ≤ _)⟩)
  dsimp only [Pt.U, Pt.locs, Pt.cells, Pt.slots] at X6 l6 y6 z6 st6 hQ6
  subst l6 y6 z6
  obtain ⟨rfl, N6q, e6⟩ := hQ6
  have N6 := Fr.app N0 N6q
  obtain ⟨cq7, kq7, q7a, q7b, q7c⟩ := isOf hZ e6 E_wOutcome_PERMIT
  obtain ⟨_, _, ⟨T7, L7, k7, n7⟩, -, X7, ⟨Lc7, hQ7, l7, y7, z7⟩, st7⟩ := X6.virtualBack hx (y := (⟨"com/example/attributary/attributary/engine/Outcome", "getDecision", "()Lcom/example/attributary/attributary/model/Decision;"⟩ : MethodName)) (z := (⟨"com/example/attributary/attributary/engine/Outcome", "getDecision", "()Lcom/example/attributary/attributary/model/Decision;"⟩ : MethodName)) hown (mvT hZ (hw _ (List.mem_of_getElem? (i := 12) rfl))) (mvT hZ (hw _ (List.mem_of_getElem? (i := 13) rfl))) (notFace_of_selects (args := #[]) (mvT hZ (hw _ (List.mem_of_getElem? (i := 15) rfl)))) (mvT hZ (hw _ (List.mem_of_getElem? (i := 15) rfl))) (mvT hZ (hw _ (List.mem_of_getElem? (i := 14) rfl))) (by decide) (backOf (W := 0) (own_rm2 l Z a0 hw [] wOutcome_PERMIT wDecision_PERMIT h0 n0 Z0 F_OP_decision) hZ (hw _ (List.mem_of_getElem? (i := 16) rfl)) (hw _ (List.mem_of_getElem? (i := 7) rfl)) (by decide) (by decide)) q7a q7c (g := (mkF m 48 #[.val (.int p1), .val (.int (1 : Int32)), .val (.ref wEffect_PERMIT), .val (.ref wEffect_DENY), .val (.ref wOutcome_PERMIT), .unset, .unset, .unset, .unset, .unset, .unset] [(.ref wOutcome_PERMIT)])) rfl (by rw [hml]; rfl) (Steps.refl _) (argsL := []) (rest := []) (lenOf pd_0_1 rfl) rfl (by show 2 * 0 + _ ≤ _; exact Nat.le_of_eq rfl) (hb hby at_48) (fun _ _ => ⟨rfl, e6, (by decide : 0 + 0 ≤ _), (by decide : 0 + 0 ≤ _)⟩)
  dsimp only [Pt.U, Pt.locs, Pt.cells, Pt.slots] at X7 l7 y7 z7 st7 hQ7
  subst l7 y7 z7
  obtain ⟨rfl, N7q, e7⟩ := hQ7
  have N7 := Fr.app N6 N7q
  obtain ⟨cq8, kq8, q8a, q8b, q8c⟩ := isOf hZ e7 E_wEffect_PERMIT
  obtain ⟨_, _, ⟨T8, L8, k8, n8⟩, -, X8, ⟨Lc8, hQ8, l8, y8, z8⟩, st8⟩ := X7.virtualBack hx (y := (⟨"com/example/attributary/attributary/model/Effect", "getDecision", "()Lcom/example/attributary/attributary/model/Decision;"⟩ : MethodName)) (z := (⟨"com/example/attributary/attributary/model/Effect", "getDecision", "()Lcom/example/attributary/attributary/model/Decision;"⟩ : MethodName)) hown (mvT hZ (hw _ (List.mem_of_getElem? (i := 21) rfl))) (mvT hZ (hw _ (List.mem_of_getElem? (i := 22) rfl))) (notFace_of_selects (args := #[]) (mvT hZ (hw _ (List.mem_of_getElem? (i := 24) rfl)))) (mvT hZ (hw _ (List.mem_of_getElem? (i := 24) rfl))) (mvT hZ (hw _ (List.mem_of_getElem? (i := 23) rfl))) (by decide) (backOf (W := 1) (own_rm3 l Z a0 hw [] wEffect_PERMIT wDecision_PERMIT h0 n0 Z0 F_EP_decision) hZ (hw _ (List.mem_of_getElem? (i := 25) rfl)) (hw _ (List.mem_of_getElem? (i := 1) rfl)) (by decide) (by decide)) q8a q8c (g := (mkF m 52 #[.val (.int p1), .val (.int (1 : Int32)), .val (.ref wEffect_PERMIT), .val (.ref wEffect_DENY), .val (.ref wOutcome_PERMIT), .unset, .unset, .unset, .unset, .unset, .unset] [(.ref wEffect_PERMIT), (.ref wDecision_PERMIT)])) rfl (by rw [hml]; rfl) (Steps.refl _) (argsL := []) (rest := [(.ref wDecision_PERMIT)]) (lenOf pd_0_1 rfl) rfl (by show 2 * 0 + _ ≤ _; exact Nat.le_of_eq rfl) (hb hby at_52) (fun _ _ => ⟨rfl, e7, (by decide : 0 + 0 ≤ _), (by decide : 0 + 0 ≤ _)⟩)
  dsimp only [Pt.U, Pt.locs, Pt.cells, Pt.slots] at X8 l8 y8 z8 st8 hQ8
  subst l8 y8 z8
  obtain ⟨rfl, N8q, e8⟩ := hQ8
  have N8 := Fr.app N7 N8q
  obtain ⟨cq9, kq9, q9a, q9b, q9c⟩ := isOf hZ e8 E_wOutcome_PERMIT
  obtain ⟨_, _, ⟨T9, L9, k9, n9⟩, -, X9, ⟨Lc9, hQ9, l9, y9, z9⟩, st9⟩ := X8.virtualBack hx (y := (⟨"com/example/attributary/attributary/engine/Outcome", "getStatus", "()Lcom/example/attributary/attributary/model/StatusCode;"⟩ : MethodName)) (z := (⟨"com/example/attributary/attributary/engine/Outcome", "getStatus", "()Lcom/example/attributary/attributary/model/StatusCode;"⟩ : MethodName)) hown (mvT hZ (hw _ (List.mem_of_getElem? (i := 28) rfl))) (mvT hZ (hw _ (List.mem_of_getElem? (i := 29) rfl))) (notFace_of_selects (args := #[]) (mvT hZ (hw _ (List.mem_of_getElem? (i := 31) rfl)))) (mvT hZ (hw _ (List.mem_of_getElem? (i := 31) rfl))) (mvT hZ (hw _ (List.mem_of_getElem? (i := 30) rfl))) (by decide) (backOf (W := 0) (own_rm4 l Z a0 hw [] wOutcome_PERMIT wStatusCode_OK h0 n0 Z0 F_OP_status) hZ (hw _ (List.mem_of_getElem? (i := 32) rfl)) (hw _ (List.mem_of_getElem? (i := 7) rfl)) (by decide) (by decide)) q9a q9c (g := (mkF m 67 #[.val (.int p1), .val (.int (1 : Int32)), .val (.ref wEffect_PERMIT), .val (.ref wEffect_DENY), .val (.ref wOutcome_PERMIT), .val (.int (1 : Int32)), .unset, .unset, .unset, .unset, .unset] [(.ref wOutcome_PERMIT)])) rfl (by rw [hml]; rfl) (Steps.refl _) (argsL := []) (rest := []) (lenOf pd_0_2 rfl) rfl (by show 2 * 0 + _ ≤ _; exact Nat.le_of_eq rfl) (hb hby at_67) (fun _ _ => ⟨rfl, e8, (by decide : 0 + 0 ≤ _), (by decide : 0 + 0 ≤ _)⟩)
  dsimp only [Pt.U, Pt.locs, Pt.cells, Pt.slots] at X9 l9 y9 z9 st9 hQ9
  subst l9 y9 z9
  obtain ⟨rfl, N9q, e9⟩ := hQ9
  have N9 := Fr.app N8 N9q
  obtain ⟨T11, X11, e11, st11⟩ := getS2 X9 hx hZ hown (host := "") (Or.inl (hw _ (List.mem_of_getElem? (i := 37) rfl))) Via.refl e9 S_StatusCode_OK (g := (mkF m 70 #[.val (.int p1), .val (.int (1 : Int32)), .val (.ref wEffect_PERMIT), .val (.ref wEffect_DENY), .val (.ref wOutcome_PERMIT), .val (.int (1 : Int32)), .unset, .unset, .unset, .unset, .unset] [(.ref wStatusCode_OK)])) rfl (hb hby at_70)
  obtain ⟨cq12, kq12, q12a, q12b, q12c⟩ := isOf hZ e11 E_wOutcome_PERMIT
  obtain ⟨_, _, ⟨T12, L12, k12, n12⟩, -, X12, ⟨Lc12, hQ12, l12, y12, z12⟩, st12⟩ := X11.virtualBack hx (y := (⟨"com/example/attributary/attributary/engine/Outcome", "getEffect", "()Lcom/example/attributary/attributary/model/Effect;"⟩ : MethodName)) (z := (⟨"com/example/attributary/attributary/engine/Outcome", "getEffect", "()Lcom/example/attributary/attributary/model/Effect;"⟩ : MethodName)) hown (mvT hZ (hw _ (List.mem_of_getElem? (i := 38) rfl))) (mvT hZ (hw _ (List.mem_of_getElem? (i := 39) rfl))) (notFace_of_selects (args := #[]) (mvT hZ (hw _ (List.mem_of_getElem? (i := 41) rfl)))) (mvT hZ (hw _ (List.mem_of_getElem? (i := 41) rfl))) (mvT hZ (hw _ (List.mem_of_getElem? (i := 40) rfl))) (by decide) (backOf (W := 0) (own_rm5_f l Z a0 hw [] wOutcome_PERMIT wDecision_PERMIT wDecision_PERMIT wEffect_PERMIT h0 n0 Z0 F_OP_decision S_Decision_PERMIT S_Effect_PERMIT rfl) hZ (hw _ (List.mem_of_getElem? (i := 42) rfl)) (hw _ (List.mem_of_getElem? (i := 7) rfl)) (by decide) (by decide)) q12a q12c (g := (mkF m 85 #[.val (.int p1), .val (.int (1 : Int32)), .val (.ref wEffect_PERMIT), .val (.ref wEffect_DENY), .val (.ref wOutcome_PERMIT), .val (.int (1 : Int32)), .val (.int (1 : Int32)), .unset, .unset, .unset, .unset] [(.ref wOutcome_PERMIT)])) rfl (by rw [hml]; rfl) (Steps.refl _) (argsL := []) (rest := []) (lenOf pd_0_3 rfl) rfl (by show 2 * 0 + _ ≤ _; exact Nat.le_of_eq rfl) (hb hby at_85) (fun _ _ => ⟨rfl, e11, (by decide : 0 + 0 ≤ _), (by decide : 0 + 0 ≤ _)⟩)
  dsimp only [Pt.U, Pt.locs, Pt.cells, Pt.slots] at X12 l12 y12 z12 st12 hQ12
  subst l12 y12 z12
  obtain ⟨rfl, N12q, e12⟩ := hQ12
  have N12 := Fr.app N9 N12q
  obtain ⟨cq13, kq13, q13a, q13b, q13c⟩ := isOf hZ e12 E_wOutcome_PERMIT
  obtain ⟨_, _, ⟨T13, L13, k13, n13⟩, -, X13, ⟨Lc13, hQ13, l13, y13, z13⟩, st13⟩ := X12.virtualBack hx (y := (⟨"com/example/attributary/attributary/engine/Outcome", "couldBe", "(Lcom/example/attributary/attributary/model/Effect;)Z"⟩ : MethodName)) (z := (⟨"com/example/attributary/attributary/engine/Outcome", "couldBe", "(Lcom/example/attributary/attributary/model/Effect;)Z"⟩ : MethodName)) hown (mvT hZ (hw _ (List.mem_of_getElem? (i := 47) rfl))) (mvT hZ (hw _ (List.mem_of_getElem? (i := 48) rfl))) (notFace_of_selects (args := #[]) (mvT hZ (hw _ (List.mem_of_getElem? (i := 50) rfl)))) (mvT hZ (hw _ (List.mem_of_getElem? (i := 50) rfl))) (mvT hZ (hw _ (List.mem_of_getElem? (i := 49) rfl))) (by decide) (backOf (W := 0) (own_rm6_tt l Z a0 hw [] wOutcome_PERMIT wEffect_PERMIT wEffect_DENY (0 : Int32) wDecision_PERMIT wDecision_PERMIT h0 n0 Z0 F_EP_decision S_Effect_DENY F_OP_couldPermit F_OP_decision E_wEffect_PERMIT nE rfl) hZ (hw _ (List.mem_of_getElem? (i := 51) rfl)) (hw _ (List.mem_of_getElem? (i := 7) rfl)) (by decide) (by decide)) q13a q13c (g := (mkF m 102 #[.val (.int p1), .val (.int (1 : Int32)), .val (.ref wEffect_PERMIT), .val (.ref wEffect_DENY), .val (.ref wOutcome_PERMIT), .val (.int (1 : Int32)), .val (.int (1 : Int32)), .val (.int (1 : Int32)), .unset, .unset, .unset] [(.ref wEffect_PERMIT), (.ref wOutcome_PERMIT)])) rfl (by rw [hml]; rfl) (Steps.refl _) (argsL := [(.ref wEffect_PERMIT)]) (rest := []) (lenOf pd_0_4 rfl) rfl (by show 2 * 0 + _ ≤ _; exact Nat.le_of_eq rfl) (hb hby at_102) (fun _ _ => ⟨rfl, e12, (by decide : 0 + 0 ≤ _), (by decide : 0 + 0 ≤ _)⟩)
  dsimp only [Pt.U, Pt.locs, Pt.cells, Pt.slots] at X13 l13 y13 z13 st13 hQ13
  subst l13 y13 z13
  obtain ⟨rfl, N13q, e13⟩ := hQ13
  have N13 := Fr.app N12 N13q
  obtain ⟨cq14, kq14, q14a, q14b, q14c⟩ := isOf hZ e13 E_wOutcome_PERMIT
  obtain ⟨_, _, ⟨T14, L14, k14, n14⟩, -, X14, ⟨Lc14, hQ14, l14, y14, z14⟩, st14⟩ := X13.virtualBack hx (y := (⟨"com/example/attributary/attributary/engine/Outcome", "couldBe", "(Lcom/example/attributary/attributary/model/Effect;)Z"⟩ : MethodName)) (z := (⟨"com/example/attributary/attributary/engine/Outcome", "couldBe", "(Lcom/example/attributary/attributary/model/Effect;)Z"⟩ : MethodName)) hown (mvT hZ (hw _ (List.mem_of_getElem? (i := 47) rfl))) (mvT hZ (hw _ (List.mem_of_getElem? (i := 48) rfl))) (notFace_of_selects (args := #[]) (mvT hZ (hw _ (List.mem_of_getElem? (i := 50) rfl)))) (mvT hZ (hw _ (List.mem_of_getElem? (i := 50) rfl))) (mvT hZ (hw _ (List.mem_of_getElem? (i := 49) rfl))) (by decide) (backOf (W := 0) (own_rm6_fft l Z a0 hw [] wOutcome_PERMIT wEffect_DENY wEffect_DENY (0 : Int32) wDecision_PERMIT wDecision_DENY h0 n0 Z0 F_ED_decision S_Effect_DENY F_OP_couldDeny F_OP_decision E_wEffect_DENY rfl nDec rfl) hZ (hw _ (List.mem_of_getElem? (i := 51) rfl)) (hw _ (List.mem_of_getElem? (i := 7) rfl)) (by decide) (by decide)) q14a q14c (g := (mkF m 110 #[.val (.int p1), .val (.int (1 : Int32)), .val (.ref wEffect_PERMIT), .val (.ref wEffect_DENY), .val (.ref wOutcome_PERMIT), .val (.int (1 : Int32)), .val (.int (1 : Int32)), .val (.int (1 : Int32)), .val (.int (1 : Int32)), .unset, .unset] [(.ref wEffect_DENY), (.ref wOutcome_PERMIT)])) rfl (by rw [hml]; rfl) (Steps.refl _) (argsL := [(.ref wEffect_DENY)]) (rest := []) (lenOf pd_0_4 rfl) rfl (by show 2 * 0 + _ ≤ _; exact Nat.le_of_eq rfl) (hb hby at_110) (fun _ _ => ⟨rfl, e13, (by decide : 0 + 0 ≤ _), (by decide : 0 + 0 ≤ _)⟩)
  dsimp only [Pt.U, Pt.locs, Pt.cells, Pt.slots] at X14 l14 y14 z14 st14 hQ14
  subst l14 y14 z14
  obtain ⟨rfl, N14q, e14⟩ := hQ14
  have N14 := Fr.app N13 N14q
  obtain ⟨cq15, kq15, q15a, q15b, q15c⟩ := isOf hZ e14 E_wOutcome_PERMIT
  obtain ⟨_, _, ⟨T15, L15, k15, n15⟩, -, X15, ⟨Lc15, hQ15, l15, y15, z15⟩, st15⟩ := X14.virtualBack hx (y := (⟨"com/example/attributary/attributary/engine/Outcome", "getDirectives", "()Ljava/util/List;"⟩ : MethodName)) (z := (⟨"com/example/attributary/attributary/engine/Outcome", "getDirectives", "()Ljava/util/List;"⟩ : MethodName)) hown (mvT hZ (hw _ (List.mem_of_getElem? (i := 57) rfl))) (mvT hZ (hw _ (List.mem_of_getElem? (i := 58) rfl))) (notFace_of_selects (args := #[]) (mvT hZ (hw _ (List.mem_of_getElem? (i := 60) rfl)))) (mvT hZ (hw _ (List.mem_of_getElem? (i := 60) rfl))) (mvT hZ (hw _ (List.mem_of_getElem? (i := 59) rfl))) (by decide) (backOf (W := 0) (own_rm7 l Z a0 hw [] wOutcome_PERMIT wDir h0 n0 Z0 F_OP_dir) hZ (hw _ (List.mem_of_getElem? (i := 61) rfl)) (hw _ (List.mem_of_getElem? (i := 7) rfl)) (by decide) (by decide)) q15a q15c (g := (mkF m 125 #[.val (.int p1), .val (.int (1 : Int32)), .val (.ref wEffect_PERMIT), .val (.ref wEffect_DENY), .val (.ref wOutcome_PERMIT), .val (.int (1 : Int32)), .val (.int (1 : Int32)), .val (.int (1 : Int32)), .val (.int (1 : Int32)), .val (.int (1 : Int32)), .unset] [(.ref wOutcome_PERMIT)])) rfl (by rw [hml]; rfl) (Steps.refl _) (argsL := []) (rest := []) (lenOf pd_0_5 rfl) rfl (by show 2 * 0 + _ ≤ _; exact Nat.le_of_eq rfl) (hb hby at_125) (fun _ _ => ⟨rfl, e14, (by decide : 0 + 0 ≤ _), (by decide : 0 + 0 ≤ _)⟩)
  dsimp only [Pt.U, Pt.locs, Pt.cells, Pt.slots] at X15 l15 y15 z15 st15 hQ15
  subst l15 y15 z15
  obtain ⟨rfl, N15q, e15⟩ := hQ15
  have N15 := Fr.app N14 N15q
  obtain ⟨cq16, kq16, q16a, q16b, q16c⟩ := isOf hZ e15 E_wDir
  obtain ⟨_, _, ⟨T16, L16, k16, n16⟩, -, X16, ⟨Lc16, hQ16, l16, y16, z16⟩, st16⟩ := X15.interfaceBack hx (xi := (⟨"java/util/List", "size", "()I"⟩ : MethodName)) (y := (⟨"java/util/ImmutableCollections$ListN", "size", "()I"⟩ : MethodName)) hown (mvT hZ (hw _ (List.mem_of_getElem? (i := 64) rfl))) (mvT hZ (hw _ (List.mem_of_getElem? (i := 65) rfl))) (mvT hZ (hw _ (List.mem_of_getElem? (i := 66) rfl))) (mvT hZ (hw _ (List.mem_of_getElem? (i := 67) rfl))) (mvT hZ (hw _ (List.mem_of_getElem? (i := 68) rfl))) (mvT hZ (hw _ (List.mem_of_getElem? (i := 69) rfl))) (mvT hZ (hw _ (List.mem_of_getElem? (i := 70) rfl))) (mvT hZ (hw _ (List.mem_of_getElem? (i := 71) rfl))) (by decide) (backOf (W := 0) (own_rm8 l Z a0 hw [] wDir wEl cl (0 : Int32) h0 n0 Z0 F_elements Ar Sz (by decide)) hZ (hw _ (List.mem_of_getElem? (i := 73) rfl)) (hw _ (List.mem_of_getElem? (i := 72) rfl)) (by decide) (by decide)) q16a q16b q16c (g := (mkF m 128 #[.val (.int p1), .val (.int (1 : Int32)), .val (.ref wEffect_PERMIT), .val (.ref wEffect_DENY), .val (.ref wOutcome_PERMIT), .val (.int (1 : Int32)), .val (.int (1 : Int32)), .val (.int (1 : Int32)), .val (.int (1 : Int32)), .val (.int (1 : Int32)), .unset] [(.ref wDir)])) rfl (by rw [hml]; rfl) (Steps.refl _) (argsL := []) (rest := []) (lenOf pd_0_6 rfl) rfl (by show 2 * 0 + _ ≤ _; exact Nat.le_of_eq rfl) (hb hby at_128) (fun _ _ => ⟨rfl, e15, (by decide : 0 + 0 ≤ _), (by decide : 0 + 0 ≤ _)⟩)
  dsimp only [Pt.U, Pt.locs, Pt.cells, Pt.slots] at X16 l16 y16 z16 st16 hQ16
  subst l16 y16 z16
  obtain ⟨rfl, N16q, e16⟩ := hQ16
  have N16 := Fr.app N15 N16q
  obtain ⟨fs, hr, hrun, hended, hW, hsame⟩ := X16.leave (v := some (.int (1 : Int32))) (fun h => by rw [Bd.returns] at h; cases h)
  refine ⟨_, _, pre0 _ ?_, hrun, hended, _, _, rfl, ?_, ⟨_, rfl⟩, hW, hsame.mono (by decide) (by decide)⟩
  · show Steps p.tables e below (s₁.setTop (mkF m 0 #[.val (.int p1), .unset, .unset, .unset, .unset, .unset, .unset, .unset, .unset, .unset, .unset] [])) _
    refine XS.iloadN X0.here hx rfl (hb hby at_0) rfl ?_
    show Steps p.tables e below (s₁.setTop (mkF m 1 #[.val (.int p1), .unset, .unset, .unset, .unset, .unset, .unset, .unset, .unset, .unset, .unset] [(.int p1)])) _
    refine XS.iconst X0.here hx rfl (hb hby at_1) ?_
    show Steps p.tables e below (s₁.setTop (mkF m 2 #[.val (.int p1), .unset, .unset, .unset, .unset, .unset, .unset, .unset, .unset, .unset, .unset] [(.int (1 : Int32)), (.int p1)])) _
    refine XS.iand X0.here hx rfl (hb hby at_2) rfl ?_
    show Steps p.tables e below (s₁.setTop (mkF m 3 #[.val (.int p1), .unset, .unset, .unset, .unset, .unset, .unset, .unset, .unset, .unset, .unset] [(.int (p1 &&& (1 : Int32)))])) _
    refine XS.ifNo X0.here hx rfl (hb hby at_3) rfl ((if0 _ _).trans (feq hc3).1) ?_
    show Steps p.tables e below (s₁.setTop (mkF m 6 #[.val (.int p1), .unset, .unset, .unset, .unset, .unset, .unset, .unset, .unset, .unset, .unset] [])) _
    refine XS.iconst X0.here hx rfl (hb hby at_6) ?_
    show Steps p.tables e below (s₁.setTop (mkF m 7 #[.val (.int p1), .unset, .unset, .unset, .unset, .unset, .unset, .unset, .unset, .unset, .unset] [(.int (1 : Int32))])) _
    refine XS.goto X0.here hx rfl (pc0 := 7) (pc' := 11) rfl (hb hby at_7) (by decide) (by decide) ?_
    show Steps p.tables e below (s₁.setTop (mkF m 11 #[.val (.int p1), .unset, .unset, .unset, .unset, .unset, .unset, .unset, .unset, .unset, .unset] [(.int (1 : Int32))])) _
    refine XS.istoreN X0.here hx rfl (hb hby at_11) rfl (l' := #[.val (.int p1), .val (.int (1 : Int32)), .unset, .unset, .unset, .unset, .unset, .unset, .unset, .unset, .unset]) rfl ?_
    show Steps p.tables e below (s₁.setTop (mkF m 12 #[.val (.int p1), .val (.int (1 : Int32)), .unset, .unset, .unset, .unset, .unset, .unset, .unset, .unset, .unset] [])) _
    refine XS.iloadN X0.here hx rfl (hb hby at_12) rfl ?_
    show Steps p.tables e below (s₁.setTop (mkF m 13 #[.val (.int p1), .val (.int (1 : Int32)), .unset, .unset, .unset, .unset, .unset, .unset, .unset, .unset, .unset] [(.int (1 : Int32))])) _
    refine XS.ifNo X0.here hx rfl (hb hby at_13) rfl ((if0 _ _).trans (feq hc13).1) ?_
    show Steps p.tables e below (s₁.setTop (mkF m 16 #[.val (.int p1), .val (.int (1 : Int32)), .unset, .unset, .unset, .unset, .unset, .unset, .unset, .unset, .unset] [])) _
    refine st3 _ ?_
    show Steps p.tables e below (T3.setTop (mkF m 19 #[.val (.int p1), .val (.int (1 : Int32)), .unset, .unset, .unset, .unset, .unset, .unset, .unset, .unset, .unset] [(.ref wEffect_PERMIT)])) _
    refine XS.goto X3.here hx rfl (pc0 := 19) (pc' := 25) rfl (hb hby at_19) (by decide) (by decide) ?_
    show Steps p.tables e below (T3.setTop (mkF m 25 #[.val (.int p1), .val (.int (1 : Int32)), .unset, .unset, .unset, .unset, .unset, .unset, .unset, .unset, .unset] [(.ref wEffect_PERMIT)])) _
    refine XS.astoreN X3.here hx rfl (hb hby at_25) rfl rfl (l' := #[.val (.int p1), .val (.int (1 : Int32)), .val (.ref wEffect_PERMIT), .unset, .unset, .unset, .unset, .unset, .unset, .unset, .unset]) rfl ?_
    show Steps p.tables e below (T3.setTop (mkF m 26 #[.val (.int p1), .val (.int (1 : Int32)), .val (.ref wEffect_PERMIT), .unset, .unset, .unset, .unset, .unset, .unset, .unset, .unset] [])) _
    refine XS.iloadN X3.here hx rfl (hb hby at_26) rfl ?_
    show Steps p.tables e below (T3.setTop (mkF m 27 #[.val (.int p1), .val (.int (1 : Int32)), .val (.ref wEffect_PERMIT), .unset, .unset, .unset, .unset, .unset, .unset, .unset, .unset] [(.int (1 : Int32))])) _
    refine XS.ifNo X3.here hx rfl (hb hby at_27) rfl ((if0 _ _).trans (feq hc27).1) ?_
    show Steps p.tables e below (T3.setTop (mkF m 30 #[.val (.int p1), .val (.int (1 : Int32)), .val (.ref wEffect_PERMIT), .unset, .unset, .unset, .unset, .unset, .unset, .unset, .unset] [])) _
    refine st5 _ ?_
    show Steps p.tables e below (T5.setTop (mkF m 33 #[.val (.int p1), .val (.int (1 : Int32)), .val (.ref wEffect_PERMIT), .unset, .unset, .unset, .unset, .unset, .unset, .unset, .unset] [(.ref wEffect_DENY)])) _
    refine XS.goto X5.here hx rfl (pc0 := 33) (pc' := 39) rfl (hb hby at_33) (by decide) (by decide) ?_
    show Steps p.tables e below (T5.setTop (mkF m 39 #[.val (.int p1), .val (.int (1 : Int32)), .val (.ref wEffect_PERMIT), .unset, .unset, .unset, .unset, .unset, .unset, .unset, .unset] [(.ref wEffect_DENY)])) _
    refine XS.astoreN X5.here hx rfl (hb hby at_39) rfl rfl (l' := #[.val (.int p1), .val (.int (1 : Int32)), .val (.ref wEffect_PERMIT), .val (.ref wEffect_DENY), .unset, .unset, .unset, .unset, .unset, .unset, .unset]) rfl ?_
    show Steps p.tables e below (T5.setTop (mkF m 40 #[.val (.int p1), .val (.int (1 : Int32)), .val (.ref wEffect_PERMIT), .val (.ref wEffect_DENY), .unset, .unset, .unset, .unset, .unset, .unset, .unset] [])) _
    refine XS.aloadN X5.here hx rfl (hb hby at_40) rfl rfl ?_
    show Steps p.tables e below (T5.setTop (mkF m 41 #[.val (.int p1), .val (.int (1 : Int32)), .val (.ref wEffect_PERMIT), .val (.ref wEffect_DENY), .unset, .unset, .unset, .unset, .unset, .unset, .unset] [(.ref wEffect_PERMIT)])) _
    refine st6 _ ?_
    show Steps p.tables e below (T6.setTop (mkF m 44 #[.val (.int p1), .val (.int (1 : Int32)), .val (.ref wEffect_PERMIT), .val (.ref wEffect_DENY), .unset, .unset, .unset, .unset, .unset, .unset, .unset] [(.ref wOutcome_PERMIT)])) _
    refine XS.astore X6.here hx rfl (hb hby at_44) rfl rfl (l' := #[.val (.int p1), .val (.int (1 : Int32)), .val (.ref wEffect_PERMIT), .val (.ref wEffect_DENY), .val (.ref wOutcome_PERMIT), .unset, .unset, .unset, .unset, .unset, .unset]) rfl ?_
    show Steps p.tables e below (T6.setTop (mkF m 46 #[.val (.int p1), .val (.int (1 : Int32)), .val (.ref wEffect_PERMIT), .val (.ref wEffect_DENY), .val (.ref wOutcome_PERMIT), .unset, .unset, .unset, .unset, .unset, .unset] [])) _
    refine XS.aload X6.here hx rfl (hb hby at_46) rfl rfl ?_
    show Steps p.tables e below (T6.setTop (mkF m 48 #[.val (.int p1), .val (.int (1 : Int32)), .val (.ref wEffect_PERMIT), .val (.ref wEffect_DENY), .val (.ref wOutcome_PERMIT), .unset, .unset, .unset, .unset, .unset, .unset] [(.ref wOutcome_PERMIT)])) _
    refine st7.trans ?_
    show Steps p.tables e below (T7.setTop (mkF m 51 #[.val (.int p1), .val (.int (1 : Int32)), .val (.ref wEffect_PERMIT), .val (.ref wEffect_DENY), .val (.ref wOutcome_PERMIT), .unset, .unset, .unset, .unset, .unset, .unset] [(.ref wDecision_PERMIT)])) _
    refine XS.aloadN X7.here hx rfl (hb hby at_51) rfl rfl ?_
    show Steps p.tables e below (T7.setTop (mkF m 52 #[.val (.int p1), .val (.int (1 : Int32)), .val (.ref wEffect_PERMIT), .val (.ref wEffect_DENY), .val (.ref wOutcome_PERMIT), .unset, .unset, .unset, .unset, .unset, .unset] [(.ref wEffect_PERMIT), (.ref wDecision_PERMIT)])) _
    refine st8.trans ?_
    show Steps p.tables e below (T8.setTop (mkF m 55 #[.val (.int p1), .val (.int (1 : Int32)), .val (.ref wEffect_PERMIT), .val (.ref wEffect_DENY), .val (.ref wOutcome_PERMIT), .unset, .unset, .unset, .unset, .unset, .unset] [(.ref wDecision_PERMIT), (.ref wDecision_PERMIT)])) _
    refine Jvm.RoadKit.acmp (g := (mkF m 55 #[.val (.int p1), .val (.int (1 : Int32)), .val (.ref wEffect_PERMIT), .val (.ref wEffect_DENY), .val (.ref wOutcome_PERMIT), .unset, .unset, .unset, .unset, .unset, .unset] [(.ref wDecision_PERMIT), (.ref wDecision_PERMIT)])) X8 hx rfl rfl rfl (pc0 := 55) (pc' := 58) (same := true) rfl (hb hby at_55) rfl (decide_eq_true rfl) (by decide) (by decide) ?_
    show Steps p.tables e below (T8.setTop (mkF m 58 #[.val (.int p1), .val (.int (1 : Int32)), .val (.ref wEffect_PERMIT), .val (.ref wEffect_DENY), .val (.ref wOutcome_PERMIT), .unset, .unset, .unset, .unset, .unset, .unset] [])) _
    refine XS.iconst X8.here hx rfl (hb hby at_58) ?_
    show Steps p.tables e below (T8.setTop (mkF m 59 #[.val (.int p1), .val (.int (1 : Int32)), .val (.ref wEffect_PERMIT), .val (.ref wEffect_DENY), .val (.ref wOutcome_PERMIT), .unset, .unset, .unset, .unset, .unset, .unset] [(.int (1 : Int32))])) _
    refine XS.goto X8.here hx rfl (pc0 := 59) (pc' := 63) rfl (hb hby at_59) (by decide) (by decide) ?_
    show Steps p.tables e below (T8.setTop (mkF m 63 #[.val (.int p1), .val (.int (1 : Int32)), .val (.ref wEffect_PERMIT), .val (.ref wEffect_DENY), .val (.ref wOutcome_PERMIT), .unset, .unset, .unset, .unset, .unset, .unset] [(.int (1 : Int32))])) _
    refine XS.istore X8.here hx rfl (hb hby at_63) rfl (l' := #[.val (.int p1), .val (.int (1 : Int32)), .val (.ref wEffect_PERMIT), .val (.ref wEffect_DENY), .val (.ref wOutcome_PERMIT), .val (.int (1 : Int32)), .unset, .unset, .unset, .unset, .unset]) rfl ?_
    show Steps p.tables e below (T8.setTop (mkF m 65 #[.val (.int p1), .val (.int (1 : Int32)), .val (.ref wEffect_PERMIT), .val (.ref wEffect_DENY), .val (.ref wOutcome_PERMIT), .val (.int (1 : Int32)), .unset, .unset, .unset, .unset, .unset] [])) _
    refine XS.aload X8.here hx rfl (hb hby at_65) rfl rfl ?_
    show Steps p.tables e below (T8.setTop (mkF m 67 #[.val (.int p1), .val (.int (1 : Int32)), .val (.ref wEffect_PERMIT), .val (.ref wEffect_DENY), .val (.ref wOutcome_PERMIT), .val (.int (1 : Int32)), .unset, .unset, .unset, .unset, .unset] [(.ref wOutcome_PERMIT)])) _
    refine st9.trans ?_
    show Steps p.tables e below (T9.setTop (mkF m 70 #[.val (.int p1), .val (.int (1 : Int32)), .val (.ref wEffect_PERMIT), .val (.ref wEffect_DENY), .val (.ref wOutcome_PERMIT), .val (.int (1 : Int32)), .unset, .unset, .unset, .unset, .unset] [(.ref wStatusCode_OK)])) _
    refine st11 _ ?_
    show Steps p.tables e below (T11.setTop (mkF m 73 #[.val (.int p1), .val (.int (1 : Int32)), .val (.ref wEffect_PERMIT), .val (.ref wEffect_DENY), .val (.ref wOutcome_PERMIT), .val (.int (1 : Int32)), .unset, .unset, .unset, .unset, .unset] [(.ref wStatusCode_OK), (.ref wStatusCode_OK)])) _
    refine Jvm.RoadKit.acmp (g := (mkF m 73 #[.val (.int p1), .val (.int (1 : Int32)), .val (.ref wEffect_PERMIT), .val (.ref wEffect_DENY), .val (.ref wOutcome_PERMIT), .val (.int (1 : Int32)), .unset, .unset, .unset, .unset, .unset] [(.ref wStatusCode_OK), (.ref wStatusCode_OK)])) X11 hx rfl rfl rfl (pc0 := 73) (pc' := 76) (same := true) rfl (hb hby at_73) rfl (decide_eq_true (rfl)) (by decide) (by decide) ?_
    show Steps p.tables e below (T11.setTop (mkF m 76 #[.val (.int p1), .val (.int (1 : Int32)), .val (.ref wEffect_PERMIT), .val (.ref wEffect_DENY), .val (.ref wOutcome_PERMIT), .val (.int (1 : Int32)), .unset, .unset, .unset, .unset, .unset] [])) _
    refine XS.iconst X11.here hx rfl (hb hby at_76) ?_
    show Steps p.tables e below (T11.setTop (mkF m 77 #[.val (.int p1), .val (.int (1 : Int32)), .val (.ref wEffect_PERMIT), .val (.ref wEffect_DENY), .val (.ref wOutcome_PERMIT), .val (.int (1 : Int32)), .unset, .unset, .unset, .unset, .unset] [(.int (1 : Int32))])) _
    refine XS.goto X11.here hx rfl (pc0 := 77) (pc' := 81) rfl (hb hby at_77) (by decide) (by decide) ?_
    show Steps p.tables e below (T11.setTop (mkF m 81 #[.val (.int p1), .val (.int (1 : Int32)), .val (.ref wEffect_PERMIT), .val (.ref wEffect_DENY), .val (.ref wOutcome_PERMIT), .val (.int (1 : Int32)), .unset, .unset, .unset, .unset, .unset] [(.int (1 : Int32))])) _
    refine XS.istore X11.here hx rfl (hb hby at_81) rfl (l' := #[.val (.int p1), .val (.int (1 : Int32)), .val (.ref wEffect_PERMIT), .val (.ref wEffect_DENY), .val (.ref wOutcome_PERMIT), .val (.int (1 : Int32)), .val (.int (1 : Int32)), .unset, .unset, .unset, .unset]) rfl ?_
    show Steps p.tables e below (T11.setTop (mkF m 83 #[.val (.int p1), .val (.int (1 : Int32)), .val (.ref wEffect_PERMIT), .val (.ref wEffect_DENY), .val (.ref wOutcome_PERMIT), .val (.int (1 : Int32)), .val (.int (1 : Int32)), .unset, .unset, .unset, .unset] [])) _
    refine XS.aload X11.here hx rfl (hb hby at_83) rfl rfl ?_
    show Steps p.tables e below (T11.setTop (mkF m 85 #[.val (.int p1), .val (.int (1 : Int32)), .val (.ref wEffect_PERMIT), .val (.ref wEffect_DENY), .val (.ref wOutcome_PERMIT), .val (.int (1 : Int32)), .val (.int (1 : Int32)), .unset, .unset, .unset, .unset] [(.ref wOutcome_PERMIT)])) _
    refine st12.trans ?_
    show Steps p.tables e below (T12.setTop (mkF m 88 #[.val (.int p1), .val (.int (1 : Int32)), .val (.ref wEffect_PERMIT), .val (.ref wEffect_DENY), .val (.ref wOutcome_PERMIT), .val (.int (1 : Int32)), .val (.int (1 : Int32)), .unset, .unset, .unset, .unset] [(.ref wEffect_PERMIT)])) _
    refine XS.aloadN X12.here hx rfl (hb hby at_88) rfl rfl ?_
    show Steps p.tables e below (T12.setTop (mkF m 89 #[.val (.int p1), .val (.int (1 : Int32)), .val (.ref wEffect_PERMIT), .val (.ref wEffect_DENY), .val (.ref wOutcome_PERMIT), .val (.int (1 : Int32)), .val (.int (1 : Int32)), .unset, .unset, .unset, .unset] [(.ref wEffect_PERMIT), (.ref wEffect_PERMIT)])) _
    refine Jvm.RoadKit.acmp (g := (mkF m 89 #[.val (.int p1), .val (.int (1 : Int32)), .val (.ref wEffect_PERMIT), .val (.ref wEffect_DENY), .val (.ref wOutcome_PERMIT), .val (.int (1 : Int32)), .val (.int (1 : Int32)), .unset, .unset, .unset, .unset] [(.ref wEffect_PERMIT), (.ref wEffect_PERMIT)])) X12 hx rfl rfl rfl (pc0 := 89) (pc' := 92) (same := true) rfl (hb hby at_89) rfl (decide_eq_true (rfl)) (by decide) (by decide) ?_
    show Steps p.tables e below (T12.setTop (mkF m 92 #[.val (.int p1), .val (.int (1 : Int32)), .val (.ref wEffect_PERMIT), .val (.ref wEffect_DENY), .val (.ref wOutcome_PERMIT), .val (.int (1 : Int32)), .val (.int (1 : Int32)), .unset, .unset, .unset, .unset] [])) _
    refine XS.iconst X12.here hx rfl (hb hby at_92) ?_
    show Steps p.tables e below (T12.setTop (mkF m 93 #[.val (.int p1), .val (.int (1 : Int32)), .val (.ref wEffect_PERMIT), .val (.ref wEffect_DENY), .val (.ref wOutcome_PERMIT), .val (.int (1 : Int32)), .val (.int (1 : Int32)), .unset, .unset, .unset, .unset] [(.int (1 : Int32))])) _
    refine XS.goto X12.here hx rfl (pc0 := 93) (pc' := 97) rfl (hb hby at_93) (by decide) (by decide) ?_
    show Steps p.tables e below (T12.setTop (mkF m 97 #[.val (.int p1), .val (.int (1 : Int32)), .val (.ref wEffect_PERMIT), .val (.ref wEffect_DENY), .val (.ref wOutcome_PERMIT), .val (.int (1 : Int32)), .val (.int (1 : Int32)), .unset, .unset, .unset, .unset] [(.int (1 : Int32))])) _
    refine XS.istore X12.here hx rfl (hb hby at_97) rfl (l' := #[.val (.int p1), .val (.int (1 : Int32)), .val (.ref wEffect_PERMIT), .val (.ref wEffect_DENY), .val (.ref wOutcome_PERMIT), .val (.int (1 : Int32)), .val (.int (1 : Int32)), .val (.int (1 : Int32)), .unset, .unset, .unset]) rfl ?_
    show Steps p.tables e below (T12.setTop (mkF m 99 #[.val (.int p1), .val (.int (1 : Int32)), .val (.ref wEffect_PERMIT), .val (.ref wEffect_DENY), .val (.ref wOutcome_PERMIT), .val (.int (1 : Int32)), .val (.int (1 : Int32)), .val (.int (1 : Int32)), .unset, .unset, .unset] [])) _
    refine XS.aload X12.here hx rfl (hb hby at_99) rfl rfl ?_
    show Steps p.tables e below (T12.setTop (mkF m 101 #[.val (.int p1), .val (.int (1 : Int32)), .val (.ref wEffect_PERMIT), .val (.ref wEffect_DENY), .val (.ref wOutcome_PERMIT), .val (.int (1 : Int32)), .val (.int (1 : Int32)), .val (.int (1 : Int32)), .unset, .unset, .unset] [(.ref wOutcome_PERMIT)])) _
    refine XS.aloadN X12.here hx rfl (hb hby at_101) rfl rfl ?_
    show Steps p.tables e below (T12.setTop (mkF m 102 #[.val (.int p1), .val (.int (1 : Int32)), .val (.ref wEffect_PERMIT), .val (.ref wEffect_DENY), .val (.ref wOutcome_PERMIT), .val (.int (1 : Int32)), .val (.int (1 : Int32)), .val (.int (1 : Int32)), .unset, .unset, .unset] [(.ref wEffect_PERMIT), (.ref wOutcome_PERMIT)])) _
    refine st13.trans ?_
    show Steps p.tables e below (T13.setTop (mkF m 105 #[.val (.int p1), .val (.int (1 : Int32)), .val (.ref wEffect_PERMIT), .val (.ref wEffect_DENY), .val (.ref wOutcome_PERMIT), .val (.int (1 : Int32)), .val (.int (1 : Int32)), .val (.int (1 : Int32)), .unset, .unset, .unset] [(.int (1 : Int32))])) _
    refine XS.istore X13.here hx rfl (hb hby at_105) rfl (l' := #[.val (.int p1), .val (.int (1 : Int32)), .val (.ref wEffect_PERMIT), .val (.ref wEffect_DENY), .val (.ref wOutcome_PERMIT), .val (.int (1 : Int32)), .val (.int (1 : Int32)), .val (.int (1 : Int32)), .val (.int (1 : Int32)), .unset, .unset]) rfl ?_
    show Steps p.tables e below (T13.setTop (mkF m 107 #[.val (.int p1), .val (.int (1 : Int32)), .val (.ref wEffect_PERMIT), .val (.ref wEffect_DENY), .val (.ref wOutcome_PERMIT), .val (.int (1 : Int32)), .val (.int (1 : Int32)), .val (.int (1 : Int32)), .val (.int (1 : Int32)), .unset, .unset] [])) _
    refine XS.aload X13.here hx rfl (hb hby at_107) rfl rfl ?_
    show Steps p.tables e below (T13.setTop (mkF m 109 #[.val (.int p1), .val (.int (1 : Int32)), .val (.ref wEffect_PERMIT), .val (.ref wEffect_DENY), .val (.ref wOutcome_PERMIT), .val (.int (1 : Int32)), .val (.int (1 : Int32)), .val (.int (1 : Int32)), .val (.int (1 : Int32)), .unset, .unset] [(.ref wOutcome_PERMIT)])) _
    refine XS.aloadN X13.here hx rfl (hb hby at_109) rfl rfl ?_
    show Steps p.tables e below (T13.setTop (mkF m 110 #[.val (.int p1), .val (.int (1 : Int32)), .val (.ref wEffect_PERMIT), .val (.ref wEffect_DENY), .val (.ref wOutcome_PERMIT), .val (.int (1 : Int32)), .val (.int (1 : Int32)), .val (.int (1 : Int32)), .val (.int (1 : Int32)), .unset, .unset] [(.ref wEffect_DENY), (.ref wOutcome_PERMIT)])) _
    refine st14.trans ?_
    show Steps p.tables e below (T14.setTop (mkF m 113 #[.val (.int p1), .val (.int (1 : Int32)), .val (.ref wEffect_PERMIT), .val (.ref wEffect_DENY), .val (.ref wOutcome_PERMIT), .val (.int (1 : Int32)), .val (.int (1 : Int32)), .val (.int (1 : Int32)), .val (.int (1 : Int32)), .unset, .unset] [(.int (0 : Int32))])) _
    refine XS.ifNo X14.here hx rfl (hb hby at_113) rfl ((if0 _ _).trans (teq (rfl : (0 : Int32) = (0 : Int32))).2) ?_
    show Steps p.tables e below (T14.setTop (mkF m 116 #[.val (.int p1), .val (.int (1 : Int32)), .val (.ref wEffect_PERMIT), .val (.ref wEffect_DENY), .val (.ref wOutcome_PERMIT), .val (.int (1 : Int32)), .val (.int (1 : Int32)), .val (.int (1 : Int32)), .val (.int (1 : Int32)), .unset, .unset] [])) _
    refine XS.iconst X14.here hx rfl (hb hby at_116) ?_
    show Steps p.tables e below (T14.setTop (mkF m 117 #[.val (.int p1), .val (.int (1 : Int32)), .val (.ref wEffect_PERMIT), .val (.ref wEffect_DENY), .val (.ref wOutcome_PERMIT), .val (.int (1 : Int32)), .val (.int (1 : Int32)), .val (.int (1 : Int32)), .val (.int (1 : Int32)), .unset, .unset] [(.int (1 : Int32))])) _
    refine XS.goto X14.here hx rfl (pc0 := 117) (pc' := 121) rfl (hb hby at_117) (by decide) (by decide) ?_
    show Steps p.tables e below (T14.setTop (mkF m 121 #[.val (.int p1), .val (.int (1 : Int32)), .val (.ref wEffect_PERMIT), .val (.ref wEffect_DENY), .val (.ref wOutcome_PERMIT), .val (.int (1 : Int32)), .val (.int (1 : Int32)), .val (.int (1 : Int32)), .val (.int (1 : Int32)), .unset, .unset] [(.int (1 : Int32))])) _
    refine XS.istore X14.here hx rfl (hb hby at_121) rfl (l' := #[.val (.int p1), .val (.int (1 : Int32)), .val (.ref wEffect_PERMIT), .val (.ref wEffect_DENY), .val (.ref wOutcome_PERMIT), .val (.int (1 : Int32)), .val (.int (1 : Int32)), .val (.int (1 : Int32)), .val (.int (1 : Int32)), .val (.int (1 : Int32)), .unset]) rfl ?_
    show Steps p.tables e below (T14.setTop (mkF m 123 #[.val (.int p1), .val (.int (1 : Int32)), .val (.ref wEffect_PERMIT), .val (.ref wEffect_DENY), .val (.ref wOutcome_PERMIT), .val (.int (1 : Int32)), .val (.int (1 : Int32)), .val (.int (1 : Int32)), .val (.int (1 : Int32)), .val (.int (1 : Int32)), .unset] [])) _
    refine XS.aload X14.here hx rfl (hb hby at_123) rfl rfl ?_
    show Steps p.tables e below (T14.setTop (mkF m 125 #[.val (.int p1), .val (.int (1 : Int32)), .val (.ref wEffect_PERMIT), .val (.ref wEffect_DENY), .val (.ref wOutcome_PERMIT), .val (.int (1 : Int32)), .val (.int (1 : Int32)), .val (.int (1 : Int32)), .val (.int (1 : Int32)), .val (.int (1 : Int32)), .unset] [(.ref wOutcome_PERMIT)])) _
    refine st15.trans ?_
    show Steps p.tables e below (T15.setTop (mkF m 128 #[.val (.int p1), .val (.int (1 : Int32)), .val (.ref wEffect_PERMIT), .val (.ref wEffect_DENY), .val (.ref wOutcome_PERMIT), .val (.int (1 : Int32)), .val (.int (1 : Int32)), .val (.int (1 : Int32)), .val (.int (1 : Int32)), .val (.int (1 : Int32)), .unset] [(.ref wDir)])) _
    refine st16.trans ?_
    show Steps p.tables e below (T16.setTop (mkF m 133 #[.val (.int p1), .val (.int (1 : Int32)), .val (.ref wEffect_PERMIT), .val (.ref wEffect_DENY), .val (.ref wOutcome_PERMIT), .val (.int (1 : Int32)), .val (.int (1 : Int32)), .val (.int (1 : Int32)), .val (.int (1 : Int32)), .val (.int (1 : Int32)), .unset] [(.int (0 : Int32))])) _
    refine XS.ifNo X16.here hx rfl (hb hby at_133) rfl ((if0 _ _).trans (teq (rfl : (0 : Int32) = (0 : Int32))).2) ?_
    show Steps p.tables e below (T16.setTop (mkF m 136 #[.val (.int p1), .val (.int (1 : Int32)), .val (.ref wEffect_PERMIT), .val (.ref wEffect_DENY), .val (.ref wOutcome_PERMIT), .val (.int (1 : Int32)), .val (.int (1 : Int32)), .val (.int (1 : Int32)), .val (.int (1 : Int32)), .val (.int (1 : Int32)), .unset] [])) _
    refine XS.iconst X16.here hx rfl (hb hby at_136) ?_
    show Steps p.tables e below (T16.setTop (mkF m 137 #[.val (.int p1), .val (.int (1 : Int32)), .val (.ref wEffect_PERMIT), .val (.ref wEffect_DENY), .val (.ref wOutcome_PERMIT), .val (.int (1 : Int32)), .val (.int (1 : Int32)), .val (.int (1 : Int32)), .val (.int (1 : Int32)), .val (.int (1 : Int32)), .unset] [(.int (1 : Int32))])) _
    refine XS.goto X16.here hx rfl (pc0 := 137) (pc' := 141) rfl (hb hby at_137) (by decide) (by decide) ?_
    show Steps p.tables e below (T16.setTop (mkF m 141 #[.val (.int p1), .val (.int (1 : Int32)), .val (.ref wEffect_PERMIT), .val (.ref wEffect_DENY), .val (.ref wOutcome_PERMIT), .val (.int (1 : Int32)), .val (.int (1 : Int32)), .val (.int (1 : Int32)), .val (.int (1 : Int32)), .val (.int (1 : Int32)), .unset] [(.int (1 : Int32))])) _
    refine XS.istore X16.here hx rfl (hb hby at_141) rfl (l' := #[.val (.int p1), .val (.int (1 : Int32)), .val (.ref wEffect_PERMIT), .val (.ref wEffect_DENY), .val (.ref wOutcome_PERMIT), .val (.int (1 : Int32)), .val (.int (1 : Int32)), .val (.int (1 : Int32)), .val (.int (1 : Int32)), .val (.int (1 : Int32)), .val (.int (1 : Int32))]) rfl ?_
    show Steps p.tables e below (T16.setTop (mkF m 143 #[.val (.int p1), .val (.int (1 : Int32)), .val (.ref wEffect_PERMIT), .val (.ref wEffect_DENY), .val (.ref wOutcome_PERMIT), .val (.int (1 : Int32)), .val (.int (1 : Int32)), .val (.int (1 : Int32)), .val (.int (1 : Int32)), .val (.int (1 : Int32)), .val (.int (1 : Int32))] [])) _
    refine XS.iload X16.here hx rfl (hb hby at_143) rfl ?_
    show Steps p.tables e below (T16.setTop (mkF m 145 #[.val (.int p1), .val (.int (1 : Int32)), .val (.ref wEffect_PERMIT), .val (.ref wEffect_DENY), .val (.ref wOutcome_PERMIT), .val (.int (1 : Int32)), .val (.int (1 : Int32)), .val (.int (1 : Int32)), .val (.int (1 : Int32)), .val (.int (1 : Int32)), .val (.int (1 : Int32))] [(.int (1 : Int32))])) _
    refine XS.ifNo X16.here hx rfl (hb hby at_145) rfl ((if0 _ _).trans (feq hc145).1) ?_
    show Steps p.tables e below (T16.setTop (mkF m 148 #[.val (.int p1), .val (.int (1 : Int32)), .val (.ref wEffect_PERMIT), .val (.ref wEffect_DENY), .val (.ref wOutcome_PERMIT), .val (.int (1 : Int32)), .val (.int (1 : Int32)), .val (.int (1 : Int32)), .val (.int (1 : Int32)), .val (.int (1 : Int32)), .val (.int (1 : Int32))] [])) _
    refine XS.iload X16.here hx rfl (hb hby at_148) rfl ?_
    show Steps p.tables e below (T16.setTop (mkF m 150 #[.val (.int p1), .val (.int (1 : Int32)), .val (.ref wEffect_PERMIT), .val (.ref wEffect_DENY), .val (.ref wOutcome_PERMIT), .val (.int (1 : Int32)), .val (.int (1 : Int32)), .val (.int (1 : Int32)), .val (.int (1 : Int32)), .val (.int (1 : Int32)), .val (.int (1 : Int32))] [(.int (1 : Int32))])) _
    refine XS.ifNo X16.here hx rfl (hb hby at_150) rfl ((if0 _ _).trans (feq hc150).1) ?_
    show Steps p.tables e below (T16.setTop (mkF m 153 #[.val (.int p1), .val (.int (1 : Int32)), .val (.ref wEffect_PERMIT), .val (.ref wEffect_DENY), .val (.ref wOutcome_PERMIT), .val (.int (1 : Int32)), .val (.int (1 : Int32)), .val (.int (1 : Int32)), .val (.int (1 : Int32)), .val (.int (1 : Int32)), .val (.int (1 : Int32))] [])) _
    refine XS.iload X16.here hx rfl (hb hby at_153) rfl ?_
    show Steps p.tables e below (T16.setTop (mkF m 155 #[.val (.int p1), .val (.int (1 : Int32)), .val (.ref wEffect_PERMIT), .val (.ref wEffect_DENY), .val (.ref wOutcome_PERMIT), .val (.int (1 : Int32)), .val (.int (1 : Int32)), .val (.int (1 : Int32)), .val (.int (1 : Int32)), .val (.int (1 : Int32)), .val (.int (1 : Int32))] [(.int (1 : Int32))])) _
    refine XS.ifNo X16.here hx rfl (hb hby at_155) rfl ((if0 _ _).trans (feq hc155).1) ?_
    show Steps p.tables e below (T16.setTop (mkF m 158 #[.val (.int p1), .val (.int (1 : Int32)), .val (.ref wEffect_PERMIT), .val (.ref wEffect_DENY), .val (.ref wOutcome_PERMIT), .val (.int (1 : Int32)), .val (.int (1 : Int32)), .val (.int (1 : Int32)), .val (.int (1 : Int32)), .val (.int (1 : Int32)), .val (.int (1 : Int32))] [])) _
    refine XS.iload X16.here hx rfl (hb hby at_158) rfl ?_
    show Steps p.tables e below (T16.setTop (mkF m 160 #[.val (.int p1), .val (.int (1 : Int32)), .val (.ref wEffect_PERMIT), .val (.ref wEffect_DENY), .val (.ref wOutcome_PERMIT), .val (.int (1 : Int32)), .val (.int (1 : Int32)), .val (.int (1 : Int32)), .val (.int (1 : Int32)), .val (.int (1 : Int32)), .val (.int (1 : Int32))] [(.int (1 : Int32))])) _
    refine XS.ifNo X16.here hx rfl (hb hby at_160) rfl ((if0 _ _).trans (feq hc160).1) ?_
    show Steps p.tables e below (T16.setTop (mkF m 163 #[.val (.int p1), .val (.int (1 : Int32)), .val (.ref wEffect_PERMIT), .val (.ref wEffect_DENY), .val (.ref wOutcome_PERMIT), .val (.int (1 : Int32)), .val (.int (1 : Int32)), .val (.int (1 : Int32)), .val (.int (1 : Int32)), .val (.int (1 : Int32)), .val (.int (1 : Int32))] [])) _
    refine XS.iload X16.here hx rfl (hb hby at_163) rfl ?_
    show Steps p.tables e below (T16.setTop (mkF m 165 #[.val (.int p1), .val (.int (1 : Int32)), .val (.ref wEffect_PERMIT), .val (.ref wEffect_DENY), .val (.ref wOutcome_PERMIT), .val (.int (1 : Int32)), .val (.int (1 : Int32)), .val (.int (1 : Int32)), .val (.int (1 : Int32)), .val (.int (1 : Int32)), .val (.int (1 : Int32))] [(.int (1 : Int32))])) _
    refine XS.ifNo X16.here hx rfl (hb hby at_165) rfl ((if0 _ _).trans (feq hc165).1) ?_
    show Steps p.tables e below (T16.setTop (mkF m 168 #[.val (.int p1), .val (.int (1 : Int32)), .val (.ref wEffect_PERMIT), .val (.ref wEffect_DENY), .val (.ref wOutcome_PERMIT), .val (.int (1 : Int32)), .val (.int (1 : Int32)), .val (.int (1 : Int32)), .val (.int (1 : Int32)), .val (.int (1 : Int32)), .val (.int (1 : Int32))] [])) _
    refine XS.iload X16.here hx rfl (hb hby at_168) rfl ?_
    show Steps p.tables e below (T16.setTop (mkF m 170 #[.val (.int p1), .val (.int (1 : Int32)), .val (.ref wEffect_PERMIT), .val (.ref wEffect_DENY), .val (.ref wOutcome_PERMIT), .val (.int (1 : Int32)), .val (.int (1 : Int32)), .val (.int (1 : Int32)), .val (.int (1 : Int32)), .val (.int (1 : Int32)), .val (.int (1 : Int32))] [(.int (1 : Int32))])) _
    refine XS.ifNo X16.here hx rfl (hb hby at_170) rfl ((if0 _ _).trans (feq hc170).1) ?_
    show Steps p.tables e below (T16.setTop (mkF m 173 #[.val (.int p1), .val (.int (1 : Int32)), .val (.ref wEffect_PERMIT), .val (.ref wEffect_DENY), .val (.ref wOutcome_PERMIT), .val (.int (1 : Int32)), .val (.int (1 : Int32)), .val (.int (1 : Int32)), .val (.int (1 : Int32)), .val (.int (1 : Int32)), .val (.int (1 : Int32))] [])) _
    refine XS.iconst X16.here hx rfl (hb hby at_173) ?_
    show Steps p.tables e below (T16.setTop (mkF m 174 #[.val (.int p1), .val (.int (1 : Int32)), .val (.ref wEffect_PERMIT), .val (.ref wEffect_DENY), .val (.ref wOutcome_PERMIT), .val (.int (1 : Int32)), .val (.int (1 : Int32)), .val (.int (1 : Int32)), .val (.int (1 : Int32)), .val (.int (1 : Int32)), .val (.int (1 : Int32))] [(.int (1 : Int32))])) _
    refine XS.goto X16.here hx rfl (pc0 := 174) (pc' := 178) rfl (hb hby at_174) (by decide) (by decide) ?_
    show Steps p.tables e below (T16.setTop (mkF m 178 #[.val (.int p1), .val (.int (1 : Int32)), .val (.ref wEffect_PERMIT), .val (.ref wEffect_DENY), .val (.ref wOutcome_PERMIT), .val (.int (1 : Int32)), .val (.int (1 : Int32)), .val (.int (1 : Int32)), .val (.int (1 : Int32)), .val (.int (1 : Int32)), .val (.int (1 : Int32))] [(.int (1 : Int32))])) _
    exact retN X16 hx (t := .boolean) Bd.returns (by simp) (hb hby at_178) hr
  · show own_Q (some (.int (1 : Int32))) h0 n0 _ T16.heap _
    rw [e16]
    exact ⟨rfl, N16, rfl⟩
set_option maxRecDepth 65536 in
set_option maxHeartbeats 40000000 in
theorem own_rm0_D (l : Launch) (Z : State) (a0 : Array Value) (hw : ∀ d ∈ tables_1, d.before a0 Z = true) (ws : List Jvm.Cond) (p1 : Int32) (wEffect_DENY wEffect_PERMIT wOutcome_DENY wOutcome_PERMIT wDecision_DENY wDecision_PERMIT wStatusCode_OK wDir wEl : Addr) (cl : Cell) (h0 : Heap) (n0 : Nat) (Z0 : n0 ≤ h0.size) (S_Effect_DENY : Sta Z h0 "com/example/attributary/attributary/model/Effect" "DENY" "Lcom/example/attributary/attributary/model/Effect;" (.ref wEffect_DENY)) (S_Effect_PERMIT : Sta Z h0 "com/example/attributary/attributary/model/Effect" "PERMIT" "Lcom/example/attributary/attributary/model/Effect;" (.ref wEffect_PERMIT)) (S_Outcome_DENY : Sta Z h0 "com/example/attributary/attributary/engine/Outcome" "DENY" "Lcom/example/attributary/attributary/engine/Outcome;" (.ref wOutcome_DENY)) (S_Outcome_PERMIT : Sta Z h0 "com/example/attributary/attributary/engine/Outcome" "PERMIT" "Lcom/example/attributary/attributary/engine/Outcome;" (.ref wOutcome_PERMIT)) (S_Decision_DENY : Sta Z h0 "com/example/attributary/attributary/model/Decision" "DENY" "Lcom/example/attributary/attributary/model/Decision;" (.ref wDecision_DENY)) (S_Decision_PERMIT : Sta Z h0 "com/example/attributary/attributary/model/Decision" "PERMIT" "Lcom/example/attributary/attributary/model/Decision;" (.ref wDecision_PERMIT)) (S_StatusCode_OK : Sta Z h0 "com/example/attributary/attributary/model/StatusCode" "OK" "Lcom/example/attributary/attributary/model/StatusCode;" (.ref wStatusCode_OK)) (E_wEffect_DENY : Exa Z h0 wEffect_DENY "com/example/attributary/attributary/model/Effect") (E_wEffect_PERMIT : Exa Z h0 wEffect_PERMIT "com/example/attributary/attributary/model/Effect") (E_wOutcome_DENY : Exa Z h0 wOutcome_DENY "com/example/attributary/attributary/engine/Outcome") (E_wOutcome_PERMIT : Exa Z h0 wOutcome_PERMIT "com/example/attributary/attributary/engine/Outcome") (E_wDir : Exa Z h0 wDir "java/util/ImmutableCollections$ListN") (F_OD_decision : Fld Z h0 wOutcome_DENY "com/example/attributary/attributary/engine/Outcome" "decision" "Lcom/example/attributary/attributary/model/Decision;" (.ref wDecision_DENY)) (F_OP_decision : Fld Z h0 wOutcome_PERMIT "com/example/attributary/attributary/engine/Outcome" "decision" "Lcom/example/attributary/attributary/model/Decision;" (.ref wDecision_PERMIT)) (F_ED_decision : Fld Z h0 wEffect_DENY "com/example/attributary/attributary/model/Effect" "decision" "Lcom/example/attributary/attributary/model/Decision;" (.ref wDecision_DENY)) (F_EP_decision : Fld Z h0 wEffect_PERMIT "com/example/attributary/attributary/model/Effect" "decision" "Lcom/example/attributary/attributary/model/Decision;" (.ref wDecision_PERMIT)) (F_OD_status : Fld Z h0 wOutcome_DENY "com/example/attributary/attributary/engine/Outcome" "status" "Lcom/example/attributary/attributary/model/StatusCode;" (.ref wStatusCode_OK)) (F_OP_status : Fld Z h0 wOutcome_PERMIT "com/example/attributary/attributary/engine/Outcome" "status" "Lcom/example/attributary/attributary/model/StatusCode;" (.ref wStatusCode_OK)) (F_OD_couldDeny : Fld Z h0 wOutcome_DENY "com/example/attributary/attributary/engine/Outcome" "couldDeny" "Z" (.int 0)) (F_OD_couldPermit : Fld Z h0 wOutcome_DENY "com/example/attributary/attributary/engine/Outcome" "couldPermit" "Z" (.int 0)) (F_OP_couldDeny : Fld Z h0 wOutcome_PERMIT "com/example/attributary/attributary/engine/Outcome" "couldDeny" "Z" (.int 0)) (F_OP_couldPermit : Fld Z h0 wOutcome_PERMIT "com/example/attributary/attributary/engine/Outcome" "couldPermit" "Z" (.int 0)) (F_OD_dir : Fld Z h0 wOutcome_DENY "com/example/attributary/attributary/engine/Outcome" "directives" "Ljava/util/List;" (.ref wDir)) (F_OP_dir : Fld Z h0 wOutcome_PERMIT "com/example/attributary/attributary/engine/Outcome" "directives" "Ljava/util/List;" (.ref wDir)) (F_elements : Fld Z h0 wDir "java/util/ImmutableCollections$ListN" "elements" "[Ljava/lang/Object;" (.ref wEl)) (Ar : Arr Z h0 wEl cl (.object "java/lang/Object")) (Sz : cl.slots.size = (0 : Int32).toNatClampNeg) (nE : wEffect_PERMIT ≠ wEffect_DENY) (nDec : wDecision_PERMIT ≠ wDecision_DENY) (hc3 : (p1 &&& (1 : Int32)) = (0 : Int32)) (hc145 : ¬ ((1 : Int32) = (0 : Int32))) (hc150 : ¬ ((1 : Int32) = (0 : Int32))) (hc155 : ¬ ((1 : Int32) = (0 : Int32))) (hc160 : ¬ ((1 : Int32) = (0 : Int32))) (hc165 : ¬ ((1 : Int32) = (0 : Int32))) (hc170 : ¬ ((1 : Int32) = (0 : Int32))) :
    MetFree l x (head1 (Jvm.Cond.code x code maxLocals ret :: ws) room_1) (fun a U => a = #[(.int p1)] ∧ Z.Warmed39 U.vm ∧ U.heap = h0) (fun _ _ _ _ _ => True) (fun _ U o U' => ∃ v L, o = .returned v ∧ own_Q (some (.int (1 : Int32))) h0 n0 v U'.heap L ∧ FrameEnd U o U' L room_1.cells room_1.slots) := by
  refine MetFree.of_bodySF (plainFor_of_name pn_0) hisR ?_
  intro p e s m args below meth c s₁ Bd hml0 hP hK
  obtain ⟨rfl, hZ, hh⟩ := hP
  have hx := Bd.exec
  have hby := Bd.bytes
  have hml : c.maxLocals = 11 := hml0
  have hown : s.vm.findClass "com/example/attributary/attributary/engine/OutcomeOfPinLaw" = some m.cls := findClass_of_methodNamed Bd.named
  have hnm := (name_of_methodNamed Bd.named Bd.method).1
  have X0 : Stand p l e room_1 s m #[(.int p1)] below meth c s₁ [] 0 0 := Stand.of_body Bd
  have e0 : s₁.heap = h0 := by rw [← hh, Bd.state]; rfl
  have N0 := Fr.nil n0
  have pre0 : ∀ t, Steps p.tables e below (s₁.setTop (mkF m 0 #[.val (.int p1), .unset, .unset, .unset, .unset, .unset, .unset, .unset, .unset, .unset, .unset] [])) t → Steps p.tables e below (s₁.setTop (entryFrame m #[(.int p1)] maxLocals)) t := fun t k => castTop (ef_0 m p1) k
  obtain ⟨T3, X3, e3, st3⟩ := getS2 X0 hx hZ hown (host := "") (Or.inl (hw _ (List.mem_of_getElem? (i := 0) rfl))) Via.refl e0 S_Effect_DENY (g := (mkF m 22 #[.val (.int p1), .val (.int (0 : Int32)), .unset, .unset, .unset, .unset, .unset, .unset, .unset, .unset, .unset] [])) rfl (hb hby at_22)
  obtain ⟨T5, X5, e5, st5⟩ := getS2 X3 hx hZ hown (host := "") (Or.inl (hw _ (List.mem_of_getElem? (i := 3) rfl))) Via.refl e3 S_Effect_PERMIT (g := (mkF m 36 #[.val (.int p1), .val (.int (0 : Int32)), .val (.ref wEffect_DENY), .unset, .unset, .unset, .unset, .unset, .unset, .unset, .unset] [])) rfl (hb hby at_36)
  obtain ⟨_, _, ⟨T6, L6, k6, n6⟩, -, X6, ⟨Lc6, hQ6, l6, y6, z6⟩, st6⟩ := Jvm.LawKit.callS X5 hx (y := (⟨"com/example/attributary/attributary/engine/Outcome", "of", "(Lcom/example/attributary/attributary/model/Effect;)Lcom/example/attributary/attributary/engine/Outcome;"⟩ : MethodName)) hown (mvT hZ (hw _ (List.mem_of_getElem? (i := 5) rfl))) (mvT hZ (hw _ (List.mem_of_getElem? (i := 6) rfl))) (mvT hZ (hw _ (List.mem_of_getElem? (i := 7) rfl))) (mvT hZ (hw _ (List.mem_of_getElem? (i := 8) rfl))) (by decide) (backOf (W := 0) (own_rm1_t l Z a0 hw [] wEffect_DENY wEffect_PERMIT wOutcome_DENY h0 n0 Z0 S_Effect_PERMIT S_Outcome_DENY (Ne.symm nE)) hZ (hw _ (List.mem_of_getElem? (i := 8) rfl)) (hw _ (List.mem_of_getElem? (i := 7) rfl)) (by decide) (by decide)) (g := (mkF m 41 #[.val (.int p1), .val (.int (0 : Int32)), .val (.ref wEffect_DENY), .val (.ref wEffect_PERMIT), .unset, .unset, .unset, .unset, .unset, .unset, .unset] [(.ref wEffect_DENY)])) rfl (by rw [hml]; rfl) (argsL := [(.ref wEffect_DENY)]) (rest := []) (lenOf pd_0_0 rfl) rfl (by show 2 * 0 + _ ≤ _; exact Nat.le_of_eq rfl) (hb hby at_41) (fun _ _ => ⟨rfl, e5, (by decide : 0 + 0 ≤ _), (by decide : 0 + 0 ≤ _)⟩)
  dsimp only [Pt.U, Pt.locs, Pt.cells, Pt.slots] at X6 l6 y6 z6 st6 hQ6
  subst l6 y6 z6
  obtain ⟨rfl, N6q, e6⟩ := hQ6
  have N6 := Fr.app N0 N6q
  obtain ⟨cq7, kq7, q7a, q7b, q7c⟩ := isOf hZ e6 E_wOutcome_DENY
  obtain ⟨_, _, ⟨T7, L7, k7, n7⟩, -, X7, ⟨Lc7, hQ7, l7, y7, z7⟩, st7⟩ := X6.virtualBack hx (y := (⟨"com/example/attributary/attributary/engine/Outcome", "getDecision", "()Lcom/example/attributary/attributary/model/Decision;"⟩ : MethodName)) (z := (⟨"com/example/attributary/attributary/engine/Outcome", "getDecision", "()Lcom/example/attributary/attributary/model/Decision;"⟩ : MethodName)) hown (mvT hZ (hw _ (List.mem_of_getElem? (i := 12) rfl))) (mvT hZ (hw _ (List.mem_of_getElem? (i := 13) rfl))) (notFace_of_selects (args := #[]) (mvT hZ (hw _ (List.mem_of_getElem? (i := 15) rfl)))) (mvT hZ (hw _ (List.mem_of_getElem? (i := 15) rfl))) (mvT hZ (hw _ (List.mem_of_getElem? (i := 14) rfl))) (by decide) (backOf (W := 0) (own_rm2 l Z a0 hw [] wOutcome_DENY wDecision_DENY h0 n0 Z0 F_OD_decision) hZ (hw _ (List.mem_of_getElem? (i := 16) rfl)) (hw _ (List.mem_of_getElem? (i := 7) rfl)) (by decide) (by decide)) q7a q7c (g := (mkF m 48 #[.val (.int p1), .val (.int (0 : Int32)), .val (.ref wEffect_DENY), .val (.ref wEffect_PERMIT), .val (.ref wOutcome_DENY), .unset, .unset, .unset, .unset, .unset, .unset] [(.ref wOutcome_DENY)])) rfl (by rw [hml]; rfl) (Steps.refl _) (argsL := []) (rest := []) (lenOf pd_0_1 rfl) rfl (by show 2 * 0 + _ ≤ _; exact Nat.le_of_eq rfl) (hb hby at_48) (fun _ _ => ⟨rfl, e6, (by decide : 0 + 0 ≤ _), (by decide : 0 + 0 ≤ _)⟩)
  dsimp only [Pt.U, Pt.locs, Pt.cells, Pt.slots] at X7 l7 y7 z7 st7 hQ7
  subst l7 y7 z7
  obtain ⟨rfl, N7q, e7⟩ := hQ7
  have N7 := Fr.app N6 N7q
  obtain ⟨cq8, kq8, q8a, q8b, q8c⟩ := isOf hZ e7 E_wEffect_DENY
  obtain ⟨_, _, ⟨T8, L8, k8, n8⟩, -, X8, ⟨Lc8, hQ8, l8, y8, z8⟩, st8⟩ := X7.virtualBack hx (y := (⟨"com/example/attributary/attributary/model/Effect", "getDecision", "()Lcom/example/attributary/attributary/model/Decision;"⟩ : MethodName)) (z := (⟨"com/example/attributary/attributary/model/Effect", "getDecision", "()Lcom/example/attributary/attributary/model/Decision;"⟩ : MethodName)) hown (mvT hZ (hw _ (List.mem_of_getElem? (i := 21) rfl))) (mvT hZ (hw _ (List.mem_of_getElem? (i := 22) rfl))) (notFace_of_selects (args := #[]) (mvT hZ (hw _ (List.mem_of_getElem? (i := 24) rfl)))) (mvT hZ (hw _ (List.mem_of_getElem? (i := 24) rfl))) (mvT hZ (hw _ (List.mem_of_getElem? (i := 23) rfl))) (by decide) (backOf (W := 1) (own_rm3 l Z a0 hw [] wEffect_DENY wDecision_DENY h0 n0 Z0 F_ED_decision) hZ (hw _ (List.mem_of_getElem? (i := 25) rfl)) (hw _ (List.mem_of_getElem? (i := 1) rfl)) (by decide) (by decide)) q8a q8c (g := (mkF m 52 #[.val (.int p1), .val (.int (0 : Int32)), .val (.ref wEffect_DENY), .val (.ref wEffect_PERMIT), .val (.ref wOutcome_DENY), .unset, .unset, .unset, .unset, .unset, .unset] [(.ref wEffect_DENY), (.ref wDecision_DENY)])) rfl (by rw [hml]; rfl) (Steps.refl _) (argsL := []) (rest := [(.ref wDecision_DENY)]) (lenOf pd_0_1 rfl) rfl (by show 2 * 0 + _ ≤ _; exact Nat.le_of_eq rfl) (hb hby at_52) (fun _ _ => ⟨rfl, e7, (by decide : 0 + 0 ≤ _), (by decide : 0 + 0 ≤ _)⟩)
  dsimp only [Pt.U, Pt.locs, Pt.cells, Pt.slots] at X8 l8 y8 z8 st8 hQ8
  subst l8 y8 z8
  obtain ⟨rfl, N8q, e8⟩ := hQ8
  have N8 := Fr.app N7 N8q
  obtain ⟨cq9, kq9, q9a, q9b, q9c⟩ := isOf hZ e8 E_wOutcome_DENY
  obtain ⟨_, _, ⟨T9, L9, k9, n9⟩, -, X9, ⟨Lc9, hQ9, l9, y9, z9⟩, st9⟩ := X8.virtualBack hx (y := (⟨"com/example/attributary/attributary/engine/Outcome", "getStatus", "()Lcom/example/attributary/attributary/model/StatusCode;"⟩ : MethodName)) (z := (⟨"com/example/attributary/attributary/engine/Outcome", "getStatus", "()Lcom/example/attributary/attributary/model/StatusCode;"⟩ : MethodName)) hown (mvT hZ (hw _ (List.mem_of_getElem? (i := 28) rfl))) (mvT hZ (hw _ (List.mem_of_getElem? (i := 29) rfl))) (notFace_of_selects (args := #[]) (mvT hZ (hw _ (List.mem_of_getElem? (i := 31) rfl)))) (mvT hZ (hw _ (List.mem_of_getElem? (i := 31) rfl))) (mvT hZ (hw _ (List.mem_of_getElem? (i := 30) rfl))) (by decide) (backOf (W := 0) (own_rm4 l Z a0 hw [] wOutcome_DENY wStatusCode_OK h0 n0 Z0 F_OD_status) hZ (hw _ (List.mem_of_getElem? (i := 32) rfl)) (hw _ (List.mem_of_getElem? (i := 7) rfl)) (by decide) (by decide)) q9a q9c (g := (mkF m 67 #[.val (.int p1), .val (.int (0 : Int32)), .val (.ref wEffect_DENY), .val (.ref wEffect_PERMIT), .val (.ref wOutcome_DENY), .val (.int (1 : Int32)), .unset, .unset, .unset, .unset, .unset] [(.ref wOutcome_DENY)])) rfl (by rw [hml]; rfl) (Steps.refl _) (argsL := []) (rest := []) (lenOf pd_0_2 rfl) rfl (by show 2 * 0 + _ ≤ _; exact Nat.le_of_eq rfl) (hb hby at_67) (fun _ _ => ⟨rfl, e8, (by decide : 0 + 0 ≤ _), (by decide : 0 + 0 ≤ _)⟩)
  dsimp only [Pt.U, Pt.locs, Pt.cells, Pt.slots] at X9 l9 y9 z9 st9 hQ9
  subst l9 y9 z9
  obtain ⟨rfl, N9q, e9⟩ := hQ9
  have N9 := Fr.app N8 N9q
  obtain ⟨T11, X11, e11, st11⟩ := getS2 X9 hx hZ hown (host := "") (Or.inl (hw _ (List.mem_of_getElem? (i := 37) rfl))) Via.refl e9 S_StatusCode_OK (g := (mkF m 70 #[.val (.int p1), .val (.int (0 : Int32)), .val (.ref wEffect_DENY), .val (.ref wEffect_PERMIT), .val (.ref wOutcome_DENY), .val (.int (1 : Int32)), .unset, .unset, .unset, .unset, .unset] [(.ref wStatusCode_OK)])) rfl (hb hby at_70)
  obtain ⟨cq12, kq12, q12a, q12b, q12c⟩ := isOf hZ e11 E_wOutcome_DENY
  obtain ⟨_, _, ⟨T12, L12, k12, n12⟩, -, X12, ⟨Lc12, hQ12, l12, y12, z12⟩, st12⟩ := X11.virtualBack hx (y := (⟨"com/example/attributary/attributary/engine/Outcome", "getEffect", "()Lcom/example/attributary/attributary/model/Effect;"⟩ : MethodName)) (z := (⟨"com/example/attributary/attributary/engine/Outcome", "getEffect", "()Lcom/example/attributary/attributary/model/Effect;"⟩ : MethodName)) hown (mvT hZ (hw _ (List.mem_of_getElem? (i := 38) rfl))) (mvT hZ (hw _ (List.mem_of_getElem? (i := 39) rfl))) (notFace_of_selects (args := #[]) (mvT hZ (hw _ (List.mem_of_getElem? (i := 41) rfl)))) (mvT hZ (hw _ (List.mem_of_getElem? (i := 41) rfl))) (mvT hZ (hw _ (List.mem_of_getElem? (i := 40) rfl))) (by decide) (backOf (W := 0) (own_rm5_tf l Z a0 hw [] wOutcome_DENY wDecision_DENY wDecision_PERMIT wDecision_DENY wEffect_DENY h0 n0 Z0 F_OD_decision S_Decision_PERMIT S_Decision_DENY S_Effect_DENY (Ne.symm nDec) rfl) hZ (hw _ (List.mem_of_getElem? (i := 42) rfl)) (hw _ (List.mem_of_getElem? (i := 7) rfl)) (by decide) (by decide)) q12a q12c (g := (mkF m 85 #[.val (.int p1), .val (.int (0 : Int32)), .val (.ref wEffect_DENY), .val (.ref wEffect_PERMIT), .val (.ref wOutcome_DENY), .val (.int (1 : Int32)), .val (.int (1 : Int32)), .unset, .unset, .unset, .unset] [(.ref wOutcome_DENY)])) rfl (by rw [hml]; rfl) (Steps.refl _) (argsL := []) (rest := []) (lenOf pd_0_3 rfl) rfl (by show 2 * 0 + _ ≤ _; exact Nat.le_of_eq rfl) (hb hby at_85) (fun _ _ => ⟨rfl, e11, (by decide : 0 + 0 ≤ _), (by decide : 0 + 0 ≤ _)⟩)
  dsimp only [Pt.U, Pt.locs, Pt.cells, Pt.slots] at X12 l12 y12 z12 st12 hQ12
  subst l12 y12 z12
  obtain ⟨rfl, N12q, e12⟩ := hQ12
  have N12 := Fr.app N9 N12q
  obtain ⟨cq13, kq13, q13a, q13b, q13c⟩ := isOf hZ e12 E_wOutcome_DENY
  obtain ⟨_, _, ⟨T13, L13, k13, n13⟩, -, X13, ⟨Lc13, hQ13, l13, y13, z13⟩, st13⟩ := X12.virtualBack hx (y := (⟨"com/example/attributary/attributary/engine/Outcome", "couldBe", "(Lcom/example/attributary/attributary/model/Effect;)Z"⟩ : MethodName)) (z := (⟨"com/example/attributary/attributary/engine/Outcome", "couldBe", "(Lcom/example/attributary/attributary/model/Effect;)Z"⟩ : MethodName)) hown (mvT hZ (hw _ (List.mem_of_getElem? (i := 47) rfl))) (mvT hZ (hw _ (List.mem_of_getElem? (i := 48) rfl))) (notFace_of_selects (args := #[]) (mvT hZ (hw _ (List.mem_of_getElem? (i := 50) rfl)))) (mvT hZ (hw _ (List.mem_of_getElem? (i := 50) rfl))) (mvT hZ (hw _ (List.mem_of_getElem? (i := 49) rfl))) (by decide) (backOf (W := 0) (own_rm6_ft l Z a0 hw [] wOutcome_DENY wEffect_DENY wEffect_DENY (0 : Int32) wDecision_DENY wDecision_DENY h0 n0 Z0 F_ED_decision S_Effect_DENY F_OD_couldDeny F_OD_decision E_wEffect_DENY rfl rfl) hZ (hw _ (List.mem_of_getElem? (i := 51) rfl)) (hw _ (List.mem_of_getElem? (i := 7) rfl)) (by decide) (by decide)) q13a q13c (g := (mkF m 102 #[.val (.int p1), .val (.int (0 : Int32)), .val (.ref wEffect_DENY), .val (.ref wEffect_PERMIT), .val (.ref wOutcome_DENY), .val (.int (1 : Int32)), .val (.int (1 : Int32)), .val (.int (1 : Int32)), .unset, .unset, .unset] [(.ref wEffect_DENY), (.ref wOutcome_DENY)])) rfl (by rw [hml]; rfl) (Steps.refl _) (argsL := [(.ref wEffect_DENY)]) (rest := []) (lenOf pd_0_4 rfl) rfl (by show 2 * 0 + _ ≤ _; exact Nat.le_of_eq rfl) (hb hby at_102) (fun _ _ => ⟨rfl, e12, (by decide : 0 + 0 ≤ _), (by decide : 0 + 0 ≤ _)⟩)
  dsimp only [Pt.U, Pt.locs, Pt.cells, Pt.slots] at X13 l13 y13 z13 st13 hQ13
  subst l13 y13 z13
  obtain ⟨rfl, N13q, e13⟩ := hQ13
  have N13 := Fr.app N12 N13q
  obtain ⟨cq14, kq14, q14a, q14b, q14c⟩ := isOf hZ e13 E_wOutcome_DENY
  obtain ⟨_, _, ⟨T14, L14, k14, n14⟩, -, X14, ⟨Lc14, hQ14, l14, y14, z14⟩, st14⟩ := X13.virtualBack hx (y := (⟨"com/example/attributary/attributary/engine/Outcome", "couldBe", "(Lcom/example/attributary/attributary/model/Effect;)Z"⟩ : MethodName)) (z := (⟨"com/example/attributary/attributary/engine/Outcome", "couldBe", "(Lcom/example/attributary/attributary/model/Effect;)Z"⟩ : MethodName)) hown (mvT hZ (hw _ (List.mem_of_getElem? (i := 47) rfl))) (mvT hZ (hw _ (List.mem_of_getElem? (i := 48) rfl))) (notFace_of_selects (args := #[]) (mvT hZ (hw _ (List.mem_of_getElem? (i := 50) rfl)))) (mvT hZ (hw _ (List.mem_of_getElem? (i := 50) rfl))) (mvT hZ (hw _ (List.mem_of_getElem? (i := 49) rfl))) (by decide) (backOf (W := 0) (own_rm6_tft l Z a0 hw [] wOutcome_DENY wEffect_PERMIT wEffect_DENY (0 : Int32) wDecision_DENY wDecision_PERMIT h0 n0 Z0 F_EP_decision S_Effect_DENY F_OD_couldPermit F_OD_decision E_wEffect_PERMIT nE (Ne.symm nDec) rfl) hZ (hw _ (List.mem_of_getElem? (i := 51) rfl)) (hw _ (List.mem_of_getElem? (i := 7) rfl)) (by decide) (by decide)) q14a q14c (g := (mkF m 110 #[.val (.int p1), .val (.int (0 : Int32)), .val (.ref wEffect_DENY), .val (.ref wEffect_PERMIT), .val (.ref wOutcome_DENY), .val (.int (1 : Int32)), .val (.int (1 : Int32)), .val (.int (1 : Int32)), .val (.int (1 : Int32)), .unset, .unset] [(.ref wEffect_PERMIT), (.ref wOutcome_DENY)])) rfl (by rw [hml]; rfl) (Steps.refl _) (argsL := [(.ref wEffect_PERMIT)]) (rest := []) (lenOf pd_0_4 rfl) rfl (by show 2 * 0 + _ ≤ _; exact Nat.le_of_eq rfl) (hb hby at_110) (fun _ _ => ⟨rfl, e13, (by decide : 0 + 0 ≤ _), (by decide : 0 + 0 ≤ _)⟩)
  dsimp only [Pt.U, Pt.locs, Pt.cells, Pt.slots] at X14 l14 y14 z14 st14 hQ14
  subst l14 y14 z14
  obtain ⟨rfl, N14q, e14⟩ := hQ14
  have N14 := Fr.app N13 N14q
  obtain ⟨cq15, kq15, q15a, q15b, q15c⟩ := isOf hZ e14 E_wOutcome_DENY
  obtain ⟨_, _, ⟨T15, L15, k15, n15⟩, -, X15, ⟨Lc15, hQ15, l15, y15, z15⟩, st15⟩ := X14.virtualBack hx (y := (⟨"com/example/attributary/attributary/engine/Outcome", "getDirectives", "()Ljava/util/List;"⟩ : MethodName)) (z := (⟨"com/example/attributary/attributary/engine/Outcome", "getDirectives", "()Ljava/util/List;"⟩ : MethodName)) hown (mvT hZ (hw _ (List.mem_of_getElem? (i := 57) rfl))) (mvT hZ (hw _ (List.mem_of_getElem? (i := 58) rfl))) (notFace_of_selects (args := #[]) (mvT hZ (hw _ (List.mem_of_getElem? (i := 60) rfl)))) (mvT hZ (hw _ (List.mem_of_getElem? (i := 60) rfl))) (mvT hZ (hw _ (List.mem_of_getElem? (i := 59) rfl))) (by decide) (backOf (W := 0) (own_rm7 l Z a0 hw [] wOutcome_DENY wDir h0 n0 Z0 F_OD_dir) hZ (hw _ (List.mem_of_getElem? (i := 61) rfl)) (hw _ (List.mem_of_getElem? (i := 7) rfl)) (by decide) (by decide)) q15a q15c (g := (mkF m 125 #[.val (.int p1), .val (.int (0 : Int32)), .val (.ref wEffect_DENY), .val (.ref wEffect_PERMIT), .val (.ref wOutcome_DENY), .val (.int (1 : Int32)), .val (.int (1 : Int32)), .val (.int (1 : Int32)), .val (.int (1 : Int32)), .val (.int (1 : Int32)), .unset] [(.ref wOutcome_DENY)])) rfl (by rw [hml]; rfl) (Steps.refl _) (argsL := []) (rest := []) (lenOf pd_0_5 rfl) rfl (by show 2 * 0 + _ ≤ _; exact Nat.le_of_eq rfl) (hb hby at_125) (fun _ _ => ⟨rfl, e14, (by decide : 0 + 0 ≤ _), (by decide : 0 + 0 ≤ _)⟩)
  dsimp only [Pt.U, Pt.locs, Pt.cells, Pt.slots] at X15 l15 y15 z15 st15 hQ15
  subst l15 y15 z15
  obtain ⟨rfl, N15q, e15⟩ := hQ15
  have N15 := Fr.app N14 N15q
  obtain ⟨cq16, kq16, q16a, q16b, q16c⟩ := isOf hZ e15 E_wDir
  obtain ⟨_, _, ⟨T16, L16, k16, n16⟩, -, X16, ⟨Lc16, hQ16, l16, y16, z16⟩, st16⟩ := X15.interfaceBack hx (xi := (⟨"java/util/List", "size", "()I"⟩ : MethodName)) (y := (⟨"java/util/ImmutableCollections$ListN", "size", "()I"⟩ : MethodName)) hown (mvT hZ (hw _ (List.mem_of_getElem? (i := 64) rfl))) (mvT hZ (hw _ (List.mem_of_getElem? (i := 65) rfl))) (mvT hZ (hw _ (List.mem_of_getElem? (i := 66) rfl))) (mvT hZ (hw _ (List.mem_of_getElem? (i := 67) rfl))) (mvT hZ (hw _ (List.mem_of_getElem? (i := 68) rfl))) (mvT hZ (hw _ (List.mem_of_getElem? (i := 69) rfl))) (mvT hZ (hw _ (List.mem_of_getElem? (i := 70) rfl))) (mvT hZ (hw _ (List.mem_of_getElem? (i := 71) rfl))) (by decide) (backOf (W := 0) (own_rm8 l Z a0 hw [] wDir wEl cl (0 : Int32) h0 n0 Z0 F_elements Ar Sz (by decide)) hZ (hw _ (List.mem_of_getElem? (i := 73) rfl)) (hw _ (List.mem_of_getElem? (i := 72) rfl)) (by decide) (by decide)) q16a q16b q16c (g := (mkF m 128 #[.val (.int p1), .val (.int (0 : Int32)), .val (.ref wEffect_DENY), .val (.ref wEffect_PERMIT), .val (.ref wOutcome_DENY), .val (.int (1 : Int32)), .val (.int (1 : Int32)), .val (.int (1 : Int32)), .val (.int (1 : Int32)), .val (.int (1 : Int32)), .unset] [(.ref wDir)])) rfl (by rw [hml]; rfl) (Steps.refl _) (argsL := []) (rest := []) (lenOf pd_0_6 rfl) rfl (by show 2 * 0 + _ ≤ _; exact Nat.le_of_eq rfl) (hb hby at_128) (fun _ _ => ⟨rfl, e15, (by decide : 0 + 0 ≤ _), (by decide : 0 + 0 ≤ _)⟩)
  dsimp only [Pt.U, Pt.locs, Pt.cells, Pt.slots] at X16 l16 y16 z16 st16 hQ16
  subst l16 y16 z16
  obtain ⟨rfl, N16q, e16⟩ := hQ16
  have N16 := Fr.app N15 N16q
  obtain ⟨fs, hr, hrun, hended, hW, hsame⟩ := X16.leave (v := some (.int (1 : Int32))) (fun h => by rw [Bd.returns] at h; cases h)
  refine ⟨_, _, pre0 _ ?_, hrun, hended, _, _, rfl, ?_, ⟨_, rfl⟩, hW, hsame.mono (by decide) (by decide)⟩
  · show Steps p.tables e below (s₁.setTop (mkF m 0 #[.val (.int p1), .unset, .unset, .unset, .unset, .unset, .unset, .unset, .unset, .unset, .unset] [])) _
    refine XS.iloadN X0.here hx rfl (hb hby at_0) rfl ?_
    show Steps p.tables e below (s₁.setTop (mkF m 1 #[.val (.int p1), .unset, .unset, .unset, .unset, .unset, .unset, .unset, .unset, .unset, .unset] [(.int p1)])) _
    refine XS.iconst X0.here hx rfl (hb hby at_1) ?_
    show Steps p.tables e below (s₁.setTop (mkF m 2 #[.val (.int p1), .unset, .unset, .unset, .unset, .unset, .unset, .unset, .unset, .unset, .unset] [(.int (1 : Int32)), (.int p1)])) _
    refine XS.iand X0.here hx rfl (hb hby at_2) rfl ?_
    show Steps p.tables e below (s₁.setTop (mkF m 3 #[.val (.int p1), .unset, .unset, .unset, .unset, .unset, .unset, .unset, .unset, .unset, .unset] [(.int (p1 &&& (1 : Int32)))])) _
    refine XS.ifYes X0.here hx rfl (pc0 := 3) (pc' := 10) rfl (hb hby at_3) rfl ((if0 _ _).trans (teq hc3).1) (by decide) (by decide) ?_
    show Steps p.tables e below (s₁.setTop (mkF m 10 #[.val (.int p1), .unset, .unset, .unset, .unset, .unset, .unset, .unset, .unset, .unset, .unset] [])) _
    refine XS.iconst X0.here hx rfl (hb hby at_10) ?_
    show Steps p.tables e below (s₁.setTop (mkF m 11 #[.val (.int p1), .unset, .unset, .unset, .unset, .unset, .unset, .unset, .unset, .unset, .unset] [(.int (0 : Int32))])) _
    refine XS.istoreN X0.here hx rfl (hb hby at_11) rfl (l' := #[.val (.int p1), .val (.int (0 : Int32)), .unset, .unset, .unset, .unset, .unset, .unset, .unset, .unset, .unset]) rfl ?_
    show Steps p.tables e below (s₁.setTop (mkF m 12 #[.val (.int p1), .val (.int (0 : Int32)), .unset, .unset, .unset, .unset, .unset, .unset, .unset, .unset, .unset] [])) _
    refine XS.iloadN X0.here hx rfl (hb hby at_12) rfl ?_
    show Steps p.tables e below (s₁.setTop (mkF m 13 #[.val (.int p1), .val (.int (0 : Int32)), .unset, .unset, .unset, .unset, .unset, .unset, .unset, .unset, .unset] [(.int (0 : Int32))])) _
    refine XS.ifYes X0.here hx rfl (pc0 := 13) (pc' := 22) rfl (hb hby at_13) rfl ((if0 _ _).trans (teq (rfl : (0 : Int32) = (0 : Int32))).1) (by decide) (by decide) ?_
    show Steps p.tables e below (s₁.setTop (mkF m 22 #[.val (.int p1), .val (.int (0 : Int32)), .unset, .unset, .unset, .unset, .unset, .unset, .unset, .unset, .unset] [])) _
    refine st3 _ ?_
    show Steps p.tables e below (T3.setTop (mkF m 25 #[.val (.int p1), .val (.int (0 : Int32)), .unset, .unset, .unset, .unset, .unset, .unset, .unset, .unset, .unset] [(.ref wEffect_DENY)])) _
    refine XS.astoreN X3.here hx rfl (hb hby at_25) rfl rfl (l' := #[.val (.int p1), .val (.int (0 : Int32)), .val (.ref wEffect_DENY), .unset, .unset, .unset, .unset, .unset, .unset, .unset, .unset]) rfl ?_
    show Steps p.tables e below (T3.setTop (mkF m 26 #[.val (.int p1), .val (.int (0 : Int32)), .val (.ref wEffect_DENY), .unset, .unset, .unset, .unset, .unset, .unset, .unset, .unset] [])) _
    refine XS.iloadN X3.here hx rfl (hb hby at_26) rfl ?_
    show Steps p.tables e below (T3.setTop (mkF m 27 #[.val (.int p1), .val (.int (0 : Int32)), .val (.ref wEffect_DENY), .unset, .unset, .unset, .unset, .unset, .unset, .unset, .unset] [(.int (0 : Int32))])) _
    refine XS.ifYes X3.here hx rfl (pc0 := 27) (pc' := 36) rfl (hb hby at_27) rfl ((if0 _ _).trans (teq (rfl : (0 : Int32) = (0 : Int32))).1) (by decide) (by decide) ?_
    show Steps p.tables e below (T3.setTop (mkF m 36 #[.val (.int p1), .val (.int (0 : Int32)), .val (.ref wEffect_DENY), .unset, .unset, .unset, .unset, .unset, .unset, .unset, .unset] [])) _
    refine st5 _ ?_
    show Steps p.tables e below (T5.setTop (mkF m 39 #[.val (.int p1), .val (.int (0 : Int32)), .val (.ref wEffect_DENY), .unset, .unset, .unset, .unset, .unset, .unset, .unset, .unset] [(.ref wEffect_PERMIT)])) _
    refine XS.astoreN X5.here hx rfl (hb hby at_39) rfl rfl (l' := #[.val (.int p1), .val (.int (0 : Int32)), .val (.ref wEffect_DENY), .val (.ref wEffect_PERMIT), .unset, .unset, .unset, .unset, .unset, .unset, .unset]) rfl ?_
    show Steps p.tables e below (T5.setTop (mkF m 40 #[.val (.int p1), .val (.int (0 : Int32)), .val (.ref wEffect_DENY), .val (.ref wEffect_PERMIT), .unset, .unset, .unset, .unset, .unset, .unset, .unset] [])) _
    refine XS.aloadN X5.here hx rfl (hb hby at_40) rfl rfl ?_
    show Steps p.tables e below (T5.setTop (mkF m 41 #[.val (.int p1), .val (.int (0 : Int32)), .val (.ref wEffect_DENY), .val (.ref wEffect_PERMIT), .unset, .unset, .unset, .unset, .unset, .unset, .unset] [(.ref wEffect_DENY)])) _
    refine st6 _ ?_
    show Steps p.tables e below (T6.setTop (mkF m 44 #[.val (.int p1), .val (.int (0 : Int32)), .val (.ref wEffect_DENY), .val (.ref wEffect_PERMIT), .unset, .unset, .unset, .unset, .unset, .unset, .unset] [(.ref wOutcome_DENY)])) _
    refine XS.astore X6.here hx rfl (hb hby at_44) rfl rfl (l' := #[.val (.int p1), .val (.int (0 : Int32)), .val (.ref wEffect_DENY), .val (.ref wEffect_PERMIT), .val (.ref wOutcome_DENY), .unset, .unset, .unset, .unset, .unset, .unset]) rfl ?_
    show Steps p.tables e below (T6.setTop (mkF m 46 #[.val (.int p1), .val (.int (0 : Int32)), .val (.ref wEffect_DENY), .val (.ref wEffect_PERMIT), .val (.ref wOutcome_DENY), .unset, .unset, .unset, .unset, .unset, .unset] [])) _
    refine XS.aload X6.here hx rfl (hb hby at_46) rfl rfl ?_
    show Steps p.tables e below (T6.setTop (mkF m 48 #[.val (.int p1), .val (.int (0 : Int32)), .val (.ref wEffect_DENY), .val (.ref wEffect_PERMIT), .val (.ref wOutcome_DENY), .unset, .unset, .unset, .unset, .unset, .unset] [(.ref wOutcome_DENY)])) _
    refine st7.trans ?_
    show Steps p.tables e below (T7.setTop (mkF m 51 #[.val (.int p1), .val (.int (0 : Int32)), .val (.ref wEffect_DENY), .val (.ref wEffect_PERMIT), .val (.ref wOutcome_DENY), .unset, .unset, .unset, .unset, .unset, .unset] [(.ref wDecision_DENY)])) _
    refine XS.aloadN X7.here hx rfl (hb hby at_51) rfl rfl ?_
    show Steps p.tables e below (T7.setTop (mkF m 52 #[.val (.int p1), .val (.int (0 : Int32)), .val (.ref wEffect_DENY), .val (.ref wEffect_PERMIT), .val (.ref wOutcome_DENY), .unset, .unset, .unset, .unset, .unset, .unset] [(.ref wEffect_DENY), (.ref wDecision_DENY)])) _
    refine st8.trans ?_
    show Steps p.tables e below (T8.setTop (mkF m 55 #[.val (.int p1), .val (.int (0 : Int32)), .val (.ref wEffect_DENY), .val (.ref wEffect_PERMIT), .val (.ref wOutcome_DENY), .unset, .unset, .unset, .unset, .unset, .unset] [(.ref wDecision_DENY), (.ref wDecision_DENY)])) _
    refine Jvm.RoadKit.acmp (g := (mkF m 55 #[.val (.int p1), .val (.int (0 : Int32)), .val (.ref wEffect_DENY), .val (.ref wEffect_PERMIT), .val (.ref wOutcome_DENY), .unset, .unset, .unset, .unset, .unset, .unset] [(.ref wDecision_DENY), (.ref wDecision_DENY)])) X8 hx rfl rfl rfl (pc0 := 55) (pc' := 58) (same := true) rfl (hb hby at_55) rfl (decide_eq_true rfl) (by decide) (by decide) ?_
    show Steps p.tables e below (T8.setTop (mkF m 58 #[.val (.int p1), .val (.int (0 : Int32)), .val (.ref wEffect_DENY), .val (.ref wEffect_PERMIT), .val (.ref wOutcome_DENY), .unset, .unset, .unset, .unset, .unset, .unset] [])) _
    refine XS.iconst X8.here hx rfl (hb hby at_58) ?_
    show Steps p.tables e below (T8.setTop (mkF m 59 #[.val (.int p1), .val (.int (0 : Int32)), .val (.ref wEffect_DENY), .val (.ref wEffect_PERMIT), .val (.ref wOutcome_DENY), .unset, .unset, .unset, .unset, .unset, .unset] [(.int (1 : Int32))])) _
    refine XS.goto X8.here hx rfl (pc0 := 59) (pc' := 63) rfl (hb hby at_59) (by decide) (by decide) ?_
    show Steps p.tables e below (T8.setTop (mkF m 63 #[.val (.int p1), .val (.int (0 : Int32)), .val (.ref wEffect_DENY), .val (.ref wEffect_PERMIT), .val (.ref wOutcome_DENY), .unset, .unset, .unset, .unset, .unset, .unset] [(.int (1 : Int32))])) _
    refine XS.istore X8.here hx rfl (hb hby at_63) rfl (l' := #[.val (.int p1), .val (.int (0 : Int32)), .val (.ref wEffect_DENY), .val (.ref wEffect_PERMIT), .val (.ref wOutcome_DENY), .val (.int (1 : Int32)), .unset, .unset, .unset, .unset, .unset]) rfl ?_
    show Steps p.tables e below (T8.setTop (mkF m 65 #[.val (.int p1), .val (.int (0 : Int32)), .val (.ref wEffect_DENY), .val (.ref wEffect_PERMIT), .val (.ref wOutcome_DENY), .val (.int (1 : Int32)), .unset, .unset, .unset, .unset, .unset] [])) _
    refine XS.aload X8.here hx rfl (hb hby at_65) rfl rfl ?_
    show Steps p.tables e below (T8.setTop (mkF m 67 #[.val (.int p1), .val (.int (0 : Int32)), .val (.ref wEffect_DENY), .val (.ref wEffect_PERMIT), .val (.ref wOutcome_DENY), .val (.int (1 : Int32)), .unset, .unset, .unset, .unset, .unset] [(.ref wOutcome_DENY)])) _
    refine st9.trans ?_
    show Steps p.tables e below (T9.setTop (mkF m 70 #[.val (.int p1), .val (.int (0 : Int32)), .val (.ref wEffect_DENY), .val (.ref wEffect_PERMIT), .val (.ref wOutcome_DENY), .val (.int (1 : Int32)), .unset, .unset, .unset, .unset, .unset] [(.ref wStatusCode_OK)])) _
    refine st11 _ ?_
    show Steps p.tables e below (T11.setTop (mkF m 73 #[.val (.int p1), .val (.int (0 : Int32)), .val (.ref wEffect_DENY), .val (.ref wEffect_PERMIT), .val (.ref wOutcome_DENY), .val (.int (1 : Int32)), .unset, .unset, .unset, .unset, .unset] [(.ref wStatusCode_OK), (.ref wStatusCode_OK)])) _
    refine Jvm.RoadKit.acmp (g := (mkF m 73 #[.val (.int p1), .val (.int (0 : Int32)), .val (.ref wEffect_DENY), .val (.ref wEffect_PERMIT), .val (.ref wOutcome_DENY), .val (.int (1 : Int32)), .unset, .unset, .unset, .unset, .unset] [(.ref wStatusCode_OK), (.ref wStatusCode_OK)])) X11 hx rfl rfl rfl (pc0 := 73) (pc' := 76) (same := true) rfl (hb hby at_73) rfl (decide_eq_true (rfl)) (by decide) (by decide) ?_
    show Steps p.tables e below (T11.setTop (mkF m 76 #[.val (.int p1), .val (.int (0 : Int32)), .val (.ref wEffect_DENY), .val (.ref wEffect_PERMIT), .val (.ref wOutcome_DENY), .val (.int (1 : Int32)), .unset, .unset, .unset, .unset, .unset] [])) _
    refine XS.iconst X11.here hx rfl (hb hby at_76) ?_
    show Steps p.tables e below (T11.setTop (mkF m 77 #[.val (.int p1), .val (.int (0 : Int32)), .val (.ref wEffect_DENY), .val (.ref wEffect_PERMIT), .val (.ref wOutcome_DENY), .val (.int (1 : Int32)), .unset, .unset, .unset, .unset, .unset] [(.int (1 : Int32))])) _
    refine XS.goto X11.here hx rfl (pc0 := 77) (pc' := 81) rfl (hb hby at_77) (by decide) (by decide) ?_
    show Steps p.tables e below (T11.setTop (mkF m 81 #[.val (.int p1), .val (.int (0 : Int32)), .val (.ref wEffect_DENY), .val (.ref wEffect_PERMIT), .val (.ref wOutcome_DENY), .val (.int (1 : Int32)), .unset, .unset, .unset, .unset, .unset] [(.int (1 : Int32))])) _
    refine XS.istore X11.here hx rfl (hb hby at_81) rfl (l' := #[.val (.int p1), .val (.int (0 : Int32)), .val (.ref wEffect_DENY), .val (.ref wEffect_PERMIT), .val (.ref wOutcome_DENY), .val (.int (1 : Int32)), .val (.int (1 : Int32)), .unset, .unset, .unset, .unset]) rfl ?_
    show Steps p.tables e below (T11.setTop (mkF m 83 #[.val (.int p1), .val (.int (0 : Int32)), .val (.ref wEffect_DENY), .val (.ref wEffect_PERMIT), .val (.ref wOutcome_DENY), .val (.int (1 : Int32)), .val (.int (1 : Int32)), .unset, .unset, .unset, .unset] [])) _
    refine XS.aload X11.here hx rfl (hb hby at_83) rfl rfl ?_
    show Steps p.tables e below (T11.setTop (mkF m 85 #[.val (.int p1), .val (.int (0 : Int32)), .val (.ref wEffect_DENY), .val (.ref wEffect_PERMIT), .val (.ref wOutcome_DENY), .val (.int (1 : Int32)), .val (.int (1 : Int32)), .unset, .unset, .unset, .unset] [(.ref wOutcome_DENY)])) _
    refine st12.trans ?_
    show Steps p.tables e below (T12.setTop (mkF m 88 #[.val (.int p1), .val (.int (0 : Int32)), .val (.ref wEffect_DENY), .val (.ref wEffect_PERMIT), .val (.ref wOutcome_DENY), .val (.int (1 : Int32)), .val (.int (1 : Int32)), .unset, .unset, .unset, .unset] [(.ref wEffect_DENY)])) _
    refine XS.aloadN X12.here hx rfl (hb hby at_88) rfl rfl ?_
    show Steps p.tables e below (T12.setTop (mkF m 89 #[.val (.int p1), .val (.int (0 : Int32)), .val (.ref wEffect_DENY), .val (.ref wEffect_PERMIT), .val (.ref wOutcome_DENY), .val (.int (1 : Int32)), .val (.int (1 : Int32)), .unset, .unset, .unset, .unset] [(.ref wEffect_DENY), (.ref wEffect_DENY)])) _
    refine Jvm.RoadKit.acmp (g := (mkF m 89 #[.val (.int p1), .val (.int (0 : Int32)), .val (.ref wEffect_DENY), .val (.ref wEffect_PERMIT), .val (.ref wOutcome_DENY), .val (.int (1 : Int32)), .val (.int (1 : Int32)), .unset, .unset, .unset, .unset] [(.ref wEffect_DENY), (.ref wEffect_DENY)])) X12 hx rfl rfl rfl (pc0 := 89) (pc' := 92) (same := true) rfl (hb hby at_89) rfl (decide_eq_true (rfl)) (by decide) (by decide) ?_
    show Steps p.tables e below (T12.setTop (mkF m 92 #[.val (.int p1), .val (.int (0 : Int32)), .val (.ref wEffect_DENY), .val (.ref wEffect_PERMIT), .val (.ref wOutcome_DENY), .val (.int (1 : Int32)), .val (.int (1 : Int32)), .unset, .unset, .unset, .unset] [])) _
    refine XS.iconst X12.here hx rfl (hb hby at_92) ?_
    show Steps p.tables e below (T12.setTop (mkF m 93 #[.val (.int p1), .val (.int (0 : Int32)), .val (.ref wEffect_DENY), .val (.ref wEffect_PERMIT), .val (.ref wOutcome_DENY), .val (.int (1 : Int32)), .val (.int (1 : Int32)), .unset, .unset, .unset, .unset] [(.int (1 : Int32))])) _
    refine XS.goto X12.here hx rfl (pc0 := 93) (pc' := 97) rfl (hb hby at_93) (by decide) (by decide) ?_
    show Steps p.tables e below (T12.setTop (mkF m 97 #[.val (.int p1), .val (.int (0 : Int32)), .val (.ref wEffect_DENY), .val (.ref wEffect_PERMIT), .val (.ref wOutcome_DENY), .val (.int (1 : Int32)), .val (.int (1 : Int32)), .unset, .unset, .unset, .unset] [(.int (1 : Int32))])) _
    refine XS.istore X12.here hx rfl (hb hby at_97) rfl (l' := #[.val (.int p1), .val (.int (0 : Int32)), .val (.ref wEffect_DENY), .val (.ref wEffect_PERMIT), .val (.ref wOutcome_DENY), .val (.int (1 : Int32)), .val (.int (1 : Int32)), .val (.int (1 : Int32)), .unset, .unset, .unset]) rfl ?_
    show Steps p.tables e below (T12.setTop (mkF m 99 #[.val (.int p1), .val (.int (0 : Int32)), .val (.ref wEffect_DENY), .val (.ref wEffect_PERMIT), .val (.ref wOutcome_DENY), .val (.int (1 : Int32)), .val (.int (1 : Int32)), .val (.int (1 : Int32)), .unset, .unset, .unset] [])) _
    refine XS.aload X12.here hx rfl (hb hby at_99) rfl rfl ?_
    show Steps p.tables e below (T12.setTop (mkF m 101 #[.val (.int p1), .val (.int (0 : Int32)), .val (.ref wEffect_DENY), .val (.ref wEffect_PERMIT), .val (.ref wOutcome_DENY), .val (.int (1 : Int32)), .val (.int (1 : Int32)), .val (.int (1 : Int32)), .unset, .unset, .unset] [(.ref wOutcome_DENY)])) _
    refine XS.aloadN X12.here hx rfl (hb hby at_101) rfl rfl ?_
    show Steps p.tables e below (T12.setTop (mkF m 102 #[.val (.int p1), .val (.int (0 : Int32)), .val (.ref wEffect_DENY), .val (.ref wEffect_PERMIT), .val (.ref wOutcome_DENY), .val (.int (1 : Int32)), .val (.int (1 : Int32)), .val (.int (1 : Int32)), .unset, .unset, .unset] [(.ref wEffect_DENY), (.ref wOutcome_DENY)])) _
    refine st13.trans ?_
    show Steps p.tables e below (T13.setTop (mkF m 105 #[.val (.int p1), .val (.int (0 : Int32)), .val (.ref wEffect_DENY), .val (.ref wEffect_PERMIT), .val (.ref wOutcome_DENY), .val (.int (1 : Int32)), .val (.int (1 : Int32)), .val (.int (1 : Int32)), .unset, .unset, .unset] [(.int (1 : Int32))])) _
    refine XS.istore X13.here hx rfl (hb hby at_105) rfl (l' := #[.val (.int p1), .val (.int (0 : Int32)), .val (.ref wEffect_DENY), .val (.ref wEffect_PERMIT), .val (.ref wOutcome_DENY), .val (.int (1 : Int32)), .val (.int (1 : Int32)), .val (.int (1 : Int32)), .val (.int (1 : Int32)), .unset, .unset]) rfl ?_
    show Steps p.tables e below (T13.setTop (mkF m 107 #[.val (.int p1), .val (.int (0 : Int32)), .val (.ref wEffect_DENY), .val (.ref wEffect_PERMIT), .val (.ref wOutcome_DENY), .val (.int (1 : Int32)), .val (.int (1 : Int32)), .val (.int (1 : Int32)), .val (.int (1 : Int32)), .unset, .unset] [])) _
    refine XS.aload X13.here hx rfl (hb hby at_107) rfl rfl ?_
    show Steps p.tables e below (T13.setTop (mkF m 109 #[.val (.int p1), .val (.int (0 : Int32)), .val (.ref wEffect_DENY), .val (.ref wEffect_PERMIT), .val (.ref wOutcome_DENY), .val (.int (1 : Int32)), .val (.int (1 : Int32)), .val (.int (1 : Int32)), .val (.int (1 : Int32)), .unset, .unset] [(.ref wOutcome_DENY)])) _
    refine XS.aloadN X13.here hx rfl (hb hby at_109) rfl rfl ?_
    show Steps p.tables e below (T13.setTop (mkF m 110 #[.val (.int p1), .val (.int (0 : Int32)), .val (.ref wEffect_DENY), .val (.ref wEffect_PERMIT), .val (.ref wOutcome_DENY), .val (.int (1 : Int32)), .val (.int (1 : Int32)), .val (.int (1 : Int32)), .val (.int (1 : Int32)), .unset, .unset] [(.ref wEffect_PERMIT), (.ref wOutcome_DENY)])) _
    refine st14.trans ?_
    show Steps p.tables e below (T14.setTop (mkF m 113 #[.val (.int p1), .val (.int (0 : Int32)), .val (.ref wEffect_DENY), .val (.ref wEffect_PERMIT), .val (.ref wOutcome_DENY), .val (.int (1 : Int32)), .val (.int (1 : Int32)), .val (.int (1 : Int32)), .val (.int (1 : Int32)), .unset, .unset] [(.int (0 : Int32))])) _
    refine XS.ifNo X14.here hx rfl (hb hby at_113) rfl ((if0 _ _).trans (teq (rfl : (0 : Int32) = (0 : Int32))).2) ?_
    show Steps p.tables e below (T14.setTop (mkF m 116 #[.val (.int p1), .val (.int (0 : Int32)), .val (.ref wEffect_DENY), .val (.ref wEffect_PERMIT), .val (.ref wOutcome_DENY), .val (.int (1 : Int32)), .val (.int (1 : Int32)), .val (.int (1 : Int32)), .val (.int (1 : Int32)), .unset, .unset] [])) _
    refine XS.iconst X14.here hx rfl (hb hby at_116) ?_
    show Steps p.tables e below (T14.setTop (mkF m 117 #[.val (.int p1), .val (.int (0 : Int32)), .val (.ref wEffect_DENY), .val (.ref wEffect_PERMIT), .val (.ref wOutcome_DENY), .val (.int (1 : Int32)), .val (.int (1 : Int32)), .val (.int (1 : Int32)), .val (.int (1 : Int32)), .unset, .unset] [(.int (1 : Int32))])) _
    refine XS.goto X14.here hx rfl (pc0 := 117) (pc' := 121) rfl (hb hby at_117) (by decide) (by decide) ?_
    show Steps p.tables e below (T14.setTop (mkF m 121 #[.val (.int p1), .val (.int (0 : Int32)), .val (.ref wEffect_DENY), .val (.ref wEffect_PERMIT), .val (.ref wOutcome_DENY), .val (.int (1 : Int32)), .val (.int (1 : Int32)), .val (.int (1 : Int32)), .val (.int (1 : Int32)), .unset, .unset] [(.int (1 : Int32))])) _
    refine XS.istore X14.here hx rfl (hb hby at_121) rfl (l' := #[.val (.int p1), .val (.int (0 : Int32)), .val (.ref wEffect_DENY), .val (.ref wEffect_PERMIT), .val (.ref wOutcome_DENY), .val (.int (1 : Int32)), .val (.int (1 : Int32)), .val (.int (1 : Int32)), .val (.int (1 : Int32)), .val (.int (1 : Int32)), .unset]) rfl ?_
    show Steps p.tables e below (T14.setTop (mkF m 123 #[.val (.int p1), .val (.int (0 : Int32)), .val (.ref wEffect_DENY), .val (.ref wEffect_PERMIT), .val (.ref wOutcome_DENY), .val (.int (1 : Int32)), .val (.int (1 : Int32)), .val (.int (1 : Int32)), .val (.int (1 : Int32)), .val (.int (1 : Int32)), .unset] [])) _
    refine XS.aload X14.here hx rfl (hb hby at_123) rfl rfl ?_
    show Steps p.tables e below (T14.setTop (mkF m 125 #[.val (.int p1), .val (.int (0 : Int32)), .val (.ref wEffect_DENY), .val (.ref wEffect_PERMIT), .val (.ref wOutcome_DENY), .val (.int (1 : Int32)), .val (.int (1 : Int32)), .val (.int (1 : Int32)), .val (.int (1 : Int32)), .val (.int (1 : Int32)), .unset] [(.ref wOutcome_DENY)])) _
    refine st15.trans ?_
    show Steps p.tables e below (T15.setTop (mkF m 128 #[.val (.int p1), .val (.int (0 : Int32)), .val (.ref wEffect_DENY), .val (.ref wEffect_PERMIT), .val (.ref wOutcome_DENY), .val (.int (1 : Int32)), .val (.int (1 : Int32)), .val (.int (1 : Int32)), .val (.int (1 : Int32)), .val (.int (1 : Int32)), .unset] [(.ref wDir)])) _
    refine st16.trans ?_
    show Steps p.tables e below (T16.setTop (mkF m 133 #[.val (.int p1), .val (.int (0 : Int32)), .val (.ref wEffect_DENY), .val (.ref wEffect_PERMIT), .val (.ref wOutcome_DENY), .val (.int (1 : Int32)), .val (.int (1 : Int32)), .val (.int (1 : Int32)), .val (.int (1 : Int32)), .val (.int (1 : Int32)), .unset] [(.int (0 : Int32))])) _
    refine XS.ifNo X16.here hx rfl (hb hby at_133) rfl ((if0 _ _).trans (teq (rfl : (0 : Int32) = (0 : Int32))).2) ?_
    show Steps p.tables e below (T16.setTop (mkF m 136 #[.val (.int p1), .val (.int (0 : Int32)), .val (.ref wEffect_DENY), .val (.ref wEffect_PERMIT), .val (.ref wOutcome_DENY), .val (.int (1 : Int32)), .val (.int (1 : Int32)), .val (.int (1 : Int32)), .val (.int (1 : Int32)), .val (.int (1 : Int32)), .unset] [])) _
    refine XS.iconst X16.here hx rfl (hb hby at_136) ?_
    show Steps p.tables e below (T16.setTop (mkF m 137 #[.val (.int p1), .val (.int (0 : Int32)), .val (.ref wEffect_DENY), .val (.ref wEffect_PERMIT), .val (.ref wOutcome_DENY), .val (.int (1 : Int32)), .val (.int (1 : Int32)), .val (.int (1 : Int32)), .val (.int (1 : Int32)), .val (.int (1 : Int32)), .unset] [(.int (1 : Int32))])) _
    refine XS.goto X16.here hx rfl (pc0 := 137) (pc' := 141) rfl (hb hby at_137) (by decide) (by decide) ?_
    show Steps p.tables e below (T16.setTop (mkF m 141 #[.val (.int p1), .val (.int (0 : Int32)), .val (.ref wEffect_DENY), .val (.ref wEffect_PERMIT), .val (.ref wOutcome_DENY), .val (.int (1 : Int32)), .val (.int (1 : Int32)), .val (.int (1 : Int32)), .val (.int (1 : Int32)), .val (.int (1 : Int32)), .unset] [(.int (1 : Int32))])) _
    refine XS.istore X16.here hx rfl (hb hby at_141) rfl (l' := #[.val (.int p1), .val (.int (0 : Int32)), .val (.ref wEffect_DENY), .val (.ref wEffect_PERMIT), .val (.ref wOutcome_DENY), .val (.int (1 : Int32)), .val (.int (1 : Int32)), .val (.int (1 : Int32)), .val (.int (1 : Int32)), .val (.int (1 : Int32)), .val (.int (1 : Int32))]) rfl ?_
    show Steps p.tables e below (T16.setTop (mkF m 143 #[.val (.int p1), .val (.int (0 : Int32)), .val (.ref wEffect_DENY), .val (.ref wEffect_PERMIT), .val (.ref wOutcome_DENY), .val (.int (1 : Int32)), .val (.int (1 : Int32)), .val (.int (1 : Int32)), .val (.int (1 : Int32)), .val (.int (1 : Int32)), .val (.int (1 : Int32))] [])) _
    refine XS.iload X16.here hx rfl (hb hby at_143) rfl ?_
    show Steps p.tables e below (T16.setTop (mkF m 145 #[.val (.int p1), .val (.int (0 : Int32)), .val (.ref wEffect_DENY), .val (.ref wEffect_PERMIT), .val (.ref wOutcome_DENY), .val (.int (1 : Int32)), .val (.int (1 : Int32)), .val (.int (1 : Int32)), .val (.int (1 : Int32)), .val (.int (1 : Int32)), .val (.int (1 : Int32))] [(.int (1 : Int32))])) _
    refine XS.ifNo X16.here hx rfl (hb hby at_145) rfl ((if0 _ _).trans (feq hc145).1) ?_
    show Steps p.tables e below (T16.setTop (mkF m 148 #[.val (.int p1), .val (.int (0 : Int32)), .val (.ref wEffect_DENY), .val (.ref wEffect_PERMIT), .val (.ref wOutcome_DENY), .val (.int (1 : Int32)), .val (.int (1 : Int32)), .val (.int (1 : Int32)), .val (.int (1 : Int32)), .val (.int (1 : Int32)), .val (.int (1 : Int32))] [])) _
    refine XS.iload X16.here hx rfl (hb hby at_148) rfl ?_
    show Steps p.tables e below (T16.setTop (mkF m 150 #[.val (.int p1), .val (.int (0 : Int32)), .val (.ref wEffect_DENY), .val (.ref wEffect_PERMIT), .val (.ref wOutcome_DENY), .val (.int (1 : Int32)), .val (.int (1 : Int32)), .val (.int (1 : Int32)), .val (.int (1 : Int32)), .val (.int (1 : Int32)), .val (.int (1 : Int32))] [(.int (1 : Int32))])) _
    refine XS.ifNo X16.here hx rfl (hb hby at_150) rfl ((if0 _ _).trans (feq hc150).1) ?_
    show Steps p.tables e below (T16.setTop (mkF m 153 #[.val (.int p1), .val (.int (0 : Int32)), .val (.ref wEffect_DENY), .val (.ref wEffect_PERMIT), .val (.ref wOutcome_DENY), .val (.int (1 : Int32)), .val (.int (1 : Int32)), .val (.int (1 : Int32)), .val (.int (1 : Int32)), .val (.int (1 : Int32)), .val (.int (1 : Int32))] [])) _
    refine XS.iload X16.here hx rfl (hb hby at_153) rfl ?_
    show Steps p.tables e below (T16.setTop (mkF m 155 #[.val (.int p1), .val (.int (0 : Int32)), .val (.ref wEffect_DENY), .val (.ref wEffect_PERMIT), .val (.ref wOutcome_DENY), .val (.int (1 : Int32)), .val (.int (1 : Int32)), .val (.int (1 : Int32)), .val (.int (1 : Int32)), .val (.int (1 : Int32)), .val (.int (1 : Int32))] [(.int (1 : Int32))])) _
    refine XS.ifNo X16.here hx rfl (hb hby at_155) rfl ((if0 _ _).trans (feq hc155).1) ?_
    show Steps p.tables e below (T16.setTop (mkF m 158 #[.val (.int p1), .val (.int (0 : Int32)), .val (.ref wEffect_DENY), .val (.ref wEffect_PERMIT), .val (.ref wOutcome_DENY), .val (.int (1 : Int32)), .val (.int (1 : Int32)), .val (.int (1 : Int32)), .val (.int (1 : Int32)), .val (.int (1 : Int32)), .val (.int (1 : Int32))] [])) _
    refine XS.iload X16.here hx rfl (hb hby at_158) rfl ?_
    show Steps p.tables e below (T16.setTop (mkF m 160 #[.val (.int p1), .val (.int (0 : Int32)), .val (.ref wEffect_DENY), .val (.ref wEffect_PERMIT), .val (.ref wOutcome_DENY), .val (.int (1 : Int32)), .val (.int (1 : Int32)), .val (.int (1 : Int32)), .val (.int (1 : Int32)), .val (.int (1 : Int32)), .val (.int (1 : Int32))] [(.int (1 : Int32))])) _
    refine XS.ifNo X16.here hx rfl (hb hby at_160) rfl ((if0 _ _).trans (feq hc160).1) ?_
    show Steps p.tables e below (T16.setTop (mkF m 163 #[.val (.int p1), .val (.int (0 : Int32)), .val (.ref wEffect_DENY), .val (.ref wEffect_PERMIT), .val (.ref wOutcome_DENY), .val (.int (1 : Int32)), .val (.int (1 : Int32)), .val (.int (1 : Int32)), .val (.int (1 : Int32)), .val (.int (1 : Int32)), .val (.int (1 : Int32))] [])) _
    refine XS.iload X16.here hx rfl (hb hby at_163) rfl ?_
    show Steps p.tables e below (T16.setTop (mkF m 165 #[.val (.int p1), .val (.int (0 : Int32)), .val (.ref wEffect_DENY), .val (.ref wEffect_PERMIT), .val (.ref wOutcome_DENY), .val (.int (1 : Int32)), .val (.int (1 : Int32)), .val (.int (1 : Int32)), .val (.int (1 : Int32)), .val (.int (1 : Int32)), .val (.int (1 : Int32))] [(.int (1 : Int32))])) _
    refine XS.ifNo X16.here hx rfl (hb hby at_165) rfl ((if0 _ _).trans (feq hc165).1) ?_
    show Steps p.tables e below (T16.setTop (mkF m 168 #[.val (.int p1), .val (.int (0 : Int32)), .val (.ref wEffect_DENY), .val (.ref wEffect_PERMIT), .val (.ref wOutcome_DENY), .val (.int (1 : Int32)), .val (.int (1 : Int32)), .val (.int (1 : Int32)), .val (.int (1 : Int32)), .val (.int (1 : Int32)), .val (.int (1 : Int32))] [])) _
    refine XS.iload X16.here hx rfl (hb hby at_168) rfl ?_
    show Steps p.tables e below (T16.setTop (mkF m 170 #[.val (.int p1), .val (.int (0 : Int32)), .val (.ref wEffect_DENY), .val (.ref wEffect_PERMIT), .val (.ref wOutcome_DENY), .val (.int (1 : Int32)), .val (.int (1 : Int32)), .val (.int (1 : Int32)), .val (.int (1 : Int32)), .val (.int (1 : Int32)), .val (.int (1 : Int32))] [(.int (1 : Int32))])) _
    refine XS.ifNo X16.here hx rfl (hb hby at_170) rfl ((if0 _ _).trans (feq hc170).1) ?_
    show Steps p.tables e below (T16.setTop (mkF m 173 #[.val (.int p1), .val (.int (0 : Int32)), .val (.ref wEffect_DENY), .val (.ref wEffect_PERMIT), .val (.ref wOutcome_DENY), .val (.int (1 : Int32)), .val (.int (1 : Int32)), .val (.int (1 : Int32)), .val (.int (1 : Int32)), .val (.int (1 : Int32)), .val (.int (1 : Int32))] [])) _
    refine XS.iconst X16.here hx rfl (hb hby at_173) ?_
    show Steps p.tables e below (T16.setTop (mkF m 174 #[.val (.int p1), .val (.int (0 : Int32)), .val (.ref wEffect_DENY), .val (.ref wEffect_PERMIT), .val (.ref wOutcome_DENY), .val (.int (1 : Int32)), .val (.int (1 : Int32)), .val (.int (1 : Int32)), .val (.int (1 : Int32)), .val (.int (1 : Int32)), .val (.int (1 : Int32))] [(.int (1 : Int32))])) _
    refine XS.goto X16.here hx rfl (pc0 := 174) (pc' := 178) rfl (hb hby at_174) (by decide) (by decide) ?_
    show Steps p.tables e below (T16.setTop (mkF m 178 #[.val (.int p1), .val (.int (0 : Int32)), .val (.ref wEffect_DENY), .val (.ref wEffect_PERMIT), .val (.ref wOutcome_DENY), .val (.int (1 : Int32)), .val (.int (1 : Int32)), .val (.int (1 : Int32)), .val (.int (1 : Int32)), .val (.int (1 : Int32)), .val (.int (1 : Int32))] [(.int (1 : Int32))])) _
    exact retN X16 hx (t := .boolean) Bd.returns (by simp) (hb hby at_178) hr
  · show own_Q (some (.int (1 : Int32))) h0 n0 _ T16.heap _
    rw [e16]
    exact ⟨rfl, N16, rfl⟩
theorem rm0 (l : Launch) (Z : State) (a0 : Array Value) (hw : ∀ d ∈ tables_1, d.before a0 Z = true) (ws : List Jvm.Cond) (p1 : Int32) (wEffect_DENY wEffect_PERMIT wOutcome_DENY wOutcome_PERMIT wDecision_DENY wDecision_PERMIT wStatusCode_OK wDir wEl : Addr) (cl : Cell) (h0 : Heap) (n0 : Nat) (Z0 : n0 ≤ h0.size) (S_Effect_DENY : Sta Z h0 "com/example/attributary/attributary/model/Effect" "DENY" "Lcom/example/attributary/attributary/model/Effect;" (.ref wEffect_DENY)) (S_Effect_PERMIT : Sta Z h0 "com/example/attributary/attributary/model/Effect" "PERMIT" "Lcom/example/attributary/attributary/model/Effect;" (.ref wEffect_PERMIT)) (S_Outcome_DENY : Sta Z h0 "com/example/attributary/attributary/engine/Outcome" "DENY" "Lcom/example/attributary/attributary/engine/Outcome;" (.ref wOutcome_DENY)) (S_Outcome_PERMIT : Sta Z h0 "com/example/attributary/attributary/engine/Outcome" "PERMIT" "Lcom/example/attributary/attributary/engine/Outcome;" (.ref wOutcome_PERMIT)) (S_Decision_DENY : Sta Z h0 "com/example/attributary/attributary/model/Decision" "DENY" "Lcom/example/attributary/attributary/model/Decision;" (.ref wDecision_DENY)) (S_Decision_PERMIT : Sta Z h0 "com/example/attributary/attributary/model/Decision" "PERMIT" "Lcom/example/attributary/attributary/model/Decision;" (.ref wDecision_PERMIT)) (S_StatusCode_OK : Sta Z h0 "com/example/attributary/attributary/model/StatusCode" "OK" "Lcom/example/attributary/attributary/model/StatusCode;" (.ref wStatusCode_OK)) (E_wEffect_DENY : Exa Z h0 wEffect_DENY "com/example/attributary/attributary/model/Effect") (E_wEffect_PERMIT : Exa Z h0 wEffect_PERMIT "com/example/attributary/attributary/model/Effect") (E_wOutcome_DENY : Exa Z h0 wOutcome_DENY "com/example/attributary/attributary/engine/Outcome") (E_wOutcome_PERMIT : Exa Z h0 wOutcome_PERMIT "com/example/attributary/attributary/engine/Outcome") (E_wDir : Exa Z h0 wDir "java/util/ImmutableCollections$ListN") (F_OD_decision : Fld Z h0 wOutcome_DENY "com/example/attributary/attributary/engine/Outcome" "decision" "Lcom/example/attributary/attributary/model/Decision;" (.ref wDecision_DENY)) (F_OP_decision : Fld Z h0 wOutcome_PERMIT "com/example/attributary/attributary/engine/Outcome" "decision" "Lcom/example/attributary/attributary/model/Decision;" (.ref wDecision_PERMIT)) (F_ED_decision : Fld Z h0 wEffect_DENY "com/example/attributary/attributary/model/Effect" "decision" "Lcom/example/attributary/attributary/model/Decision;" (.ref wDecision_DENY)) (F_EP_decision : Fld Z h0 wEffect_PERMIT "com/example/attributary/attributary/model/Effect" "decision" "Lcom/example/attributary/attributary/model/Decision;" (.ref wDecision_PERMIT)) (F_OD_status : Fld Z h0 wOutcome_DENY "com/example/attributary/attributary/engine/Outcome" "status" "Lcom/example/attributary/attributary/model/StatusCode;" (.ref wStatusCode_OK)) (F_OP_status : Fld Z h0 wOutcome_PERMIT "com/example/attributary/attributary/engine/Outcome" "status" "Lcom/example/attributary/attributary/model/StatusCode;" (.ref wStatusCode_OK)) (F_OD_couldDeny : Fld Z h0 wOutcome_DENY "com/example/attributary/attributary/engine/Outcome" "couldDeny" "Z" (.int 0)) (F_OD_couldPermit : Fld Z h0 wOutcome_DENY "com/example/attributary/attributary/engine/Outcome" "couldPermit" "Z" (.int 0)) (F_OP_couldDeny : Fld Z h0 wOutcome_PERMIT "com/example/attributary/attributary/engine/Outcome" "couldDeny" "Z" (.int 0)) (F_OP_couldPermit : Fld Z h0 wOutcome_PERMIT "com/example/attributary/attributary/engine/Outcome" "couldPermit" "Z" (.int 0)) (F_OD_dir : Fld Z h0 wOutcome_DENY "com/example/attributary/attributary/engine/Outcome" "directives" "Ljava/util/List;" (.ref wDir)) (F_OP_dir : Fld Z h0 wOutcome_PERMIT "com/example/attributary/attributary/engine/Outcome" "directives" "Ljava/util/List;" (.ref wDir)) (F_elements : Fld Z h0 wDir "java/util/ImmutableCollections$ListN" "elements" "[Ljava/lang/Object;" (.ref wEl)) (Ar : Arr Z h0 wEl cl (.object "java/lang/Object")) (Sz : cl.slots.size = (0 : Int32).toNatClampNeg) (nE : wEffect_PERMIT ≠ wEffect_DENY) (nDec : wDecision_PERMIT ≠ wDecision_DENY) :
    MetFree l x (head1 (Jvm.Cond.code x code maxLocals ret :: ws) room_1) (fun a U => a = #[(.int p1)] ∧ Z.Warmed39 U.vm ∧ U.heap = h0) (fun _ _ _ _ _ => True) (fun _ U o U' => ∃ v L, o = .returned v ∧ own_Q (some (.int (1 : Int32))) h0 n0 v U'.heap L ∧ FrameEnd U o U' L room_1.cells room_1.slots) := by
  by_cases hc3 : (p1 &&& (1 : Int32)) = (0 : Int32)
  · exact own_rm0_D l Z a0 hw ws p1 wEffect_DENY wEffect_PERMIT wOutcome_DENY wOutcome_PERMIT wDecision_DENY wDecision_PERMIT wStatusCode_OK wDir wEl cl h0 n0 Z0 S_Effect_DENY S_Effect_PERMIT S_Outcome_DENY S_Outcome_PERMIT S_Decision_DENY S_Decision_PERMIT S_StatusCode_OK E_wEffect_DENY E_wEffect_PERMIT E_wOutcome_DENY E_wOutcome_PERMIT E_wDir F_OD_decision F_OP_decision F_ED_decision F_EP_decision F_OD_status F_OP_status F_OD_couldDeny F_OD_couldPermit F_OP_couldDeny F_OP_couldPermit F_OD_dir F_OP_dir F_elements Ar Sz nE nDec hc3 (by decide) (by decide) (by decide) (by decide) (by decide) (by decide)
  · exact own_rm0_P l Z a0 hw ws p1 wEffect_DENY wEffect_PERMIT wOutcome_DENY wOutcome_PERMIT wDecision_DENY wDecision_PERMIT wStatusCode_OK wDir wEl cl h0 n0 Z0 S_Effect_DENY S_Effect_PERMIT S_Outcome_DENY S_Outcome_PERMIT S_Decision_DENY S_Decision_PERMIT S_StatusCode_OK E_wEffect_DENY E_wEffect_PERMIT E_wOutcome_DENY E_wOutcome_PERMIT E_wDir F_OD_decision F_OP_decision F_ED_decision F_EP_decision F_OD_status F_OP_status F_OD_couldDeny F_OD_couldPermit F_OP_couldDeny F_OP_couldPermit F_OD_dir F_OP_dir F_elements Ar Sz nE nDec hc3 (by decide) (by decide) (by decide) (by decide) (by decide) (by decide) (by decide) (by decide)
theorem own_ord {args : Array Value} {s : State} {t : Term} {a : Addr} {C n d : String} {k : Int32} (ht : t.eval args s none [] s = some (.ref a)) (h : (Cond.eq (Term.field t C n d) (Term.int k)).value args s none s [] = some true) : s.fieldOf? a C n d = some (.int k) := by
  obtain ⟨x, y, h1, h2, -, k2⟩ := cmp_v (Or.inl h)
  rw [Term.int_eval] at h2
  cases h2
  obtain ⟨z, rfl⟩ := k2
  have q := gotT (Cond.eq_ints h1 (Term.int_eval _)) h
  rw [fld_at ht] at h1
  rw [h1, q]
theorem own_fref {args : Array Value} {s : State} {t u : Term} {a b : Addr} {C n d : String} (ht : t.eval args s none [] s = some (.ref a)) (hu : u.eval args s none [] s = some (.ref b)) (h : (Cond.eq (Term.field t C n d) u).value args s none s [] = some true) : s.fieldOf? a C n d = some (.ref b) := by
  obtain ⟨x, y, h1, h2, -, k2⟩ := cmp_v (Or.inl h)
  rw [hu] at h2
  cases h2
  have q := gotT (eq_R h1 hu k2.2 rfl) h
  rw [fld_at ht] at h1
  rw [h1, q]
theorem own_ne {s : State} {a b : Addr} {C n d : String} {k j : Int32} (h1 : s.fieldOf? a C n d = some (.int k)) (h2 : s.fieldOf? b C n d = some (.int j)) (h : k ≠ j) : a ≠ b := fun q => by
  subst q; rw [h1] at h2; exact h (Value.int.inj (Option.some.inj h2))
theorem own_len0 {args : Array Value} {s : State} {t : Term} {a : Addr} {cl : Cell} (ht : t.eval args s none [] s = some (.ref a)) (hA : s.arrayAt? a = some cl) (h : (Cond.eq (Term.length t) (Term.int 0)).value args s none s [] = some true) : cl.slots.size = (0 : Int32).toNatClampNeg := by
  by_cases hs : cl.slots.size < 2 ^ 31
  · have q := gotT (Cond.eq_ints (len_f ht hA hs) (Term.int_eval _)) h
    have r := len_toInt hs
    rw [q] at r
    have z : (0 : Int32).toInt = 0 := by decide
    have w : (0 : Int32).toNatClampNeg = 0 := by decide
    omega
  · obtain ⟨x, y, h1, h2, -, -⟩ := cmp_v (Or.inl h)
    simp [Term.eval, ht, hA, hs] at h1
set_option maxRecDepth 65536 in
set_option maxHeartbeats 40000000 in
theorem comes_1 {Post : Tables → Env → Array Value → State → Outcome → State → Prop} (hpost : ∀ tb e args s v u, (limb_1_1.after args s (.returned v) u = true ∧ limb_1_2.after args s (.returned v) u = true ∧ True) → FrameEnd s (.returned v) u (Jvm.fieldLocs frame_1_writes args s ++ Jvm.arrayLocs frame_1_arrays args s ++ Jvm.staticLocs frame_1_statics s) 0 0 → Post tb e args s (.returned v) u) :
    ArmFor flags0 classFile x code maxLocals ret World_1 tables_1 room_1 Calls_1 rest_1 Pre_1 Post := by
  intro l hfl _ _ p e ha hc hk s m args below hf hA hF happ hP
  obtain ⟨hcalls, hrest, hpre⟩ := hP
  obtain ⟨-, -, -, hnamed, -, -, -, hat⟩ := (Spec.applies_iff hf).mp happ
  obtain ⟨hg, hn⟩ := and_e (Cond.before_iff.mp (show (Jvm.Cond.and given_1 narrow_1).before args s = true from hpre))
  obtain ⟨g17, g18⟩ := and_e hg
  obtain ⟨w0, rfl⟩ : ∃ w0 : Value, args = #[w0] := by
    have hs : args.size = 1 := by simpa [Cond.value, given_1] using g17
    obtain ⟨L⟩ := args
    match L, hs with
    | [w0], _ => exact ⟨w0, rfl⟩
  have hw := fun d (hd : d ∈ tables_1) => atoms_spec (ws := Jvm.Cond.code x code maxLocals ret :: tables_1) hat d (List.mem_cons_of_mem _ hd)
  have hfit : Fit s := fun {y c} hc i hi => by
    obtain ⟨ha, rfl⟩ := Array.getElem?_eq_some_iff.mp hc
    have q := List.all_eq_true.mp ((Array.all_eq_true_iff_forall_mem.mp hF) _ (Array.getElem_mem ha)) i (List.mem_range.mpr hi)
    simpa [Array.getElem?_eq_getElem hi] using q
  obtain ⟨i0, ei0⟩ := is_v g18
  obtain rfl : w0 = (.int i0) := Option.some.inj ei0
  obtain ⟨m1, r1⟩ := and_e hn
  obtain ⟨m2, r2⟩ := and_e r1
  obtain ⟨m3, r3⟩ := and_e r2
  obtain ⟨m4, r4⟩ := and_e r3
  obtain ⟨m5, r5⟩ := and_e r4
  obtain ⟨m6, r6⟩ := and_e r5
  obtain ⟨m7, r7⟩ := and_e r6
  obtain ⟨m8, r8⟩ := and_e r7
  obtain ⟨m9, r9⟩ := and_e r8
  obtain ⟨m10, r10⟩ := and_e r9
  obtain ⟨m11, r11⟩ := and_e r10
  obtain ⟨m12, r12⟩ := and_e r11
  obtain ⟨m13, r13⟩ := and_e r12
  obtain ⟨m14, r14⟩ := and_e r13
  obtain ⟨m15, r15⟩ := and_e r14
  obtain ⟨m16, r16⟩ := and_e r15
  obtain ⟨m17, r17⟩ := and_e r16
  obtain ⟨m18, r18⟩ := and_e r17
  obtain ⟨m19, r19⟩ := and_e r18
  obtain ⟨m20, r20⟩ := and_e r19
  obtain ⟨m21, r21⟩ := and_e r20
  obtain ⟨m22, r22⟩ := and_e r21
  obtain ⟨m23, r23⟩ := and_e r22
  obtain ⟨m24, r24⟩ := and_e r23
  have m25 := r24
  obtain ⟨wEffect_DENY, vED⟩ := exa_v m1
  obtain ⟨wEffect_PERMIT, vEP⟩ := exa_v m2
  obtain ⟨wOutcome_DENY, vOD⟩ := exa_v m5
  obtain ⟨wDecision_DENY, vDD⟩ := exa_v m6
  obtain ⟨wStatusCode_OK, vOK⟩ := exa_v m9
  obtain ⟨wDecision_PERMIT, vDP⟩ := exa_v m11
  obtain ⟨wOutcome_PERMIT, vOP⟩ := exa_v m20
  obtain ⟨wDir, vDir⟩ := exa_v m17
  obtain ⟨wEl, vEl⟩ := arr_v m18
  obtain ⟨cl, Ar⟩ := Arr.start vEl m18
  have iE := hw _ (List.mem_of_getElem? (i := 1) rfl)
  have iO := hw _ (List.mem_of_getElem? (i := 7) rfl)
  have iD := hw _ (List.mem_of_getElem? (i := 19) rfl)
  have iS := hw _ (List.mem_of_getElem? (i := 35) rfl)
  have S_Effect_DENY := Sta.start vED (Or.inr ⟨iE, hw _ (List.mem_of_getElem? (i := 2) rfl)⟩)
  have S_Effect_PERMIT := Sta.start vEP (Or.inr ⟨iE, hw _ (List.mem_of_getElem? (i := 4) rfl)⟩)
  have S_Outcome_DENY := Sta.start vOD (Or.inr ⟨iO, hw _ (List.mem_of_getElem? (i := 11) rfl)⟩)
  have S_Outcome_PERMIT := Sta.start vOP (Or.inr ⟨iO, hw _ (List.mem_of_getElem? (i := 77) rfl)⟩)
  have S_Decision_DENY := Sta.start vDD (Or.inr ⟨iD, hw _ (List.mem_of_getElem? (i := 20) rfl)⟩)
  have S_Decision_PERMIT := Sta.start vDP (Or.inr ⟨iD, hw _ (List.mem_of_getElem? (i := 44) rfl)⟩)
  have S_StatusCode_OK := Sta.start vOK (Or.inr ⟨iS, hw _ (List.mem_of_getElem? (i := 36) rfl)⟩)
  have F_OD_decision := Fld.start (own_fref vOD vDD m7)
  have F_OP_decision := Fld.start (own_fref vOP vDP m21)
  have F_ED_decision := Fld.start (own_fref vED vDD m8)
  have F_EP_decision := Fld.start (own_fref vEP vDP m16)
  have F_OD_status := Fld.start (own_fref vOD vOK m10)
  have F_OP_status := Fld.start (own_fref vOP vOK m22)
  have F_OD_couldDeny := Fld.start (own_ord vOD m14)
  have F_OD_couldPermit := Fld.start (own_ord vOD m15)
  have F_OP_couldDeny := Fld.start (own_ord vOP m24)
  have F_OP_couldPermit := Fld.start (own_ord vOP m23)
  have F_OD_dir := Fld.start ((fld_at vOD).symm.trans vDir)
  have F_OP_dir := Fld.start (own_fref vOP vDir m25)
  have F_elements := Fld.start ((fld_at vDir).symm.trans vEl)
  have Sz := own_len0 vEl (Ar.fin (Vm.Alike.refl _)) m19
  have E_wEffect_DENY := Exa.start vED m1
  have E_wEffect_PERMIT := Exa.start vEP m2
  have E_wOutcome_DENY := Exa.start vOD m5
  have E_wOutcome_PERMIT := Exa.start vOP m20
  have E_wDir := Exa.start vDir m17
  have nE := own_ne (own_ord vEP m4) (own_ord vED m3) (by decide)
  have nDec := own_ne (own_ord vDP m13) (own_ord vDD m12) (by decide)
  obtain ⟨n, o, h1, h2, h3, _, L, rfl, ⟨rfl, N, -⟩, hq⟩ := rm0 l s _ hw tables_1 i0 wEffect_DENY wEffect_PERMIT wOutcome_DENY wOutcome_PERMIT wDecision_DENY wDecision_PERMIT wStatusCode_OK wDir wEl cl s.heap s.heap.size (Nat.le_refl _) S_Effect_DENY S_Effect_PERMIT S_Outcome_DENY S_Outcome_PERMIT S_Decision_DENY S_Decision_PERMIT S_StatusCode_OK E_wEffect_DENY E_wEffect_PERMIT E_wOutcome_DENY E_wOutcome_PERMIT E_wDir F_OD_decision F_OP_decision F_ED_decision F_EP_decision F_OD_status F_OP_status F_OD_couldDeny F_OD_couldPermit F_OP_couldDeny F_OP_couldPermit F_OD_dir F_OP_dir F_elements Ar Sz nE nDec p e ha hc hk s m _ below hf ((Spec.applies_iff_loose hf).mp happ).1 ⟨rfl, State.Warmed39.refl s, rfl⟩ trivial
  refine ⟨n, _, h1, h2, h3, hpost _ _ _ _ _ _ ⟨Cond.after_iff.mpr rfl, Cond.after_iff.mpr (eq_i res_at (Term.int_eval (1)) rfl), trivial⟩ ⟨hq.1, hq.2.1, (hq.2.2.sift fun y hy => Or.inr (N y hy)).mono (by decide) (by decide)⟩⟩
theorem main_1_1 : Claimed_1_1 := comes_1 fun _ _ _ _ _ _ h hF => ⟨h.1, hF⟩
theorem main_1_2 : Claimed_1_2 := comes_1 fun _ _ _ _ _ _ h hF => ⟨h.2.1, hF⟩
end Jvm.Pilot.@@N@@
namespace Jvm.Pilot.@@N@@
open Jvm Jvm.ClassFile Sem Op Lib Jvm.Free Jvm.Stand Jvm.Pilot.@@N@@.Jvm.D
/-! MADE BY PROGRAM (witnessworld.py) out of the Statement's table words and the real class files: 25 classes; the members and pool entries that the words name. The judged class is class 1, her method 1. -/
namespace start1
open Jvm.ClassFile
def u (s : String) : CpInfo := .utf8 (stringToUtf16 s)
/-- a pool by its gaps: so many unusable entries, then the entry; so many at the end -/
def gap : Nat → List CpInfo → List CpInfo
  | 0, r => r
  | n + 1, r => .unusable :: gap n r
def poolList (es : List (Nat × CpInfo)) (last : Nat) : List CpInfo := es.foldr (fun e r => gap e.1 (e.2 :: r)) (gap last [])
def pool (es : List (Nat × CpInfo)) (last : Nat) : Array CpInfo := ⟨poolList es last⟩
def fileOf (pool : Array CpInfo) (this : Nat) (attrs : Array Attribute := #[]) (ms : Array MethodInfo := #[]) (fl : Nat := 33) (sup : Nat := 0) (ifs : Array Nat := #[]) (fds : Array FieldInfo := #[]) : ClassFile where
  minorVersion := 0
  majorVersion := 65
  constantPool := pool
  accessFlags := fl
  thisClass := this
  superClass := sup
  interfaces := ifs
  fields := fds
  methods := ms
  attributes := attrs
def plain (name : String) (sup : Option ClassId) : Class where
  name := name
  kind := .ordinary
  loader := none
  accessFlags := 33
  super := sup
  interfaces := #[]
  cf := none
  fields := #[]
  methods := #[]
  instanceTypes := #[]
  staticTypes := #[]
  resolved := #[]
  callSites := []
  init := .initialized
  statics := none
  mirror := none

def pool0 : Array CpInfo := pool [(5, u "<init>"), (0, u "()V"), (1, .class_ 10), (1, u "java/lang/Object")] 113

def k0m0 : Method := { name := "<init>", desc := "()V", sig := { parameters := [], returnType := none }, accessFlags := 1, code := none }
/-- java/lang/Object -/
def k0 : Class := { plain "java/lang/Object" none with
  accessFlags := 33
  interfaces := #[]
  cf := some (fileOf pool0 8 #[] #[{ accessFlags := 1, nameIndex := 5, descriptorIndex := 6, attributes := #[] }] 33 0 #[] #[])
  fields := #[]
  methods := #[k0m0]
  instanceTypes := #[]
  staticTypes := #[]
  resolved := Array.replicate 124 none
  statics := none }

def pool1 : Array CpInfo := pool [(2, .class_ 4), (1, u "java/lang/Object"), (0, u "<init>"), (0, u "()V"), (0, .fieldref 8 9), (0, .class_ 10), (0, .nameAndType 11 12), (0, u "com/example/attributary/attributary/model/Effect"), (0, u "PERMIT"), (0, u "Lcom/example/attributary/attributary/model/Effect;"), (0, .fieldref 8 14), (0, .nameAndType 15 12), (0, u "DENY"), (0, .methodref 17 18), (0, .class_ 19), (0, .nameAndType 20 21), (0, u "com/example/attributary/attributary/engine/Outcome"), (0, u "of"), (0, u "(Lcom/example/attributary/attributary/model/Effect;)Lcom/example/attributary/attributary/engine/Outcome;"), (0, .methodref 17 23), (0, .nameAndType 24 25), (0, u "getDecision"), (0, u "()Lcom/example/attributary/attributary/model/Decision;"), (0, .methodref 8 23), (0, .methodref 17 28), (0, .nameAndType 29 30), (0, u "getStatus"), (0, u "()Lcom/example/attributary/attributary/model/StatusCode;"), (0, .fieldref 32 33), (0, .class_ 34), (0, .nameAndType 35 36), (0, u "com/example/attributary/attributary/model/StatusCode"), (0, u "OK"), (0, u "Lcom/example/attributary/attributary/model/StatusCode;"), (0, .methodref 17 38), (0, .nameAndType 39 40), (0, u "getEffect"), (0, u "()Lcom/example/attributary/attributary/model/Effect;"), (0, .methodref 17 42), (0, .nameAndType 43 44), (0, u "couldBe"), (0, u "(Lcom/example/attributary/attributary/model/Effect;)Z"), (0, .methodref 17 46), (0, .nameAndType 47 48), (0, u "getDirectives"), (0, u "()Ljava/util/List;"), (0, .interfaceMethodref 50 51), (0, .class_ 52), (0, .nameAndType 53 54), (0, u "java/util/List"), (0, u "size"), (0, u "()I"), (0, .class_ 56), (0, u "com/example/attributary/attributary/engine/OutcomeOfPinLaw"), (2, u "law"), (0, u "(I)Z")] 3

def k1m0 : Method := { name := "<init>", desc := "()V", sig := { parameters := [], returnType := none }, accessFlags := 2, code := none }
def k1c1 : Code := { maxStack := 2, maxLocals := 11, code := code, exceptionTable := #[], attributes := #[] }
def k1m1 : Method := { name := "law", desc := "(I)Z", sig := { parameters := [.int], returnType := some .boolean }, accessFlags := 9, code := some k1c1 }
/-- com/example/attributary/attributary/engine/OutcomeOfPinLaw -/
def k1 : Class := { plain "com/example/attributary/attributary/engine/OutcomeOfPinLaw" (some 0) with
  accessFlags := 49
  interfaces := #[]
  cf := some (fileOf pool1 55 #[] #[{ accessFlags := 2, nameIndex := 5, descriptorIndex := 6, attributes := #[] }, { accessFlags := 9, nameIndex := 59, descriptorIndex := 60, attributes := #[] }] 49 2 #[] #[])
  fields := #[]
  methods := #[k1m0, k1m1]
  instanceTypes := #[]
  staticTypes := #[]
  resolved := Array.replicate 64 none
  statics := none }

def pool2 : Array CpInfo := pool [(1, .class_ 2), (0, u "java/lang/constant/Constable"), (0, .class_ 4), (0, u "java/lang/Object")] 6

/-- java/lang/constant/Constable -/
def k2 : Class := { plain "java/lang/constant/Constable" (some 0) with
  accessFlags := 1537
  interfaces := #[]
  cf := some (fileOf pool2 1 #[] #[] 1537 3 #[] #[])
  fields := #[]
  methods := #[]
  instanceTypes := #[]
  staticTypes := #[]
  resolved := Array.replicate 11 none
  statics := none }

def pool3 : Array CpInfo := pool [(1, .class_ 2), (0, u "java/lang/Comparable"), (0, .class_ 4), (0, u "java/lang/Object")] 7

/-- java/lang/Comparable -/
def k3 : Class := { plain "java/lang/Comparable" (some 0) with
  accessFlags := 1537
  interfaces := #[]
  cf := some (fileOf pool3 1 #[] #[] 1537 3 #[] #[])
  fields := #[]
  methods := #[]
  instanceTypes := #[]
  staticTypes := #[]
  resolved := Array.replicate 12 none
  statics := none }

def pool4 : Array CpInfo := pool [(1, .class_ 2), (0, u "java/io/Serializable"), (0, .class_ 4), (0, u "java/lang/Object")] 2

/-- java/io/Serializable -/
def k4 : Class := { plain "java/io/Serializable" (some 0) with
  accessFlags := 1537
  interfaces := #[]
  cf := some (fileOf pool4 1 #[] #[] 1537 3 #[] #[])
  fields := #[]
  methods := #[]
  instanceTypes := #[]
  staticTypes := #[]
  resolved := Array.replicate 7 none
  statics := none }

def pool5 : Array CpInfo := pool [(2, .class_ 4), (1, u "java/lang/Enum"), (0, u "name"), (0, u "Ljava/lang/String;"), (2, u "ordinal"), (0, u "I"), (1, .class_ 14), (1, u "java/lang/Object"), (4, u "hash"), (86, .class_ 108), (1, u "java/lang/Enum$EnumDesc"), (2, .class_ 112), (0, u "java/lang/constant/Constable"), (0, .class_ 114), (0, u "java/lang/Comparable"), (0, .class_ 116), (0, u "java/io/Serializable")] 87

/-- java/lang/Enum -/
def k5 : Class := { plain "java/lang/Enum" (some 0) with
  accessFlags := 1057
  interfaces := #[2, 3, 4]
  cf := some (fileOf pool5 2 #[.nestMembers #[106]] #[] 1057 12 #[111, 113, 115] #[{ accessFlags := 18, nameIndex := 5, descriptorIndex := 6, attributes := #[] }, { accessFlags := 18, nameIndex := 9, descriptorIndex := 10, attributes := #[] }, { accessFlags := 2, nameIndex := 19, descriptorIndex := 10, attributes := #[] }])
  fields := #[{ name := "name", type := (.object "java/lang/String"), accessFlags := 18, slot := 0, constantValue := 0 }, { name := "ordinal", type := .int, accessFlags := 18, slot := 1, constantValue := 0 }, { name := "hash", type := .int, accessFlags := 2, slot := 2, constantValue := 0 }]
  methods := #[]
  instanceTypes := #[(.object "java/lang/String"), .int, .int]
  staticTypes := #[]
  resolved := Array.replicate 204 none
  statics := none }

def pool6 : Array CpInfo := pool [(1, .class_ 2), (0, u "com/example/attributary/attributary/model/Effect"), (2, u "PERMIT"), (0, u "Lcom/example/attributary/attributary/model/Effect;"), (2, u "DENY"), (2, u "$VALUES"), (0, u "[Lcom/example/attributary/attributary/model/Effect;"), (6, .class_ 22), (1, u "java/lang/Enum"), (8, u "xmlName"), (0, u "Ljava/lang/String;"), (0, .fieldref 1 34), (0, .nameAndType 35 36), (0, u "decision"), (0, u "Lcom/example/attributary/attributary/model/Decision;"), (28, u "getDecision"), (0, u "()Lcom/example/attributary/attributary/model/Decision;")] 5

def k6c0 : Code := { maxStack := 1, maxLocals := 1, code := prog_76_method_5_code, exceptionTable := #[], attributes := #[] }
def k6m0 : Method := { name := "getDecision", desc := "()Lcom/example/attributary/attributary/model/Decision;", sig := { parameters := [], returnType := some (.object "com/example/attributary/attributary/model/Decision") }, accessFlags := 1, code := some k6c0 }
/-- com/example/attributary/attributary/model/Effect -/
def k6 : Class := { plain "com/example/attributary/attributary/model/Effect" (some 5) with
  accessFlags := 16433
  interfaces := #[]
  cf := some (fileOf pool6 1 #[] #[{ accessFlags := 1, nameIndex := 65, descriptorIndex := 66, attributes := #[] }] 16433 20 #[] #[{ accessFlags := 16409, nameIndex := 5, descriptorIndex := 6, attributes := #[] }, { accessFlags := 16409, nameIndex := 9, descriptorIndex := 6, attributes := #[] }, { accessFlags := 18, nameIndex := 31, descriptorIndex := 32, attributes := #[] }, { accessFlags := 18, nameIndex := 35, descriptorIndex := 36, attributes := #[] }, { accessFlags := 4122, nameIndex := 12, descriptorIndex := 13, attributes := #[] }])
  fields := #[{ name := "PERMIT", type := (.object "com/example/attributary/attributary/model/Effect"), accessFlags := 16409, slot := 0, constantValue := 0 }, { name := "DENY", type := (.object "com/example/attributary/attributary/model/Effect"), accessFlags := 16409, slot := 1, constantValue := 0 }, { name := "xmlName", type := (.object "java/lang/String"), accessFlags := 18, slot := 3, constantValue := 0 }, { name := "decision", type := (.object "com/example/attributary/attributary/model/Decision"), accessFlags := 18, slot := 4, constantValue := 0 }, { name := "$VALUES", type := (.array (.object "com/example/attributary/attributary/model/Effect")), accessFlags := 4122, slot := 2, constantValue := 0 }]
  methods := #[k6m0]
  instanceTypes := #[(.object "java/lang/String"), .int, .int, (.object "java/lang/String"), (.object "com/example/attributary/attributary/model/Decision")]
  staticTypes := #[(.object "com/example/attributary/attributary/model/Effect"), (.object "com/example/attributary/attributary/model/Effect"), (.array (.object "com/example/attributary/attributary/model/Effect"))]
  resolved := Array.replicate 72 none
  statics := some 0 }

def pool7 : Array CpInfo := pool [(5, u "of"), (0, u "()Ljava/util/List;"), (1, .class_ 10), (1, u "com/example/attributary/attributary/engine/Outcome"), (3, .class_ 16), (1, u "java/lang/Object"), (1, .fieldref 8 19), (0, .nameAndType 20 21), (0, u "decision"), (0, u "Lcom/example/attributary/attributary/model/Decision;"), (0, .fieldref 8 23), (0, .nameAndType 24 25), (0, u "status"), (0, u "Lcom/example/attributary/attributary/model/StatusCode;"), (0, .fieldref 8 27), (0, .nameAndType 28 29), (0, u "couldDeny"), (0, u "Z"), (0, .fieldref 8 31), (0, .nameAndType 32 29), (0, u "couldPermit"), (0, .fieldref 8 34), (0, .nameAndType 35 36), (0, u "directives"), (0, u "Ljava/util/List;"), (0, .fieldref 38 39), (0, .class_ 40), (0, .nameAndType 41 42), (0, u "com/example/attributary/attributary/model/Effect"), (0, u "PERMIT"), (0, u "Lcom/example/attributary/attributary/model/Effect;"), (0, .fieldref 8 44), (0, .nameAndType 41 45), (0, u "Lcom/example/attributary/attributary/engine/Outcome;"), (0, .fieldref 8 47), (0, .nameAndType 48 45), (0, u "DENY"), (1, .class_ 52), (1, u "com/example/attributary/attributary/model/Decision"), (1, .fieldref 38 55), (0, .nameAndType 48 42), (3, .fieldref 50 60), (0, .nameAndType 41 21), (0, .fieldref 50 62), (0, .nameAndType 48 21), (17, .methodref 38 81), (0, .nameAndType 82 83), (0, u "getDecision"), (0, u "()Lcom/example/attributary/attributary/model/Decision;"), (2, u "NOT_APPLICABLE"), (2, u "couldBe"), (0, u "(Lcom/example/attributary/attributary/model/Effect;)Z"), (12, u "(Lcom/example/attributary/attributary/model/Effect;)Lcom/example/attributary/attributary/engine/Outcome;"), (4, u "getStatus"), (0, u "()Lcom/example/attributary/attributary/model/StatusCode;"), (0, u "getEffect"), (0, u "()Lcom/example/attributary/attributary/model/Effect;"), (0, u "getDirectives")] 8

def k7c0 : Code := { maxStack := 2, maxLocals := 1, code := prog_8_method_3_code, exceptionTable := #[], attributes := #[] }
def k7m0 : Method := { name := "of", desc := "(Lcom/example/attributary/attributary/model/Effect;)Lcom/example/attributary/attributary/engine/Outcome;", sig := { parameters := [(.object "com/example/attributary/attributary/model/Effect")], returnType := some (.object "com/example/attributary/attributary/engine/Outcome") }, accessFlags := 8, code := some k7c0 }
def k7c1 : Code := { maxStack := 1, maxLocals := 1, code := prog_8_method_6_code, exceptionTable := #[], attributes := #[] }
def k7m1 : Method := { name := "getDecision", desc := "()Lcom/example/attributary/attributary/model/Decision;", sig := { parameters := [], returnType := some (.object "com/example/attributary/attributary/model/Decision") }, accessFlags := 0, code := some k7c1 }
def k7c2 : Code := { maxStack := 1, maxLocals := 1, code := prog_8_method_7_code, exceptionTable := #[], attributes := #[] }
def k7m2 : Method := { name := "getStatus", desc := "()Lcom/example/attributary/attributary/model/StatusCode;", sig := { parameters := [], returnType := some (.object "com/example/attributary/attributary/model/StatusCode") }, accessFlags := 0, code := some k7c2 }
def k7c3 : Code := { maxStack := 2, maxLocals := 2, code := prog_8_method_8_code, exceptionTable := #[], attributes := #[] }
def k7m3 : Method := { name := "getEffect", desc := "()Lcom/example/attributary/attributary/model/Effect;", sig := { parameters := [], returnType := some (.object "com/example/attributary/attributary/model/Effect") }, accessFlags := 0, code := some k7c3 }
def k7c4 : Code := { maxStack := 1, maxLocals := 1, code := prog_8_method_9_code, exceptionTable := #[], attributes := #[] }
def k7m4 : Method := { name := "getDirectives", desc := "()Ljava/util/List;", sig := { parameters := [], returnType := some (.object "java/util/List") }, accessFlags := 0, code := some k7c4 }
def k7c5 : Code := { maxStack := 2, maxLocals := 3, code := prog_8_method_11_code, exceptionTable := #[], attributes := #[] }
def k7m5 : Method := { name := "couldBe", desc := "(Lcom/example/attributary/attributary/model/Effect;)Z", sig := { parameters := [(.object "com/example/attributary/attributary/model/Effect")], returnType := some .boolean }, accessFlags := 0, code := some k7c5 }
/-- com/example/attributary/attributary/engine/Outcome -/
def k7 : Class := { plain "com/example/attributary/attributary/engine/Outcome" (some 0) with
  accessFlags := 32
  interfaces := #[]
  cf := some (fileOf pool7 8 #[] #[{ accessFlags := 8, nameIndex := 5, descriptorIndex := 103, attributes := #[] }, { accessFlags := 0, nameIndex := 82, descriptorIndex := 83, attributes := #[] }, { accessFlags := 0, nameIndex := 108, descriptorIndex := 109, attributes := #[] }, { accessFlags := 0, nameIndex := 110, descriptorIndex := 111, attributes := #[] }, { accessFlags := 0, nameIndex := 112, descriptorIndex := 6, attributes := #[] }, { accessFlags := 0, nameIndex := 89, descriptorIndex := 90, attributes := #[] }] 32 14 #[] #[{ accessFlags := 24, nameIndex := 41, descriptorIndex := 45, attributes := #[] }, { accessFlags := 24, nameIndex := 48, descriptorIndex := 45, attributes := #[] }, { accessFlags := 24, nameIndex := 86, descriptorIndex := 45, attributes := #[] }, { accessFlags := 18, nameIndex := 20, descriptorIndex := 21, attributes := #[] }, { accessFlags := 18, nameIndex := 24, descriptorIndex := 25, attributes := #[] }, { accessFlags := 18, nameIndex := 28, descriptorIndex := 29, attributes := #[] }, { accessFlags := 18, nameIndex := 32, descriptorIndex := 29, attributes := #[] }, { accessFlags := 18, nameIndex := 35, descriptorIndex := 36, attributes := #[] }])
  fields := #[{ name := "PERMIT", type := (.object "com/example/attributary/attributary/engine/Outcome"), accessFlags := 24, slot := 0, constantValue := 0 }, { name := "DENY", type := (.object "com/example/attributary/attributary/engine/Outcome"), accessFlags := 24, slot := 1, constantValue := 0 }, { name := "NOT_APPLICABLE", type := (.object "com/example/attributary/attributary/engine/Outcome"), accessFlags := 24, slot := 2, constantValue := 0 }, { name := "decision", type := (.object "com/example/attributary/attributary/model/Decision"), accessFlags := 18, slot := 0, constantValue := 0 }, { name := "status", type := (.object "com/example/attributary/attributary/model/StatusCode"), accessFlags := 18, slot := 1, constantValue := 0 }, { name := "couldDeny", type := .boolean, accessFlags := 18, slot := 2, constantValue := 0 }, { name := "couldPermit", type := .boolean, accessFlags := 18, slot := 3, constantValue := 0 }, { name := "directives", type := (.object "java/util/List"), accessFlags := 18, slot := 4, constantValue := 0 }]
  methods := #[k7m0, k7m1, k7m2, k7m3, k7m4, k7m5]
  instanceTypes := #[(.object "com/example/attributary/attributary/model/Decision"), (.object "com/example/attributary/attributary/model/StatusCode"), .boolean, .boolean, (.object "java/util/List")]
  staticTypes := #[(.object "com/example/attributary/attributary/engine/Outcome"), (.object "com/example/attributary/attributary/engine/Outcome"), (.object "com/example/attributary/attributary/engine/Outcome")]
  resolved := Array.replicate 121 none
  statics := some 1 }

def pool8 : Array CpInfo := pool [(1, .class_ 2), (0, u "com/example/attributary/attributary/model/Decision"), (2, u "PERMIT"), (0, u "Lcom/example/attributary/attributary/model/Decision;"), (2, u "DENY"), (2, u "NOT_APPLICABLE"), (2, u "INDETERMINATE"), (2, u "$VALUES"), (0, u "[Lcom/example/attributary/attributary/model/Decision;"), (6, .class_ 28), (1, u "java/lang/Enum"), (8, u "xmlName"), (0, u "Ljava/lang/String;")] 33

/-- com/example/attributary/attributary/model/Decision -/
def k8 : Class := { plain "com/example/attributary/attributary/model/Decision" (some 5) with
  accessFlags := 16433
  interfaces := #[]
  cf := some (fileOf pool8 1 #[] #[] 16433 26 #[] #[{ accessFlags := 16409, nameIndex := 5, descriptorIndex := 6, attributes := #[] }, { accessFlags := 16409, nameIndex := 9, descriptorIndex := 6, attributes := #[] }, { accessFlags := 16409, nameIndex := 12, descriptorIndex := 6, attributes := #[] }, { accessFlags := 16409, nameIndex := 15, descriptorIndex := 6, attributes := #[] }, { accessFlags := 18, nameIndex := 37, descriptorIndex := 38, attributes := #[] }, { accessFlags := 4122, nameIndex := 18, descriptorIndex := 19, attributes := #[] }])
  fields := #[{ name := "PERMIT", type := (.object "com/example/attributary/attributary/model/Decision"), accessFlags := 16409, slot := 0, constantValue := 0 }, { name := "DENY", type := (.object "com/example/attributary/attributary/model/Decision"), accessFlags := 16409, slot := 1, constantValue := 0 }, { name := "NOT_APPLICABLE", type := (.object "com/example/attributary/attributary/model/Decision"), accessFlags := 16409, slot := 2, constantValue := 0 }, { name := "INDETERMINATE", type := (.object "com/example/attributary/attributary/model/Decision"), accessFlags := 16409, slot := 3, constantValue := 0 }, { name := "xmlName", type := (.object "java/lang/String"), accessFlags := 18, slot := 3, constantValue := 0 }, { name := "$VALUES", type := (.array (.object "com/example/attributary/attributary/model/Decision")), accessFlags := 4122, slot := 4, constantValue := 0 }]
  methods := #[]
  instanceTypes := #[(.object "java/lang/String"), .int, .int, (.object "java/lang/String")]
  staticTypes := #[(.object "com/example/attributary/attributary/model/Decision"), (.object "com/example/attributary/attributary/model/Decision"), (.object "com/example/attributary/attributary/model/Decision"), (.object "com/example/attributary/attributary/model/Decision"), (.array (.object "com/example/attributary/attributary/model/Decision"))]
  resolved := Array.replicate 72 none
  statics := some 2 }

def pool9 : Array CpInfo := pool [(1, .class_ 2), (0, u "com/example/attributary/attributary/model/StatusCode"), (2, u "OK"), (0, u "Lcom/example/attributary/attributary/model/StatusCode;"), (2, u "MISSING_ATTRIBUTE"), (2, u "PROCESSING_ERROR"), (2, u "SYNTAX_ERROR"), (2, u "$VALUES"), (0, u "[Lcom/example/attributary/attributary/model/StatusCode;"), (6, .class_ 28), (1, u "java/lang/Enum"), (8, u "id"), (0, u "Ljava/lang/String;")] 33

/-- com/example/attributary/attributary/model/StatusCode -/
def k9 : Class := { plain "com/example/attributary/attributary/model/StatusCode" (some 5) with
  accessFlags := 16433
  interfaces := #[]
  cf := some (fileOf pool9 1 #[] #[] 16433 26 #[] #[{ accessFlags := 16409, nameIndex := 5, descriptorIndex := 6, attributes := #[] }, { accessFlags := 16409, nameIndex := 9, descriptorIndex := 6, attributes := #[] }, { accessFlags := 16409, nameIndex := 12, descriptorIndex := 6, attributes := #[] }, { accessFlags := 16409, nameIndex := 15, descriptorIndex := 6, attributes := #[] }, { accessFlags := 18, nameIndex := 37, descriptorIndex := 38, attributes := #[] }, { accessFlags := 4122, nameIndex := 18, descriptorIndex := 19, attributes := #[] }])
  fields := #[{ name := "OK", type := (.object "com/example/attributary/attributary/model/StatusCode"), accessFlags := 16409, slot := 0, constantValue := 0 }, { name := "MISSING_ATTRIBUTE", type := (.object "com/example/attributary/attributary/model/StatusCode"), accessFlags := 16409, slot := 1, constantValue := 0 }, { name := "PROCESSING_ERROR", type := (.object "com/example/attributary/attributary/model/StatusCode"), accessFlags := 16409, slot := 2, constantValue := 0 }, { name := "SYNTAX_ERROR", type := (.object "com/example/attributary/attributary/model/StatusCode"), accessFlags := 16409, slot := 3, constantValue := 0 }, { name := "id", type := (.object "java/lang/String"), accessFlags := 18, slot := 3, constantValue := 0 }, { name := "$VALUES", type := (.array (.object "com/example/attributary/attributary/model/StatusCode")), accessFlags := 4122, slot := 4, constantValue := 0 }]
  methods := #[]
  instanceTypes := #[(.object "java/lang/String"), .int, .int, (.object "java/lang/String")]
  staticTypes := #[(.object "com/example/attributary/attributary/model/StatusCode"), (.object "com/example/attributary/attributary/model/StatusCode"), (.object "com/example/attributary/attributary/model/StatusCode"), (.object "com/example/attributary/attributary/model/StatusCode"), (.array (.object "com/example/attributary/attributary/model/StatusCode"))]
  resolved := Array.replicate 72 none
  statics := some 3 }

def pool10 : Array CpInfo := pool [(8, .class_ 10), (1, u "java/lang/Iterable"), (24, .class_ 36), (0, u "java/lang/Object")] 25

/-- java/lang/Iterable -/
def k10 : Class := { plain "java/lang/Iterable" (some 0) with
  accessFlags := 1537
  interfaces := #[]
  cf := some (fileOf pool10 8 #[] #[] 1537 35 #[] #[])
  fields := #[]
  methods := #[]
  instanceTypes := #[]
  staticTypes := #[]
  resolved := Array.replicate 62 none
  statics := none }

def pool11 : Array CpInfo := pool [(10, .class_ 12), (1, u "java/util/Collection"), (47, .class_ 61), (0, u "java/lang/Object"), (0, .class_ 63), (0, u "java/lang/Iterable")] 51

/-- java/util/Collection -/
def k11 : Class := { plain "java/util/Collection" (some 0) with
  accessFlags := 1537
  interfaces := #[10]
  cf := some (fileOf pool11 10 #[] #[] 1537 60 #[62] #[])
  fields := #[]
  methods := #[]
  instanceTypes := #[]
  staticTypes := #[]
  resolved := Array.replicate 115 none
  statics := none }

def pool12 : Array CpInfo := pool [(8, .class_ 10), (1, u "java/util/SequencedCollection"), (15, .class_ 27), (0, u "java/lang/Object"), (0, .class_ 29), (0, u "java/util/Collection")] 27

/-- java/util/SequencedCollection -/
def k12 : Class := { plain "java/util/SequencedCollection" (some 0) with
  accessFlags := 1537
  interfaces := #[11]
  cf := some (fileOf pool12 8 #[] #[] 1537 26 #[28] #[])
  fields := #[]
  methods := #[]
  instanceTypes := #[]
  staticTypes := #[]
  resolved := Array.replicate 57 none
  statics := none }

def pool13 : Array CpInfo := pool [(8, .class_ 10), (1, u "java/util/List"), (68, u "size"), (0, u "()I"), (22, .class_ 104), (0, u "java/lang/Object"), (15, .class_ 121), (0, u "java/util/SequencedCollection")] 129

def k13m0 : Method := { name := "size", desc := "()I", sig := { parameters := [], returnType := some .int }, accessFlags := 1025, code := none }
/-- java/util/List -/
def k13 : Class := { plain "java/util/List" (some 0) with
  accessFlags := 1537
  interfaces := #[12]
  cf := some (fileOf pool13 8 #[] #[{ accessFlags := 1025, nameIndex := 79, descriptorIndex := 80, attributes := #[] }] 1537 103 #[120] #[])
  fields := #[]
  methods := #[k13m0]
  instanceTypes := #[]
  staticTypes := #[]
  resolved := Array.replicate 251 none
  statics := none }

def pool14 : Array CpInfo := pool [(2, .class_ 4), (1, u "java/lang/Object"), (0, u "<init>"), (0, u "()V"), (1, .class_ 10), (1, u "java/util/AbstractCollection"), (66, .class_ 78), (0, u "java/util/Collection")] 81

def k14m0 : Method := { name := "<init>", desc := "()V", sig := { parameters := [], returnType := none }, accessFlags := 4, code := none }
/-- java/util/AbstractCollection -/
def k14 : Class := { plain "java/util/AbstractCollection" (some 0) with
  accessFlags := 1057
  interfaces := #[11]
  cf := some (fileOf pool14 8 #[] #[{ accessFlags := 4, nameIndex := 5, descriptorIndex := 6, attributes := #[] }] 1057 2 #[77] #[])
  fields := #[]
  methods := #[k14m0]
  instanceTypes := #[]
  staticTypes := #[]
  resolved := Array.replicate 160 none
  statics := none }

def pool15 : Array CpInfo := pool [(2, .class_ 4), (1, u "java/util/AbstractCollection"), (0, u "<init>"), (0, u "()V"), (1, .class_ 10), (1, u "java/util/ImmutableCollections"), (2, .class_ 14), (0, u "java/util/ImmutableCollections$AbstractImmutableCollection")] 41

def k15m0 : Method := { name := "<init>", desc := "()V", sig := { parameters := [], returnType := none }, accessFlags := 0, code := none }
/-- java/util/ImmutableCollections$AbstractImmutableCollection -/
def k15 : Class := { plain "java/util/ImmutableCollections$AbstractImmutableCollection" (some 14) with
  accessFlags := 1056
  interfaces := #[]
  cf := some (fileOf pool15 13 #[.nestHost 8] #[{ accessFlags := 0, nameIndex := 5, descriptorIndex := 6, attributes := #[] }] 1056 2 #[] #[])
  fields := #[]
  methods := #[k15m0]
  instanceTypes := #[]
  staticTypes := #[]
  resolved := Array.replicate 56 none
  statics := none }

def pool16 : Array CpInfo := pool [(1, .class_ 2), (0, u "java/util/RandomAccess"), (0, .class_ 4), (0, u "java/lang/Object")] 2

/-- java/util/RandomAccess -/
def k16 : Class := { plain "java/util/RandomAccess" (some 0) with
  accessFlags := 1537
  interfaces := #[]
  cf := some (fileOf pool16 1 #[] #[] 1537 3 #[] #[])
  fields := #[]
  methods := #[]
  instanceTypes := #[]
  staticTypes := #[]
  resolved := Array.replicate 7 none
  statics := none }

def pool17 : Array CpInfo := pool [(2, .class_ 4), (1, u "java/util/ImmutableCollections$AbstractImmutableCollection"), (0, u "<init>"), (0, u "()V"), (1, .class_ 10), (1, u "java/util/ImmutableCollections"), (3, .class_ 16), (1, u "java/util/ImmutableCollections$AbstractImmutableList"), (60, .class_ 78), (0, u "java/util/List"), (45, .class_ 125), (0, u "java/util/RandomAccess")] 70

def k17m0 : Method := { name := "<init>", desc := "()V", sig := { parameters := [], returnType := none }, accessFlags := 0, code := none }
/-- java/util/ImmutableCollections$AbstractImmutableList -/
def k17 : Class := { plain "java/util/ImmutableCollections$AbstractImmutableList" (some 15) with
  accessFlags := 1056
  interfaces := #[13, 16]
  cf := some (fileOf pool17 14 #[.nestHost 8] #[{ accessFlags := 0, nameIndex := 5, descriptorIndex := 6, attributes := #[] }] 1056 2 #[77, 124] #[])
  fields := #[]
  methods := #[k17m0]
  instanceTypes := #[]
  staticTypes := #[]
  resolved := Array.replicate 196 none
  statics := none }

def pool18 : Array CpInfo := pool [(2, .class_ 4), (1, u "java/util/ImmutableCollections$AbstractImmutableList"), (2, .fieldref 8 9), (0, .class_ 10), (0, .nameAndType 11 12), (0, u "java/util/ImmutableCollections$ListN"), (0, u "elements"), (0, u "[Ljava/lang/Object;"), (2, u "allowNulls"), (0, u "Z"), (42, .class_ 60), (0, u "java/io/Serializable"), (16, u "size"), (0, u "()I"), (35, .class_ 115), (0, u "java/util/ImmutableCollections")] 3

def k18c0 : Code := { maxStack := 1, maxLocals := 1, code := jdk_45_method_3_code, exceptionTable := #[], attributes := #[] }
def k18m0 : Method := { name := "size", desc := "()I", sig := { parameters := [], returnType := some .int }, accessFlags := 1, code := some k18c0 }
/-- java/util/ImmutableCollections$ListN -/
def k18 : Class := { plain "java/util/ImmutableCollections$ListN" (some 17) with
  accessFlags := 48
  interfaces := #[4]
  cf := some (fileOf pool18 8 #[.nestHost 114] #[{ accessFlags := 1, nameIndex := 77, descriptorIndex := 78, attributes := #[] }] 48 2 #[59] #[{ accessFlags := 18, nameIndex := 11, descriptorIndex := 12, attributes := #[] }, { accessFlags := 18, nameIndex := 15, descriptorIndex := 16, attributes := #[] }])
  fields := #[{ name := "elements", type := (.array (.object "java/lang/Object")), accessFlags := 18, slot := 0, constantValue := 0 }, { name := "allowNulls", type := .boolean, accessFlags := 18, slot := 1, constantValue := 0 }]
  methods := #[k18m0]
  instanceTypes := #[(.array (.object "java/lang/Object")), .boolean]
  staticTypes := #[]
  resolved := Array.replicate 119 none
  statics := none }

def pool19 : Array CpInfo := pool [(1, u "java/lang/Cloneable"), (0, .class_ 1), (0, u "java/lang/Object"), (0, .class_ 3)] 3

/-- java/lang/Cloneable -/
def k19 : Class := { plain "java/lang/Cloneable" (some 0) with
  accessFlags := 1537
  interfaces := #[]
  cf := some (fileOf pool19 2 #[] #[] 1537 4 #[] #[])
  fields := #[]
  methods := #[]
  instanceTypes := #[]
  staticTypes := #[]
  resolved := Array.replicate 8 none
  statics := none }

/-- the primitive byte -/
def k20 : Class := { plain "byte" none with kind := .primitive 'B', accessFlags := 0x411 }
/-- [B -/
def k21 : Class := { plain "[B" (some 0) with kind := .array 20 .byte, interfaces := #[19, 4], accessFlags := 1041 }

/-- the primitive int -/
def k22 : Class := { plain "int" none with kind := .primitive 'I', accessFlags := 0x411 }
/-- [I -/
def k23 : Class := { plain "[I" (some 0) with kind := .array 22 .int, interfaces := #[19, 4], accessFlags := 1041 }

/-- [Ljava/lang/Object; -/
def k24 : Class := { plain "[Ljava/lang/Object;" (some 0) with kind := .array 0 (.object "java/lang/Object"), interfaces := #[19, 4], accessFlags := 1041 }

def heap : Heap := #[{ cls := 6, slots := #[.ref 8, .ref 9, .null], vm := .statics 6 },
  { cls := 7, slots := #[.ref 11, .ref 12, .null], vm := .statics 7 },
  { cls := 8, slots := #[.ref 5, .ref 6, .null, .null, .null], vm := .statics 8 },
  { cls := 9, slots := #[.ref 7, .null, .null, .null, .null], vm := .statics 9 },
  { cls := 24, slots := #[], vm := .none },
  { cls := 8, slots := #[.null, .int 0, .int 0, .null], vm := .none },
  { cls := 8, slots := #[.null, .int 1, .int 0, .null], vm := .none },
  { cls := 9, slots := #[.null, .int 0, .int 0, .null], vm := .none },
  { cls := 6, slots := #[.null, .int 0, .int 0, .null, .ref 5], vm := .none },
  { cls := 6, slots := #[.null, .int 1, .int 0, .null, .ref 6], vm := .none },
  { cls := 18, slots := #[.ref 4, .int 0], vm := .none },
  { cls := 7, slots := #[.ref 5, .ref 7, .int 0, .int 0, .ref 10], vm := .none },
  { cls := 7, slots := #[.ref 6, .ref 7, .int 0, .int 0, .ref 10], vm := .none }]
def classes : Array Class := #[k0, k1, k2, k3, k4, k5, k6, k7, k8, k9, k10, k11, k12, k13, k14, k15, k16, k17, k18, k19, k20, k21, k22, k23, k24]
def interned : List (Array UInt16 × Addr) := []
def slotsUsed : Nat := 50
def theMethod : MethodId := ⟨1, 1⟩
def args0 : Array Value := #[.int 1]
def aboutOver (below : List Frame) : State where
  vm := { classes := classes, interned := interned.toArray }
  heap := heap
  slotsUsed := slotsUsed
  threads := #[{ frames := .invoking theMethod args0 :: below }]
def below0 : List Frame := [.native { method := ⟨0, 0⟩, args := #[] }]
def about1 : State := aboutOver below0
def p0 : Program := .bare "" "" ""
def e0 : Env := launch0.env 0 0 0
theorem w_frames : about1.frames = Frame.invoking theMethod args0 :: below0 := rfl
set_option maxRecDepth 65536 in
theorem w_args : argsFit about1.vm theMethod args0 = true := by decide +kernel
set_option maxRecDepth 65536 in
theorem w_heap : heapFits about1 = true := by decide +kernel
set_option maxRecDepth 65536 in
theorem w_runnable : about1.curStatus? = some .runnable := by decide +kernel
set_option maxRecDepth 65536 in
theorem w_alone : about1.alone = true := by decide +kernel
set_option maxRecDepth 65536 in
theorem w_named : about1.methodNamed? x = some theMethod := by decide +kernel
set_option maxRecDepth 65536 in
theorem w_hears : about1.hears theMethod below0 = true := by decide +kernel
set_option maxRecDepth 65536 in
theorem w_ripe : about1.ripe theMethod args0 below0 = true := by decide +kernel
theorem w_running : about1.status = .running := rfl
set_option maxRecDepth 65536 in
theorem w_room : about1.hasRoom e0.platform room_1 = true :=
  launch0.hasRoom_least _ room_1 (by decide +kernel) (by decide +kernel) (by decide +kernel) (by decide +kernel) (by decide +kernel) (by decide +kernel)
theorem allAtoms_all (ts : List Jvm.Cond) (a : Array Jvm.Value) (st : Jvm.State) : (allAtoms ts).before a st = ts.all (fun c => c.before a st) := by
  induction ts with
  | nil => rfl
  | cons c t ih =>
    show (Jvm.Cond.and c (allAtoms t)).before a st = _
    rw [Jvm.Cond.before_and, ih, List.all_cons]
def words1 : List Jvm.Cond := Jvm.Cond.code x code maxLocals ret :: tables_1
/-- a 'code' word, met by the world's own term for the bytes: nothing is compared byte by byte -/
theorem code_word {y : MethodName} {bytes : ByteArray} {mx : Nat} {rt : Option FieldType} {a : Array Value} {s : State} {m : MethodId} {meth : Method} {c : Code} (h1 : s.methodNamed? y = some m) (h2 : s.vm.method? m = some meth) (h3 : meth.code = some c) (h4 : c.code = bytes)
    (h5 : (c.maxLocals == mx && c.exceptionTable.isEmpty && decide (c.maxStack ≤ mostOperands) && decide (meth.sig.returnType = rt) && !meth.locks && decide (parseMethodDescriptor y.desc = some meth.sig)) = true) : (Jvm.Cond.code y bytes mx rt).before a s = true := by
  simp only [Bool.and_eq_true, beq_iff_eq, Bool.not_eq_true', decide_eq_true_eq] at h5
  obtain ⟨⟨⟨⟨⟨g1, g2⟩, g3⟩, g4⟩, g5⟩, g6⟩ := h5
  simp [Cond.before, Cond.holds, Cond.value, h1, h2, h3, h4, g1, g2, g3, g4, g5, g6]
def isCode : Jvm.Cond → Bool
  | .code _ _ _ _ => true
  | _ => false
theorem all_split {L : List Jvm.Cond} {P : Jvm.Cond → Bool} (h1 : L.all (fun c => isCode c || P c) = true) (h2 : ∀ c ∈ L.filter isCode, P c = true) : L.all P = true := by
  refine List.all_eq_true.mpr fun c hc => ?_
  have h := List.all_eq_true.mp h1 c hc
  rcases Bool.eq_false_or_eq_true (isCode c) with hi | hi
  · exact h2 c (List.mem_filter.mpr ⟨hc, hi⟩)
  · simpa [hi] using h
set_option maxRecDepth 65536 in
theorem w_c0 : (Jvm.Cond.code x code maxLocals ret).before args0 about1 = true := code_word (m := ⟨1, 1⟩) (meth := k1m1) (c := k1c1) (by decide +kernel) rfl rfl rfl (by decide +kernel)
set_option maxRecDepth 65536 in
theorem w_c1 : (Jvm.Cond.code ({ cls := "com/example/attributary/attributary/engine/Outcome", name := "of", desc := "(Lcom/example/attributary/attributary/model/Effect;)Lcom/example/attributary/attributary/engine/Outcome;" } : Jvm.MethodName) prog_8_method_3_code (1 : Nat) (Option.some (Jvm.ClassFile.FieldType.object "com/example/attributary/attributary/engine/Outcome"))).before args0 about1 = true := code_word (m := ⟨7, 0⟩) (meth := k7m0) (c := k7c0) (by decide +kernel) rfl rfl rfl (by decide +kernel)
set_option maxRecDepth 65536 in
theorem w_c2 : (Jvm.Cond.code ({ cls := "com/example/attributary/attributary/engine/Outcome", name := "getDecision", desc := "()Lcom/example/attributary/attributary/model/Decision;" } : Jvm.MethodName) prog_8_method_6_code (1 : Nat) (Option.some (Jvm.ClassFile.FieldType.object "com/example/attributary/attributary/model/Decision"))).before args0 about1 = true := code_word (m := ⟨7, 1⟩) (meth := k7m1) (c := k7c1) (by decide +kernel) rfl rfl rfl (by decide +kernel)
set_option maxRecDepth 65536 in
theorem w_c3 : (Jvm.Cond.code ({ cls := "com/example/attributary/attributary/model/Effect", name := "getDecision", desc := "()Lcom/example/attributary/attributary/model/Decision;" } : Jvm.MethodName) prog_76_method_5_code (1 : Nat) (Option.some (Jvm.ClassFile.FieldType.object "com/example/attributary/attributary/model/Decision"))).before args0 about1 = true := code_word (m := ⟨6, 0⟩) (meth := k6m0) (c := k6c0) (by decide +kernel) rfl rfl rfl (by decide +kernel)
set_option maxRecDepth 65536 in
theorem w_c4 : (Jvm.Cond.code ({ cls := "com/example/attributary/attributary/engine/Outcome", name := "getStatus", desc := "()Lcom/example/attributary/attributary/model/StatusCode;" } : Jvm.MethodName) prog_8_method_7_code (1 : Nat) (Option.some (Jvm.ClassFile.FieldType.object "com/example/attributary/attributary/model/StatusCode"))).before args0 about1 = true := code_word (m := ⟨7, 2⟩) (meth := k7m2) (c := k7c2) (by decide +kernel) rfl rfl rfl (by decide +kernel)
set_option maxRecDepth 65536 in
theorem w_c5 : (Jvm.Cond.code ({ cls := "com/example/attributary/attributary/engine/Outcome", name := "getEffect", desc := "()Lcom/example/attributary/attributary/model/Effect;" } : Jvm.MethodName) prog_8_method_8_code (2 : Nat) (Option.some (Jvm.ClassFile.FieldType.object "com/example/attributary/attributary/model/Effect"))).before args0 about1 = true := code_word (m := ⟨7, 3⟩) (meth := k7m3) (c := k7c3) (by decide +kernel) rfl rfl rfl (by decide +kernel)
set_option maxRecDepth 65536 in
theorem w_c6 : (Jvm.Cond.code ({ cls := "com/example/attributary/attributary/engine/Outcome", name := "couldBe", desc := "(Lcom/example/attributary/attributary/model/Effect;)Z" } : Jvm.MethodName) prog_8_method_11_code (3 : Nat) (Option.some Jvm.ClassFile.FieldType.boolean)).before args0 about1 = true := code_word (m := ⟨7, 5⟩) (meth := k7m5) (c := k7c5) (by decide +kernel) rfl rfl rfl (by decide +kernel)
set_option maxRecDepth 65536 in
theorem w_c7 : (Jvm.Cond.code ({ cls := "com/example/attributary/attributary/engine/Outcome", name := "getDirectives", desc := "()Ljava/util/List;" } : Jvm.MethodName) prog_8_method_9_code (1 : Nat) (Option.some (Jvm.ClassFile.FieldType.object "java/util/List"))).before args0 about1 = true := code_word (m := ⟨7, 4⟩) (meth := k7m4) (c := k7c4) (by decide +kernel) rfl rfl rfl (by decide +kernel)
set_option maxRecDepth 65536 in
theorem w_c8 : (Jvm.Cond.code ({ cls := "java/util/ImmutableCollections$ListN", name := "size", desc := "()I" } : Jvm.MethodName) jdk_45_method_3_code (1 : Nat) (Option.some Jvm.ClassFile.FieldType.int)).before args0 about1 = true := code_word (m := ⟨18, 0⟩) (meth := k18m0) (c := k18c0) (by decide +kernel) rfl rfl rfl (by decide +kernel)
def codes1 : List Jvm.Cond := [Jvm.Cond.code x code maxLocals ret, Jvm.Cond.code ({ cls := "com/example/attributary/attributary/engine/Outcome", name := "of", desc := "(Lcom/example/attributary/attributary/model/Effect;)Lcom/example/attributary/attributary/engine/Outcome;" } : Jvm.MethodName) prog_8_method_3_code (1 : Nat) (Option.some (Jvm.ClassFile.FieldType.object "com/example/attributary/attributary/engine/Outcome")), Jvm.Cond.code ({ cls := "com/example/attributary/attributary/engine/Outcome", name := "getDecision", desc := "()Lcom/example/attributary/attributary/model/Decision;" } : Jvm.MethodName) prog_8_method_6_code (1 : Nat) (Option.some (Jvm.ClassFile.FieldType.object "com/example/attributary/attributary/model/Decision")), Jvm.Cond.code ({ cls := "com/example/attributary/attributary/model/Effect", name := "getDecision", desc := "()Lcom/example/attributary/attributary/model/Decision;" } : Jvm.MethodName) prog_76_method_5_code (1 : Nat) (Option.some (Jvm.ClassFile.FieldType.object "com/example/attributary/attributary/model/Decision")), Jvm.Cond.code ({ cls := "com/example/attributary/attributary/engine/Outcome", name := "getStatus", desc := "()Lcom/example/attributary/attributary/model/StatusCode;" } : Jvm.MethodName) prog_8_method_7_code (1 : Nat) (Option.some (Jvm.ClassFile.FieldType.object "com/example/attributary/attributary/model/StatusCode")), Jvm.Cond.code ({ cls := "com/example/attributary/attributary/engine/Outcome", name := "getEffect", desc := "()Lcom/example/attributary/attributary/model/Effect;" } : Jvm.MethodName) prog_8_method_8_code (2 : Nat) (Option.some (Jvm.ClassFile.FieldType.object "com/example/attributary/attributary/model/Effect")), Jvm.Cond.code ({ cls := "com/example/attributary/attributary/engine/Outcome", name := "couldBe", desc := "(Lcom/example/attributary/attributary/model/Effect;)Z" } : Jvm.MethodName) prog_8_method_11_code (3 : Nat) (Option.some Jvm.ClassFile.FieldType.boolean), Jvm.Cond.code ({ cls := "com/example/attributary/attributary/engine/Outcome", name := "getDirectives", desc := "()Ljava/util/List;" } : Jvm.MethodName) prog_8_method_9_code (1 : Nat) (Option.some (Jvm.ClassFile.FieldType.object "java/util/List")), Jvm.Cond.code ({ cls := "java/util/ImmutableCollections$ListN", name := "size", desc := "()I" } : Jvm.MethodName) jdk_45_method_3_code (1 : Nat) (Option.some Jvm.ClassFile.FieldType.int)]
set_option maxRecDepth 65536 in
theorem codes_eq : words1.filter isCode = codes1 := rfl
theorem w_codes : ∀ c ∈ words1.filter isCode, c.before args0 about1 = true := by
  rw [codes_eq]
  intro c hc
  simp only [codes1, List.mem_cons, List.not_mem_nil, or_false] at hc
  rcases hc with rfl | rfl | rfl | rfl | rfl | rfl | rfl | rfl | rfl
  · exact w_c0
  · exact w_c1
  · exact w_c2
  · exact w_c3
  · exact w_c4
  · exact w_c5
  · exact w_c6
  · exact w_c7
  · exact w_c8
set_option maxRecDepth 65536 in
theorem w_t1 : (words1.take 24).all (fun c => isCode c || c.before args0 about1) = true := by decide +kernel
set_option maxRecDepth 65536 in
theorem w_t2 : ((words1.drop 24).take 24).all (fun c => isCode c || c.before args0 about1) = true := by decide +kernel
set_option maxRecDepth 65536 in
theorem w_t3 : (((words1.drop 24).drop 24).take 24).all (fun c => isCode c || c.before args0 about1) = true := by decide +kernel
set_option maxRecDepth 65536 in
theorem w_t4 : (((words1.drop 24).drop 24).drop 24).all (fun c => isCode c || c.before args0 about1) = true := by decide +kernel
theorem w_tables : (allAtoms (Jvm.Cond.code x code maxLocals ret :: tables_1)).before args0 about1 = true := by
  rw [allAtoms_all]
  show words1.all (fun c => c.before args0 about1) = true
  refine all_split ?_ w_codes
  rw [← List.take_append_drop 24 words1, List.all_append, w_t1, ← List.take_append_drop 24 (words1.drop 24), List.all_append, w_t2, ← List.take_append_drop 24 ((words1.drop 24).drop 24), List.all_append, w_t3, w_t4]
  rfl
set_option maxRecDepth 65536 in
theorem w_case : (Jvm.Cond.and given_1 narrow_1).before args0 about1 = true := by decide +kernel
theorem w_applies : (headSpec (Jvm.Cond.code x code maxLocals ret :: tables_1) room_1).applies x e0.platform about1 = true :=
  (Spec.applies_iff w_frames).mpr ⟨w_running, w_runnable, w_alone, w_named, w_hears, w_ripe, w_room, w_tables⟩
theorem atStart : AtStart classFile x code maxLocals ret World_1 tables_1 room_1 Calls_1 rest_1 Pre_1 launch0 p0 e0 about1 theMethod args0 below0 :=
  ⟨lists_1, trivial, launch0.admits_env _ _ _, launch0.least_env, fairChoices_fair.cas, fairChoices_fair.clock, w_frames, w_args, w_heap, w_applies, trivial, trivial, w_case⟩
end start1
theorem witness_1 : WitnessClaimed_1 := ⟨start1.p0, start1.e0, start1.about1, start1.theMethod, start1.args0, start1.below0, start1.atStart⟩
end Jvm.Pilot.@@N@@
