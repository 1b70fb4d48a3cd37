import JvmDerived
import JvmDerived.Pilot.@@N@@Statement
import JvmDerived.Pilot.@@N@@Code
set_option linter.unusedVariables false
set_option linter.unusedSimpArgs false
namespace Jvm.RoadKit
open Sem ClassFile Op Lib Jvm.Stand Jvm.Free Jvm.LawKit
section New
variable {p : Program} {l : Launch} {e : Env} {R : Room} {s : State} {m : MethodId} {args : Array Value} {below : List Frame} {meth : Method} {c : Code} {T : State} {locs : List Loc} {cells slots : Nat}
theorem retI (X : Stand p l e R s m args below meth c T locs cells slots) (hx : p.tables.exec = Jvm.exec) {pc : Nat} {Ls : Array Slot} {z : Int32} {rest : List Value} (hret : meth.sig.returnType = some .int) (hd : decode c.code pc = .ok (.ireturn, 1)) {fs : List Frame}
    (hl : ∀ (f : JFrame) (acts : List Action), f.method = m → f.locked = none → f.entered = [] → (doReturn e (T.setTop f) acts (some (.int z))).1 = T.setFrames fs) : Steps p.tables e below (T.setTop (mkF m pc Ls (.int z :: rest))) (T.setFrames fs) := by
  have hm' : T.vm.method? m = some meth := X.method'
  have hn : narrow .int (.int z) = .int z := rfl
  show Steps p.tables e below (T.setTop { method := m, pc := pc, locals := Ls, stack := _ :: rest, locked := none }) _
  jvm_step X.here [X.here.top, hx, hd, hm', hret, hn]
  first | (intro acts; rw [hl _ acts rfl rfl rfl]) | rw [hl _ _ rfl rfl rfl]
  exact Steps.refl _
end New
end Jvm.RoadKit
namespace Jvm.Pilot.@@N@@
open Jvm Jvm.ClassFile Sem Op Lib Jvm.Free Jvm.Stand Jvm.LawKit Jvm.RoadKit Bundle Jvm.Pilot.@@N@@.Jvm.D
def own_L (c : Int32) : Int32 := if ((¬ c < 97 ∧ ¬ 122 < c) ∨ (¬ c < 65 ∧ ¬ 90 < c)) then 1 else 0
def own_D (c : Int32) : Int32 := if (¬ c < 48 ∧ ¬ 57 < c) then 1 else 0
def own_N (c : Int32) : Int32 := if own_L c = 0 then (if own_D c = 0 then (if c = 95 then 1 else 0) else 1) else 1
theorem d2_0 : decode prog_36_method_9_code 0 = .ok (.iload_n 0, 1) := by decide +kernel
theorem d2_1 : decode prog_36_method_9_code 1 = .ok (.bipush 97, 2) := by decide +kernel
theorem d2_3 : decode prog_36_method_9_code 3 = .ok (.if_icmp .lt 9, 3) := by decide +kernel
theorem d2_6 : decode prog_36_method_9_code 6 = .ok (.iload_n 0, 1) := by decide +kernel
theorem d2_7 : decode prog_36_method_9_code 7 = .ok (.bipush 122, 2) := by decide +kernel
theorem d2_9 : decode prog_36_method_9_code 9 = .ok (.if_icmp .le 15, 3) := by decide +kernel
theorem d2_12 : decode prog_36_method_9_code 12 = .ok (.iload_n 0, 1) := by decide +kernel
theorem d2_13 : decode prog_36_method_9_code 13 = .ok (.bipush 65, 2) := by decide +kernel
theorem d2_15 : decode prog_36_method_9_code 15 = .ok (.if_icmp .lt 13, 3) := by decide +kernel
theorem d2_18 : decode prog_36_method_9_code 18 = .ok (.iload_n 0, 1) := by decide +kernel
theorem d2_19 : decode prog_36_method_9_code 19 = .ok (.bipush 90, 2) := by decide +kernel
theorem d2_21 : decode prog_36_method_9_code 21 = .ok (.if_icmp .gt 7, 3) := by decide +kernel
theorem d2_24 : decode prog_36_method_9_code 24 = .ok (.iconst 1, 1) := by decide +kernel
theorem d2_25 : decode prog_36_method_9_code 25 = .ok (.goto 4, 3) := by decide +kernel
theorem d2_28 : decode prog_36_method_9_code 28 = .ok (.iconst 0, 1) := by decide +kernel
theorem d2_29 : decode prog_36_method_9_code 29 = .ok (.ireturn, 1) := by decide +kernel
theorem ef_2 (m : MethodId) (x0 : Int32) : entryFrame m #[(.int x0)] 1 = mkF m 0 #[.val (.int x0)] [] := by first | (simp [entryFrame, mkF, argsToLocals, Value.category]; done) | rfl
theorem pn_2 : plainName "com/example/boxes_into_chains/boxesintochains/Lexer" = true := by first | (simp [plainName, overriddenIn]; done) | decide +kernel
def Q2 (Z : State) (p1 : Int32) (r : Int32) (h0 : Heap) (n0 : Nat) (v : Option Value) (h : Heap) (L : List Loc) : Prop := v = some (.int r) ∧ Fr n0 L ∧ h = h0
set_option maxRecDepth 65536 in
set_option maxHeartbeats 40000000 in
theorem own_rm2_tt (l : Launch) (Z : State) (a0 : Array Value) (hw : ∀ d ∈ tables_1, d.before a0 Z = true) (ws : List Jvm.Cond) (p1 : Int32) (h0 : Heap) (n0 : Nat) (Z0 : n0 ≤ h0.size) (hc3 : p1 < (97 : Int32)) (hc15 : p1 < (65 : Int32)) :
    MetFree l (⟨"com/example/boxes_into_chains/boxesintochains/Lexer", "isLetter", "(C)Z"⟩ : MethodName) (head1 (Jvm.Cond.code (⟨"com/example/boxes_into_chains/boxesintochains/Lexer", "isLetter", "(C)Z"⟩ : MethodName) prog_36_method_9_code 1 (some .boolean) :: ws) ({ frames := 0, cells := 0, slots := 0, locals := 0 } : Room)) (fun a U => a = #[(.int p1)] ∧ Z.Warmed39 U.vm ∧ U.heap = h0) (fun _ _ _ _ _ => True) (fun _ U o U' => ∃ v L, o = .returned v ∧ Q2 Z p1 (0 : Int32) h0 n0 v U'.heap L ∧ FrameEnd U o U' L ({ frames := 0, cells := 0, slots := 0, locals := 0 } : Room).cells ({ frames := 0, cells := 0, slots := 0, locals := 0 } : Room).slots) := by
  refine MetFree.of_bodySF (plainFor_of_name pn_2) hisR ?_
  intro p e s m args below meth c s₁ Bd hml0 hP hK
  obtain ⟨rfl, hZ, hh⟩ := hP
  have hx := Bd.exec
  have hby := Bd.bytes
  have hml : c.maxLocals = 1 := hml0
  have hown : s.vm.findClass "com/example/boxes_into_chains/boxesintochains/Lexer" = some m.cls := findClass_of_methodNamed Bd.named
  have hnm := (name_of_methodNamed Bd.named Bd.method).1
  have X0 : Stand p l e ({ frames := 0, cells := 0, slots := 0, locals := 0 } : Room) s m #[(.int p1)] below meth c s₁ [] 0 0 := Stand.of_body Bd
  have e0 : s₁.heap = h0 := by rw [← hh, Bd.state]; rfl
  have N0 := Fr.nil n0
  have pre0 : ∀ t, Steps p.tables e below (s₁.setTop (mkF m 0 #[.val (.int p1)] [])) t → Steps p.tables e below (s₁.setTop (entryFrame m #[(.int p1)] 1)) t := fun t k => castTop (ef_2 m p1) k

  obtain ⟨fs, hr, hrun, hended, hW, hsame⟩ := X0.leave (v := some (.int (0 : Int32))) (fun h => by rw [Bd.returns] at h; cases h)
  refine ⟨_, _, pre0 _ ?_, hrun, hended, _, _, rfl, ?_, ⟨_, rfl⟩, hW, hsame.mono (by decide) (by decide)⟩
  · show Steps p.tables e below (s₁.setTop (mkF m 0 #[.val (.int p1)] [])) _
    refine XS.iloadN X0.here hx rfl (hb hby d2_0) rfl ?_
    show Steps p.tables e below (s₁.setTop (mkF m 1 #[.val (.int p1)] [(.int p1)])) _
    refine XS.bipush X0.here hx rfl (hb hby d2_1) ?_
    show Steps p.tables e below (s₁.setTop (mkF m 3 #[.val (.int p1)] [(.int (97 : Int32)), (.int p1)])) _
    refine XS.icmpYes X0.here hx rfl (pc0 := 3) (pc' := 12) rfl (hb hby d2_3) rfl (tlt hc3).1 (by decide) (by decide) ?_
    show Steps p.tables e below (s₁.setTop (mkF m 12 #[.val (.int p1)] [])) _
    refine XS.iloadN X0.here hx rfl (hb hby d2_12) rfl ?_
    show Steps p.tables e below (s₁.setTop (mkF m 13 #[.val (.int p1)] [(.int p1)])) _
    refine XS.bipush X0.here hx rfl (hb hby d2_13) ?_
    show Steps p.tables e below (s₁.setTop (mkF m 15 #[.val (.int p1)] [(.int (65 : Int32)), (.int p1)])) _
    refine XS.icmpYes X0.here hx rfl (pc0 := 15) (pc' := 28) rfl (hb hby d2_15) rfl (tlt hc15).1 (by decide) (by decide) ?_
    show Steps p.tables e below (s₁.setTop (mkF m 28 #[.val (.int p1)] [])) _
    refine XS.iconst X0.here hx rfl (hb hby d2_28) ?_
    show Steps p.tables e below (s₁.setTop (mkF m 29 #[.val (.int p1)] [(.int (0 : Int32))])) _
    exact retN X0 hx (t := .boolean) Bd.returns (by simp) (hb hby d2_29) hr
  · show Q2 Z p1 (0 : Int32) h0 n0 _ s₁.heap _
    rw [e0]
    exact ⟨rfl, N0, rfl⟩
set_option maxRecDepth 65536 in
set_option maxHeartbeats 40000000 in
theorem own_rm2_tft (l : Launch) (Z : State) (a0 : Array Value) (hw : ∀ d ∈ tables_1, d.before a0 Z = true) (ws : List Jvm.Cond) (p1 : Int32) (h0 : Heap) (n0 : Nat) (Z0 : n0 ≤ h0.size) (hc3 : p1 < (97 : Int32)) (hc15 : ¬ (p1 < (65 : Int32))) (hc21 : (90 : Int32) < p1) :
    MetFree l (⟨"com/example/boxes_into_chains/boxesintochains/Lexer", "isLetter", "(C)Z"⟩ : MethodName) (head1 (Jvm.Cond.code (⟨"com/example/boxes_into_chains/boxesintochains/Lexer", "isLetter", "(C)Z"⟩ : MethodName) prog_36_method_9_code 1 (some .boolean) :: ws) ({ frames := 0, cells := 0, slots := 0, locals := 0 } : Room)) (fun a U => a = #[(.int p1)] ∧ Z.Warmed39 U.vm ∧ U.heap = h0) (fun _ _ _ _ _ => True) (fun _ U o U' => ∃ v L, o = .returned v ∧ Q2 Z p1 (0 : Int32) h0 n0 v U'.heap L ∧ FrameEnd U o U' L ({ frames := 0, cells := 0, slots := 0, locals := 0 } : Room).cells ({ frames := 0, cells := 0, slots := 0, locals := 0 } : Room).slots) := by
  refine MetFree.of_bodySF (plainFor_of_name pn_2) hisR ?_
  intro p e s m args below meth c s₁ Bd hml0 hP hK
  obtain ⟨rfl, hZ, hh⟩ := hP
  have hx := Bd.exec
  have hby := Bd.bytes
  have hml : c.maxLocals = 1 := hml0
  have hown : s.vm.findClass "com/example/boxes_into_chains/boxesintochains/Lexer" = some m.cls := findClass_of_methodNamed Bd.named
  have hnm := (name_of_methodNamed Bd.named Bd.method).1
  have X0 : Stand p l e ({ frames := 0, cells := 0, slots := 0, locals := 0 } : Room) s m #[(.int p1)] below meth c s₁ [] 0 0 := Stand.of_body Bd
  have e0 : s₁.heap = h0 := by rw [← hh, Bd.state]; rfl
  have N0 := Fr.nil n0
  have pre0 : ∀ t, Steps p.tables e below (s₁.setTop (mkF m 0 #[.val (.int p1)] [])) t → Steps p.tables e below (s₁.setTop (entryFrame m #[(.int p1)] 1)) t := fun t k => castTop (ef_2 m p1) k

  obtain ⟨fs, hr, hrun, hended, hW, hsame⟩ := X0.leave (v := some (.int (0 : Int32))) (fun h => by rw [Bd.returns] at h; cases h)
  refine ⟨_, _, pre0 _ ?_, hrun, hended, _, _, rfl, ?_, ⟨_, rfl⟩, hW, hsame.mono (by decide) (by decide)⟩
  · show Steps p.tables e below (s₁.setTop (mkF m 0 #[.val (.int p1)] [])) _
    refine XS.iloadN X0.here hx rfl (hb hby d2_0) rfl ?_
    show Steps p.tables e below (s₁.setTop (mkF m 1 #[.val (.int p1)] [(.int p1)])) _
    refine XS.bipush X0.here hx rfl (hb hby d2_1) ?_
    show Steps p.tables e below (s₁.setTop (mkF m 3 #[.val (.int p1)] [(.int (97 : Int32)), (.int p1)])) _
    refine XS.icmpYes X0.here hx rfl (pc0 := 3) (pc' := 12) rfl (hb hby d2_3) rfl (tlt hc3).1 (by decide) (by decide) ?_
    show Steps p.tables e below (s₁.setTop (mkF m 12 #[.val (.int p1)] [])) _
    refine XS.iloadN X0.here hx rfl (hb hby d2_12) rfl ?_
    show Steps p.tables e below (s₁.setTop (mkF m 13 #[.val (.int p1)] [(.int p1)])) _
    refine XS.bipush X0.here hx rfl (hb hby d2_13) ?_
    show Steps p.tables e below (s₁.setTop (mkF m 15 #[.val (.int p1)] [(.int (65 : Int32)), (.int p1)])) _
    refine XS.icmpNo X0.here hx rfl (hb hby d2_15) rfl (flt hc15).1 ?_
    show Steps p.tables e below (s₁.setTop (mkF m 18 #[.val (.int p1)] [])) _
    refine XS.iloadN X0.here hx rfl (hb hby d2_18) rfl ?_
    show Steps p.tables e below (s₁.setTop (mkF m 19 #[.val (.int p1)] [(.int p1)])) _
    refine XS.bipush X0.here hx rfl (hb hby d2_19) ?_
    show Steps p.tables e below (s₁.setTop (mkF m 21 #[.val (.int p1)] [(.int (90 : Int32)), (.int p1)])) _
    refine XS.icmpYes X0.here hx rfl (pc0 := 21) (pc' := 28) rfl (hb hby d2_21) rfl (tlt hc21).2.2.1 (by decide) (by decide) ?_
    show Steps p.tables e below (s₁.setTop (mkF m 28 #[.val (.int p1)] [])) _
    refine XS.iconst X0.here hx rfl (hb hby d2_28) ?_
    show Steps p.tables e below (s₁.setTop (mkF m 29 #[.val (.int p1)] [(.int (0 : Int32))])) _
    exact retN X0 hx (t := .boolean) Bd.returns (by simp) (hb hby d2_29) hr
  · show Q2 Z p1 (0 : Int32) h0 n0 _ s₁.heap _
    rw [e0]
    exact ⟨rfl, N0, rfl⟩
set_option maxRecDepth 65536 in
set_option maxHeartbeats 40000000 in
theorem own_rm2_tff (l : Launch) (Z : State) (a0 : Array Value) (hw : ∀ d ∈ tables_1, d.before a0 Z = true) (ws : List Jvm.Cond) (p1 : Int32) (h0 : Heap) (n0 : Nat) (Z0 : n0 ≤ h0.size) (hc3 : p1 < (97 : Int32)) (hc15 : ¬ (p1 < (65 : Int32))) (hc21 : ¬ ((90 : Int32) < p1)) :
    MetFree l (⟨"com/example/boxes_into_chains/boxesintochains/Lexer", "isLetter", "(C)Z"⟩ : MethodName) (head1 (Jvm.Cond.code (⟨"com/example/boxes_into_chains/boxesintochains/Lexer", "isLetter", "(C)Z"⟩ : MethodName) prog_36_method_9_code 1 (some .boolean) :: ws) ({ frames := 0, cells := 0, slots := 0, locals := 0 } : Room)) (fun a U => a = #[(.int p1)] ∧ Z.Warmed39 U.vm ∧ U.heap = h0) (fun _ _ _ _ _ => True) (fun _ U o U' => ∃ v L, o = .returned v ∧ Q2 Z p1 (1 : Int32) h0 n0 v U'.heap L ∧ FrameEnd U o U' L ({ frames := 0, cells := 0, slots := 0, locals := 0 } : Room).cells ({ frames := 0, cells := 0, slots := 0, locals := 0 } : Room).slots) := by
  refine MetFree.of_bodySF (plainFor_of_name pn_2) hisR ?_
  intro p e s m args below meth c s₁ Bd hml0 hP hK
  obtain ⟨rfl, hZ, hh⟩ := hP
  have hx := Bd.exec
  have hby := Bd.bytes
  have hml : c.maxLocals = 1 := hml0
  have hown : s.vm.findClass "com/example/boxes_into_chains/boxesintochains/Lexer" = some m.cls := findClass_of_methodNamed Bd.named
  have hnm := (name_of_methodNamed Bd.named Bd.method).1
  have X0 : Stand p l e ({ frames := 0, cells := 0, slots := 0, locals := 0 } : Room) s m #[(.int p1)] below meth c s₁ [] 0 0 := Stand.of_body Bd
  have e0 : s₁.heap = h0 := by rw [← hh, Bd.state]; rfl
  have N0 := Fr.nil n0
  have pre0 : ∀ t, Steps p.tables e below (s₁.setTop (mkF m 0 #[.val (.int p1)] [])) t → Steps p.tables e below (s₁.setTop (entryFrame m #[(.int p1)] 1)) t := fun t k => castTop (ef_2 m p1) k

  obtain ⟨fs, hr, hrun, hended, hW, hsame⟩ := X0.leave (v := some (.int (1 : Int32))) (fun h => by rw [Bd.returns] at h; cases h)
  refine ⟨_, _, pre0 _ ?_, hrun, hended, _, _, rfl, ?_, ⟨_, rfl⟩, hW, hsame.mono (by decide) (by decide)⟩
  · show Steps p.tables e below (s₁.setTop (mkF m 0 #[.val (.int p1)] [])) _
    refine XS.iloadN X0.here hx rfl (hb hby d2_0) rfl ?_
    show Steps p.tables e below (s₁.setTop (mkF m 1 #[.val (.int p1)] [(.int p1)])) _
    refine XS.bipush X0.here hx rfl (hb hby d2_1) ?_
    show Steps p.tables e below (s₁.setTop (mkF m 3 #[.val (.int p1)] [(.int (97 : Int32)), (.int p1)])) _
    refine XS.icmpYes X0.here hx rfl (pc0 := 3) (pc' := 12) rfl (hb hby d2_3) rfl (tlt hc3).1 (by decide) (by decide) ?_
    show Steps p.tables e below (s₁.setTop (mkF m 12 #[.val (.int p1)] [])) _
    refine XS.iloadN X0.here hx rfl (hb hby d2_12) rfl ?_
    show Steps p.tables e below (s₁.setTop (mkF m 13 #[.val (.int p1)] [(.int p1)])) _
    refine XS.bipush X0.here hx rfl (hb hby d2_13) ?_
    show Steps p.tables e below (s₁.setTop (mkF m 15 #[.val (.int p1)] [(.int (65 : Int32)), (.int p1)])) _
    refine XS.icmpNo X0.here hx rfl (hb hby d2_15) rfl (flt hc15).1 ?_
    show Steps p.tables e below (s₁.setTop (mkF m 18 #[.val (.int p1)] [])) _
    refine XS.iloadN X0.here hx rfl (hb hby d2_18) rfl ?_
    show Steps p.tables e below (s₁.setTop (mkF m 19 #[.val (.int p1)] [(.int p1)])) _
    refine XS.bipush X0.here hx rfl (hb hby d2_19) ?_
    show Steps p.tables e below (s₁.setTop (mkF m 21 #[.val (.int p1)] [(.int (90 : Int32)), (.int p1)])) _
    refine XS.icmpNo X0.here hx rfl (hb hby d2_21) rfl (flt hc21).2.2.1 ?_
    show Steps p.tables e below (s₁.setTop (mkF m 24 #[.val (.int p1)] [])) _
    refine XS.iconst X0.here hx rfl (hb hby d2_24) ?_
    show Steps p.tables e below (s₁.setTop (mkF m 25 #[.val (.int p1)] [(.int (1 : Int32))])) _
    refine XS.goto X0.here hx rfl (pc0 := 25) (pc' := 29) rfl (hb hby d2_25) (by decide) (by decide) ?_
    show Steps p.tables e below (s₁.setTop (mkF m 29 #[.val (.int p1)] [(.int (1 : Int32))])) _
    exact retN X0 hx (t := .boolean) Bd.returns (by simp) (hb hby d2_29) hr
  · show Q2 Z p1 (1 : Int32) h0 n0 _ s₁.heap _
    rw [e0]
    exact ⟨rfl, N0, rfl⟩
set_option maxRecDepth 65536 in
set_option maxHeartbeats 40000000 in
theorem own_rm2_ft (l : Launch) (Z : State) (a0 : Array Value) (hw : ∀ d ∈ tables_1, d.before a0 Z = true) (ws : List Jvm.Cond) (p1 : Int32) (h0 : Heap) (n0 : Nat) (Z0 : n0 ≤ h0.size) (hc3 : ¬ (p1 < (97 : Int32))) (hc9 : ¬ ((122 : Int32) < p1)) :
    MetFree l (⟨"com/example/boxes_into_chains/boxesintochains/Lexer", "isLetter", "(C)Z"⟩ : MethodName) (head1 (Jvm.Cond.code (⟨"com/example/boxes_into_chains/boxesintochains/Lexer", "isLetter", "(C)Z"⟩ : MethodName) prog_36_method_9_code 1 (some .boolean) :: ws) ({ frames := 0, cells := 0, slots := 0, locals := 0 } : Room)) (fun a U => a = #[(.int p1)] ∧ Z.Warmed39 U.vm ∧ U.heap = h0) (fun _ _ _ _ _ => True) (fun _ U o U' => ∃ v L, o = .returned v ∧ Q2 Z p1 (1 : Int32) h0 n0 v U'.heap L ∧ FrameEnd U o U' L ({ frames := 0, cells := 0, slots := 0, locals := 0 } : Room).cells ({ frames := 0, cells := 0, slots := 0, locals := 0 } : Room).slots) := by
  refine MetFree.of_bodySF (plainFor_of_name pn_2) hisR ?_
  intro p e s m args below meth c s₁ Bd hml0 hP hK
  obtain ⟨rfl, hZ, hh⟩ := hP
  have hx := Bd.exec
  have hby := Bd.bytes
  have hml : c.maxLocals = 1 := hml0
  have hown : s.vm.findClass "com/example/boxes_into_chains/boxesintochains/Lexer" = some m.cls := findClass_of_methodNamed Bd.named
  have hnm := (name_of_methodNamed Bd.named Bd.method).1
  have X0 : Stand p l e ({ frames := 0, cells := 0, slots := 0, locals := 0 } : Room) s m #[(.int p1)] below meth c s₁ [] 0 0 := Stand.of_body Bd
  have e0 : s₁.heap = h0 := by rw [← hh, Bd.state]; rfl
  have N0 := Fr.nil n0
  have pre0 : ∀ t, Steps p.tables e below (s₁.setTop (mkF m 0 #[.val (.int p1)] [])) t → Steps p.tables e below (s₁.setTop (entryFrame m #[(.int p1)] 1)) t := fun t k => castTop (ef_2 m p1) k

  obtain ⟨fs, hr, hrun, hended, hW, hsame⟩ := X0.leave (v := some (.int (1 : Int32))) (fun h => by rw [Bd.returns] at h; cases h)
  refine ⟨_, _, pre0 _ ?_, hrun, hended, _, _, rfl, ?_, ⟨_, rfl⟩, hW, hsame.mono (by decide) (by decide)⟩
  · show Steps p.tables e below (s₁.setTop (mkF m 0 #[.val (.int p1)] [])) _
    refine XS.iloadN X0.here hx rfl (hb hby d2_0) rfl ?_
    show Steps p.tables e below (s₁.setTop (mkF m 1 #[.val (.int p1)] [(.int p1)])) _
    refine XS.bipush X0.here hx rfl (hb hby d2_1) ?_
    show Steps p.tables e below (s₁.setTop (mkF m 3 #[.val (.int p1)] [(.int (97 : Int32)), (.int p1)])) _
    refine XS.icmpNo X0.here hx rfl (hb hby d2_3) rfl (flt hc3).1 ?_
    show Steps p.tables e below (s₁.setTop (mkF m 6 #[.val (.int p1)] [])) _
    refine XS.iloadN X0.here hx rfl (hb hby d2_6) rfl ?_
    show Steps p.tables e below (s₁.setTop (mkF m 7 #[.val (.int p1)] [(.int p1)])) _
    refine XS.bipush X0.here hx rfl (hb hby d2_7) ?_
    show Steps p.tables e below (s₁.setTop (mkF m 9 #[.val (.int p1)] [(.int (122 : Int32)), (.int p1)])) _
    refine XS.icmpYes X0.here hx rfl (pc0 := 9) (pc' := 24) rfl (hb hby d2_9) rfl (flt hc9).2.2.2 (by decide) (by decide) ?_
    show Steps p.tables e below (s₁.setTop (mkF m 24 #[.val (.int p1)] [])) _
    refine XS.iconst X0.here hx rfl (hb hby d2_24) ?_
    show Steps p.tables e below (s₁.setTop (mkF m 25 #[.val (.int p1)] [(.int (1 : Int32))])) _
    refine XS.goto X0.here hx rfl (pc0 := 25) (pc' := 29) rfl (hb hby d2_25) (by decide) (by decide) ?_
    show Steps p.tables e below (s₁.setTop (mkF m 29 #[.val (.int p1)] [(.int (1 : Int32))])) _
    exact retN X0 hx (t := .boolean) Bd.returns (by simp) (hb hby d2_29) hr
  · show Q2 Z p1 (1 : Int32) h0 n0 _ s₁.heap _
    rw [e0]
    exact ⟨rfl, N0, rfl⟩
set_option maxRecDepth 65536 in
set_option maxHeartbeats 40000000 in
theorem own_rm2_ffft (l : Launch) (Z : State) (a0 : Array Value) (hw : ∀ d ∈ tables_1, d.before a0 Z = true) (ws : List Jvm.Cond) (p1 : Int32) (h0 : Heap) (n0 : Nat) (Z0 : n0 ≤ h0.size) (hc3 : ¬ (p1 < (97 : Int32))) (hc9 : (122 : Int32) < p1) (hc15 : ¬ (p1 < (65 : Int32))) (hc21 : (90 : Int32) < p1) :
    MetFree l (⟨"com/example/boxes_into_chains/boxesintochains/Lexer", "isLetter", "(C)Z"⟩ : MethodName) (head1 (Jvm.Cond.code (⟨"com/example/boxes_into_chains/boxesintochains/Lexer", "isLetter", "(C)Z"⟩ : MethodName) prog_36_method_9_code 1 (some .boolean) :: ws) ({ frames := 0, cells := 0, slots := 0, locals := 0 } : Room)) (fun a U => a = #[(.int p1)] ∧ Z.Warmed39 U.vm ∧ U.heap = h0) (fun _ _ _ _ _ => True) (fun _ U o U' => ∃ v L, o = .returned v ∧ Q2 Z p1 (0 : Int32) h0 n0 v U'.heap L ∧ FrameEnd U o U' L ({ frames := 0, cells := 0, slots := 0, locals := 0 } : Room).cells ({ frames := 0, cells := 0, slots := 0, locals := 0 } : Room).slots) := by
  refine MetFree.of_bodySF (plainFor_of_name pn_2) hisR ?_
  intro p e s m args below meth c s₁ Bd hml0 hP hK
  obtain ⟨rfl, hZ, hh⟩ := hP
  have hx := Bd.exec
  have hby := Bd.bytes
  have hml : c.maxLocals = 1 := hml0
  have hown : s.vm.findClass "com/example/boxes_into_chains/boxesintochains/Lexer" = some m.cls := findClass_of_methodNamed Bd.named
  have hnm := (name_of_methodNamed Bd.named Bd.method).1
  have X0 : Stand p l e ({ frames := 0, cells := 0, slots := 0, locals := 0 } : Room) s m #[(.int p1)] below meth c s₁ [] 0 0 := Stand.of_body Bd
  have e0 : s₁.heap = h0 := by rw [← hh, Bd.state]; rfl
  have N0 := Fr.nil n0
  have pre0 : ∀ t, Steps p.tables e below (s₁.setTop (mkF m 0 #[.val (.int p1)] [])) t → Steps p.tables e below (s₁.setTop (entryFrame m #[(.int p1)] 1)) t := fun t k => castTop (ef_2 m p1) k

  obtain ⟨fs, hr, hrun, hended, hW, hsame⟩ := X0.leave (v := some (.int (0 : Int32))) (fun h => by rw [Bd.returns] at h; cases h)
  refine ⟨_, _, pre0 _ ?_, hrun, hended, _, _, rfl, ?_, ⟨_, rfl⟩, hW, hsame.mono (by decide) (by decide)⟩
  · show Steps p.tables e below (s₁.setTop (mkF m 0 #[.val (.int p1)] [])) _
    refine XS.iloadN X0.here hx rfl (hb hby d2_0) rfl ?_
    show Steps p.tables e below (s₁.setTop (mkF m 1 #[.val (.int p1)] [(.int p1)])) _
    refine XS.bipush X0.here hx rfl (hb hby d2_1) ?_
    show Steps p.tables e below (s₁.setTop (mkF m 3 #[.val (.int p1)] [(.int (97 : Int32)), (.int p1)])) _
    refine XS.icmpNo X0.here hx rfl (hb hby d2_3) rfl (flt hc3).1 ?_
    show Steps p.tables e below (s₁.setTop (mkF m 6 #[.val (.int p1)] [])) _
    refine XS.iloadN X0.here hx rfl (hb hby d2_6) rfl ?_
    show Steps p.tables e below (s₁.setTop (mkF m 7 #[.val (.int p1)] [(.int p1)])) _
    refine XS.bipush X0.here hx rfl (hb hby d2_7) ?_
    show Steps p.tables e below (s₁.setTop (mkF m 9 #[.val (.int p1)] [(.int (122 : Int32)), (.int p1)])) _
    refine XS.icmpNo X0.here hx rfl (hb hby d2_9) rfl (tlt hc9).2.2.2 ?_
    show Steps p.tables e below (s₁.setTop (mkF m 12 #[.val (.int p1)] [])) _
    refine XS.iloadN X0.here hx rfl (hb hby d2_12) rfl ?_
    show Steps p.tables e below (s₁.setTop (mkF m 13 #[.val (.int p1)] [(.int p1)])) _
    refine XS.bipush X0.here hx rfl (hb hby d2_13) ?_
    show Steps p.tables e below (s₁.setTop (mkF m 15 #[.val (.int p1)] [(.int (65 : Int32)), (.int p1)])) _
    refine XS.icmpNo X0.here hx rfl (hb hby d2_15) rfl (flt hc15).1 ?_
    show Steps p.tables e below (s₁.setTop (mkF m 18 #[.val (.int p1)] [])) _
    refine XS.iloadN X0.here hx rfl (hb hby d2_18) rfl ?_
    show Steps p.tables e below (s₁.setTop (mkF m 19 #[.val (.int p1)] [(.int p1)])) _
    refine XS.bipush X0.here hx rfl (hb hby d2_19) ?_
    show Steps p.tables e below (s₁.setTop (mkF m 21 #[.val (.int p1)] [(.int (90 : Int32)), (.int p1)])) _
    refine XS.icmpYes X0.here hx rfl (pc0 := 21) (pc' := 28) rfl (hb hby d2_21) rfl (tlt hc21).2.2.1 (by decide) (by decide) ?_
    show Steps p.tables e below (s₁.setTop (mkF m 28 #[.val (.int p1)] [])) _
    refine XS.iconst X0.here hx rfl (hb hby d2_28) ?_
    show Steps p.tables e below (s₁.setTop (mkF m 29 #[.val (.int p1)] [(.int (0 : Int32))])) _
    exact retN X0 hx (t := .boolean) Bd.returns (by simp) (hb hby d2_29) hr
  · show Q2 Z p1 (0 : Int32) h0 n0 _ s₁.heap _
    rw [e0]
    exact ⟨rfl, N0, rfl⟩
theorem rm2 (l : Launch) (Z : State) (a0 : Array Value) (hw : ∀ d ∈ tables_1, d.before a0 Z = true) (ws : List Jvm.Cond) (p1 : Int32) (h0 : Heap) (n0 : Nat) (Z0 : n0 ≤ h0.size) :
    MetFree l (⟨"com/example/boxes_into_chains/boxesintochains/Lexer", "isLetter", "(C)Z"⟩ : MethodName) (head1 (Jvm.Cond.code (⟨"com/example/boxes_into_chains/boxesintochains/Lexer", "isLetter", "(C)Z"⟩ : MethodName) prog_36_method_9_code 1 (some .boolean) :: ws) ({ frames := 0, cells := 0, slots := 0, locals := 0 } : Room)) (fun a U => a = #[(.int p1)] ∧ Z.Warmed39 U.vm ∧ U.heap = h0) (fun _ _ _ _ _ => True) (fun _ U o U' => ∃ v L, o = .returned v ∧ Q2 Z p1 (own_L p1) h0 n0 v U'.heap L ∧ FrameEnd U o U' L ({ frames := 0, cells := 0, slots := 0, locals := 0 } : Room).cells ({ frames := 0, cells := 0, slots := 0, locals := 0 } : Room).slots) := by
  by_cases hc3 : p1 < (97 : Int32)
  · by_cases hc15 : p1 < (65 : Int32)
    · rw [show own_L p1 = 0 by simp [own_L, hc3, hc15]]; exact own_rm2_tt l Z a0 hw ws p1 h0 n0 Z0 hc3 hc15
    · by_cases hc21 : (90 : Int32) < p1
      · rw [show own_L p1 = 0 by simp [own_L, hc3, hc15, hc21]]; exact own_rm2_tft l Z a0 hw ws p1 h0 n0 Z0 hc3 hc15 hc21
      · rw [show own_L p1 = 1 by simp [own_L, hc3, hc15, hc21]]; exact own_rm2_tff l Z a0 hw ws p1 h0 n0 Z0 hc3 hc15 hc21
  · by_cases hc9 : (122 : Int32) < p1
    · have hc15 : ¬ p1 < (65 : Int32) := fun h => hc3 (Int32.lt_trans h (by decide))
      have hc21 : (90 : Int32) < p1 := Int32.lt_trans (by decide) hc9
      rw [show own_L p1 = 0 by simp [own_L, hc3, hc9, hc15, hc21]]; exact own_rm2_ffft l Z a0 hw ws p1 h0 n0 Z0 hc3 hc9 hc15 hc21
    · rw [show own_L p1 = 1 by simp [own_L, hc3, hc9]]; exact own_rm2_ft l Z a0 hw ws p1 h0 n0 Z0 hc3 hc9
theorem d3_0 : decode prog_36_method_10_code 0 = .ok (.iload_n 0, 1) := by decide +kernel
theorem d3_1 : decode prog_36_method_10_code 1 = .ok (.bipush 48, 2) := by decide +kernel
theorem d3_3 : decode prog_36_method_10_code 3 = .ok (.if_icmp .lt 13, 3) := by decide +kernel
theorem d3_6 : decode prog_36_method_10_code 6 = .ok (.iload_n 0, 1) := by decide +kernel
theorem d3_7 : decode prog_36_method_10_code 7 = .ok (.bipush 57, 2) := by decide +kernel
theorem d3_9 : decode prog_36_method_10_code 9 = .ok (.if_icmp .gt 7, 3) := by decide +kernel
theorem d3_12 : decode prog_36_method_10_code 12 = .ok (.iconst 1, 1) := by decide +kernel
theorem d3_13 : decode prog_36_method_10_code 13 = .ok (.goto 4, 3) := by decide +kernel
theorem d3_16 : decode prog_36_method_10_code 16 = .ok (.iconst 0, 1) := by decide +kernel
theorem d3_17 : decode prog_36_method_10_code 17 = .ok (.ireturn, 1) := by decide +kernel
theorem ef_3 (m : MethodId) (x0 : Int32) : entryFrame m #[(.int x0)] 1 = mkF m 0 #[.val (.int x0)] [] := by first | (simp [entryFrame, mkF, argsToLocals, Value.category]; done) | rfl
theorem pn_3 : plainName "com/example/boxes_into_chains/boxesintochains/Lexer" = true := by first | (simp [plainName, overriddenIn]; done) | decide +kernel
def Q3 (Z : State) (p1 : Int32) (r : Int32) (h0 : Heap) (n0 : Nat) (v : Option Value) (h : Heap) (L : List Loc) : Prop := v = some (.int r) ∧ Fr n0 L ∧ h = h0
set_option maxRecDepth 65536 in
set_option maxHeartbeats 40000000 in
theorem own_rm3_t (l : Launch) (Z : State) (a0 : Array Value) (hw : ∀ d ∈ tables_1, d.before a0 Z = true) (ws : List Jvm.Cond) (p1 : Int32) (h0 : Heap) (n0 : Nat) (Z0 : n0 ≤ h0.size) (hc3 : p1 < (48 : Int32)) :
    MetFree l (⟨"com/example/boxes_into_chains/boxesintochains/Lexer", "isDigit", "(C)Z"⟩ : MethodName) (head1 (Jvm.Cond.code (⟨"com/example/boxes_into_chains/boxesintochains/Lexer", "isDigit", "(C)Z"⟩ : MethodName) prog_36_method_10_code 1 (some .boolean) :: ws) ({ frames := 0, cells := 0, slots := 0, locals := 0 } : Room)) (fun a U => a = #[(.int p1)] ∧ Z.Warmed39 U.vm ∧ U.heap = h0) (fun _ _ _ _ _ => True) (fun _ U o U' => ∃ v L, o = .returned v ∧ Q3 Z p1 (0 : Int32) h0 n0 v U'.heap L ∧ FrameEnd U o U' L ({ frames := 0, cells := 0, slots := 0, locals := 0 } : Room).cells ({ frames := 0, cells := 0, slots := 0, locals := 0 } : Room).slots) := by
  refine MetFree.of_bodySF (plainFor_of_name pn_3) hisR ?_
  intro p e s m args below meth c s₁ Bd hml0 hP hK
  obtain ⟨rfl, hZ, hh⟩ := hP
  have hx := Bd.exec
  have hby := Bd.bytes
  have hml : c.maxLocals = 1 := hml0
  have hown : s.vm.findClass "com/example/boxes_into_chains/boxesintochains/Lexer" = some m.cls := findClass_of_methodNamed Bd.named
  have hnm := (name_of_methodNamed Bd.named Bd.method).1
  have X0 : Stand p l e ({ frames := 0, cells := 0, slots := 0, locals := 0 } : Room) s m #[(.int p1)] below meth c s₁ [] 0 0 := Stand.of_body Bd
  have e0 : s₁.heap = h0 := by rw [← hh, Bd.state]; rfl
  have N0 := Fr.nil n0
  have pre0 : ∀ t, Steps p.tables e below (s₁.setTop (mkF m 0 #[.val (.int p1)] [])) t → Steps p.tables e below (s₁.setTop (entryFrame m #[(.int p1)] 1)) t := fun t k => castTop (ef_3 m p1) k

  obtain ⟨fs, hr, hrun, hended, hW, hsame⟩ := X0.leave (v := some (.int (0 : Int32))) (fun h => by rw [Bd.returns] at h; cases h)
  refine ⟨_, _, pre0 _ ?_, hrun, hended, _, _, rfl, ?_, ⟨_, rfl⟩, hW, hsame.mono (by decide) (by decide)⟩
  · show Steps p.tables e below (s₁.setTop (mkF m 0 #[.val (.int p1)] [])) _
    refine XS.iloadN X0.here hx rfl (hb hby d3_0) rfl ?_
    show Steps p.tables e below (s₁.setTop (mkF m 1 #[.val (.int p1)] [(.int p1)])) _
    refine XS.bipush X0.here hx rfl (hb hby d3_1) ?_
    show Steps p.tables e below (s₁.setTop (mkF m 3 #[.val (.int p1)] [(.int (48 : Int32)), (.int p1)])) _
    refine XS.icmpYes X0.here hx rfl (pc0 := 3) (pc' := 16) rfl (hb hby d3_3) rfl (tlt hc3).1 (by decide) (by decide) ?_
    show Steps p.tables e below (s₁.setTop (mkF m 16 #[.val (.int p1)] [])) _
    refine XS.iconst X0.here hx rfl (hb hby d3_16) ?_
    show Steps p.tables e below (s₁.setTop (mkF m 17 #[.val (.int p1)] [(.int (0 : Int32))])) _
    exact retN X0 hx (t := .boolean) Bd.returns (by simp) (hb hby d3_17) hr
  · show Q3 Z p1 (0 : Int32) h0 n0 _ s₁.heap _
    rw [e0]
    exact ⟨rfl, N0, rfl⟩
set_option maxRecDepth 65536 in
set_option maxHeartbeats 40000000 in
theorem own_rm3_ft (l : Launch) (Z : State) (a0 : Array Value) (hw : ∀ d ∈ tables_1, d.before a0 Z = true) (ws : List Jvm.Cond) (p1 : Int32) (h0 : Heap) (n0 : Nat) (Z0 : n0 ≤ h0.size) (hc3 : ¬ (p1 < (48 : Int32))) (hc9 : (57 : Int32) < p1) :
    MetFree l (⟨"com/example/boxes_into_chains/boxesintochains/Lexer", "isDigit", "(C)Z"⟩ : MethodName) (head1 (Jvm.Cond.code (⟨"com/example/boxes_into_chains/boxesintochains/Lexer", "isDigit", "(C)Z"⟩ : MethodName) prog_36_method_10_code 1 (some .boolean) :: ws) ({ frames := 0, cells := 0, slots := 0, locals := 0 } : Room)) (fun a U => a = #[(.int p1)] ∧ Z.Warmed39 U.vm ∧ U.heap = h0) (fun _ _ _ _ _ => True) (fun _ U o U' => ∃ v L, o = .returned v ∧ Q3 Z p1 (0 : Int32) h0 n0 v U'.heap L ∧ FrameEnd U o U' L ({ frames := 0, cells := 0, slots := 0, locals := 0 } : Room).cells ({ frames := 0, cells := 0, slots := 0, locals := 0 } : Room).slots) := by
  refine MetFree.of_bodySF (plainFor_of_name pn_3) hisR ?_
  intro p e s m args below meth c s₁ Bd hml0 hP hK
  obtain ⟨rfl, hZ, hh⟩ := hP
  have hx := Bd.exec
  have hby := Bd.bytes
  have hml : c.maxLocals = 1 := hml0
  have hown : s.vm.findClass "com/example/boxes_into_chains/boxesintochains/Lexer" = some m.cls := findClass_of_methodNamed Bd.named
  have hnm := (name_of_methodNamed Bd.named Bd.method).1
  have X0 : Stand p l e ({ frames := 0, cells := 0, slots := 0, locals := 0 } : Room) s m #[(.int p1)] below meth c s₁ [] 0 0 := Stand.of_body Bd
  have e0 : s₁.heap = h0 := by rw [← hh, Bd.state]; rfl
  have N0 := Fr.nil n0
  have pre0 : ∀ t, Steps p.tables e below (s₁.setTop (mkF m 0 #[.val (.int p1)] [])) t → Steps p.tables e below (s₁.setTop (entryFrame m #[(.int p1)] 1)) t := fun t k => castTop (ef_3 m p1) k

  obtain ⟨fs, hr, hrun, hended, hW, hsame⟩ := X0.leave (v := some (.int (0 : Int32))) (fun h => by rw [Bd.returns] at h; cases h)
  refine ⟨_, _, pre0 _ ?_, hrun, hended, _, _, rfl, ?_, ⟨_, rfl⟩, hW, hsame.mono (by decide) (by decide)⟩
  · show Steps p.tables e below (s₁.setTop (mkF m 0 #[.val (.int p1)] [])) _
    refine XS.iloadN X0.here hx rfl (hb hby d3_0) rfl ?_
    show Steps p.tables e below (s₁.setTop (mkF m 1 #[.val (.int p1)] [(.int p1)])) _
    refine XS.bipush X0.here hx rfl (hb hby d3_1) ?_
    show Steps p.tables e below (s₁.setTop (mkF m 3 #[.val (.int p1)] [(.int (48 : Int32)), (.int p1)])) _
    refine XS.icmpNo X0.here hx rfl (hb hby d3_3) rfl (flt hc3).1 ?_
    show Steps p.tables e below (s₁.setTop (mkF m 6 #[.val (.int p1)] [])) _
    refine XS.iloadN X0.here hx rfl (hb hby d3_6) rfl ?_
    show Steps p.tables e below (s₁.setTop (mkF m 7 #[.val (.int p1)] [(.int p1)])) _
    refine XS.bipush X0.here hx rfl (hb hby d3_7) ?_
    show Steps p.tables e below (s₁.setTop (mkF m 9 #[.val (.int p1)] [(.int (57 : Int32)), (.int p1)])) _
    refine XS.icmpYes X0.here hx rfl (pc0 := 9) (pc' := 16) rfl (hb hby d3_9) rfl (tlt hc9).2.2.1 (by decide) (by decide) ?_
    show Steps p.tables e below (s₁.setTop (mkF m 16 #[.val (.int p1)] [])) _
    refine XS.iconst X0.here hx rfl (hb hby d3_16) ?_
    show Steps p.tables e below (s₁.setTop (mkF m 17 #[.val (.int p1)] [(.int (0 : Int32))])) _
    exact retN X0 hx (t := .boolean) Bd.returns (by simp) (hb hby d3_17) hr
  · show Q3 Z p1 (0 : Int32) h0 n0 _ s₁.heap _
    rw [e0]
    exact ⟨rfl, N0, rfl⟩
set_option maxRecDepth 65536 in
set_option maxHeartbeats 40000000 in
theorem own_rm3_ff (l : Launch) (Z : State) (a0 : Array Value) (hw : ∀ d ∈ tables_1, d.before a0 Z = true) (ws : List Jvm.Cond) (p1 : Int32) (h0 : Heap) (n0 : Nat) (Z0 : n0 ≤ h0.size) (hc3 : ¬ (p1 < (48 : Int32))) (hc9 : ¬ ((57 : Int32) < p1)) :
    MetFree l (⟨"com/example/boxes_into_chains/boxesintochains/Lexer", "isDigit", "(C)Z"⟩ : MethodName) (head1 (Jvm.Cond.code (⟨"com/example/boxes_into_chains/boxesintochains/Lexer", "isDigit", "(C)Z"⟩ : MethodName) prog_36_method_10_code 1 (some .boolean) :: ws) ({ frames := 0, cells := 0, slots := 0, locals := 0 } : Room)) (fun a U => a = #[(.int p1)] ∧ Z.Warmed39 U.vm ∧ U.heap = h0) (fun _ _ _ _ _ => True) (fun _ U o U' => ∃ v L, o = .returned v ∧ Q3 Z p1 (1 : Int32) h0 n0 v U'.heap L ∧ FrameEnd U o U' L ({ frames := 0, cells := 0, slots := 0, locals := 0 } : Room).cells ({ frames := 0, cells := 0, slots := 0, locals := 0 } : Room).slots) := by
  refine MetFree.of_bodySF (plainFor_of_name pn_3) hisR ?_
  intro p e s m args below meth c s₁ Bd hml0 hP hK
  obtain ⟨rfl, hZ, hh⟩ := hP
  have hx := Bd.exec
  have hby := Bd.bytes
  have hml : c.maxLocals = 1 := hml0
  have hown : s.vm.findClass "com/example/boxes_into_chains/boxesintochains/Lexer" = some m.cls := findClass_of_methodNamed Bd.named
  have hnm := (name_of_methodNamed Bd.named Bd.method).1
  have X0 : Stand p l e ({ frames := 0, cells := 0, slots := 0, locals := 0 } : Room) s m #[(.int p1)] below meth c s₁ [] 0 0 := Stand.of_body Bd
  have e0 : s₁.heap = h0 := by rw [← hh, Bd.state]; rfl
  have N0 := Fr.nil n0
  have pre0 : ∀ t, Steps p.tables e below (s₁.setTop (mkF m 0 #[.val (.int p1)] [])) t → Steps p.tables e below (s₁.setTop (entryFrame m #[(.int p1)] 1)) t := fun t k => castTop (ef_3 m p1) k

  obtain ⟨fs, hr, hrun, hended, hW, hsame⟩ := X0.leave (v := some (.int (1 : Int32))) (fun h => by rw [Bd.returns] at h; cases h)
  refine ⟨_, _, pre0 _ ?_, hrun, hended, _, _, rfl, ?_, ⟨_, rfl⟩, hW, hsame.mono (by decide) (by decide)⟩
  · show Steps p.tables e below (s₁.setTop (mkF m 0 #[.val (.int p1)] [])) _
    refine XS.iloadN X0.here hx rfl (hb hby d3_0) rfl ?_
    show Steps p.tables e below (s₁.setTop (mkF m 1 #[.val (.int p1)] [(.int p1)])) _
    refine XS.bipush X0.here hx rfl (hb hby d3_1) ?_
    show Steps p.tables e below (s₁.setTop (mkF m 3 #[.val (.int p1)] [(.int (48 : Int32)), (.int p1)])) _
    refine XS.icmpNo X0.here hx rfl (hb hby d3_3) rfl (flt hc3).1 ?_
    show Steps p.tables e below (s₁.setTop (mkF m 6 #[.val (.int p1)] [])) _
    refine XS.iloadN X0.here hx rfl (hb hby d3_6) rfl ?_
    show Steps p.tables e below (s₁.setTop (mkF m 7 #[.val (.int p1)] [(.int p1)])) _
    refine XS.bipush X0.here hx rfl (hb hby d3_7) ?_
    show Steps p.tables e below (s₁.setTop (mkF m 9 #[.val (.int p1)] [(.int (57 : Int32)), (.int p1)])) _
    refine XS.icmpNo X0.here hx rfl (hb hby d3_9) rfl (flt hc9).2.2.1 ?_
    show Steps p.tables e below (s₁.setTop (mkF m 12 #[.val (.int p1)] [])) _
    refine XS.iconst X0.here hx rfl (hb hby d3_12) ?_
    show Steps p.tables e below (s₁.setTop (mkF m 13 #[.val (.int p1)] [(.int (1 : Int32))])) _
    refine XS.goto X0.here hx rfl (pc0 := 13) (pc' := 17) rfl (hb hby d3_13) (by decide) (by decide) ?_
    show Steps p.tables e below (s₁.setTop (mkF m 17 #[.val (.int p1)] [(.int (1 : Int32))])) _
    exact retN X0 hx (t := .boolean) Bd.returns (by simp) (hb hby d3_17) hr
  · show Q3 Z p1 (1 : Int32) h0 n0 _ s₁.heap _
    rw [e0]
    exact ⟨rfl, N0, rfl⟩
theorem rm3 (l : Launch) (Z : State) (a0 : Array Value) (hw : ∀ d ∈ tables_1, d.before a0 Z = true) (ws : List Jvm.Cond) (p1 : Int32) (h0 : Heap) (n0 : Nat) (Z0 : n0 ≤ h0.size) :
    MetFree l (⟨"com/example/boxes_into_chains/boxesintochains/Lexer", "isDigit", "(C)Z"⟩ : MethodName) (head1 (Jvm.Cond.code (⟨"com/example/boxes_into_chains/boxesintochains/Lexer", "isDigit", "(C)Z"⟩ : MethodName) prog_36_method_10_code 1 (some .boolean) :: ws) ({ frames := 0, cells := 0, slots := 0, locals := 0 } : Room)) (fun a U => a = #[(.int p1)] ∧ Z.Warmed39 U.vm ∧ U.heap = h0) (fun _ _ _ _ _ => True) (fun _ U o U' => ∃ v L, o = .returned v ∧ Q3 Z p1 (own_D p1) h0 n0 v U'.heap L ∧ FrameEnd U o U' L ({ frames := 0, cells := 0, slots := 0, locals := 0 } : Room).cells ({ frames := 0, cells := 0, slots := 0, locals := 0 } : Room).slots) := by
  by_cases hc3 : p1 < (48 : Int32)
  · rw [show own_D p1 = 0 by simp [own_D, hc3]]; exact own_rm3_t l Z a0 hw ws p1 h0 n0 Z0 hc3
  · by_cases hc9 : (57 : Int32) < p1
    · rw [show own_D p1 = 0 by simp [own_D, hc3, hc9]]; exact own_rm3_ft l Z a0 hw ws p1 h0 n0 Z0 hc3 hc9
    · rw [show own_D p1 = 1 by simp [own_D, hc3, hc9]]; exact own_rm3_ff l Z a0 hw ws p1 h0 n0 Z0 hc3 hc9
theorem d1_0 : decode prog_36_method_8_code 0 = .ok (.iload_n 0, 1) := by decide +kernel
theorem d1_1 : decode prog_36_method_8_code 1 = .ok (.invokestatic 183, 3) := by decide +kernel
theorem d1_4 : decode prog_36_method_8_code 4 = .ok (.ifCond .ne 16, 3) := by decide +kernel
theorem d1_7 : decode prog_36_method_8_code 7 = .ok (.iload_n 0, 1) := by decide +kernel
theorem d1_8 : decode prog_36_method_8_code 8 = .ok (.invokestatic 64, 3) := by decide +kernel
theorem d1_11 : decode prog_36_method_8_code 11 = .ok (.ifCond .ne 9, 3) := by decide +kernel
theorem d1_14 : decode prog_36_method_8_code 14 = .ok (.iload_n 0, 1) := by decide +kernel
theorem d1_15 : decode prog_36_method_8_code 15 = .ok (.bipush 95, 2) := by decide +kernel
theorem d1_17 : decode prog_36_method_8_code 17 = .ok (.if_icmp .ne 7, 3) := by decide +kernel
theorem d1_20 : decode prog_36_method_8_code 20 = .ok (.iconst 1, 1) := by decide +kernel
theorem d1_21 : decode prog_36_method_8_code 21 = .ok (.goto 4, 3) := by decide +kernel
theorem d1_24 : decode prog_36_method_8_code 24 = .ok (.iconst 0, 1) := by decide +kernel
theorem d1_25 : decode prog_36_method_8_code 25 = .ok (.ireturn, 1) := by decide +kernel
theorem ef_1 (m : MethodId) (x0 : Int32) : entryFrame m #[(.int x0)] 1 = mkF m 0 #[.val (.int x0)] [] := by first | (simp [entryFrame, mkF, argsToLocals, Value.category]; done) | rfl
theorem pd_1_0 : parseMethodDescriptor "(C)Z" = some ⟨[.char], some .boolean⟩ := by decide +kernel
theorem pn_1 : plainName "com/example/boxes_into_chains/boxesintochains/Lexer" = true := by first | (simp [plainName, overriddenIn]; done) | decide +kernel
def Q1 (Z : State) (p1 : Int32) (r : Int32) (h0 : Heap) (n0 : Nat) (v : Option Value) (h : Heap) (L : List Loc) : Prop := v = some (.int r) ∧ Fr n0 L ∧ h = h0
set_option maxRecDepth 65536 in
set_option maxHeartbeats 40000000 in
theorem own_rm1_t (l : Launch) (Z : State) (a0 : Array Value) (hw : ∀ d ∈ tables_1, d.before a0 Z = true) (ws : List Jvm.Cond) (p1 : Int32) (h0 : Heap) (n0 : Nat) (Z0 : n0 ≤ h0.size) (hL : ¬ own_L p1 = 0) :
    MetFree l (⟨"com/example/boxes_into_chains/boxesintochains/Lexer", "continuesName", "(C)Z"⟩ : MethodName) (head1 (Jvm.Cond.code (⟨"com/example/boxes_into_chains/boxesintochains/Lexer", "continuesName", "(C)Z"⟩ : MethodName) prog_36_method_8_code 1 (some .boolean) :: ws) ({ frames := 1, cells := 0, slots := 0, locals := 12 } : Room)) (fun a U => a = #[(.int p1)] ∧ Z.Warmed39 U.vm ∧ U.heap = h0) (fun _ _ _ _ _ => True) (fun _ U o U' => ∃ v L, o = .returned v ∧ Q1 Z p1 (1 : Int32) h0 n0 v U'.heap L ∧ FrameEnd U o U' L ({ frames := 1, cells := 0, slots := 0, locals := 12 } : Room).cells ({ frames := 1, cells := 0, slots := 0, locals := 12 } : Room).slots) := by
  refine MetFree.of_bodySF (plainFor_of_name pn_1) hisR ?_
  intro p e s m args below meth c s₁ Bd hml0 hP hK
  obtain ⟨rfl, hZ, hh⟩ := hP
  have hx := Bd.exec
  have hby := Bd.bytes
  have hml : c.maxLocals = 1 := hml0
  have hown : s.vm.findClass "com/example/boxes_into_chains/boxesintochains/Lexer" = some m.cls := findClass_of_methodNamed Bd.named
  have hnm := (name_of_methodNamed Bd.named Bd.method).1
  have X0 : Stand p l e ({ frames := 1, cells := 0, slots := 0, locals := 12 } : Room) s m #[(.int p1)] below meth c s₁ [] 0 0 := Stand.of_body Bd
  have e0 : s₁.heap = h0 := by rw [← hh, Bd.state]; rfl
  have N0 := Fr.nil n0
  have pre0 : ∀ t, Steps p.tables e below (s₁.setTop (mkF m 0 #[.val (.int p1)] [])) t → Steps p.tables e below (s₁.setTop (entryFrame m #[(.int p1)] 1)) t := fun t k => castTop (ef_1 m p1) k
  obtain ⟨_, _, ⟨T2, L2, k2, n2⟩, -, X2, ⟨Lc2, hQ2, l2, y2, z2⟩, st2⟩ := Jvm.LawKit.callS X0 hx (y := (⟨"com/example/boxes_into_chains/boxesintochains/Lexer", "isLetter", "(C)Z"⟩ : MethodName)) hown (mvT hZ (hw _ (List.mem_of_getElem? (i := 4) rfl))) (mvT hZ (hw _ (List.mem_of_getElem? (i := 5) rfl))) (mvT hZ (hw _ (List.mem_of_getElem? (i := 2) rfl))) (mvT hZ (hw _ (List.mem_of_getElem? (i := 6) rfl))) (by decide) (backOf (W := 0) (rm2 l Z a0 hw [] p1 h0 n0 Z0) hZ (hw _ (List.mem_of_getElem? (i := 6) rfl)) (hw _ (List.mem_of_getElem? (i := 2) rfl)) (by decide) (by decide)) (g := (mkF m 1 #[.val (.int p1)] [(.int p1)])) rfl (by rw [hml]; rfl) (argsL := [(.int p1)]) (rest := []) (lenOf pd_1_0 rfl) rfl (by show 2 * 0 + _ ≤ _; exact Nat.le_of_eq rfl) (hb hby d1_1) (fun _ _ => ⟨rfl, e0, (by decide : 0 + 0 ≤ _), (by decide : 0 + 0 ≤ _)⟩)
  dsimp only [Pt.U, Pt.locs, Pt.cells, Pt.slots] at X2 l2 y2 z2 st2 hQ2
  subst l2 y2 z2
  obtain ⟨rfl, N2q, e2⟩ := hQ2
  have N2 := Fr.app N0 N2q
  obtain ⟨fs, hr, hrun, hended, hW, hsame⟩ := X2.leave (v := some (.int (1 : Int32))) (fun h => by rw [Bd.returns] at h; cases h)
  refine ⟨_, _, pre0 _ ?_, hrun, hended, _, _, rfl, ?_, ⟨_, rfl⟩, hW, hsame.mono (by decide) (by decide)⟩
  · show Steps p.tables e below (s₁.setTop (mkF m 0 #[.val (.int p1)] [])) _
    refine XS.iloadN X0.here hx rfl (hb hby d1_0) rfl ?_
    show Steps p.tables e below (s₁.setTop (mkF m 1 #[.val (.int p1)] [(.int p1)])) _
    refine st2 _ ?_
    show Steps p.tables e below (T2.setTop (mkF m 4 #[.val (.int p1)] [(.int (own_L p1))])) _
    refine XS.ifYes X2.here hx rfl (pc0 := 4) (pc' := 20) rfl (hb hby d1_4) rfl ((if0 _ _).trans (feq hL).2) (by decide) (by decide) ?_
    show Steps p.tables e below (T2.setTop (mkF m 20 #[.val (.int p1)] [])) _
    refine XS.iconst X2.here hx rfl (hb hby d1_20) ?_
    show Steps p.tables e below (T2.setTop (mkF m 21 #[.val (.int p1)] [(.int (1 : Int32))])) _
    refine XS.goto X2.here hx rfl (pc0 := 21) (pc' := 25) rfl (hb hby d1_21) (by decide) (by decide) ?_
    show Steps p.tables e below (T2.setTop (mkF m 25 #[.val (.int p1)] [(.int (1 : Int32))])) _
    exact retN X2 hx (t := .boolean) Bd.returns (by simp) (hb hby d1_25) hr
  · show Q1 Z p1 (1 : Int32) h0 n0 _ T2.heap _
    exact ⟨rfl, N2, e2⟩
set_option maxRecDepth 65536 in
set_option maxHeartbeats 40000000 in
theorem own_rm1_ft (l : Launch) (Z : State) (a0 : Array Value) (hw : ∀ d ∈ tables_1, d.before a0 Z = true) (ws : List Jvm.Cond) (p1 : Int32) (h0 : Heap) (n0 : Nat) (Z0 : n0 ≤ h0.size) (hL : own_L p1 = 0) (hD : ¬ own_D p1 = 0) :
    MetFree l (⟨"com/example/boxes_into_chains/boxesintochains/Lexer", "continuesName", "(C)Z"⟩ : MethodName) (head1 (Jvm.Cond.code (⟨"com/example/boxes_into_chains/boxesintochains/Lexer", "continuesName", "(C)Z"⟩ : MethodName) prog_36_method_8_code 1 (some .boolean) :: ws) ({ frames := 1, cells := 0, slots := 0, locals := 12 } : Room)) (fun a U => a = #[(.int p1)] ∧ Z.Warmed39 U.vm ∧ U.heap = h0) (fun _ _ _ _ _ => True) (fun _ U o U' => ∃ v L, o = .returned v ∧ Q1 Z p1 (1 : Int32) h0 n0 v U'.heap L ∧ FrameEnd U o U' L ({ frames := 1, cells := 0, slots := 0, locals := 12 } : Room).cells ({ frames := 1, cells := 0, slots := 0, locals := 12 } : Room).slots) := by
  refine MetFree.of_bodySF (plainFor_of_name pn_1) hisR ?_
  intro p e s m args below meth c s₁ Bd hml0 hP hK
  obtain ⟨rfl, hZ, hh⟩ := hP
  have hx := Bd.exec
  have hby := Bd.bytes
  have hml : c.maxLocals = 1 := hml0
  have hown : s.vm.findClass "com/example/boxes_into_chains/boxesintochains/Lexer" = some m.cls := findClass_of_methodNamed Bd.named
  have hnm := (name_of_methodNamed Bd.named Bd.method).1
  have X0 : Stand p l e ({ frames := 1, cells := 0, slots := 0, locals := 12 } : Room) s m #[(.int p1)] below meth c s₁ [] 0 0 := Stand.of_body Bd
  have e0 : s₁.heap = h0 := by rw [← hh, Bd.state]; rfl
  have N0 := Fr.nil n0
  have pre0 : ∀ t, Steps p.tables e below (s₁.setTop (mkF m 0 #[.val (.int p1)] [])) t → Steps p.tables e below (s₁.setTop (entryFrame m #[(.int p1)] 1)) t := fun t k => castTop (ef_1 m p1) k
  obtain ⟨_, _, ⟨T2, L2, k2, n2⟩, -, X2, ⟨Lc2, hQ2, l2, y2, z2⟩, st2⟩ := Jvm.LawKit.callS X0 hx (y := (⟨"com/example/boxes_into_chains/boxesintochains/Lexer", "isLetter", "(C)Z"⟩ : MethodName)) hown (mvT hZ (hw _ (List.mem_of_getElem? (i := 4) rfl))) (mvT hZ (hw _ (List.mem_of_getElem? (i := 5) rfl))) (mvT hZ (hw _ (List.mem_of_getElem? (i := 2) rfl))) (mvT hZ (hw _ (List.mem_of_getElem? (i := 6) rfl))) (by decide) (backOf (W := 0) (rm2 l Z a0 hw [] p1 h0 n0 Z0) hZ (hw _ (List.mem_of_getElem? (i := 6) rfl)) (hw _ (List.mem_of_getElem? (i := 2) rfl)) (by decide) (by decide)) (g := (mkF m 1 #[.val (.int p1)] [(.int p1)])) rfl (by rw [hml]; rfl) (argsL := [(.int p1)]) (rest := []) (lenOf pd_1_0 rfl) rfl (by show 2 * 0 + _ ≤ _; exact Nat.le_of_eq rfl) (hb hby d1_1) (fun _ _ => ⟨rfl, e0, (by decide : 0 + 0 ≤ _), (by decide : 0 + 0 ≤ _)⟩)
  dsimp only [Pt.U, Pt.locs, Pt.cells, Pt.slots] at X2 l2 y2 z2 st2 hQ2
  subst l2 y2 z2
  obtain ⟨rfl, N2q, e2⟩ := hQ2
  have N2 := Fr.app N0 N2q
  obtain ⟨_, _, ⟨T3, L3, k3, n3⟩, -, X3, ⟨Lc3, hQ3, l3, y3, z3⟩, st3⟩ := Jvm.LawKit.callS X2 hx (y := (⟨"com/example/boxes_into_chains/boxesintochains/Lexer", "isDigit", "(C)Z"⟩ : MethodName)) hown (mvT hZ (hw _ (List.mem_of_getElem? (i := 7) rfl))) (mvT hZ (hw _ (List.mem_of_getElem? (i := 8) rfl))) (mvT hZ (hw _ (List.mem_of_getElem? (i := 2) rfl))) (mvT hZ (hw _ (List.mem_of_getElem? (i := 9) rfl))) (by decide) (backOf (W := 0) (rm3 l Z a0 hw [] p1 h0 n0 Z0) hZ (hw _ (List.mem_of_getElem? (i := 9) rfl)) (hw _ (List.mem_of_getElem? (i := 2) rfl)) (by decide) (by decide)) (g := (mkF m 8 #[.val (.int p1)] [(.int p1)])) rfl (by rw [hml]; rfl) (argsL := [(.int p1)]) (rest := []) (lenOf pd_1_0 rfl) rfl (by show 2 * 0 + _ ≤ _; exact Nat.le_of_eq rfl) (hb hby d1_8) (fun _ _ => ⟨rfl, e2, (by decide : 0 + 0 ≤ _), (by decide : 0 + 0 ≤ _)⟩)
  dsimp only [Pt.U, Pt.locs, Pt.cells, Pt.slots] at X3 l3 y3 z3 st3 hQ3
  subst l3 y3 z3
  obtain ⟨rfl, N3q, e3⟩ := hQ3
  have N3 := Fr.app N2 N3q
  obtain ⟨fs, hr, hrun, hended, hW, hsame⟩ := X3.leave (v := some (.int (1 : Int32))) (fun h => by rw [Bd.returns] at h; cases h)
  refine ⟨_, _, pre0 _ ?_, hrun, hended, _, _, rfl, ?_, ⟨_, rfl⟩, hW, hsame.mono (by decide) (by decide)⟩
  · show Steps p.tables e below (s₁.setTop (mkF m 0 #[.val (.int p1)] [])) _
    refine XS.iloadN X0.here hx rfl (hb hby d1_0) rfl ?_
    show Steps p.tables e below (s₁.setTop (mkF m 1 #[.val (.int p1)] [(.int p1)])) _
    refine st2 _ ?_
    show Steps p.tables e below (T2.setTop (mkF m 4 #[.val (.int p1)] [(.int (own_L p1))])) _
    refine XS.ifNo X2.here hx rfl (hb hby d1_4) rfl ((if0 _ _).trans (teq hL).2) ?_
    show Steps p.tables e below (T2.setTop (mkF m 7 #[.val (.int p1)] [])) _
    refine XS.iloadN X2.here hx rfl (hb hby d1_7) rfl ?_
    show Steps p.tables e below (T2.setTop (mkF m 8 #[.val (.int p1)] [(.int p1)])) _
    refine st3 _ ?_
    show Steps p.tables e below (T3.setTop (mkF m 11 #[.val (.int p1)] [(.int (own_D p1))])) _
    refine XS.ifYes X3.here hx rfl (pc0 := 11) (pc' := 20) rfl (hb hby d1_11) rfl ((if0 _ _).trans (feq hD).2) (by decide) (by decide) ?_
    show Steps p.tables e below (T3.setTop (mkF m 20 #[.val (.int p1)] [])) _
    refine XS.iconst X3.here hx rfl (hb hby d1_20) ?_
    show Steps p.tables e below (T3.setTop (mkF m 21 #[.val (.int p1)] [(.int (1 : Int32))])) _
    refine XS.goto X3.here hx rfl (pc0 := 21) (pc' := 25) rfl (hb hby d1_21) (by decide) (by decide) ?_
    show Steps p.tables e below (T3.setTop (mkF m 25 #[.val (.int p1)] [(.int (1 : Int32))])) _
    exact retN X3 hx (t := .boolean) Bd.returns (by simp) (hb hby d1_25) hr
  · show Q1 Z p1 (1 : Int32) h0 n0 _ T3.heap _
    exact ⟨rfl, N3, e3⟩
set_option maxRecDepth 65536 in
set_option maxHeartbeats 40000000 in
theorem own_rm1_fff (l : Launch) (Z : State) (a0 : Array Value) (hw : ∀ d ∈ tables_1, d.before a0 Z = true) (ws : List Jvm.Cond) (p1 : Int32) (h0 : Heap) (n0 : Nat) (Z0 : n0 ≤ h0.size) (hL : own_L p1 = 0) (hD : own_D p1 = 0) (hc17 : p1 = (95 : Int32)) :
    MetFree l (⟨"com/example/boxes_into_chains/boxesintochains/Lexer", "continuesName", "(C)Z"⟩ : MethodName) (head1 (Jvm.Cond.code (⟨"com/example/boxes_into_chains/boxesintochains/Lexer", "continuesName", "(C)Z"⟩ : MethodName) prog_36_method_8_code 1 (some .boolean) :: ws) ({ frames := 1, cells := 0, slots := 0, locals := 12 } : Room)) (fun a U => a = #[(.int p1)] ∧ Z.Warmed39 U.vm ∧ U.heap = h0) (fun _ _ _ _ _ => True) (fun _ U o U' => ∃ v L, o = .returned v ∧ Q1 Z p1 (1 : Int32) h0 n0 v U'.heap L ∧ FrameEnd U o U' L ({ frames := 1, cells := 0, slots := 0, locals := 12 } : Room).cells ({ frames := 1, cells := 0, slots := 0, locals := 12 } : Room).slots) := by
  refine MetFree.of_bodySF (plainFor_of_name pn_1) hisR ?_
  intro p e s m args below meth c s₁ Bd hml0 hP hK
  obtain ⟨rfl, hZ, hh⟩ := hP
  have hx := Bd.exec
  have hby := Bd.bytes
  have hml : c.maxLocals = 1 := hml0
  have hown : s.vm.findClass "com/example/boxes_into_chains/boxesintochains/Lexer" = some m.cls := findClass_of_methodNamed Bd.named
  have hnm := (name_of_methodNamed Bd.named Bd.method).1
  have X0 : Stand p l e ({ frames := 1, cells := 0, slots := 0, locals := 12 } : Room) s m #[(.int p1)] below meth c s₁ [] 0 0 := Stand.of_body Bd
  have e0 : s₁.heap = h0 := by rw [← hh, Bd.state]; rfl
  have N0 := Fr.nil n0
  have pre0 : ∀ t, Steps p.tables e below (s₁.setTop (mkF m 0 #[.val (.int p1)] [])) t → Steps p.tables e below (s₁.setTop (entryFrame m #[(.int p1)] 1)) t := fun t k => castTop (ef_1 m p1) k
  obtain ⟨_, _, ⟨T2, L2, k2, n2⟩, -, X2, ⟨Lc2, hQ2, l2, y2, z2⟩, st2⟩ := Jvm.LawKit.callS X0 hx (y := (⟨"com/example/boxes_into_chains/boxesintochains/Lexer", "isLetter", "(C)Z"⟩ : MethodName)) hown (mvT hZ (hw _ (List.mem_of_getElem? (i := 4) rfl))) (mvT hZ (hw _ (List.mem_of_getElem? (i := 5) rfl))) (mvT hZ (hw _ (List.mem_of_getElem? (i := 2) rfl))) (mvT hZ (hw _ (List.mem_of_getElem? (i := 6) rfl))) (by decide) (backOf (W := 0) (rm2 l Z a0 hw [] p1 h0 n0 Z0) hZ (hw _ (List.mem_of_getElem? (i := 6) rfl)) (hw _ (List.mem_of_getElem? (i := 2) rfl)) (by decide) (by decide)) (g := (mkF m 1 #[.val (.int p1)] [(.int p1)])) rfl (by rw [hml]; rfl) (argsL := [(.int p1)]) (rest := []) (lenOf pd_1_0 rfl) rfl (by show 2 * 0 + _ ≤ _; exact Nat.le_of_eq rfl) (hb hby d1_1) (fun _ _ => ⟨rfl, e0, (by decide : 0 + 0 ≤ _), (by decide : 0 + 0 ≤ _)⟩)
  dsimp only [Pt.U, Pt.locs, Pt.cells, Pt.slots] at X2 l2 y2 z2 st2 hQ2
  subst l2 y2 z2
  obtain ⟨rfl, N2q, e2⟩ := hQ2
  have N2 := Fr.app N0 N2q
  obtain ⟨_, _, ⟨T3, L3, k3, n3⟩, -, X3, ⟨Lc3, hQ3, l3, y3, z3⟩, st3⟩ := Jvm.LawKit.callS X2 hx (y := (⟨"com/example/boxes_into_chains/boxesintochains/Lexer", "isDigit", "(C)Z"⟩ : MethodName)) hown (mvT hZ (hw _ (List.mem_of_getElem? (i := 7) rfl))) (mvT hZ (hw _ (List.mem_of_getElem? (i := 8) rfl))) (mvT hZ (hw _ (List.mem_of_getElem? (i := 2) rfl))) (mvT hZ (hw _ (List.mem_of_getElem? (i := 9) rfl))) (by decide) (backOf (W := 0) (rm3 l Z a0 hw [] p1 h0 n0 Z0) hZ (hw _ (List.mem_of_getElem? (i := 9) rfl)) (hw _ (List.mem_of_getElem? (i := 2) rfl)) (by decide) (by decide)) (g := (mkF m 8 #[.val (.int p1)] [(.int p1)])) rfl (by rw [hml]; rfl) (argsL := [(.int p1)]) (rest := []) (lenOf pd_1_0 rfl) rfl (by show 2 * 0 + _ ≤ _; exact Nat.le_of_eq rfl) (hb hby d1_8) (fun _ _ => ⟨rfl, e2, (by decide : 0 + 0 ≤ _), (by decide : 0 + 0 ≤ _)⟩)
  dsimp only [Pt.U, Pt.locs, Pt.cells, Pt.slots] at X3 l3 y3 z3 st3 hQ3
  subst l3 y3 z3
  obtain ⟨rfl, N3q, e3⟩ := hQ3
  have N3 := Fr.app N2 N3q
  obtain ⟨fs, hr, hrun, hended, hW, hsame⟩ := X3.leave (v := some (.int (1 : Int32))) (fun h => by rw [Bd.returns] at h; cases h)
  refine ⟨_, _, pre0 _ ?_, hrun, hended, _, _, rfl, ?_, ⟨_, rfl⟩, hW, hsame.mono (by decide) (by decide)⟩
  · show Steps p.tables e below (s₁.setTop (mkF m 0 #[.val (.int p1)] [])) _
    refine XS.iloadN X0.here hx rfl (hb hby d1_0) rfl ?_
    show Steps p.tables e below (s₁.setTop (mkF m 1 #[.val (.int p1)] [(.int p1)])) _
    refine st2 _ ?_
    show Steps p.tables e below (T2.setTop (mkF m 4 #[.val (.int p1)] [(.int (own_L p1))])) _
    refine XS.ifNo X2.here hx rfl (hb hby d1_4) rfl ((if0 _ _).trans (teq hL).2) ?_
    show Steps p.tables e below (T2.setTop (mkF m 7 #[.val (.int p1)] [])) _
    refine XS.iloadN X2.here hx rfl (hb hby d1_7) rfl ?_
    show Steps p.tables e below (T2.setTop (mkF m 8 #[.val (.int p1)] [(.int p1)])) _
    refine st3 _ ?_
    show Steps p.tables e below (T3.setTop (mkF m 11 #[.val (.int p1)] [(.int (own_D p1))])) _
    refine XS.ifNo X3.here hx rfl (hb hby d1_11) rfl ((if0 _ _).trans (teq hD).2) ?_
    show Steps p.tables e below (T3.setTop (mkF m 14 #[.val (.int p1)] [])) _
    refine XS.iloadN X3.here hx rfl (hb hby d1_14) rfl ?_
    show Steps p.tables e below (T3.setTop (mkF m 15 #[.val (.int p1)] [(.int p1)])) _
    refine XS.bipush X3.here hx rfl (hb hby d1_15) ?_
    show Steps p.tables e below (T3.setTop (mkF m 17 #[.val (.int p1)] [(.int (95 : Int32)), (.int p1)])) _
    refine XS.icmpNo X3.here hx rfl (hb hby d1_17) rfl (teq hc17).2 ?_
    show Steps p.tables e below (T3.setTop (mkF m 20 #[.val (.int p1)] [])) _
    refine XS.iconst X3.here hx rfl (hb hby d1_20) ?_
    show Steps p.tables e below (T3.setTop (mkF m 21 #[.val (.int p1)] [(.int (1 : Int32))])) _
    refine XS.goto X3.here hx rfl (pc0 := 21) (pc' := 25) rfl (hb hby d1_21) (by decide) (by decide) ?_
    show Steps p.tables e below (T3.setTop (mkF m 25 #[.val (.int p1)] [(.int (1 : Int32))])) _
    exact retN X3 hx (t := .boolean) Bd.returns (by simp) (hb hby d1_25) hr
  · show Q1 Z p1 (1 : Int32) h0 n0 _ T3.heap _
    exact ⟨rfl, N3, e3⟩
set_option maxRecDepth 65536 in
set_option maxHeartbeats 40000000 in
theorem own_rm1_fft (l : Launch) (Z : State) (a0 : Array Value) (hw : ∀ d ∈ tables_1, d.before a0 Z = true) (ws : List Jvm.Cond) (p1 : Int32) (h0 : Heap) (n0 : Nat) (Z0 : n0 ≤ h0.size) (hL : own_L p1 = 0) (hD : own_D p1 = 0) (hc17 : ¬ (p1 = (95 : Int32))) :
    MetFree l (⟨"com/example/boxes_into_chains/boxesintochains/Lexer", "continuesName", "(C)Z"⟩ : MethodName) (head1 (Jvm.Cond.code (⟨"com/example/boxes_into_chains/boxesintochains/Lexer", "continuesName", "(C)Z"⟩ : MethodName) prog_36_method_8_code 1 (some .boolean) :: ws) ({ frames := 1, cells := 0, slots := 0, locals := 12 } : Room)) (fun a U => a = #[(.int p1)] ∧ Z.Warmed39 U.vm ∧ U.heap = h0) (fun _ _ _ _ _ => True) (fun _ U o U' => ∃ v L, o = .returned v ∧ Q1 Z p1 (0 : Int32) h0 n0 v U'.heap L ∧ FrameEnd U o U' L ({ frames := 1, cells := 0, slots := 0, locals := 12 } : Room).cells ({ frames := 1, cells := 0, slots := 0, locals := 12 } : Room).slots) := by
  refine MetFree.of_bodySF (plainFor_of_name pn_1) hisR ?_
  intro p e s m args below meth c s₁ Bd hml0 hP hK
  obtain ⟨rfl, hZ, hh⟩ := hP
  have hx := Bd.exec
  have hby := Bd.bytes
  have hml : c.maxLocals = 1 := hml0
  have hown : s.vm.findClass "com/example/boxes_into_chains/boxesintochains/Lexer" = some m.cls := findClass_of_methodNamed Bd.named
  have hnm := (name_of_methodNamed Bd.named Bd.method).1
  have X0 : Stand p l e ({ frames := 1, cells := 0, slots := 0, locals := 12 } : Room) s m #[(.int p1)] below meth c s₁ [] 0 0 := Stand.of_body Bd
  have e0 : s₁.heap = h0 := by rw [← hh, Bd.state]; rfl
  have N0 := Fr.nil n0
  have pre0 : ∀ t, Steps p.tables e below (s₁.setTop (mkF m 0 #[.val (.int p1)] [])) t → Steps p.tables e below (s₁.setTop (entryFrame m #[(.int p1)] 1)) t := fun t k => castTop (ef_1 m p1) k
  obtain ⟨_, _, ⟨T2, L2, k2, n2⟩, -, X2, ⟨Lc2, hQ2, l2, y2, z2⟩, st2⟩ := Jvm.LawKit.callS X0 hx (y := (⟨"com/example/boxes_into_chains/boxesintochains/Lexer", "isLetter", "(C)Z"⟩ : MethodName)) hown (mvT hZ (hw _ (List.mem_of_getElem? (i := 4) rfl))) (mvT hZ (hw _ (List.mem_of_getElem? (i := 5) rfl))) (mvT hZ (hw _ (List.mem_of_getElem? (i := 2) rfl))) (mvT hZ (hw _ (List.mem_of_getElem? (i := 6) rfl))) (by decide) (backOf (W := 0) (rm2 l Z a0 hw [] p1 h0 n0 Z0) hZ (hw _ (List.mem_of_getElem? (i := 6) rfl)) (hw _ (List.mem_of_getElem? (i := 2) rfl)) (by decide) (by decide)) (g := (mkF m 1 #[.val (.int p1)] [(.int p1)])) rfl (by rw [hml]; rfl) (argsL := [(.int p1)]) (rest := []) (lenOf pd_1_0 rfl) rfl (by show 2 * 0 + _ ≤ _; exact Nat.le_of_eq rfl) (hb hby d1_1) (fun _ _ => ⟨rfl, e0, (by decide : 0 + 0 ≤ _), (by decide : 0 + 0 ≤ _)⟩)
  dsimp only [Pt.U, Pt.locs, Pt.cells, Pt.slots] at X2 l2 y2 z2 st2 hQ2
  subst l2 y2 z2
  obtain ⟨rfl, N2q, e2⟩ := hQ2
  have N2 := Fr.app N0 N2q
  obtain ⟨_, _, ⟨T3, L3, k3, n3⟩, -, X3, ⟨Lc3, hQ3, l3, y3, z3⟩, st3⟩ := Jvm.LawKit.callS X2 hx (y := (⟨"com/example/boxes_into_chains/boxesintochains/Lexer", "isDigit", "(C)Z"⟩ : MethodName)) hown (mvT hZ (hw _ (List.mem_of_getElem? (i := 7) rfl))) (mvT hZ (hw _ (List.mem_of_getElem? (i := 8) rfl))) (mvT hZ (hw _ (List.mem_of_getElem? (i := 2) rfl))) (mvT hZ (hw _ (List.mem_of_getElem? (i := 9) rfl))) (by decide) (backOf (W := 0) (rm3 l Z a0 hw [] p1 h0 n0 Z0) hZ (hw _ (List.mem_of_getElem? (i := 9) rfl)) (hw _ (List.mem_of_getElem? (i := 2) rfl)) (by decide) (by decide)) (g := (mkF m 8 #[.val (.int p1)] [(.int p1)])) rfl (by rw [hml]; rfl) (argsL := [(.int p1)]) (rest := []) (lenOf pd_1_0 rfl) rfl (by show 2 * 0 + _ ≤ _; exact Nat.le_of_eq rfl) (hb hby d1_8) (fun _ _ => ⟨rfl, e2, (by decide : 0 + 0 ≤ _), (by decide : 0 + 0 ≤ _)⟩)
  dsimp only [Pt.U, Pt.locs, Pt.cells, Pt.slots] at X3 l3 y3 z3 st3 hQ3
  subst l3 y3 z3
  obtain ⟨rfl, N3q, e3⟩ := hQ3
  have N3 := Fr.app N2 N3q
  obtain ⟨fs, hr, hrun, hended, hW, hsame⟩ := X3.leave (v := some (.int (0 : Int32))) (fun h => by rw [Bd.returns] at h; cases h)
  refine ⟨_, _, pre0 _ ?_, hrun, hended, _, _, rfl, ?_, ⟨_, rfl⟩, hW, hsame.mono (by decide) (by decide)⟩
  · show Steps p.tables e below (s₁.setTop (mkF m 0 #[.val (.int p1)] [])) _
    refine XS.iloadN X0.here hx rfl (hb hby d1_0) rfl ?_
    show Steps p.tables e below (s₁.setTop (mkF m 1 #[.val (.int p1)] [(.int p1)])) _
    refine st2 _ ?_
    show Steps p.tables e below (T2.setTop (mkF m 4 #[.val (.int p1)] [(.int (own_L p1))])) _
    refine XS.ifNo X2.here hx rfl (hb hby d1_4) rfl ((if0 _ _).trans (teq hL).2) ?_
    show Steps p.tables e below (T2.setTop (mkF m 7 #[.val (.int p1)] [])) _
    refine XS.iloadN X2.here hx rfl (hb hby d1_7) rfl ?_
    show Steps p.tables e below (T2.setTop (mkF m 8 #[.val (.int p1)] [(.int p1)])) _
    refine st3 _ ?_
    show Steps p.tables e below (T3.setTop (mkF m 11 #[.val (.int p1)] [(.int (own_D p1))])) _
    refine XS.ifNo X3.here hx rfl (hb hby d1_11) rfl ((if0 _ _).trans (teq hD).2) ?_
    show Steps p.tables e below (T3.setTop (mkF m 14 #[.val (.int p1)] [])) _
    refine XS.iloadN X3.here hx rfl (hb hby d1_14) rfl ?_
    show Steps p.tables e below (T3.setTop (mkF m 15 #[.val (.int p1)] [(.int p1)])) _
    refine XS.bipush X3.here hx rfl (hb hby d1_15) ?_
    show Steps p.tables e below (T3.setTop (mkF m 17 #[.val (.int p1)] [(.int (95 : Int32)), (.int p1)])) _
    refine XS.icmpYes X3.here hx rfl (pc0 := 17) (pc' := 24) rfl (hb hby d1_17) rfl (feq hc17).2 (by decide) (by decide) ?_
    show Steps p.tables e below (T3.setTop (mkF m 24 #[.val (.int p1)] [])) _
    refine XS.iconst X3.here hx rfl (hb hby d1_24) ?_
    show Steps p.tables e below (T3.setTop (mkF m 25 #[.val (.int p1)] [(.int (0 : Int32))])) _
    exact retN X3 hx (t := .boolean) Bd.returns (by simp) (hb hby d1_25) hr
  · show Q1 Z p1 (0 : Int32) h0 n0 _ T3.heap _
    exact ⟨rfl, N3, e3⟩
theorem rm1 (l : Launch) (Z : State) (a0 : Array Value) (hw : ∀ d ∈ tables_1, d.before a0 Z = true) (ws : List Jvm.Cond) (p1 : Int32) (h0 : Heap) (n0 : Nat) (Z0 : n0 ≤ h0.size) :
    MetFree l (⟨"com/example/boxes_into_chains/boxesintochains/Lexer", "continuesName", "(C)Z"⟩ : MethodName) (head1 (Jvm.Cond.code (⟨"com/example/boxes_into_chains/boxesintochains/Lexer", "continuesName", "(C)Z"⟩ : MethodName) prog_36_method_8_code 1 (some .boolean) :: ws) ({ frames := 1, cells := 0, slots := 0, locals := 12 } : Room)) (fun a U => a = #[(.int p1)] ∧ Z.Warmed39 U.vm ∧ U.heap = h0) (fun _ _ _ _ _ => True) (fun _ U o U' => ∃ v L, o = .returned v ∧ Q1 Z p1 (own_N p1) h0 n0 v U'.heap L ∧ FrameEnd U o U' L ({ frames := 1, cells := 0, slots := 0, locals := 12 } : Room).cells ({ frames := 1, cells := 0, slots := 0, locals := 12 } : Room).slots) := by
  by_cases hL : own_L p1 = 0
  · by_cases hD : own_D p1 = 0
    · by_cases hc17 : p1 = (95 : Int32)
      · rw [show own_N p1 = 1 by rw [own_N, if_pos hL, if_pos hD, if_pos hc17]]; exact own_rm1_fff l Z a0 hw ws p1 h0 n0 Z0 hL hD hc17
      · rw [show own_N p1 = 0 by rw [own_N, if_pos hL, if_pos hD, if_neg hc17]]; exact own_rm1_fft l Z a0 hw ws p1 h0 n0 Z0 hL hD hc17
    · rw [show own_N p1 = 1 by rw [own_N, if_pos hL, if_neg hD]]; exact own_rm1_ft l Z a0 hw ws p1 h0 n0 Z0 hL hD
  · rw [show own_N p1 = 1 by rw [own_N, if_neg hL]]; exact own_rm1_t l Z a0 hw ws p1 h0 n0 Z0 hL
theorem ef_0 (m : MethodId) (x0 : Int32) : entryFrame m #[(.int x0)] maxLocals = mkF m 0 #[.val (.int x0), .unset, .unset, .unset, .unset, .unset, .unset, .unset, .unset] [] := by first | (simp [entryFrame, mkF, argsToLocals, Value.category, maxLocals]; done) | rfl
theorem pd_0_0 : parseMethodDescriptor "(C)Z" = some ⟨[.char], some .boolean⟩ := by decide +kernel
theorem pn_0 : plainName "com/example/boxes_into_chains/boxesintochains/LexerContinuesNamePinLaw" = true := by first | (simp [plainName, overriddenIn]; done) | decide +kernel
def own_c (p1 : Int32) : Int32 := (p1.toUInt32.toUInt16.toUInt32.toInt32)
def Q0 (Z : State) (p1 : Int32) (h0 : Heap) (n0 : Nat) (v : Option Value) (h : Heap) (L : List Loc) : Prop := v = some (.int (1 : Int32)) ∧ Fr n0 L
set_option maxRecDepth 65536 in
set_option maxHeartbeats 40000000 in
theorem own_rm0_tttfftf (l : Launch) (Z : State) (a0 : Array Value) (hw : ∀ d ∈ tables_1, d.before a0 Z = true) (ws : List Jvm.Cond) (p1 : Int32) (h0 : Heap) (n0 : Nat) (Z0 : n0 ≤ h0.size) (hB : own_N (own_c p1) = (0 : Int32)) (hc13 : ((own_c p1) ||| (32 : Int32)) < (97 : Int32)) (hc37 : ((own_c p1) - (48 : Int32)) < (0 : Int32)) (hc57 : ¬ ((own_c p1) = (95 : Int32))) :
    MetFree l x (head1 (Jvm.Cond.code x code maxLocals ret :: ws) room_1) (fun a U => a = #[(.int p1)] ∧ Z.Warmed39 U.vm ∧ U.heap = h0) (fun _ _ _ _ _ => True) (fun _ U o U' => ∃ v L, o = .returned v ∧ Q0 Z p1 h0 n0 v U'.heap L ∧ FrameEnd U o U' L room_1.cells room_1.slots) := by
  refine MetFree.of_bodySF (plainFor_of_name pn_0) hisR ?_
  intro p e s m args below meth c s₁ Bd hml0 hP hK
  obtain ⟨rfl, hZ, hh⟩ := hP
  have hx := Bd.exec
  have hby := Bd.bytes
  have hml : c.maxLocals = 9 := hml0
  have hown : s.vm.findClass "com/example/boxes_into_chains/boxesintochains/LexerContinuesNamePinLaw" = some m.cls := findClass_of_methodNamed Bd.named
  have hnm := (name_of_methodNamed Bd.named Bd.method).1
  have X0 : Stand p l e room_1 s m #[(.int p1)] below meth c s₁ [] 0 0 := Stand.of_body Bd
  have e0 : s₁.heap = h0 := by rw [← hh, Bd.state]; rfl
  have N0 := Fr.nil n0
  have pre0 : ∀ t, Steps p.tables e below (s₁.setTop (mkF m 0 #[.val (.int p1), .unset, .unset, .unset, .unset, .unset, .unset, .unset, .unset] [])) t → Steps p.tables e below (s₁.setTop (entryFrame m #[(.int p1)] maxLocals)) t := fun t k => castTop (ef_0 m p1) k
  obtain ⟨_, _, ⟨T2, L2, k2, n2⟩, -, X2, ⟨Lc2, hQ2, l2, y2, z2⟩, st2⟩ := Jvm.LawKit.callS X0 hx (y := (⟨"com/example/boxes_into_chains/boxesintochains/Lexer", "continuesName", "(C)Z"⟩ : MethodName)) hown (mvT hZ (hw _ (List.mem_of_getElem? (i := 0) rfl))) (mvT hZ (hw _ (List.mem_of_getElem? (i := 1) rfl))) (mvT hZ (hw _ (List.mem_of_getElem? (i := 2) rfl))) (mvT hZ (hw _ (List.mem_of_getElem? (i := 3) rfl))) (by decide) (backOf (W := 0) (rm1 l Z a0 hw [] (own_c p1) h0 n0 Z0) hZ (hw _ (List.mem_of_getElem? (i := 3) rfl)) (hw _ (List.mem_of_getElem? (i := 2) rfl)) (by decide) (by decide)) (g := (mkF m 90 #[.val (.int p1), .val (.int (own_c p1)), .val (.int (own_c p1)), .val (.int ((own_c p1) ||| (32 : Int32))), .val (.int (0 : Int32)), .val (.int ((own_c p1) - (48 : Int32))), .val (.int (0 : Int32)), .val (.int (0 : Int32)), .val (.int (0 : Int32))] [(.int (own_c p1))])) rfl (by rw [hml]; rfl) (argsL := [(.int (own_c p1))]) (rest := []) (lenOf pd_0_0 rfl) rfl (by show 2 * 0 + _ ≤ _; exact Nat.le_of_eq rfl) (hb hby at_90) (fun _ _ => ⟨rfl, e0, (by decide : 0 + 0 ≤ _), (by decide : 0 + 0 ≤ _)⟩)
  dsimp only [Pt.U, Pt.locs, Pt.cells, Pt.slots] at X2 l2 y2 z2 st2 hQ2
  subst l2 y2 z2
  obtain ⟨rfl, N2q, e2⟩ := hQ2
  have N2 := Fr.app N0 N2q
  obtain ⟨fs, hr, hrun, hended, hW, hsame⟩ := X2.leave (v := some (.int (1 : Int32))) (fun h => by rw [Bd.returns] at h; cases h)
  refine ⟨_, _, pre0 _ ?_, hrun, hended, _, _, rfl, ?_, ⟨_, rfl⟩, hW, hsame.mono (by decide) (by decide)⟩
  · show Steps p.tables e below (s₁.setTop (mkF m 0 #[.val (.int p1), .unset, .unset, .unset, .unset, .unset, .unset, .unset, .unset] [])) _
    refine XS.iloadN X0.here hx rfl (hb hby at_0) rfl ?_
    show Steps p.tables e below (s₁.setTop (mkF m 1 #[.val (.int p1), .unset, .unset, .unset, .unset, .unset, .unset, .unset, .unset] [(.int p1)])) _
    refine XS.i2c X0.here hx rfl (hb hby at_1) rfl ?_
    show Steps p.tables e below (s₁.setTop (mkF m 2 #[.val (.int p1), .unset, .unset, .unset, .unset, .unset, .unset, .unset, .unset] [(.int (own_c p1))])) _
    refine XS.istoreN X0.here hx rfl (hb hby at_2) rfl (l' := #[.val (.int p1), .val (.int (own_c p1)), .unset, .unset, .unset, .unset, .unset, .unset, .unset]) rfl ?_
    show Steps p.tables e below (s₁.setTop (mkF m 3 #[.val (.int p1), .val (.int (own_c p1)), .unset, .unset, .unset, .unset, .unset, .unset, .unset] [])) _
    refine XS.iloadN X0.here hx rfl (hb hby at_3) rfl ?_
    show Steps p.tables e below (s₁.setTop (mkF m 4 #[.val (.int p1), .val (.int (own_c p1)), .unset, .unset, .unset, .unset, .unset, .unset, .unset] [(.int (own_c p1))])) _
    refine XS.istoreN X0.here hx rfl (hb hby at_4) rfl (l' := #[.val (.int p1), .val (.int (own_c p1)), .val (.int (own_c p1)), .unset, .unset, .unset, .unset, .unset, .unset]) rfl ?_
    show Steps p.tables e below (s₁.setTop (mkF m 5 #[.val (.int p1), .val (.int (own_c p1)), .val (.int (own_c p1)), .unset, .unset, .unset, .unset, .unset, .unset] [])) _
    refine XS.iloadN X0.here hx rfl (hb hby at_5) rfl ?_
    show Steps p.tables e below (s₁.setTop (mkF m 6 #[.val (.int p1), .val (.int (own_c p1)), .val (.int (own_c p1)), .unset, .unset, .unset, .unset, .unset, .unset] [(.int (own_c p1))])) _
    refine XS.bipush X0.here hx rfl (hb hby at_6) ?_
    show Steps p.tables e below (s₁.setTop (mkF m 8 #[.val (.int p1), .val (.int (own_c p1)), .val (.int (own_c p1)), .unset, .unset, .unset, .unset, .unset, .unset] [(.int (32 : Int32)), (.int (own_c p1))])) _
    refine XS.ior X0.here hx rfl (hb hby at_8) rfl ?_
    show Steps p.tables e below (s₁.setTop (mkF m 9 #[.val (.int p1), .val (.int (own_c p1)), .val (.int (own_c p1)), .unset, .unset, .unset, .unset, .unset, .unset] [(.int ((own_c p1) ||| (32 : Int32)))])) _
    refine XS.istoreN X0.here hx rfl (hb hby at_9) rfl (l' := #[.val (.int p1), .val (.int (own_c p1)), .val (.int (own_c p1)), .val (.int ((own_c p1) ||| (32 : Int32))), .unset, .unset, .unset, .unset, .unset]) rfl ?_
    show Steps p.tables e below (s₁.setTop (mkF m 10 #[.val (.int p1), .val (.int (own_c p1)), .val (.int (own_c p1)), .val (.int ((own_c p1) ||| (32 : Int32))), .unset, .unset, .unset, .unset, .unset] [])) _
    refine XS.iloadN X0.here hx rfl (hb hby at_10) rfl ?_
    show Steps p.tables e below (s₁.setTop (mkF m 11 #[.val (.int p1), .val (.int (own_c p1)), .val (.int (own_c p1)), .val (.int ((own_c p1) ||| (32 : Int32))), .unset, .unset, .unset, .unset, .unset] [(.int ((own_c p1) ||| (32 : Int32)))])) _
    refine XS.bipush X0.here hx rfl (hb hby at_11) ?_
    show Steps p.tables e below (s₁.setTop (mkF m 13 #[.val (.int p1), .val (.int (own_c p1)), .val (.int (own_c p1)), .val (.int ((own_c p1) ||| (32 : Int32))), .unset, .unset, .unset, .unset, .unset] [(.int (97 : Int32)), (.int ((own_c p1) ||| (32 : Int32)))])) _
    refine XS.icmpYes X0.here hx rfl (pc0 := 13) (pc' := 26) rfl (hb hby at_13) rfl (tlt hc13).1 (by decide) (by decide) ?_
    show Steps p.tables e below (s₁.setTop (mkF m 26 #[.val (.int p1), .val (.int (own_c p1)), .val (.int (own_c p1)), .val (.int ((own_c p1) ||| (32 : Int32))), .unset, .unset, .unset, .unset, .unset] [])) _
    refine XS.iconst X0.here hx rfl (hb hby at_26) ?_
    show Steps p.tables e below (s₁.setTop (mkF m 27 #[.val (.int p1), .val (.int (own_c p1)), .val (.int (own_c p1)), .val (.int ((own_c p1) ||| (32 : Int32))), .unset, .unset, .unset, .unset, .unset] [(.int (0 : Int32))])) _
    refine XS.istore X0.here hx rfl (hb hby at_27) rfl (l' := #[.val (.int p1), .val (.int (own_c p1)), .val (.int (own_c p1)), .val (.int ((own_c p1) ||| (32 : Int32))), .val (.int (0 : Int32)), .unset, .unset, .unset, .unset]) rfl ?_
    show Steps p.tables e below (s₁.setTop (mkF m 29 #[.val (.int p1), .val (.int (own_c p1)), .val (.int (own_c p1)), .val (.int ((own_c p1) ||| (32 : Int32))), .val (.int (0 : Int32)), .unset, .unset, .unset, .unset] [])) _
    refine XS.iloadN X0.here hx rfl (hb hby at_29) rfl ?_
    show Steps p.tables e below (s₁.setTop (mkF m 30 #[.val (.int p1), .val (.int (own_c p1)), .val (.int (own_c p1)), .val (.int ((own_c p1) ||| (32 : Int32))), .val (.int (0 : Int32)), .unset, .unset, .unset, .unset] [(.int (own_c p1))])) _
    refine XS.bipush X0.here hx rfl (hb hby at_30) ?_
    show Steps p.tables e below (s₁.setTop (mkF m 32 #[.val (.int p1), .val (.int (own_c p1)), .val (.int (own_c p1)), .val (.int ((own_c p1) ||| (32 : Int32))), .val (.int (0 : Int32)), .unset, .unset, .unset, .unset] [(.int (48 : Int32)), (.int (own_c p1))])) _
    refine XS.isub X0.here hx rfl (hb hby at_32) rfl ?_
    show Steps p.tables e below (s₁.setTop (mkF m 33 #[.val (.int p1), .val (.int (own_c p1)), .val (.int (own_c p1)), .val (.int ((own_c p1) ||| (32 : Int32))), .val (.int (0 : Int32)), .unset, .unset, .unset, .unset] [(.int ((own_c p1) - (48 : Int32)))])) _
    refine XS.istore X0.here hx rfl (hb hby at_33) rfl (l' := #[.val (.int p1), .val (.int (own_c p1)), .val (.int (own_c p1)), .val (.int ((own_c p1) ||| (32 : Int32))), .val (.int (0 : Int32)), .val (.int ((own_c p1) - (48 : Int32))), .unset, .unset, .unset]) rfl ?_
    show Steps p.tables e below (s₁.setTop (mkF m 35 #[.val (.int p1), .val (.int (own_c p1)), .val (.int (own_c p1)), .val (.int ((own_c p1) ||| (32 : Int32))), .val (.int (0 : Int32)), .val (.int ((own_c p1) - (48 : Int32))), .unset, .unset, .unset] [])) _
    refine XS.iload X0.here hx rfl (hb hby at_35) rfl ?_
    show Steps p.tables e below (s₁.setTop (mkF m 37 #[.val (.int p1), .val (.int (own_c p1)), .val (.int (own_c p1)), .val (.int ((own_c p1) ||| (32 : Int32))), .val (.int (0 : Int32)), .val (.int ((own_c p1) - (48 : Int32))), .unset, .unset, .unset] [(.int ((own_c p1) - (48 : Int32)))])) _
    refine XS.ifYes X0.here hx rfl (pc0 := 37) (pc' := 51) rfl (hb hby at_37) rfl ((if0 _ _).trans (tlt hc37).1) (by decide) (by decide) ?_
    show Steps p.tables e below (s₁.setTop (mkF m 51 #[.val (.int p1), .val (.int (own_c p1)), .val (.int (own_c p1)), .val (.int ((own_c p1) ||| (32 : Int32))), .val (.int (0 : Int32)), .val (.int ((own_c p1) - (48 : Int32))), .unset, .unset, .unset] [])) _
    refine XS.iconst X0.here hx rfl (hb hby at_51) ?_
    show Steps p.tables e below (s₁.setTop (mkF m 52 #[.val (.int p1), .val (.int (own_c p1)), .val (.int (own_c p1)), .val (.int ((own_c p1) ||| (32 : Int32))), .val (.int (0 : Int32)), .val (.int ((own_c p1) - (48 : Int32))), .unset, .unset, .unset] [(.int (0 : Int32))])) _
    refine XS.istore X0.here hx rfl (hb hby at_52) rfl (l' := #[.val (.int p1), .val (.int (own_c p1)), .val (.int (own_c p1)), .val (.int ((own_c p1) ||| (32 : Int32))), .val (.int (0 : Int32)), .val (.int ((own_c p1) - (48 : Int32))), .val (.int (0 : Int32)), .unset, .unset]) rfl ?_
    show Steps p.tables e below (s₁.setTop (mkF m 54 #[.val (.int p1), .val (.int (own_c p1)), .val (.int (own_c p1)), .val (.int ((own_c p1) ||| (32 : Int32))), .val (.int (0 : Int32)), .val (.int ((own_c p1) - (48 : Int32))), .val (.int (0 : Int32)), .unset, .unset] [])) _
    refine XS.iloadN X0.here hx rfl (hb hby at_54) rfl ?_
    show Steps p.tables e below (s₁.setTop (mkF m 55 #[.val (.int p1), .val (.int (own_c p1)), .val (.int (own_c p1)), .val (.int ((own_c p1) ||| (32 : Int32))), .val (.int (0 : Int32)), .val (.int ((own_c p1) - (48 : Int32))), .val (.int (0 : Int32)), .unset, .unset] [(.int (own_c p1))])) _
    refine XS.bipush X0.here hx rfl (hb hby at_55) ?_
    show Steps p.tables e below (s₁.setTop (mkF m 57 #[.val (.int p1), .val (.int (own_c p1)), .val (.int (own_c p1)), .val (.int ((own_c p1) ||| (32 : Int32))), .val (.int (0 : Int32)), .val (.int ((own_c p1) - (48 : Int32))), .val (.int (0 : Int32)), .unset, .unset] [(.int (95 : Int32)), (.int (own_c p1))])) _
    refine XS.icmpYes X0.here hx rfl (pc0 := 57) (pc' := 64) rfl (hb hby at_57) rfl (feq hc57).2 (by decide) (by decide) ?_
    show Steps p.tables e below (s₁.setTop (mkF m 64 #[.val (.int p1), .val (.int (own_c p1)), .val (.int (own_c p1)), .val (.int ((own_c p1) ||| (32 : Int32))), .val (.int (0 : Int32)), .val (.int ((own_c p1) - (48 : Int32))), .val (.int (0 : Int32)), .unset, .unset] [])) _
    refine XS.iconst X0.here hx rfl (hb hby at_64) ?_
    show Steps p.tables e below (s₁.setTop (mkF m 65 #[.val (.int p1), .val (.int (own_c p1)), .val (.int (own_c p1)), .val (.int ((own_c p1) ||| (32 : Int32))), .val (.int (0 : Int32)), .val (.int ((own_c p1) - (48 : Int32))), .val (.int (0 : Int32)), .unset, .unset] [(.int (0 : Int32))])) _
    refine XS.istore X0.here hx rfl (hb hby at_65) rfl (l' := #[.val (.int p1), .val (.int (own_c p1)), .val (.int (own_c p1)), .val (.int ((own_c p1) ||| (32 : Int32))), .val (.int (0 : Int32)), .val (.int ((own_c p1) - (48 : Int32))), .val (.int (0 : Int32)), .val (.int (0 : Int32)), .unset]) rfl ?_
    show Steps p.tables e below (s₁.setTop (mkF m 67 #[.val (.int p1), .val (.int (own_c p1)), .val (.int (own_c p1)), .val (.int ((own_c p1) ||| (32 : Int32))), .val (.int (0 : Int32)), .val (.int ((own_c p1) - (48 : Int32))), .val (.int (0 : Int32)), .val (.int (0 : Int32)), .unset] [])) _
    refine XS.iload X0.here hx rfl (hb hby at_67) rfl ?_
    show Steps p.tables e below (s₁.setTop (mkF m 69 #[.val (.int p1), .val (.int (own_c p1)), .val (.int (own_c p1)), .val (.int ((own_c p1) ||| (32 : Int32))), .val (.int (0 : Int32)), .val (.int ((own_c p1) - (48 : Int32))), .val (.int (0 : Int32)), .val (.int (0 : Int32)), .unset] [(.int (0 : Int32))])) _
    refine XS.ifNo X0.here hx rfl (hb hby at_69) rfl ((if0 _ _).trans (teq (rfl : (0 : Int32) = (0 : Int32))).2) ?_
    show Steps p.tables e below (s₁.setTop (mkF m 72 #[.val (.int p1), .val (.int (own_c p1)), .val (.int (own_c p1)), .val (.int ((own_c p1) ||| (32 : Int32))), .val (.int (0 : Int32)), .val (.int ((own_c p1) - (48 : Int32))), .val (.int (0 : Int32)), .val (.int (0 : Int32)), .unset] [])) _
    refine XS.iload X0.here hx rfl (hb hby at_72) rfl ?_
    show Steps p.tables e below (s₁.setTop (mkF m 74 #[.val (.int p1), .val (.int (own_c p1)), .val (.int (own_c p1)), .val (.int ((own_c p1) ||| (32 : Int32))), .val (.int (0 : Int32)), .val (.int ((own_c p1) - (48 : Int32))), .val (.int (0 : Int32)), .val (.int (0 : Int32)), .unset] [(.int (0 : Int32))])) _
    refine XS.ifNo X0.here hx rfl (hb hby at_74) rfl ((if0 _ _).trans (teq (rfl : (0 : Int32) = (0 : Int32))).2) ?_
    show Steps p.tables e below (s₁.setTop (mkF m 77 #[.val (.int p1), .val (.int (own_c p1)), .val (.int (own_c p1)), .val (.int ((own_c p1) ||| (32 : Int32))), .val (.int (0 : Int32)), .val (.int ((own_c p1) - (48 : Int32))), .val (.int (0 : Int32)), .val (.int (0 : Int32)), .unset] [])) _
    refine XS.iload X0.here hx rfl (hb hby at_77) rfl ?_
    show Steps p.tables e below (s₁.setTop (mkF m 79 #[.val (.int p1), .val (.int (own_c p1)), .val (.int (own_c p1)), .val (.int ((own_c p1) ||| (32 : Int32))), .val (.int (0 : Int32)), .val (.int ((own_c p1) - (48 : Int32))), .val (.int (0 : Int32)), .val (.int (0 : Int32)), .unset] [(.int (0 : Int32))])) _
    refine XS.ifYes X0.here hx rfl (pc0 := 79) (pc' := 86) rfl (hb hby at_79) rfl ((if0 _ _).trans (teq (rfl : (0 : Int32) = (0 : Int32))).1) (by decide) (by decide) ?_
    show Steps p.tables e below (s₁.setTop (mkF m 86 #[.val (.int p1), .val (.int (own_c p1)), .val (.int (own_c p1)), .val (.int ((own_c p1) ||| (32 : Int32))), .val (.int (0 : Int32)), .val (.int ((own_c p1) - (48 : Int32))), .val (.int (0 : Int32)), .val (.int (0 : Int32)), .unset] [])) _
    refine XS.iconst X0.here hx rfl (hb hby at_86) ?_
    show Steps p.tables e below (s₁.setTop (mkF m 87 #[.val (.int p1), .val (.int (own_c p1)), .val (.int (own_c p1)), .val (.int ((own_c p1) ||| (32 : Int32))), .val (.int (0 : Int32)), .val (.int ((own_c p1) - (48 : Int32))), .val (.int (0 : Int32)), .val (.int (0 : Int32)), .unset] [(.int (0 : Int32))])) _
    refine XS.istore X0.here hx rfl (hb hby at_87) rfl (l' := #[.val (.int p1), .val (.int (own_c p1)), .val (.int (own_c p1)), .val (.int ((own_c p1) ||| (32 : Int32))), .val (.int (0 : Int32)), .val (.int ((own_c p1) - (48 : Int32))), .val (.int (0 : Int32)), .val (.int (0 : Int32)), .val (.int (0 : Int32))]) rfl ?_
    show Steps p.tables e below (s₁.setTop (mkF m 89 #[.val (.int p1), .val (.int (own_c p1)), .val (.int (own_c p1)), .val (.int ((own_c p1) ||| (32 : Int32))), .val (.int (0 : Int32)), .val (.int ((own_c p1) - (48 : Int32))), .val (.int (0 : Int32)), .val (.int (0 : Int32)), .val (.int (0 : Int32))] [])) _
    refine XS.iloadN X0.here hx rfl (hb hby at_89) rfl ?_
    show Steps p.tables e below (s₁.setTop (mkF m 90 #[.val (.int p1), .val (.int (own_c p1)), .val (.int (own_c p1)), .val (.int ((own_c p1) ||| (32 : Int32))), .val (.int (0 : Int32)), .val (.int ((own_c p1) - (48 : Int32))), .val (.int (0 : Int32)), .val (.int (0 : Int32)), .val (.int (0 : Int32))] [(.int (own_c p1))])) _
    refine st2 _ ?_
    show Steps p.tables e below (T2.setTop (mkF m 93 #[.val (.int p1), .val (.int (own_c p1)), .val (.int (own_c p1)), .val (.int ((own_c p1) ||| (32 : Int32))), .val (.int (0 : Int32)), .val (.int ((own_c p1) - (48 : Int32))), .val (.int (0 : Int32)), .val (.int (0 : Int32)), .val (.int (0 : Int32))] [(.int (own_N (own_c p1)))])) _
    refine XS.iload X2.here hx rfl (hb hby at_93) rfl ?_
    show Steps p.tables e below (T2.setTop (mkF m 95 #[.val (.int p1), .val (.int (own_c p1)), .val (.int (own_c p1)), .val (.int ((own_c p1) ||| (32 : Int32))), .val (.int (0 : Int32)), .val (.int ((own_c p1) - (48 : Int32))), .val (.int (0 : Int32)), .val (.int (0 : Int32)), .val (.int (0 : Int32))] [(.int (0 : Int32)), (.int (own_N (own_c p1)))])) _
    refine XS.icmpNo X2.here hx rfl (hb hby at_95) rfl (teq hB).2 ?_
    show Steps p.tables e below (T2.setTop (mkF m 98 #[.val (.int p1), .val (.int (own_c p1)), .val (.int (own_c p1)), .val (.int ((own_c p1) ||| (32 : Int32))), .val (.int (0 : Int32)), .val (.int ((own_c p1) - (48 : Int32))), .val (.int (0 : Int32)), .val (.int (0 : Int32)), .val (.int (0 : Int32))] [])) _
    refine XS.iconst X2.here hx rfl (hb hby at_98) ?_
    show Steps p.tables e below (T2.setTop (mkF m 99 #[.val (.int p1), .val (.int (own_c p1)), .val (.int (own_c p1)), .val (.int ((own_c p1) ||| (32 : Int32))), .val (.int (0 : Int32)), .val (.int ((own_c p1) - (48 : Int32))), .val (.int (0 : Int32)), .val (.int (0 : Int32)), .val (.int (0 : Int32))] [(.int (1 : Int32))])) _
    refine XS.goto X2.here hx rfl (pc0 := 99) (pc' := 103) rfl (hb hby at_99) (by decide) (by decide) ?_
    show Steps p.tables e below (T2.setTop (mkF m 103 #[.val (.int p1), .val (.int (own_c p1)), .val (.int (own_c p1)), .val (.int ((own_c p1) ||| (32 : Int32))), .val (.int (0 : Int32)), .val (.int ((own_c p1) - (48 : Int32))), .val (.int (0 : Int32)), .val (.int (0 : Int32)), .val (.int (0 : Int32))] [(.int (1 : Int32))])) _
    exact retN X2 hx (t := .boolean) Bd.returns (by simp) (hb hby at_103) hr
  · show Q0 Z p1 h0 n0 _ T2.heap _
    exact ⟨rfl, N2⟩
set_option maxRecDepth 65536 in
set_option maxHeartbeats 40000000 in
theorem own_rm0_tfftftf (l : Launch) (Z : State) (a0 : Array Value) (hw : ∀ d ∈ tables_1, d.before a0 Z = true) (ws : List Jvm.Cond) (p1 : Int32) (h0 : Heap) (n0 : Nat) (Z0 : n0 ≤ h0.size) (hB : own_N (own_c p1) = (1 : Int32)) (hc13 : ((own_c p1) ||| (32 : Int32)) < (97 : Int32)) (hc37 : ¬ (((own_c p1) - (48 : Int32)) < (0 : Int32))) (hc44 : ((own_c p1) - (48 : Int32)) < (10 : Int32)) (hc57 : ¬ ((own_c p1) = (95 : Int32))) (hc74 : ¬ ((1 : Int32) = (0 : Int32))) :
    MetFree l x (head1 (Jvm.Cond.code x code maxLocals ret :: ws) room_1) (fun a U => a = #[(.int p1)] ∧ Z.Warmed39 U.vm ∧ U.heap = h0) (fun _ _ _ _ _ => True) (fun _ U o U' => ∃ v L, o = .returned v ∧ Q0 Z p1 h0 n0 v U'.heap L ∧ FrameEnd U o U' L room_1.cells room_1.slots) := by
  refine MetFree.of_bodySF (plainFor_of_name pn_0) hisR ?_
  intro p e s m args below meth c s₁ Bd hml0 hP hK
  obtain ⟨rfl, hZ, hh⟩ := hP
  have hx := Bd.exec
  have hby := Bd.bytes
  have hml : c.maxLocals = 9 := hml0
  have hown : s.vm.findClass "com/example/boxes_into_chains/boxesintochains/LexerContinuesNamePinLaw" = some m.cls := findClass_of_methodNamed Bd.named
  have hnm := (name_of_methodNamed Bd.named Bd.method).1
  have X0 : Stand p l e room_1 s m #[(.int p1)] below meth c s₁ [] 0 0 := Stand.of_body Bd
  have e0 : s₁.heap = h0 := by rw [← hh, Bd.state]; rfl
  have N0 := Fr.nil n0
  have pre0 : ∀ t, Steps p.tables e below (s₁.setTop (mkF m 0 #[.val (.int p1), .unset, .unset, .unset, .unset, .unset, .unset, .unset, .unset] [])) t → Steps p.tables e below (s₁.setTop (entryFrame m #[(.int p1)] maxLocals)) t := fun t k => castTop (ef_0 m p1) k
  obtain ⟨_, _, ⟨T2, L2, k2, n2⟩, -, X2, ⟨Lc2, hQ2, l2, y2, z2⟩, st2⟩ := Jvm.LawKit.callS X0 hx (y := (⟨"com/example/boxes_into_chains/boxesintochains/Lexer", "continuesName", "(C)Z"⟩ : MethodName)) hown (mvT hZ (hw _ (List.mem_of_getElem? (i := 0) rfl))) (mvT hZ (hw _ (List.mem_of_getElem? (i := 1) rfl))) (mvT hZ (hw _ (List.mem_of_getElem? (i := 2) rfl))) (mvT hZ (hw _ (List.mem_of_getElem? (i := 3) rfl))) (by decide) (backOf (W := 0) (rm1 l Z a0 hw [] (own_c p1) h0 n0 Z0) hZ (hw _ (List.mem_of_getElem? (i := 3) rfl)) (hw _ (List.mem_of_getElem? (i := 2) rfl)) (by decide) (by decide)) (g := (mkF m 90 #[.val (.int p1), .val (.int (own_c p1)), .val (.int (own_c p1)), .val (.int ((own_c p1) ||| (32 : Int32))), .val (.int (0 : Int32)), .val (.int ((own_c p1) - (48 : Int32))), .val (.int (1 : Int32)), .val (.int (0 : Int32)), .val (.int (1 : Int32))] [(.int (own_c p1))])) rfl (by rw [hml]; rfl) (argsL := [(.int (own_c p1))]) (rest := []) (lenOf pd_0_0 rfl) rfl (by show 2 * 0 + _ ≤ _; exact Nat.le_of_eq rfl) (hb hby at_90) (fun _ _ => ⟨rfl, e0, (by decide : 0 + 0 ≤ _), (by decide : 0 + 0 ≤ _)⟩)
  dsimp only [Pt.U, Pt.locs, Pt.cells, Pt.slots] at X2 l2 y2 z2 st2 hQ2
  subst l2 y2 z2
  obtain ⟨rfl, N2q, e2⟩ := hQ2
  have N2 := Fr.app N0 N2q
  obtain ⟨fs, hr, hrun, hended, hW, hsame⟩ := X2.leave (v := some (.int (1 : Int32))) (fun h => by rw [Bd.returns] at h; cases h)
  refine ⟨_, _, pre0 _ ?_, hrun, hended, _, _, rfl, ?_, ⟨_, rfl⟩, hW, hsame.mono (by decide) (by decide)⟩
  · show Steps p.tables e below (s₁.setTop (mkF m 0 #[.val (.int p1), .unset, .unset, .unset, .unset, .unset, .unset, .unset, .unset] [])) _
    refine XS.iloadN X0.here hx rfl (hb hby at_0) rfl ?_
    show Steps p.tables e below (s₁.setTop (mkF m 1 #[.val (.int p1), .unset, .unset, .unset, .unset, .unset, .unset, .unset, .unset] [(.int p1)])) _
    refine XS.i2c X0.here hx rfl (hb hby at_1) rfl ?_
    show Steps p.tables e below (s₁.setTop (mkF m 2 #[.val (.int p1), .unset, .unset, .unset, .unset, .unset, .unset, .unset, .unset] [(.int (own_c p1))])) _
    refine XS.istoreN X0.here hx rfl (hb hby at_2) rfl (l' := #[.val (.int p1), .val (.int (own_c p1)), .unset, .unset, .unset, .unset, .unset, .unset, .unset]) rfl ?_
    show Steps p.tables e below (s₁.setTop (mkF m 3 #[.val (.int p1), .val (.int (own_c p1)), .unset, .unset, .unset, .unset, .unset, .unset, .unset] [])) _
    refine XS.iloadN X0.here hx rfl (hb hby at_3) rfl ?_
    show Steps p.tables e below (s₁.setTop (mkF m 4 #[.val (.int p1), .val (.int (own_c p1)), .unset, .unset, .unset, .unset, .unset, .unset, .unset] [(.int (own_c p1))])) _
    refine XS.istoreN X0.here hx rfl (hb hby at_4) rfl (l' := #[.val (.int p1), .val (.int (own_c p1)), .val (.int (own_c p1)), .unset, .unset, .unset, .unset, .unset, .unset]) rfl ?_
    show Steps p.tables e below (s₁.setTop (mkF m 5 #[.val (.int p1), .val (.int (own_c p1)), .val (.int (own_c p1)), .unset, .unset, .unset, .unset, .unset, .unset] [])) _
    refine XS.iloadN X0.here hx rfl (hb hby at_5) rfl ?_
    show Steps p.tables e below (s₁.setTop (mkF m 6 #[.val (.int p1), .val (.int (own_c p1)), .val (.int (own_c p1)), .unset, .unset, .unset, .unset, .unset, .unset] [(.int (own_c p1))])) _
    refine XS.bipush X0.here hx rfl (hb hby at_6) ?_
    show Steps p.tables e below (s₁.setTop (mkF m 8 #[.val (.int p1), .val (.int (own_c p1)), .val (.int (own_c p1)), .unset, .unset, .unset, .unset, .unset, .unset] [(.int (32 : Int32)), (.int (own_c p1))])) _
    refine XS.ior X0.here hx rfl (hb hby at_8) rfl ?_
    show Steps p.tables e below (s₁.setTop (mkF m 9 #[.val (.int p1), .val (.int (own_c p1)), .val (.int (own_c p1)), .unset, .unset, .unset, .unset, .unset, .unset] [(.int ((own_c p1) ||| (32 : Int32)))])) _
    refine XS.istoreN X0.here hx rfl (hb hby at_9) rfl (l' := #[.val (.int p1), .val (.int (own_c p1)), .val (.int (own_c p1)), .val (.int ((own_c p1) ||| (32 : Int32))), .unset, .unset, .unset, .unset, .unset]) rfl ?_
    show Steps p.tables e below (s₁.setTop (mkF m 10 #[.val (.int p1), .val (.int (own_c p1)), .val (.int (own_c p1)), .val (.int ((own_c p1) ||| (32 : Int32))), .unset, .unset, .unset, .unset, .unset] [])) _
    refine XS.iloadN X0.here hx rfl (hb hby at_10) rfl ?_
    show Steps p.tables e below (s₁.setTop (mkF m 11 #[.val (.int p1), .val (.int (own_c p1)), .val (.int (own_c p1)), .val (.int ((own_c p1) ||| (32 : Int32))), .unset, .unset, .unset, .unset, .unset] [(.int ((own_c p1) ||| (32 : Int32)))])) _
    refine XS.bipush X0.here hx rfl (hb hby at_11) ?_
    show Steps p.tables e below (s₁.setTop (mkF m 13 #[.val (.int p1), .val (.int (own_c p1)), .val (.int (own_c p1)), .val (.int ((own_c p1) ||| (32 : Int32))), .unset, .unset, .unset, .unset, .unset] [(.int (97 : Int32)), (.int ((own_c p1) ||| (32 : Int32)))])) _
    refine XS.icmpYes X0.here hx rfl (pc0 := 13) (pc' := 26) rfl (hb hby at_13) rfl (tlt hc13).1 (by decide) (by decide) ?_
    show Steps p.tables e below (s₁.setTop (mkF m 26 #[.val (.int p1), .val (.int (own_c p1)), .val (.int (own_c p1)), .val (.int ((own_c p1) ||| (32 : Int32))), .unset, .unset, .unset, .unset, .unset] [])) _
    refine XS.iconst X0.here hx rfl (hb hby at_26) ?_
    show Steps p.tables e below (s₁.setTop (mkF m 27 #[.val (.int p1), .val (.int (own_c p1)), .val (.int (own_c p1)), .val (.int ((own_c p1) ||| (32 : Int32))), .unset, .unset, .unset, .unset, .unset] [(.int (0 : Int32))])) _
    refine XS.istore X0.here hx rfl (hb hby at_27) rfl (l' := #[.val (.int p1), .val (.int (own_c p1)), .val (.int (own_c p1)), .val (.int ((own_c p1) ||| (32 : Int32))), .val (.int (0 : Int32)), .unset, .unset, .unset, .unset]) rfl ?_
    show Steps p.tables e below (s₁.setTop (mkF m 29 #[.val (.int p1), .val (.int (own_c p1)), .val (.int (own_c p1)), .val (.int ((own_c p1) ||| (32 : Int32))), .val (.int (0 : Int32)), .unset, .unset, .unset, .unset] [])) _
    refine XS.iloadN X0.here hx rfl (hb hby at_29) rfl ?_
    show Steps p.tables e below (s₁.setTop (mkF m 30 #[.val (.int p1), .val (.int (own_c p1)), .val (.int (own_c p1)), .val (.int ((own_c p1) ||| (32 : Int32))), .val (.int (0 : Int32)), .unset, .unset, .unset, .unset] [(.int (own_c p1))])) _
    refine XS.bipush X0.here hx rfl (hb hby at_30) ?_
    show Steps p.tables e below (s₁.setTop (mkF m 32 #[.val (.int p1), .val (.int (own_c p1)), .val (.int (own_c p1)), .val (.int ((own_c p1) ||| (32 : Int32))), .val (.int (0 : Int32)), .unset, .unset, .unset, .unset] [(.int (48 : Int32)), (.int (own_c p1))])) _
    refine XS.isub X0.here hx rfl (hb hby at_32) rfl ?_
    show Steps p.tables e below (s₁.setTop (mkF m 33 #[.val (.int p1), .val (.int (own_c p1)), .val (.int (own_c p1)), .val (.int ((own_c p1) ||| (32 : Int32))), .val (.int (0 : Int32)), .unset, .unset, .unset, .unset] [(.int ((own_c p1) - (48 : Int32)))])) _
    refine XS.istore X0.here hx rfl (hb hby at_33) rfl (l' := #[.val (.int p1), .val (.int (own_c p1)), .val (.int (own_c p1)), .val (.int ((own_c p1) ||| (32 : Int32))), .val (.int (0 : Int32)), .val (.int ((own_c p1) - (48 : Int32))), .unset, .unset, .unset]) rfl ?_
    show Steps p.tables e below (s₁.setTop (mkF m 35 #[.val (.int p1), .val (.int (own_c p1)), .val (.int (own_c p1)), .val (.int ((own_c p1) ||| (32 : Int32))), .val (.int (0 : Int32)), .val (.int ((own_c p1) - (48 : Int32))), .unset, .unset, .unset] [])) _
    refine XS.iload X0.here hx rfl (hb hby at_35) rfl ?_
    show Steps p.tables e below (s₁.setTop (mkF m 37 #[.val (.int p1), .val (.int (own_c p1)), .val (.int (own_c p1)), .val (.int ((own_c p1) ||| (32 : Int32))), .val (.int (0 : Int32)), .val (.int ((own_c p1) - (48 : Int32))), .unset, .unset, .unset] [(.int ((own_c p1) - (48 : Int32)))])) _
    refine XS.ifNo X0.here hx rfl (hb hby at_37) rfl ((if0 _ _).trans (flt hc37).1) ?_
    show Steps p.tables e below (s₁.setTop (mkF m 40 #[.val (.int p1), .val (.int (own_c p1)), .val (.int (own_c p1)), .val (.int ((own_c p1) ||| (32 : Int32))), .val (.int (0 : Int32)), .val (.int ((own_c p1) - (48 : Int32))), .unset, .unset, .unset] [])) _
    refine XS.iload X0.here hx rfl (hb hby at_40) rfl ?_
    show Steps p.tables e below (s₁.setTop (mkF m 42 #[.val (.int p1), .val (.int (own_c p1)), .val (.int (own_c p1)), .val (.int ((own_c p1) ||| (32 : Int32))), .val (.int (0 : Int32)), .val (.int ((own_c p1) - (48 : Int32))), .unset, .unset, .unset] [(.int ((own_c p1) - (48 : Int32)))])) _
    refine XS.bipush X0.here hx rfl (hb hby at_42) ?_
    show Steps p.tables e below (s₁.setTop (mkF m 44 #[.val (.int p1), .val (.int (own_c p1)), .val (.int (own_c p1)), .val (.int ((own_c p1) ||| (32 : Int32))), .val (.int (0 : Int32)), .val (.int ((own_c p1) - (48 : Int32))), .unset, .unset, .unset] [(.int (10 : Int32)), (.int ((own_c p1) - (48 : Int32)))])) _
    refine XS.icmpNo X0.here hx rfl (hb hby at_44) rfl (tlt hc44).2.1 ?_
    show Steps p.tables e below (s₁.setTop (mkF m 47 #[.val (.int p1), .val (.int (own_c p1)), .val (.int (own_c p1)), .val (.int ((own_c p1) ||| (32 : Int32))), .val (.int (0 : Int32)), .val (.int ((own_c p1) - (48 : Int32))), .unset, .unset, .unset] [])) _
    refine XS.iconst X0.here hx rfl (hb hby at_47) ?_
    show Steps p.tables e below (s₁.setTop (mkF m 48 #[.val (.int p1), .val (.int (own_c p1)), .val (.int (own_c p1)), .val (.int ((own_c p1) ||| (32 : Int32))), .val (.int (0 : Int32)), .val (.int ((own_c p1) - (48 : Int32))), .unset, .unset, .unset] [(.int (1 : Int32))])) _
    refine XS.goto X0.here hx rfl (pc0 := 48) (pc' := 52) rfl (hb hby at_48) (by decide) (by decide) ?_
    show Steps p.tables e below (s₁.setTop (mkF m 52 #[.val (.int p1), .val (.int (own_c p1)), .val (.int (own_c p1)), .val (.int ((own_c p1) ||| (32 : Int32))), .val (.int (0 : Int32)), .val (.int ((own_c p1) - (48 : Int32))), .unset, .unset, .unset] [(.int (1 : Int32))])) _
    refine XS.istore X0.here hx rfl (hb hby at_52) rfl (l' := #[.val (.int p1), .val (.int (own_c p1)), .val (.int (own_c p1)), .val (.int ((own_c p1) ||| (32 : Int32))), .val (.int (0 : Int32)), .val (.int ((own_c p1) - (48 : Int32))), .val (.int (1 : Int32)), .unset, .unset]) rfl ?_
    show Steps p.tables e below (s₁.setTop (mkF m 54 #[.val (.int p1), .val (.int (own_c p1)), .val (.int (own_c p1)), .val (.int ((own_c p1) ||| (32 : Int32))), .val (.int (0 : Int32)), .val (.int ((own_c p1) - (48 : Int32))), .val (.int (1 : Int32)), .unset, .unset] [])) _
    refine XS.iloadN X0.here hx rfl (hb hby at_54) rfl ?_
    show Steps p.tables e below (s₁.setTop (mkF m 55 #[.val (.int p1), .val (.int (own_c p1)), .val (.int (own_c p1)), .val (.int ((own_c p1) ||| (32 : Int32))), .val (.int (0 : Int32)), .val (.int ((own_c p1) - (48 : Int32))), .val (.int (1 : Int32)), .unset, .unset] [(.int (own_c p1))])) _
    refine XS.bipush X0.here hx rfl (hb hby at_55) ?_
    show Steps p.tables e below (s₁.setTop (mkF m 57 #[.val (.int p1), .val (.int (own_c p1)), .val (.int (own_c p1)), .val (.int ((own_c p1) ||| (32 : Int32))), .val (.int (0 : Int32)), .val (.int ((own_c p1) - (48 : Int32))), .val (.int (1 : Int32)), .unset, .unset] [(.int (95 : Int32)), (.int (own_c p1))])) _
    refine XS.icmpYes X0.here hx rfl (pc0 := 57) (pc' := 64) rfl (hb hby at_57) rfl (feq hc57).2 (by decide) (by decide) ?_
    show Steps p.tables e below (s₁.setTop (mkF m 64 #[.val (.int p1), .val (.int (own_c p1)), .val (.int (own_c p1)), .val (.int ((own_c p1) ||| (32 : Int32))), .val (.int (0 : Int32)), .val (.int ((own_c p1) - (48 : Int32))), .val (.int (1 : Int32)), .unset, .unset] [])) _
    refine XS.iconst X0.here hx rfl (hb hby at_64) ?_
    show Steps p.tables e below (s₁.setTop (mkF m 65 #[.val (.int p1), .val (.int (own_c p1)), .val (.int (own_c p1)), .val (.int ((own_c p1) ||| (32 : Int32))), .val (.int (0 : Int32)), .val (.int ((own_c p1) - (48 : Int32))), .val (.int (1 : Int32)), .unset, .unset] [(.int (0 : Int32))])) _
    refine XS.istore X0.here hx rfl (hb hby at_65) rfl (l' := #[.val (.int p1), .val (.int (own_c p1)), .val (.int (own_c p1)), .val (.int ((own_c p1) ||| (32 : Int32))), .val (.int (0 : Int32)), .val (.int ((own_c p1) - (48 : Int32))), .val (.int (1 : Int32)), .val (.int (0 : Int32)), .unset]) rfl ?_
    show Steps p.tables e below (s₁.setTop (mkF m 67 #[.val (.int p1), .val (.int (own_c p1)), .val (.int (own_c p1)), .val (.int ((own_c p1) ||| (32 : Int32))), .val (.int (0 : Int32)), .val (.int ((own_c p1) - (48 : Int32))), .val (.int (1 : Int32)), .val (.int (0 : Int32)), .unset] [])) _
    refine XS.iload X0.here hx rfl (hb hby at_67) rfl ?_
    show Steps p.tables e below (s₁.setTop (mkF m 69 #[.val (.int p1), .val (.int (own_c p1)), .val (.int (own_c p1)), .val (.int ((own_c p1) ||| (32 : Int32))), .val (.int (0 : Int32)), .val (.int ((own_c p1) - (48 : Int32))), .val (.int (1 : Int32)), .val (.int (0 : Int32)), .unset] [(.int (0 : Int32))])) _
    refine XS.ifNo X0.here hx rfl (hb hby at_69) rfl ((if0 _ _).trans (teq (rfl : (0 : Int32) = (0 : Int32))).2) ?_
    show Steps p.tables e below (s₁.setTop (mkF m 72 #[.val (.int p1), .val (.int (own_c p1)), .val (.int (own_c p1)), .val (.int ((own_c p1) ||| (32 : Int32))), .val (.int (0 : Int32)), .val (.int ((own_c p1) - (48 : Int32))), .val (.int (1 : Int32)), .val (.int (0 : Int32)), .unset] [])) _
    refine XS.iload X0.here hx rfl (hb hby at_72) rfl ?_
    show Steps p.tables e below (s₁.setTop (mkF m 74 #[.val (.int p1), .val (.int (own_c p1)), .val (.int (own_c p1)), .val (.int ((own_c p1) ||| (32 : Int32))), .val (.int (0 : Int32)), .val (.int ((own_c p1) - (48 : Int32))), .val (.int (1 : Int32)), .val (.int (0 : Int32)), .unset] [(.int (1 : Int32))])) _
    refine XS.ifYes X0.here hx rfl (pc0 := 74) (pc' := 82) rfl (hb hby at_74) rfl ((if0 _ _).trans (feq hc74).2) (by decide) (by decide) ?_
    show Steps p.tables e below (s₁.setTop (mkF m 82 #[.val (.int p1), .val (.int (own_c p1)), .val (.int (own_c p1)), .val (.int ((own_c p1) ||| (32 : Int32))), .val (.int (0 : Int32)), .val (.int ((own_c p1) - (48 : Int32))), .val (.int (1 : Int32)), .val (.int (0 : Int32)), .unset] [])) _
    refine XS.iconst X0.here hx rfl (hb hby at_82) ?_
    show Steps p.tables e below (s₁.setTop (mkF m 83 #[.val (.int p1), .val (.int (own_c p1)), .val (.int (own_c p1)), .val (.int ((own_c p1) ||| (32 : Int32))), .val (.int (0 : Int32)), .val (.int ((own_c p1) - (48 : Int32))), .val (.int (1 : Int32)), .val (.int (0 : Int32)), .unset] [(.int (1 : Int32))])) _
    refine XS.goto X0.here hx rfl (pc0 := 83) (pc' := 87) rfl (hb hby at_83) (by decide) (by decide) ?_
    show Steps p.tables e below (s₁.setTop (mkF m 87 #[.val (.int p1), .val (.int (own_c p1)), .val (.int (own_c p1)), .val (.int ((own_c p1) ||| (32 : Int32))), .val (.int (0 : Int32)), .val (.int ((own_c p1) - (48 : Int32))), .val (.int (1 : Int32)), .val (.int (0 : Int32)), .unset] [(.int (1 : Int32))])) _
    refine XS.istore X0.here hx rfl (hb hby at_87) rfl (l' := #[.val (.int p1), .val (.int (own_c p1)), .val (.int (own_c p1)), .val (.int ((own_c p1) ||| (32 : Int32))), .val (.int (0 : Int32)), .val (.int ((own_c p1) - (48 : Int32))), .val (.int (1 : Int32)), .val (.int (0 : Int32)), .val (.int (1 : Int32))]) rfl ?_
    show Steps p.tables e below (s₁.setTop (mkF m 89 #[.val (.int p1), .val (.int (own_c p1)), .val (.int (own_c p1)), .val (.int ((own_c p1) ||| (32 : Int32))), .val (.int (0 : Int32)), .val (.int ((own_c p1) - (48 : Int32))), .val (.int (1 : Int32)), .val (.int (0 : Int32)), .val (.int (1 : Int32))] [])) _
    refine XS.iloadN X0.here hx rfl (hb hby at_89) rfl ?_
    show Steps p.tables e below (s₁.setTop (mkF m 90 #[.val (.int p1), .val (.int (own_c p1)), .val (.int (own_c p1)), .val (.int ((own_c p1) ||| (32 : Int32))), .val (.int (0 : Int32)), .val (.int ((own_c p1) - (48 : Int32))), .val (.int (1 : Int32)), .val (.int (0 : Int32)), .val (.int (1 : Int32))] [(.int (own_c p1))])) _
    refine st2 _ ?_
    show Steps p.tables e below (T2.setTop (mkF m 93 #[.val (.int p1), .val (.int (own_c p1)), .val (.int (own_c p1)), .val (.int ((own_c p1) ||| (32 : Int32))), .val (.int (0 : Int32)), .val (.int ((own_c p1) - (48 : Int32))), .val (.int (1 : Int32)), .val (.int (0 : Int32)), .val (.int (1 : Int32))] [(.int (own_N (own_c p1)))])) _
    refine XS.iload X2.here hx rfl (hb hby at_93) rfl ?_
    show Steps p.tables e below (T2.setTop (mkF m 95 #[.val (.int p1), .val (.int (own_c p1)), .val (.int (own_c p1)), .val (.int ((own_c p1) ||| (32 : Int32))), .val (.int (0 : Int32)), .val (.int ((own_c p1) - (48 : Int32))), .val (.int (1 : Int32)), .val (.int (0 : Int32)), .val (.int (1 : Int32))] [(.int (1 : Int32)), (.int (own_N (own_c p1)))])) _
    refine XS.icmpNo X2.here hx rfl (hb hby at_95) rfl (teq hB).2 ?_
    show Steps p.tables e below (T2.setTop (mkF m 98 #[.val (.int p1), .val (.int (own_c p1)), .val (.int (own_c p1)), .val (.int ((own_c p1) ||| (32 : Int32))), .val (.int (0 : Int32)), .val (.int ((own_c p1) - (48 : Int32))), .val (.int (1 : Int32)), .val (.int (0 : Int32)), .val (.int (1 : Int32))] [])) _
    refine XS.iconst X2.here hx rfl (hb hby at_98) ?_
    show Steps p.tables e below (T2.setTop (mkF m 99 #[.val (.int p1), .val (.int (own_c p1)), .val (.int (own_c p1)), .val (.int ((own_c p1) ||| (32 : Int32))), .val (.int (0 : Int32)), .val (.int ((own_c p1) - (48 : Int32))), .val (.int (1 : Int32)), .val (.int (0 : Int32)), .val (.int (1 : Int32))] [(.int (1 : Int32))])) _
    refine XS.goto X2.here hx rfl (pc0 := 99) (pc' := 103) rfl (hb hby at_99) (by decide) (by decide) ?_
    show Steps p.tables e below (T2.setTop (mkF m 103 #[.val (.int p1), .val (.int (own_c p1)), .val (.int (own_c p1)), .val (.int ((own_c p1) ||| (32 : Int32))), .val (.int (0 : Int32)), .val (.int ((own_c p1) - (48 : Int32))), .val (.int (1 : Int32)), .val (.int (0 : Int32)), .val (.int (1 : Int32))] [(.int (1 : Int32))])) _
    exact retN X2 hx (t := .boolean) Bd.returns (by simp) (hb hby at_103) hr
  · show Q0 Z p1 h0 n0 _ T2.heap _
    exact ⟨rfl, N2⟩
set_option maxRecDepth 65536 in
set_option maxHeartbeats 40000000 in
theorem own_rm0_tfttfftf (l : Launch) (Z : State) (a0 : Array Value) (hw : ∀ d ∈ tables_1, d.before a0 Z = true) (ws : List Jvm.Cond) (p1 : Int32) (h0 : Heap) (n0 : Nat) (Z0 : n0 ≤ h0.size) (hB : own_N (own_c p1) = (0 : Int32)) (hc13 : ((own_c p1) ||| (32 : Int32)) < (97 : Int32)) (hc37 : ¬ (((own_c p1) - (48 : Int32)) < (0 : Int32))) (hc44 : ¬ (((own_c p1) - (48 : Int32)) < (10 : Int32))) (hc57 : ¬ ((own_c p1) = (95 : Int32))) :
    MetFree l x (head1 (Jvm.Cond.code x code maxLocals ret :: ws) room_1) (fun a U => a = #[(.int p1)] ∧ Z.Warmed39 U.vm ∧ U.heap = h0) (fun _ _ _ _ _ => True) (fun _ U o U' => ∃ v L, o = .returned v ∧ Q0 Z p1 h0 n0 v U'.heap L ∧ FrameEnd U o U' L room_1.cells room_1.slots) := by
  refine MetFree.of_bodySF (plainFor_of_name pn_0) hisR ?_
  intro p e s m args below meth c s₁ Bd hml0 hP hK
  obtain ⟨rfl, hZ, hh⟩ := hP
  have hx := Bd.exec
  have hby := Bd.bytes
  have hml : c.maxLocals = 9 := hml0
  have hown : s.vm.findClass "com/example/boxes_into_chains/boxesintochains/LexerContinuesNamePinLaw" = some m.cls := findClass_of_methodNamed Bd.named
  have hnm := (name_of_methodNamed Bd.named Bd.method).1
  have X0 : Stand p l e room_1 s m #[(.int p1)] below meth c s₁ [] 0 0 := Stand.of_body Bd
  have e0 : s₁.heap = h0 := by rw [← hh, Bd.state]; rfl
  have N0 := Fr.nil n0
  have pre0 : ∀ t, Steps p.tables e below (s₁.setTop (mkF m 0 #[.val (.int p1), .unset, .unset, .unset, .unset, .unset, .unset, .unset, .unset] [])) t → Steps p.tables e below (s₁.setTop (entryFrame m #[(.int p1)] maxLocals)) t := fun t k => castTop (ef_0 m p1) k
  obtain ⟨_, _, ⟨T2, L2, k2, n2⟩, -, X2, ⟨Lc2, hQ2, l2, y2, z2⟩, st2⟩ := Jvm.LawKit.callS X0 hx (y := (⟨"com/example/boxes_into_chains/boxesintochains/Lexer", "continuesName", "(C)Z"⟩ : MethodName)) hown (mvT hZ (hw _ (List.mem_of_getElem? (i := 0) rfl))) (mvT hZ (hw _ (List.mem_of_getElem? (i := 1) rfl))) (mvT hZ (hw _ (List.mem_of_getElem? (i := 2) rfl))) (mvT hZ (hw _ (List.mem_of_getElem? (i := 3) rfl))) (by decide) (backOf (W := 0) (rm1 l Z a0 hw [] (own_c p1) h0 n0 Z0) hZ (hw _ (List.mem_of_getElem? (i := 3) rfl)) (hw _ (List.mem_of_getElem? (i := 2) rfl)) (by decide) (by decide)) (g := (mkF m 90 #[.val (.int p1), .val (.int (own_c p1)), .val (.int (own_c p1)), .val (.int ((own_c p1) ||| (32 : Int32))), .val (.int (0 : Int32)), .val (.int ((own_c p1) - (48 : Int32))), .val (.int (0 : Int32)), .val (.int (0 : Int32)), .val (.int (0 : Int32))] [(.int (own_c p1))])) rfl (by rw [hml]; rfl) (argsL := [(.int (own_c p1))]) (rest := []) (lenOf pd_0_0 rfl) rfl (by show 2 * 0 + _ ≤ _; exact Nat.le_of_eq rfl) (hb hby at_90) (fun _ _ => ⟨rfl, e0, (by decide : 0 + 0 ≤ _), (by decide : 0 + 0 ≤ _)⟩)
  dsimp only [Pt.U, Pt.locs, Pt.cells, Pt.slots] at X2 l2 y2 z2 st2 hQ2
  subst l2 y2 z2
  obtain ⟨rfl, N2q, e2⟩ := hQ2
  have N2 := Fr.app N0 N2q
  obtain ⟨fs, hr, hrun, hended, hW, hsame⟩ := X2.leave (v := some (.int (1 : Int32))) (fun h => by rw [Bd.returns] at h; cases h)
  refine ⟨_, _, pre0 _ ?_, hrun, hended, _, _, rfl, ?_, ⟨_, rfl⟩, hW, hsame.mono (by decide) (by decide)⟩
  · show Steps p.tables e below (s₁.setTop (mkF m 0 #[.val (.int p1), .unset, .unset, .unset, .unset, .unset, .unset, .unset, .unset] [])) _
    refine XS.iloadN X0.here hx rfl (hb hby at_0) rfl ?_
    show Steps p.tables e below (s₁.setTop (mkF m 1 #[.val (.int p1), .unset, .unset, .unset, .unset, .unset, .unset, .unset, .unset] [(.int p1)])) _
    refine XS.i2c X0.here hx rfl (hb hby at_1) rfl ?_
    show Steps p.tables e below (s₁.setTop (mkF m 2 #[.val (.int p1), .unset, .unset, .unset, .unset, .unset, .unset, .unset, .unset] [(.int (own_c p1))])) _
    refine XS.istoreN X0.here hx rfl (hb hby at_2) rfl (l' := #[.val (.int p1), .val (.int (own_c p1)), .unset, .unset, .unset, .unset, .unset, .unset, .unset]) rfl ?_
    show Steps p.tables e below (s₁.setTop (mkF m 3 #[.val (.int p1), .val (.int (own_c p1)), .unset, .unset, .unset, .unset, .unset, .unset, .unset] [])) _
    refine XS.iloadN X0.here hx rfl (hb hby at_3) rfl ?_
    show Steps p.tables e below (s₁.setTop (mkF m 4 #[.val (.int p1), .val (.int (own_c p1)), .unset, .unset, .unset, .unset, .unset, .unset, .unset] [(.int (own_c p1))])) _
    refine XS.istoreN X0.here hx rfl (hb hby at_4) rfl (l' := #[.val (.int p1), .val (.int (own_c p1)), .val (.int (own_c p1)), .unset, .unset, .unset, .unset, .unset, .unset]) rfl ?_
    show Steps p.tables e below (s₁.setTop (mkF m 5 #[.val (.int p1), .val (.int (own_c p1)), .val (.int (own_c p1)), .unset, .unset, .unset, .unset, .unset, .unset] [])) _
    refine XS.iloadN X0.here hx rfl (hb hby at_5) rfl ?_
    show Steps p.tables e below (s₁.setTop (mkF m 6 #[.val (.int p1), .val (.int (own_c p1)), .val (.int (own_c p1)), .unset, .unset, .unset, .unset, .unset, .unset] [(.int (own_c p1))])) _
    refine XS.bipush X0.here hx rfl (hb hby at_6) ?_
    show Steps p.tables e below (s₁.setTop (mkF m 8 #[.val (.int p1), .val (.int (own_c p1)), .val (.int (own_c p1)), .unset, .unset, .unset, .unset, .unset, .unset] [(.int (32 : Int32)), (.int (own_c p1))])) _
    refine XS.ior X0.here hx rfl (hb hby at_8) rfl ?_
    show Steps p.tables e below (s₁.setTop (mkF m 9 #[.val (.int p1), .val (.int (own_c p1)), .val (.int (own_c p1)), .unset, .unset, .unset, .unset, .unset, .unset] [(.int ((own_c p1) ||| (32 : Int32)))])) _
    refine XS.istoreN X0.here hx rfl (hb hby at_9) rfl (l' := #[.val (.int p1), .val (.int (own_c p1)), .val (.int (own_c p1)), .val (.int ((own_c p1) ||| (32 : Int32))), .unset, .unset, .unset, .unset, .unset]) rfl ?_
    show Steps p.tables e below (s₁.setTop (mkF m 10 #[.val (.int p1), .val (.int (own_c p1)), .val (.int (own_c p1)), .val (.int ((own_c p1) ||| (32 : Int32))), .unset, .unset, .unset, .unset, .unset] [])) _
    refine XS.iloadN X0.here hx rfl (hb hby at_10) rfl ?_
    show Steps p.tables e below (s₁.setTop (mkF m 11 #[.val (.int p1), .val (.int (own_c p1)), .val (.int (own_c p1)), .val (.int ((own_c p1) ||| (32 : Int32))), .unset, .unset, .unset, .unset, .unset] [(.int ((own_c p1) ||| (32 : Int32)))])) _
    refine XS.bipush X0.here hx rfl (hb hby at_11) ?_
    show Steps p.tables e below (s₁.setTop (mkF m 13 #[.val (.int p1), .val (.int (own_c p1)), .val (.int (own_c p1)), .val (.int ((own_c p1) ||| (32 : Int32))), .unset, .unset, .unset, .unset, .unset] [(.int (97 : Int32)), (.int ((own_c p1) ||| (32 : Int32)))])) _
    refine XS.icmpYes X0.here hx rfl (pc0 := 13) (pc' := 26) rfl (hb hby at_13) rfl (tlt hc13).1 (by decide) (by decide) ?_
    show Steps p.tables e below (s₁.setTop (mkF m 26 #[.val (.int p1), .val (.int (own_c p1)), .val (.int (own_c p1)), .val (.int ((own_c p1) ||| (32 : Int32))), .unset, .unset, .unset, .unset, .unset] [])) _
    refine XS.iconst X0.here hx rfl (hb hby at_26) ?_
    show Steps p.tables e below (s₁.setTop (mkF m 27 #[.val (.int p1), .val (.int (own_c p1)), .val (.int (own_c p1)), .val (.int ((own_c p1) ||| (32 : Int32))), .unset, .unset, .unset, .unset, .unset] [(.int (0 : Int32))])) _
    refine XS.istore X0.here hx rfl (hb hby at_27) rfl (l' := #[.val (.int p1), .val (.int (own_c p1)), .val (.int (own_c p1)), .val (.int ((own_c p1) ||| (32 : Int32))), .val (.int (0 : Int32)), .unset, .unset, .unset, .unset]) rfl ?_
    show Steps p.tables e below (s₁.setTop (mkF m 29 #[.val (.int p1), .val (.int (own_c p1)), .val (.int (own_c p1)), .val (.int ((own_c p1) ||| (32 : Int32))), .val (.int (0 : Int32)), .unset, .unset, .unset, .unset] [])) _
    refine XS.iloadN X0.here hx rfl (hb hby at_29) rfl ?_
    show Steps p.tables e below (s₁.setTop (mkF m 30 #[.val (.int p1), .val (.int (own_c p1)), .val (.int (own_c p1)), .val (.int ((own_c p1) ||| (32 : Int32))), .val (.int (0 : Int32)), .unset, .unset, .unset, .unset] [(.int (own_c p1))])) _
    refine XS.bipush X0.here hx rfl (hb hby at_30) ?_
    show Steps p.tables e below (s₁.setTop (mkF m 32 #[.val (.int p1), .val (.int (own_c p1)), .val (.int (own_c p1)), .val (.int ((own_c p1) ||| (32 : Int32))), .val (.int (0 : Int32)), .unset, .unset, .unset, .unset] [(.int (48 : Int32)), (.int (own_c p1))])) _
    refine XS.isub X0.here hx rfl (hb hby at_32) rfl ?_
    show Steps p.tables e below (s₁.setTop (mkF m 33 #[.val (.int p1), .val (.int (own_c p1)), .val (.int (own_c p1)), .val (.int ((own_c p1) ||| (32 : Int32))), .val (.int (0 : Int32)), .unset, .unset, .unset, .unset] [(.int ((own_c p1) - (48 : Int32)))])) _
    refine XS.istore X0.here hx rfl (hb hby at_33) rfl (l' := #[.val (.int p1), .val (.int (own_c p1)), .val (.int (own_c p1)), .val (.int ((own_c p1) ||| (32 : Int32))), .val (.int (0 : Int32)), .val (.int ((own_c p1) - (48 : Int32))), .unset, .unset, .unset]) rfl ?_
    show Steps p.tables e below (s₁.setTop (mkF m 35 #[.val (.int p1), .val (.int (own_c p1)), .val (.int (own_c p1)), .val (.int ((own_c p1) ||| (32 : Int32))), .val (.int (0 : Int32)), .val (.int ((own_c p1) - (48 : Int32))), .unset, .unset, .unset] [])) _
    refine XS.iload X0.here hx rfl (hb hby at_35) rfl ?_
    show Steps p.tables e below (s₁.setTop (mkF m 37 #[.val (.int p1), .val (.int (own_c p1)), .val (.int (own_c p1)), .val (.int ((own_c p1) ||| (32 : Int32))), .val (.int (0 : Int32)), .val (.int ((own_c p1) - (48 : Int32))), .unset, .unset, .unset] [(.int ((own_c p1) - (48 : Int32)))])) _
    refine XS.ifNo X0.here hx rfl (hb hby at_37) rfl ((if0 _ _).trans (flt hc37).1) ?_
    show Steps p.tables e below (s₁.setTop (mkF m 40 #[.val (.int p1), .val (.int (own_c p1)), .val (.int (own_c p1)), .val (.int ((own_c p1) ||| (32 : Int32))), .val (.int (0 : Int32)), .val (.int ((own_c p1) - (48 : Int32))), .unset, .unset, .unset] [])) _
    refine XS.iload X0.here hx rfl (hb hby at_40) rfl ?_
    show Steps p.tables e below (s₁.setTop (mkF m 42 #[.val (.int p1), .val (.int (own_c p1)), .val (.int (own_c p1)), .val (.int ((own_c p1) ||| (32 : Int32))), .val (.int (0 : Int32)), .val (.int ((own_c p1) - (48 : Int32))), .unset, .unset, .unset] [(.int ((own_c p1) - (48 : Int32)))])) _
    refine XS.bipush X0.here hx rfl (hb hby at_42) ?_
    show Steps p.tables e below (s₁.setTop (mkF m 44 #[.val (.int p1), .val (.int (own_c p1)), .val (.int (own_c p1)), .val (.int ((own_c p1) ||| (32 : Int32))), .val (.int (0 : Int32)), .val (.int ((own_c p1) - (48 : Int32))), .unset, .unset, .unset] [(.int (10 : Int32)), (.int ((own_c p1) - (48 : Int32)))])) _
    refine XS.icmpYes X0.here hx rfl (pc0 := 44) (pc' := 51) rfl (hb hby at_44) rfl (flt hc44).2.1 (by decide) (by decide) ?_
    show Steps p.tables e below (s₁.setTop (mkF m 51 #[.val (.int p1), .val (.int (own_c p1)), .val (.int (own_c p1)), .val (.int ((own_c p1) ||| (32 : Int32))), .val (.int (0 : Int32)), .val (.int ((own_c p1) - (48 : Int32))), .unset, .unset, .unset] [])) _
    refine XS.iconst X0.here hx rfl (hb hby at_51) ?_
    show Steps p.tables e below (s₁.setTop (mkF m 52 #[.val (.int p1), .val (.int (own_c p1)), .val (.int (own_c p1)), .val (.int ((own_c p1) ||| (32 : Int32))), .val (.int (0 : Int32)), .val (.int ((own_c p1) - (48 : Int32))), .unset, .unset, .unset] [(.int (0 : Int32))])) _
    refine XS.istore X0.here hx rfl (hb hby at_52) rfl (l' := #[.val (.int p1), .val (.int (own_c p1)), .val (.int (own_c p1)), .val (.int ((own_c p1) ||| (32 : Int32))), .val (.int (0 : Int32)), .val (.int ((own_c p1) - (48 : Int32))), .val (.int (0 : Int32)), .unset, .unset]) rfl ?_
    show Steps p.tables e below (s₁.setTop (mkF m 54 #[.val (.int p1), .val (.int (own_c p1)), .val (.int (own_c p1)), .val (.int ((own_c p1) ||| (32 : Int32))), .val (.int (0 : Int32)), .val (.int ((own_c p1) - (48 : Int32))), .val (.int (0 : Int32)), .unset, .unset] [])) _
    refine XS.iloadN X0.here hx rfl (hb hby at_54) rfl ?_
    show Steps p.tables e below (s₁.setTop (mkF m 55 #[.val (.int p1), .val (.int (own_c p1)), .val (.int (own_c p1)), .val (.int ((own_c p1) ||| (32 : Int32))), .val (.int (0 : Int32)), .val (.int ((own_c p1) - (48 : Int32))), .val (.int (0 : Int32)), .unset, .unset] [(.int (own_c p1))])) _
    refine XS.bipush X0.here hx rfl (hb hby at_55) ?_
    show Steps p.tables e below (s₁.setTop (mkF m 57 #[.val (.int p1), .val (.int (own_c p1)), .val (.int (own_c p1)), .val (.int ((own_c p1) ||| (32 : Int32))), .val (.int (0 : Int32)), .val (.int ((own_c p1) - (48 : Int32))), .val (.int (0 : Int32)), .unset, .unset] [(.int (95 : Int32)), (.int (own_c p1))])) _
    refine XS.icmpYes X0.here hx rfl (pc0 := 57) (pc' := 64) rfl (hb hby at_57) rfl (feq hc57).2 (by decide) (by decide) ?_
    show Steps p.tables e below (s₁.setTop (mkF m 64 #[.val (.int p1), .val (.int (own_c p1)), .val (.int (own_c p1)), .val (.int ((own_c p1) ||| (32 : Int32))), .val (.int (0 : Int32)), .val (.int ((own_c p1) - (48 : Int32))), .val (.int (0 : Int32)), .unset, .unset] [])) _
    refine XS.iconst X0.here hx rfl (hb hby at_64) ?_
    show Steps p.tables e below (s₁.setTop (mkF m 65 #[.val (.int p1), .val (.int (own_c p1)), .val (.int (own_c p1)), .val (.int ((own_c p1) ||| (32 : Int32))), .val (.int (0 : Int32)), .val (.int ((own_c p1) - (48 : Int32))), .val (.int (0 : Int32)), .unset, .unset] [(.int (0 : Int32))])) _
    refine XS.istore X0.here hx rfl (hb hby at_65) rfl (l' := #[.val (.int p1), .val (.int (own_c p1)), .val (.int (own_c p1)), .val (.int ((own_c p1) ||| (32 : Int32))), .val (.int (0 : Int32)), .val (.int ((own_c p1) - (48 : Int32))), .val (.int (0 : Int32)), .val (.int (0 : Int32)), .unset]) rfl ?_
    show Steps p.tables e below (s₁.setTop (mkF m 67 #[.val (.int p1), .val (.int (own_c p1)), .val (.int (own_c p1)), .val (.int ((own_c p1) ||| (32 : Int32))), .val (.int (0 : Int32)), .val (.int ((own_c p1) - (48 : Int32))), .val (.int (0 : Int32)), .val (.int (0 : Int32)), .unset] [])) _
    refine XS.iload X0.here hx rfl (hb hby at_67) rfl ?_
    show Steps p.tables e below (s₁.setTop (mkF m 69 #[.val (.int p1), .val (.int (own_c p1)), .val (.int (own_c p1)), .val (.int ((own_c p1) ||| (32 : Int32))), .val (.int (0 : Int32)), .val (.int ((own_c p1) - (48 : Int32))), .val (.int (0 : Int32)), .val (.int (0 : Int32)), .unset] [(.int (0 : Int32))])) _
    refine XS.ifNo X0.here hx rfl (hb hby at_69) rfl ((if0 _ _).trans (teq (rfl : (0 : Int32) = (0 : Int32))).2) ?_
    show Steps p.tables e below (s₁.setTop (mkF m 72 #[.val (.int p1), .val (.int (own_c p1)), .val (.int (own_c p1)), .val (.int ((own_c p1) ||| (32 : Int32))), .val (.int (0 : Int32)), .val (.int ((own_c p1) - (48 : Int32))), .val (.int (0 : Int32)), .val (.int (0 : Int32)), .unset] [])) _
    refine XS.iload X0.here hx rfl (hb hby at_72) rfl ?_
    show Steps p.tables e below (s₁.setTop (mkF m 74 #[.val (.int p1), .val (.int (own_c p1)), .val (.int (own_c p1)), .val (.int ((own_c p1) ||| (32 : Int32))), .val (.int (0 : Int32)), .val (.int ((own_c p1) - (48 : Int32))), .val (.int (0 : Int32)), .val (.int (0 : Int32)), .unset] [(.int (0 : Int32))])) _
    refine XS.ifNo X0.here hx rfl (hb hby at_74) rfl ((if0 _ _).trans (teq (rfl : (0 : Int32) = (0 : Int32))).2) ?_
    show Steps p.tables e below (s₁.setTop (mkF m 77 #[.val (.int p1), .val (.int (own_c p1)), .val (.int (own_c p1)), .val (.int ((own_c p1) ||| (32 : Int32))), .val (.int (0 : Int32)), .val (.int ((own_c p1) - (48 : Int32))), .val (.int (0 : Int32)), .val (.int (0 : Int32)), .unset] [])) _
    refine XS.iload X0.here hx rfl (hb hby at_77) rfl ?_
    show Steps p.tables e below (s₁.setTop (mkF m 79 #[.val (.int p1), .val (.int (own_c p1)), .val (.int (own_c p1)), .val (.int ((own_c p1) ||| (32 : Int32))), .val (.int (0 : Int32)), .val (.int ((own_c p1) - (48 : Int32))), .val (.int (0 : Int32)), .val (.int (0 : Int32)), .unset] [(.int (0 : Int32))])) _
    refine XS.ifYes X0.here hx rfl (pc0 := 79) (pc' := 86) rfl (hb hby at_79) rfl ((if0 _ _).trans (teq (rfl : (0 : Int32) = (0 : Int32))).1) (by decide) (by decide) ?_
    show Steps p.tables e below (s₁.setTop (mkF m 86 #[.val (.int p1), .val (.int (own_c p1)), .val (.int (own_c p1)), .val (.int ((own_c p1) ||| (32 : Int32))), .val (.int (0 : Int32)), .val (.int ((own_c p1) - (48 : Int32))), .val (.int (0 : Int32)), .val (.int (0 : Int32)), .unset] [])) _
    refine XS.iconst X0.here hx rfl (hb hby at_86) ?_
    show Steps p.tables e below (s₁.setTop (mkF m 87 #[.val (.int p1), .val (.int (own_c p1)), .val (.int (own_c p1)), .val (.int ((own_c p1) ||| (32 : Int32))), .val (.int (0 : Int32)), .val (.int ((own_c p1) - (48 : Int32))), .val (.int (0 : Int32)), .val (.int (0 : Int32)), .unset] [(.int (0 : Int32))])) _
    refine XS.istore X0.here hx rfl (hb hby at_87) rfl (l' := #[.val (.int p1), .val (.int (own_c p1)), .val (.int (own_c p1)), .val (.int ((own_c p1) ||| (32 : Int32))), .val (.int (0 : Int32)), .val (.int ((own_c p1) - (48 : Int32))), .val (.int (0 : Int32)), .val (.int (0 : Int32)), .val (.int (0 : Int32))]) rfl ?_
    show Steps p.tables e below (s₁.setTop (mkF m 89 #[.val (.int p1), .val (.int (own_c p1)), .val (.int (own_c p1)), .val (.int ((own_c p1) ||| (32 : Int32))), .val (.int (0 : Int32)), .val (.int ((own_c p1) - (48 : Int32))), .val (.int (0 : Int32)), .val (.int (0 : Int32)), .val (.int (0 : Int32))] [])) _
    refine XS.iloadN X0.here hx rfl (hb hby at_89) rfl ?_
    show Steps p.tables e below (s₁.setTop (mkF m 90 #[.val (.int p1), .val (.int (own_c p1)), .val (.int (own_c p1)), .val (.int ((own_c p1) ||| (32 : Int32))), .val (.int (0 : Int32)), .val (.int ((own_c p1) - (48 : Int32))), .val (.int (0 : Int32)), .val (.int (0 : Int32)), .val (.int (0 : Int32))] [(.int (own_c p1))])) _
    refine st2 _ ?_
    show Steps p.tables e below (T2.setTop (mkF m 93 #[.val (.int p1), .val (.int (own_c p1)), .val (.int (own_c p1)), .val (.int ((own_c p1) ||| (32 : Int32))), .val (.int (0 : Int32)), .val (.int ((own_c p1) - (48 : Int32))), .val (.int (0 : Int32)), .val (.int (0 : Int32)), .val (.int (0 : Int32))] [(.int (own_N (own_c p1)))])) _
    refine XS.iload X2.here hx rfl (hb hby at_93) rfl ?_
    show Steps p.tables e below (T2.setTop (mkF m 95 #[.val (.int p1), .val (.int (own_c p1)), .val (.int (own_c p1)), .val (.int ((own_c p1) ||| (32 : Int32))), .val (.int (0 : Int32)), .val (.int ((own_c p1) - (48 : Int32))), .val (.int (0 : Int32)), .val (.int (0 : Int32)), .val (.int (0 : Int32))] [(.int (0 : Int32)), (.int (own_N (own_c p1)))])) _
    refine XS.icmpNo X2.here hx rfl (hb hby at_95) rfl (teq hB).2 ?_
    show Steps p.tables e below (T2.setTop (mkF m 98 #[.val (.int p1), .val (.int (own_c p1)), .val (.int (own_c p1)), .val (.int ((own_c p1) ||| (32 : Int32))), .val (.int (0 : Int32)), .val (.int ((own_c p1) - (48 : Int32))), .val (.int (0 : Int32)), .val (.int (0 : Int32)), .val (.int (0 : Int32))] [])) _
    refine XS.iconst X2.here hx rfl (hb hby at_98) ?_
    show Steps p.tables e below (T2.setTop (mkF m 99 #[.val (.int p1), .val (.int (own_c p1)), .val (.int (own_c p1)), .val (.int ((own_c p1) ||| (32 : Int32))), .val (.int (0 : Int32)), .val (.int ((own_c p1) - (48 : Int32))), .val (.int (0 : Int32)), .val (.int (0 : Int32)), .val (.int (0 : Int32))] [(.int (1 : Int32))])) _
    refine XS.goto X2.here hx rfl (pc0 := 99) (pc' := 103) rfl (hb hby at_99) (by decide) (by decide) ?_
    show Steps p.tables e below (T2.setTop (mkF m 103 #[.val (.int p1), .val (.int (own_c p1)), .val (.int (own_c p1)), .val (.int ((own_c p1) ||| (32 : Int32))), .val (.int (0 : Int32)), .val (.int ((own_c p1) - (48 : Int32))), .val (.int (0 : Int32)), .val (.int (0 : Int32)), .val (.int (0 : Int32))] [(.int (1 : Int32))])) _
    exact retN X2 hx (t := .boolean) Bd.returns (by simp) (hb hby at_103) hr
  · show Q0 Z p1 h0 n0 _ T2.heap _
    exact ⟨rfl, N2⟩
set_option maxRecDepth 65536 in
set_option maxHeartbeats 40000000 in
theorem own_rm0_ffftttf (l : Launch) (Z : State) (a0 : Array Value) (hw : ∀ d ∈ tables_1, d.before a0 Z = true) (ws : List Jvm.Cond) (p1 : Int32) (h0 : Heap) (n0 : Nat) (Z0 : n0 ≤ h0.size) (hB : own_N (own_c p1) = (1 : Int32)) (hc13 : ¬ (((own_c p1) ||| (32 : Int32)) < (97 : Int32))) (hc19 : ¬ ((122 : Int32) < ((own_c p1) ||| (32 : Int32)))) (hc37 : ¬ (((own_c p1) - (48 : Int32)) < (0 : Int32))) (hc44 : ¬ (((own_c p1) - (48 : Int32)) < (10 : Int32))) (hc57 : ¬ ((own_c p1) = (95 : Int32))) (hc69 : ¬ ((1 : Int32) = (0 : Int32))) :
    MetFree l x (head1 (Jvm.Cond.code x code maxLocals ret :: ws) room_1) (fun a U => a = #[(.int p1)] ∧ Z.Warmed39 U.vm ∧ U.heap = h0) (fun _ _ _ _ _ => True) (fun _ U o U' => ∃ v L, o = .returned v ∧ Q0 Z p1 h0 n0 v U'.heap L ∧ FrameEnd U o U' L room_1.cells room_1.slots) := by
  refine MetFree.of_bodySF (plainFor_of_name pn_0) hisR ?_
  intro p e s m args below meth c s₁ Bd hml0 hP hK
  obtain ⟨rfl, hZ, hh⟩ := hP
  have hx := Bd.exec
  have hby := Bd.bytes
  have hml : c.maxLocals = 9 := hml0
  have hown : s.vm.findClass "com/example/boxes_into_chains/boxesintochains/LexerContinuesNamePinLaw" = some m.cls := findClass_of_methodNamed Bd.named
  have hnm := (name_of_methodNamed Bd.named Bd.method).1
  have X0 : Stand p l e room_1 s m #[(.int p1)] below meth c s₁ [] 0 0 := Stand.of_body Bd
  have e0 : s₁.heap = h0 := by rw [← hh, Bd.state]; rfl
  have N0 := Fr.nil n0
  have pre0 : ∀ t, Steps p.tables e below (s₁.setTop (mkF m 0 #[.val (.int p1), .unset, .unset, .unset, .unset, .unset, .unset, .unset, .unset] [])) t → Steps p.tables e below (s₁.setTop (entryFrame m #[(.int p1)] maxLocals)) t := fun t k => castTop (ef_0 m p1) k
  obtain ⟨_, _, ⟨T2, L2, k2, n2⟩, -, X2, ⟨Lc2, hQ2, l2, y2, z2⟩, st2⟩ := Jvm.LawKit.callS X0 hx (y := (⟨"com/example/boxes_into_chains/boxesintochains/Lexer", "continuesName", "(C)Z"⟩ : MethodName)) hown (mvT hZ (hw _ (List.mem_of_getElem? (i := 0) rfl))) (mvT hZ (hw _ (List.mem_of_getElem? (i := 1) rfl))) (mvT hZ (hw _ (List.mem_of_getElem? (i := 2) rfl))) (mvT hZ (hw _ (List.mem_of_getElem? (i := 3) rfl))) (by decide) (backOf (W := 0) (rm1 l Z a0 hw [] (own_c p1) h0 n0 Z0) hZ (hw _ (List.mem_of_getElem? (i := 3) rfl)) (hw _ (List.mem_of_getElem? (i := 2) rfl)) (by decide) (by decide)) (g := (mkF m 90 #[.val (.int p1), .val (.int (own_c p1)), .val (.int (own_c p1)), .val (.int ((own_c p1) ||| (32 : Int32))), .val (.int (1 : Int32)), .val (.int ((own_c p1) - (48 : Int32))), .val (.int (0 : Int32)), .val (.int (0 : Int32)), .val (.int (1 : Int32))] [(.int (own_c p1))])) rfl (by rw [hml]; rfl) (argsL := [(.int (own_c p1))]) (rest := []) (lenOf pd_0_0 rfl) rfl (by show 2 * 0 + _ ≤ _; exact Nat.le_of_eq rfl) (hb hby at_90) (fun _ _ => ⟨rfl, e0, (by decide : 0 + 0 ≤ _), (by decide : 0 + 0 ≤ _)⟩)
  dsimp only [Pt.U, Pt.locs, Pt.cells, Pt.slots] at X2 l2 y2 z2 st2 hQ2
  subst l2 y2 z2
  obtain ⟨rfl, N2q, e2⟩ := hQ2
  have N2 := Fr.app N0 N2q
  obtain ⟨fs, hr, hrun, hended, hW, hsame⟩ := X2.leave (v := some (.int (1 : Int32))) (fun h => by rw [Bd.returns] at h; cases h)
  refine ⟨_, _, pre0 _ ?_, hrun, hended, _, _, rfl, ?_, ⟨_, rfl⟩, hW, hsame.mono (by decide) (by decide)⟩
  · show Steps p.tables e below (s₁.setTop (mkF m 0 #[.val (.int p1), .unset, .unset, .unset, .unset, .unset, .unset, .unset, .unset] [])) _
    refine XS.iloadN X0.here hx rfl (hb hby at_0) rfl ?_
    show Steps p.tables e below (s₁.setTop (mkF m 1 #[.val (.int p1), .unset, .unset, .unset, .unset, .unset, .unset, .unset, .unset] [(.int p1)])) _
    refine XS.i2c X0.here hx rfl (hb hby at_1) rfl ?_
    show Steps p.tables e below (s₁.setTop (mkF m 2 #[.val (.int p1), .unset, .unset, .unset, .unset, .unset, .unset, .unset, .unset] [(.int (own_c p1))])) _
    refine XS.istoreN X0.here hx rfl (hb hby at_2) rfl (l' := #[.val (.int p1), .val (.int (own_c p1)), .unset, .unset, .unset, .unset, .unset, .unset, .unset]) rfl ?_
    show Steps p.tables e below (s₁.setTop (mkF m 3 #[.val (.int p1), .val (.int (own_c p1)), .unset, .unset, .unset, .unset, .unset, .unset, .unset] [])) _
    refine XS.iloadN X0.here hx rfl (hb hby at_3) rfl ?_
    show Steps p.tables e below (s₁.setTop (mkF m 4 #[.val (.int p1), .val (.int (own_c p1)), .unset, .unset, .unset, .unset, .unset, .unset, .unset] [(.int (own_c p1))])) _
    refine XS.istoreN X0.here hx rfl (hb hby at_4) rfl (l' := #[.val (.int p1), .val (.int (own_c p1)), .val (.int (own_c p1)), .unset, .unset, .unset, .unset, .unset, .unset]) rfl ?_
    show Steps p.tables e below (s₁.setTop (mkF m 5 #[.val (.int p1), .val (.int (own_c p1)), .val (.int (own_c p1)), .unset, .unset, .unset, .unset, .unset, .unset] [])) _
    refine XS.iloadN X0.here hx rfl (hb hby at_5) rfl ?_
    show Steps p.tables e below (s₁.setTop (mkF m 6 #[.val (.int p1), .val (.int (own_c p1)), .val (.int (own_c p1)), .unset, .unset, .unset, .unset, .unset, .unset] [(.int (own_c p1))])) _
    refine XS.bipush X0.here hx rfl (hb hby at_6) ?_
    show Steps p.tables e below (s₁.setTop (mkF m 8 #[.val (.int p1), .val (.int (own_c p1)), .val (.int (own_c p1)), .unset, .unset, .unset, .unset, .unset, .unset] [(.int (32 : Int32)), (.int (own_c p1))])) _
    refine XS.ior X0.here hx rfl (hb hby at_8) rfl ?_
    show Steps p.tables e below (s₁.setTop (mkF m 9 #[.val (.int p1), .val (.int (own_c p1)), .val (.int (own_c p1)), .unset, .unset, .unset, .unset, .unset, .unset] [(.int ((own_c p1) ||| (32 : Int32)))])) _
    refine XS.istoreN X0.here hx rfl (hb hby at_9) rfl (l' := #[.val (.int p1), .val (.int (own_c p1)), .val (.int (own_c p1)), .val (.int ((own_c p1) ||| (32 : Int32))), .unset, .unset, .unset, .unset, .unset]) rfl ?_
    show Steps p.tables e below (s₁.setTop (mkF m 10 #[.val (.int p1), .val (.int (own_c p1)), .val (.int (own_c p1)), .val (.int ((own_c p1) ||| (32 : Int32))), .unset, .unset, .unset, .unset, .unset] [])) _
    refine XS.iloadN X0.here hx rfl (hb hby at_10) rfl ?_
    show Steps p.tables e below (s₁.setTop (mkF m 11 #[.val (.int p1), .val (.int (own_c p1)), .val (.int (own_c p1)), .val (.int ((own_c p1) ||| (32 : Int32))), .unset, .unset, .unset, .unset, .unset] [(.int ((own_c p1) ||| (32 : Int32)))])) _
    refine XS.bipush X0.here hx rfl (hb hby at_11) ?_
    show Steps p.tables e below (s₁.setTop (mkF m 13 #[.val (.int p1), .val (.int (own_c p1)), .val (.int (own_c p1)), .val (.int ((own_c p1) ||| (32 : Int32))), .unset, .unset, .unset, .unset, .unset] [(.int (97 : Int32)), (.int ((own_c p1) ||| (32 : Int32)))])) _
    refine XS.icmpNo X0.here hx rfl (hb hby at_13) rfl (flt hc13).1 ?_
    show Steps p.tables e below (s₁.setTop (mkF m 16 #[.val (.int p1), .val (.int (own_c p1)), .val (.int (own_c p1)), .val (.int ((own_c p1) ||| (32 : Int32))), .unset, .unset, .unset, .unset, .unset] [])) _
    refine XS.iloadN X0.here hx rfl (hb hby at_16) rfl ?_
    show Steps p.tables e below (s₁.setTop (mkF m 17 #[.val (.int p1), .val (.int (own_c p1)), .val (.int (own_c p1)), .val (.int ((own_c p1) ||| (32 : Int32))), .unset, .unset, .unset, .unset, .unset] [(.int ((own_c p1) ||| (32 : Int32)))])) _
    refine XS.bipush X0.here hx rfl (hb hby at_17) ?_
    show Steps p.tables e below (s₁.setTop (mkF m 19 #[.val (.int p1), .val (.int (own_c p1)), .val (.int (own_c p1)), .val (.int ((own_c p1) ||| (32 : Int32))), .unset, .unset, .unset, .unset, .unset] [(.int (122 : Int32)), (.int ((own_c p1) ||| (32 : Int32)))])) _
    refine XS.icmpNo X0.here hx rfl (hb hby at_19) rfl (flt hc19).2.2.1 ?_
    show Steps p.tables e below (s₁.setTop (mkF m 22 #[.val (.int p1), .val (.int (own_c p1)), .val (.int (own_c p1)), .val (.int ((own_c p1) ||| (32 : Int32))), .unset, .unset, .unset, .unset, .unset] [])) _
    refine XS.iconst X0.here hx rfl (hb hby at_22) ?_
    show Steps p.tables e below (s₁.setTop (mkF m 23 #[.val (.int p1), .val (.int (own_c p1)), .val (.int (own_c p1)), .val (.int ((own_c p1) ||| (32 : Int32))), .unset, .unset, .unset, .unset, .unset] [(.int (1 : Int32))])) _
    refine XS.goto X0.here hx rfl (pc0 := 23) (pc' := 27) rfl (hb hby at_23) (by decide) (by decide) ?_
    show Steps p.tables e below (s₁.setTop (mkF m 27 #[.val (.int p1), .val (.int (own_c p1)), .val (.int (own_c p1)), .val (.int ((own_c p1) ||| (32 : Int32))), .unset, .unset, .unset, .unset, .unset] [(.int (1 : Int32))])) _
    refine XS.istore X0.here hx rfl (hb hby at_27) rfl (l' := #[.val (.int p1), .val (.int (own_c p1)), .val (.int (own_c p1)), .val (.int ((own_c p1) ||| (32 : Int32))), .val (.int (1 : Int32)), .unset, .unset, .unset, .unset]) rfl ?_
    show Steps p.tables e below (s₁.setTop (mkF m 29 #[.val (.int p1), .val (.int (own_c p1)), .val (.int (own_c p1)), .val (.int ((own_c p1) ||| (32 : Int32))), .val (.int (1 : Int32)), .unset, .unset, .unset, .unset] [])) _
    refine XS.iloadN X0.here hx rfl (hb hby at_29) rfl ?_
    show Steps p.tables e below (s₁.setTop (mkF m 30 #[.val (.int p1), .val (.int (own_c p1)), .val (.int (own_c p1)), .val (.int ((own_c p1) ||| (32 : Int32))), .val (.int (1 : Int32)), .unset, .unset, .unset, .unset] [(.int (own_c p1))])) _
    refine XS.bipush X0.here hx rfl (hb hby at_30) ?_
    show Steps p.tables e below (s₁.setTop (mkF m 32 #[.val (.int p1), .val (.int (own_c p1)), .val (.int (own_c p1)), .val (.int ((own_c p1) ||| (32 : Int32))), .val (.int (1 : Int32)), .unset, .unset, .unset, .unset] [(.int (48 : Int32)), (.int (own_c p1))])) _
    refine XS.isub X0.here hx rfl (hb hby at_32) rfl ?_
    show Steps p.tables e below (s₁.setTop (mkF m 33 #[.val (.int p1), .val (.int (own_c p1)), .val (.int (own_c p1)), .val (.int ((own_c p1) ||| (32 : Int32))), .val (.int (1 : Int32)), .unset, .unset, .unset, .unset] [(.int ((own_c p1) - (48 : Int32)))])) _
    refine XS.istore X0.here hx rfl (hb hby at_33) rfl (l' := #[.val (.int p1), .val (.int (own_c p1)), .val (.int (own_c p1)), .val (.int ((own_c p1) ||| (32 : Int32))), .val (.int (1 : Int32)), .val (.int ((own_c p1) - (48 : Int32))), .unset, .unset, .unset]) rfl ?_
    show Steps p.tables e below (s₁.setTop (mkF m 35 #[.val (.int p1), .val (.int (own_c p1)), .val (.int (own_c p1)), .val (.int ((own_c p1) ||| (32 : Int32))), .val (.int (1 : Int32)), .val (.int ((own_c p1) - (48 : Int32))), .unset, .unset, .unset] [])) _
    refine XS.iload X0.here hx rfl (hb hby at_35) rfl ?_
    show Steps p.tables e below (s₁.setTop (mkF m 37 #[.val (.int p1), .val (.int (own_c p1)), .val (.int (own_c p1)), .val (.int ((own_c p1) ||| (32 : Int32))), .val (.int (1 : Int32)), .val (.int ((own_c p1) - (48 : Int32))), .unset, .unset, .unset] [(.int ((own_c p1) - (48 : Int32)))])) _
    refine XS.ifNo X0.here hx rfl (hb hby at_37) rfl ((if0 _ _).trans (flt hc37).1) ?_
    show Steps p.tables e below (s₁.setTop (mkF m 40 #[.val (.int p1), .val (.int (own_c p1)), .val (.int (own_c p1)), .val (.int ((own_c p1) ||| (32 : Int32))), .val (.int (1 : Int32)), .val (.int ((own_c p1) - (48 : Int32))), .unset, .unset, .unset] [])) _
    refine XS.iload X0.here hx rfl (hb hby at_40) rfl ?_
    show Steps p.tables e below (s₁.setTop (mkF m 42 #[.val (.int p1), .val (.int (own_c p1)), .val (.int (own_c p1)), .val (.int ((own_c p1) ||| (32 : Int32))), .val (.int (1 : Int32)), .val (.int ((own_c p1) - (48 : Int32))), .unset, .unset, .unset] [(.int ((own_c p1) - (48 : Int32)))])) _
    refine XS.bipush X0.here hx rfl (hb hby at_42) ?_
    show Steps p.tables e below (s₁.setTop (mkF m 44 #[.val (.int p1), .val (.int (own_c p1)), .val (.int (own_c p1)), .val (.int ((own_c p1) ||| (32 : Int32))), .val (.int (1 : Int32)), .val (.int ((own_c p1) - (48 : Int32))), .unset, .unset, .unset] [(.int (10 : Int32)), (.int ((own_c p1) - (48 : Int32)))])) _
    refine XS.icmpYes X0.here hx rfl (pc0 := 44) (pc' := 51) rfl (hb hby at_44) rfl (flt hc44).2.1 (by decide) (by decide) ?_
    show Steps p.tables e below (s₁.setTop (mkF m 51 #[.val (.int p1), .val (.int (own_c p1)), .val (.int (own_c p1)), .val (.int ((own_c p1) ||| (32 : Int32))), .val (.int (1 : Int32)), .val (.int ((own_c p1) - (48 : Int32))), .unset, .unset, .unset] [])) _
    refine XS.iconst X0.here hx rfl (hb hby at_51) ?_
    show Steps p.tables e below (s₁.setTop (mkF m 52 #[.val (.int p1), .val (.int (own_c p1)), .val (.int (own_c p1)), .val (.int ((own_c p1) ||| (32 : Int32))), .val (.int (1 : Int32)), .val (.int ((own_c p1) - (48 : Int32))), .unset, .unset, .unset] [(.int (0 : Int32))])) _
    refine XS.istore X0.here hx rfl (hb hby at_52) rfl (l' := #[.val (.int p1), .val (.int (own_c p1)), .val (.int (own_c p1)), .val (.int ((own_c p1) ||| (32 : Int32))), .val (.int (1 : Int32)), .val (.int ((own_c p1) - (48 : Int32))), .val (.int (0 : Int32)), .unset, .unset]) rfl ?_
    show Steps p.tables e below (s₁.setTop (mkF m 54 #[.val (.int p1), .val (.int (own_c p1)), .val (.int (own_c p1)), .val (.int ((own_c p1) ||| (32 : Int32))), .val (.int (1 : Int32)), .val (.int ((own_c p1) - (48 : Int32))), .val (.int (0 : Int32)), .unset, .unset] [])) _
    refine XS.iloadN X0.here hx rfl (hb hby at_54) rfl ?_
    show Steps p.tables e below (s₁.setTop (mkF m 55 #[.val (.int p1), .val (.int (own_c p1)), .val (.int (own_c p1)), .val (.int ((own_c p1) ||| (32 : Int32))), .val (.int (1 : Int32)), .val (.int ((own_c p1) - (48 : Int32))), .val (.int (0 : Int32)), .unset, .unset] [(.int (own_c p1))])) _
    refine XS.bipush X0.here hx rfl (hb hby at_55) ?_
    show Steps p.tables e below (s₁.setTop (mkF m 57 #[.val (.int p1), .val (.int (own_c p1)), .val (.int (own_c p1)), .val (.int ((own_c p1) ||| (32 : Int32))), .val (.int (1 : Int32)), .val (.int ((own_c p1) - (48 : Int32))), .val (.int (0 : Int32)), .unset, .unset] [(.int (95 : Int32)), (.int (own_c p1))])) _
    refine XS.icmpYes X0.here hx rfl (pc0 := 57) (pc' := 64) rfl (hb hby at_57) rfl (feq hc57).2 (by decide) (by decide) ?_
    show Steps p.tables e below (s₁.setTop (mkF m 64 #[.val (.int p1), .val (.int (own_c p1)), .val (.int (own_c p1)), .val (.int ((own_c p1) ||| (32 : Int32))), .val (.int (1 : Int32)), .val (.int ((own_c p1) - (48 : Int32))), .val (.int (0 : Int32)), .unset, .unset] [])) _
    refine XS.iconst X0.here hx rfl (hb hby at_64) ?_
    show Steps p.tables e below (s₁.setTop (mkF m 65 #[.val (.int p1), .val (.int (own_c p1)), .val (.int (own_c p1)), .val (.int ((own_c p1) ||| (32 : Int32))), .val (.int (1 : Int32)), .val (.int ((own_c p1) - (48 : Int32))), .val (.int (0 : Int32)), .unset, .unset] [(.int (0 : Int32))])) _
    refine XS.istore X0.here hx rfl (hb hby at_65) rfl (l' := #[.val (.int p1), .val (.int (own_c p1)), .val (.int (own_c p1)), .val (.int ((own_c p1) ||| (32 : Int32))), .val (.int (1 : Int32)), .val (.int ((own_c p1) - (48 : Int32))), .val (.int (0 : Int32)), .val (.int (0 : Int32)), .unset]) rfl ?_
    show Steps p.tables e below (s₁.setTop (mkF m 67 #[.val (.int p1), .val (.int (own_c p1)), .val (.int (own_c p1)), .val (.int ((own_c p1) ||| (32 : Int32))), .val (.int (1 : Int32)), .val (.int ((own_c p1) - (48 : Int32))), .val (.int (0 : Int32)), .val (.int (0 : Int32)), .unset] [])) _
    refine XS.iload X0.here hx rfl (hb hby at_67) rfl ?_
    show Steps p.tables e below (s₁.setTop (mkF m 69 #[.val (.int p1), .val (.int (own_c p1)), .val (.int (own_c p1)), .val (.int ((own_c p1) ||| (32 : Int32))), .val (.int (1 : Int32)), .val (.int ((own_c p1) - (48 : Int32))), .val (.int (0 : Int32)), .val (.int (0 : Int32)), .unset] [(.int (1 : Int32))])) _
    refine XS.ifYes X0.here hx rfl (pc0 := 69) (pc' := 82) rfl (hb hby at_69) rfl ((if0 _ _).trans (feq hc69).2) (by decide) (by decide) ?_
    show Steps p.tables e below (s₁.setTop (mkF m 82 #[.val (.int p1), .val (.int (own_c p1)), .val (.int (own_c p1)), .val (.int ((own_c p1) ||| (32 : Int32))), .val (.int (1 : Int32)), .val (.int ((own_c p1) - (48 : Int32))), .val (.int (0 : Int32)), .val (.int (0 : Int32)), .unset] [])) _
    refine XS.iconst X0.here hx rfl (hb hby at_82) ?_
    show Steps p.tables e below (s₁.setTop (mkF m 83 #[.val (.int p1), .val (.int (own_c p1)), .val (.int (own_c p1)), .val (.int ((own_c p1) ||| (32 : Int32))), .val (.int (1 : Int32)), .val (.int ((own_c p1) - (48 : Int32))), .val (.int (0 : Int32)), .val (.int (0 : Int32)), .unset] [(.int (1 : Int32))])) _
    refine XS.goto X0.here hx rfl (pc0 := 83) (pc' := 87) rfl (hb hby at_83) (by decide) (by decide) ?_
    show Steps p.tables e below (s₁.setTop (mkF m 87 #[.val (.int p1), .val (.int (own_c p1)), .val (.int (own_c p1)), .val (.int ((own_c p1) ||| (32 : Int32))), .val (.int (1 : Int32)), .val (.int ((own_c p1) - (48 : Int32))), .val (.int (0 : Int32)), .val (.int (0 : Int32)), .unset] [(.int (1 : Int32))])) _
    refine XS.istore X0.here hx rfl (hb hby at_87) rfl (l' := #[.val (.int p1), .val (.int (own_c p1)), .val (.int (own_c p1)), .val (.int ((own_c p1) ||| (32 : Int32))), .val (.int (1 : Int32)), .val (.int ((own_c p1) - (48 : Int32))), .val (.int (0 : Int32)), .val (.int (0 : Int32)), .val (.int (1 : Int32))]) rfl ?_
    show Steps p.tables e below (s₁.setTop (mkF m 89 #[.val (.int p1), .val (.int (own_c p1)), .val (.int (own_c p1)), .val (.int ((own_c p1) ||| (32 : Int32))), .val (.int (1 : Int32)), .val (.int ((own_c p1) - (48 : Int32))), .val (.int (0 : Int32)), .val (.int (0 : Int32)), .val (.int (1 : Int32))] [])) _
    refine XS.iloadN X0.here hx rfl (hb hby at_89) rfl ?_
    show Steps p.tables e below (s₁.setTop (mkF m 90 #[.val (.int p1), .val (.int (own_c p1)), .val (.int (own_c p1)), .val (.int ((own_c p1) ||| (32 : Int32))), .val (.int (1 : Int32)), .val (.int ((own_c p1) - (48 : Int32))), .val (.int (0 : Int32)), .val (.int (0 : Int32)), .val (.int (1 : Int32))] [(.int (own_c p1))])) _
    refine st2 _ ?_
    show Steps p.tables e below (T2.setTop (mkF m 93 #[.val (.int p1), .val (.int (own_c p1)), .val (.int (own_c p1)), .val (.int ((own_c p1) ||| (32 : Int32))), .val (.int (1 : Int32)), .val (.int ((own_c p1) - (48 : Int32))), .val (.int (0 : Int32)), .val (.int (0 : Int32)), .val (.int (1 : Int32))] [(.int (own_N (own_c p1)))])) _
    refine XS.iload X2.here hx rfl (hb hby at_93) rfl ?_
    show Steps p.tables e below (T2.setTop (mkF m 95 #[.val (.int p1), .val (.int (own_c p1)), .val (.int (own_c p1)), .val (.int ((own_c p1) ||| (32 : Int32))), .val (.int (1 : Int32)), .val (.int ((own_c p1) - (48 : Int32))), .val (.int (0 : Int32)), .val (.int (0 : Int32)), .val (.int (1 : Int32))] [(.int (1 : Int32)), (.int (own_N (own_c p1)))])) _
    refine XS.icmpNo X2.here hx rfl (hb hby at_95) rfl (teq hB).2 ?_
    show Steps p.tables e below (T2.setTop (mkF m 98 #[.val (.int p1), .val (.int (own_c p1)), .val (.int (own_c p1)), .val (.int ((own_c p1) ||| (32 : Int32))), .val (.int (1 : Int32)), .val (.int ((own_c p1) - (48 : Int32))), .val (.int (0 : Int32)), .val (.int (0 : Int32)), .val (.int (1 : Int32))] [])) _
    refine XS.iconst X2.here hx rfl (hb hby at_98) ?_
    show Steps p.tables e below (T2.setTop (mkF m 99 #[.val (.int p1), .val (.int (own_c p1)), .val (.int (own_c p1)), .val (.int ((own_c p1) ||| (32 : Int32))), .val (.int (1 : Int32)), .val (.int ((own_c p1) - (48 : Int32))), .val (.int (0 : Int32)), .val (.int (0 : Int32)), .val (.int (1 : Int32))] [(.int (1 : Int32))])) _
    refine XS.goto X2.here hx rfl (pc0 := 99) (pc' := 103) rfl (hb hby at_99) (by decide) (by decide) ?_
    show Steps p.tables e below (T2.setTop (mkF m 103 #[.val (.int p1), .val (.int (own_c p1)), .val (.int (own_c p1)), .val (.int ((own_c p1) ||| (32 : Int32))), .val (.int (1 : Int32)), .val (.int ((own_c p1) - (48 : Int32))), .val (.int (0 : Int32)), .val (.int (0 : Int32)), .val (.int (1 : Int32))] [(.int (1 : Int32))])) _
    exact retN X2 hx (t := .boolean) Bd.returns (by simp) (hb hby at_103) hr
  · show Q0 Z p1 h0 n0 _ T2.heap _
    exact ⟨rfl, N2⟩
set_option maxRecDepth 65536 in
set_option maxHeartbeats 40000000 in
theorem own_rm0_ftfttfftf (l : Launch) (Z : State) (a0 : Array Value) (hw : ∀ d ∈ tables_1, d.before a0 Z = true) (ws : List Jvm.Cond) (p1 : Int32) (h0 : Heap) (n0 : Nat) (Z0 : n0 ≤ h0.size) (hB : own_N (own_c p1) = (0 : Int32)) (hc13 : ¬ (((own_c p1) ||| (32 : Int32)) < (97 : Int32))) (hc19 : (122 : Int32) < ((own_c p1) ||| (32 : Int32))) (hc37 : ¬ (((own_c p1) - (48 : Int32)) < (0 : Int32))) (hc44 : ¬ (((own_c p1) - (48 : Int32)) < (10 : Int32))) (hc57 : ¬ ((own_c p1) = (95 : Int32))) :
    MetFree l x (head1 (Jvm.Cond.code x code maxLocals ret :: ws) room_1) (fun a U => a = #[(.int p1)] ∧ Z.Warmed39 U.vm ∧ U.heap = h0) (fun _ _ _ _ _ => True) (fun _ U o U' => ∃ v L, o = .returned v ∧ Q0 Z p1 h0 n0 v U'.heap L ∧ FrameEnd U o U' L room_1.cells room_1.slots) := by
  refine MetFree.of_bodySF (plainFor_of_name pn_0) hisR ?_
  intro p e s m args below meth c s₁ Bd hml0 hP hK
  obtain ⟨rfl, hZ, hh⟩ := hP
  have hx := Bd.exec
  have hby := Bd.bytes
  have hml : c.maxLocals = 9 := hml0
  have hown : s.vm.findClass "com/example/boxes_into_chains/boxesintochains/LexerContinuesNamePinLaw" = some m.cls := findClass_of_methodNamed Bd.named
  have hnm := (name_of_methodNamed Bd.named Bd.method).1
  have X0 : Stand p l e room_1 s m #[(.int p1)] below meth c s₁ [] 0 0 := Stand.of_body Bd
  have e0 : s₁.heap = h0 := by rw [← hh, Bd.state]; rfl
  have N0 := Fr.nil n0
  have pre0 : ∀ t, Steps p.tables e below (s₁.setTop (mkF m 0 #[.val (.int p1), .unset, .unset, .unset, .unset, .unset, .unset, .unset, .unset] [])) t → Steps p.tables e below (s₁.setTop (entryFrame m #[(.int p1)] maxLocals)) t := fun t k => castTop (ef_0 m p1) k
  obtain ⟨_, _, ⟨T2, L2, k2, n2⟩, -, X2, ⟨Lc2, hQ2, l2, y2, z2⟩, st2⟩ := Jvm.LawKit.callS X0 hx (y := (⟨"com/example/boxes_into_chains/boxesintochains/Lexer", "continuesName", "(C)Z"⟩ : MethodName)) hown (mvT hZ (hw _ (List.mem_of_getElem? (i := 0) rfl))) (mvT hZ (hw _ (List.mem_of_getElem? (i := 1) rfl))) (mvT hZ (hw _ (List.mem_of_getElem? (i := 2) rfl))) (mvT hZ (hw _ (List.mem_of_getElem? (i := 3) rfl))) (by decide) (backOf (W := 0) (rm1 l Z a0 hw [] (own_c p1) h0 n0 Z0) hZ (hw _ (List.mem_of_getElem? (i := 3) rfl)) (hw _ (List.mem_of_getElem? (i := 2) rfl)) (by decide) (by decide)) (g := (mkF m 90 #[.val (.int p1), .val (.int (own_c p1)), .val (.int (own_c p1)), .val (.int ((own_c p1) ||| (32 : Int32))), .val (.int (0 : Int32)), .val (.int ((own_c p1) - (48 : Int32))), .val (.int (0 : Int32)), .val (.int (0 : Int32)), .val (.int (0 : Int32))] [(.int (own_c p1))])) rfl (by rw [hml]; rfl) (argsL := [(.int (own_c p1))]) (rest := []) (lenOf pd_0_0 rfl) rfl (by show 2 * 0 + _ ≤ _; exact Nat.le_of_eq rfl) (hb hby at_90) (fun _ _ => ⟨rfl, e0, (by decide : 0 + 0 ≤ _), (by decide : 0 + 0 ≤ _)⟩)
  dsimp only [Pt.U, Pt.locs, Pt.cells, Pt.slots] at X2 l2 y2 z2 st2 hQ2
  subst l2 y2 z2
  obtain ⟨rfl, N2q, e2⟩ := hQ2
  have N2 := Fr.app N0 N2q
  obtain ⟨fs, hr, hrun, hended, hW, hsame⟩ := X2.leave (v := some (.int (1 : Int32))) (fun h => by rw [Bd.returns] at h; cases h)
  refine ⟨_, _, pre0 _ ?_, hrun, hended, _, _, rfl, ?_, ⟨_, rfl⟩, hW, hsame.mono (by decide) (by decide)⟩
  · show Steps p.tables e below (s₁.setTop (mkF m 0 #[.val (.int p1), .unset, .unset, .unset, .unset, .unset, .unset, .unset, .unset] [])) _
    refine XS.iloadN X0.here hx rfl (hb hby at_0) rfl ?_
    show Steps p.tables e below (s₁.setTop (mkF m 1 #[.val (.int p1), .unset, .unset, .unset, .unset, .unset, .unset, .unset, .unset] [(.int p1)])) _
    refine XS.i2c X0.here hx rfl (hb hby at_1) rfl ?_
    show Steps p.tables e below (s₁.setTop (mkF m 2 #[.val (.int p1), .unset, .unset, .unset, .unset, .unset, .unset, .unset, .unset] [(.int (own_c p1))])) _
    refine XS.istoreN X0.here hx rfl (hb hby at_2) rfl (l' := #[.val (.int p1), .val (.int (own_c p1)), .unset, .unset, .unset, .unset, .unset, .unset, .unset]) rfl ?_
    show Steps p.tables e below (s₁.setTop (mkF m 3 #[.val (.int p1), .val (.int (own_c p1)), .unset, .unset, .unset, .unset, .unset, .unset, .unset] [])) _
    refine XS.iloadN X0.here hx rfl (hb hby at_3) rfl ?_
    show Steps p.tables e below (s₁.setTop (mkF m 4 #[.val (.int p1), .val (.int (own_c p1)), .unset, .unset, .unset, .unset, .unset, .unset, .unset] [(.int (own_c p1))])) _
    refine XS.istoreN X0.here hx rfl (hb hby at_4) rfl (l' := #[.val (.int p1), .val (.int (own_c p1)), .val (.int (own_c p1)), .unset, .unset, .unset, .unset, .unset, .unset]) rfl ?_
    show Steps p.tables e below (s₁.setTop (mkF m 5 #[.val (.int p1), .val (.int (own_c p1)), .val (.int (own_c p1)), .unset, .unset, .unset, .unset, .unset, .unset] [])) _
    refine XS.iloadN X0.here hx rfl (hb hby at_5) rfl ?_
    show Steps p.tables e below (s₁.setTop (mkF m 6 #[.val (.int p1), .val (.int (own_c p1)), .val (.int (own_c p1)), .unset, .unset, .unset, .unset, .unset, .unset] [(.int (own_c p1))])) _
    refine XS.bipush X0.here hx rfl (hb hby at_6) ?_
    show Steps p.tables e below (s₁.setTop (mkF m 8 #[.val (.int p1), .val (.int (own_c p1)), .val (.int (own_c p1)), .unset, .unset, .unset, .unset, .unset, .unset] [(.int (32 : Int32)), (.int (own_c p1))])) _
    refine XS.ior X0.here hx rfl (hb hby at_8) rfl ?_
    show Steps p.tables e below (s₁.setTop (mkF m 9 #[.val (.int p1), .val (.int (own_c p1)), .val (.int (own_c p1)), .unset, .unset, .unset, .unset, .unset, .unset] [(.int ((own_c p1) ||| (32 : Int32)))])) _
    refine XS.istoreN X0.here hx rfl (hb hby at_9) rfl (l' := #[.val (.int p1), .val (.int (own_c p1)), .val (.int (own_c p1)), .val (.int ((own_c p1) ||| (32 : Int32))), .unset, .unset, .unset, .unset, .unset]) rfl ?_
    show Steps p.tables e below (s₁.setTop (mkF m 10 #[.val (.int p1), .val (.int (own_c p1)), .val (.int (own_c p1)), .val (.int ((own_c p1) ||| (32 : Int32))), .unset, .unset, .unset, .unset, .unset] [])) _
    refine XS.iloadN X0.here hx rfl (hb hby at_10) rfl ?_
    show Steps p.tables e below (s₁.setTop (mkF m 11 #[.val (.int p1), .val (.int (own_c p1)), .val (.int (own_c p1)), .val (.int ((own_c p1) ||| (32 : Int32))), .unset, .unset, .unset, .unset, .unset] [(.int ((own_c p1) ||| (32 : Int32)))])) _
    refine XS.bipush X0.here hx rfl (hb hby at_11) ?_
    show Steps p.tables e below (s₁.setTop (mkF m 13 #[.val (.int p1), .val (.int (own_c p1)), .val (.int (own_c p1)), .val (.int ((own_c p1) ||| (32 : Int32))), .unset, .unset, .unset, .unset, .unset] [(.int (97 : Int32)), (.int ((own_c p1) ||| (32 : Int32)))])) _
    refine XS.icmpNo X0.here hx rfl (hb hby at_13) rfl (flt hc13).1 ?_
    show Steps p.tables e below (s₁.setTop (mkF m 16 #[.val (.int p1), .val (.int (own_c p1)), .val (.int (own_c p1)), .val (.int ((own_c p1) ||| (32 : Int32))), .unset, .unset, .unset, .unset, .unset] [])) _
    refine XS.iloadN X0.here hx rfl (hb hby at_16) rfl ?_
    show Steps p.tables e below (s₁.setTop (mkF m 17 #[.val (.int p1), .val (.int (own_c p1)), .val (.int (own_c p1)), .val (.int ((own_c p1) ||| (32 : Int32))), .unset, .unset, .unset, .unset, .unset] [(.int ((own_c p1) ||| (32 : Int32)))])) _
    refine XS.bipush X0.here hx rfl (hb hby at_17) ?_
    show Steps p.tables e below (s₁.setTop (mkF m 19 #[.val (.int p1), .val (.int (own_c p1)), .val (.int (own_c p1)), .val (.int ((own_c p1) ||| (32 : Int32))), .unset, .unset, .unset, .unset, .unset] [(.int (122 : Int32)), (.int ((own_c p1) ||| (32 : Int32)))])) _
    refine XS.icmpYes X0.here hx rfl (pc0 := 19) (pc' := 26) rfl (hb hby at_19) rfl (tlt hc19).2.2.1 (by decide) (by decide) ?_
    show Steps p.tables e below (s₁.setTop (mkF m 26 #[.val (.int p1), .val (.int (own_c p1)), .val (.int (own_c p1)), .val (.int ((own_c p1) ||| (32 : Int32))), .unset, .unset, .unset, .unset, .unset] [])) _
    refine XS.iconst X0.here hx rfl (hb hby at_26) ?_
    show Steps p.tables e below (s₁.setTop (mkF m 27 #[.val (.int p1), .val (.int (own_c p1)), .val (.int (own_c p1)), .val (.int ((own_c p1) ||| (32 : Int32))), .unset, .unset, .unset, .unset, .unset] [(.int (0 : Int32))])) _
    refine XS.istore X0.here hx rfl (hb hby at_27) rfl (l' := #[.val (.int p1), .val (.int (own_c p1)), .val (.int (own_c p1)), .val (.int ((own_c p1) ||| (32 : Int32))), .val (.int (0 : Int32)), .unset, .unset, .unset, .unset]) rfl ?_
    show Steps p.tables e below (s₁.setTop (mkF m 29 #[.val (.int p1), .val (.int (own_c p1)), .val (.int (own_c p1)), .val (.int ((own_c p1) ||| (32 : Int32))), .val (.int (0 : Int32)), .unset, .unset, .unset, .unset] [])) _
    refine XS.iloadN X0.here hx rfl (hb hby at_29) rfl ?_
    show Steps p.tables e below (s₁.setTop (mkF m 30 #[.val (.int p1), .val (.int (own_c p1)), .val (.int (own_c p1)), .val (.int ((own_c p1) ||| (32 : Int32))), .val (.int (0 : Int32)), .unset, .unset, .unset, .unset] [(.int (own_c p1))])) _
    refine XS.bipush X0.here hx rfl (hb hby at_30) ?_
    show Steps p.tables e below (s₁.setTop (mkF m 32 #[.val (.int p1), .val (.int (own_c p1)), .val (.int (own_c p1)), .val (.int ((own_c p1) ||| (32 : Int32))), .val (.int (0 : Int32)), .unset, .unset, .unset, .unset] [(.int (48 : Int32)), (.int (own_c p1))])) _
    refine XS.isub X0.here hx rfl (hb hby at_32) rfl ?_
    show Steps p.tables e below (s₁.setTop (mkF m 33 #[.val (.int p1), .val (.int (own_c p1)), .val (.int (own_c p1)), .val (.int ((own_c p1) ||| (32 : Int32))), .val (.int (0 : Int32)), .unset, .unset, .unset, .unset] [(.int ((own_c p1) - (48 : Int32)))])) _
    refine XS.istore X0.here hx rfl (hb hby at_33) rfl (l' := #[.val (.int p1), .val (.int (own_c p1)), .val (.int (own_c p1)), .val (.int ((own_c p1) ||| (32 : Int32))), .val (.int (0 : Int32)), .val (.int ((own_c p1) - (48 : Int32))), .unset, .unset, .unset]) rfl ?_
    show Steps p.tables e below (s₁.setTop (mkF m 35 #[.val (.int p1), .val (.int (own_c p1)), .val (.int (own_c p1)), .val (.int ((own_c p1) ||| (32 : Int32))), .val (.int (0 : Int32)), .val (.int ((own_c p1) - (48 : Int32))), .unset, .unset, .unset] [])) _
    refine XS.iload X0.here hx rfl (hb hby at_35) rfl ?_
    show Steps p.tables e below (s₁.setTop (mkF m 37 #[.val (.int p1), .val (.int (own_c p1)), .val (.int (own_c p1)), .val (.int ((own_c p1) ||| (32 : Int32))), .val (.int (0 : Int32)), .val (.int ((own_c p1) - (48 : Int32))), .unset, .unset, .unset] [(.int ((own_c p1) - (48 : Int32)))])) _
    refine XS.ifNo X0.here hx rfl (hb hby at_37) rfl ((if0 _ _).trans (flt hc37).1) ?_
    show Steps p.tables e below (s₁.setTop (mkF m 40 #[.val (.int p1), .val (.int (own_c p1)), .val (.int (own_c p1)), .val (.int ((own_c p1) ||| (32 : Int32))), .val (.int (0 : Int32)), .val (.int ((own_c p1) - (48 : Int32))), .unset, .unset, .unset] [])) _
    refine XS.iload X0.here hx rfl (hb hby at_40) rfl ?_
    show Steps p.tables e below (s₁.setTop (mkF m 42 #[.val (.int p1), .val (.int (own_c p1)), .val (.int (own_c p1)), .val (.int ((own_c p1) ||| (32 : Int32))), .val (.int (0 : Int32)), .val (.int ((own_c p1) - (48 : Int32))), .unset, .unset, .unset] [(.int ((own_c p1) - (48 : Int32)))])) _
    refine XS.bipush X0.here hx rfl (hb hby at_42) ?_
    show Steps p.tables e below (s₁.setTop (mkF m 44 #[.val (.int p1), .val (.int (own_c p1)), .val (.int (own_c p1)), .val (.int ((own_c p1) ||| (32 : Int32))), .val (.int (0 : Int32)), .val (.int ((own_c p1) - (48 : Int32))), .unset, .unset, .unset] [(.int (10 : Int32)), (.int ((own_c p1) - (48 : Int32)))])) _
    refine XS.icmpYes X0.here hx rfl (pc0 := 44) (pc' := 51) rfl (hb hby at_44) rfl (flt hc44).2.1 (by decide) (by decide) ?_
    show Steps p.tables e below (s₁.setTop (mkF m 51 #[.val (.int p1), .val (.int (own_c p1)), .val (.int (own_c p1)), .val (.int ((own_c p1) ||| (32 : Int32))), .val (.int (0 : Int32)), .val (.int ((own_c p1) - (48 : Int32))), .unset, .unset, .unset] [])) _
    refine XS.iconst X0.here hx rfl (hb hby at_51) ?_
    show Steps p.tables e below (s₁.setTop (mkF m 52 #[.val (.int p1), .val (.int (own_c p1)), .val (.int (own_c p1)), .val (.int ((own_c p1) ||| (32 : Int32))), .val (.int (0 : Int32)), .val (.int ((own_c p1) - (48 : Int32))), .unset, .unset, .unset] [(.int (0 : Int32))])) _
    refine XS.istore X0.here hx rfl (hb hby at_52) rfl (l' := #[.val (.int p1), .val (.int (own_c p1)), .val (.int (own_c p1)), .val (.int ((own_c p1) ||| (32 : Int32))), .val (.int (0 : Int32)), .val (.int ((own_c p1) - (48 : Int32))), .val (.int (0 : Int32)), .unset, .unset]) rfl ?_
    show Steps p.tables e below (s₁.setTop (mkF m 54 #[.val (.int p1), .val (.int (own_c p1)), .val (.int (own_c p1)), .val (.int ((own_c p1) ||| (32 : Int32))), .val (.int (0 : Int32)), .val (.int ((own_c p1) - (48 : Int32))), .val (.int (0 : Int32)), .unset, .unset] [])) _
    refine XS.iloadN X0.here hx rfl (hb hby at_54) rfl ?_
    show Steps p.tables e below (s₁.setTop (mkF m 55 #[.val (.int p1), .val (.int (own_c p1)), .val (.int (own_c p1)), .val (.int ((own_c p1) ||| (32 : Int32))), .val (.int (0 : Int32)), .val (.int ((own_c p1) - (48 : Int32))), .val (.int (0 : Int32)), .unset, .unset] [(.int (own_c p1))])) _
    refine XS.bipush X0.here hx rfl (hb hby at_55) ?_
    show Steps p.tables e below (s₁.setTop (mkF m 57 #[.val (.int p1), .val (.int (own_c p1)), .val (.int (own_c p1)), .val (.int ((own_c p1) ||| (32 : Int32))), .val (.int (0 : Int32)), .val (.int ((own_c p1) - (48 : Int32))), .val (.int (0 : Int32)), .unset, .unset] [(.int (95 : Int32)), (.int (own_c p1))])) _
    refine XS.icmpYes X0.here hx rfl (pc0 := 57) (pc' := 64) rfl (hb hby at_57) rfl (feq hc57).2 (by decide) (by decide) ?_
    show Steps p.tables e below (s₁.setTop (mkF m 64 #[.val (.int p1), .val (.int (own_c p1)), .val (.int (own_c p1)), .val (.int ((own_c p1) ||| (32 : Int32))), .val (.int (0 : Int32)), .val (.int ((own_c p1) - (48 : Int32))), .val (.int (0 : Int32)), .unset, .unset] [])) _
    refine XS.iconst X0.here hx rfl (hb hby at_64) ?_
    show Steps p.tables e below (s₁.setTop (mkF m 65 #[.val (.int p1), .val (.int (own_c p1)), .val (.int (own_c p1)), .val (.int ((own_c p1) ||| (32 : Int32))), .val (.int (0 : Int32)), .val (.int ((own_c p1) - (48 : Int32))), .val (.int (0 : Int32)), .unset, .unset] [(.int (0 : Int32))])) _
    refine XS.istore X0.here hx rfl (hb hby at_65) rfl (l' := #[.val (.int p1), .val (.int (own_c p1)), .val (.int (own_c p1)), .val (.int ((own_c p1) ||| (32 : Int32))), .val (.int (0 : Int32)), .val (.int ((own_c p1) - (48 : Int32))), .val (.int (0 : Int32)), .val (.int (0 : Int32)), .unset]) rfl ?_
    show Steps p.tables e below (s₁.setTop (mkF m 67 #[.val (.int p1), .val (.int (own_c p1)), .val (.int (own_c p1)), .val (.int ((own_c p1) ||| (32 : Int32))), .val (.int (0 : Int32)), .val (.int ((own_c p1) - (48 : Int32))), .val (.int (0 : Int32)), .val (.int (0 : Int32)), .unset] [])) _
    refine XS.iload X0.here hx rfl (hb hby at_67) rfl ?_
    show Steps p.tables e below (s₁.setTop (mkF m 69 #[.val (.int p1), .val (.int (own_c p1)), .val (.int (own_c p1)), .val (.int ((own_c p1) ||| (32 : Int32))), .val (.int (0 : Int32)), .val (.int ((own_c p1) - (48 : Int32))), .val (.int (0 : Int32)), .val (.int (0 : Int32)), .unset] [(.int (0 : Int32))])) _
    refine XS.ifNo X0.here hx rfl (hb hby at_69) rfl ((if0 _ _).trans (teq (rfl : (0 : Int32) = (0 : Int32))).2) ?_
    show Steps p.tables e below (s₁.setTop (mkF m 72 #[.val (.int p1), .val (.int (own_c p1)), .val (.int (own_c p1)), .val (.int ((own_c p1) ||| (32 : Int32))), .val (.int (0 : Int32)), .val (.int ((own_c p1) - (48 : Int32))), .val (.int (0 : Int32)), .val (.int (0 : Int32)), .unset] [])) _
    refine XS.iload X0.here hx rfl (hb hby at_72) rfl ?_
    show Steps p.tables e below (s₁.setTop (mkF m 74 #[.val (.int p1), .val (.int (own_c p1)), .val (.int (own_c p1)), .val (.int ((own_c p1) ||| (32 : Int32))), .val (.int (0 : Int32)), .val (.int ((own_c p1) - (48 : Int32))), .val (.int (0 : Int32)), .val (.int (0 : Int32)), .unset] [(.int (0 : Int32))])) _
    refine XS.ifNo X0.here hx rfl (hb hby at_74) rfl ((if0 _ _).trans (teq (rfl : (0 : Int32) = (0 : Int32))).2) ?_
    show Steps p.tables e below (s₁.setTop (mkF m 77 #[.val (.int p1), .val (.int (own_c p1)), .val (.int (own_c p1)), .val (.int ((own_c p1) ||| (32 : Int32))), .val (.int (0 : Int32)), .val (.int ((own_c p1) - (48 : Int32))), .val (.int (0 : Int32)), .val (.int (0 : Int32)), .unset] [])) _
    refine XS.iload X0.here hx rfl (hb hby at_77) rfl ?_
    show Steps p.tables e below (s₁.setTop (mkF m 79 #[.val (.int p1), .val (.int (own_c p1)), .val (.int (own_c p1)), .val (.int ((own_c p1) ||| (32 : Int32))), .val (.int (0 : Int32)), .val (.int ((own_c p1) - (48 : Int32))), .val (.int (0 : Int32)), .val (.int (0 : Int32)), .unset] [(.int (0 : Int32))])) _
    refine XS.ifYes X0.here hx rfl (pc0 := 79) (pc' := 86) rfl (hb hby at_79) rfl ((if0 _ _).trans (teq (rfl : (0 : Int32) = (0 : Int32))).1) (by decide) (by decide) ?_
    show Steps p.tables e below (s₁.setTop (mkF m 86 #[.val (.int p1), .val (.int (own_c p1)), .val (.int (own_c p1)), .val (.int ((own_c p1) ||| (32 : Int32))), .val (.int (0 : Int32)), .val (.int ((own_c p1) - (48 : Int32))), .val (.int (0 : Int32)), .val (.int (0 : Int32)), .unset] [])) _
    refine XS.iconst X0.here hx rfl (hb hby at_86) ?_
    show Steps p.tables e below (s₁.setTop (mkF m 87 #[.val (.int p1), .val (.int (own_c p1)), .val (.int (own_c p1)), .val (.int ((own_c p1) ||| (32 : Int32))), .val (.int (0 : Int32)), .val (.int ((own_c p1) - (48 : Int32))), .val (.int (0 : Int32)), .val (.int (0 : Int32)), .unset] [(.int (0 : Int32))])) _
    refine XS.istore X0.here hx rfl (hb hby at_87) rfl (l' := #[.val (.int p1), .val (.int (own_c p1)), .val (.int (own_c p1)), .val (.int ((own_c p1) ||| (32 : Int32))), .val (.int (0 : Int32)), .val (.int ((own_c p1) - (48 : Int32))), .val (.int (0 : Int32)), .val (.int (0 : Int32)), .val (.int (0 : Int32))]) rfl ?_
    show Steps p.tables e below (s₁.setTop (mkF m 89 #[.val (.int p1), .val (.int (own_c p1)), .val (.int (own_c p1)), .val (.int ((own_c p1) ||| (32 : Int32))), .val (.int (0 : Int32)), .val (.int ((own_c p1) - (48 : Int32))), .val (.int (0 : Int32)), .val (.int (0 : Int32)), .val (.int (0 : Int32))] [])) _
    refine XS.iloadN X0.here hx rfl (hb hby at_89) rfl ?_
    show Steps p.tables e below (s₁.setTop (mkF m 90 #[.val (.int p1), .val (.int (own_c p1)), .val (.int (own_c p1)), .val (.int ((own_c p1) ||| (32 : Int32))), .val (.int (0 : Int32)), .val (.int ((own_c p1) - (48 : Int32))), .val (.int (0 : Int32)), .val (.int (0 : Int32)), .val (.int (0 : Int32))] [(.int (own_c p1))])) _
    refine st2 _ ?_
    show Steps p.tables e below (T2.setTop (mkF m 93 #[.val (.int p1), .val (.int (own_c p1)), .val (.int (own_c p1)), .val (.int ((own_c p1) ||| (32 : Int32))), .val (.int (0 : Int32)), .val (.int ((own_c p1) - (48 : Int32))), .val (.int (0 : Int32)), .val (.int (0 : Int32)), .val (.int (0 : Int32))] [(.int (own_N (own_c p1)))])) _
    refine XS.iload X2.here hx rfl (hb hby at_93) rfl ?_
    show Steps p.tables e below (T2.setTop (mkF m 95 #[.val (.int p1), .val (.int (own_c p1)), .val (.int (own_c p1)), .val (.int ((own_c p1) ||| (32 : Int32))), .val (.int (0 : Int32)), .val (.int ((own_c p1) - (48 : Int32))), .val (.int (0 : Int32)), .val (.int (0 : Int32)), .val (.int (0 : Int32))] [(.int (0 : Int32)), (.int (own_N (own_c p1)))])) _
    refine XS.icmpNo X2.here hx rfl (hb hby at_95) rfl (teq hB).2 ?_
    show Steps p.tables e below (T2.setTop (mkF m 98 #[.val (.int p1), .val (.int (own_c p1)), .val (.int (own_c p1)), .val (.int ((own_c p1) ||| (32 : Int32))), .val (.int (0 : Int32)), .val (.int ((own_c p1) - (48 : Int32))), .val (.int (0 : Int32)), .val (.int (0 : Int32)), .val (.int (0 : Int32))] [])) _
    refine XS.iconst X2.here hx rfl (hb hby at_98) ?_
    show Steps p.tables e below (T2.setTop (mkF m 99 #[.val (.int p1), .val (.int (own_c p1)), .val (.int (own_c p1)), .val (.int ((own_c p1) ||| (32 : Int32))), .val (.int (0 : Int32)), .val (.int ((own_c p1) - (48 : Int32))), .val (.int (0 : Int32)), .val (.int (0 : Int32)), .val (.int (0 : Int32))] [(.int (1 : Int32))])) _
    refine XS.goto X2.here hx rfl (pc0 := 99) (pc' := 103) rfl (hb hby at_99) (by decide) (by decide) ?_
    show Steps p.tables e below (T2.setTop (mkF m 103 #[.val (.int p1), .val (.int (own_c p1)), .val (.int (own_c p1)), .val (.int ((own_c p1) ||| (32 : Int32))), .val (.int (0 : Int32)), .val (.int ((own_c p1) - (48 : Int32))), .val (.int (0 : Int32)), .val (.int (0 : Int32)), .val (.int (0 : Int32))] [(.int (1 : Int32))])) _
    exact retN X2 hx (t := .boolean) Bd.returns (by simp) (hb hby at_103) hr
  · show Q0 Z p1 h0 n0 _ T2.heap _
    exact ⟨rfl, N2⟩
set_option maxRecDepth 65536 in
set_option maxHeartbeats 40000000 in
theorem own_rm0_ftftfffff (l : Launch) (Z : State) (a0 : Array Value) (hw : ∀ d ∈ tables_1, d.before a0 Z = true) (ws : List Jvm.Cond) (p1 : Int32) (h0 : Heap) (n0 : Nat) (Z0 : n0 ≤ h0.size) (hB : own_N (own_c p1) = (1 : Int32)) (hc13 : ¬ (((own_c p1) ||| (32 : Int32)) < (97 : Int32))) (hc19 : (122 : Int32) < ((own_c p1) ||| (32 : Int32))) (hc37 : ¬ (((own_c p1) - (48 : Int32)) < (0 : Int32))) (hc44 : ¬ (((own_c p1) - (48 : Int32)) < (10 : Int32))) (hc57 : (own_c p1) = (95 : Int32)) (hc79 : ¬ ((1 : Int32) = (0 : Int32))) :
    MetFree l x (head1 (Jvm.Cond.code x code maxLocals ret :: ws) room_1) (fun a U => a = #[(.int p1)] ∧ Z.Warmed39 U.vm ∧ U.heap = h0) (fun _ _ _ _ _ => True) (fun _ U o U' => ∃ v L, o = .returned v ∧ Q0 Z p1 h0 n0 v U'.heap L ∧ FrameEnd U o U' L room_1.cells room_1.slots) := by
  refine MetFree.of_bodySF (plainFor_of_name pn_0) hisR ?_
  intro p e s m args below meth c s₁ Bd hml0 hP hK
  obtain ⟨rfl, hZ, hh⟩ := hP
  have hx := Bd.exec
  have hby := Bd.bytes
  have hml : c.maxLocals = 9 := hml0
  have hown : s.vm.findClass "com/example/boxes_into_chains/boxesintochains/LexerContinuesNamePinLaw" = some m.cls := findClass_of_methodNamed Bd.named
  have hnm := (name_of_methodNamed Bd.named Bd.method).1
  have X0 : Stand p l e room_1 s m #[(.int p1)] below meth c s₁ [] 0 0 := Stand.of_body Bd
  have e0 : s₁.heap = h0 := by rw [← hh, Bd.state]; rfl
  have N0 := Fr.nil n0
  have pre0 : ∀ t, Steps p.tables e below (s₁.setTop (mkF m 0 #[.val (.int p1), .unset, .unset, .unset, .unset, .unset, .unset, .unset, .unset] [])) t → Steps p.tables e below (s₁.setTop (entryFrame m #[(.int p1)] maxLocals)) t := fun t k => castTop (ef_0 m p1) k
  obtain ⟨_, _, ⟨T2, L2, k2, n2⟩, -, X2, ⟨Lc2, hQ2, l2, y2, z2⟩, st2⟩ := Jvm.LawKit.callS X0 hx (y := (⟨"com/example/boxes_into_chains/boxesintochains/Lexer", "continuesName", "(C)Z"⟩ : MethodName)) hown (mvT hZ (hw _ (List.mem_of_getElem? (i := 0) rfl))) (mvT hZ (hw _ (List.mem_of_getElem? (i := 1) rfl))) (mvT hZ (hw _ (List.mem_of_getElem? (i := 2) rfl))) (mvT hZ (hw _ (List.mem_of_getElem? (i := 3) rfl))) (by decide) (backOf (W := 0) (rm1 l Z a0 hw [] (own_c p1) h0 n0 Z0) hZ (hw _ (List.mem_of_getElem? (i := 3) rfl)) (hw _ (List.mem_of_getElem? (i := 2) rfl)) (by decide) (by decide)) (g := (mkF m 90 #[.val (.int p1), .val (.int (own_c p1)), .val (.int (own_c p1)), .val (.int ((own_c p1) ||| (32 : Int32))), .val (.int (0 : Int32)), .val (.int ((own_c p1) - (48 : Int32))), .val (.int (0 : Int32)), .val (.int (1 : Int32)), .val (.int (1 : Int32))] [(.int (own_c p1))])) rfl (by rw [hml]; rfl) (argsL := [(.int (own_c p1))]) (rest := []) (lenOf pd_0_0 rfl) rfl (by show 2 * 0 + _ ≤ _; exact Nat.le_of_eq rfl) (hb hby at_90) (fun _ _ => ⟨rfl, e0, (by decide : 0 + 0 ≤ _), (by decide : 0 + 0 ≤ _)⟩)
  dsimp only [Pt.U, Pt.locs, Pt.cells, Pt.slots] at X2 l2 y2 z2 st2 hQ2
  subst l2 y2 z2
  obtain ⟨rfl, N2q, e2⟩ := hQ2
  have N2 := Fr.app N0 N2q
  obtain ⟨fs, hr, hrun, hended, hW, hsame⟩ := X2.leave (v := some (.int (1 : Int32))) (fun h => by rw [Bd.returns] at h; cases h)
  refine ⟨_, _, pre0 _ ?_, hrun, hended, _, _, rfl, ?_, ⟨_, rfl⟩, hW, hsame.mono (by decide) (by decide)⟩
  · show Steps p.tables e below (s₁.setTop (mkF m 0 #[.val (.int p1), .unset, .unset, .unset, .unset, .unset, .unset, .unset, .unset] [])) _
    refine XS.iloadN X0.here hx rfl (hb hby at_0) rfl ?_
    show Steps p.tables e below (s₁.setTop (mkF m 1 #[.val (.int p1), .unset, .unset, .unset, .unset, .unset, .unset, .unset, .unset] [(.int p1)])) _
    refine XS.i2c X0.here hx rfl (hb hby at_1) rfl ?_
    show Steps p.tables e below (s₁.setTop (mkF m 2 #[.val (.int p1), .unset, .unset, .unset, .unset, .unset, .unset, .unset, .unset] [(.int (own_c p1))])) _
    refine XS.istoreN X0.here hx rfl (hb hby at_2) rfl (l' := #[.val (.int p1), .val (.int (own_c p1)), .unset, .unset, .unset, .unset, .unset, .unset, .unset]) rfl ?_
    show Steps p.tables e below (s₁.setTop (mkF m 3 #[.val (.int p1), .val (.int (own_c p1)), .unset, .unset, .unset, .unset, .unset, .unset, .unset] [])) _
    refine XS.iloadN X0.here hx rfl (hb hby at_3) rfl ?_
    show Steps p.tables e below (s₁.setTop (mkF m 4 #[.val (.int p1), .val (.int (own_c p1)), .unset, .unset, .unset, .unset, .unset, .unset, .unset] [(.int (own_c p1))])) _
    refine XS.istoreN X0.here hx rfl (hb hby at_4) rfl (l' := #[.val (.int p1), .val (.int (own_c p1)), .val (.int (own_c p1)), .unset, .unset, .unset, .unset, .unset, .unset]) rfl ?_
    show Steps p.tables e below (s₁.setTop (mkF m 5 #[.val (.int p1), .val (.int (own_c p1)), .val (.int (own_c p1)), .unset, .unset, .unset, .unset, .unset, .unset] [])) _
    refine XS.iloadN X0.here hx rfl (hb hby at_5) rfl ?_
    show Steps p.tables e below (s₁.setTop (mkF m 6 #[.val (.int p1), .val (.int (own_c p1)), .val (.int (own_c p1)), .unset, .unset, .unset, .unset, .unset, .unset] [(.int (own_c p1))])) _
    refine XS.bipush X0.here hx rfl (hb hby at_6) ?_
    show Steps p.tables e below (s₁.setTop (mkF m 8 #[.val (.int p1), .val (.int (own_c p1)), .val (.int (own_c p1)), .unset, .unset, .unset, .unset, .unset, .unset] [(.int (32 : Int32)), (.int (own_c p1))])) _
    refine XS.ior X0.here hx rfl (hb hby at_8) rfl ?_
    show Steps p.tables e below (s₁.setTop (mkF m 9 #[.val (.int p1), .val (.int (own_c p1)), .val (.int (own_c p1)), .unset, .unset, .unset, .unset, .unset, .unset] [(.int ((own_c p1) ||| (32 : Int32)))])) _
    refine XS.istoreN X0.here hx rfl (hb hby at_9) rfl (l' := #[.val (.int p1), .val (.int (own_c p1)), .val (.int (own_c p1)), .val (.int ((own_c p1) ||| (32 : Int32))), .unset, .unset, .unset, .unset, .unset]) rfl ?_
    show Steps p.tables e below (s₁.setTop (mkF m 10 #[.val (.int p1), .val (.int (own_c p1)), .val (.int (own_c p1)), .val (.int ((own_c p1) ||| (32 : Int32))), .unset, .unset, .unset, .unset, .unset] [])) _
    refine XS.iloadN X0.here hx rfl (hb hby at_10) rfl ?_
    show Steps p.tables e below (s₁.setTop (mkF m 11 #[.val (.int p1), .val (.int (own_c p1)), .val (.int (own_c p1)), .val (.int ((own_c p1) ||| (32 : Int32))), .unset, .unset, .unset, .unset, .unset] [(.int ((own_c p1) ||| (32 : Int32)))])) _
    refine XS.bipush X0.here hx rfl (hb hby at_11) ?_
    show Steps p.tables e below (s₁.setTop (mkF m 13 #[.val (.int p1), .val (.int (own_c p1)), .val (.int (own_c p1)), .val (.int ((own_c p1) ||| (32 : Int32))), .unset, .unset, .unset, .unset, .unset] [(.int (97 : Int32)), (.int ((own_c p1) ||| (32 : Int32)))])) _
    refine XS.icmpNo X0.here hx rfl (hb hby at_13) rfl (flt hc13).1 ?_
    show Steps p.tables e below (s₁.setTop (mkF m 16 #[.val (.int p1), .val (.int (own_c p1)), .val (.int (own_c p1)), .val (.int ((own_c p1) ||| (32 : Int32))), .unset, .unset, .unset, .unset, .unset] [])) _
    refine XS.iloadN X0.here hx rfl (hb hby at_16) rfl ?_
    show Steps p.tables e below (s₁.setTop (mkF m 17 #[.val (.int p1), .val (.int (own_c p1)), .val (.int (own_c p1)), .val (.int ((own_c p1) ||| (32 : Int32))), .unset, .unset, .unset, .unset, .unset] [(.int ((own_c p1) ||| (32 : Int32)))])) _
    refine XS.bipush X0.here hx rfl (hb hby at_17) ?_
    show Steps p.tables e below (s₁.setTop (mkF m 19 #[.val (.int p1), .val (.int (own_c p1)), .val (.int (own_c p1)), .val (.int ((own_c p1) ||| (32 : Int32))), .unset, .unset, .unset, .unset, .unset] [(.int (122 : Int32)), (.int ((own_c p1) ||| (32 : Int32)))])) _
    refine XS.icmpYes X0.here hx rfl (pc0 := 19) (pc' := 26) rfl (hb hby at_19) rfl (tlt hc19).2.2.1 (by decide) (by decide) ?_
    show Steps p.tables e below (s₁.setTop (mkF m 26 #[.val (.int p1), .val (.int (own_c p1)), .val (.int (own_c p1)), .val (.int ((own_c p1) ||| (32 : Int32))), .unset, .unset, .unset, .unset, .unset] [])) _
    refine XS.iconst X0.here hx rfl (hb hby at_26) ?_
    show Steps p.tables e below (s₁.setTop (mkF m 27 #[.val (.int p1), .val (.int (own_c p1)), .val (.int (own_c p1)), .val (.int ((own_c p1) ||| (32 : Int32))), .unset, .unset, .unset, .unset, .unset] [(.int (0 : Int32))])) _
    refine XS.istore X0.here hx rfl (hb hby at_27) rfl (l' := #[.val (.int p1), .val (.int (own_c p1)), .val (.int (own_c p1)), .val (.int ((own_c p1) ||| (32 : Int32))), .val (.int (0 : Int32)), .unset, .unset, .unset, .unset]) rfl ?_
    show Steps p.tables e below (s₁.setTop (mkF m 29 #[.val (.int p1), .val (.int (own_c p1)), .val (.int (own_c p1)), .val (.int ((own_c p1) ||| (32 : Int32))), .val (.int (0 : Int32)), .unset, .unset, .unset, .unset] [])) _
    refine XS.iloadN X0.here hx rfl (hb hby at_29) rfl ?_
    show Steps p.tables e below (s₁.setTop (mkF m 30 #[.val (.int p1), .val (.int (own_c p1)), .val (.int (own_c p1)), .val (.int ((own_c p1) ||| (32 : Int32))), .val (.int (0 : Int32)), .unset, .unset, .unset, .unset] [(.int (own_c p1))])) _
    refine XS.bipush X0.here hx rfl (hb hby at_30) ?_
    show Steps p.tables e below (s₁.setTop (mkF m 32 #[.val (.int p1), .val (.int (own_c p1)), .val (.int (own_c p1)), .val (.int ((own_c p1) ||| (32 : Int32))), .val (.int (0 : Int32)), .unset, .unset, .unset, .unset] [(.int (48 : Int32)), (.int (own_c p1))])) _
    refine XS.isub X0.here hx rfl (hb hby at_32) rfl ?_
    show Steps p.tables e below (s₁.setTop (mkF m 33 #[.val (.int p1), .val (.int (own_c p1)), .val (.int (own_c p1)), .val (.int ((own_c p1) ||| (32 : Int32))), .val (.int (0 : Int32)), .unset, .unset, .unset, .unset] [(.int ((own_c p1) - (48 : Int32)))])) _
    refine XS.istore X0.here hx rfl (hb hby at_33) rfl (l' := #[.val (.int p1), .val (.int (own_c p1)), .val (.int (own_c p1)), .val (.int ((own_c p1) ||| (32 : Int32))), .val (.int (0 : Int32)), .val (.int ((own_c p1) - (48 : Int32))), .unset, .unset, .unset]) rfl ?_
    show Steps p.tables e below (s₁.setTop (mkF m 35 #[.val (.int p1), .val (.int (own_c p1)), .val (.int (own_c p1)), .val (.int ((own_c p1) ||| (32 : Int32))), .val (.int (0 : Int32)), .val (.int ((own_c p1) - (48 : Int32))), .unset, .unset, .unset] [])) _
    refine XS.iload X0.here hx rfl (hb hby at_35) rfl ?_
    show Steps p.tables e below (s₁.setTop (mkF m 37 #[.val (.int p1), .val (.int (own_c p1)), .val (.int (own_c p1)), .val (.int ((own_c p1) ||| (32 : Int32))), .val (.int (0 : Int32)), .val (.int ((own_c p1) - (48 : Int32))), .unset, .unset, .unset] [(.int ((own_c p1) - (48 : Int32)))])) _
    refine XS.ifNo X0.here hx rfl (hb hby at_37) rfl ((if0 _ _).trans (flt hc37).1) ?_
    show Steps p.tables e below (s₁.setTop (mkF m 40 #[.val (.int p1), .val (.int (own_c p1)), .val (.int (own_c p1)), .val (.int ((own_c p1) ||| (32 : Int32))), .val (.int (0 : Int32)), .val (.int ((own_c p1) - (48 : Int32))), .unset, .unset, .unset] [])) _
    refine XS.iload X0.here hx rfl (hb hby at_40) rfl ?_
    show Steps p.tables e below (s₁.setTop (mkF m 42 #[.val (.int p1), .val (.int (own_c p1)), .val (.int (own_c p1)), .val (.int ((own_c p1) ||| (32 : Int32))), .val (.int (0 : Int32)), .val (.int ((own_c p1) - (48 : Int32))), .unset, .unset, .unset] [(.int ((own_c p1) - (48 : Int32)))])) _
    refine XS.bipush X0.here hx rfl (hb hby at_42) ?_
    show Steps p.tables e below (s₁.setTop (mkF m 44 #[.val (.int p1), .val (.int (own_c p1)), .val (.int (own_c p1)), .val (.int ((own_c p1) ||| (32 : Int32))), .val (.int (0 : Int32)), .val (.int ((own_c p1) - (48 : Int32))), .unset, .unset, .unset] [(.int (10 : Int32)), (.int ((own_c p1) - (48 : Int32)))])) _
    refine XS.icmpYes X0.here hx rfl (pc0 := 44) (pc' := 51) rfl (hb hby at_44) rfl (flt hc44).2.1 (by decide) (by decide) ?_
    show Steps p.tables e below (s₁.setTop (mkF m 51 #[.val (.int p1), .val (.int (own_c p1)), .val (.int (own_c p1)), .val (.int ((own_c p1) ||| (32 : Int32))), .val (.int (0 : Int32)), .val (.int ((own_c p1) - (48 : Int32))), .unset, .unset, .unset] [])) _
    refine XS.iconst X0.here hx rfl (hb hby at_51) ?_
    show Steps p.tables e below (s₁.setTop (mkF m 52 #[.val (.int p1), .val (.int (own_c p1)), .val (.int (own_c p1)), .val (.int ((own_c p1) ||| (32 : Int32))), .val (.int (0 : Int32)), .val (.int ((own_c p1) - (48 : Int32))), .unset, .unset, .unset] [(.int (0 : Int32))])) _
    refine XS.istore X0.here hx rfl (hb hby at_52) rfl (l' := #[.val (.int p1), .val (.int (own_c p1)), .val (.int (own_c p1)), .val (.int ((own_c p1) ||| (32 : Int32))), .val (.int (0 : Int32)), .val (.int ((own_c p1) - (48 : Int32))), .val (.int (0 : Int32)), .unset, .unset]) rfl ?_
    show Steps p.tables e below (s₁.setTop (mkF m 54 #[.val (.int p1), .val (.int (own_c p1)), .val (.int (own_c p1)), .val (.int ((own_c p1) ||| (32 : Int32))), .val (.int (0 : Int32)), .val (.int ((own_c p1) - (48 : Int32))), .val (.int (0 : Int32)), .unset, .unset] [])) _
    refine XS.iloadN X0.here hx rfl (hb hby at_54) rfl ?_
    show Steps p.tables e below (s₁.setTop (mkF m 55 #[.val (.int p1), .val (.int (own_c p1)), .val (.int (own_c p1)), .val (.int ((own_c p1) ||| (32 : Int32))), .val (.int (0 : Int32)), .val (.int ((own_c p1) - (48 : Int32))), .val (.int (0 : Int32)), .unset, .unset] [(.int (own_c p1))])) _
    refine XS.bipush X0.here hx rfl (hb hby at_55) ?_
    show Steps p.tables e below (s₁.setTop (mkF m 57 #[.val (.int p1), .val (.int (own_c p1)), .val (.int (own_c p1)), .val (.int ((own_c p1) ||| (32 : Int32))), .val (.int (0 : Int32)), .val (.int ((own_c p1) - (48 : Int32))), .val (.int (0 : Int32)), .unset, .unset] [(.int (95 : Int32)), (.int (own_c p1))])) _
    refine XS.icmpNo X0.here hx rfl (hb hby at_57) rfl (teq hc57).2 ?_
    show Steps p.tables e below (s₁.setTop (mkF m 60 #[.val (.int p1), .val (.int (own_c p1)), .val (.int (own_c p1)), .val (.int ((own_c p1) ||| (32 : Int32))), .val (.int (0 : Int32)), .val (.int ((own_c p1) - (48 : Int32))), .val (.int (0 : Int32)), .unset, .unset] [])) _
    refine XS.iconst X0.here hx rfl (hb hby at_60) ?_
    show Steps p.tables e below (s₁.setTop (mkF m 61 #[.val (.int p1), .val (.int (own_c p1)), .val (.int (own_c p1)), .val (.int ((own_c p1) ||| (32 : Int32))), .val (.int (0 : Int32)), .val (.int ((own_c p1) - (48 : Int32))), .val (.int (0 : Int32)), .unset, .unset] [(.int (1 : Int32))])) _
    refine XS.goto X0.here hx rfl (pc0 := 61) (pc' := 65) rfl (hb hby at_61) (by decide) (by decide) ?_
    show Steps p.tables e below (s₁.setTop (mkF m 65 #[.val (.int p1), .val (.int (own_c p1)), .val (.int (own_c p1)), .val (.int ((own_c p1) ||| (32 : Int32))), .val (.int (0 : Int32)), .val (.int ((own_c p1) - (48 : Int32))), .val (.int (0 : Int32)), .unset, .unset] [(.int (1 : Int32))])) _
    refine XS.istore X0.here hx rfl (hb hby at_65) rfl (l' := #[.val (.int p1), .val (.int (own_c p1)), .val (.int (own_c p1)), .val (.int ((own_c p1) ||| (32 : Int32))), .val (.int (0 : Int32)), .val (.int ((own_c p1) - (48 : Int32))), .val (.int (0 : Int32)), .val (.int (1 : Int32)), .unset]) rfl ?_
    show Steps p.tables e below (s₁.setTop (mkF m 67 #[.val (.int p1), .val (.int (own_c p1)), .val (.int (own_c p1)), .val (.int ((own_c p1) ||| (32 : Int32))), .val (.int (0 : Int32)), .val (.int ((own_c p1) - (48 : Int32))), .val (.int (0 : Int32)), .val (.int (1 : Int32)), .unset] [])) _
    refine XS.iload X0.here hx rfl (hb hby at_67) rfl ?_
    show Steps p.tables e below (s₁.setTop (mkF m 69 #[.val (.int p1), .val (.int (own_c p1)), .val (.int (own_c p1)), .val (.int ((own_c p1) ||| (32 : Int32))), .val (.int (0 : Int32)), .val (.int ((own_c p1) - (48 : Int32))), .val (.int (0 : Int32)), .val (.int (1 : Int32)), .unset] [(.int (0 : Int32))])) _
    refine XS.ifNo X0.here hx rfl (hb hby at_69) rfl ((if0 _ _).trans (teq (rfl : (0 : Int32) = (0 : Int32))).2) ?_
    show Steps p.tables e below (s₁.setTop (mkF m 72 #[.val (.int p1), .val (.int (own_c p1)), .val (.int (own_c p1)), .val (.int ((own_c p1) ||| (32 : Int32))), .val (.int (0 : Int32)), .val (.int ((own_c p1) - (48 : Int32))), .val (.int (0 : Int32)), .val (.int (1 : Int32)), .unset] [])) _
    refine XS.iload X0.here hx rfl (hb hby at_72) rfl ?_
    show Steps p.tables e below (s₁.setTop (mkF m 74 #[.val (.int p1), .val (.int (own_c p1)), .val (.int (own_c p1)), .val (.int ((own_c p1) ||| (32 : Int32))), .val (.int (0 : Int32)), .val (.int ((own_c p1) - (48 : Int32))), .val (.int (0 : Int32)), .val (.int (1 : Int32)), .unset] [(.int (0 : Int32))])) _
    refine XS.ifNo X0.here hx rfl (hb hby at_74) rfl ((if0 _ _).trans (teq (rfl : (0 : Int32) = (0 : Int32))).2) ?_
    show Steps p.tables e below (s₁.setTop (mkF m 77 #[.val (.int p1), .val (.int (own_c p1)), .val (.int (own_c p1)), .val (.int ((own_c p1) ||| (32 : Int32))), .val (.int (0 : Int32)), .val (.int ((own_c p1) - (48 : Int32))), .val (.int (0 : Int32)), .val (.int (1 : Int32)), .unset] [])) _
    refine XS.iload X0.here hx rfl (hb hby at_77) rfl ?_
    show Steps p.tables e below (s₁.setTop (mkF m 79 #[.val (.int p1), .val (.int (own_c p1)), .val (.int (own_c p1)), .val (.int ((own_c p1) ||| (32 : Int32))), .val (.int (0 : Int32)), .val (.int ((own_c p1) - (48 : Int32))), .val (.int (0 : Int32)), .val (.int (1 : Int32)), .unset] [(.int (1 : Int32))])) _
    refine XS.ifNo X0.here hx rfl (hb hby at_79) rfl ((if0 _ _).trans (feq hc79).1) ?_
    show Steps p.tables e below (s₁.setTop (mkF m 82 #[.val (.int p1), .val (.int (own_c p1)), .val (.int (own_c p1)), .val (.int ((own_c p1) ||| (32 : Int32))), .val (.int (0 : Int32)), .val (.int ((own_c p1) - (48 : Int32))), .val (.int (0 : Int32)), .val (.int (1 : Int32)), .unset] [])) _
    refine XS.iconst X0.here hx rfl (hb hby at_82) ?_
    show Steps p.tables e below (s₁.setTop (mkF m 83 #[.val (.int p1), .val (.int (own_c p1)), .val (.int (own_c p1)), .val (.int ((own_c p1) ||| (32 : Int32))), .val (.int (0 : Int32)), .val (.int ((own_c p1) - (48 : Int32))), .val (.int (0 : Int32)), .val (.int (1 : Int32)), .unset] [(.int (1 : Int32))])) _
    refine XS.goto X0.here hx rfl (pc0 := 83) (pc' := 87) rfl (hb hby at_83) (by decide) (by decide) ?_
    show Steps p.tables e below (s₁.setTop (mkF m 87 #[.val (.int p1), .val (.int (own_c p1)), .val (.int (own_c p1)), .val (.int ((own_c p1) ||| (32 : Int32))), .val (.int (0 : Int32)), .val (.int ((own_c p1) - (48 : Int32))), .val (.int (0 : Int32)), .val (.int (1 : Int32)), .unset] [(.int (1 : Int32))])) _
    refine XS.istore X0.here hx rfl (hb hby at_87) rfl (l' := #[.val (.int p1), .val (.int (own_c p1)), .val (.int (own_c p1)), .val (.int ((own_c p1) ||| (32 : Int32))), .val (.int (0 : Int32)), .val (.int ((own_c p1) - (48 : Int32))), .val (.int (0 : Int32)), .val (.int (1 : Int32)), .val (.int (1 : Int32))]) rfl ?_
    show Steps p.tables e below (s₁.setTop (mkF m 89 #[.val (.int p1), .val (.int (own_c p1)), .val (.int (own_c p1)), .val (.int ((own_c p1) ||| (32 : Int32))), .val (.int (0 : Int32)), .val (.int ((own_c p1) - (48 : Int32))), .val (.int (0 : Int32)), .val (.int (1 : Int32)), .val (.int (1 : Int32))] [])) _
    refine XS.iloadN X0.here hx rfl (hb hby at_89) rfl ?_
    show Steps p.tables e below (s₁.setTop (mkF m 90 #[.val (.int p1), .val (.int (own_c p1)), .val (.int (own_c p1)), .val (.int ((own_c p1) ||| (32 : Int32))), .val (.int (0 : Int32)), .val (.int ((own_c p1) - (48 : Int32))), .val (.int (0 : Int32)), .val (.int (1 : Int32)), .val (.int (1 : Int32))] [(.int (own_c p1))])) _
    refine st2 _ ?_
    show Steps p.tables e below (T2.setTop (mkF m 93 #[.val (.int p1), .val (.int (own_c p1)), .val (.int (own_c p1)), .val (.int ((own_c p1) ||| (32 : Int32))), .val (.int (0 : Int32)), .val (.int ((own_c p1) - (48 : Int32))), .val (.int (0 : Int32)), .val (.int (1 : Int32)), .val (.int (1 : Int32))] [(.int (own_N (own_c p1)))])) _
    refine XS.iload X2.here hx rfl (hb hby at_93) rfl ?_
    show Steps p.tables e below (T2.setTop (mkF m 95 #[.val (.int p1), .val (.int (own_c p1)), .val (.int (own_c p1)), .val (.int ((own_c p1) ||| (32 : Int32))), .val (.int (0 : Int32)), .val (.int ((own_c p1) - (48 : Int32))), .val (.int (0 : Int32)), .val (.int (1 : Int32)), .val (.int (1 : Int32))] [(.int (1 : Int32)), (.int (own_N (own_c p1)))])) _
    refine XS.icmpNo X2.here hx rfl (hb hby at_95) rfl (teq hB).2 ?_
    show Steps p.tables e below (T2.setTop (mkF m 98 #[.val (.int p1), .val (.int (own_c p1)), .val (.int (own_c p1)), .val (.int ((own_c p1) ||| (32 : Int32))), .val (.int (0 : Int32)), .val (.int ((own_c p1) - (48 : Int32))), .val (.int (0 : Int32)), .val (.int (1 : Int32)), .val (.int (1 : Int32))] [])) _
    refine XS.iconst X2.here hx rfl (hb hby at_98) ?_
    show Steps p.tables e below (T2.setTop (mkF m 99 #[.val (.int p1), .val (.int (own_c p1)), .val (.int (own_c p1)), .val (.int ((own_c p1) ||| (32 : Int32))), .val (.int (0 : Int32)), .val (.int ((own_c p1) - (48 : Int32))), .val (.int (0 : Int32)), .val (.int (1 : Int32)), .val (.int (1 : Int32))] [(.int (1 : Int32))])) _
    refine XS.goto X2.here hx rfl (pc0 := 99) (pc' := 103) rfl (hb hby at_99) (by decide) (by decide) ?_
    show Steps p.tables e below (T2.setTop (mkF m 103 #[.val (.int p1), .val (.int (own_c p1)), .val (.int (own_c p1)), .val (.int ((own_c p1) ||| (32 : Int32))), .val (.int (0 : Int32)), .val (.int ((own_c p1) - (48 : Int32))), .val (.int (0 : Int32)), .val (.int (1 : Int32)), .val (.int (1 : Int32))] [(.int (1 : Int32))])) _
    exact retN X2 hx (t := .boolean) Bd.returns (by simp) (hb hby at_103) hr
  · show Q0 Z p1 h0 n0 _ T2.heap _
    exact ⟨rfl, N2⟩
theorem own_or32 (n : Nat) : n ||| 32 = if n / 32 % 2 = 1 then n else n + 32 := by
  have hm : n % 64 < 2 ^ 6 := Nat.mod_lt _ (by decide)
  have h : 2 ^ 6 * (n / 64) + n % 64 = n := Nat.div_add_mod n 64
  have d : ∀ m, m < 64 → m ||| 32 = if m / 32 % 2 = 1 then m else m + 32 := by decide
  have b : (n % 64 ||| 32) < 2 ^ 6 := Nat.or_lt_two_pow hm (by decide)
  have e1 : n ||| 32 = 2 ^ 6 * (n / 64) + (n % 64 ||| 32) := by
    rw [Nat.two_pow_add_eq_or_of_lt b, ← Nat.or_assoc, ← Nat.two_pow_add_eq_or_of_lt hm, h]
  rw [e1, d _ hm]
  split <;> split <;> omega
theorem own_pos {x : Int32} (h : x.toBitVec.toNat < 2 ^ 31) : x.toInt = x.toBitVec.toNat := BitVec.toInt_eq_toNat_of_lt (by omega)
theorem own_facts (p1 : Int32) : 0 ≤ (own_c p1).toInt ∧ (own_c p1).toInt < 65536 ∧ (own_c p1 ||| (32 : Int32)).toInt = (if (own_c p1).toInt / 32 % 2 = 1 then (own_c p1).toInt else (own_c p1).toInt + 32) ∧ (own_c p1 - (48 : Int32)).toInt = (own_c p1).toInt - 48 := by
  have e : (own_c p1).toBitVec.toNat = p1.toBitVec.toNat % 65536 := by simp [own_c]
  have b : (own_c p1).toBitVec.toNat < 65536 := by rw [e]; exact Nat.mod_lt _ (by decide)
  have i := own_pos (x := own_c p1) (by omega)
  generalize own_c p1 = c at *
  refine ⟨by omega, by omega, ?_, ?_⟩
  · have o : (c ||| (32 : Int32)).toBitVec.toNat = c.toBitVec.toNat ||| 32 := by
      rw [Int32.toBitVec_or, BitVec.toNat_or]; rfl
    rw [own_or32] at o
    have j := own_pos (x := c ||| (32 : Int32)) (by rw [o]; split <;> omega)
    rw [j, o, i]
    split <;> split <;> omega
  · rw [Int32.toInt_sub]
    have : (48 : Int32).toInt = 48 := by decide
    rw [this, Int.bmod_eq_of_le] <;> omega
theorem own_N1 (c : Int32) (h : (97 ≤ c.toInt ∧ c.toInt ≤ 122) ∨ (65 ≤ c.toInt ∧ c.toInt ≤ 90) ∨ (48 ≤ c.toInt ∧ c.toInt ≤ 57) ∨ c.toInt = 95) : own_N c = 1 := by
  have lt (a b : Int32) : a < b ↔ a.toInt < b.toInt := Int32.lt_iff_toInt_lt
  have eq (a b : Int32) : a = b ↔ a.toInt = b.toInt := Int32.toInt_inj.symm
  have e48 : (48 : Int32).toInt = 48 := by decide
  have e57 : (57 : Int32).toInt = 57 := by decide
  have e65 : (65 : Int32).toInt = 65 := by decide
  have e90 : (90 : Int32).toInt = 90 := by decide
  have e95 : (95 : Int32).toInt = 95 := by decide
  have e97 : (97 : Int32).toInt = 97 := by decide
  have e122 : (122 : Int32).toInt = 122 := by decide
  have one : ¬ ((1 : Int32) = (0 : Int32)) := by decide
  by_cases q1 : (¬ c < 97 ∧ ¬ 122 < c) ∨ (¬ c < 65 ∧ ¬ 90 < c)
  · rw [own_N, if_neg (by rw [own_L, if_pos q1]; exact one)]
  · rw [own_N, if_pos (by rw [own_L, if_neg q1])]
    by_cases q2 : ¬ c < 48 ∧ ¬ 57 < c
    · rw [if_neg (by rw [own_D, if_pos q2]; exact one)]
    · rw [if_pos (by rw [own_D, if_neg q2]), if_pos]
      rw [lt, lt, lt, lt] at q1
      rw [lt, lt] at q2
      rw [eq]
      omega
theorem own_N0 (c : Int32) (h : ¬ ((97 ≤ c.toInt ∧ c.toInt ≤ 122) ∨ (65 ≤ c.toInt ∧ c.toInt ≤ 90) ∨ (48 ≤ c.toInt ∧ c.toInt ≤ 57) ∨ c.toInt = 95)) : own_N c = 0 := by
  have lt (a b : Int32) : a < b ↔ a.toInt < b.toInt := Int32.lt_iff_toInt_lt
  have eq (a b : Int32) : a = b ↔ a.toInt = b.toInt := Int32.toInt_inj.symm
  have e48 : (48 : Int32).toInt = 48 := by decide
  have e57 : (57 : Int32).toInt = 57 := by decide
  have e65 : (65 : Int32).toInt = 65 := by decide
  have e90 : (90 : Int32).toInt = 90 := by decide
  have e95 : (95 : Int32).toInt = 95 := by decide
  have e97 : (97 : Int32).toInt = 97 := by decide
  have e122 : (122 : Int32).toInt = 122 := by decide
  have q1 : ¬ ((¬ c < 97 ∧ ¬ 122 < c) ∨ (¬ c < 65 ∧ ¬ 90 < c)) := by rw [lt, lt, lt, lt]; omega
  have q2 : ¬ (¬ c < 48 ∧ ¬ 57 < c) := by rw [lt, lt]; omega
  have q3 : ¬ c = 95 := by rw [eq]; omega
  rw [own_N, if_pos (by rw [own_L, if_neg q1]), if_pos (by rw [own_D, if_neg q2]), if_neg q3]
theorem rm0 (l : Launch) (Z : State) (a0 : Array Value) (hw : ∀ d ∈ tables_1, d.before a0 Z = true) (ws : List Jvm.Cond) (p1 : Int32) (h0 : Heap) (n0 : Nat) (Z0 : n0 ≤ h0.size) :
    MetFree l x (head1 (Jvm.Cond.code x code maxLocals ret :: ws) room_1) (fun a U => a = #[(.int p1)] ∧ Z.Warmed39 U.vm ∧ U.heap = h0) (fun _ _ _ _ _ => True) (fun _ U o U' => ∃ v L, o = .returned v ∧ Q0 Z p1 h0 n0 v U'.heap L ∧ FrameEnd U o U' L room_1.cells room_1.slots) := by
  obtain ⟨hn0, hn1, hf, hd⟩ := own_facts p1
  have hN1 := own_N1 (own_c p1)
  have hN0 := own_N0 (own_c p1)
  have lt (a b : Int32) : a < b ↔ a.toInt < b.toInt := Int32.lt_iff_toInt_lt
  have eq (a b : Int32) : a = b ↔ a.toInt = b.toInt := Int32.toInt_inj.symm
  have e0 : (0 : Int32).toInt = 0 := by decide
  have e10 : (10 : Int32).toInt = 10 := by decide
  have e95 : (95 : Int32).toInt = 95 := by decide
  have e97 : (97 : Int32).toInt = 97 := by decide
  have e122 : (122 : Int32).toInt = 122 := by decide
  have one : ¬ ((1 : Int32) = (0 : Int32)) := by decide
  by_cases hc13 : (own_c p1 ||| (32 : Int32)) < (97 : Int32)
  · have i13 := (lt _ _).mp hc13
    by_cases hc37 : (own_c p1 - (48 : Int32)) < (0 : Int32)
    · have i37 := (lt _ _).mp hc37
      exact own_rm0_tttfftf l Z a0 hw ws p1 h0 n0 Z0 (hN0 (by omega)) hc13 hc37 (fun q => by rw [eq] at q; omega)
    · have i37 := mt (lt _ _).mpr hc37
      by_cases hc44 : (own_c p1 - (48 : Int32)) < (10 : Int32)
      · have i44 := (lt _ _).mp hc44
        exact own_rm0_tfftftf l Z a0 hw ws p1 h0 n0 Z0 (hN1 (by omega)) hc13 hc37 hc44 (fun q => by rw [eq] at q; omega) one
      · have i44 := mt (lt _ _).mpr hc44
        exact own_rm0_tfttfftf l Z a0 hw ws p1 h0 n0 Z0 (hN0 (by omega)) hc13 hc37 hc44 (fun q => by rw [eq] at q; omega)
  · have i13 := mt (lt _ _).mpr hc13
    have hc37 : ¬ (own_c p1 - (48 : Int32)) < (0 : Int32) := fun q => by rw [lt] at q; omega
    have hc44 : ¬ (own_c p1 - (48 : Int32)) < (10 : Int32) := fun q => by rw [lt] at q; omega
    by_cases hc19 : (122 : Int32) < (own_c p1 ||| (32 : Int32))
    · have i19 := (lt _ _).mp hc19
      by_cases hc57 : own_c p1 = (95 : Int32)
      · have i57 := (eq _ _).mp hc57
        exact own_rm0_ftftfffff l Z a0 hw ws p1 h0 n0 Z0 (hN1 (by omega)) hc13 hc19 hc37 hc44 hc57 one
      · have i57 := mt (eq _ _).mpr hc57
        exact own_rm0_ftfttfftf l Z a0 hw ws p1 h0 n0 Z0 (hN0 (by omega)) hc13 hc19 hc37 hc44 hc57
    · have i19 := mt (lt _ _).mpr hc19
      exact own_rm0_ffftttf l Z a0 hw ws p1 h0 n0 Z0 (hN1 (by omega)) hc13 hc19 hc37 hc44 (fun q => by rw [eq] at q; omega) one
set_option maxRecDepth 65536 in
set_option maxHeartbeats 40000000 in
theorem comes_1 {Post : Tables → Env → Array Value → State → Outcome → State → Prop} (hpost : ∀ tb e args s v u, (limb_1_1.after args s (.returned v) u = true ∧ limb_1_2.after args s (.returned v) u = true ∧ True) → FrameEnd s (.returned v) u (Jvm.fieldLocs frame_1_writes args s ++ Jvm.arrayLocs frame_1_arrays args s ++ Jvm.staticLocs frame_1_statics s) 0 0 → Post tb e args s (.returned v) u) :
    ArmFor flags0 classFile x code maxLocals ret World_1 tables_1 room_1 Calls_1 rest_1 Pre_1 Post := by
  intro l hfl _ _ p e ha hc hk s m args below hf hA hF happ hP
  obtain ⟨hcalls, hrest, hpre⟩ := hP
  obtain ⟨-, -, -, hnamed, -, -, -, hat⟩ := (Spec.applies_iff hf).mp happ
  obtain ⟨hg, hn⟩ := and_e (Cond.before_iff.mp (show (Jvm.Cond.and given_1 narrow_1).before args s = true from hpre))
  obtain ⟨g3, g4⟩ := and_e hg
  obtain ⟨w0, rfl⟩ : ∃ w0 : Value, args = #[w0] := by
    have hs : args.size = 1 := by simpa [Cond.value, given_1] using g3
    obtain ⟨L⟩ := args
    match L, hs with
    | [w0], _ => exact ⟨w0, rfl⟩
  have hw := fun d (hd : d ∈ tables_1) => atoms_spec (ws := Jvm.Cond.code x code maxLocals ret :: tables_1) hat d (List.mem_cons_of_mem _ hd)
  have hfit : Fit s := fun {y c} hc i hi => by
    obtain ⟨ha, rfl⟩ := Array.getElem?_eq_some_iff.mp hc
    have q := List.all_eq_true.mp ((Array.all_eq_true_iff_forall_mem.mp hF) _ (Array.getElem_mem ha)) i (List.mem_range.mpr hi)
    simpa [Array.getElem?_eq_getElem hi] using q
  obtain ⟨i0, ei0⟩ := is_v g4
  obtain rfl : w0 = (.int i0) := Option.some.inj ei0
  obtain ⟨n, o, h1, h2, h3, _, L, rfl, ⟨rfl, N⟩, hq⟩ := rm0 l s _ hw tables_1 i0 s.heap s.heap.size (Nat.le_refl _) p e ha hc hk s m _ below hf ((Spec.applies_iff_loose hf).mp happ).1 ⟨rfl, State.Warmed39.refl s, rfl⟩ trivial
  refine ⟨n, _, h1, h2, h3, hpost _ _ _ _ _ _ ⟨Cond.after_iff.mpr rfl, Cond.after_iff.mpr (eq_i res_at (Term.int_eval (1)) rfl), trivial⟩ ⟨hq.1, hq.2.1, (hq.2.2.sift fun y hy => Or.inr (N y hy)).mono (by decide) (by decide)⟩⟩
theorem main_1_1 : Claimed_1_1 := comes_1 fun _ _ _ _ _ _ h hF => ⟨h.1, hF⟩
theorem main_1_2 : Claimed_1_2 := comes_1 fun _ _ _ _ _ _ h hF => ⟨h.2.1, hF⟩
end Jvm.Pilot.@@N@@
namespace Jvm.Pilot.@@N@@
open Jvm Jvm.ClassFile Sem Op Lib Jvm.Free Jvm.Stand Jvm.Pilot.@@N@@.Jvm.D
/-! MADE BY PROGRAM (witnessworld.py) out of the Statement's table words and the real class files: 9 classes; the members and pool entries that the words name. The judged class is class 1, her method 1. -/
namespace start1
open Jvm.ClassFile
def u (s : String) : CpInfo := .utf8 (stringToUtf16 s)
/-- a pool by its gaps: so many unusable entries, then the entry; so many at the end -/
def gap : Nat → List CpInfo → List CpInfo
  | 0, r => r
  | n + 1, r => .unusable :: gap n r
def poolList (es : List (Nat × CpInfo)) (last : Nat) : List CpInfo := es.foldr (fun e r => gap e.1 (e.2 :: r)) (gap last [])
def pool (es : List (Nat × CpInfo)) (last : Nat) : Array CpInfo := ⟨poolList es last⟩
def fileOf (pool : Array CpInfo) (this : Nat) (attrs : Array Attribute := #[]) (ms : Array MethodInfo := #[]) (fl : Nat := 33) (sup : Nat := 0) (ifs : Array Nat := #[]) (fds : Array FieldInfo := #[]) : ClassFile where
  minorVersion := 0
  majorVersion := 65
  constantPool := pool
  accessFlags := fl
  thisClass := this
  superClass := sup
  interfaces := ifs
  fields := fds
  methods := ms
  attributes := attrs
def plain (name : String) (sup : Option ClassId) : Class where
  name := name
  kind := .ordinary
  loader := none
  accessFlags := 33
  super := sup
  interfaces := #[]
  cf := none
  fields := #[]
  methods := #[]
  instanceTypes := #[]
  staticTypes := #[]
  resolved := #[]
  callSites := []
  init := .initialized
  statics := none
  mirror := none

def pool0 : Array CpInfo := pool [(5, u "<init>"), (0, u "()V"), (1, .class_ 10), (1, u "java/lang/Object")] 113

def k0m0 : Method := { name := "<init>", desc := "()V", sig := { parameters := [], returnType := none }, accessFlags := 1, code := none }
/-- java/lang/Object -/
def k0 : Class := { plain "java/lang/Object" none with
  accessFlags := 33
  interfaces := #[]
  cf := some (fileOf pool0 8 #[] #[{ accessFlags := 1, nameIndex := 5, descriptorIndex := 6, attributes := #[] }] 33 0 #[] #[])
  fields := #[]
  methods := #[k0m0]
  instanceTypes := #[]
  staticTypes := #[]
  resolved := Array.replicate 124 none
  statics := none }

def pool1 : Array CpInfo := pool [(2, .class_ 4), (1, u "java/lang/Object"), (0, u "<init>"), (0, u "()V"), (0, .methodref 8 9), (0, .class_ 10), (0, .nameAndType 11 12), (0, u "com/example/boxes_into_chains/boxesintochains/Lexer"), (0, u "continuesName"), (0, u "(C)Z"), (0, .class_ 14), (0, u "com/example/boxes_into_chains/boxesintochains/LexerContinuesNamePinLaw"), (2, u "law"), (0, u "(I)Z")] 3

def k1m0 : Method := { name := "<init>", desc := "()V", sig := { parameters := [], returnType := none }, accessFlags := 1, code := none }
def k1c1 : Code := { maxStack := 2, maxLocals := 9, code := code, exceptionTable := #[], attributes := #[] }
def k1m1 : Method := { name := "law", desc := "(I)Z", sig := { parameters := [.int], returnType := some .boolean }, accessFlags := 9, code := some k1c1 }
/-- com/example/boxes_into_chains/boxesintochains/LexerContinuesNamePinLaw -/
def k1 : Class := { plain "com/example/boxes_into_chains/boxesintochains/LexerContinuesNamePinLaw" (some 0) with
  accessFlags := 49
  interfaces := #[]
  cf := some (fileOf pool1 13 #[] #[{ accessFlags := 1, nameIndex := 5, descriptorIndex := 6, attributes := #[] }, { accessFlags := 9, nameIndex := 17, descriptorIndex := 18, attributes := #[] }] 49 2 #[] #[])
  fields := #[]
  methods := #[k1m0, k1m1]
  instanceTypes := #[]
  staticTypes := #[]
  resolved := Array.replicate 22 none
  statics := none }

def pool2 : Array CpInfo := pool [(2, .class_ 4), (1, u "java/lang/Object"), (3, .class_ 10), (1, u "com/example/boxes_into_chains/boxesintochains/Lexer"), (0, u "line"), (0, u "I"), (2, u "text"), (0, u "Ljava/lang/String;"), (2, u "position"), (12, u "lineStart"), (3, u "(C)Z"), (2, u "continuesName"), (6, u "RESERVED"), (0, u "Ljava/util/Map;"), (16, .methodref 8 65), (0, .nameAndType 66 36), (0, u "isDigit"), (116, .methodref 8 184), (0, .nameAndType 185 36), (0, u "isLetter")] 59

def k2c0 : Code := { maxStack := 2, maxLocals := 1, code := prog_36_method_8_code, exceptionTable := #[], attributes := #[] }
def k2m0 : Method := { name := "continuesName", desc := "(C)Z", sig := { parameters := [.char], returnType := some .boolean }, accessFlags := 8, code := some k2c0 }
def k2c1 : Code := { maxStack := 2, maxLocals := 1, code := prog_36_method_9_code, exceptionTable := #[], attributes := #[] }
def k2m1 : Method := { name := "isLetter", desc := "(C)Z", sig := { parameters := [.char], returnType := some .boolean }, accessFlags := 10, code := some k2c1 }
def k2c2 : Code := { maxStack := 2, maxLocals := 1, code := prog_36_method_10_code, exceptionTable := #[], attributes := #[] }
def k2m2 : Method := { name := "isDigit", desc := "(C)Z", sig := { parameters := [.char], returnType := some .boolean }, accessFlags := 10, code := some k2c2 }
/-- com/example/boxes_into_chains/boxesintochains/Lexer -/
def k2 : Class := { plain "com/example/boxes_into_chains/boxesintochains/Lexer" (some 0) with
  accessFlags := 48
  interfaces := #[]
  cf := some (fileOf pool2 8 #[] #[{ accessFlags := 8, nameIndex := 39, descriptorIndex := 36, attributes := #[] }, { accessFlags := 10, nameIndex := 185, descriptorIndex := 36, attributes := #[] }, { accessFlags := 10, nameIndex := 66, descriptorIndex := 36, attributes := #[] }] 48 2 #[] #[{ accessFlags := 26, nameIndex := 46, descriptorIndex := 47, attributes := #[] }, { accessFlags := 18, nameIndex := 15, descriptorIndex := 16, attributes := #[] }, { accessFlags := 2, nameIndex := 19, descriptorIndex := 12, attributes := #[] }, { accessFlags := 2, nameIndex := 11, descriptorIndex := 12, attributes := #[] }, { accessFlags := 2, nameIndex := 32, descriptorIndex := 12, attributes := #[] }])
  fields := #[{ name := "RESERVED", type := (.object "java/util/Map"), accessFlags := 26, slot := 0, constantValue := 0 }, { name := "text", type := (.object "java/lang/String"), accessFlags := 18, slot := 0, constantValue := 0 }, { name := "position", type := .int, accessFlags := 2, slot := 1, constantValue := 0 }, { name := "line", type := .int, accessFlags := 2, slot := 2, constantValue := 0 }, { name := "lineStart", type := .int, accessFlags := 2, slot := 3, constantValue := 0 }]
  methods := #[k2m0, k2m1, k2m2]
  instanceTypes := #[(.object "java/lang/String"), .int, .int, .int]
  staticTypes := #[(.object "java/util/Map")]
  resolved := Array.replicate 245 none
  statics := none }

def pool3 : Array CpInfo := pool [(1, u "java/lang/Cloneable"), (0, .class_ 1), (0, u "java/lang/Object"), (0, .class_ 3)] 3

/-- java/lang/Cloneable -/
def k3 : Class := { plain "java/lang/Cloneable" (some 0) with
  accessFlags := 1537
  interfaces := #[]
  cf := some (fileOf pool3 2 #[] #[] 1537 4 #[] #[])
  fields := #[]
  methods := #[]
  instanceTypes := #[]
  staticTypes := #[]
  resolved := Array.replicate 8 none
  statics := none }

def pool4 : Array CpInfo := pool [(1, u "java/io/Serializable"), (0, .class_ 1), (0, u "java/lang/Object"), (0, .class_ 3)] 3

/-- java/io/Serializable -/
def k4 : Class := { plain "java/io/Serializable" (some 0) with
  accessFlags := 1537
  interfaces := #[]
  cf := some (fileOf pool4 2 #[] #[] 1537 4 #[] #[])
  fields := #[]
  methods := #[]
  instanceTypes := #[]
  staticTypes := #[]
  resolved := Array.replicate 8 none
  statics := none }

/-- the primitive byte -/
def k5 : Class := { plain "byte" none with kind := .primitive 'B', accessFlags := 0x411 }
/-- [B -/
def k6 : Class := { plain "[B" (some 0) with kind := .array 5 .byte, interfaces := #[3, 4], accessFlags := 1041 }

/-- the primitive int -/
def k7 : Class := { plain "int" none with kind := .primitive 'I', accessFlags := 0x411 }
/-- [I -/
def k8 : Class := { plain "[I" (some 0) with kind := .array 7 .int, interfaces := #[3, 4], accessFlags := 1041 }

def heap : Heap := #[]
def classes : Array Class := #[k0, k1, k2, k3, k4, k5, k6, k7, k8]
def interned : List (Array UInt16 × Addr) := []
def slotsUsed : Nat := 0
def theMethod : MethodId := ⟨1, 1⟩
def args0 : Array Value := #[.int 65]
def aboutOver (below : List Frame) : State where
  vm := { classes := classes, interned := interned.toArray }
  heap := heap
  slotsUsed := slotsUsed
  threads := #[{ frames := .invoking theMethod args0 :: below }]
def below0 : List Frame := [.native { method := ⟨0, 0⟩, args := #[] }]
def about1 : State := aboutOver below0
def p0 : Program := .bare "" "" ""
def e0 : Env := launch0.env 0 0 0
theorem w_frames : about1.frames = Frame.invoking theMethod args0 :: below0 := rfl
set_option maxRecDepth 65536 in
theorem w_args : argsFit about1.vm theMethod args0 = true := by decide +kernel
set_option maxRecDepth 65536 in
theorem w_heap : heapFits about1 = true := by decide +kernel
set_option maxRecDepth 65536 in
theorem w_runnable : about1.curStatus? = some .runnable := by decide +kernel
set_option maxRecDepth 65536 in
theorem w_alone : about1.alone = true := by decide +kernel
set_option maxRecDepth 65536 in
theorem w_named : about1.methodNamed? x = some theMethod := by decide +kernel
set_option maxRecDepth 65536 in
theorem w_hears : about1.hears theMethod below0 = true := by decide +kernel
set_option maxRecDepth 65536 in
theorem w_ripe : about1.ripe theMethod args0 below0 = true := by decide +kernel
theorem w_running : about1.status = .running := rfl
set_option maxRecDepth 65536 in
theorem w_room : about1.hasRoom e0.platform room_1 = true :=
  launch0.hasRoom_least _ room_1 (by decide +kernel) (by decide +kernel) (by decide +kernel) (by decide +kernel) (by decide +kernel) (by decide +kernel)
theorem allAtoms_all (ts : List Jvm.Cond) (a : Array Jvm.Value) (st : Jvm.State) : (allAtoms ts).before a st = ts.all (fun c => c.before a st) := by
  induction ts with
  | nil => rfl
  | cons c t ih =>
    show (Jvm.Cond.and c (allAtoms t)).before a st = _
    rw [Jvm.Cond.before_and, ih, List.all_cons]
def words1 : List Jvm.Cond := Jvm.Cond.code x code maxLocals ret :: tables_1
/-- a 'code' word, met by the world's own term for the bytes: nothing is compared byte by byte -/
theorem code_word {y : MethodName} {bytes : ByteArray} {mx : Nat} {rt : Option FieldType} {a : Array Value} {s : State} {m : MethodId} {meth : Method} {c : Code} (h1 : s.methodNamed? y = some m) (h2 : s.vm.method? m = some meth) (h3 : meth.code = some c) (h4 : c.code = bytes)
    (h5 : (c.maxLocals == mx && c.exceptionTable.isEmpty && decide (c.maxStack ≤ mostOperands) && decide (meth.sig.returnType = rt) && !meth.locks && decide (parseMethodDescriptor y.desc = some meth.sig)) = true) : (Jvm.Cond.code y bytes mx rt).before a s = true := by
  simp only [Bool.and_eq_true, beq_iff_eq, Bool.not_eq_true', decide_eq_true_eq] at h5
  obtain ⟨⟨⟨⟨⟨g1, g2⟩, g3⟩, g4⟩, g5⟩, g6⟩ := h5
  simp [Cond.before, Cond.holds, Cond.value, h1, h2, h3, h4, g1, g2, g3, g4, g5, g6]
def isCode : Jvm.Cond → Bool
  | .code _ _ _ _ => true
  | _ => false
theorem all_split {L : List Jvm.Cond} {P : Jvm.Cond → Bool} (h1 : L.all (fun c => isCode c || P c) = true) (h2 : ∀ c ∈ L.filter isCode, P c = true) : L.all P = true := by
  refine List.all_eq_true.mpr fun c hc => ?_
  have h := List.all_eq_true.mp h1 c hc
  rcases Bool.eq_false_or_eq_true (isCode c) with hi | hi
  · exact h2 c (List.mem_filter.mpr ⟨hc, hi⟩)
  · simpa [hi] using h
set_option maxRecDepth 65536 in
theorem w_c0 : (Jvm.Cond.code x code maxLocals ret).before args0 about1 = true := code_word (m := ⟨1, 1⟩) (meth := k1m1) (c := k1c1) (by decide +kernel) rfl rfl rfl (by decide +kernel)
set_option maxRecDepth 65536 in
theorem w_c1 : (Jvm.Cond.code ({ cls := "com/example/boxes_into_chains/boxesintochains/Lexer", name := "continuesName", desc := "(C)Z" } : Jvm.MethodName) prog_36_method_8_code (1 : Nat) (Option.some Jvm.ClassFile.FieldType.boolean)).before args0 about1 = true := code_word (m := ⟨2, 0⟩) (meth := k2m0) (c := k2c0) (by decide +kernel) rfl rfl rfl (by decide +kernel)
set_option maxRecDepth 65536 in
theorem w_c2 : (Jvm.Cond.code ({ cls := "com/example/boxes_into_chains/boxesintochains/Lexer", name := "isLetter", desc := "(C)Z" } : Jvm.MethodName) prog_36_method_9_code (1 : Nat) (Option.some Jvm.ClassFile.FieldType.boolean)).before args0 about1 = true := code_word (m := ⟨2, 1⟩) (meth := k2m1) (c := k2c1) (by decide +kernel) rfl rfl rfl (by decide +kernel)
set_option maxRecDepth 65536 in
theorem w_c3 : (Jvm.Cond.code ({ cls := "com/example/boxes_into_chains/boxesintochains/Lexer", name := "isDigit", desc := "(C)Z" } : Jvm.MethodName) prog_36_method_10_code (1 : Nat) (Option.some Jvm.ClassFile.FieldType.boolean)).before args0 about1 = true := code_word (m := ⟨2, 2⟩) (meth := k2m2) (c := k2c2) (by decide +kernel) rfl rfl rfl (by decide +kernel)
def codes1 : List Jvm.Cond := [Jvm.Cond.code x code maxLocals ret, Jvm.Cond.code ({ cls := "com/example/boxes_into_chains/boxesintochains/Lexer", name := "continuesName", desc := "(C)Z" } : Jvm.MethodName) prog_36_method_8_code (1 : Nat) (Option.some Jvm.ClassFile.FieldType.boolean), Jvm.Cond.code ({ cls := "com/example/boxes_into_chains/boxesintochains/Lexer", name := "isLetter", desc := "(C)Z" } : Jvm.MethodName) prog_36_method_9_code (1 : Nat) (Option.some Jvm.ClassFile.FieldType.boolean), Jvm.Cond.code ({ cls := "com/example/boxes_into_chains/boxesintochains/Lexer", name := "isDigit", desc := "(C)Z" } : Jvm.MethodName) prog_36_method_10_code (1 : Nat) (Option.some Jvm.ClassFile.FieldType.boolean)]
set_option maxRecDepth 65536 in
theorem codes_eq : words1.filter isCode = codes1 := rfl
theorem w_codes : ∀ c ∈ words1.filter isCode, c.before args0 about1 = true := by
  rw [codes_eq]
  intro c hc
  simp only [codes1, List.mem_cons, List.not_mem_nil, or_false] at hc
  rcases hc with rfl | rfl | rfl | rfl
  · exact w_c0
  · exact w_c1
  · exact w_c2
  · exact w_c3
set_option maxRecDepth 65536 in
theorem w_t1 : words1.all (fun c => isCode c || c.before args0 about1) = true := by decide +kernel
theorem w_tables : (allAtoms (Jvm.Cond.code x code maxLocals ret :: tables_1)).before args0 about1 = true := by
  rw [allAtoms_all]
  show words1.all (fun c => c.before args0 about1) = true
  refine all_split ?_ w_codes
  rw [w_t1]
set_option maxRecDepth 65536 in
theorem w_case : (Jvm.Cond.and given_1 narrow_1).before args0 about1 = true := by decide +kernel
theorem w_applies : (headSpec (Jvm.Cond.code x code maxLocals ret :: tables_1) room_1).applies x e0.platform about1 = true :=
  (Spec.applies_iff w_frames).mpr ⟨w_running, w_runnable, w_alone, w_named, w_hears, w_ripe, w_room, w_tables⟩
theorem atStart : AtStart classFile x code maxLocals ret World_1 tables_1 room_1 Calls_1 rest_1 Pre_1 launch0 p0 e0 about1 theMethod args0 below0 :=
  ⟨lists_1, trivial, launch0.admits_env _ _ _, launch0.least_env, fairChoices_fair.cas, fairChoices_fair.clock, w_frames, w_args, w_heap, w_applies, trivial, trivial, w_case⟩
end start1
theorem witness_1 : WitnessClaimed_1 := ⟨start1.p0, start1.e0, start1.about1, start1.theMethod, start1.args0, start1.below0, start1.atStart⟩
end Jvm.Pilot.@@N@@
