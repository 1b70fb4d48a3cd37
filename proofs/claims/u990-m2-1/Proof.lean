import JvmDerived
import JvmDerived.Pilot.@@N@@Statement
import JvmDerived.Pilot.@@N@@Code
set_option linter.unusedVariables false
set_option linter.unusedSimpArgs false
namespace Jvm.RoadKit
open Sem ClassFile Op Lib Jvm.Stand Jvm.Free Jvm.LawKit
section New
variable {p : Program} {l : Launch} {e : Env} {R : Room} {s : State} {m : MethodId} {args : Array Value} {below : List Frame} {meth : Method} {c : Code} {T : State} {locs : List Loc} {cells slots : Nat}
theorem retI (X : Stand p l e R s m args below meth c T locs cells slots) (hx : p.tables.exec = Jvm.exec) {pc : Nat} {Ls : Array Slot} {z : Int32} {rest : List Value} (hret : meth.sig.returnType = some .int) (hd : decode c.code pc = .ok (.ireturn, 1)) {fs : List Frame}
    (hl : ∀ (f : JFrame) (acts : List Action), f.method = m → f.locked = none → f.entered = [] → (doReturn e (T.setTop f) acts (some (.int z))).1 = T.setFrames fs) : Steps p.tables e below (T.setTop (mkF m pc Ls (.int z :: rest))) (T.setFrames fs) := by
  have hm' : T.vm.method? m = some meth := X.method'
  have hn : narrow .int (.int z) = .int z := rfl
  show Steps p.tables e below (T.setTop { method := m, pc := pc, locals := Ls, stack := _ :: rest, locked := none }) _
  jvm_step X.here [X.here.top, hx, hd, hm', hret, hn]
  first | (intro acts; rw [hl _ acts rfl rfl rfl]) | rw [hl _ _ rfl rfl rfl]
  exact Steps.refl _
end New
end Jvm.RoadKit
namespace Jvm.Pilot.@@N@@
open Jvm Jvm.ClassFile Sem Op Lib Jvm.Free Jvm.Stand Jvm.LawKit Jvm.RoadKit Bundle Jvm.Pilot.@@N@@.Jvm.D
def own_u2 (c : Int32) : Int32 := (((32960 : Int32) ||| ((c.toUInt32 >>> ((6 : Int32) &&& 31).toUInt32).toInt32)) ||| ((c &&& (63 : Int32)) <<< ((8 : Int32) &&& 31)))
def own_u3 (c : Int32) : Int32 := ((((8421600 : Int32) ||| ((c.toUInt32 >>> ((12 : Int32) &&& 31).toUInt32).toInt32)) ||| ((((c.toUInt32 >>> ((6 : Int32) &&& 31).toUInt32).toInt32) &&& (63 : Int32)) <<< ((8 : Int32) &&& 31))) ||| ((c &&& (63 : Int32)) <<< ((16 : Int32) &&& 31)))
def own_U (c : Int32) : Int32 := if c < 128 then c else if c < 2048 then own_u2 c else own_u3 c
theorem d1_0 : decode prog_63_method_2_code 0 = .ok (.iload_n 0, 1) := by decide +kernel
theorem d1_1 : decode prog_63_method_2_code 1 = .ok (.sipush 128, 3) := by decide +kernel
theorem d1_4 : decode prog_63_method_2_code 4 = .ok (.if_icmp .ge 5, 3) := by decide +kernel
theorem d1_7 : decode prog_63_method_2_code 7 = .ok (.iload_n 0, 1) := by decide +kernel
theorem d1_8 : decode prog_63_method_2_code 8 = .ok (.ireturn, 1) := by decide +kernel
theorem d1_9 : decode prog_63_method_2_code 9 = .ok (.iload_n 0, 1) := by decide +kernel
theorem d1_10 : decode prog_63_method_2_code 10 = .ok (.sipush 2048, 3) := by decide +kernel
theorem d1_13 : decode prog_63_method_2_code 13 = .ok (.if_icmp .ge 19, 3) := by decide +kernel
theorem d1_16 : decode prog_63_method_2_code 16 = .ok (.ldc 5, 2) := by decide +kernel
theorem d1_18 : decode prog_63_method_2_code 18 = .ok (.iload_n 0, 1) := by decide +kernel
theorem d1_19 : decode prog_63_method_2_code 19 = .ok (.bipush 6, 2) := by decide +kernel
theorem d1_21 : decode prog_63_method_2_code 21 = .ok (.iushr, 1) := by decide +kernel
theorem d1_22 : decode prog_63_method_2_code 22 = .ok (.ior, 1) := by decide +kernel
theorem d1_23 : decode prog_63_method_2_code 23 = .ok (.iload_n 0, 1) := by decide +kernel
theorem d1_24 : decode prog_63_method_2_code 24 = .ok (.bipush 63, 2) := by decide +kernel
theorem d1_26 : decode prog_63_method_2_code 26 = .ok (.iand, 1) := by decide +kernel
theorem d1_27 : decode prog_63_method_2_code 27 = .ok (.bipush 8, 2) := by decide +kernel
theorem d1_29 : decode prog_63_method_2_code 29 = .ok (.ishl, 1) := by decide +kernel
theorem d1_30 : decode prog_63_method_2_code 30 = .ok (.ior, 1) := by decide +kernel
theorem d1_31 : decode prog_63_method_2_code 31 = .ok (.ireturn, 1) := by decide +kernel
theorem d1_32 : decode prog_63_method_2_code 32 = .ok (.ldc 6, 2) := by decide +kernel
theorem d1_34 : decode prog_63_method_2_code 34 = .ok (.iload_n 0, 1) := by decide +kernel
theorem d1_35 : decode prog_63_method_2_code 35 = .ok (.bipush 12, 2) := by decide +kernel
theorem d1_37 : decode prog_63_method_2_code 37 = .ok (.iushr, 1) := by decide +kernel
theorem d1_38 : decode prog_63_method_2_code 38 = .ok (.ior, 1) := by decide +kernel
theorem d1_39 : decode prog_63_method_2_code 39 = .ok (.iload_n 0, 1) := by decide +kernel
theorem d1_40 : decode prog_63_method_2_code 40 = .ok (.bipush 6, 2) := by decide +kernel
theorem d1_42 : decode prog_63_method_2_code 42 = .ok (.iushr, 1) := by decide +kernel
theorem d1_43 : decode prog_63_method_2_code 43 = .ok (.bipush 63, 2) := by decide +kernel
theorem d1_45 : decode prog_63_method_2_code 45 = .ok (.iand, 1) := by decide +kernel
theorem d1_46 : decode prog_63_method_2_code 46 = .ok (.bipush 8, 2) := by decide +kernel
theorem d1_48 : decode prog_63_method_2_code 48 = .ok (.ishl, 1) := by decide +kernel
theorem d1_49 : decode prog_63_method_2_code 49 = .ok (.ior, 1) := by decide +kernel
theorem d1_50 : decode prog_63_method_2_code 50 = .ok (.iload_n 0, 1) := by decide +kernel
theorem d1_51 : decode prog_63_method_2_code 51 = .ok (.bipush 63, 2) := by decide +kernel
theorem d1_53 : decode prog_63_method_2_code 53 = .ok (.iand, 1) := by decide +kernel
theorem d1_54 : decode prog_63_method_2_code 54 = .ok (.bipush 16, 2) := by decide +kernel
theorem d1_56 : decode prog_63_method_2_code 56 = .ok (.ishl, 1) := by decide +kernel
theorem d1_57 : decode prog_63_method_2_code 57 = .ok (.ior, 1) := by decide +kernel
theorem d1_58 : decode prog_63_method_2_code 58 = .ok (.ireturn, 1) := by decide +kernel
theorem ef_1 (m : MethodId) (x0 : Int32) : entryFrame m #[(.int x0)] 1 = mkF m 0 #[.val (.int x0)] [] := by first | (simp [entryFrame, mkF, argsToLocals, Value.category]; done) | rfl
theorem pn_1 : plainName "com/example/taster/taster/io/Translation" = true := by first | (simp [plainName, overriddenIn]; done) | decide +kernel
def Q1 (Z : State) (p1 : Int32) (r : Int32) (h0 : Heap) (n0 : Nat) (v : Option Value) (h : Heap) (L : List Loc) : Prop := v = some (.int r) ∧ Fr n0 L ∧ h = h0
set_option maxRecDepth 65536 in
set_option maxHeartbeats 40000000 in
theorem own_rm1_f (l : Launch) (Z : State) (a0 : Array Value) (hw : ∀ d ∈ tables_1, d.before a0 Z = true) (ws : List Jvm.Cond) (p1 : Int32) (h0 : Heap) (n0 : Nat) (Z0 : n0 ≤ h0.size) (hc4 : p1 < (128 : Int32)) :
    MetFree l (⟨"com/example/taster/taster/io/Translation", "utf8", "(C)I"⟩ : MethodName) (head1 (Jvm.Cond.code (⟨"com/example/taster/taster/io/Translation", "utf8", "(C)I"⟩ : MethodName) prog_63_method_2_code 1 (some .int) :: ws) ({ frames := 0, cells := 0, slots := 0, locals := 0 } : Room)) (fun a U => a = #[(.int p1)] ∧ Z.Warmed39 U.vm ∧ U.heap = h0) (fun _ _ _ _ _ => True) (fun _ U o U' => ∃ v L, o = .returned v ∧ Q1 Z p1 p1 h0 n0 v U'.heap L ∧ FrameEnd U o U' L ({ frames := 0, cells := 0, slots := 0, locals := 0 } : Room).cells ({ frames := 0, cells := 0, slots := 0, locals := 0 } : Room).slots) := by
  refine MetFree.of_bodySF (plainFor_of_name pn_1) hisR ?_
  intro p e s m args below meth c s₁ Bd hml0 hP hK
  obtain ⟨rfl, hZ, hh⟩ := hP
  have hx := Bd.exec
  have hby := Bd.bytes
  have hml : c.maxLocals = 1 := hml0
  have hown : s.vm.findClass "com/example/taster/taster/io/Translation" = some m.cls := findClass_of_methodNamed Bd.named
  have hnm := (name_of_methodNamed Bd.named Bd.method).1
  have X0 : Stand p l e ({ frames := 0, cells := 0, slots := 0, locals := 0 } : Room) s m #[(.int p1)] below meth c s₁ [] 0 0 := Stand.of_body Bd
  have e0 : s₁.heap = h0 := by rw [← hh, Bd.state]; rfl
  have N0 := Fr.nil n0
  have pre0 : ∀ t, Steps p.tables e below (s₁.setTop (mkF m 0 #[.val (.int p1)] [])) t → Steps p.tables e below (s₁.setTop (entryFrame m #[(.int p1)] 1)) t := fun t k => castTop (ef_1 m p1) k

  obtain ⟨fs, hr, hrun, hended, hW, hsame⟩ := X0.leave (v := some (.int p1)) (fun h => by rw [Bd.returns] at h; cases h)
  refine ⟨_, _, pre0 _ ?_, hrun, hended, _, _, rfl, ?_, ⟨_, rfl⟩, hW, hsame.mono (by decide) (by decide)⟩
  · show Steps p.tables e below (s₁.setTop (mkF m 0 #[.val (.int p1)] [])) _
    refine XS.iloadN X0.here hx rfl (hb hby d1_0) rfl ?_
    show Steps p.tables e below (s₁.setTop (mkF m 1 #[.val (.int p1)] [(.int p1)])) _
    refine XS.sipush X0.here hx rfl (hb hby d1_1) ?_
    show Steps p.tables e below (s₁.setTop (mkF m 4 #[.val (.int p1)] [(.int (128 : Int32)), (.int p1)])) _
    refine XS.icmpNo X0.here hx rfl (hb hby d1_4) rfl (tlt hc4).2.1 ?_
    show Steps p.tables e below (s₁.setTop (mkF m 7 #[.val (.int p1)] [])) _
    refine XS.iloadN X0.here hx rfl (hb hby d1_7) rfl ?_
    show Steps p.tables e below (s₁.setTop (mkF m 8 #[.val (.int p1)] [(.int p1)])) _
    exact retI X0 hx Bd.returns (hb hby d1_8) hr
  · show Q1 Z p1 p1 h0 n0 _ s₁.heap _
    rw [e0]
    exact ⟨rfl, N0, rfl⟩
set_option maxRecDepth 65536 in
set_option maxHeartbeats 40000000 in
theorem own_rm1_tf (l : Launch) (Z : State) (a0 : Array Value) (hw : ∀ d ∈ tables_1, d.before a0 Z = true) (ws : List Jvm.Cond) (p1 : Int32) (h0 : Heap) (n0 : Nat) (Z0 : n0 ≤ h0.size) (hc4 : ¬ (p1 < (128 : Int32))) (hc13 : p1 < (2048 : Int32)) :
    MetFree l (⟨"com/example/taster/taster/io/Translation", "utf8", "(C)I"⟩ : MethodName) (head1 (Jvm.Cond.code (⟨"com/example/taster/taster/io/Translation", "utf8", "(C)I"⟩ : MethodName) prog_63_method_2_code 1 (some .int) :: ws) ({ frames := 0, cells := 0, slots := 0, locals := 0 } : Room)) (fun a U => a = #[(.int p1)] ∧ Z.Warmed39 U.vm ∧ U.heap = h0) (fun _ _ _ _ _ => True) (fun _ U o U' => ∃ v L, o = .returned v ∧ Q1 Z p1 (own_u2 p1) h0 n0 v U'.heap L ∧ FrameEnd U o U' L ({ frames := 0, cells := 0, slots := 0, locals := 0 } : Room).cells ({ frames := 0, cells := 0, slots := 0, locals := 0 } : Room).slots) := by
  refine MetFree.of_bodySF (plainFor_of_name pn_1) hisR ?_
  intro p e s m args below meth c s₁ Bd hml0 hP hK
  obtain ⟨rfl, hZ, hh⟩ := hP
  have hx := Bd.exec
  have hby := Bd.bytes
  have hml : c.maxLocals = 1 := hml0
  have hown : s.vm.findClass "com/example/taster/taster/io/Translation" = some m.cls := findClass_of_methodNamed Bd.named
  have hnm := (name_of_methodNamed Bd.named Bd.method).1
  have X0 : Stand p l e ({ frames := 0, cells := 0, slots := 0, locals := 0 } : Room) s m #[(.int p1)] below meth c s₁ [] 0 0 := Stand.of_body Bd
  have e0 : s₁.heap = h0 := by rw [← hh, Bd.state]; rfl
  have N0 := Fr.nil n0
  have pre0 : ∀ t, Steps p.tables e below (s₁.setTop (mkF m 0 #[.val (.int p1)] [])) t → Steps p.tables e below (s₁.setTop (entryFrame m #[(.int p1)] 1)) t := fun t k => castTop (ef_1 m p1) k

  obtain ⟨fs, hr, hrun, hended, hW, hsame⟩ := X0.leave (v := some (.int (((32960 : Int32) ||| ((p1.toUInt32 >>> ((6 : Int32) &&& 31).toUInt32).toInt32)) ||| ((p1 &&& (63 : Int32)) <<< ((8 : Int32) &&& 31))))) (fun h => by rw [Bd.returns] at h; cases h)
  refine ⟨_, _, pre0 _ ?_, hrun, hended, _, _, rfl, ?_, ⟨_, rfl⟩, hW, hsame.mono (by decide) (by decide)⟩
  · show Steps p.tables e below (s₁.setTop (mkF m 0 #[.val (.int p1)] [])) _
    refine XS.iloadN X0.here hx rfl (hb hby d1_0) rfl ?_
    show Steps p.tables e below (s₁.setTop (mkF m 1 #[.val (.int p1)] [(.int p1)])) _
    refine XS.sipush X0.here hx rfl (hb hby d1_1) ?_
    show Steps p.tables e below (s₁.setTop (mkF m 4 #[.val (.int p1)] [(.int (128 : Int32)), (.int p1)])) _
    refine XS.icmpYes X0.here hx rfl (pc0 := 4) (pc' := 9) rfl (hb hby d1_4) rfl (flt hc4).2.1 (by decide) (by decide) ?_
    show Steps p.tables e below (s₁.setTop (mkF m 9 #[.val (.int p1)] [])) _
    refine XS.iloadN X0.here hx rfl (hb hby d1_9) rfl ?_
    show Steps p.tables e below (s₁.setTop (mkF m 10 #[.val (.int p1)] [(.int p1)])) _
    refine XS.sipush X0.here hx rfl (hb hby d1_10) ?_
    show Steps p.tables e below (s₁.setTop (mkF m 13 #[.val (.int p1)] [(.int (2048 : Int32)), (.int p1)])) _
    refine XS.icmpNo X0.here hx rfl (hb hby d1_13) rfl (tlt hc13).2.1 ?_
    show Steps p.tables e below (s₁.setTop (mkF m 16 #[.val (.int p1)] [])) _
    refine X0.ldcInt hx hown (mvT hZ (hw _ (List.mem_of_getElem? (i := 8) rfl))) (g := (mkF m 16 #[.val (.int p1)] [])) rfl (hb hby d1_16) _ ?_
    show Steps p.tables e below (s₁.setTop (mkF m 18 #[.val (.int p1)] [(.int (32960 : Int32))])) _
    refine XS.iloadN X0.here hx rfl (hb hby d1_18) rfl ?_
    show Steps p.tables e below (s₁.setTop (mkF m 19 #[.val (.int p1)] [(.int p1), (.int (32960 : Int32))])) _
    refine XS.bipush X0.here hx rfl (hb hby d1_19) ?_
    show Steps p.tables e below (s₁.setTop (mkF m 21 #[.val (.int p1)] [(.int (6 : Int32)), (.int p1), (.int (32960 : Int32))])) _
    refine XS.iushr X0.here hx rfl (hb hby d1_21) rfl ?_
    show Steps p.tables e below (s₁.setTop (mkF m 22 #[.val (.int p1)] [(.int ((p1.toUInt32 >>> ((6 : Int32) &&& 31).toUInt32).toInt32)), (.int (32960 : Int32))])) _
    refine XS.ior X0.here hx rfl (hb hby d1_22) rfl ?_
    show Steps p.tables e below (s₁.setTop (mkF m 23 #[.val (.int p1)] [(.int ((32960 : Int32) ||| ((p1.toUInt32 >>> ((6 : Int32) &&& 31).toUInt32).toInt32)))])) _
    refine XS.iloadN X0.here hx rfl (hb hby d1_23) rfl ?_
    show Steps p.tables e below (s₁.setTop (mkF m 24 #[.val (.int p1)] [(.int p1), (.int ((32960 : Int32) ||| ((p1.toUInt32 >>> ((6 : Int32) &&& 31).toUInt32).toInt32)))])) _
    refine XS.bipush X0.here hx rfl (hb hby d1_24) ?_
    show Steps p.tables e below (s₁.setTop (mkF m 26 #[.val (.int p1)] [(.int (63 : Int32)), (.int p1), (.int ((32960 : Int32) ||| ((p1.toUInt32 >>> ((6 : Int32) &&& 31).toUInt32).toInt32)))])) _
    refine XS.iand X0.here hx rfl (hb hby d1_26) rfl ?_
    show Steps p.tables e below (s₁.setTop (mkF m 27 #[.val (.int p1)] [(.int (p1 &&& (63 : Int32))), (.int ((32960 : Int32) ||| ((p1.toUInt32 >>> ((6 : Int32) &&& 31).toUInt32).toInt32)))])) _
    refine XS.bipush X0.here hx rfl (hb hby d1_27) ?_
    show Steps p.tables e below (s₁.setTop (mkF m 29 #[.val (.int p1)] [(.int (8 : Int32)), (.int (p1 &&& (63 : Int32))), (.int ((32960 : Int32) ||| ((p1.toUInt32 >>> ((6 : Int32) &&& 31).toUInt32).toInt32)))])) _
    refine XS.ishl X0.here hx rfl (hb hby d1_29) rfl ?_
    show Steps p.tables e below (s₁.setTop (mkF m 30 #[.val (.int p1)] [(.int ((p1 &&& (63 : Int32)) <<< ((8 : Int32) &&& 31))), (.int ((32960 : Int32) ||| ((p1.toUInt32 >>> ((6 : Int32) &&& 31).toUInt32).toInt32)))])) _
    refine XS.ior X0.here hx rfl (hb hby d1_30) rfl ?_
    show Steps p.tables e below (s₁.setTop (mkF m 31 #[.val (.int p1)] [(.int (((32960 : Int32) ||| ((p1.toUInt32 >>> ((6 : Int32) &&& 31).toUInt32).toInt32)) ||| ((p1 &&& (63 : Int32)) <<< ((8 : Int32) &&& 31))))])) _
    exact retI X0 hx Bd.returns (hb hby d1_31) hr
  · show Q1 Z p1 (own_u2 p1) h0 n0 _ s₁.heap _
    rw [e0]
    exact ⟨rfl, N0, rfl⟩
set_option maxRecDepth 65536 in
set_option maxHeartbeats 40000000 in
theorem own_rm1_tt (l : Launch) (Z : State) (a0 : Array Value) (hw : ∀ d ∈ tables_1, d.before a0 Z = true) (ws : List Jvm.Cond) (p1 : Int32) (h0 : Heap) (n0 : Nat) (Z0 : n0 ≤ h0.size) (hc4 : ¬ (p1 < (128 : Int32))) (hc13 : ¬ (p1 < (2048 : Int32))) :
    MetFree l (⟨"com/example/taster/taster/io/Translation", "utf8", "(C)I"⟩ : MethodName) (head1 (Jvm.Cond.code (⟨"com/example/taster/taster/io/Translation", "utf8", "(C)I"⟩ : MethodName) prog_63_method_2_code 1 (some .int) :: ws) ({ frames := 0, cells := 0, slots := 0, locals := 0 } : Room)) (fun a U => a = #[(.int p1)] ∧ Z.Warmed39 U.vm ∧ U.heap = h0) (fun _ _ _ _ _ => True) (fun _ U o U' => ∃ v L, o = .returned v ∧ Q1 Z p1 (own_u3 p1) h0 n0 v U'.heap L ∧ FrameEnd U o U' L ({ frames := 0, cells := 0, slots := 0, locals := 0 } : Room).cells ({ frames := 0, cells := 0, slots := 0, locals := 0 } : Room).slots) := by
  refine MetFree.of_bodySF (plainFor_of_name pn_1) hisR ?_
  intro p e s m args below meth c s₁ Bd hml0 hP hK
  obtain ⟨rfl, hZ, hh⟩ := hP
  have hx := Bd.exec
  have hby := Bd.bytes
  have hml : c.maxLocals = 1 := hml0
  have hown : s.vm.findClass "com/example/taster/taster/io/Translation" = some m.cls := findClass_of_methodNamed Bd.named
  have hnm := (name_of_methodNamed Bd.named Bd.method).1
  have X0 : Stand p l e ({ frames := 0, cells := 0, slots := 0, locals := 0 } : Room) s m #[(.int p1)] below meth c s₁ [] 0 0 := Stand.of_body Bd
  have e0 : s₁.heap = h0 := by rw [← hh, Bd.state]; rfl
  have N0 := Fr.nil n0
  have pre0 : ∀ t, Steps p.tables e below (s₁.setTop (mkF m 0 #[.val (.int p1)] [])) t → Steps p.tables e below (s₁.setTop (entryFrame m #[(.int p1)] 1)) t := fun t k => castTop (ef_1 m p1) k

  obtain ⟨fs, hr, hrun, hended, hW, hsame⟩ := X0.leave (v := some (.int ((((8421600 : Int32) ||| ((p1.toUInt32 >>> ((12 : Int32) &&& 31).toUInt32).toInt32)) ||| ((((p1.toUInt32 >>> ((6 : Int32) &&& 31).toUInt32).toInt32) &&& (63 : Int32)) <<< ((8 : Int32) &&& 31))) ||| ((p1 &&& (63 : Int32)) <<< ((16 : Int32) &&& 31))))) (fun h => by rw [Bd.returns] at h; cases h)
  refine ⟨_, _, pre0 _ ?_, hrun, hended, _, _, rfl, ?_, ⟨_, rfl⟩, hW, hsame.mono (by decide) (by decide)⟩
  · show Steps p.tables e below (s₁.setTop (mkF m 0 #[.val (.int p1)] [])) _
    refine XS.iloadN X0.here hx rfl (hb hby d1_0) rfl ?_
    show Steps p.tables e below (s₁.setTop (mkF m 1 #[.val (.int p1)] [(.int p1)])) _
    refine XS.sipush X0.here hx rfl (hb hby d1_1) ?_
    show Steps p.tables e below (s₁.setTop (mkF m 4 #[.val (.int p1)] [(.int (128 : Int32)), (.int p1)])) _
    refine XS.icmpYes X0.here hx rfl (pc0 := 4) (pc' := 9) rfl (hb hby d1_4) rfl (flt hc4).2.1 (by decide) (by decide) ?_
    show Steps p.tables e below (s₁.setTop (mkF m 9 #[.val (.int p1)] [])) _
    refine XS.iloadN X0.here hx rfl (hb hby d1_9) rfl ?_
    show Steps p.tables e below (s₁.setTop (mkF m 10 #[.val (.int p1)] [(.int p1)])) _
    refine XS.sipush X0.here hx rfl (hb hby d1_10) ?_
    show Steps p.tables e below (s₁.setTop (mkF m 13 #[.val (.int p1)] [(.int (2048 : Int32)), (.int p1)])) _
    refine XS.icmpYes X0.here hx rfl (pc0 := 13) (pc' := 32) rfl (hb hby d1_13) rfl (flt hc13).2.1 (by decide) (by decide) ?_
    show Steps p.tables e below (s₁.setTop (mkF m 32 #[.val (.int p1)] [])) _
    refine X0.ldcInt hx hown (mvT hZ (hw _ (List.mem_of_getElem? (i := 6) rfl))) (g := (mkF m 32 #[.val (.int p1)] [])) rfl (hb hby d1_32) _ ?_
    show Steps p.tables e below (s₁.setTop (mkF m 34 #[.val (.int p1)] [(.int (8421600 : Int32))])) _
    refine XS.iloadN X0.here hx rfl (hb hby d1_34) rfl ?_
    show Steps p.tables e below (s₁.setTop (mkF m 35 #[.val (.int p1)] [(.int p1), (.int (8421600 : Int32))])) _
    refine XS.bipush X0.here hx rfl (hb hby d1_35) ?_
    show Steps p.tables e below (s₁.setTop (mkF m 37 #[.val (.int p1)] [(.int (12 : Int32)), (.int p1), (.int (8421600 : Int32))])) _
    refine XS.iushr X0.here hx rfl (hb hby d1_37) rfl ?_
    show Steps p.tables e below (s₁.setTop (mkF m 38 #[.val (.int p1)] [(.int ((p1.toUInt32 >>> ((12 : Int32) &&& 31).toUInt32).toInt32)), (.int (8421600 : Int32))])) _
    refine XS.ior X0.here hx rfl (hb hby d1_38) rfl ?_
    show Steps p.tables e below (s₁.setTop (mkF m 39 #[.val (.int p1)] [(.int ((8421600 : Int32) ||| ((p1.toUInt32 >>> ((12 : Int32) &&& 31).toUInt32).toInt32)))])) _
    refine XS.iloadN X0.here hx rfl (hb hby d1_39) rfl ?_
    show Steps p.tables e below (s₁.setTop (mkF m 40 #[.val (.int p1)] [(.int p1), (.int ((8421600 : Int32) ||| ((p1.toUInt32 >>> ((12 : Int32) &&& 31).toUInt32).toInt32)))])) _
    refine XS.bipush X0.here hx rfl (hb hby d1_40) ?_
    show Steps p.tables e below (s₁.setTop (mkF m 42 #[.val (.int p1)] [(.int (6 : Int32)), (.int p1), (.int ((8421600 : Int32) ||| ((p1.toUInt32 >>> ((12 : Int32) &&& 31).toUInt32).toInt32)))])) _
    refine XS.iushr X0.here hx rfl (hb hby d1_42) rfl ?_
    show Steps p.tables e below (s₁.setTop (mkF m 43 #[.val (.int p1)] [(.int ((p1.toUInt32 >>> ((6 : Int32) &&& 31).toUInt32).toInt32)), (.int ((8421600 : Int32) ||| ((p1.toUInt32 >>> ((12 : Int32) &&& 31).toUInt32).toInt32)))])) _
    refine XS.bipush X0.here hx rfl (hb hby d1_43) ?_
    show Steps p.tables e below (s₁.setTop (mkF m 45 #[.val (.int p1)] [(.int (63 : Int32)), (.int ((p1.toUInt32 >>> ((6 : Int32) &&& 31).toUInt32).toInt32)), (.int ((8421600 : Int32) ||| ((p1.toUInt32 >>> ((12 : Int32) &&& 31).toUInt32).toInt32)))])) _
    refine XS.iand X0.here hx rfl (hb hby d1_45) rfl ?_
    show Steps p.tables e below (s₁.setTop (mkF m 46 #[.val (.int p1)] [(.int (((p1.toUInt32 >>> ((6 : Int32) &&& 31).toUInt32).toInt32) &&& (63 : Int32))), (.int ((8421600 : Int32) ||| ((p1.toUInt32 >>> ((12 : Int32) &&& 31).toUInt32).toInt32)))])) _
    refine XS.bipush X0.here hx rfl (hb hby d1_46) ?_
    show Steps p.tables e below (s₁.setTop (mkF m 48 #[.val (.int p1)] [(.int (8 : Int32)), (.int (((p1.toUInt32 >>> ((6 : Int32) &&& 31).toUInt32).toInt32) &&& (63 : Int32))), (.int ((8421600 : Int32) ||| ((p1.toUInt32 >>> ((12 : Int32) &&& 31).toUInt32).toInt32)))])) _
    refine XS.ishl X0.here hx rfl (hb hby d1_48) rfl ?_
    show Steps p.tables e below (s₁.setTop (mkF m 49 #[.val (.int p1)] [(.int ((((p1.toUInt32 >>> ((6 : Int32) &&& 31).toUInt32).toInt32) &&& (63 : Int32)) <<< ((8 : Int32) &&& 31))), (.int ((8421600 : Int32) ||| ((p1.toUInt32 >>> ((12 : Int32) &&& 31).toUInt32).toInt32)))])) _
    refine XS.ior X0.here hx rfl (hb hby d1_49) rfl ?_
    show Steps p.tables e below (s₁.setTop (mkF m 50 #[.val (.int p1)] [(.int (((8421600 : Int32) ||| ((p1.toUInt32 >>> ((12 : Int32) &&& 31).toUInt32).toInt32)) ||| ((((p1.toUInt32 >>> ((6 : Int32) &&& 31).toUInt32).toInt32) &&& (63 : Int32)) <<< ((8 : Int32) &&& 31))))])) _
    refine XS.iloadN X0.here hx rfl (hb hby d1_50) rfl ?_
    show Steps p.tables e below (s₁.setTop (mkF m 51 #[.val (.int p1)] [(.int p1), (.int (((8421600 : Int32) ||| ((p1.toUInt32 >>> ((12 : Int32) &&& 31).toUInt32).toInt32)) ||| ((((p1.toUInt32 >>> ((6 : Int32) &&& 31).toUInt32).toInt32) &&& (63 : Int32)) <<< ((8 : Int32) &&& 31))))])) _
    refine XS.bipush X0.here hx rfl (hb hby d1_51) ?_
    show Steps p.tables e below (s₁.setTop (mkF m 53 #[.val (.int p1)] [(.int (63 : Int32)), (.int p1), (.int (((8421600 : Int32) ||| ((p1.toUInt32 >>> ((12 : Int32) &&& 31).toUInt32).toInt32)) ||| ((((p1.toUInt32 >>> ((6 : Int32) &&& 31).toUInt32).toInt32) &&& (63 : Int32)) <<< ((8 : Int32) &&& 31))))])) _
    refine XS.iand X0.here hx rfl (hb hby d1_53) rfl ?_
    show Steps p.tables e below (s₁.setTop (mkF m 54 #[.val (.int p1)] [(.int (p1 &&& (63 : Int32))), (.int (((8421600 : Int32) ||| ((p1.toUInt32 >>> ((12 : Int32) &&& 31).toUInt32).toInt32)) ||| ((((p1.toUInt32 >>> ((6 : Int32) &&& 31).toUInt32).toInt32) &&& (63 : Int32)) <<< ((8 : Int32) &&& 31))))])) _
    refine XS.bipush X0.here hx rfl (hb hby d1_54) ?_
    show Steps p.tables e below (s₁.setTop (mkF m 56 #[.val (.int p1)] [(.int (16 : Int32)), (.int (p1 &&& (63 : Int32))), (.int (((8421600 : Int32) ||| ((p1.toUInt32 >>> ((12 : Int32) &&& 31).toUInt32).toInt32)) ||| ((((p1.toUInt32 >>> ((6 : Int32) &&& 31).toUInt32).toInt32) &&& (63 : Int32)) <<< ((8 : Int32) &&& 31))))])) _
    refine XS.ishl X0.here hx rfl (hb hby d1_56) rfl ?_
    show Steps p.tables e below (s₁.setTop (mkF m 57 #[.val (.int p1)] [(.int ((p1 &&& (63 : Int32)) <<< ((16 : Int32) &&& 31))), (.int (((8421600 : Int32) ||| ((p1.toUInt32 >>> ((12 : Int32) &&& 31).toUInt32).toInt32)) ||| ((((p1.toUInt32 >>> ((6 : Int32) &&& 31).toUInt32).toInt32) &&& (63 : Int32)) <<< ((8 : Int32) &&& 31))))])) _
    refine XS.ior X0.here hx rfl (hb hby d1_57) rfl ?_
    show Steps p.tables e below (s₁.setTop (mkF m 58 #[.val (.int p1)] [(.int ((((8421600 : Int32) ||| ((p1.toUInt32 >>> ((12 : Int32) &&& 31).toUInt32).toInt32)) ||| ((((p1.toUInt32 >>> ((6 : Int32) &&& 31).toUInt32).toInt32) &&& (63 : Int32)) <<< ((8 : Int32) &&& 31))) ||| ((p1 &&& (63 : Int32)) <<< ((16 : Int32) &&& 31))))])) _
    exact retI X0 hx Bd.returns (hb hby d1_58) hr
  · show Q1 Z p1 (own_u3 p1) h0 n0 _ s₁.heap _
    rw [e0]
    exact ⟨rfl, N0, rfl⟩
theorem rm1 (l : Launch) (Z : State) (a0 : Array Value) (hw : ∀ d ∈ tables_1, d.before a0 Z = true) (ws : List Jvm.Cond) (p1 : Int32) (h0 : Heap) (n0 : Nat) (Z0 : n0 ≤ h0.size) :
    MetFree l (⟨"com/example/taster/taster/io/Translation", "utf8", "(C)I"⟩ : MethodName) (head1 (Jvm.Cond.code (⟨"com/example/taster/taster/io/Translation", "utf8", "(C)I"⟩ : MethodName) prog_63_method_2_code 1 (some .int) :: ws) ({ frames := 0, cells := 0, slots := 0, locals := 0 } : Room)) (fun a U => a = #[(.int p1)] ∧ Z.Warmed39 U.vm ∧ U.heap = h0) (fun _ _ _ _ _ => True) (fun _ U o U' => ∃ v L, o = .returned v ∧ Q1 Z p1 (own_U p1) h0 n0 v U'.heap L ∧ FrameEnd U o U' L ({ frames := 0, cells := 0, slots := 0, locals := 0 } : Room).cells ({ frames := 0, cells := 0, slots := 0, locals := 0 } : Room).slots) := by
  by_cases hc4 : p1 < (128 : Int32)
  · rw [show own_U p1 = p1 by rw [own_U, if_pos hc4]]; exact own_rm1_f l Z a0 hw ws p1 h0 n0 Z0 hc4
  · by_cases hc13 : p1 < (2048 : Int32)
    · rw [show own_U p1 = own_u2 p1 by rw [own_U, if_neg hc4, if_pos hc13]]; exact own_rm1_tf l Z a0 hw ws p1 h0 n0 Z0 hc4 hc13
    · rw [show own_U p1 = own_u3 p1 by rw [own_U, if_neg hc4, if_neg hc13]]; exact own_rm1_tt l Z a0 hw ws p1 h0 n0 Z0 hc4 hc13
theorem ef_0 (m : MethodId) (x0 : Int32) : entryFrame m #[(.int x0)] maxLocals = mkF m 0 #[.val (.int x0), .unset, .unset, .unset, .unset, .unset, .unset, .unset] [] := by first | (simp [entryFrame, mkF, argsToLocals, Value.category, maxLocals]; done) | rfl
theorem pd_0_0 : parseMethodDescriptor "(C)I" = some ⟨[.char], some .int⟩ := by decide +kernel
theorem pn_0 : plainName "com/example/taster/taster/io/TranslationUtf8PinLaw" = true := by first | (simp [plainName, overriddenIn]; done) | decide +kernel
def own_c (p1 : Int32) : Int32 := ((p1 &&& (65535 : Int32)).toUInt32.toUInt16.toUInt32.toInt32)
def Q0 (Z : State) (p1 : Int32) (h0 : Heap) (n0 : Nat) (v : Option Value) (h : Heap) (L : List Loc) : Prop := v = some (.int (1 : Int32)) ∧ Fr n0 L
set_option maxRecDepth 65536 in
set_option maxHeartbeats 40000000 in
theorem own_rm0_ff (l : Launch) (Z : State) (a0 : Array Value) (hw : ∀ d ∈ tables_1, d.before a0 Z = true) (ws : List Jvm.Cond) (p1 : Int32) (h0 : Heap) (n0 : Nat) (Z0 : n0 ≤ h0.size) (hc9 : ¬ ((own_c p1) < (55296 : Int32))) (hc15 : ¬ ((57343 : Int32) < (own_c p1))) :
    MetFree l x (head1 (Jvm.Cond.code x code maxLocals ret :: ws) room_1) (fun a U => a = #[(.int p1)] ∧ Z.Warmed39 U.vm ∧ U.heap = h0) (fun _ _ _ _ _ => True) (fun _ U o U' => ∃ v L, o = .returned v ∧ Q0 Z p1 h0 n0 v U'.heap L ∧ FrameEnd U o U' L room_1.cells room_1.slots) := by
  refine MetFree.of_bodySF (plainFor_of_name pn_0) hisR ?_
  intro p e s m args below meth c s₁ Bd hml0 hP hK
  obtain ⟨rfl, hZ, hh⟩ := hP
  have hx := Bd.exec
  have hby := Bd.bytes
  have hml : c.maxLocals = 8 := hml0
  have hown : s.vm.findClass "com/example/taster/taster/io/TranslationUtf8PinLaw" = some m.cls := findClass_of_methodNamed Bd.named
  have hnm := (name_of_methodNamed Bd.named Bd.method).1
  have X0 : Stand p l e room_1 s m #[(.int p1)] below meth c s₁ [] 0 0 := Stand.of_body Bd
  have e0 : s₁.heap = h0 := by rw [← hh, Bd.state]; rfl
  have N0 := Fr.nil n0
  have pre0 : ∀ t, Steps p.tables e below (s₁.setTop (mkF m 0 #[.val (.int p1), .unset, .unset, .unset, .unset, .unset, .unset, .unset] [])) t → Steps p.tables e below (s₁.setTop (entryFrame m #[(.int p1)] maxLocals)) t := fun t k => castTop (ef_0 m p1) k

  obtain ⟨fs, hr, hrun, hended, hW, hsame⟩ := X0.leave (v := some (.int (1 : Int32))) (fun h => by rw [Bd.returns] at h; cases h)
  refine ⟨_, _, pre0 _ ?_, hrun, hended, _, _, rfl, ?_, ⟨_, rfl⟩, hW, hsame.mono (by decide) (by decide)⟩
  · show Steps p.tables e below (s₁.setTop (mkF m 0 #[.val (.int p1), .unset, .unset, .unset, .unset, .unset, .unset, .unset] [])) _
    refine XS.iloadN X0.here hx rfl (hb hby at_0) rfl ?_
    show Steps p.tables e below (s₁.setTop (mkF m 1 #[.val (.int p1), .unset, .unset, .unset, .unset, .unset, .unset, .unset] [(.int p1)])) _
    refine X0.ldcInt hx hown (mvT hZ (hw _ (List.mem_of_getElem? (i := 0) rfl))) (g := (mkF m 1 #[.val (.int p1), .unset, .unset, .unset, .unset, .unset, .unset, .unset] [(.int p1)])) rfl (hb hby at_1) _ ?_
    show Steps p.tables e below (s₁.setTop (mkF m 3 #[.val (.int p1), .unset, .unset, .unset, .unset, .unset, .unset, .unset] [(.int (65535 : Int32)), (.int p1)])) _
    refine XS.iand X0.here hx rfl (hb hby at_3) rfl ?_
    show Steps p.tables e below (s₁.setTop (mkF m 4 #[.val (.int p1), .unset, .unset, .unset, .unset, .unset, .unset, .unset] [(.int (p1 &&& (65535 : Int32)))])) _
    refine XS.i2c X0.here hx rfl (hb hby at_4) rfl ?_
    show Steps p.tables e below (s₁.setTop (mkF m 5 #[.val (.int p1), .unset, .unset, .unset, .unset, .unset, .unset, .unset] [(.int (own_c p1))])) _
    refine XS.istoreN X0.here hx rfl (hb hby at_5) rfl (l' := #[.val (.int p1), .val (.int (own_c p1)), .unset, .unset, .unset, .unset, .unset, .unset]) rfl ?_
    show Steps p.tables e below (s₁.setTop (mkF m 6 #[.val (.int p1), .val (.int (own_c p1)), .unset, .unset, .unset, .unset, .unset, .unset] [])) _
    refine XS.iloadN X0.here hx rfl (hb hby at_6) rfl ?_
    show Steps p.tables e below (s₁.setTop (mkF m 7 #[.val (.int p1), .val (.int (own_c p1)), .unset, .unset, .unset, .unset, .unset, .unset] [(.int (own_c p1))])) _
    refine X0.ldcInt hx hown (mvT hZ (hw _ (List.mem_of_getElem? (i := 1) rfl))) (g := (mkF m 7 #[.val (.int p1), .val (.int (own_c p1)), .unset, .unset, .unset, .unset, .unset, .unset] [(.int (own_c p1))])) rfl (hb hby at_7) _ ?_
    show Steps p.tables e below (s₁.setTop (mkF m 9 #[.val (.int p1), .val (.int (own_c p1)), .unset, .unset, .unset, .unset, .unset, .unset] [(.int (55296 : Int32)), (.int (own_c p1))])) _
    refine XS.icmpNo X0.here hx rfl (hb hby at_9) rfl (flt hc9).1 ?_
    show Steps p.tables e below (s₁.setTop (mkF m 12 #[.val (.int p1), .val (.int (own_c p1)), .unset, .unset, .unset, .unset, .unset, .unset] [])) _
    refine XS.iloadN X0.here hx rfl (hb hby at_12) rfl ?_
    show Steps p.tables e below (s₁.setTop (mkF m 13 #[.val (.int p1), .val (.int (own_c p1)), .unset, .unset, .unset, .unset, .unset, .unset] [(.int (own_c p1))])) _
    refine X0.ldcInt hx hown (mvT hZ (hw _ (List.mem_of_getElem? (i := 7) rfl))) (g := (mkF m 13 #[.val (.int p1), .val (.int (own_c p1)), .unset, .unset, .unset, .unset, .unset, .unset] [(.int (own_c p1))])) rfl (hb hby at_13) _ ?_
    show Steps p.tables e below (s₁.setTop (mkF m 15 #[.val (.int p1), .val (.int (own_c p1)), .unset, .unset, .unset, .unset, .unset, .unset] [(.int (57343 : Int32)), (.int (own_c p1))])) _
    refine XS.icmpNo X0.here hx rfl (hb hby at_15) rfl (flt hc15).2.2.1 ?_
    show Steps p.tables e below (s₁.setTop (mkF m 18 #[.val (.int p1), .val (.int (own_c p1)), .unset, .unset, .unset, .unset, .unset, .unset] [])) _
    refine XS.iconst X0.here hx rfl (hb hby at_18) ?_
    show Steps p.tables e below (s₁.setTop (mkF m 19 #[.val (.int p1), .val (.int (own_c p1)), .unset, .unset, .unset, .unset, .unset, .unset] [(.int (1 : Int32))])) _
    exact retN X0 hx (t := .boolean) Bd.returns (by simp) (hb hby at_19) hr
  · show Q0 Z p1 h0 n0 _ s₁.heap _
    rw [e0]
    exact ⟨rfl, N0⟩
set_option maxRecDepth 65536 in
set_option maxHeartbeats 40000000 in
theorem own_rm0_tff (l : Launch) (Z : State) (a0 : Array Value) (hw : ∀ d ∈ tables_1, d.before a0 Z = true) (ws : List Jvm.Cond) (p1 : Int32) (h0 : Heap) (n0 : Nat) (Z0 : n0 ≤ h0.size) (ho1 : (own_U (own_c p1)) = (own_c p1)) (hc9 : (own_c p1) < (55296 : Int32)) (hc65 : (own_c p1) < (128 : Int32)) :
    MetFree l x (head1 (Jvm.Cond.code x code maxLocals ret :: ws) room_1) (fun a U => a = #[(.int p1)] ∧ Z.Warmed39 U.vm ∧ U.heap = h0) (fun _ _ _ _ _ => True) (fun _ U o U' => ∃ v L, o = .returned v ∧ Q0 Z p1 h0 n0 v U'.heap L ∧ FrameEnd U o U' L room_1.cells room_1.slots) := by
  refine MetFree.of_bodySF (plainFor_of_name pn_0) hisR ?_
  intro p e s m args below meth c s₁ Bd hml0 hP hK
  obtain ⟨rfl, hZ, hh⟩ := hP
  have hx := Bd.exec
  have hby := Bd.bytes
  have hml : c.maxLocals = 8 := hml0
  have hown : s.vm.findClass "com/example/taster/taster/io/TranslationUtf8PinLaw" = some m.cls := findClass_of_methodNamed Bd.named
  have hnm := (name_of_methodNamed Bd.named Bd.method).1
  have X0 : Stand p l e room_1 s m #[(.int p1)] below meth c s₁ [] 0 0 := Stand.of_body Bd
  have e0 : s₁.heap = h0 := by rw [← hh, Bd.state]; rfl
  have N0 := Fr.nil n0
  have pre0 : ∀ t, Steps p.tables e below (s₁.setTop (mkF m 0 #[.val (.int p1), .unset, .unset, .unset, .unset, .unset, .unset, .unset] [])) t → Steps p.tables e below (s₁.setTop (entryFrame m #[(.int p1)] maxLocals)) t := fun t k => castTop (ef_0 m p1) k
  obtain ⟨_, _, ⟨T2, L2, k2, n2⟩, -, X2, ⟨Lc2, hQ2, l2, y2, z2⟩, st2⟩ := Jvm.LawKit.callS X0 hx (y := (⟨"com/example/taster/taster/io/Translation", "utf8", "(C)I"⟩ : MethodName)) hown (mvT hZ (hw _ (List.mem_of_getElem? (i := 2) rfl))) (mvT hZ (hw _ (List.mem_of_getElem? (i := 3) rfl))) (mvT hZ (hw _ (List.mem_of_getElem? (i := 4) rfl))) (mvT hZ (hw _ (List.mem_of_getElem? (i := 5) rfl))) (by decide) (backOf (W := 0) (rm1 l Z a0 hw [] (own_c p1) h0 n0 Z0) hZ (hw _ (List.mem_of_getElem? (i := 5) rfl)) (hw _ (List.mem_of_getElem? (i := 4) rfl)) (by decide) (by decide)) (g := (mkF m 21 #[.val (.int p1), .val (.int (own_c p1)), .unset, .unset, .unset, .unset, .unset, .unset] [(.int (own_c p1))])) rfl (by rw [hml]; rfl) (argsL := [(.int (own_c p1))]) (rest := []) (lenOf pd_0_0 rfl) rfl (by show 2 * 0 + _ ≤ _; exact Nat.le_of_eq rfl) (hb hby at_21) (fun _ _ => ⟨rfl, e0, (by decide : 0 + 0 ≤ _), (by decide : 0 + 0 ≤ _)⟩)
  dsimp only [Pt.U, Pt.locs, Pt.cells, Pt.slots] at X2 l2 y2 z2 st2 hQ2
  subst l2 y2 z2
  obtain ⟨rfl, N2q, e2⟩ := hQ2
  have N2 := Fr.app N0 N2q
  obtain ⟨fs, hr, hrun, hended, hW, hsame⟩ := X2.leave (v := some (.int (1 : Int32))) (fun h => by rw [Bd.returns] at h; cases h)
  refine ⟨_, _, pre0 _ ?_, hrun, hended, _, _, rfl, ?_, ⟨_, rfl⟩, hW, hsame.mono (by decide) (by decide)⟩
  · show Steps p.tables e below (s₁.setTop (mkF m 0 #[.val (.int p1), .unset, .unset, .unset, .unset, .unset, .unset, .unset] [])) _
    refine XS.iloadN X0.here hx rfl (hb hby at_0) rfl ?_
    show Steps p.tables e below (s₁.setTop (mkF m 1 #[.val (.int p1), .unset, .unset, .unset, .unset, .unset, .unset, .unset] [(.int p1)])) _
    refine X0.ldcInt hx hown (mvT hZ (hw _ (List.mem_of_getElem? (i := 0) rfl))) (g := (mkF m 1 #[.val (.int p1), .unset, .unset, .unset, .unset, .unset, .unset, .unset] [(.int p1)])) rfl (hb hby at_1) _ ?_
    show Steps p.tables e below (s₁.setTop (mkF m 3 #[.val (.int p1), .unset, .unset, .unset, .unset, .unset, .unset, .unset] [(.int (65535 : Int32)), (.int p1)])) _
    refine XS.iand X0.here hx rfl (hb hby at_3) rfl ?_
    show Steps p.tables e below (s₁.setTop (mkF m 4 #[.val (.int p1), .unset, .unset, .unset, .unset, .unset, .unset, .unset] [(.int (p1 &&& (65535 : Int32)))])) _
    refine XS.i2c X0.here hx rfl (hb hby at_4) rfl ?_
    show Steps p.tables e below (s₁.setTop (mkF m 5 #[.val (.int p1), .unset, .unset, .unset, .unset, .unset, .unset, .unset] [(.int (own_c p1))])) _
    refine XS.istoreN X0.here hx rfl (hb hby at_5) rfl (l' := #[.val (.int p1), .val (.int (own_c p1)), .unset, .unset, .unset, .unset, .unset, .unset]) rfl ?_
    show Steps p.tables e below (s₁.setTop (mkF m 6 #[.val (.int p1), .val (.int (own_c p1)), .unset, .unset, .unset, .unset, .unset, .unset] [])) _
    refine XS.iloadN X0.here hx rfl (hb hby at_6) rfl ?_
    show Steps p.tables e below (s₁.setTop (mkF m 7 #[.val (.int p1), .val (.int (own_c p1)), .unset, .unset, .unset, .unset, .unset, .unset] [(.int (own_c p1))])) _
    refine X0.ldcInt hx hown (mvT hZ (hw _ (List.mem_of_getElem? (i := 1) rfl))) (g := (mkF m 7 #[.val (.int p1), .val (.int (own_c p1)), .unset, .unset, .unset, .unset, .unset, .unset] [(.int (own_c p1))])) rfl (hb hby at_7) _ ?_
    show Steps p.tables e below (s₁.setTop (mkF m 9 #[.val (.int p1), .val (.int (own_c p1)), .unset, .unset, .unset, .unset, .unset, .unset] [(.int (55296 : Int32)), (.int (own_c p1))])) _
    refine XS.icmpYes X0.here hx rfl (pc0 := 9) (pc' := 20) rfl (hb hby at_9) rfl (tlt hc9).1 (by decide) (by decide) ?_
    show Steps p.tables e below (s₁.setTop (mkF m 20 #[.val (.int p1), .val (.int (own_c p1)), .unset, .unset, .unset, .unset, .unset, .unset] [])) _
    refine XS.iloadN X0.here hx rfl (hb hby at_20) rfl ?_
    show Steps p.tables e below (s₁.setTop (mkF m 21 #[.val (.int p1), .val (.int (own_c p1)), .unset, .unset, .unset, .unset, .unset, .unset] [(.int (own_c p1))])) _
    refine st2 _ ?_
    show Steps p.tables e below (T2.setTop (mkF m 24 #[.val (.int p1), .val (.int (own_c p1)), .unset, .unset, .unset, .unset, .unset, .unset] [(.int (own_U (own_c p1)))])) _
    refine XS.istoreN X2.here hx rfl (hb hby at_24) rfl (l' := #[.val (.int p1), .val (.int (own_c p1)), .val (.int (own_U (own_c p1))), .unset, .unset, .unset, .unset, .unset]) rfl ?_
    show Steps p.tables e below (T2.setTop (mkF m 25 #[.val (.int p1), .val (.int (own_c p1)), .val (.int (own_U (own_c p1))), .unset, .unset, .unset, .unset, .unset] [])) _
    refine XS.iloadN X2.here hx rfl (hb hby at_25) rfl ?_
    show Steps p.tables e below (T2.setTop (mkF m 26 #[.val (.int p1), .val (.int (own_c p1)), .val (.int (own_U (own_c p1))), .unset, .unset, .unset, .unset, .unset] [(.int (own_U (own_c p1)))])) _
    refine XS.sipush X2.here hx rfl (hb hby at_26) ?_
    show Steps p.tables e below (T2.setTop (mkF m 29 #[.val (.int p1), .val (.int (own_c p1)), .val (.int (own_U (own_c p1))), .unset, .unset, .unset, .unset, .unset] [(.int (255 : Int32)), (.int (own_U (own_c p1)))])) _
    refine XS.iand X2.here hx rfl (hb hby at_29) rfl ?_
    show Steps p.tables e below (T2.setTop (mkF m 30 #[.val (.int p1), .val (.int (own_c p1)), .val (.int (own_U (own_c p1))), .unset, .unset, .unset, .unset, .unset] [(.int ((own_U (own_c p1)) &&& (255 : Int32)))])) _
    refine XS.istoreN X2.here hx rfl (hb hby at_30) rfl (l' := #[.val (.int p1), .val (.int (own_c p1)), .val (.int (own_U (own_c p1))), .val (.int ((own_U (own_c p1)) &&& (255 : Int32))), .unset, .unset, .unset, .unset]) rfl ?_
    show Steps p.tables e below (T2.setTop (mkF m 31 #[.val (.int p1), .val (.int (own_c p1)), .val (.int (own_U (own_c p1))), .val (.int ((own_U (own_c p1)) &&& (255 : Int32))), .unset, .unset, .unset, .unset] [])) _
    refine XS.iloadN X2.here hx rfl (hb hby at_31) rfl ?_
    show Steps p.tables e below (T2.setTop (mkF m 32 #[.val (.int p1), .val (.int (own_c p1)), .val (.int (own_U (own_c p1))), .val (.int ((own_U (own_c p1)) &&& (255 : Int32))), .unset, .unset, .unset, .unset] [(.int (own_U (own_c p1)))])) _
    refine XS.bipush X2.here hx rfl (hb hby at_32) ?_
    show Steps p.tables e below (T2.setTop (mkF m 34 #[.val (.int p1), .val (.int (own_c p1)), .val (.int (own_U (own_c p1))), .val (.int ((own_U (own_c p1)) &&& (255 : Int32))), .unset, .unset, .unset, .unset] [(.int (8 : Int32)), (.int (own_U (own_c p1)))])) _
    refine XS.iushr X2.here hx rfl (hb hby at_34) rfl ?_
    show Steps p.tables e below (T2.setTop (mkF m 35 #[.val (.int p1), .val (.int (own_c p1)), .val (.int (own_U (own_c p1))), .val (.int ((own_U (own_c p1)) &&& (255 : Int32))), .unset, .unset, .unset, .unset] [(.int (((own_U (own_c p1)).toUInt32 >>> ((8 : Int32) &&& 31).toUInt32).toInt32))])) _
    refine XS.sipush X2.here hx rfl (hb hby at_35) ?_
    show Steps p.tables e below (T2.setTop (mkF m 38 #[.val (.int p1), .val (.int (own_c p1)), .val (.int (own_U (own_c p1))), .val (.int ((own_U (own_c p1)) &&& (255 : Int32))), .unset, .unset, .unset, .unset] [(.int (255 : Int32)), (.int (((own_U (own_c p1)).toUInt32 >>> ((8 : Int32) &&& 31).toUInt32).toInt32))])) _
    refine XS.iand X2.here hx rfl (hb hby at_38) rfl ?_
    show Steps p.tables e below (T2.setTop (mkF m 39 #[.val (.int p1), .val (.int (own_c p1)), .val (.int (own_U (own_c p1))), .val (.int ((own_U (own_c p1)) &&& (255 : Int32))), .unset, .unset, .unset, .unset] [(.int ((((own_U (own_c p1)).toUInt32 >>> ((8 : Int32) &&& 31).toUInt32).toInt32) &&& (255 : Int32)))])) _
    refine XS.istore X2.here hx rfl (hb hby at_39) rfl (l' := #[.val (.int p1), .val (.int (own_c p1)), .val (.int (own_U (own_c p1))), .val (.int ((own_U (own_c p1)) &&& (255 : Int32))), .val (.int ((((own_U (own_c p1)).toUInt32 >>> ((8 : Int32) &&& 31).toUInt32).toInt32) &&& (255 : Int32))), .unset, .unset, .unset]) rfl ?_
    show Steps p.tables e below (T2.setTop (mkF m 41 #[.val (.int p1), .val (.int (own_c p1)), .val (.int (own_U (own_c p1))), .val (.int ((own_U (own_c p1)) &&& (255 : Int32))), .val (.int ((((own_U (own_c p1)).toUInt32 >>> ((8 : Int32) &&& 31).toUInt32).toInt32) &&& (255 : Int32))), .unset, .unset, .unset] [])) _
    refine XS.iloadN X2.here hx rfl (hb hby at_41) rfl ?_
    show Steps p.tables e below (T2.setTop (mkF m 42 #[.val (.int p1), .val (.int (own_c p1)), .val (.int (own_U (own_c p1))), .val (.int ((own_U (own_c p1)) &&& (255 : Int32))), .val (.int ((((own_U (own_c p1)).toUInt32 >>> ((8 : Int32) &&& 31).toUInt32).toInt32) &&& (255 : Int32))), .unset, .unset, .unset] [(.int (own_U (own_c p1)))])) _
    refine XS.bipush X2.here hx rfl (hb hby at_42) ?_
    show Steps p.tables e below (T2.setTop (mkF m 44 #[.val (.int p1), .val (.int (own_c p1)), .val (.int (own_U (own_c p1))), .val (.int ((own_U (own_c p1)) &&& (255 : Int32))), .val (.int ((((own_U (own_c p1)).toUInt32 >>> ((8 : Int32) &&& 31).toUInt32).toInt32) &&& (255 : Int32))), .unset, .unset, .unset] [(.int (16 : Int32)), (.int (own_U (own_c p1)))])) _
    refine XS.iushr X2.here hx rfl (hb hby at_44) rfl ?_
    show Steps p.tables e below (T2.setTop (mkF m 45 #[.val (.int p1), .val (.int (own_c p1)), .val (.int (own_U (own_c p1))), .val (.int ((own_U (own_c p1)) &&& (255 : Int32))), .val (.int ((((own_U (own_c p1)).toUInt32 >>> ((8 : Int32) &&& 31).toUInt32).toInt32) &&& (255 : Int32))), .unset, .unset, .unset] [(.int (((own_U (own_c p1)).toUInt32 >>> ((16 : Int32) &&& 31).toUInt32).toInt32))])) _
    refine XS.sipush X2.here hx rfl (hb hby at_45) ?_
    show Steps p.tables e below (T2.setTop (mkF m 48 #[.val (.int p1), .val (.int (own_c p1)), .val (.int (own_U (own_c p1))), .val (.int ((own_U (own_c p1)) &&& (255 : Int32))), .val (.int ((((own_U (own_c p1)).toUInt32 >>> ((8 : Int32) &&& 31).toUInt32).toInt32) &&& (255 : Int32))), .unset, .unset, .unset] [(.int (255 : Int32)), (.int (((own_U (own_c p1)).toUInt32 >>> ((16 : Int32) &&& 31).toUInt32).toInt32))])) _
    refine XS.iand X2.here hx rfl (hb hby at_48) rfl ?_
    show Steps p.tables e below (T2.setTop (mkF m 49 #[.val (.int p1), .val (.int (own_c p1)), .val (.int (own_U (own_c p1))), .val (.int ((own_U (own_c p1)) &&& (255 : Int32))), .val (.int ((((own_U (own_c p1)).toUInt32 >>> ((8 : Int32) &&& 31).toUInt32).toInt32) &&& (255 : Int32))), .unset, .unset, .unset] [(.int ((((own_U (own_c p1)).toUInt32 >>> ((16 : Int32) &&& 31).toUInt32).toInt32) &&& (255 : Int32)))])) _
    refine XS.istore X2.here hx rfl (hb hby at_49) rfl (l' := #[.val (.int p1), .val (.int (own_c p1)), .val (.int (own_U (own_c p1))), .val (.int ((own_U (own_c p1)) &&& (255 : Int32))), .val (.int ((((own_U (own_c p1)).toUInt32 >>> ((8 : Int32) &&& 31).toUInt32).toInt32) &&& (255 : Int32))), .val (.int ((((own_U (own_c p1)).toUInt32 >>> ((16 : Int32) &&& 31).toUInt32).toInt32) &&& (255 : Int32))), .unset, .unset]) rfl ?_
    show Steps p.tables e below (T2.setTop (mkF m 51 #[.val (.int p1), .val (.int (own_c p1)), .val (.int (own_U (own_c p1))), .val (.int ((own_U (own_c p1)) &&& (255 : Int32))), .val (.int ((((own_U (own_c p1)).toUInt32 >>> ((8 : Int32) &&& 31).toUInt32).toInt32) &&& (255 : Int32))), .val (.int ((((own_U (own_c p1)).toUInt32 >>> ((16 : Int32) &&& 31).toUInt32).toInt32) &&& (255 : Int32))), .unset, .unset] [])) _
    refine XS.iloadN X2.here hx rfl (hb hby at_51) rfl ?_
    show Steps p.tables e below (T2.setTop (mkF m 52 #[.val (.int p1), .val (.int (own_c p1)), .val (.int (own_U (own_c p1))), .val (.int ((own_U (own_c p1)) &&& (255 : Int32))), .val (.int ((((own_U (own_c p1)).toUInt32 >>> ((8 : Int32) &&& 31).toUInt32).toInt32) &&& (255 : Int32))), .val (.int ((((own_U (own_c p1)).toUInt32 >>> ((16 : Int32) &&& 31).toUInt32).toInt32) &&& (255 : Int32))), .unset, .unset] [(.int (own_U (own_c p1)))])) _
    refine XS.bipush X2.here hx rfl (hb hby at_52) ?_
    show Steps p.tables e below (T2.setTop (mkF m 54 #[.val (.int p1), .val (.int (own_c p1)), .val (.int (own_U (own_c p1))), .val (.int ((own_U (own_c p1)) &&& (255 : Int32))), .val (.int ((((own_U (own_c p1)).toUInt32 >>> ((8 : Int32) &&& 31).toUInt32).toInt32) &&& (255 : Int32))), .val (.int ((((own_U (own_c p1)).toUInt32 >>> ((16 : Int32) &&& 31).toUInt32).toInt32) &&& (255 : Int32))), .unset, .unset] [(.int (24 : Int32)), (.int (own_U (own_c p1)))])) _
    refine XS.iushr X2.here hx rfl (hb hby at_54) rfl ?_
    show Steps p.tables e below (T2.setTop (mkF m 55 #[.val (.int p1), .val (.int (own_c p1)), .val (.int (own_U (own_c p1))), .val (.int ((own_U (own_c p1)) &&& (255 : Int32))), .val (.int ((((own_U (own_c p1)).toUInt32 >>> ((8 : Int32) &&& 31).toUInt32).toInt32) &&& (255 : Int32))), .val (.int ((((own_U (own_c p1)).toUInt32 >>> ((16 : Int32) &&& 31).toUInt32).toInt32) &&& (255 : Int32))), .unset, .unset] [(.int (((own_U (own_c p1)).toUInt32 >>> ((24 : Int32) &&& 31).toUInt32).toInt32))])) _
    refine XS.sipush X2.here hx rfl (hb hby at_55) ?_
    show Steps p.tables e below (T2.setTop (mkF m 58 #[.val (.int p1), .val (.int (own_c p1)), .val (.int (own_U (own_c p1))), .val (.int ((own_U (own_c p1)) &&& (255 : Int32))), .val (.int ((((own_U (own_c p1)).toUInt32 >>> ((8 : Int32) &&& 31).toUInt32).toInt32) &&& (255 : Int32))), .val (.int ((((own_U (own_c p1)).toUInt32 >>> ((16 : Int32) &&& 31).toUInt32).toInt32) &&& (255 : Int32))), .unset, .unset] [(.int (255 : Int32)), (.int (((own_U (own_c p1)).toUInt32 >>> ((24 : Int32) &&& 31).toUInt32).toInt32))])) _
    refine XS.iand X2.here hx rfl (hb hby at_58) rfl ?_
    show Steps p.tables e below (T2.setTop (mkF m 59 #[.val (.int p1), .val (.int (own_c p1)), .val (.int (own_U (own_c p1))), .val (.int ((own_U (own_c p1)) &&& (255 : Int32))), .val (.int ((((own_U (own_c p1)).toUInt32 >>> ((8 : Int32) &&& 31).toUInt32).toInt32) &&& (255 : Int32))), .val (.int ((((own_U (own_c p1)).toUInt32 >>> ((16 : Int32) &&& 31).toUInt32).toInt32) &&& (255 : Int32))), .unset, .unset] [(.int ((((own_U (own_c p1)).toUInt32 >>> ((24 : Int32) &&& 31).toUInt32).toInt32) &&& (255 : Int32)))])) _
    refine XS.istore X2.here hx rfl (hb hby at_59) rfl (l' := #[.val (.int p1), .val (.int (own_c p1)), .val (.int (own_U (own_c p1))), .val (.int ((own_U (own_c p1)) &&& (255 : Int32))), .val (.int ((((own_U (own_c p1)).toUInt32 >>> ((8 : Int32) &&& 31).toUInt32).toInt32) &&& (255 : Int32))), .val (.int ((((own_U (own_c p1)).toUInt32 >>> ((16 : Int32) &&& 31).toUInt32).toInt32) &&& (255 : Int32))), .val (.int ((((own_U (own_c p1)).toUInt32 >>> ((24 : Int32) &&& 31).toUInt32).toInt32) &&& (255 : Int32))), .unset]) rfl ?_
    show Steps p.tables e below (T2.setTop (mkF m 61 #[.val (.int p1), .val (.int (own_c p1)), .val (.int (own_U (own_c p1))), .val (.int ((own_U (own_c p1)) &&& (255 : Int32))), .val (.int ((((own_U (own_c p1)).toUInt32 >>> ((8 : Int32) &&& 31).toUInt32).toInt32) &&& (255 : Int32))), .val (.int ((((own_U (own_c p1)).toUInt32 >>> ((16 : Int32) &&& 31).toUInt32).toInt32) &&& (255 : Int32))), .val (.int ((((own_U (own_c p1)).toUInt32 >>> ((24 : Int32) &&& 31).toUInt32).toInt32) &&& (255 : Int32))), .unset] [])) _
    refine XS.iloadN X2.here hx rfl (hb hby at_61) rfl ?_
    show Steps p.tables e below (T2.setTop (mkF m 62 #[.val (.int p1), .val (.int (own_c p1)), .val (.int (own_U (own_c p1))), .val (.int ((own_U (own_c p1)) &&& (255 : Int32))), .val (.int ((((own_U (own_c p1)).toUInt32 >>> ((8 : Int32) &&& 31).toUInt32).toInt32) &&& (255 : Int32))), .val (.int ((((own_U (own_c p1)).toUInt32 >>> ((16 : Int32) &&& 31).toUInt32).toInt32) &&& (255 : Int32))), .val (.int ((((own_U (own_c p1)).toUInt32 >>> ((24 : Int32) &&& 31).toUInt32).toInt32) &&& (255 : Int32))), .unset] [(.int (own_c p1))])) _
    refine XS.sipush X2.here hx rfl (hb hby at_62) ?_
    show Steps p.tables e below (T2.setTop (mkF m 65 #[.val (.int p1), .val (.int (own_c p1)), .val (.int (own_U (own_c p1))), .val (.int ((own_U (own_c p1)) &&& (255 : Int32))), .val (.int ((((own_U (own_c p1)).toUInt32 >>> ((8 : Int32) &&& 31).toUInt32).toInt32) &&& (255 : Int32))), .val (.int ((((own_U (own_c p1)).toUInt32 >>> ((16 : Int32) &&& 31).toUInt32).toInt32) &&& (255 : Int32))), .val (.int ((((own_U (own_c p1)).toUInt32 >>> ((24 : Int32) &&& 31).toUInt32).toInt32) &&& (255 : Int32))), .unset] [(.int (128 : Int32)), (.int (own_c p1))])) _
    refine XS.icmpNo X2.here hx rfl (hb hby at_65) rfl (tlt hc65).2.1 ?_
    show Steps p.tables e below (T2.setTop (mkF m 68 #[.val (.int p1), .val (.int (own_c p1)), .val (.int (own_U (own_c p1))), .val (.int ((own_U (own_c p1)) &&& (255 : Int32))), .val (.int ((((own_U (own_c p1)).toUInt32 >>> ((8 : Int32) &&& 31).toUInt32).toInt32) &&& (255 : Int32))), .val (.int ((((own_U (own_c p1)).toUInt32 >>> ((16 : Int32) &&& 31).toUInt32).toInt32) &&& (255 : Int32))), .val (.int ((((own_U (own_c p1)).toUInt32 >>> ((24 : Int32) &&& 31).toUInt32).toInt32) &&& (255 : Int32))), .unset] [])) _
    refine XS.iloadN X2.here hx rfl (hb hby at_68) rfl ?_
    show Steps p.tables e below (T2.setTop (mkF m 69 #[.val (.int p1), .val (.int (own_c p1)), .val (.int (own_U (own_c p1))), .val (.int ((own_U (own_c p1)) &&& (255 : Int32))), .val (.int ((((own_U (own_c p1)).toUInt32 >>> ((8 : Int32) &&& 31).toUInt32).toInt32) &&& (255 : Int32))), .val (.int ((((own_U (own_c p1)).toUInt32 >>> ((16 : Int32) &&& 31).toUInt32).toInt32) &&& (255 : Int32))), .val (.int ((((own_U (own_c p1)).toUInt32 >>> ((24 : Int32) &&& 31).toUInt32).toInt32) &&& (255 : Int32))), .unset] [(.int (own_U (own_c p1)))])) _
    refine XS.iloadN X2.here hx rfl (hb hby at_69) rfl ?_
    show Steps p.tables e below (T2.setTop (mkF m 70 #[.val (.int p1), .val (.int (own_c p1)), .val (.int (own_U (own_c p1))), .val (.int ((own_U (own_c p1)) &&& (255 : Int32))), .val (.int ((((own_U (own_c p1)).toUInt32 >>> ((8 : Int32) &&& 31).toUInt32).toInt32) &&& (255 : Int32))), .val (.int ((((own_U (own_c p1)).toUInt32 >>> ((16 : Int32) &&& 31).toUInt32).toInt32) &&& (255 : Int32))), .val (.int ((((own_U (own_c p1)).toUInt32 >>> ((24 : Int32) &&& 31).toUInt32).toInt32) &&& (255 : Int32))), .unset] [(.int (own_c p1)), (.int (own_U (own_c p1)))])) _
    refine XS.icmpNo X2.here hx rfl (hb hby at_70) rfl (teq ho1).2 ?_
    show Steps p.tables e below (T2.setTop (mkF m 73 #[.val (.int p1), .val (.int (own_c p1)), .val (.int (own_U (own_c p1))), .val (.int ((own_U (own_c p1)) &&& (255 : Int32))), .val (.int ((((own_U (own_c p1)).toUInt32 >>> ((8 : Int32) &&& 31).toUInt32).toInt32) &&& (255 : Int32))), .val (.int ((((own_U (own_c p1)).toUInt32 >>> ((16 : Int32) &&& 31).toUInt32).toInt32) &&& (255 : Int32))), .val (.int ((((own_U (own_c p1)).toUInt32 >>> ((24 : Int32) &&& 31).toUInt32).toInt32) &&& (255 : Int32))), .unset] [])) _
    refine XS.iconst X2.here hx rfl (hb hby at_73) ?_
    show Steps p.tables e below (T2.setTop (mkF m 74 #[.val (.int p1), .val (.int (own_c p1)), .val (.int (own_U (own_c p1))), .val (.int ((own_U (own_c p1)) &&& (255 : Int32))), .val (.int ((((own_U (own_c p1)).toUInt32 >>> ((8 : Int32) &&& 31).toUInt32).toInt32) &&& (255 : Int32))), .val (.int ((((own_U (own_c p1)).toUInt32 >>> ((16 : Int32) &&& 31).toUInt32).toInt32) &&& (255 : Int32))), .val (.int ((((own_U (own_c p1)).toUInt32 >>> ((24 : Int32) &&& 31).toUInt32).toInt32) &&& (255 : Int32))), .unset] [(.int (1 : Int32))])) _
    refine XS.goto X2.here hx rfl (pc0 := 74) (pc' := 78) rfl (hb hby at_74) (by decide) (by decide) ?_
    show Steps p.tables e below (T2.setTop (mkF m 78 #[.val (.int p1), .val (.int (own_c p1)), .val (.int (own_U (own_c p1))), .val (.int ((own_U (own_c p1)) &&& (255 : Int32))), .val (.int ((((own_U (own_c p1)).toUInt32 >>> ((8 : Int32) &&& 31).toUInt32).toInt32) &&& (255 : Int32))), .val (.int ((((own_U (own_c p1)).toUInt32 >>> ((16 : Int32) &&& 31).toUInt32).toInt32) &&& (255 : Int32))), .val (.int ((((own_U (own_c p1)).toUInt32 >>> ((24 : Int32) &&& 31).toUInt32).toInt32) &&& (255 : Int32))), .unset] [(.int (1 : Int32))])) _
    exact retN X2 hx (t := .boolean) Bd.returns (by simp) (hb hby at_78) hr
  · show Q0 Z p1 h0 n0 _ T2.heap _
    exact ⟨rfl, N2⟩
set_option maxRecDepth 65536 in
set_option maxHeartbeats 40000000 in
theorem own_rm0_ttfftftf (l : Launch) (Z : State) (a0 : Array Value) (hw : ∀ d ∈ tables_1, d.before a0 Z = true) (ws : List Jvm.Cond) (p1 : Int32) (h0 : Heap) (n0 : Nat) (Z0 : n0 ≤ h0.size) (ho1 : ((((own_U (own_c p1)).toUInt32 >>> ((16 : Int32) &&& 31).toUInt32).toInt32) &&& (255 : Int32)) = (0 : Int32)) (ho2 : ((((own_U (own_c p1)).toUInt32 >>> ((24 : Int32) &&& 31).toUInt32).toInt32) &&& (255 : Int32)) = (0 : Int32)) (ho3 : (((own_U (own_c p1)) &&& (255 : Int32)) &&& (224 : Int32)) = (192 : Int32)) (ho4 : (((((own_U (own_c p1)).toUInt32 >>> ((8 : Int32) &&& 31).toUInt32).toInt32) &&& (255 : Int32)) &&& (192 : Int32)) = (128 : Int32)) (ho5 : (((((own_U (own_c p1)) &&& (255 : Int32)) &&& (31 : Int32)) <<< ((6 : Int32) &&& 31)) ||| (((((own_U (own_c p1)).toUInt32 >>> ((8 : Int32) &&& 31).toUInt32).toInt32) &&& (255 : Int32)) &&& (63 : Int32))) = (own_c p1)) (hc9 : (own_c p1) < (55296 : Int32)) (hc65 : ¬ ((own_c p1) < (128 : Int32))) (hc83 : (own_c p1) < (2048 : Int32)) :
    MetFree l x (head1 (Jvm.Cond.code x code maxLocals ret :: ws) room_1) (fun a U => a = #[(.int p1)] ∧ Z.Warmed39 U.vm ∧ U.heap = h0) (fun _ _ _ _ _ => True) (fun _ U o U' => ∃ v L, o = .returned v ∧ Q0 Z p1 h0 n0 v U'.heap L ∧ FrameEnd U o U' L room_1.cells room_1.slots) := by
  refine MetFree.of_bodySF (plainFor_of_name pn_0) hisR ?_
  intro p e s m args below meth c s₁ Bd hml0 hP hK
  obtain ⟨rfl, hZ, hh⟩ := hP
  have hx := Bd.exec
  have hby := Bd.bytes
  have hml : c.maxLocals = 8 := hml0
  have hown : s.vm.findClass "com/example/taster/taster/io/TranslationUtf8PinLaw" = some m.cls := findClass_of_methodNamed Bd.named
  have hnm := (name_of_methodNamed Bd.named Bd.method).1
  have X0 : Stand p l e room_1 s m #[(.int p1)] below meth c s₁ [] 0 0 := Stand.of_body Bd
  have e0 : s₁.heap = h0 := by rw [← hh, Bd.state]; rfl
  have N0 := Fr.nil n0
  have pre0 : ∀ t, Steps p.tables e below (s₁.setTop (mkF m 0 #[.val (.int p1), .unset, .unset, .unset, .unset, .unset, .unset, .unset] [])) t → Steps p.tables e below (s₁.setTop (entryFrame m #[(.int p1)] maxLocals)) t := fun t k => castTop (ef_0 m p1) k
  obtain ⟨_, _, ⟨T2, L2, k2, n2⟩, -, X2, ⟨Lc2, hQ2, l2, y2, z2⟩, st2⟩ := Jvm.LawKit.callS X0 hx (y := (⟨"com/example/taster/taster/io/Translation", "utf8", "(C)I"⟩ : MethodName)) hown (mvT hZ (hw _ (List.mem_of_getElem? (i := 2) rfl))) (mvT hZ (hw _ (List.mem_of_getElem? (i := 3) rfl))) (mvT hZ (hw _ (List.mem_of_getElem? (i := 4) rfl))) (mvT hZ (hw _ (List.mem_of_getElem? (i := 5) rfl))) (by decide) (backOf (W := 0) (rm1 l Z a0 hw [] (own_c p1) h0 n0 Z0) hZ (hw _ (List.mem_of_getElem? (i := 5) rfl)) (hw _ (List.mem_of_getElem? (i := 4) rfl)) (by decide) (by decide)) (g := (mkF m 21 #[.val (.int p1), .val (.int (own_c p1)), .unset, .unset, .unset, .unset, .unset, .unset] [(.int (own_c p1))])) rfl (by rw [hml]; rfl) (argsL := [(.int (own_c p1))]) (rest := []) (lenOf pd_0_0 rfl) rfl (by show 2 * 0 + _ ≤ _; exact Nat.le_of_eq rfl) (hb hby at_21) (fun _ _ => ⟨rfl, e0, (by decide : 0 + 0 ≤ _), (by decide : 0 + 0 ≤ _)⟩)
  dsimp only [Pt.U, Pt.locs, Pt.cells, Pt.slots] at X2 l2 y2 z2 st2 hQ2
  subst l2 y2 z2
  obtain ⟨rfl, N2q, e2⟩ := hQ2
  have N2 := Fr.app N0 N2q
  obtain ⟨fs, hr, hrun, hended, hW, hsame⟩ := X2.leave (v := some (.int (1 : Int32))) (fun h => by rw [Bd.returns] at h; cases h)
  refine ⟨_, _, pre0 _ ?_, hrun, hended, _, _, rfl, ?_, ⟨_, rfl⟩, hW, hsame.mono (by decide) (by decide)⟩
  · show Steps p.tables e below (s₁.setTop (mkF m 0 #[.val (.int p1), .unset, .unset, .unset, .unset, .unset, .unset, .unset] [])) _
    refine XS.iloadN X0.here hx rfl (hb hby at_0) rfl ?_
    show Steps p.tables e below (s₁.setTop (mkF m 1 #[.val (.int p1), .unset, .unset, .unset, .unset, .unset, .unset, .unset] [(.int p1)])) _
    refine X0.ldcInt hx hown (mvT hZ (hw _ (List.mem_of_getElem? (i := 0) rfl))) (g := (mkF m 1 #[.val (.int p1), .unset, .unset, .unset, .unset, .unset, .unset, .unset] [(.int p1)])) rfl (hb hby at_1) _ ?_
    show Steps p.tables e below (s₁.setTop (mkF m 3 #[.val (.int p1), .unset, .unset, .unset, .unset, .unset, .unset, .unset] [(.int (65535 : Int32)), (.int p1)])) _
    refine XS.iand X0.here hx rfl (hb hby at_3) rfl ?_
    show Steps p.tables e below (s₁.setTop (mkF m 4 #[.val (.int p1), .unset, .unset, .unset, .unset, .unset, .unset, .unset] [(.int (p1 &&& (65535 : Int32)))])) _
    refine XS.i2c X0.here hx rfl (hb hby at_4) rfl ?_
    show Steps p.tables e below (s₁.setTop (mkF m 5 #[.val (.int p1), .unset, .unset, .unset, .unset, .unset, .unset, .unset] [(.int (own_c p1))])) _
    refine XS.istoreN X0.here hx rfl (hb hby at_5) rfl (l' := #[.val (.int p1), .val (.int (own_c p1)), .unset, .unset, .unset, .unset, .unset, .unset]) rfl ?_
    show Steps p.tables e below (s₁.setTop (mkF m 6 #[.val (.int p1), .val (.int (own_c p1)), .unset, .unset, .unset, .unset, .unset, .unset] [])) _
    refine XS.iloadN X0.here hx rfl (hb hby at_6) rfl ?_
    show Steps p.tables e below (s₁.setTop (mkF m 7 #[.val (.int p1), .val (.int (own_c p1)), .unset, .unset, .unset, .unset, .unset, .unset] [(.int (own_c p1))])) _
    refine X0.ldcInt hx hown (mvT hZ (hw _ (List.mem_of_getElem? (i := 1) rfl))) (g := (mkF m 7 #[.val (.int p1), .val (.int (own_c p1)), .unset, .unset, .unset, .unset, .unset, .unset] [(.int (own_c p1))])) rfl (hb hby at_7) _ ?_
    show Steps p.tables e below (s₁.setTop (mkF m 9 #[.val (.int p1), .val (.int (own_c p1)), .unset, .unset, .unset, .unset, .unset, .unset] [(.int (55296 : Int32)), (.int (own_c p1))])) _
    refine XS.icmpYes X0.here hx rfl (pc0 := 9) (pc' := 20) rfl (hb hby at_9) rfl (tlt hc9).1 (by decide) (by decide) ?_
    show Steps p.tables e below (s₁.setTop (mkF m 20 #[.val (.int p1), .val (.int (own_c p1)), .unset, .unset, .unset, .unset, .unset, .unset] [])) _
    refine XS.iloadN X0.here hx rfl (hb hby at_20) rfl ?_
    show Steps p.tables e below (s₁.setTop (mkF m 21 #[.val (.int p1), .val (.int (own_c p1)), .unset, .unset, .unset, .unset, .unset, .unset] [(.int (own_c p1))])) _
    refine st2 _ ?_
    show Steps p.tables e below (T2.setTop (mkF m 24 #[.val (.int p1), .val (.int (own_c p1)), .unset, .unset, .unset, .unset, .unset, .unset] [(.int (own_U (own_c p1)))])) _
    refine XS.istoreN X2.here hx rfl (hb hby at_24) rfl (l' := #[.val (.int p1), .val (.int (own_c p1)), .val (.int (own_U (own_c p1))), .unset, .unset, .unset, .unset, .unset]) rfl ?_
    show Steps p.tables e below (T2.setTop (mkF m 25 #[.val (.int p1), .val (.int (own_c p1)), .val (.int (own_U (own_c p1))), .unset, .unset, .unset, .unset, .unset] [])) _
    refine XS.iloadN X2.here hx rfl (hb hby at_25) rfl ?_
    show Steps p.tables e below (T2.setTop (mkF m 26 #[.val (.int p1), .val (.int (own_c p1)), .val (.int (own_U (own_c p1))), .unset, .unset, .unset, .unset, .unset] [(.int (own_U (own_c p1)))])) _
    refine XS.sipush X2.here hx rfl (hb hby at_26) ?_
    show Steps p.tables e below (T2.setTop (mkF m 29 #[.val (.int p1), .val (.int (own_c p1)), .val (.int (own_U (own_c p1))), .unset, .unset, .unset, .unset, .unset] [(.int (255 : Int32)), (.int (own_U (own_c p1)))])) _
    refine XS.iand X2.here hx rfl (hb hby at_29) rfl ?_
    show Steps p.tables e below (T2.setTop (mkF m 30 #[.val (.int p1), .val (.int (own_c p1)), .val (.int (own_U (own_c p1))), .unset, .unset, .unset, .unset, .unset] [(.int ((own_U (own_c p1)) &&& (255 : Int32)))])) _
    refine XS.istoreN X2.here hx rfl (hb hby at_30) rfl (l' := #[.val (.int p1), .val (.int (own_c p1)), .val (.int (own_U (own_c p1))), .val (.int ((own_U (own_c p1)) &&& (255 : Int32))), .unset, .unset, .unset, .unset]) rfl ?_
    show Steps p.tables e below (T2.setTop (mkF m 31 #[.val (.int p1), .val (.int (own_c p1)), .val (.int (own_U (own_c p1))), .val (.int ((own_U (own_c p1)) &&& (255 : Int32))), .unset, .unset, .unset, .unset] [])) _
    refine XS.iloadN X2.here hx rfl (hb hby at_31) rfl ?_
    show Steps p.tables e below (T2.setTop (mkF m 32 #[.val (.int p1), .val (.int (own_c p1)), .val (.int (own_U (own_c p1))), .val (.int ((own_U (own_c p1)) &&& (255 : Int32))), .unset, .unset, .unset, .unset] [(.int (own_U (own_c p1)))])) _
    refine XS.bipush X2.here hx rfl (hb hby at_32) ?_
    show Steps p.tables e below (T2.setTop (mkF m 34 #[.val (.int p1), .val (.int (own_c p1)), .val (.int (own_U (own_c p1))), .val (.int ((own_U (own_c p1)) &&& (255 : Int32))), .unset, .unset, .unset, .unset] [(.int (8 : Int32)), (.int (own_U (own_c p1)))])) _
    refine XS.iushr X2.here hx rfl (hb hby at_34) rfl ?_
    show Steps p.tables e below (T2.setTop (mkF m 35 #[.val (.int p1), .val (.int (own_c p1)), .val (.int (own_U (own_c p1))), .val (.int ((own_U (own_c p1)) &&& (255 : Int32))), .unset, .unset, .unset, .unset] [(.int (((own_U (own_c p1)).toUInt32 >>> ((8 : Int32) &&& 31).toUInt32).toInt32))])) _
    refine XS.sipush X2.here hx rfl (hb hby at_35) ?_
    show Steps p.tables e below (T2.setTop (mkF m 38 #[.val (.int p1), .val (.int (own_c p1)), .val (.int (own_U (own_c p1))), .val (.int ((own_U (own_c p1)) &&& (255 : Int32))), .unset, .unset, .unset, .unset] [(.int (255 : Int32)), (.int (((own_U (own_c p1)).toUInt32 >>> ((8 : Int32) &&& 31).toUInt32).toInt32))])) _
    refine XS.iand X2.here hx rfl (hb hby at_38) rfl ?_
    show Steps p.tables e below (T2.setTop (mkF m 39 #[.val (.int p1), .val (.int (own_c p1)), .val (.int (own_U (own_c p1))), .val (.int ((own_U (own_c p1)) &&& (255 : Int32))), .unset, .unset, .unset, .unset] [(.int ((((own_U (own_c p1)).toUInt32 >>> ((8 : Int32) &&& 31).toUInt32).toInt32) &&& (255 : Int32)))])) _
    refine XS.istore X2.here hx rfl (hb hby at_39) rfl (l' := #[.val (.int p1), .val (.int (own_c p1)), .val (.int (own_U (own_c p1))), .val (.int ((own_U (own_c p1)) &&& (255 : Int32))), .val (.int ((((own_U (own_c p1)).toUInt32 >>> ((8 : Int32) &&& 31).toUInt32).toInt32) &&& (255 : Int32))), .unset, .unset, .unset]) rfl ?_
    show Steps p.tables e below (T2.setTop (mkF m 41 #[.val (.int p1), .val (.int (own_c p1)), .val (.int (own_U (own_c p1))), .val (.int ((own_U (own_c p1)) &&& (255 : Int32))), .val (.int ((((own_U (own_c p1)).toUInt32 >>> ((8 : Int32) &&& 31).toUInt32).toInt32) &&& (255 : Int32))), .unset, .unset, .unset] [])) _
    refine XS.iloadN X2.here hx rfl (hb hby at_41) rfl ?_
    show Steps p.tables e below (T2.setTop (mkF m 42 #[.val (.int p1), .val (.int (own_c p1)), .val (.int (own_U (own_c p1))), .val (.int ((own_U (own_c p1)) &&& (255 : Int32))), .val (.int ((((own_U (own_c p1)).toUInt32 >>> ((8 : Int32) &&& 31).toUInt32).toInt32) &&& (255 : Int32))), .unset, .unset, .unset] [(.int (own_U (own_c p1)))])) _
    refine XS.bipush X2.here hx rfl (hb hby at_42) ?_
    show Steps p.tables e below (T2.setTop (mkF m 44 #[.val (.int p1), .val (.int (own_c p1)), .val (.int (own_U (own_c p1))), .val (.int ((own_U (own_c p1)) &&& (255 : Int32))), .val (.int ((((own_U (own_c p1)).toUInt32 >>> ((8 : Int32) &&& 31).toUInt32).toInt32) &&& (255 : Int32))), .unset, .unset, .unset] [(.int (16 : Int32)), (.int (own_U (own_c p1)))])) _
    refine XS.iushr X2.here hx rfl (hb hby at_44) rfl ?_
    show Steps p.tables e below (T2.setTop (mkF m 45 #[.val (.int p1), .val (.int (own_c p1)), .val (.int (own_U (own_c p1))), .val (.int ((own_U (own_c p1)) &&& (255 : Int32))), .val (.int ((((own_U (own_c p1)).toUInt32 >>> ((8 : Int32) &&& 31).toUInt32).toInt32) &&& (255 : Int32))), .unset, .unset, .unset] [(.int (((own_U (own_c p1)).toUInt32 >>> ((16 : Int32) &&& 31).toUInt32).toInt32))])) _
    refine XS.sipush X2.here hx rfl (hb hby at_45) ?_
    show Steps p.tables e below (T2.setTop (mkF m 48 #[.val (.int p1), .val (.int (own_c p1)), .val (.int (own_U (own_c p1))), .val (.int ((own_U (own_c p1)) &&& (255 : Int32))), .val (.int ((((own_U (own_c p1)).toUInt32 >>> ((8 : Int32) &&& 31).toUInt32).toInt32) &&& (255 : Int32))), .unset, .unset, .unset] [(.int (255 : Int32)), (.int (((own_U (own_c p1)).toUInt32 >>> ((16 : Int32) &&& 31).toUInt32).toInt32))])) _
    refine XS.iand X2.here hx rfl (hb hby at_48) rfl ?_
    show Steps p.tables e below (T2.setTop (mkF m 49 #[.val (.int p1), .val (.int (own_c p1)), .val (.int (own_U (own_c p1))), .val (.int ((own_U (own_c p1)) &&& (255 : Int32))), .val (.int ((((own_U (own_c p1)).toUInt32 >>> ((8 : Int32) &&& 31).toUInt32).toInt32) &&& (255 : Int32))), .unset, .unset, .unset] [(.int ((((own_U (own_c p1)).toUInt32 >>> ((16 : Int32) &&& 31).toUInt32).toInt32) &&& (255 : Int32)))])) _
    refine XS.istore X2.here hx rfl (hb hby at_49) rfl (l' := #[.val (.int p1), .val (.int (own_c p1)), .val (.int (own_U (own_c p1))), .val (.int ((own_U (own_c p1)) &&& (255 : Int32))), .val (.int ((((own_U (own_c p1)).toUInt32 >>> ((8 : Int32) &&& 31).toUInt32).toInt32) &&& (255 : Int32))), .val (.int ((((own_U (own_c p1)).toUInt32 >>> ((16 : Int32) &&& 31).toUInt32).toInt32) &&& (255 : Int32))), .unset, .unset]) rfl ?_
    show Steps p.tables e below (T2.setTop (mkF m 51 #[.val (.int p1), .val (.int (own_c p1)), .val (.int (own_U (own_c p1))), .val (.int ((own_U (own_c p1)) &&& (255 : Int32))), .val (.int ((((own_U (own_c p1)).toUInt32 >>> ((8 : Int32) &&& 31).toUInt32).toInt32) &&& (255 : Int32))), .val (.int ((((own_U (own_c p1)).toUInt32 >>> ((16 : Int32) &&& 31).toUInt32).toInt32) &&& (255 : Int32))), .unset, .unset] [])) _
    refine XS.iloadN X2.here hx rfl (hb hby at_51) rfl ?_
    show Steps p.tables e below (T2.setTop (mkF m 52 #[.val (.int p1), .val (.int (own_c p1)), .val (.int (own_U (own_c p1))), .val (.int ((own_U (own_c p1)) &&& (255 : Int32))), .val (.int ((((own_U (own_c p1)).toUInt32 >>> ((8 : Int32) &&& 31).toUInt32).toInt32) &&& (255 : Int32))), .val (.int ((((own_U (own_c p1)).toUInt32 >>> ((16 : Int32) &&& 31).toUInt32).toInt32) &&& (255 : Int32))), .unset, .unset] [(.int (own_U (own_c p1)))])) _
    refine XS.bipush X2.here hx rfl (hb hby at_52) ?_
    show Steps p.tables e below (T2.setTop (mkF m 54 #[.val (.int p1), .val (.int (own_c p1)), .val (.int (own_U (own_c p1))), .val (.int ((own_U (own_c p1)) &&& (255 : Int32))), .val (.int ((((own_U (own_c p1)).toUInt32 >>> ((8 : Int32) &&& 31).toUInt32).toInt32) &&& (255 : Int32))), .val (.int ((((own_U (own_c p1)).toUInt32 >>> ((16 : Int32) &&& 31).toUInt32).toInt32) &&& (255 : Int32))), .unset, .unset] [(.int (24 : Int32)), (.int (own_U (own_c p1)))])) _
    refine XS.iushr X2.here hx rfl (hb hby at_54) rfl ?_
    show Steps p.tables e below (T2.setTop (mkF m 55 #[.val (.int p1), .val (.int (own_c p1)), .val (.int (own_U (own_c p1))), .val (.int ((own_U (own_c p1)) &&& (255 : Int32))), .val (.int ((((own_U (own_c p1)).toUInt32 >>> ((8 : Int32) &&& 31).toUInt32).toInt32) &&& (255 : Int32))), .val (.int ((((own_U (own_c p1)).toUInt32 >>> ((16 : Int32) &&& 31).toUInt32).toInt32) &&& (255 : Int32))), .unset, .unset] [(.int (((own_U (own_c p1)).toUInt32 >>> ((24 : Int32) &&& 31).toUInt32).toInt32))])) _
    refine XS.sipush X2.here hx rfl (hb hby at_55) ?_
    show Steps p.tables e below (T2.setTop (mkF m 58 #[.val (.int p1), .val (.int (own_c p1)), .val (.int (own_U (own_c p1))), .val (.int ((own_U (own_c p1)) &&& (255 : Int32))), .val (.int ((((own_U (own_c p1)).toUInt32 >>> ((8 : Int32) &&& 31).toUInt32).toInt32) &&& (255 : Int32))), .val (.int ((((own_U (own_c p1)).toUInt32 >>> ((16 : Int32) &&& 31).toUInt32).toInt32) &&& (255 : Int32))), .unset, .unset] [(.int (255 : Int32)), (.int (((own_U (own_c p1)).toUInt32 >>> ((24 : Int32) &&& 31).toUInt32).toInt32))])) _
    refine XS.iand X2.here hx rfl (hb hby at_58) rfl ?_
    show Steps p.tables e below (T2.setTop (mkF m 59 #[.val (.int p1), .val (.int (own_c p1)), .val (.int (own_U (own_c p1))), .val (.int ((own_U (own_c p1)) &&& (255 : Int32))), .val (.int ((((own_U (own_c p1)).toUInt32 >>> ((8 : Int32) &&& 31).toUInt32).toInt32) &&& (255 : Int32))), .val (.int ((((own_U (own_c p1)).toUInt32 >>> ((16 : Int32) &&& 31).toUInt32).toInt32) &&& (255 : Int32))), .unset, .unset] [(.int ((((own_U (own_c p1)).toUInt32 >>> ((24 : Int32) &&& 31).toUInt32).toInt32) &&& (255 : Int32)))])) _
    refine XS.istore X2.here hx rfl (hb hby at_59) rfl (l' := #[.val (.int p1), .val (.int (own_c p1)), .val (.int (own_U (own_c p1))), .val (.int ((own_U (own_c p1)) &&& (255 : Int32))), .val (.int ((((own_U (own_c p1)).toUInt32 >>> ((8 : Int32) &&& 31).toUInt32).toInt32) &&& (255 : Int32))), .val (.int ((((own_U (own_c p1)).toUInt32 >>> ((16 : Int32) &&& 31).toUInt32).toInt32) &&& (255 : Int32))), .val (.int ((((own_U (own_c p1)).toUInt32 >>> ((24 : Int32) &&& 31).toUInt32).toInt32) &&& (255 : Int32))), .unset]) rfl ?_
    show Steps p.tables e below (T2.setTop (mkF m 61 #[.val (.int p1), .val (.int (own_c p1)), .val (.int (own_U (own_c p1))), .val (.int ((own_U (own_c p1)) &&& (255 : Int32))), .val (.int ((((own_U (own_c p1)).toUInt32 >>> ((8 : Int32) &&& 31).toUInt32).toInt32) &&& (255 : Int32))), .val (.int ((((own_U (own_c p1)).toUInt32 >>> ((16 : Int32) &&& 31).toUInt32).toInt32) &&& (255 : Int32))), .val (.int ((((own_U (own_c p1)).toUInt32 >>> ((24 : Int32) &&& 31).toUInt32).toInt32) &&& (255 : Int32))), .unset] [])) _
    refine XS.iloadN X2.here hx rfl (hb hby at_61) rfl ?_
    show Steps p.tables e below (T2.setTop (mkF m 62 #[.val (.int p1), .val (.int (own_c p1)), .val (.int (own_U (own_c p1))), .val (.int ((own_U (own_c p1)) &&& (255 : Int32))), .val (.int ((((own_U (own_c p1)).toUInt32 >>> ((8 : Int32) &&& 31).toUInt32).toInt32) &&& (255 : Int32))), .val (.int ((((own_U (own_c p1)).toUInt32 >>> ((16 : Int32) &&& 31).toUInt32).toInt32) &&& (255 : Int32))), .val (.int ((((own_U (own_c p1)).toUInt32 >>> ((24 : Int32) &&& 31).toUInt32).toInt32) &&& (255 : Int32))), .unset] [(.int (own_c p1))])) _
    refine XS.sipush X2.here hx rfl (hb hby at_62) ?_
    show Steps p.tables e below (T2.setTop (mkF m 65 #[.val (.int p1), .val (.int (own_c p1)), .val (.int (own_U (own_c p1))), .val (.int ((own_U (own_c p1)) &&& (255 : Int32))), .val (.int ((((own_U (own_c p1)).toUInt32 >>> ((8 : Int32) &&& 31).toUInt32).toInt32) &&& (255 : Int32))), .val (.int ((((own_U (own_c p1)).toUInt32 >>> ((16 : Int32) &&& 31).toUInt32).toInt32) &&& (255 : Int32))), .val (.int ((((own_U (own_c p1)).toUInt32 >>> ((24 : Int32) &&& 31).toUInt32).toInt32) &&& (255 : Int32))), .unset] [(.int (128 : Int32)), (.int (own_c p1))])) _
    refine XS.icmpYes X2.here hx rfl (pc0 := 65) (pc' := 79) rfl (hb hby at_65) rfl (flt hc65).2.1 (by decide) (by decide) ?_
    show Steps p.tables e below (T2.setTop (mkF m 79 #[.val (.int p1), .val (.int (own_c p1)), .val (.int (own_U (own_c p1))), .val (.int ((own_U (own_c p1)) &&& (255 : Int32))), .val (.int ((((own_U (own_c p1)).toUInt32 >>> ((8 : Int32) &&& 31).toUInt32).toInt32) &&& (255 : Int32))), .val (.int ((((own_U (own_c p1)).toUInt32 >>> ((16 : Int32) &&& 31).toUInt32).toInt32) &&& (255 : Int32))), .val (.int ((((own_U (own_c p1)).toUInt32 >>> ((24 : Int32) &&& 31).toUInt32).toInt32) &&& (255 : Int32))), .unset] [])) _
    refine XS.iloadN X2.here hx rfl (hb hby at_79) rfl ?_
    show Steps p.tables e below (T2.setTop (mkF m 80 #[.val (.int p1), .val (.int (own_c p1)), .val (.int (own_U (own_c p1))), .val (.int ((own_U (own_c p1)) &&& (255 : Int32))), .val (.int ((((own_U (own_c p1)).toUInt32 >>> ((8 : Int32) &&& 31).toUInt32).toInt32) &&& (255 : Int32))), .val (.int ((((own_U (own_c p1)).toUInt32 >>> ((16 : Int32) &&& 31).toUInt32).toInt32) &&& (255 : Int32))), .val (.int ((((own_U (own_c p1)).toUInt32 >>> ((24 : Int32) &&& 31).toUInt32).toInt32) &&& (255 : Int32))), .unset] [(.int (own_c p1))])) _
    refine XS.sipush X2.here hx rfl (hb hby at_80) ?_
    show Steps p.tables e below (T2.setTop (mkF m 83 #[.val (.int p1), .val (.int (own_c p1)), .val (.int (own_U (own_c p1))), .val (.int ((own_U (own_c p1)) &&& (255 : Int32))), .val (.int ((((own_U (own_c p1)).toUInt32 >>> ((8 : Int32) &&& 31).toUInt32).toInt32) &&& (255 : Int32))), .val (.int ((((own_U (own_c p1)).toUInt32 >>> ((16 : Int32) &&& 31).toUInt32).toInt32) &&& (255 : Int32))), .val (.int ((((own_U (own_c p1)).toUInt32 >>> ((24 : Int32) &&& 31).toUInt32).toInt32) &&& (255 : Int32))), .unset] [(.int (2048 : Int32)), (.int (own_c p1))])) _
    refine XS.icmpNo X2.here hx rfl (hb hby at_83) rfl (tlt hc83).2.1 ?_
    show Steps p.tables e below (T2.setTop (mkF m 86 #[.val (.int p1), .val (.int (own_c p1)), .val (.int (own_U (own_c p1))), .val (.int ((own_U (own_c p1)) &&& (255 : Int32))), .val (.int ((((own_U (own_c p1)).toUInt32 >>> ((8 : Int32) &&& 31).toUInt32).toInt32) &&& (255 : Int32))), .val (.int ((((own_U (own_c p1)).toUInt32 >>> ((16 : Int32) &&& 31).toUInt32).toInt32) &&& (255 : Int32))), .val (.int ((((own_U (own_c p1)).toUInt32 >>> ((24 : Int32) &&& 31).toUInt32).toInt32) &&& (255 : Int32))), .unset] [])) _
    refine XS.iload X2.here hx rfl (hb hby at_86) rfl ?_
    show Steps p.tables e below (T2.setTop (mkF m 88 #[.val (.int p1), .val (.int (own_c p1)), .val (.int (own_U (own_c p1))), .val (.int ((own_U (own_c p1)) &&& (255 : Int32))), .val (.int ((((own_U (own_c p1)).toUInt32 >>> ((8 : Int32) &&& 31).toUInt32).toInt32) &&& (255 : Int32))), .val (.int ((((own_U (own_c p1)).toUInt32 >>> ((16 : Int32) &&& 31).toUInt32).toInt32) &&& (255 : Int32))), .val (.int ((((own_U (own_c p1)).toUInt32 >>> ((24 : Int32) &&& 31).toUInt32).toInt32) &&& (255 : Int32))), .unset] [(.int ((((own_U (own_c p1)).toUInt32 >>> ((16 : Int32) &&& 31).toUInt32).toInt32) &&& (255 : Int32)))])) _
    refine XS.ifNo X2.here hx rfl (hb hby at_88) rfl ((if0 _ _).trans (teq ho1).2) ?_
    show Steps p.tables e below (T2.setTop (mkF m 91 #[.val (.int p1), .val (.int (own_c p1)), .val (.int (own_U (own_c p1))), .val (.int ((own_U (own_c p1)) &&& (255 : Int32))), .val (.int ((((own_U (own_c p1)).toUInt32 >>> ((8 : Int32) &&& 31).toUInt32).toInt32) &&& (255 : Int32))), .val (.int ((((own_U (own_c p1)).toUInt32 >>> ((16 : Int32) &&& 31).toUInt32).toInt32) &&& (255 : Int32))), .val (.int ((((own_U (own_c p1)).toUInt32 >>> ((24 : Int32) &&& 31).toUInt32).toInt32) &&& (255 : Int32))), .unset] [])) _
    refine XS.iload X2.here hx rfl (hb hby at_91) rfl ?_
    show Steps p.tables e below (T2.setTop (mkF m 93 #[.val (.int p1), .val (.int (own_c p1)), .val (.int (own_U (own_c p1))), .val (.int ((own_U (own_c p1)) &&& (255 : Int32))), .val (.int ((((own_U (own_c p1)).toUInt32 >>> ((8 : Int32) &&& 31).toUInt32).toInt32) &&& (255 : Int32))), .val (.int ((((own_U (own_c p1)).toUInt32 >>> ((16 : Int32) &&& 31).toUInt32).toInt32) &&& (255 : Int32))), .val (.int ((((own_U (own_c p1)).toUInt32 >>> ((24 : Int32) &&& 31).toUInt32).toInt32) &&& (255 : Int32))), .unset] [(.int ((((own_U (own_c p1)).toUInt32 >>> ((24 : Int32) &&& 31).toUInt32).toInt32) &&& (255 : Int32)))])) _
    refine XS.ifYes X2.here hx rfl (pc0 := 93) (pc' := 98) rfl (hb hby at_93) rfl ((if0 _ _).trans (teq ho2).1) (by decide) (by decide) ?_
    show Steps p.tables e below (T2.setTop (mkF m 98 #[.val (.int p1), .val (.int (own_c p1)), .val (.int (own_U (own_c p1))), .val (.int ((own_U (own_c p1)) &&& (255 : Int32))), .val (.int ((((own_U (own_c p1)).toUInt32 >>> ((8 : Int32) &&& 31).toUInt32).toInt32) &&& (255 : Int32))), .val (.int ((((own_U (own_c p1)).toUInt32 >>> ((16 : Int32) &&& 31).toUInt32).toInt32) &&& (255 : Int32))), .val (.int ((((own_U (own_c p1)).toUInt32 >>> ((24 : Int32) &&& 31).toUInt32).toInt32) &&& (255 : Int32))), .unset] [])) _
    refine XS.iloadN X2.here hx rfl (hb hby at_98) rfl ?_
    show Steps p.tables e below (T2.setTop (mkF m 99 #[.val (.int p1), .val (.int (own_c p1)), .val (.int (own_U (own_c p1))), .val (.int ((own_U (own_c p1)) &&& (255 : Int32))), .val (.int ((((own_U (own_c p1)).toUInt32 >>> ((8 : Int32) &&& 31).toUInt32).toInt32) &&& (255 : Int32))), .val (.int ((((own_U (own_c p1)).toUInt32 >>> ((16 : Int32) &&& 31).toUInt32).toInt32) &&& (255 : Int32))), .val (.int ((((own_U (own_c p1)).toUInt32 >>> ((24 : Int32) &&& 31).toUInt32).toInt32) &&& (255 : Int32))), .unset] [(.int ((own_U (own_c p1)) &&& (255 : Int32)))])) _
    refine XS.sipush X2.here hx rfl (hb hby at_99) ?_
    show Steps p.tables e below (T2.setTop (mkF m 102 #[.val (.int p1), .val (.int (own_c p1)), .val (.int (own_U (own_c p1))), .val (.int ((own_U (own_c p1)) &&& (255 : Int32))), .val (.int ((((own_U (own_c p1)).toUInt32 >>> ((8 : Int32) &&& 31).toUInt32).toInt32) &&& (255 : Int32))), .val (.int ((((own_U (own_c p1)).toUInt32 >>> ((16 : Int32) &&& 31).toUInt32).toInt32) &&& (255 : Int32))), .val (.int ((((own_U (own_c p1)).toUInt32 >>> ((24 : Int32) &&& 31).toUInt32).toInt32) &&& (255 : Int32))), .unset] [(.int (224 : Int32)), (.int ((own_U (own_c p1)) &&& (255 : Int32)))])) _
    refine XS.iand X2.here hx rfl (hb hby at_102) rfl ?_
    show Steps p.tables e below (T2.setTop (mkF m 103 #[.val (.int p1), .val (.int (own_c p1)), .val (.int (own_U (own_c p1))), .val (.int ((own_U (own_c p1)) &&& (255 : Int32))), .val (.int ((((own_U (own_c p1)).toUInt32 >>> ((8 : Int32) &&& 31).toUInt32).toInt32) &&& (255 : Int32))), .val (.int ((((own_U (own_c p1)).toUInt32 >>> ((16 : Int32) &&& 31).toUInt32).toInt32) &&& (255 : Int32))), .val (.int ((((own_U (own_c p1)).toUInt32 >>> ((24 : Int32) &&& 31).toUInt32).toInt32) &&& (255 : Int32))), .unset] [(.int (((own_U (own_c p1)) &&& (255 : Int32)) &&& (224 : Int32)))])) _
    refine XS.sipush X2.here hx rfl (hb hby at_103) ?_
    show Steps p.tables e below (T2.setTop (mkF m 106 #[.val (.int p1), .val (.int (own_c p1)), .val (.int (own_U (own_c p1))), .val (.int ((own_U (own_c p1)) &&& (255 : Int32))), .val (.int ((((own_U (own_c p1)).toUInt32 >>> ((8 : Int32) &&& 31).toUInt32).toInt32) &&& (255 : Int32))), .val (.int ((((own_U (own_c p1)).toUInt32 >>> ((16 : Int32) &&& 31).toUInt32).toInt32) &&& (255 : Int32))), .val (.int ((((own_U (own_c p1)).toUInt32 >>> ((24 : Int32) &&& 31).toUInt32).toInt32) &&& (255 : Int32))), .unset] [(.int (192 : Int32)), (.int (((own_U (own_c p1)) &&& (255 : Int32)) &&& (224 : Int32)))])) _
    refine XS.icmpNo X2.here hx rfl (hb hby at_106) rfl (teq ho3).2 ?_
    show Steps p.tables e below (T2.setTop (mkF m 109 #[.val (.int p1), .val (.int (own_c p1)), .val (.int (own_U (own_c p1))), .val (.int ((own_U (own_c p1)) &&& (255 : Int32))), .val (.int ((((own_U (own_c p1)).toUInt32 >>> ((8 : Int32) &&& 31).toUInt32).toInt32) &&& (255 : Int32))), .val (.int ((((own_U (own_c p1)).toUInt32 >>> ((16 : Int32) &&& 31).toUInt32).toInt32) &&& (255 : Int32))), .val (.int ((((own_U (own_c p1)).toUInt32 >>> ((24 : Int32) &&& 31).toUInt32).toInt32) &&& (255 : Int32))), .unset] [])) _
    refine XS.iload X2.here hx rfl (hb hby at_109) rfl ?_
    show Steps p.tables e below (T2.setTop (mkF m 111 #[.val (.int p1), .val (.int (own_c p1)), .val (.int (own_U (own_c p1))), .val (.int ((own_U (own_c p1)) &&& (255 : Int32))), .val (.int ((((own_U (own_c p1)).toUInt32 >>> ((8 : Int32) &&& 31).toUInt32).toInt32) &&& (255 : Int32))), .val (.int ((((own_U (own_c p1)).toUInt32 >>> ((16 : Int32) &&& 31).toUInt32).toInt32) &&& (255 : Int32))), .val (.int ((((own_U (own_c p1)).toUInt32 >>> ((24 : Int32) &&& 31).toUInt32).toInt32) &&& (255 : Int32))), .unset] [(.int ((((own_U (own_c p1)).toUInt32 >>> ((8 : Int32) &&& 31).toUInt32).toInt32) &&& (255 : Int32)))])) _
    refine XS.sipush X2.here hx rfl (hb hby at_111) ?_
    show Steps p.tables e below (T2.setTop (mkF m 114 #[.val (.int p1), .val (.int (own_c p1)), .val (.int (own_U (own_c p1))), .val (.int ((own_U (own_c p1)) &&& (255 : Int32))), .val (.int ((((own_U (own_c p1)).toUInt32 >>> ((8 : Int32) &&& 31).toUInt32).toInt32) &&& (255 : Int32))), .val (.int ((((own_U (own_c p1)).toUInt32 >>> ((16 : Int32) &&& 31).toUInt32).toInt32) &&& (255 : Int32))), .val (.int ((((own_U (own_c p1)).toUInt32 >>> ((24 : Int32) &&& 31).toUInt32).toInt32) &&& (255 : Int32))), .unset] [(.int (192 : Int32)), (.int ((((own_U (own_c p1)).toUInt32 >>> ((8 : Int32) &&& 31).toUInt32).toInt32) &&& (255 : Int32)))])) _
    refine XS.iand X2.here hx rfl (hb hby at_114) rfl ?_
    show Steps p.tables e below (T2.setTop (mkF m 115 #[.val (.int p1), .val (.int (own_c p1)), .val (.int (own_U (own_c p1))), .val (.int ((own_U (own_c p1)) &&& (255 : Int32))), .val (.int ((((own_U (own_c p1)).toUInt32 >>> ((8 : Int32) &&& 31).toUInt32).toInt32) &&& (255 : Int32))), .val (.int ((((own_U (own_c p1)).toUInt32 >>> ((16 : Int32) &&& 31).toUInt32).toInt32) &&& (255 : Int32))), .val (.int ((((own_U (own_c p1)).toUInt32 >>> ((24 : Int32) &&& 31).toUInt32).toInt32) &&& (255 : Int32))), .unset] [(.int (((((own_U (own_c p1)).toUInt32 >>> ((8 : Int32) &&& 31).toUInt32).toInt32) &&& (255 : Int32)) &&& (192 : Int32)))])) _
    refine XS.sipush X2.here hx rfl (hb hby at_115) ?_
    show Steps p.tables e below (T2.setTop (mkF m 118 #[.val (.int p1), .val (.int (own_c p1)), .val (.int (own_U (own_c p1))), .val (.int ((own_U (own_c p1)) &&& (255 : Int32))), .val (.int ((((own_U (own_c p1)).toUInt32 >>> ((8 : Int32) &&& 31).toUInt32).toInt32) &&& (255 : Int32))), .val (.int ((((own_U (own_c p1)).toUInt32 >>> ((16 : Int32) &&& 31).toUInt32).toInt32) &&& (255 : Int32))), .val (.int ((((own_U (own_c p1)).toUInt32 >>> ((24 : Int32) &&& 31).toUInt32).toInt32) &&& (255 : Int32))), .unset] [(.int (128 : Int32)), (.int (((((own_U (own_c p1)).toUInt32 >>> ((8 : Int32) &&& 31).toUInt32).toInt32) &&& (255 : Int32)) &&& (192 : Int32)))])) _
    refine XS.icmpYes X2.here hx rfl (pc0 := 118) (pc' := 123) rfl (hb hby at_118) rfl (teq ho4).1 (by decide) (by decide) ?_
    show Steps p.tables e below (T2.setTop (mkF m 123 #[.val (.int p1), .val (.int (own_c p1)), .val (.int (own_U (own_c p1))), .val (.int ((own_U (own_c p1)) &&& (255 : Int32))), .val (.int ((((own_U (own_c p1)).toUInt32 >>> ((8 : Int32) &&& 31).toUInt32).toInt32) &&& (255 : Int32))), .val (.int ((((own_U (own_c p1)).toUInt32 >>> ((16 : Int32) &&& 31).toUInt32).toInt32) &&& (255 : Int32))), .val (.int ((((own_U (own_c p1)).toUInt32 >>> ((24 : Int32) &&& 31).toUInt32).toInt32) &&& (255 : Int32))), .unset] [])) _
    refine XS.iloadN X2.here hx rfl (hb hby at_123) rfl ?_
    show Steps p.tables e below (T2.setTop (mkF m 124 #[.val (.int p1), .val (.int (own_c p1)), .val (.int (own_U (own_c p1))), .val (.int ((own_U (own_c p1)) &&& (255 : Int32))), .val (.int ((((own_U (own_c p1)).toUInt32 >>> ((8 : Int32) &&& 31).toUInt32).toInt32) &&& (255 : Int32))), .val (.int ((((own_U (own_c p1)).toUInt32 >>> ((16 : Int32) &&& 31).toUInt32).toInt32) &&& (255 : Int32))), .val (.int ((((own_U (own_c p1)).toUInt32 >>> ((24 : Int32) &&& 31).toUInt32).toInt32) &&& (255 : Int32))), .unset] [(.int ((own_U (own_c p1)) &&& (255 : Int32)))])) _
    refine XS.bipush X2.here hx rfl (hb hby at_124) ?_
    show Steps p.tables e below (T2.setTop (mkF m 126 #[.val (.int p1), .val (.int (own_c p1)), .val (.int (own_U (own_c p1))), .val (.int ((own_U (own_c p1)) &&& (255 : Int32))), .val (.int ((((own_U (own_c p1)).toUInt32 >>> ((8 : Int32) &&& 31).toUInt32).toInt32) &&& (255 : Int32))), .val (.int ((((own_U (own_c p1)).toUInt32 >>> ((16 : Int32) &&& 31).toUInt32).toInt32) &&& (255 : Int32))), .val (.int ((((own_U (own_c p1)).toUInt32 >>> ((24 : Int32) &&& 31).toUInt32).toInt32) &&& (255 : Int32))), .unset] [(.int (31 : Int32)), (.int ((own_U (own_c p1)) &&& (255 : Int32)))])) _
    refine XS.iand X2.here hx rfl (hb hby at_126) rfl ?_
    show Steps p.tables e below (T2.setTop (mkF m 127 #[.val (.int p1), .val (.int (own_c p1)), .val (.int (own_U (own_c p1))), .val (.int ((own_U (own_c p1)) &&& (255 : Int32))), .val (.int ((((own_U (own_c p1)).toUInt32 >>> ((8 : Int32) &&& 31).toUInt32).toInt32) &&& (255 : Int32))), .val (.int ((((own_U (own_c p1)).toUInt32 >>> ((16 : Int32) &&& 31).toUInt32).toInt32) &&& (255 : Int32))), .val (.int ((((own_U (own_c p1)).toUInt32 >>> ((24 : Int32) &&& 31).toUInt32).toInt32) &&& (255 : Int32))), .unset] [(.int (((own_U (own_c p1)) &&& (255 : Int32)) &&& (31 : Int32)))])) _
    refine XS.bipush X2.here hx rfl (hb hby at_127) ?_
    show Steps p.tables e below (T2.setTop (mkF m 129 #[.val (.int p1), .val (.int (own_c p1)), .val (.int (own_U (own_c p1))), .val (.int ((own_U (own_c p1)) &&& (255 : Int32))), .val (.int ((((own_U (own_c p1)).toUInt32 >>> ((8 : Int32) &&& 31).toUInt32).toInt32) &&& (255 : Int32))), .val (.int ((((own_U (own_c p1)).toUInt32 >>> ((16 : Int32) &&& 31).toUInt32).toInt32) &&& (255 : Int32))), .val (.int ((((own_U (own_c p1)).toUInt32 >>> ((24 : Int32) &&& 31).toUInt32).toInt32) &&& (255 : Int32))), .unset] [(.int (6 : Int32)), (.int (((own_U (own_c p1)) &&& (255 : Int32)) &&& (31 : Int32)))])) _
    refine XS.ishl X2.here hx rfl (hb hby at_129) rfl ?_
    show Steps p.tables e below (T2.setTop (mkF m 130 #[.val (.int p1), .val (.int (own_c p1)), .val (.int (own_U (own_c p1))), .val (.int ((own_U (own_c p1)) &&& (255 : Int32))), .val (.int ((((own_U (own_c p1)).toUInt32 >>> ((8 : Int32) &&& 31).toUInt32).toInt32) &&& (255 : Int32))), .val (.int ((((own_U (own_c p1)).toUInt32 >>> ((16 : Int32) &&& 31).toUInt32).toInt32) &&& (255 : Int32))), .val (.int ((((own_U (own_c p1)).toUInt32 >>> ((24 : Int32) &&& 31).toUInt32).toInt32) &&& (255 : Int32))), .unset] [(.int ((((own_U (own_c p1)) &&& (255 : Int32)) &&& (31 : Int32)) <<< ((6 : Int32) &&& 31)))])) _
    refine XS.iload X2.here hx rfl (hb hby at_130) rfl ?_
    show Steps p.tables e below (T2.setTop (mkF m 132 #[.val (.int p1), .val (.int (own_c p1)), .val (.int (own_U (own_c p1))), .val (.int ((own_U (own_c p1)) &&& (255 : Int32))), .val (.int ((((own_U (own_c p1)).toUInt32 >>> ((8 : Int32) &&& 31).toUInt32).toInt32) &&& (255 : Int32))), .val (.int ((((own_U (own_c p1)).toUInt32 >>> ((16 : Int32) &&& 31).toUInt32).toInt32) &&& (255 : Int32))), .val (.int ((((own_U (own_c p1)).toUInt32 >>> ((24 : Int32) &&& 31).toUInt32).toInt32) &&& (255 : Int32))), .unset] [(.int ((((own_U (own_c p1)).toUInt32 >>> ((8 : Int32) &&& 31).toUInt32).toInt32) &&& (255 : Int32))), (.int ((((own_U (own_c p1)) &&& (255 : Int32)) &&& (31 : Int32)) <<< ((6 : Int32) &&& 31)))])) _
    refine XS.bipush X2.here hx rfl (hb hby at_132) ?_
    show Steps p.tables e below (T2.setTop (mkF m 134 #[.val (.int p1), .val (.int (own_c p1)), .val (.int (own_U (own_c p1))), .val (.int ((own_U (own_c p1)) &&& (255 : Int32))), .val (.int ((((own_U (own_c p1)).toUInt32 >>> ((8 : Int32) &&& 31).toUInt32).toInt32) &&& (255 : Int32))), .val (.int ((((own_U (own_c p1)).toUInt32 >>> ((16 : Int32) &&& 31).toUInt32).toInt32) &&& (255 : Int32))), .val (.int ((((own_U (own_c p1)).toUInt32 >>> ((24 : Int32) &&& 31).toUInt32).toInt32) &&& (255 : Int32))), .unset] [(.int (63 : Int32)), (.int ((((own_U (own_c p1)).toUInt32 >>> ((8 : Int32) &&& 31).toUInt32).toInt32) &&& (255 : Int32))), (.int ((((own_U (own_c p1)) &&& (255 : Int32)) &&& (31 : Int32)) <<< ((6 : Int32) &&& 31)))])) _
    refine XS.iand X2.here hx rfl (hb hby at_134) rfl ?_
    show Steps p.tables e below (T2.setTop (mkF m 135 #[.val (.int p1), .val (.int (own_c p1)), .val (.int (own_U (own_c p1))), .val (.int ((own_U (own_c p1)) &&& (255 : Int32))), .val (.int ((((own_U (own_c p1)).toUInt32 >>> ((8 : Int32) &&& 31).toUInt32).toInt32) &&& (255 : Int32))), .val (.int ((((own_U (own_c p1)).toUInt32 >>> ((16 : Int32) &&& 31).toUInt32).toInt32) &&& (255 : Int32))), .val (.int ((((own_U (own_c p1)).toUInt32 >>> ((24 : Int32) &&& 31).toUInt32).toInt32) &&& (255 : Int32))), .unset] [(.int (((((own_U (own_c p1)).toUInt32 >>> ((8 : Int32) &&& 31).toUInt32).toInt32) &&& (255 : Int32)) &&& (63 : Int32))), (.int ((((own_U (own_c p1)) &&& (255 : Int32)) &&& (31 : Int32)) <<< ((6 : Int32) &&& 31)))])) _
    refine XS.ior X2.here hx rfl (hb hby at_135) rfl ?_
    show Steps p.tables e below (T2.setTop (mkF m 136 #[.val (.int p1), .val (.int (own_c p1)), .val (.int (own_U (own_c p1))), .val (.int ((own_U (own_c p1)) &&& (255 : Int32))), .val (.int ((((own_U (own_c p1)).toUInt32 >>> ((8 : Int32) &&& 31).toUInt32).toInt32) &&& (255 : Int32))), .val (.int ((((own_U (own_c p1)).toUInt32 >>> ((16 : Int32) &&& 31).toUInt32).toInt32) &&& (255 : Int32))), .val (.int ((((own_U (own_c p1)).toUInt32 >>> ((24 : Int32) &&& 31).toUInt32).toInt32) &&& (255 : Int32))), .unset] [(.int (((((own_U (own_c p1)) &&& (255 : Int32)) &&& (31 : Int32)) <<< ((6 : Int32) &&& 31)) ||| (((((own_U (own_c p1)).toUInt32 >>> ((8 : Int32) &&& 31).toUInt32).toInt32) &&& (255 : Int32)) &&& (63 : Int32))))])) _
    refine XS.istore X2.here hx rfl (hb hby at_136) rfl (l' := #[.val (.int p1), .val (.int (own_c p1)), .val (.int (own_U (own_c p1))), .val (.int ((own_U (own_c p1)) &&& (255 : Int32))), .val (.int ((((own_U (own_c p1)).toUInt32 >>> ((8 : Int32) &&& 31).toUInt32).toInt32) &&& (255 : Int32))), .val (.int ((((own_U (own_c p1)).toUInt32 >>> ((16 : Int32) &&& 31).toUInt32).toInt32) &&& (255 : Int32))), .val (.int ((((own_U (own_c p1)).toUInt32 >>> ((24 : Int32) &&& 31).toUInt32).toInt32) &&& (255 : Int32))), .val (.int (((((own_U (own_c p1)) &&& (255 : Int32)) &&& (31 : Int32)) <<< ((6 : Int32) &&& 31)) ||| (((((own_U (own_c p1)).toUInt32 >>> ((8 : Int32) &&& 31).toUInt32).toInt32) &&& (255 : Int32)) &&& (63 : Int32))))]) rfl ?_
    show Steps p.tables e below (T2.setTop (mkF m 138 #[.val (.int p1), .val (.int (own_c p1)), .val (.int (own_U (own_c p1))), .val (.int ((own_U (own_c p1)) &&& (255 : Int32))), .val (.int ((((own_U (own_c p1)).toUInt32 >>> ((8 : Int32) &&& 31).toUInt32).toInt32) &&& (255 : Int32))), .val (.int ((((own_U (own_c p1)).toUInt32 >>> ((16 : Int32) &&& 31).toUInt32).toInt32) &&& (255 : Int32))), .val (.int ((((own_U (own_c p1)).toUInt32 >>> ((24 : Int32) &&& 31).toUInt32).toInt32) &&& (255 : Int32))), .val (.int (((((own_U (own_c p1)) &&& (255 : Int32)) &&& (31 : Int32)) <<< ((6 : Int32) &&& 31)) ||| (((((own_U (own_c p1)).toUInt32 >>> ((8 : Int32) &&& 31).toUInt32).toInt32) &&& (255 : Int32)) &&& (63 : Int32))))] [])) _
    refine XS.iload X2.here hx rfl (hb hby at_138) rfl ?_
    show Steps p.tables e below (T2.setTop (mkF m 140 #[.val (.int p1), .val (.int (own_c p1)), .val (.int (own_U (own_c p1))), .val (.int ((own_U (own_c p1)) &&& (255 : Int32))), .val (.int ((((own_U (own_c p1)).toUInt32 >>> ((8 : Int32) &&& 31).toUInt32).toInt32) &&& (255 : Int32))), .val (.int ((((own_U (own_c p1)).toUInt32 >>> ((16 : Int32) &&& 31).toUInt32).toInt32) &&& (255 : Int32))), .val (.int ((((own_U (own_c p1)).toUInt32 >>> ((24 : Int32) &&& 31).toUInt32).toInt32) &&& (255 : Int32))), .val (.int (((((own_U (own_c p1)) &&& (255 : Int32)) &&& (31 : Int32)) <<< ((6 : Int32) &&& 31)) ||| (((((own_U (own_c p1)).toUInt32 >>> ((8 : Int32) &&& 31).toUInt32).toInt32) &&& (255 : Int32)) &&& (63 : Int32))))] [(.int (((((own_U (own_c p1)) &&& (255 : Int32)) &&& (31 : Int32)) <<< ((6 : Int32) &&& 31)) ||| (((((own_U (own_c p1)).toUInt32 >>> ((8 : Int32) &&& 31).toUInt32).toInt32) &&& (255 : Int32)) &&& (63 : Int32))))])) _
    refine XS.iloadN X2.here hx rfl (hb hby at_140) rfl ?_
    show Steps p.tables e below (T2.setTop (mkF m 141 #[.val (.int p1), .val (.int (own_c p1)), .val (.int (own_U (own_c p1))), .val (.int ((own_U (own_c p1)) &&& (255 : Int32))), .val (.int ((((own_U (own_c p1)).toUInt32 >>> ((8 : Int32) &&& 31).toUInt32).toInt32) &&& (255 : Int32))), .val (.int ((((own_U (own_c p1)).toUInt32 >>> ((16 : Int32) &&& 31).toUInt32).toInt32) &&& (255 : Int32))), .val (.int ((((own_U (own_c p1)).toUInt32 >>> ((24 : Int32) &&& 31).toUInt32).toInt32) &&& (255 : Int32))), .val (.int (((((own_U (own_c p1)) &&& (255 : Int32)) &&& (31 : Int32)) <<< ((6 : Int32) &&& 31)) ||| (((((own_U (own_c p1)).toUInt32 >>> ((8 : Int32) &&& 31).toUInt32).toInt32) &&& (255 : Int32)) &&& (63 : Int32))))] [(.int (own_c p1)), (.int (((((own_U (own_c p1)) &&& (255 : Int32)) &&& (31 : Int32)) <<< ((6 : Int32) &&& 31)) ||| (((((own_U (own_c p1)).toUInt32 >>> ((8 : Int32) &&& 31).toUInt32).toInt32) &&& (255 : Int32)) &&& (63 : Int32))))])) _
    refine XS.icmpNo X2.here hx rfl (hb hby at_141) rfl (teq ho5).2 ?_
    show Steps p.tables e below (T2.setTop (mkF m 144 #[.val (.int p1), .val (.int (own_c p1)), .val (.int (own_U (own_c p1))), .val (.int ((own_U (own_c p1)) &&& (255 : Int32))), .val (.int ((((own_U (own_c p1)).toUInt32 >>> ((8 : Int32) &&& 31).toUInt32).toInt32) &&& (255 : Int32))), .val (.int ((((own_U (own_c p1)).toUInt32 >>> ((16 : Int32) &&& 31).toUInt32).toInt32) &&& (255 : Int32))), .val (.int ((((own_U (own_c p1)).toUInt32 >>> ((24 : Int32) &&& 31).toUInt32).toInt32) &&& (255 : Int32))), .val (.int (((((own_U (own_c p1)) &&& (255 : Int32)) &&& (31 : Int32)) <<< ((6 : Int32) &&& 31)) ||| (((((own_U (own_c p1)).toUInt32 >>> ((8 : Int32) &&& 31).toUInt32).toInt32) &&& (255 : Int32)) &&& (63 : Int32))))] [])) _
    refine XS.iconst X2.here hx rfl (hb hby at_144) ?_
    show Steps p.tables e below (T2.setTop (mkF m 145 #[.val (.int p1), .val (.int (own_c p1)), .val (.int (own_U (own_c p1))), .val (.int ((own_U (own_c p1)) &&& (255 : Int32))), .val (.int ((((own_U (own_c p1)).toUInt32 >>> ((8 : Int32) &&& 31).toUInt32).toInt32) &&& (255 : Int32))), .val (.int ((((own_U (own_c p1)).toUInt32 >>> ((16 : Int32) &&& 31).toUInt32).toInt32) &&& (255 : Int32))), .val (.int ((((own_U (own_c p1)).toUInt32 >>> ((24 : Int32) &&& 31).toUInt32).toInt32) &&& (255 : Int32))), .val (.int (((((own_U (own_c p1)) &&& (255 : Int32)) &&& (31 : Int32)) <<< ((6 : Int32) &&& 31)) ||| (((((own_U (own_c p1)).toUInt32 >>> ((8 : Int32) &&& 31).toUInt32).toInt32) &&& (255 : Int32)) &&& (63 : Int32))))] [(.int (1 : Int32))])) _
    refine XS.goto X2.here hx rfl (pc0 := 145) (pc' := 149) rfl (hb hby at_145) (by decide) (by decide) ?_
    show Steps p.tables e below (T2.setTop (mkF m 149 #[.val (.int p1), .val (.int (own_c p1)), .val (.int (own_U (own_c p1))), .val (.int ((own_U (own_c p1)) &&& (255 : Int32))), .val (.int ((((own_U (own_c p1)).toUInt32 >>> ((8 : Int32) &&& 31).toUInt32).toInt32) &&& (255 : Int32))), .val (.int ((((own_U (own_c p1)).toUInt32 >>> ((16 : Int32) &&& 31).toUInt32).toInt32) &&& (255 : Int32))), .val (.int ((((own_U (own_c p1)).toUInt32 >>> ((24 : Int32) &&& 31).toUInt32).toInt32) &&& (255 : Int32))), .val (.int (((((own_U (own_c p1)) &&& (255 : Int32)) &&& (31 : Int32)) <<< ((6 : Int32) &&& 31)) ||| (((((own_U (own_c p1)).toUInt32 >>> ((8 : Int32) &&& 31).toUInt32).toInt32) &&& (255 : Int32)) &&& (63 : Int32))))] [(.int (1 : Int32))])) _
    exact retN X2 hx (t := .boolean) Bd.returns (by simp) (hb hby at_149) hr
  · show Q0 Z p1 h0 n0 _ T2.heap _
    exact ⟨rfl, N2⟩
set_option maxRecDepth 65536 in
set_option maxHeartbeats 40000000 in
theorem own_rm0_ttttfftf (l : Launch) (Z : State) (a0 : Array Value) (hw : ∀ d ∈ tables_1, d.before a0 Z = true) (ws : List Jvm.Cond) (p1 : Int32) (h0 : Heap) (n0 : Nat) (Z0 : n0 ≤ h0.size) (ho1 : ((((own_U (own_c p1)).toUInt32 >>> ((24 : Int32) &&& 31).toUInt32).toInt32) &&& (255 : Int32)) = (0 : Int32)) (ho2 : (((own_U (own_c p1)) &&& (255 : Int32)) &&& (240 : Int32)) = (224 : Int32)) (ho3 : (((((own_U (own_c p1)).toUInt32 >>> ((8 : Int32) &&& 31).toUInt32).toInt32) &&& (255 : Int32)) &&& (192 : Int32)) = (128 : Int32)) (ho4 : (((((own_U (own_c p1)).toUInt32 >>> ((16 : Int32) &&& 31).toUInt32).toInt32) &&& (255 : Int32)) &&& (192 : Int32)) = (128 : Int32)) (ho5 : ((((((own_U (own_c p1)) &&& (255 : Int32)) &&& (15 : Int32)) <<< ((12 : Int32) &&& 31)) ||| ((((((own_U (own_c p1)).toUInt32 >>> ((8 : Int32) &&& 31).toUInt32).toInt32) &&& (255 : Int32)) &&& (63 : Int32)) <<< ((6 : Int32) &&& 31))) ||| (((((own_U (own_c p1)).toUInt32 >>> ((16 : Int32) &&& 31).toUInt32).toInt32) &&& (255 : Int32)) &&& (63 : Int32))) = (own_c p1)) (hc9 : (own_c p1) < (55296 : Int32)) (hc65 : ¬ ((own_c p1) < (128 : Int32))) (hc83 : ¬ ((own_c p1) < (2048 : Int32))) :
    MetFree l x (head1 (Jvm.Cond.code x code maxLocals ret :: ws) room_1) (fun a U => a = #[(.int p1)] ∧ Z.Warmed39 U.vm ∧ U.heap = h0) (fun _ _ _ _ _ => True) (fun _ U o U' => ∃ v L, o = .returned v ∧ Q0 Z p1 h0 n0 v U'.heap L ∧ FrameEnd U o U' L room_1.cells room_1.slots) := by
  refine MetFree.of_bodySF (plainFor_of_name pn_0) hisR ?_
  intro p e s m args below meth c s₁ Bd hml0 hP hK
  obtain ⟨rfl, hZ, hh⟩ := hP
  have hx := Bd.exec
  have hby := Bd.bytes
  have hml : c.maxLocals = 8 := hml0
  have hown : s.vm.findClass "com/example/taster/taster/io/TranslationUtf8PinLaw" = some m.cls := findClass_of_methodNamed Bd.named
  have hnm := (name_of_methodNamed Bd.named Bd.method).1
  have X0 : Stand p l e room_1 s m #[(.int p1)] below meth c s₁ [] 0 0 := Stand.of_body Bd
  have e0 : s₁.heap = h0 := by rw [← hh, Bd.state]; rfl
  have N0 := Fr.nil n0
  have pre0 : ∀ t, Steps p.tables e below (s₁.setTop (mkF m 0 #[.val (.int p1), .unset, .unset, .unset, .unset, .unset, .unset, .unset] [])) t → Steps p.tables e below (s₁.setTop (entryFrame m #[(.int p1)] maxLocals)) t := fun t k => castTop (ef_0 m p1) k
  obtain ⟨_, _, ⟨T2, L2, k2, n2⟩, -, X2, ⟨Lc2, hQ2, l2, y2, z2⟩, st2⟩ := Jvm.LawKit.callS X0 hx (y := (⟨"com/example/taster/taster/io/Translation", "utf8", "(C)I"⟩ : MethodName)) hown (mvT hZ (hw _ (List.mem_of_getElem? (i := 2) rfl))) (mvT hZ (hw _ (List.mem_of_getElem? (i := 3) rfl))) (mvT hZ (hw _ (List.mem_of_getElem? (i := 4) rfl))) (mvT hZ (hw _ (List.mem_of_getElem? (i := 5) rfl))) (by decide) (backOf (W := 0) (rm1 l Z a0 hw [] (own_c p1) h0 n0 Z0) hZ (hw _ (List.mem_of_getElem? (i := 5) rfl)) (hw _ (List.mem_of_getElem? (i := 4) rfl)) (by decide) (by decide)) (g := (mkF m 21 #[.val (.int p1), .val (.int (own_c p1)), .unset, .unset, .unset, .unset, .unset, .unset] [(.int (own_c p1))])) rfl (by rw [hml]; rfl) (argsL := [(.int (own_c p1))]) (rest := []) (lenOf pd_0_0 rfl) rfl (by show 2 * 0 + _ ≤ _; exact Nat.le_of_eq rfl) (hb hby at_21) (fun _ _ => ⟨rfl, e0, (by decide : 0 + 0 ≤ _), (by decide : 0 + 0 ≤ _)⟩)
  dsimp only [Pt.U, Pt.locs, Pt.cells, Pt.slots] at X2 l2 y2 z2 st2 hQ2
  subst l2 y2 z2
  obtain ⟨rfl, N2q, e2⟩ := hQ2
  have N2 := Fr.app N0 N2q
  obtain ⟨fs, hr, hrun, hended, hW, hsame⟩ := X2.leave (v := some (.int (1 : Int32))) (fun h => by rw [Bd.returns] at h; cases h)
  refine ⟨_, _, pre0 _ ?_, hrun, hended, _, _, rfl, ?_, ⟨_, rfl⟩, hW, hsame.mono (by decide) (by decide)⟩
  · show Steps p.tables e below (s₁.setTop (mkF m 0 #[.val (.int p1), .unset, .unset, .unset, .unset, .unset, .unset, .unset] [])) _
    refine XS.iloadN X0.here hx rfl (hb hby at_0) rfl ?_
    show Steps p.tables e below (s₁.setTop (mkF m 1 #[.val (.int p1), .unset, .unset, .unset, .unset, .unset, .unset, .unset] [(.int p1)])) _
    refine X0.ldcInt hx hown (mvT hZ (hw _ (List.mem_of_getElem? (i := 0) rfl))) (g := (mkF m 1 #[.val (.int p1), .unset, .unset, .unset, .unset, .unset, .unset, .unset] [(.int p1)])) rfl (hb hby at_1) _ ?_
    show Steps p.tables e below (s₁.setTop (mkF m 3 #[.val (.int p1), .unset, .unset, .unset, .unset, .unset, .unset, .unset] [(.int (65535 : Int32)), (.int p1)])) _
    refine XS.iand X0.here hx rfl (hb hby at_3) rfl ?_
    show Steps p.tables e below (s₁.setTop (mkF m 4 #[.val (.int p1), .unset, .unset, .unset, .unset, .unset, .unset, .unset] [(.int (p1 &&& (65535 : Int32)))])) _
    refine XS.i2c X0.here hx rfl (hb hby at_4) rfl ?_
    show Steps p.tables e below (s₁.setTop (mkF m 5 #[.val (.int p1), .unset, .unset, .unset, .unset, .unset, .unset, .unset] [(.int (own_c p1))])) _
    refine XS.istoreN X0.here hx rfl (hb hby at_5) rfl (l' := #[.val (.int p1), .val (.int (own_c p1)), .unset, .unset, .unset, .unset, .unset, .unset]) rfl ?_
    show Steps p.tables e below (s₁.setTop (mkF m 6 #[.val (.int p1), .val (.int (own_c p1)), .unset, .unset, .unset, .unset, .unset, .unset] [])) _
    refine XS.iloadN X0.here hx rfl (hb hby at_6) rfl ?_
    show Steps p.tables e below (s₁.setTop (mkF m 7 #[.val (.int p1), .val (.int (own_c p1)), .unset, .unset, .unset, .unset, .unset, .unset] [(.int (own_c p1))])) _
    refine X0.ldcInt hx hown (mvT hZ (hw _ (List.mem_of_getElem? (i := 1) rfl))) (g := (mkF m 7 #[.val (.int p1), .val (.int (own_c p1)), .unset, .unset, .unset, .unset, .unset, .unset] [(.int (own_c p1))])) rfl (hb hby at_7) _ ?_
    show Steps p.tables e below (s₁.setTop (mkF m 9 #[.val (.int p1), .val (.int (own_c p1)), .unset, .unset, .unset, .unset, .unset, .unset] [(.int (55296 : Int32)), (.int (own_c p1))])) _
    refine XS.icmpYes X0.here hx rfl (pc0 := 9) (pc' := 20) rfl (hb hby at_9) rfl (tlt hc9).1 (by decide) (by decide) ?_
    show Steps p.tables e below (s₁.setTop (mkF m 20 #[.val (.int p1), .val (.int (own_c p1)), .unset, .unset, .unset, .unset, .unset, .unset] [])) _
    refine XS.iloadN X0.here hx rfl (hb hby at_20) rfl ?_
    show Steps p.tables e below (s₁.setTop (mkF m 21 #[.val (.int p1), .val (.int (own_c p1)), .unset, .unset, .unset, .unset, .unset, .unset] [(.int (own_c p1))])) _
    refine st2 _ ?_
    show Steps p.tables e below (T2.setTop (mkF m 24 #[.val (.int p1), .val (.int (own_c p1)), .unset, .unset, .unset, .unset, .unset, .unset] [(.int (own_U (own_c p1)))])) _
    refine XS.istoreN X2.here hx rfl (hb hby at_24) rfl (l' := #[.val (.int p1), .val (.int (own_c p1)), .val (.int (own_U (own_c p1))), .unset, .unset, .unset, .unset, .unset]) rfl ?_
    show Steps p.tables e below (T2.setTop (mkF m 25 #[.val (.int p1), .val (.int (own_c p1)), .val (.int (own_U (own_c p1))), .unset, .unset, .unset, .unset, .unset] [])) _
    refine XS.iloadN X2.here hx rfl (hb hby at_25) rfl ?_
    show Steps p.tables e below (T2.setTop (mkF m 26 #[.val (.int p1), .val (.int (own_c p1)), .val (.int (own_U (own_c p1))), .unset, .unset, .unset, .unset, .unset] [(.int (own_U (own_c p1)))])) _
    refine XS.sipush X2.here hx rfl (hb hby at_26) ?_
    show Steps p.tables e below (T2.setTop (mkF m 29 #[.val (.int p1), .val (.int (own_c p1)), .val (.int (own_U (own_c p1))), .unset, .unset, .unset, .unset, .unset] [(.int (255 : Int32)), (.int (own_U (own_c p1)))])) _
    refine XS.iand X2.here hx rfl (hb hby at_29) rfl ?_
    show Steps p.tables e below (T2.setTop (mkF m 30 #[.val (.int p1), .val (.int (own_c p1)), .val (.int (own_U (own_c p1))), .unset, .unset, .unset, .unset, .unset] [(.int ((own_U (own_c p1)) &&& (255 : Int32)))])) _
    refine XS.istoreN X2.here hx rfl (hb hby at_30) rfl (l' := #[.val (.int p1), .val (.int (own_c p1)), .val (.int (own_U (own_c p1))), .val (.int ((own_U (own_c p1)) &&& (255 : Int32))), .unset, .unset, .unset, .unset]) rfl ?_
    show Steps p.tables e below (T2.setTop (mkF m 31 #[.val (.int p1), .val (.int (own_c p1)), .val (.int (own_U (own_c p1))), .val (.int ((own_U (own_c p1)) &&& (255 : Int32))), .unset, .unset, .unset, .unset] [])) _
    refine XS.iloadN X2.here hx rfl (hb hby at_31) rfl ?_
    show Steps p.tables e below (T2.setTop (mkF m 32 #[.val (.int p1), .val (.int (own_c p1)), .val (.int (own_U (own_c p1))), .val (.int ((own_U (own_c p1)) &&& (255 : Int32))), .unset, .unset, .unset, .unset] [(.int (own_U (own_c p1)))])) _
    refine XS.bipush X2.here hx rfl (hb hby at_32) ?_
    show Steps p.tables e below (T2.setTop (mkF m 34 #[.val (.int p1), .val (.int (own_c p1)), .val (.int (own_U (own_c p1))), .val (.int ((own_U (own_c p1)) &&& (255 : Int32))), .unset, .unset, .unset, .unset] [(.int (8 : Int32)), (.int (own_U (own_c p1)))])) _
    refine XS.iushr X2.here hx rfl (hb hby at_34) rfl ?_
    show Steps p.tables e below (T2.setTop (mkF m 35 #[.val (.int p1), .val (.int (own_c p1)), .val (.int (own_U (own_c p1))), .val (.int ((own_U (own_c p1)) &&& (255 : Int32))), .unset, .unset, .unset, .unset] [(.int (((own_U (own_c p1)).toUInt32 >>> ((8 : Int32) &&& 31).toUInt32).toInt32))])) _
    refine XS.sipush X2.here hx rfl (hb hby at_35) ?_
    show Steps p.tables e below (T2.setTop (mkF m 38 #[.val (.int p1), .val (.int (own_c p1)), .val (.int (own_U (own_c p1))), .val (.int ((own_U (own_c p1)) &&& (255 : Int32))), .unset, .unset, .unset, .unset] [(.int (255 : Int32)), (.int (((own_U (own_c p1)).toUInt32 >>> ((8 : Int32) &&& 31).toUInt32).toInt32))])) _
    refine XS.iand X2.here hx rfl (hb hby at_38) rfl ?_
    show Steps p.tables e below (T2.setTop (mkF m 39 #[.val (.int p1), .val (.int (own_c p1)), .val (.int (own_U (own_c p1))), .val (.int ((own_U (own_c p1)) &&& (255 : Int32))), .unset, .unset, .unset, .unset] [(.int ((((own_U (own_c p1)).toUInt32 >>> ((8 : Int32) &&& 31).toUInt32).toInt32) &&& (255 : Int32)))])) _
    refine XS.istore X2.here hx rfl (hb hby at_39) rfl (l' := #[.val (.int p1), .val (.int (own_c p1)), .val (.int (own_U (own_c p1))), .val (.int ((own_U (own_c p1)) &&& (255 : Int32))), .val (.int ((((own_U (own_c p1)).toUInt32 >>> ((8 : Int32) &&& 31).toUInt32).toInt32) &&& (255 : Int32))), .unset, .unset, .unset]) rfl ?_
    show Steps p.tables e below (T2.setTop (mkF m 41 #[.val (.int p1), .val (.int (own_c p1)), .val (.int (own_U (own_c p1))), .val (.int ((own_U (own_c p1)) &&& (255 : Int32))), .val (.int ((((own_U (own_c p1)).toUInt32 >>> ((8 : Int32) &&& 31).toUInt32).toInt32) &&& (255 : Int32))), .unset, .unset, .unset] [])) _
    refine XS.iloadN X2.here hx rfl (hb hby at_41) rfl ?_
    show Steps p.tables e below (T2.setTop (mkF m 42 #[.val (.int p1), .val (.int (own_c p1)), .val (.int (own_U (own_c p1))), .val (.int ((own_U (own_c p1)) &&& (255 : Int32))), .val (.int ((((own_U (own_c p1)).toUInt32 >>> ((8 : Int32) &&& 31).toUInt32).toInt32) &&& (255 : Int32))), .unset, .unset, .unset] [(.int (own_U (own_c p1)))])) _
    refine XS.bipush X2.here hx rfl (hb hby at_42) ?_
    show Steps p.tables e below (T2.setTop (mkF m 44 #[.val (.int p1), .val (.int (own_c p1)), .val (.int (own_U (own_c p1))), .val (.int ((own_U (own_c p1)) &&& (255 : Int32))), .val (.int ((((own_U (own_c p1)).toUInt32 >>> ((8 : Int32) &&& 31).toUInt32).toInt32) &&& (255 : Int32))), .unset, .unset, .unset] [(.int (16 : Int32)), (.int (own_U (own_c p1)))])) _
    refine XS.iushr X2.here hx rfl (hb hby at_44) rfl ?_
    show Steps p.tables e below (T2.setTop (mkF m 45 #[.val (.int p1), .val (.int (own_c p1)), .val (.int (own_U (own_c p1))), .val (.int ((own_U (own_c p1)) &&& (255 : Int32))), .val (.int ((((own_U (own_c p1)).toUInt32 >>> ((8 : Int32) &&& 31).toUInt32).toInt32) &&& (255 : Int32))), .unset, .unset, .unset] [(.int (((own_U (own_c p1)).toUInt32 >>> ((16 : Int32) &&& 31).toUInt32).toInt32))])) _
    refine XS.sipush X2.here hx rfl (hb hby at_45) ?_
    show Steps p.tables e below (T2.setTop (mkF m 48 #[.val (.int p1), .val (.int (own_c p1)), .val (.int (own_U (own_c p1))), .val (.int ((own_U (own_c p1)) &&& (255 : Int32))), .val (.int ((((own_U (own_c p1)).toUInt32 >>> ((8 : Int32) &&& 31).toUInt32).toInt32) &&& (255 : Int32))), .unset, .unset, .unset] [(.int (255 : Int32)), (.int (((own_U (own_c p1)).toUInt32 >>> ((16 : Int32) &&& 31).toUInt32).toInt32))])) _
    refine XS.iand X2.here hx rfl (hb hby at_48) rfl ?_
    show Steps p.tables e below (T2.setTop (mkF m 49 #[.val (.int p1), .val (.int (own_c p1)), .val (.int (own_U (own_c p1))), .val (.int ((own_U (own_c p1)) &&& (255 : Int32))), .val (.int ((((own_U (own_c p1)).toUInt32 >>> ((8 : Int32) &&& 31).toUInt32).toInt32) &&& (255 : Int32))), .unset, .unset, .unset] [(.int ((((own_U (own_c p1)).toUInt32 >>> ((16 : Int32) &&& 31).toUInt32).toInt32) &&& (255 : Int32)))])) _
    refine XS.istore X2.here hx rfl (hb hby at_49) rfl (l' := #[.val (.int p1), .val (.int (own_c p1)), .val (.int (own_U (own_c p1))), .val (.int ((own_U (own_c p1)) &&& (255 : Int32))), .val (.int ((((own_U (own_c p1)).toUInt32 >>> ((8 : Int32) &&& 31).toUInt32).toInt32) &&& (255 : Int32))), .val (.int ((((own_U (own_c p1)).toUInt32 >>> ((16 : Int32) &&& 31).toUInt32).toInt32) &&& (255 : Int32))), .unset, .unset]) rfl ?_
    show Steps p.tables e below (T2.setTop (mkF m 51 #[.val (.int p1), .val (.int (own_c p1)), .val (.int (own_U (own_c p1))), .val (.int ((own_U (own_c p1)) &&& (255 : Int32))), .val (.int ((((own_U (own_c p1)).toUInt32 >>> ((8 : Int32) &&& 31).toUInt32).toInt32) &&& (255 : Int32))), .val (.int ((((own_U (own_c p1)).toUInt32 >>> ((16 : Int32) &&& 31).toUInt32).toInt32) &&& (255 : Int32))), .unset, .unset] [])) _
    refine XS.iloadN X2.here hx rfl (hb hby at_51) rfl ?_
    show Steps p.tables e below (T2.setTop (mkF m 52 #[.val (.int p1), .val (.int (own_c p1)), .val (.int (own_U (own_c p1))), .val (.int ((own_U (own_c p1)) &&& (255 : Int32))), .val (.int ((((own_U (own_c p1)).toUInt32 >>> ((8 : Int32) &&& 31).toUInt32).toInt32) &&& (255 : Int32))), .val (.int ((((own_U (own_c p1)).toUInt32 >>> ((16 : Int32) &&& 31).toUInt32).toInt32) &&& (255 : Int32))), .unset, .unset] [(.int (own_U (own_c p1)))])) _
    refine XS.bipush X2.here hx rfl (hb hby at_52) ?_
    show Steps p.tables e below (T2.setTop (mkF m 54 #[.val (.int p1), .val (.int (own_c p1)), .val (.int (own_U (own_c p1))), .val (.int ((own_U (own_c p1)) &&& (255 : Int32))), .val (.int ((((own_U (own_c p1)).toUInt32 >>> ((8 : Int32) &&& 31).toUInt32).toInt32) &&& (255 : Int32))), .val (.int ((((own_U (own_c p1)).toUInt32 >>> ((16 : Int32) &&& 31).toUInt32).toInt32) &&& (255 : Int32))), .unset, .unset] [(.int (24 : Int32)), (.int (own_U (own_c p1)))])) _
    refine XS.iushr X2.here hx rfl (hb hby at_54) rfl ?_
    show Steps p.tables e below (T2.setTop (mkF m 55 #[.val (.int p1), .val (.int (own_c p1)), .val (.int (own_U (own_c p1))), .val (.int ((own_U (own_c p1)) &&& (255 : Int32))), .val (.int ((((own_U (own_c p1)).toUInt32 >>> ((8 : Int32) &&& 31).toUInt32).toInt32) &&& (255 : Int32))), .val (.int ((((own_U (own_c p1)).toUInt32 >>> ((16 : Int32) &&& 31).toUInt32).toInt32) &&& (255 : Int32))), .unset, .unset] [(.int (((own_U (own_c p1)).toUInt32 >>> ((24 : Int32) &&& 31).toUInt32).toInt32))])) _
    refine XS.sipush X2.here hx rfl (hb hby at_55) ?_
    show Steps p.tables e below (T2.setTop (mkF m 58 #[.val (.int p1), .val (.int (own_c p1)), .val (.int (own_U (own_c p1))), .val (.int ((own_U (own_c p1)) &&& (255 : Int32))), .val (.int ((((own_U (own_c p1)).toUInt32 >>> ((8 : Int32) &&& 31).toUInt32).toInt32) &&& (255 : Int32))), .val (.int ((((own_U (own_c p1)).toUInt32 >>> ((16 : Int32) &&& 31).toUInt32).toInt32) &&& (255 : Int32))), .unset, .unset] [(.int (255 : Int32)), (.int (((own_U (own_c p1)).toUInt32 >>> ((24 : Int32) &&& 31).toUInt32).toInt32))])) _
    refine XS.iand X2.here hx rfl (hb hby at_58) rfl ?_
    show Steps p.tables e below (T2.setTop (mkF m 59 #[.val (.int p1), .val (.int (own_c p1)), .val (.int (own_U (own_c p1))), .val (.int ((own_U (own_c p1)) &&& (255 : Int32))), .val (.int ((((own_U (own_c p1)).toUInt32 >>> ((8 : Int32) &&& 31).toUInt32).toInt32) &&& (255 : Int32))), .val (.int ((((own_U (own_c p1)).toUInt32 >>> ((16 : Int32) &&& 31).toUInt32).toInt32) &&& (255 : Int32))), .unset, .unset] [(.int ((((own_U (own_c p1)).toUInt32 >>> ((24 : Int32) &&& 31).toUInt32).toInt32) &&& (255 : Int32)))])) _
    refine XS.istore X2.here hx rfl (hb hby at_59) rfl (l' := #[.val (.int p1), .val (.int (own_c p1)), .val (.int (own_U (own_c p1))), .val (.int ((own_U (own_c p1)) &&& (255 : Int32))), .val (.int ((((own_U (own_c p1)).toUInt32 >>> ((8 : Int32) &&& 31).toUInt32).toInt32) &&& (255 : Int32))), .val (.int ((((own_U (own_c p1)).toUInt32 >>> ((16 : Int32) &&& 31).toUInt32).toInt32) &&& (255 : Int32))), .val (.int ((((own_U (own_c p1)).toUInt32 >>> ((24 : Int32) &&& 31).toUInt32).toInt32) &&& (255 : Int32))), .unset]) rfl ?_
    show Steps p.tables e below (T2.setTop (mkF m 61 #[.val (.int p1), .val (.int (own_c p1)), .val (.int (own_U (own_c p1))), .val (.int ((own_U (own_c p1)) &&& (255 : Int32))), .val (.int ((((own_U (own_c p1)).toUInt32 >>> ((8 : Int32) &&& 31).toUInt32).toInt32) &&& (255 : Int32))), .val (.int ((((own_U (own_c p1)).toUInt32 >>> ((16 : Int32) &&& 31).toUInt32).toInt32) &&& (255 : Int32))), .val (.int ((((own_U (own_c p1)).toUInt32 >>> ((24 : Int32) &&& 31).toUInt32).toInt32) &&& (255 : Int32))), .unset] [])) _
    refine XS.iloadN X2.here hx rfl (hb hby at_61) rfl ?_
    show Steps p.tables e below (T2.setTop (mkF m 62 #[.val (.int p1), .val (.int (own_c p1)), .val (.int (own_U (own_c p1))), .val (.int ((own_U (own_c p1)) &&& (255 : Int32))), .val (.int ((((own_U (own_c p1)).toUInt32 >>> ((8 : Int32) &&& 31).toUInt32).toInt32) &&& (255 : Int32))), .val (.int ((((own_U (own_c p1)).toUInt32 >>> ((16 : Int32) &&& 31).toUInt32).toInt32) &&& (255 : Int32))), .val (.int ((((own_U (own_c p1)).toUInt32 >>> ((24 : Int32) &&& 31).toUInt32).toInt32) &&& (255 : Int32))), .unset] [(.int (own_c p1))])) _
    refine XS.sipush X2.here hx rfl (hb hby at_62) ?_
    show Steps p.tables e below (T2.setTop (mkF m 65 #[.val (.int p1), .val (.int (own_c p1)), .val (.int (own_U (own_c p1))), .val (.int ((own_U (own_c p1)) &&& (255 : Int32))), .val (.int ((((own_U (own_c p1)).toUInt32 >>> ((8 : Int32) &&& 31).toUInt32).toInt32) &&& (255 : Int32))), .val (.int ((((own_U (own_c p1)).toUInt32 >>> ((16 : Int32) &&& 31).toUInt32).toInt32) &&& (255 : Int32))), .val (.int ((((own_U (own_c p1)).toUInt32 >>> ((24 : Int32) &&& 31).toUInt32).toInt32) &&& (255 : Int32))), .unset] [(.int (128 : Int32)), (.int (own_c p1))])) _
    refine XS.icmpYes X2.here hx rfl (pc0 := 65) (pc' := 79) rfl (hb hby at_65) rfl (flt hc65).2.1 (by decide) (by decide) ?_
    show Steps p.tables e below (T2.setTop (mkF m 79 #[.val (.int p1), .val (.int (own_c p1)), .val (.int (own_U (own_c p1))), .val (.int ((own_U (own_c p1)) &&& (255 : Int32))), .val (.int ((((own_U (own_c p1)).toUInt32 >>> ((8 : Int32) &&& 31).toUInt32).toInt32) &&& (255 : Int32))), .val (.int ((((own_U (own_c p1)).toUInt32 >>> ((16 : Int32) &&& 31).toUInt32).toInt32) &&& (255 : Int32))), .val (.int ((((own_U (own_c p1)).toUInt32 >>> ((24 : Int32) &&& 31).toUInt32).toInt32) &&& (255 : Int32))), .unset] [])) _
    refine XS.iloadN X2.here hx rfl (hb hby at_79) rfl ?_
    show Steps p.tables e below (T2.setTop (mkF m 80 #[.val (.int p1), .val (.int (own_c p1)), .val (.int (own_U (own_c p1))), .val (.int ((own_U (own_c p1)) &&& (255 : Int32))), .val (.int ((((own_U (own_c p1)).toUInt32 >>> ((8 : Int32) &&& 31).toUInt32).toInt32) &&& (255 : Int32))), .val (.int ((((own_U (own_c p1)).toUInt32 >>> ((16 : Int32) &&& 31).toUInt32).toInt32) &&& (255 : Int32))), .val (.int ((((own_U (own_c p1)).toUInt32 >>> ((24 : Int32) &&& 31).toUInt32).toInt32) &&& (255 : Int32))), .unset] [(.int (own_c p1))])) _
    refine XS.sipush X2.here hx rfl (hb hby at_80) ?_
    show Steps p.tables e below (T2.setTop (mkF m 83 #[.val (.int p1), .val (.int (own_c p1)), .val (.int (own_U (own_c p1))), .val (.int ((own_U (own_c p1)) &&& (255 : Int32))), .val (.int ((((own_U (own_c p1)).toUInt32 >>> ((8 : Int32) &&& 31).toUInt32).toInt32) &&& (255 : Int32))), .val (.int ((((own_U (own_c p1)).toUInt32 >>> ((16 : Int32) &&& 31).toUInt32).toInt32) &&& (255 : Int32))), .val (.int ((((own_U (own_c p1)).toUInt32 >>> ((24 : Int32) &&& 31).toUInt32).toInt32) &&& (255 : Int32))), .unset] [(.int (2048 : Int32)), (.int (own_c p1))])) _
    refine XS.icmpYes X2.here hx rfl (pc0 := 83) (pc' := 150) rfl (hb hby at_83) rfl (flt hc83).2.1 (by decide) (by decide) ?_
    show Steps p.tables e below (T2.setTop (mkF m 150 #[.val (.int p1), .val (.int (own_c p1)), .val (.int (own_U (own_c p1))), .val (.int ((own_U (own_c p1)) &&& (255 : Int32))), .val (.int ((((own_U (own_c p1)).toUInt32 >>> ((8 : Int32) &&& 31).toUInt32).toInt32) &&& (255 : Int32))), .val (.int ((((own_U (own_c p1)).toUInt32 >>> ((16 : Int32) &&& 31).toUInt32).toInt32) &&& (255 : Int32))), .val (.int ((((own_U (own_c p1)).toUInt32 >>> ((24 : Int32) &&& 31).toUInt32).toInt32) &&& (255 : Int32))), .unset] [])) _
    refine XS.iload X2.here hx rfl (hb hby at_150) rfl ?_
    show Steps p.tables e below (T2.setTop (mkF m 152 #[.val (.int p1), .val (.int (own_c p1)), .val (.int (own_U (own_c p1))), .val (.int ((own_U (own_c p1)) &&& (255 : Int32))), .val (.int ((((own_U (own_c p1)).toUInt32 >>> ((8 : Int32) &&& 31).toUInt32).toInt32) &&& (255 : Int32))), .val (.int ((((own_U (own_c p1)).toUInt32 >>> ((16 : Int32) &&& 31).toUInt32).toInt32) &&& (255 : Int32))), .val (.int ((((own_U (own_c p1)).toUInt32 >>> ((24 : Int32) &&& 31).toUInt32).toInt32) &&& (255 : Int32))), .unset] [(.int ((((own_U (own_c p1)).toUInt32 >>> ((24 : Int32) &&& 31).toUInt32).toInt32) &&& (255 : Int32)))])) _
    refine XS.ifYes X2.here hx rfl (pc0 := 152) (pc' := 157) rfl (hb hby at_152) rfl ((if0 _ _).trans (teq ho1).1) (by decide) (by decide) ?_
    show Steps p.tables e below (T2.setTop (mkF m 157 #[.val (.int p1), .val (.int (own_c p1)), .val (.int (own_U (own_c p1))), .val (.int ((own_U (own_c p1)) &&& (255 : Int32))), .val (.int ((((own_U (own_c p1)).toUInt32 >>> ((8 : Int32) &&& 31).toUInt32).toInt32) &&& (255 : Int32))), .val (.int ((((own_U (own_c p1)).toUInt32 >>> ((16 : Int32) &&& 31).toUInt32).toInt32) &&& (255 : Int32))), .val (.int ((((own_U (own_c p1)).toUInt32 >>> ((24 : Int32) &&& 31).toUInt32).toInt32) &&& (255 : Int32))), .unset] [])) _
    refine XS.iloadN X2.here hx rfl (hb hby at_157) rfl ?_
    show Steps p.tables e below (T2.setTop (mkF m 158 #[.val (.int p1), .val (.int (own_c p1)), .val (.int (own_U (own_c p1))), .val (.int ((own_U (own_c p1)) &&& (255 : Int32))), .val (.int ((((own_U (own_c p1)).toUInt32 >>> ((8 : Int32) &&& 31).toUInt32).toInt32) &&& (255 : Int32))), .val (.int ((((own_U (own_c p1)).toUInt32 >>> ((16 : Int32) &&& 31).toUInt32).toInt32) &&& (255 : Int32))), .val (.int ((((own_U (own_c p1)).toUInt32 >>> ((24 : Int32) &&& 31).toUInt32).toInt32) &&& (255 : Int32))), .unset] [(.int ((own_U (own_c p1)) &&& (255 : Int32)))])) _
    refine XS.sipush X2.here hx rfl (hb hby at_158) ?_
    show Steps p.tables e below (T2.setTop (mkF m 161 #[.val (.int p1), .val (.int (own_c p1)), .val (.int (own_U (own_c p1))), .val (.int ((own_U (own_c p1)) &&& (255 : Int32))), .val (.int ((((own_U (own_c p1)).toUInt32 >>> ((8 : Int32) &&& 31).toUInt32).toInt32) &&& (255 : Int32))), .val (.int ((((own_U (own_c p1)).toUInt32 >>> ((16 : Int32) &&& 31).toUInt32).toInt32) &&& (255 : Int32))), .val (.int ((((own_U (own_c p1)).toUInt32 >>> ((24 : Int32) &&& 31).toUInt32).toInt32) &&& (255 : Int32))), .unset] [(.int (240 : Int32)), (.int ((own_U (own_c p1)) &&& (255 : Int32)))])) _
    refine XS.iand X2.here hx rfl (hb hby at_161) rfl ?_
    show Steps p.tables e below (T2.setTop (mkF m 162 #[.val (.int p1), .val (.int (own_c p1)), .val (.int (own_U (own_c p1))), .val (.int ((own_U (own_c p1)) &&& (255 : Int32))), .val (.int ((((own_U (own_c p1)).toUInt32 >>> ((8 : Int32) &&& 31).toUInt32).toInt32) &&& (255 : Int32))), .val (.int ((((own_U (own_c p1)).toUInt32 >>> ((16 : Int32) &&& 31).toUInt32).toInt32) &&& (255 : Int32))), .val (.int ((((own_U (own_c p1)).toUInt32 >>> ((24 : Int32) &&& 31).toUInt32).toInt32) &&& (255 : Int32))), .unset] [(.int (((own_U (own_c p1)) &&& (255 : Int32)) &&& (240 : Int32)))])) _
    refine XS.sipush X2.here hx rfl (hb hby at_162) ?_
    show Steps p.tables e below (T2.setTop (mkF m 165 #[.val (.int p1), .val (.int (own_c p1)), .val (.int (own_U (own_c p1))), .val (.int ((own_U (own_c p1)) &&& (255 : Int32))), .val (.int ((((own_U (own_c p1)).toUInt32 >>> ((8 : Int32) &&& 31).toUInt32).toInt32) &&& (255 : Int32))), .val (.int ((((own_U (own_c p1)).toUInt32 >>> ((16 : Int32) &&& 31).toUInt32).toInt32) &&& (255 : Int32))), .val (.int ((((own_U (own_c p1)).toUInt32 >>> ((24 : Int32) &&& 31).toUInt32).toInt32) &&& (255 : Int32))), .unset] [(.int (224 : Int32)), (.int (((own_U (own_c p1)) &&& (255 : Int32)) &&& (240 : Int32)))])) _
    refine XS.icmpNo X2.here hx rfl (hb hby at_165) rfl (teq ho2).2 ?_
    show Steps p.tables e below (T2.setTop (mkF m 168 #[.val (.int p1), .val (.int (own_c p1)), .val (.int (own_U (own_c p1))), .val (.int ((own_U (own_c p1)) &&& (255 : Int32))), .val (.int ((((own_U (own_c p1)).toUInt32 >>> ((8 : Int32) &&& 31).toUInt32).toInt32) &&& (255 : Int32))), .val (.int ((((own_U (own_c p1)).toUInt32 >>> ((16 : Int32) &&& 31).toUInt32).toInt32) &&& (255 : Int32))), .val (.int ((((own_U (own_c p1)).toUInt32 >>> ((24 : Int32) &&& 31).toUInt32).toInt32) &&& (255 : Int32))), .unset] [])) _
    refine XS.iload X2.here hx rfl (hb hby at_168) rfl ?_
    show Steps p.tables e below (T2.setTop (mkF m 170 #[.val (.int p1), .val (.int (own_c p1)), .val (.int (own_U (own_c p1))), .val (.int ((own_U (own_c p1)) &&& (255 : Int32))), .val (.int ((((own_U (own_c p1)).toUInt32 >>> ((8 : Int32) &&& 31).toUInt32).toInt32) &&& (255 : Int32))), .val (.int ((((own_U (own_c p1)).toUInt32 >>> ((16 : Int32) &&& 31).toUInt32).toInt32) &&& (255 : Int32))), .val (.int ((((own_U (own_c p1)).toUInt32 >>> ((24 : Int32) &&& 31).toUInt32).toInt32) &&& (255 : Int32))), .unset] [(.int ((((own_U (own_c p1)).toUInt32 >>> ((8 : Int32) &&& 31).toUInt32).toInt32) &&& (255 : Int32)))])) _
    refine XS.sipush X2.here hx rfl (hb hby at_170) ?_
    show Steps p.tables e below (T2.setTop (mkF m 173 #[.val (.int p1), .val (.int (own_c p1)), .val (.int (own_U (own_c p1))), .val (.int ((own_U (own_c p1)) &&& (255 : Int32))), .val (.int ((((own_U (own_c p1)).toUInt32 >>> ((8 : Int32) &&& 31).toUInt32).toInt32) &&& (255 : Int32))), .val (.int ((((own_U (own_c p1)).toUInt32 >>> ((16 : Int32) &&& 31).toUInt32).toInt32) &&& (255 : Int32))), .val (.int ((((own_U (own_c p1)).toUInt32 >>> ((24 : Int32) &&& 31).toUInt32).toInt32) &&& (255 : Int32))), .unset] [(.int (192 : Int32)), (.int ((((own_U (own_c p1)).toUInt32 >>> ((8 : Int32) &&& 31).toUInt32).toInt32) &&& (255 : Int32)))])) _
    refine XS.iand X2.here hx rfl (hb hby at_173) rfl ?_
    show Steps p.tables e below (T2.setTop (mkF m 174 #[.val (.int p1), .val (.int (own_c p1)), .val (.int (own_U (own_c p1))), .val (.int ((own_U (own_c p1)) &&& (255 : Int32))), .val (.int ((((own_U (own_c p1)).toUInt32 >>> ((8 : Int32) &&& 31).toUInt32).toInt32) &&& (255 : Int32))), .val (.int ((((own_U (own_c p1)).toUInt32 >>> ((16 : Int32) &&& 31).toUInt32).toInt32) &&& (255 : Int32))), .val (.int ((((own_U (own_c p1)).toUInt32 >>> ((24 : Int32) &&& 31).toUInt32).toInt32) &&& (255 : Int32))), .unset] [(.int (((((own_U (own_c p1)).toUInt32 >>> ((8 : Int32) &&& 31).toUInt32).toInt32) &&& (255 : Int32)) &&& (192 : Int32)))])) _
    refine XS.sipush X2.here hx rfl (hb hby at_174) ?_
    show Steps p.tables e below (T2.setTop (mkF m 177 #[.val (.int p1), .val (.int (own_c p1)), .val (.int (own_U (own_c p1))), .val (.int ((own_U (own_c p1)) &&& (255 : Int32))), .val (.int ((((own_U (own_c p1)).toUInt32 >>> ((8 : Int32) &&& 31).toUInt32).toInt32) &&& (255 : Int32))), .val (.int ((((own_U (own_c p1)).toUInt32 >>> ((16 : Int32) &&& 31).toUInt32).toInt32) &&& (255 : Int32))), .val (.int ((((own_U (own_c p1)).toUInt32 >>> ((24 : Int32) &&& 31).toUInt32).toInt32) &&& (255 : Int32))), .unset] [(.int (128 : Int32)), (.int (((((own_U (own_c p1)).toUInt32 >>> ((8 : Int32) &&& 31).toUInt32).toInt32) &&& (255 : Int32)) &&& (192 : Int32)))])) _
    refine XS.icmpNo X2.here hx rfl (hb hby at_177) rfl (teq ho3).2 ?_
    show Steps p.tables e below (T2.setTop (mkF m 180 #[.val (.int p1), .val (.int (own_c p1)), .val (.int (own_U (own_c p1))), .val (.int ((own_U (own_c p1)) &&& (255 : Int32))), .val (.int ((((own_U (own_c p1)).toUInt32 >>> ((8 : Int32) &&& 31).toUInt32).toInt32) &&& (255 : Int32))), .val (.int ((((own_U (own_c p1)).toUInt32 >>> ((16 : Int32) &&& 31).toUInt32).toInt32) &&& (255 : Int32))), .val (.int ((((own_U (own_c p1)).toUInt32 >>> ((24 : Int32) &&& 31).toUInt32).toInt32) &&& (255 : Int32))), .unset] [])) _
    refine XS.iload X2.here hx rfl (hb hby at_180) rfl ?_
    show Steps p.tables e below (T2.setTop (mkF m 182 #[.val (.int p1), .val (.int (own_c p1)), .val (.int (own_U (own_c p1))), .val (.int ((own_U (own_c p1)) &&& (255 : Int32))), .val (.int ((((own_U (own_c p1)).toUInt32 >>> ((8 : Int32) &&& 31).toUInt32).toInt32) &&& (255 : Int32))), .val (.int ((((own_U (own_c p1)).toUInt32 >>> ((16 : Int32) &&& 31).toUInt32).toInt32) &&& (255 : Int32))), .val (.int ((((own_U (own_c p1)).toUInt32 >>> ((24 : Int32) &&& 31).toUInt32).toInt32) &&& (255 : Int32))), .unset] [(.int ((((own_U (own_c p1)).toUInt32 >>> ((16 : Int32) &&& 31).toUInt32).toInt32) &&& (255 : Int32)))])) _
    refine XS.sipush X2.here hx rfl (hb hby at_182) ?_
    show Steps p.tables e below (T2.setTop (mkF m 185 #[.val (.int p1), .val (.int (own_c p1)), .val (.int (own_U (own_c p1))), .val (.int ((own_U (own_c p1)) &&& (255 : Int32))), .val (.int ((((own_U (own_c p1)).toUInt32 >>> ((8 : Int32) &&& 31).toUInt32).toInt32) &&& (255 : Int32))), .val (.int ((((own_U (own_c p1)).toUInt32 >>> ((16 : Int32) &&& 31).toUInt32).toInt32) &&& (255 : Int32))), .val (.int ((((own_U (own_c p1)).toUInt32 >>> ((24 : Int32) &&& 31).toUInt32).toInt32) &&& (255 : Int32))), .unset] [(.int (192 : Int32)), (.int ((((own_U (own_c p1)).toUInt32 >>> ((16 : Int32) &&& 31).toUInt32).toInt32) &&& (255 : Int32)))])) _
    refine XS.iand X2.here hx rfl (hb hby at_185) rfl ?_
    show Steps p.tables e below (T2.setTop (mkF m 186 #[.val (.int p1), .val (.int (own_c p1)), .val (.int (own_U (own_c p1))), .val (.int ((own_U (own_c p1)) &&& (255 : Int32))), .val (.int ((((own_U (own_c p1)).toUInt32 >>> ((8 : Int32) &&& 31).toUInt32).toInt32) &&& (255 : Int32))), .val (.int ((((own_U (own_c p1)).toUInt32 >>> ((16 : Int32) &&& 31).toUInt32).toInt32) &&& (255 : Int32))), .val (.int ((((own_U (own_c p1)).toUInt32 >>> ((24 : Int32) &&& 31).toUInt32).toInt32) &&& (255 : Int32))), .unset] [(.int (((((own_U (own_c p1)).toUInt32 >>> ((16 : Int32) &&& 31).toUInt32).toInt32) &&& (255 : Int32)) &&& (192 : Int32)))])) _
    refine XS.sipush X2.here hx rfl (hb hby at_186) ?_
    show Steps p.tables e below (T2.setTop (mkF m 189 #[.val (.int p1), .val (.int (own_c p1)), .val (.int (own_U (own_c p1))), .val (.int ((own_U (own_c p1)) &&& (255 : Int32))), .val (.int ((((own_U (own_c p1)).toUInt32 >>> ((8 : Int32) &&& 31).toUInt32).toInt32) &&& (255 : Int32))), .val (.int ((((own_U (own_c p1)).toUInt32 >>> ((16 : Int32) &&& 31).toUInt32).toInt32) &&& (255 : Int32))), .val (.int ((((own_U (own_c p1)).toUInt32 >>> ((24 : Int32) &&& 31).toUInt32).toInt32) &&& (255 : Int32))), .unset] [(.int (128 : Int32)), (.int (((((own_U (own_c p1)).toUInt32 >>> ((16 : Int32) &&& 31).toUInt32).toInt32) &&& (255 : Int32)) &&& (192 : Int32)))])) _
    refine XS.icmpYes X2.here hx rfl (pc0 := 189) (pc' := 194) rfl (hb hby at_189) rfl (teq ho4).1 (by decide) (by decide) ?_
    show Steps p.tables e below (T2.setTop (mkF m 194 #[.val (.int p1), .val (.int (own_c p1)), .val (.int (own_U (own_c p1))), .val (.int ((own_U (own_c p1)) &&& (255 : Int32))), .val (.int ((((own_U (own_c p1)).toUInt32 >>> ((8 : Int32) &&& 31).toUInt32).toInt32) &&& (255 : Int32))), .val (.int ((((own_U (own_c p1)).toUInt32 >>> ((16 : Int32) &&& 31).toUInt32).toInt32) &&& (255 : Int32))), .val (.int ((((own_U (own_c p1)).toUInt32 >>> ((24 : Int32) &&& 31).toUInt32).toInt32) &&& (255 : Int32))), .unset] [])) _
    refine XS.iloadN X2.here hx rfl (hb hby at_194) rfl ?_
    show Steps p.tables e below (T2.setTop (mkF m 195 #[.val (.int p1), .val (.int (own_c p1)), .val (.int (own_U (own_c p1))), .val (.int ((own_U (own_c p1)) &&& (255 : Int32))), .val (.int ((((own_U (own_c p1)).toUInt32 >>> ((8 : Int32) &&& 31).toUInt32).toInt32) &&& (255 : Int32))), .val (.int ((((own_U (own_c p1)).toUInt32 >>> ((16 : Int32) &&& 31).toUInt32).toInt32) &&& (255 : Int32))), .val (.int ((((own_U (own_c p1)).toUInt32 >>> ((24 : Int32) &&& 31).toUInt32).toInt32) &&& (255 : Int32))), .unset] [(.int ((own_U (own_c p1)) &&& (255 : Int32)))])) _
    refine XS.bipush X2.here hx rfl (hb hby at_195) ?_
    show Steps p.tables e below (T2.setTop (mkF m 197 #[.val (.int p1), .val (.int (own_c p1)), .val (.int (own_U (own_c p1))), .val (.int ((own_U (own_c p1)) &&& (255 : Int32))), .val (.int ((((own_U (own_c p1)).toUInt32 >>> ((8 : Int32) &&& 31).toUInt32).toInt32) &&& (255 : Int32))), .val (.int ((((own_U (own_c p1)).toUInt32 >>> ((16 : Int32) &&& 31).toUInt32).toInt32) &&& (255 : Int32))), .val (.int ((((own_U (own_c p1)).toUInt32 >>> ((24 : Int32) &&& 31).toUInt32).toInt32) &&& (255 : Int32))), .unset] [(.int (15 : Int32)), (.int ((own_U (own_c p1)) &&& (255 : Int32)))])) _
    refine XS.iand X2.here hx rfl (hb hby at_197) rfl ?_
    show Steps p.tables e below (T2.setTop (mkF m 198 #[.val (.int p1), .val (.int (own_c p1)), .val (.int (own_U (own_c p1))), .val (.int ((own_U (own_c p1)) &&& (255 : Int32))), .val (.int ((((own_U (own_c p1)).toUInt32 >>> ((8 : Int32) &&& 31).toUInt32).toInt32) &&& (255 : Int32))), .val (.int ((((own_U (own_c p1)).toUInt32 >>> ((16 : Int32) &&& 31).toUInt32).toInt32) &&& (255 : Int32))), .val (.int ((((own_U (own_c p1)).toUInt32 >>> ((24 : Int32) &&& 31).toUInt32).toInt32) &&& (255 : Int32))), .unset] [(.int (((own_U (own_c p1)) &&& (255 : Int32)) &&& (15 : Int32)))])) _
    refine XS.bipush X2.here hx rfl (hb hby at_198) ?_
    show Steps p.tables e below (T2.setTop (mkF m 200 #[.val (.int p1), .val (.int (own_c p1)), .val (.int (own_U (own_c p1))), .val (.int ((own_U (own_c p1)) &&& (255 : Int32))), .val (.int ((((own_U (own_c p1)).toUInt32 >>> ((8 : Int32) &&& 31).toUInt32).toInt32) &&& (255 : Int32))), .val (.int ((((own_U (own_c p1)).toUInt32 >>> ((16 : Int32) &&& 31).toUInt32).toInt32) &&& (255 : Int32))), .val (.int ((((own_U (own_c p1)).toUInt32 >>> ((24 : Int32) &&& 31).toUInt32).toInt32) &&& (255 : Int32))), .unset] [(.int (12 : Int32)), (.int (((own_U (own_c p1)) &&& (255 : Int32)) &&& (15 : Int32)))])) _
    refine XS.ishl X2.here hx rfl (hb hby at_200) rfl ?_
    show Steps p.tables e below (T2.setTop (mkF m 201 #[.val (.int p1), .val (.int (own_c p1)), .val (.int (own_U (own_c p1))), .val (.int ((own_U (own_c p1)) &&& (255 : Int32))), .val (.int ((((own_U (own_c p1)).toUInt32 >>> ((8 : Int32) &&& 31).toUInt32).toInt32) &&& (255 : Int32))), .val (.int ((((own_U (own_c p1)).toUInt32 >>> ((16 : Int32) &&& 31).toUInt32).toInt32) &&& (255 : Int32))), .val (.int ((((own_U (own_c p1)).toUInt32 >>> ((24 : Int32) &&& 31).toUInt32).toInt32) &&& (255 : Int32))), .unset] [(.int ((((own_U (own_c p1)) &&& (255 : Int32)) &&& (15 : Int32)) <<< ((12 : Int32) &&& 31)))])) _
    refine XS.iload X2.here hx rfl (hb hby at_201) rfl ?_
    show Steps p.tables e below (T2.setTop (mkF m 203 #[.val (.int p1), .val (.int (own_c p1)), .val (.int (own_U (own_c p1))), .val (.int ((own_U (own_c p1)) &&& (255 : Int32))), .val (.int ((((own_U (own_c p1)).toUInt32 >>> ((8 : Int32) &&& 31).toUInt32).toInt32) &&& (255 : Int32))), .val (.int ((((own_U (own_c p1)).toUInt32 >>> ((16 : Int32) &&& 31).toUInt32).toInt32) &&& (255 : Int32))), .val (.int ((((own_U (own_c p1)).toUInt32 >>> ((24 : Int32) &&& 31).toUInt32).toInt32) &&& (255 : Int32))), .unset] [(.int ((((own_U (own_c p1)).toUInt32 >>> ((8 : Int32) &&& 31).toUInt32).toInt32) &&& (255 : Int32))), (.int ((((own_U (own_c p1)) &&& (255 : Int32)) &&& (15 : Int32)) <<< ((12 : Int32) &&& 31)))])) _
    refine XS.bipush X2.here hx rfl (hb hby at_203) ?_
    show Steps p.tables e below (T2.setTop (mkF m 205 #[.val (.int p1), .val (.int (own_c p1)), .val (.int (own_U (own_c p1))), .val (.int ((own_U (own_c p1)) &&& (255 : Int32))), .val (.int ((((own_U (own_c p1)).toUInt32 >>> ((8 : Int32) &&& 31).toUInt32).toInt32) &&& (255 : Int32))), .val (.int ((((own_U (own_c p1)).toUInt32 >>> ((16 : Int32) &&& 31).toUInt32).toInt32) &&& (255 : Int32))), .val (.int ((((own_U (own_c p1)).toUInt32 >>> ((24 : Int32) &&& 31).toUInt32).toInt32) &&& (255 : Int32))), .unset] [(.int (63 : Int32)), (.int ((((own_U (own_c p1)).toUInt32 >>> ((8 : Int32) &&& 31).toUInt32).toInt32) &&& (255 : Int32))), (.int ((((own_U (own_c p1)) &&& (255 : Int32)) &&& (15 : Int32)) <<< ((12 : Int32) &&& 31)))])) _
    refine XS.iand X2.here hx rfl (hb hby at_205) rfl ?_
    show Steps p.tables e below (T2.setTop (mkF m 206 #[.val (.int p1), .val (.int (own_c p1)), .val (.int (own_U (own_c p1))), .val (.int ((own_U (own_c p1)) &&& (255 : Int32))), .val (.int ((((own_U (own_c p1)).toUInt32 >>> ((8 : Int32) &&& 31).toUInt32).toInt32) &&& (255 : Int32))), .val (.int ((((own_U (own_c p1)).toUInt32 >>> ((16 : Int32) &&& 31).toUInt32).toInt32) &&& (255 : Int32))), .val (.int ((((own_U (own_c p1)).toUInt32 >>> ((24 : Int32) &&& 31).toUInt32).toInt32) &&& (255 : Int32))), .unset] [(.int (((((own_U (own_c p1)).toUInt32 >>> ((8 : Int32) &&& 31).toUInt32).toInt32) &&& (255 : Int32)) &&& (63 : Int32))), (.int ((((own_U (own_c p1)) &&& (255 : Int32)) &&& (15 : Int32)) <<< ((12 : Int32) &&& 31)))])) _
    refine XS.bipush X2.here hx rfl (hb hby at_206) ?_
    show Steps p.tables e below (T2.setTop (mkF m 208 #[.val (.int p1), .val (.int (own_c p1)), .val (.int (own_U (own_c p1))), .val (.int ((own_U (own_c p1)) &&& (255 : Int32))), .val (.int ((((own_U (own_c p1)).toUInt32 >>> ((8 : Int32) &&& 31).toUInt32).toInt32) &&& (255 : Int32))), .val (.int ((((own_U (own_c p1)).toUInt32 >>> ((16 : Int32) &&& 31).toUInt32).toInt32) &&& (255 : Int32))), .val (.int ((((own_U (own_c p1)).toUInt32 >>> ((24 : Int32) &&& 31).toUInt32).toInt32) &&& (255 : Int32))), .unset] [(.int (6 : Int32)), (.int (((((own_U (own_c p1)).toUInt32 >>> ((8 : Int32) &&& 31).toUInt32).toInt32) &&& (255 : Int32)) &&& (63 : Int32))), (.int ((((own_U (own_c p1)) &&& (255 : Int32)) &&& (15 : Int32)) <<< ((12 : Int32) &&& 31)))])) _
    refine XS.ishl X2.here hx rfl (hb hby at_208) rfl ?_
    show Steps p.tables e below (T2.setTop (mkF m 209 #[.val (.int p1), .val (.int (own_c p1)), .val (.int (own_U (own_c p1))), .val (.int ((own_U (own_c p1)) &&& (255 : Int32))), .val (.int ((((own_U (own_c p1)).toUInt32 >>> ((8 : Int32) &&& 31).toUInt32).toInt32) &&& (255 : Int32))), .val (.int ((((own_U (own_c p1)).toUInt32 >>> ((16 : Int32) &&& 31).toUInt32).toInt32) &&& (255 : Int32))), .val (.int ((((own_U (own_c p1)).toUInt32 >>> ((24 : Int32) &&& 31).toUInt32).toInt32) &&& (255 : Int32))), .unset] [(.int ((((((own_U (own_c p1)).toUInt32 >>> ((8 : Int32) &&& 31).toUInt32).toInt32) &&& (255 : Int32)) &&& (63 : Int32)) <<< ((6 : Int32) &&& 31))), (.int ((((own_U (own_c p1)) &&& (255 : Int32)) &&& (15 : Int32)) <<< ((12 : Int32) &&& 31)))])) _
    refine XS.ior X2.here hx rfl (hb hby at_209) rfl ?_
    show Steps p.tables e below (T2.setTop (mkF m 210 #[.val (.int p1), .val (.int (own_c p1)), .val (.int (own_U (own_c p1))), .val (.int ((own_U (own_c p1)) &&& (255 : Int32))), .val (.int ((((own_U (own_c p1)).toUInt32 >>> ((8 : Int32) &&& 31).toUInt32).toInt32) &&& (255 : Int32))), .val (.int ((((own_U (own_c p1)).toUInt32 >>> ((16 : Int32) &&& 31).toUInt32).toInt32) &&& (255 : Int32))), .val (.int ((((own_U (own_c p1)).toUInt32 >>> ((24 : Int32) &&& 31).toUInt32).toInt32) &&& (255 : Int32))), .unset] [(.int (((((own_U (own_c p1)) &&& (255 : Int32)) &&& (15 : Int32)) <<< ((12 : Int32) &&& 31)) ||| ((((((own_U (own_c p1)).toUInt32 >>> ((8 : Int32) &&& 31).toUInt32).toInt32) &&& (255 : Int32)) &&& (63 : Int32)) <<< ((6 : Int32) &&& 31))))])) _
    refine XS.iload X2.here hx rfl (hb hby at_210) rfl ?_
    show Steps p.tables e below (T2.setTop (mkF m 212 #[.val (.int p1), .val (.int (own_c p1)), .val (.int (own_U (own_c p1))), .val (.int ((own_U (own_c p1)) &&& (255 : Int32))), .val (.int ((((own_U (own_c p1)).toUInt32 >>> ((8 : Int32) &&& 31).toUInt32).toInt32) &&& (255 : Int32))), .val (.int ((((own_U (own_c p1)).toUInt32 >>> ((16 : Int32) &&& 31).toUInt32).toInt32) &&& (255 : Int32))), .val (.int ((((own_U (own_c p1)).toUInt32 >>> ((24 : Int32) &&& 31).toUInt32).toInt32) &&& (255 : Int32))), .unset] [(.int ((((own_U (own_c p1)).toUInt32 >>> ((16 : Int32) &&& 31).toUInt32).toInt32) &&& (255 : Int32))), (.int (((((own_U (own_c p1)) &&& (255 : Int32)) &&& (15 : Int32)) <<< ((12 : Int32) &&& 31)) ||| ((((((own_U (own_c p1)).toUInt32 >>> ((8 : Int32) &&& 31).toUInt32).toInt32) &&& (255 : Int32)) &&& (63 : Int32)) <<< ((6 : Int32) &&& 31))))])) _
    refine XS.bipush X2.here hx rfl (hb hby at_212) ?_
    show Steps p.tables e below (T2.setTop (mkF m 214 #[.val (.int p1), .val (.int (own_c p1)), .val (.int (own_U (own_c p1))), .val (.int ((own_U (own_c p1)) &&& (255 : Int32))), .val (.int ((((own_U (own_c p1)).toUInt32 >>> ((8 : Int32) &&& 31).toUInt32).toInt32) &&& (255 : Int32))), .val (.int ((((own_U (own_c p1)).toUInt32 >>> ((16 : Int32) &&& 31).toUInt32).toInt32) &&& (255 : Int32))), .val (.int ((((own_U (own_c p1)).toUInt32 >>> ((24 : Int32) &&& 31).toUInt32).toInt32) &&& (255 : Int32))), .unset] [(.int (63 : Int32)), (.int ((((own_U (own_c p1)).toUInt32 >>> ((16 : Int32) &&& 31).toUInt32).toInt32) &&& (255 : Int32))), (.int (((((own_U (own_c p1)) &&& (255 : Int32)) &&& (15 : Int32)) <<< ((12 : Int32) &&& 31)) ||| ((((((own_U (own_c p1)).toUInt32 >>> ((8 : Int32) &&& 31).toUInt32).toInt32) &&& (255 : Int32)) &&& (63 : Int32)) <<< ((6 : Int32) &&& 31))))])) _
    refine XS.iand X2.here hx rfl (hb hby at_214) rfl ?_
    show Steps p.tables e below (T2.setTop (mkF m 215 #[.val (.int p1), .val (.int (own_c p1)), .val (.int (own_U (own_c p1))), .val (.int ((own_U (own_c p1)) &&& (255 : Int32))), .val (.int ((((own_U (own_c p1)).toUInt32 >>> ((8 : Int32) &&& 31).toUInt32).toInt32) &&& (255 : Int32))), .val (.int ((((own_U (own_c p1)).toUInt32 >>> ((16 : Int32) &&& 31).toUInt32).toInt32) &&& (255 : Int32))), .val (.int ((((own_U (own_c p1)).toUInt32 >>> ((24 : Int32) &&& 31).toUInt32).toInt32) &&& (255 : Int32))), .unset] [(.int (((((own_U (own_c p1)).toUInt32 >>> ((16 : Int32) &&& 31).toUInt32).toInt32) &&& (255 : Int32)) &&& (63 : Int32))), (.int (((((own_U (own_c p1)) &&& (255 : Int32)) &&& (15 : Int32)) <<< ((12 : Int32) &&& 31)) ||| ((((((own_U (own_c p1)).toUInt32 >>> ((8 : Int32) &&& 31).toUInt32).toInt32) &&& (255 : Int32)) &&& (63 : Int32)) <<< ((6 : Int32) &&& 31))))])) _
    refine XS.ior X2.here hx rfl (hb hby at_215) rfl ?_
    show Steps p.tables e below (T2.setTop (mkF m 216 #[.val (.int p1), .val (.int (own_c p1)), .val (.int (own_U (own_c p1))), .val (.int ((own_U (own_c p1)) &&& (255 : Int32))), .val (.int ((((own_U (own_c p1)).toUInt32 >>> ((8 : Int32) &&& 31).toUInt32).toInt32) &&& (255 : Int32))), .val (.int ((((own_U (own_c p1)).toUInt32 >>> ((16 : Int32) &&& 31).toUInt32).toInt32) &&& (255 : Int32))), .val (.int ((((own_U (own_c p1)).toUInt32 >>> ((24 : Int32) &&& 31).toUInt32).toInt32) &&& (255 : Int32))), .unset] [(.int ((((((own_U (own_c p1)) &&& (255 : Int32)) &&& (15 : Int32)) <<< ((12 : Int32) &&& 31)) ||| ((((((own_U (own_c p1)).toUInt32 >>> ((8 : Int32) &&& 31).toUInt32).toInt32) &&& (255 : Int32)) &&& (63 : Int32)) <<< ((6 : Int32) &&& 31))) ||| (((((own_U (own_c p1)).toUInt32 >>> ((16 : Int32) &&& 31).toUInt32).toInt32) &&& (255 : Int32)) &&& (63 : Int32))))])) _
    refine XS.istore X2.here hx rfl (hb hby at_216) rfl (l' := #[.val (.int p1), .val (.int (own_c p1)), .val (.int (own_U (own_c p1))), .val (.int ((own_U (own_c p1)) &&& (255 : Int32))), .val (.int ((((own_U (own_c p1)).toUInt32 >>> ((8 : Int32) &&& 31).toUInt32).toInt32) &&& (255 : Int32))), .val (.int ((((own_U (own_c p1)).toUInt32 >>> ((16 : Int32) &&& 31).toUInt32).toInt32) &&& (255 : Int32))), .val (.int ((((own_U (own_c p1)).toUInt32 >>> ((24 : Int32) &&& 31).toUInt32).toInt32) &&& (255 : Int32))), .val (.int ((((((own_U (own_c p1)) &&& (255 : Int32)) &&& (15 : Int32)) <<< ((12 : Int32) &&& 31)) ||| ((((((own_U (own_c p1)).toUInt32 >>> ((8 : Int32) &&& 31).toUInt32).toInt32) &&& (255 : Int32)) &&& (63 : Int32)) <<< ((6 : Int32) &&& 31))) ||| (((((own_U (own_c p1)).toUInt32 >>> ((16 : Int32) &&& 31).toUInt32).toInt32) &&& (255 : Int32)) &&& (63 : Int32))))]) rfl ?_
    show Steps p.tables e below (T2.setTop (mkF m 218 #[.val (.int p1), .val (.int (own_c p1)), .val (.int (own_U (own_c p1))), .val (.int ((own_U (own_c p1)) &&& (255 : Int32))), .val (.int ((((own_U (own_c p1)).toUInt32 >>> ((8 : Int32) &&& 31).toUInt32).toInt32) &&& (255 : Int32))), .val (.int ((((own_U (own_c p1)).toUInt32 >>> ((16 : Int32) &&& 31).toUInt32).toInt32) &&& (255 : Int32))), .val (.int ((((own_U (own_c p1)).toUInt32 >>> ((24 : Int32) &&& 31).toUInt32).toInt32) &&& (255 : Int32))), .val (.int ((((((own_U (own_c p1)) &&& (255 : Int32)) &&& (15 : Int32)) <<< ((12 : Int32) &&& 31)) ||| ((((((own_U (own_c p1)).toUInt32 >>> ((8 : Int32) &&& 31).toUInt32).toInt32) &&& (255 : Int32)) &&& (63 : Int32)) <<< ((6 : Int32) &&& 31))) ||| (((((own_U (own_c p1)).toUInt32 >>> ((16 : Int32) &&& 31).toUInt32).toInt32) &&& (255 : Int32)) &&& (63 : Int32))))] [])) _
    refine XS.iload X2.here hx rfl (hb hby at_218) rfl ?_
    show Steps p.tables e below (T2.setTop (mkF m 220 #[.val (.int p1), .val (.int (own_c p1)), .val (.int (own_U (own_c p1))), .val (.int ((own_U (own_c p1)) &&& (255 : Int32))), .val (.int ((((own_U (own_c p1)).toUInt32 >>> ((8 : Int32) &&& 31).toUInt32).toInt32) &&& (255 : Int32))), .val (.int ((((own_U (own_c p1)).toUInt32 >>> ((16 : Int32) &&& 31).toUInt32).toInt32) &&& (255 : Int32))), .val (.int ((((own_U (own_c p1)).toUInt32 >>> ((24 : Int32) &&& 31).toUInt32).toInt32) &&& (255 : Int32))), .val (.int ((((((own_U (own_c p1)) &&& (255 : Int32)) &&& (15 : Int32)) <<< ((12 : Int32) &&& 31)) ||| ((((((own_U (own_c p1)).toUInt32 >>> ((8 : Int32) &&& 31).toUInt32).toInt32) &&& (255 : Int32)) &&& (63 : Int32)) <<< ((6 : Int32) &&& 31))) ||| (((((own_U (own_c p1)).toUInt32 >>> ((16 : Int32) &&& 31).toUInt32).toInt32) &&& (255 : Int32)) &&& (63 : Int32))))] [(.int ((((((own_U (own_c p1)) &&& (255 : Int32)) &&& (15 : Int32)) <<< ((12 : Int32) &&& 31)) ||| ((((((own_U (own_c p1)).toUInt32 >>> ((8 : Int32) &&& 31).toUInt32).toInt32) &&& (255 : Int32)) &&& (63 : Int32)) <<< ((6 : Int32) &&& 31))) ||| (((((own_U (own_c p1)).toUInt32 >>> ((16 : Int32) &&& 31).toUInt32).toInt32) &&& (255 : Int32)) &&& (63 : Int32))))])) _
    refine XS.iloadN X2.here hx rfl (hb hby at_220) rfl ?_
    show Steps p.tables e below (T2.setTop (mkF m 221 #[.val (.int p1), .val (.int (own_c p1)), .val (.int (own_U (own_c p1))), .val (.int ((own_U (own_c p1)) &&& (255 : Int32))), .val (.int ((((own_U (own_c p1)).toUInt32 >>> ((8 : Int32) &&& 31).toUInt32).toInt32) &&& (255 : Int32))), .val (.int ((((own_U (own_c p1)).toUInt32 >>> ((16 : Int32) &&& 31).toUInt32).toInt32) &&& (255 : Int32))), .val (.int ((((own_U (own_c p1)).toUInt32 >>> ((24 : Int32) &&& 31).toUInt32).toInt32) &&& (255 : Int32))), .val (.int ((((((own_U (own_c p1)) &&& (255 : Int32)) &&& (15 : Int32)) <<< ((12 : Int32) &&& 31)) ||| ((((((own_U (own_c p1)).toUInt32 >>> ((8 : Int32) &&& 31).toUInt32).toInt32) &&& (255 : Int32)) &&& (63 : Int32)) <<< ((6 : Int32) &&& 31))) ||| (((((own_U (own_c p1)).toUInt32 >>> ((16 : Int32) &&& 31).toUInt32).toInt32) &&& (255 : Int32)) &&& (63 : Int32))))] [(.int (own_c p1)), (.int ((((((own_U (own_c p1)) &&& (255 : Int32)) &&& (15 : Int32)) <<< ((12 : Int32) &&& 31)) ||| ((((((own_U (own_c p1)).toUInt32 >>> ((8 : Int32) &&& 31).toUInt32).toInt32) &&& (255 : Int32)) &&& (63 : Int32)) <<< ((6 : Int32) &&& 31))) ||| (((((own_U (own_c p1)).toUInt32 >>> ((16 : Int32) &&& 31).toUInt32).toInt32) &&& (255 : Int32)) &&& (63 : Int32))))])) _
    refine XS.icmpNo X2.here hx rfl (hb hby at_221) rfl (teq ho5).2 ?_
    show Steps p.tables e below (T2.setTop (mkF m 224 #[.val (.int p1), .val (.int (own_c p1)), .val (.int (own_U (own_c p1))), .val (.int ((own_U (own_c p1)) &&& (255 : Int32))), .val (.int ((((own_U (own_c p1)).toUInt32 >>> ((8 : Int32) &&& 31).toUInt32).toInt32) &&& (255 : Int32))), .val (.int ((((own_U (own_c p1)).toUInt32 >>> ((16 : Int32) &&& 31).toUInt32).toInt32) &&& (255 : Int32))), .val (.int ((((own_U (own_c p1)).toUInt32 >>> ((24 : Int32) &&& 31).toUInt32).toInt32) &&& (255 : Int32))), .val (.int ((((((own_U (own_c p1)) &&& (255 : Int32)) &&& (15 : Int32)) <<< ((12 : Int32) &&& 31)) ||| ((((((own_U (own_c p1)).toUInt32 >>> ((8 : Int32) &&& 31).toUInt32).toInt32) &&& (255 : Int32)) &&& (63 : Int32)) <<< ((6 : Int32) &&& 31))) ||| (((((own_U (own_c p1)).toUInt32 >>> ((16 : Int32) &&& 31).toUInt32).toInt32) &&& (255 : Int32)) &&& (63 : Int32))))] [])) _
    refine XS.iconst X2.here hx rfl (hb hby at_224) ?_
    show Steps p.tables e below (T2.setTop (mkF m 225 #[.val (.int p1), .val (.int (own_c p1)), .val (.int (own_U (own_c p1))), .val (.int ((own_U (own_c p1)) &&& (255 : Int32))), .val (.int ((((own_U (own_c p1)).toUInt32 >>> ((8 : Int32) &&& 31).toUInt32).toInt32) &&& (255 : Int32))), .val (.int ((((own_U (own_c p1)).toUInt32 >>> ((16 : Int32) &&& 31).toUInt32).toInt32) &&& (255 : Int32))), .val (.int ((((own_U (own_c p1)).toUInt32 >>> ((24 : Int32) &&& 31).toUInt32).toInt32) &&& (255 : Int32))), .val (.int ((((((own_U (own_c p1)) &&& (255 : Int32)) &&& (15 : Int32)) <<< ((12 : Int32) &&& 31)) ||| ((((((own_U (own_c p1)).toUInt32 >>> ((8 : Int32) &&& 31).toUInt32).toInt32) &&& (255 : Int32)) &&& (63 : Int32)) <<< ((6 : Int32) &&& 31))) ||| (((((own_U (own_c p1)).toUInt32 >>> ((16 : Int32) &&& 31).toUInt32).toInt32) &&& (255 : Int32)) &&& (63 : Int32))))] [(.int (1 : Int32))])) _
    refine XS.goto X2.here hx rfl (pc0 := 225) (pc' := 229) rfl (hb hby at_225) (by decide) (by decide) ?_
    show Steps p.tables e below (T2.setTop (mkF m 229 #[.val (.int p1), .val (.int (own_c p1)), .val (.int (own_U (own_c p1))), .val (.int ((own_U (own_c p1)) &&& (255 : Int32))), .val (.int ((((own_U (own_c p1)).toUInt32 >>> ((8 : Int32) &&& 31).toUInt32).toInt32) &&& (255 : Int32))), .val (.int ((((own_U (own_c p1)).toUInt32 >>> ((16 : Int32) &&& 31).toUInt32).toInt32) &&& (255 : Int32))), .val (.int ((((own_U (own_c p1)).toUInt32 >>> ((24 : Int32) &&& 31).toUInt32).toInt32) &&& (255 : Int32))), .val (.int ((((((own_U (own_c p1)) &&& (255 : Int32)) &&& (15 : Int32)) <<< ((12 : Int32) &&& 31)) ||| ((((((own_U (own_c p1)).toUInt32 >>> ((8 : Int32) &&& 31).toUInt32).toInt32) &&& (255 : Int32)) &&& (63 : Int32)) <<< ((6 : Int32) &&& 31))) ||| (((((own_U (own_c p1)).toUInt32 >>> ((16 : Int32) &&& 31).toUInt32).toInt32) &&& (255 : Int32)) &&& (63 : Int32))))] [(.int (1 : Int32))])) _
    exact retN X2 hx (t := .boolean) Bd.returns (by simp) (hb hby at_229) hr
  · show Q0 Z p1 h0 n0 _ T2.heap _
    exact ⟨rfl, N2⟩
set_option maxRecDepth 65536 in
set_option maxHeartbeats 40000000 in
theorem own_rm0_fttttfftf (l : Launch) (Z : State) (a0 : Array Value) (hw : ∀ d ∈ tables_1, d.before a0 Z = true) (ws : List Jvm.Cond) (p1 : Int32) (h0 : Heap) (n0 : Nat) (Z0 : n0 ≤ h0.size) (ho1 : ((((own_U (own_c p1)).toUInt32 >>> ((24 : Int32) &&& 31).toUInt32).toInt32) &&& (255 : Int32)) = (0 : Int32)) (ho2 : (((own_U (own_c p1)) &&& (255 : Int32)) &&& (240 : Int32)) = (224 : Int32)) (ho3 : (((((own_U (own_c p1)).toUInt32 >>> ((8 : Int32) &&& 31).toUInt32).toInt32) &&& (255 : Int32)) &&& (192 : Int32)) = (128 : Int32)) (ho4 : (((((own_U (own_c p1)).toUInt32 >>> ((16 : Int32) &&& 31).toUInt32).toInt32) &&& (255 : Int32)) &&& (192 : Int32)) = (128 : Int32)) (ho5 : ((((((own_U (own_c p1)) &&& (255 : Int32)) &&& (15 : Int32)) <<< ((12 : Int32) &&& 31)) ||| ((((((own_U (own_c p1)).toUInt32 >>> ((8 : Int32) &&& 31).toUInt32).toInt32) &&& (255 : Int32)) &&& (63 : Int32)) <<< ((6 : Int32) &&& 31))) ||| (((((own_U (own_c p1)).toUInt32 >>> ((16 : Int32) &&& 31).toUInt32).toInt32) &&& (255 : Int32)) &&& (63 : Int32))) = (own_c p1)) (hc9 : ¬ ((own_c p1) < (55296 : Int32))) (hc15 : (57343 : Int32) < (own_c p1)) (hc65 : ¬ ((own_c p1) < (128 : Int32))) (hc83 : ¬ ((own_c p1) < (2048 : Int32))) :
    MetFree l x (head1 (Jvm.Cond.code x code maxLocals ret :: ws) room_1) (fun a U => a = #[(.int p1)] ∧ Z.Warmed39 U.vm ∧ U.heap = h0) (fun _ _ _ _ _ => True) (fun _ U o U' => ∃ v L, o = .returned v ∧ Q0 Z p1 h0 n0 v U'.heap L ∧ FrameEnd U o U' L room_1.cells room_1.slots) := by
  refine MetFree.of_bodySF (plainFor_of_name pn_0) hisR ?_
  intro p e s m args below meth c s₁ Bd hml0 hP hK
  obtain ⟨rfl, hZ, hh⟩ := hP
  have hx := Bd.exec
  have hby := Bd.bytes
  have hml : c.maxLocals = 8 := hml0
  have hown : s.vm.findClass "com/example/taster/taster/io/TranslationUtf8PinLaw" = some m.cls := findClass_of_methodNamed Bd.named
  have hnm := (name_of_methodNamed Bd.named Bd.method).1
  have X0 : Stand p l e room_1 s m #[(.int p1)] below meth c s₁ [] 0 0 := Stand.of_body Bd
  have e0 : s₁.heap = h0 := by rw [← hh, Bd.state]; rfl
  have N0 := Fr.nil n0
  have pre0 : ∀ t, Steps p.tables e below (s₁.setTop (mkF m 0 #[.val (.int p1), .unset, .unset, .unset, .unset, .unset, .unset, .unset] [])) t → Steps p.tables e below (s₁.setTop (entryFrame m #[(.int p1)] maxLocals)) t := fun t k => castTop (ef_0 m p1) k
  obtain ⟨_, _, ⟨T2, L2, k2, n2⟩, -, X2, ⟨Lc2, hQ2, l2, y2, z2⟩, st2⟩ := Jvm.LawKit.callS X0 hx (y := (⟨"com/example/taster/taster/io/Translation", "utf8", "(C)I"⟩ : MethodName)) hown (mvT hZ (hw _ (List.mem_of_getElem? (i := 2) rfl))) (mvT hZ (hw _ (List.mem_of_getElem? (i := 3) rfl))) (mvT hZ (hw _ (List.mem_of_getElem? (i := 4) rfl))) (mvT hZ (hw _ (List.mem_of_getElem? (i := 5) rfl))) (by decide) (backOf (W := 0) (rm1 l Z a0 hw [] (own_c p1) h0 n0 Z0) hZ (hw _ (List.mem_of_getElem? (i := 5) rfl)) (hw _ (List.mem_of_getElem? (i := 4) rfl)) (by decide) (by decide)) (g := (mkF m 21 #[.val (.int p1), .val (.int (own_c p1)), .unset, .unset, .unset, .unset, .unset, .unset] [(.int (own_c p1))])) rfl (by rw [hml]; rfl) (argsL := [(.int (own_c p1))]) (rest := []) (lenOf pd_0_0 rfl) rfl (by show 2 * 0 + _ ≤ _; exact Nat.le_of_eq rfl) (hb hby at_21) (fun _ _ => ⟨rfl, e0, (by decide : 0 + 0 ≤ _), (by decide : 0 + 0 ≤ _)⟩)
  dsimp only [Pt.U, Pt.locs, Pt.cells, Pt.slots] at X2 l2 y2 z2 st2 hQ2
  subst l2 y2 z2
  obtain ⟨rfl, N2q, e2⟩ := hQ2
  have N2 := Fr.app N0 N2q
  obtain ⟨fs, hr, hrun, hended, hW, hsame⟩ := X2.leave (v := some (.int (1 : Int32))) (fun h => by rw [Bd.returns] at h; cases h)
  refine ⟨_, _, pre0 _ ?_, hrun, hended, _, _, rfl, ?_, ⟨_, rfl⟩, hW, hsame.mono (by decide) (by decide)⟩
  · show Steps p.tables e below (s₁.setTop (mkF m 0 #[.val (.int p1), .unset, .unset, .unset, .unset, .unset, .unset, .unset] [])) _
    refine XS.iloadN X0.here hx rfl (hb hby at_0) rfl ?_
    show Steps p.tables e below (s₁.setTop (mkF m 1 #[.val (.int p1), .unset, .unset, .unset, .unset, .unset, .unset, .unset] [(.int p1)])) _
    refine X0.ldcInt hx hown (mvT hZ (hw _ (List.mem_of_getElem? (i := 0) rfl))) (g := (mkF m 1 #[.val (.int p1), .unset, .unset, .unset, .unset, .unset, .unset, .unset] [(.int p1)])) rfl (hb hby at_1) _ ?_
    show Steps p.tables e below (s₁.setTop (mkF m 3 #[.val (.int p1), .unset, .unset, .unset, .unset, .unset, .unset, .unset] [(.int (65535 : Int32)), (.int p1)])) _
    refine XS.iand X0.here hx rfl (hb hby at_3) rfl ?_
    show Steps p.tables e below (s₁.setTop (mkF m 4 #[.val (.int p1), .unset, .unset, .unset, .unset, .unset, .unset, .unset] [(.int (p1 &&& (65535 : Int32)))])) _
    refine XS.i2c X0.here hx rfl (hb hby at_4) rfl ?_
    show Steps p.tables e below (s₁.setTop (mkF m 5 #[.val (.int p1), .unset, .unset, .unset, .unset, .unset, .unset, .unset] [(.int (own_c p1))])) _
    refine XS.istoreN X0.here hx rfl (hb hby at_5) rfl (l' := #[.val (.int p1), .val (.int (own_c p1)), .unset, .unset, .unset, .unset, .unset, .unset]) rfl ?_
    show Steps p.tables e below (s₁.setTop (mkF m 6 #[.val (.int p1), .val (.int (own_c p1)), .unset, .unset, .unset, .unset, .unset, .unset] [])) _
    refine XS.iloadN X0.here hx rfl (hb hby at_6) rfl ?_
    show Steps p.tables e below (s₁.setTop (mkF m 7 #[.val (.int p1), .val (.int (own_c p1)), .unset, .unset, .unset, .unset, .unset, .unset] [(.int (own_c p1))])) _
    refine X0.ldcInt hx hown (mvT hZ (hw _ (List.mem_of_getElem? (i := 1) rfl))) (g := (mkF m 7 #[.val (.int p1), .val (.int (own_c p1)), .unset, .unset, .unset, .unset, .unset, .unset] [(.int (own_c p1))])) rfl (hb hby at_7) _ ?_
    show Steps p.tables e below (s₁.setTop (mkF m 9 #[.val (.int p1), .val (.int (own_c p1)), .unset, .unset, .unset, .unset, .unset, .unset] [(.int (55296 : Int32)), (.int (own_c p1))])) _
    refine XS.icmpNo X0.here hx rfl (hb hby at_9) rfl (flt hc9).1 ?_
    show Steps p.tables e below (s₁.setTop (mkF m 12 #[.val (.int p1), .val (.int (own_c p1)), .unset, .unset, .unset, .unset, .unset, .unset] [])) _
    refine XS.iloadN X0.here hx rfl (hb hby at_12) rfl ?_
    show Steps p.tables e below (s₁.setTop (mkF m 13 #[.val (.int p1), .val (.int (own_c p1)), .unset, .unset, .unset, .unset, .unset, .unset] [(.int (own_c p1))])) _
    refine X0.ldcInt hx hown (mvT hZ (hw _ (List.mem_of_getElem? (i := 7) rfl))) (g := (mkF m 13 #[.val (.int p1), .val (.int (own_c p1)), .unset, .unset, .unset, .unset, .unset, .unset] [(.int (own_c p1))])) rfl (hb hby at_13) _ ?_
    show Steps p.tables e below (s₁.setTop (mkF m 15 #[.val (.int p1), .val (.int (own_c p1)), .unset, .unset, .unset, .unset, .unset, .unset] [(.int (57343 : Int32)), (.int (own_c p1))])) _
    refine XS.icmpYes X0.here hx rfl (pc0 := 15) (pc' := 20) rfl (hb hby at_15) rfl (tlt hc15).2.2.1 (by decide) (by decide) ?_
    show Steps p.tables e below (s₁.setTop (mkF m 20 #[.val (.int p1), .val (.int (own_c p1)), .unset, .unset, .unset, .unset, .unset, .unset] [])) _
    refine XS.iloadN X0.here hx rfl (hb hby at_20) rfl ?_
    show Steps p.tables e below (s₁.setTop (mkF m 21 #[.val (.int p1), .val (.int (own_c p1)), .unset, .unset, .unset, .unset, .unset, .unset] [(.int (own_c p1))])) _
    refine st2 _ ?_
    show Steps p.tables e below (T2.setTop (mkF m 24 #[.val (.int p1), .val (.int (own_c p1)), .unset, .unset, .unset, .unset, .unset, .unset] [(.int (own_U (own_c p1)))])) _
    refine XS.istoreN X2.here hx rfl (hb hby at_24) rfl (l' := #[.val (.int p1), .val (.int (own_c p1)), .val (.int (own_U (own_c p1))), .unset, .unset, .unset, .unset, .unset]) rfl ?_
    show Steps p.tables e below (T2.setTop (mkF m 25 #[.val (.int p1), .val (.int (own_c p1)), .val (.int (own_U (own_c p1))), .unset, .unset, .unset, .unset, .unset] [])) _
    refine XS.iloadN X2.here hx rfl (hb hby at_25) rfl ?_
    show Steps p.tables e below (T2.setTop (mkF m 26 #[.val (.int p1), .val (.int (own_c p1)), .val (.int (own_U (own_c p1))), .unset, .unset, .unset, .unset, .unset] [(.int (own_U (own_c p1)))])) _
    refine XS.sipush X2.here hx rfl (hb hby at_26) ?_
    show Steps p.tables e below (T2.setTop (mkF m 29 #[.val (.int p1), .val (.int (own_c p1)), .val (.int (own_U (own_c p1))), .unset, .unset, .unset, .unset, .unset] [(.int (255 : Int32)), (.int (own_U (own_c p1)))])) _
    refine XS.iand X2.here hx rfl (hb hby at_29) rfl ?_
    show Steps p.tables e below (T2.setTop (mkF m 30 #[.val (.int p1), .val (.int (own_c p1)), .val (.int (own_U (own_c p1))), .unset, .unset, .unset, .unset, .unset] [(.int ((own_U (own_c p1)) &&& (255 : Int32)))])) _
    refine XS.istoreN X2.here hx rfl (hb hby at_30) rfl (l' := #[.val (.int p1), .val (.int (own_c p1)), .val (.int (own_U (own_c p1))), .val (.int ((own_U (own_c p1)) &&& (255 : Int32))), .unset, .unset, .unset, .unset]) rfl ?_
    show Steps p.tables e below (T2.setTop (mkF m 31 #[.val (.int p1), .val (.int (own_c p1)), .val (.int (own_U (own_c p1))), .val (.int ((own_U (own_c p1)) &&& (255 : Int32))), .unset, .unset, .unset, .unset] [])) _
    refine XS.iloadN X2.here hx rfl (hb hby at_31) rfl ?_
    show Steps p.tables e below (T2.setTop (mkF m 32 #[.val (.int p1), .val (.int (own_c p1)), .val (.int (own_U (own_c p1))), .val (.int ((own_U (own_c p1)) &&& (255 : Int32))), .unset, .unset, .unset, .unset] [(.int (own_U (own_c p1)))])) _
    refine XS.bipush X2.here hx rfl (hb hby at_32) ?_
    show Steps p.tables e below (T2.setTop (mkF m 34 #[.val (.int p1), .val (.int (own_c p1)), .val (.int (own_U (own_c p1))), .val (.int ((own_U (own_c p1)) &&& (255 : Int32))), .unset, .unset, .unset, .unset] [(.int (8 : Int32)), (.int (own_U (own_c p1)))])) _
    refine XS.iushr X2.here hx rfl (hb hby at_34) rfl ?_
    show Steps p.tables e below (T2.setTop (mkF m 35 #[.val (.int p1), .val (.int (own_c p1)), .val (.int (own_U (own_c p1))), .val (.int ((own_U (own_c p1)) &&& (255 : Int32))), .unset, .unset, .unset, .unset] [(.int (((own_U (own_c p1)).toUInt32 >>> ((8 : Int32) &&& 31).toUInt32).toInt32))])) _
    refine XS.sipush X2.here hx rfl (hb hby at_35) ?_
    show Steps p.tables e below (T2.setTop (mkF m 38 #[.val (.int p1), .val (.int (own_c p1)), .val (.int (own_U (own_c p1))), .val (.int ((own_U (own_c p1)) &&& (255 : Int32))), .unset, .unset, .unset, .unset] [(.int (255 : Int32)), (.int (((own_U (own_c p1)).toUInt32 >>> ((8 : Int32) &&& 31).toUInt32).toInt32))])) _
    refine XS.iand X2.here hx rfl (hb hby at_38) rfl ?_
    show Steps p.tables e below (T2.setTop (mkF m 39 #[.val (.int p1), .val (.int (own_c p1)), .val (.int (own_U (own_c p1))), .val (.int ((own_U (own_c p1)) &&& (255 : Int32))), .unset, .unset, .unset, .unset] [(.int ((((own_U (own_c p1)).toUInt32 >>> ((8 : Int32) &&& 31).toUInt32).toInt32) &&& (255 : Int32)))])) _
    refine XS.istore X2.here hx rfl (hb hby at_39) rfl (l' := #[.val (.int p1), .val (.int (own_c p1)), .val (.int (own_U (own_c p1))), .val (.int ((own_U (own_c p1)) &&& (255 : Int32))), .val (.int ((((own_U (own_c p1)).toUInt32 >>> ((8 : Int32) &&& 31).toUInt32).toInt32) &&& (255 : Int32))), .unset, .unset, .unset]) rfl ?_
    show Steps p.tables e below (T2.setTop (mkF m 41 #[.val (.int p1), .val (.int (own_c p1)), .val (.int (own_U (own_c p1))), .val (.int ((own_U (own_c p1)) &&& (255 : Int32))), .val (.int ((((own_U (own_c p1)).toUInt32 >>> ((8 : Int32) &&& 31).toUInt32).toInt32) &&& (255 : Int32))), .unset, .unset, .unset] [])) _
    refine XS.iloadN X2.here hx rfl (hb hby at_41) rfl ?_
    show Steps p.tables e below (T2.setTop (mkF m 42 #[.val (.int p1), .val (.int (own_c p1)), .val (.int (own_U (own_c p1))), .val (.int ((own_U (own_c p1)) &&& (255 : Int32))), .val (.int ((((own_U (own_c p1)).toUInt32 >>> ((8 : Int32) &&& 31).toUInt32).toInt32) &&& (255 : Int32))), .unset, .unset, .unset] [(.int (own_U (own_c p1)))])) _
    refine XS.bipush X2.here hx rfl (hb hby at_42) ?_
    show Steps p.tables e below (T2.setTop (mkF m 44 #[.val (.int p1), .val (.int (own_c p1)), .val (.int (own_U (own_c p1))), .val (.int ((own_U (own_c p1)) &&& (255 : Int32))), .val (.int ((((own_U (own_c p1)).toUInt32 >>> ((8 : Int32) &&& 31).toUInt32).toInt32) &&& (255 : Int32))), .unset, .unset, .unset] [(.int (16 : Int32)), (.int (own_U (own_c p1)))])) _
    refine XS.iushr X2.here hx rfl (hb hby at_44) rfl ?_
    show Steps p.tables e below (T2.setTop (mkF m 45 #[.val (.int p1), .val (.int (own_c p1)), .val (.int (own_U (own_c p1))), .val (.int ((own_U (own_c p1)) &&& (255 : Int32))), .val (.int ((((own_U (own_c p1)).toUInt32 >>> ((8 : Int32) &&& 31).toUInt32).toInt32) &&& (255 : Int32))), .unset, .unset, .unset] [(.int (((own_U (own_c p1)).toUInt32 >>> ((16 : Int32) &&& 31).toUInt32).toInt32))])) _
    refine XS.sipush X2.here hx rfl (hb hby at_45) ?_
    show Steps p.tables e below (T2.setTop (mkF m 48 #[.val (.int p1), .val (.int (own_c p1)), .val (.int (own_U (own_c p1))), .val (.int ((own_U (own_c p1)) &&& (255 : Int32))), .val (.int ((((own_U (own_c p1)).toUInt32 >>> ((8 : Int32) &&& 31).toUInt32).toInt32) &&& (255 : Int32))), .unset, .unset, .unset] [(.int (255 : Int32)), (.int (((own_U (own_c p1)).toUInt32 >>> ((16 : Int32) &&& 31).toUInt32).toInt32))])) _
    refine XS.iand X2.here hx rfl (hb hby at_48) rfl ?_
    show Steps p.tables e below (T2.setTop (mkF m 49 #[.val (.int p1), .val (.int (own_c p1)), .val (.int (own_U (own_c p1))), .val (.int ((own_U (own_c p1)) &&& (255 : Int32))), .val (.int ((((own_U (own_c p1)).toUInt32 >>> ((8 : Int32) &&& 31).toUInt32).toInt32) &&& (255 : Int32))), .unset, .unset, .unset] [(.int ((((own_U (own_c p1)).toUInt32 >>> ((16 : Int32) &&& 31).toUInt32).toInt32) &&& (255 : Int32)))])) _
    refine XS.istore X2.here hx rfl (hb hby at_49) rfl (l' := #[.val (.int p1), .val (.int (own_c p1)), .val (.int (own_U (own_c p1))), .val (.int ((own_U (own_c p1)) &&& (255 : Int32))), .val (.int ((((own_U (own_c p1)).toUInt32 >>> ((8 : Int32) &&& 31).toUInt32).toInt32) &&& (255 : Int32))), .val (.int ((((own_U (own_c p1)).toUInt32 >>> ((16 : Int32) &&& 31).toUInt32).toInt32) &&& (255 : Int32))), .unset, .unset]) rfl ?_
    show Steps p.tables e below (T2.setTop (mkF m 51 #[.val (.int p1), .val (.int (own_c p1)), .val (.int (own_U (own_c p1))), .val (.int ((own_U (own_c p1)) &&& (255 : Int32))), .val (.int ((((own_U (own_c p1)).toUInt32 >>> ((8 : Int32) &&& 31).toUInt32).toInt32) &&& (255 : Int32))), .val (.int ((((own_U (own_c p1)).toUInt32 >>> ((16 : Int32) &&& 31).toUInt32).toInt32) &&& (255 : Int32))), .unset, .unset] [])) _
    refine XS.iloadN X2.here hx rfl (hb hby at_51) rfl ?_
    show Steps p.tables e below (T2.setTop (mkF m 52 #[.val (.int p1), .val (.int (own_c p1)), .val (.int (own_U (own_c p1))), .val (.int ((own_U (own_c p1)) &&& (255 : Int32))), .val (.int ((((own_U (own_c p1)).toUInt32 >>> ((8 : Int32) &&& 31).toUInt32).toInt32) &&& (255 : Int32))), .val (.int ((((own_U (own_c p1)).toUInt32 >>> ((16 : Int32) &&& 31).toUInt32).toInt32) &&& (255 : Int32))), .unset, .unset] [(.int (own_U (own_c p1)))])) _
    refine XS.bipush X2.here hx rfl (hb hby at_52) ?_
    show Steps p.tables e below (T2.setTop (mkF m 54 #[.val (.int p1), .val (.int (own_c p1)), .val (.int (own_U (own_c p1))), .val (.int ((own_U (own_c p1)) &&& (255 : Int32))), .val (.int ((((own_U (own_c p1)).toUInt32 >>> ((8 : Int32) &&& 31).toUInt32).toInt32) &&& (255 : Int32))), .val (.int ((((own_U (own_c p1)).toUInt32 >>> ((16 : Int32) &&& 31).toUInt32).toInt32) &&& (255 : Int32))), .unset, .unset] [(.int (24 : Int32)), (.int (own_U (own_c p1)))])) _
    refine XS.iushr X2.here hx rfl (hb hby at_54) rfl ?_
    show Steps p.tables e below (T2.setTop (mkF m 55 #[.val (.int p1), .val (.int (own_c p1)), .val (.int (own_U (own_c p1))), .val (.int ((own_U (own_c p1)) &&& (255 : Int32))), .val (.int ((((own_U (own_c p1)).toUInt32 >>> ((8 : Int32) &&& 31).toUInt32).toInt32) &&& (255 : Int32))), .val (.int ((((own_U (own_c p1)).toUInt32 >>> ((16 : Int32) &&& 31).toUInt32).toInt32) &&& (255 : Int32))), .unset, .unset] [(.int (((own_U (own_c p1)).toUInt32 >>> ((24 : Int32) &&& 31).toUInt32).toInt32))])) _
    refine XS.sipush X2.here hx rfl (hb hby at_55) ?_
    show Steps p.tables e below (T2.setTop (mkF m 58 #[.val (.int p1), .val (.int (own_c p1)), .val (.int (own_U (own_c p1))), .val (.int ((own_U (own_c p1)) &&& (255 : Int32))), .val (.int ((((own_U (own_c p1)).toUInt32 >>> ((8 : Int32) &&& 31).toUInt32).toInt32) &&& (255 : Int32))), .val (.int ((((own_U (own_c p1)).toUInt32 >>> ((16 : Int32) &&& 31).toUInt32).toInt32) &&& (255 : Int32))), .unset, .unset] [(.int (255 : Int32)), (.int (((own_U (own_c p1)).toUInt32 >>> ((24 : Int32) &&& 31).toUInt32).toInt32))])) _
    refine XS.iand X2.here hx rfl (hb hby at_58) rfl ?_
    show Steps p.tables e below (T2.setTop (mkF m 59 #[.val (.int p1), .val (.int (own_c p1)), .val (.int (own_U (own_c p1))), .val (.int ((own_U (own_c p1)) &&& (255 : Int32))), .val (.int ((((own_U (own_c p1)).toUInt32 >>> ((8 : Int32) &&& 31).toUInt32).toInt32) &&& (255 : Int32))), .val (.int ((((own_U (own_c p1)).toUInt32 >>> ((16 : Int32) &&& 31).toUInt32).toInt32) &&& (255 : Int32))), .unset, .unset] [(.int ((((own_U (own_c p1)).toUInt32 >>> ((24 : Int32) &&& 31).toUInt32).toInt32) &&& (255 : Int32)))])) _
    refine XS.istore X2.here hx rfl (hb hby at_59) rfl (l' := #[.val (.int p1), .val (.int (own_c p1)), .val (.int (own_U (own_c p1))), .val (.int ((own_U (own_c p1)) &&& (255 : Int32))), .val (.int ((((own_U (own_c p1)).toUInt32 >>> ((8 : Int32) &&& 31).toUInt32).toInt32) &&& (255 : Int32))), .val (.int ((((own_U (own_c p1)).toUInt32 >>> ((16 : Int32) &&& 31).toUInt32).toInt32) &&& (255 : Int32))), .val (.int ((((own_U (own_c p1)).toUInt32 >>> ((24 : Int32) &&& 31).toUInt32).toInt32) &&& (255 : Int32))), .unset]) rfl ?_
    show Steps p.tables e below (T2.setTop (mkF m 61 #[.val (.int p1), .val (.int (own_c p1)), .val (.int (own_U (own_c p1))), .val (.int ((own_U (own_c p1)) &&& (255 : Int32))), .val (.int ((((own_U (own_c p1)).toUInt32 >>> ((8 : Int32) &&& 31).toUInt32).toInt32) &&& (255 : Int32))), .val (.int ((((own_U (own_c p1)).toUInt32 >>> ((16 : Int32) &&& 31).toUInt32).toInt32) &&& (255 : Int32))), .val (.int ((((own_U (own_c p1)).toUInt32 >>> ((24 : Int32) &&& 31).toUInt32).toInt32) &&& (255 : Int32))), .unset] [])) _
    refine XS.iloadN X2.here hx rfl (hb hby at_61) rfl ?_
    show Steps p.tables e below (T2.setTop (mkF m 62 #[.val (.int p1), .val (.int (own_c p1)), .val (.int (own_U (own_c p1))), .val (.int ((own_U (own_c p1)) &&& (255 : Int32))), .val (.int ((((own_U (own_c p1)).toUInt32 >>> ((8 : Int32) &&& 31).toUInt32).toInt32) &&& (255 : Int32))), .val (.int ((((own_U (own_c p1)).toUInt32 >>> ((16 : Int32) &&& 31).toUInt32).toInt32) &&& (255 : Int32))), .val (.int ((((own_U (own_c p1)).toUInt32 >>> ((24 : Int32) &&& 31).toUInt32).toInt32) &&& (255 : Int32))), .unset] [(.int (own_c p1))])) _
    refine XS.sipush X2.here hx rfl (hb hby at_62) ?_
    show Steps p.tables e below (T2.setTop (mkF m 65 #[.val (.int p1), .val (.int (own_c p1)), .val (.int (own_U (own_c p1))), .val (.int ((own_U (own_c p1)) &&& (255 : Int32))), .val (.int ((((own_U (own_c p1)).toUInt32 >>> ((8 : Int32) &&& 31).toUInt32).toInt32) &&& (255 : Int32))), .val (.int ((((own_U (own_c p1)).toUInt32 >>> ((16 : Int32) &&& 31).toUInt32).toInt32) &&& (255 : Int32))), .val (.int ((((own_U (own_c p1)).toUInt32 >>> ((24 : Int32) &&& 31).toUInt32).toInt32) &&& (255 : Int32))), .unset] [(.int (128 : Int32)), (.int (own_c p1))])) _
    refine XS.icmpYes X2.here hx rfl (pc0 := 65) (pc' := 79) rfl (hb hby at_65) rfl (flt hc65).2.1 (by decide) (by decide) ?_
    show Steps p.tables e below (T2.setTop (mkF m 79 #[.val (.int p1), .val (.int (own_c p1)), .val (.int (own_U (own_c p1))), .val (.int ((own_U (own_c p1)) &&& (255 : Int32))), .val (.int ((((own_U (own_c p1)).toUInt32 >>> ((8 : Int32) &&& 31).toUInt32).toInt32) &&& (255 : Int32))), .val (.int ((((own_U (own_c p1)).toUInt32 >>> ((16 : Int32) &&& 31).toUInt32).toInt32) &&& (255 : Int32))), .val (.int ((((own_U (own_c p1)).toUInt32 >>> ((24 : Int32) &&& 31).toUInt32).toInt32) &&& (255 : Int32))), .unset] [])) _
    refine XS.iloadN X2.here hx rfl (hb hby at_79) rfl ?_
    show Steps p.tables e below (T2.setTop (mkF m 80 #[.val (.int p1), .val (.int (own_c p1)), .val (.int (own_U (own_c p1))), .val (.int ((own_U (own_c p1)) &&& (255 : Int32))), .val (.int ((((own_U (own_c p1)).toUInt32 >>> ((8 : Int32) &&& 31).toUInt32).toInt32) &&& (255 : Int32))), .val (.int ((((own_U (own_c p1)).toUInt32 >>> ((16 : Int32) &&& 31).toUInt32).toInt32) &&& (255 : Int32))), .val (.int ((((own_U (own_c p1)).toUInt32 >>> ((24 : Int32) &&& 31).toUInt32).toInt32) &&& (255 : Int32))), .unset] [(.int (own_c p1))])) _
    refine XS.sipush X2.here hx rfl (hb hby at_80) ?_
    show Steps p.tables e below (T2.setTop (mkF m 83 #[.val (.int p1), .val (.int (own_c p1)), .val (.int (own_U (own_c p1))), .val (.int ((own_U (own_c p1)) &&& (255 : Int32))), .val (.int ((((own_U (own_c p1)).toUInt32 >>> ((8 : Int32) &&& 31).toUInt32).toInt32) &&& (255 : Int32))), .val (.int ((((own_U (own_c p1)).toUInt32 >>> ((16 : Int32) &&& 31).toUInt32).toInt32) &&& (255 : Int32))), .val (.int ((((own_U (own_c p1)).toUInt32 >>> ((24 : Int32) &&& 31).toUInt32).toInt32) &&& (255 : Int32))), .unset] [(.int (2048 : Int32)), (.int (own_c p1))])) _
    refine XS.icmpYes X2.here hx rfl (pc0 := 83) (pc' := 150) rfl (hb hby at_83) rfl (flt hc83).2.1 (by decide) (by decide) ?_
    show Steps p.tables e below (T2.setTop (mkF m 150 #[.val (.int p1), .val (.int (own_c p1)), .val (.int (own_U (own_c p1))), .val (.int ((own_U (own_c p1)) &&& (255 : Int32))), .val (.int ((((own_U (own_c p1)).toUInt32 >>> ((8 : Int32) &&& 31).toUInt32).toInt32) &&& (255 : Int32))), .val (.int ((((own_U (own_c p1)).toUInt32 >>> ((16 : Int32) &&& 31).toUInt32).toInt32) &&& (255 : Int32))), .val (.int ((((own_U (own_c p1)).toUInt32 >>> ((24 : Int32) &&& 31).toUInt32).toInt32) &&& (255 : Int32))), .unset] [])) _
    refine XS.iload X2.here hx rfl (hb hby at_150) rfl ?_
    show Steps p.tables e below (T2.setTop (mkF m 152 #[.val (.int p1), .val (.int (own_c p1)), .val (.int (own_U (own_c p1))), .val (.int ((own_U (own_c p1)) &&& (255 : Int32))), .val (.int ((((own_U (own_c p1)).toUInt32 >>> ((8 : Int32) &&& 31).toUInt32).toInt32) &&& (255 : Int32))), .val (.int ((((own_U (own_c p1)).toUInt32 >>> ((16 : Int32) &&& 31).toUInt32).toInt32) &&& (255 : Int32))), .val (.int ((((own_U (own_c p1)).toUInt32 >>> ((24 : Int32) &&& 31).toUInt32).toInt32) &&& (255 : Int32))), .unset] [(.int ((((own_U (own_c p1)).toUInt32 >>> ((24 : Int32) &&& 31).toUInt32).toInt32) &&& (255 : Int32)))])) _
    refine XS.ifYes X2.here hx rfl (pc0 := 152) (pc' := 157) rfl (hb hby at_152) rfl ((if0 _ _).trans (teq ho1).1) (by decide) (by decide) ?_
    show Steps p.tables e below (T2.setTop (mkF m 157 #[.val (.int p1), .val (.int (own_c p1)), .val (.int (own_U (own_c p1))), .val (.int ((own_U (own_c p1)) &&& (255 : Int32))), .val (.int ((((own_U (own_c p1)).toUInt32 >>> ((8 : Int32) &&& 31).toUInt32).toInt32) &&& (255 : Int32))), .val (.int ((((own_U (own_c p1)).toUInt32 >>> ((16 : Int32) &&& 31).toUInt32).toInt32) &&& (255 : Int32))), .val (.int ((((own_U (own_c p1)).toUInt32 >>> ((24 : Int32) &&& 31).toUInt32).toInt32) &&& (255 : Int32))), .unset] [])) _
    refine XS.iloadN X2.here hx rfl (hb hby at_157) rfl ?_
    show Steps p.tables e below (T2.setTop (mkF m 158 #[.val (.int p1), .val (.int (own_c p1)), .val (.int (own_U (own_c p1))), .val (.int ((own_U (own_c p1)) &&& (255 : Int32))), .val (.int ((((own_U (own_c p1)).toUInt32 >>> ((8 : Int32) &&& 31).toUInt32).toInt32) &&& (255 : Int32))), .val (.int ((((own_U (own_c p1)).toUInt32 >>> ((16 : Int32) &&& 31).toUInt32).toInt32) &&& (255 : Int32))), .val (.int ((((own_U (own_c p1)).toUInt32 >>> ((24 : Int32) &&& 31).toUInt32).toInt32) &&& (255 : Int32))), .unset] [(.int ((own_U (own_c p1)) &&& (255 : Int32)))])) _
    refine XS.sipush X2.here hx rfl (hb hby at_158) ?_
    show Steps p.tables e below (T2.setTop (mkF m 161 #[.val (.int p1), .val (.int (own_c p1)), .val (.int (own_U (own_c p1))), .val (.int ((own_U (own_c p1)) &&& (255 : Int32))), .val (.int ((((own_U (own_c p1)).toUInt32 >>> ((8 : Int32) &&& 31).toUInt32).toInt32) &&& (255 : Int32))), .val (.int ((((own_U (own_c p1)).toUInt32 >>> ((16 : Int32) &&& 31).toUInt32).toInt32) &&& (255 : Int32))), .val (.int ((((own_U (own_c p1)).toUInt32 >>> ((24 : Int32) &&& 31).toUInt32).toInt32) &&& (255 : Int32))), .unset] [(.int (240 : Int32)), (.int ((own_U (own_c p1)) &&& (255 : Int32)))])) _
    refine XS.iand X2.here hx rfl (hb hby at_161) rfl ?_
    show Steps p.tables e below (T2.setTop (mkF m 162 #[.val (.int p1), .val (.int (own_c p1)), .val (.int (own_U (own_c p1))), .val (.int ((own_U (own_c p1)) &&& (255 : Int32))), .val (.int ((((own_U (own_c p1)).toUInt32 >>> ((8 : Int32) &&& 31).toUInt32).toInt32) &&& (255 : Int32))), .val (.int ((((own_U (own_c p1)).toUInt32 >>> ((16 : Int32) &&& 31).toUInt32).toInt32) &&& (255 : Int32))), .val (.int ((((own_U (own_c p1)).toUInt32 >>> ((24 : Int32) &&& 31).toUInt32).toInt32) &&& (255 : Int32))), .unset] [(.int (((own_U (own_c p1)) &&& (255 : Int32)) &&& (240 : Int32)))])) _
    refine XS.sipush X2.here hx rfl (hb hby at_162) ?_
    show Steps p.tables e below (T2.setTop (mkF m 165 #[.val (.int p1), .val (.int (own_c p1)), .val (.int (own_U (own_c p1))), .val (.int ((own_U (own_c p1)) &&& (255 : Int32))), .val (.int ((((own_U (own_c p1)).toUInt32 >>> ((8 : Int32) &&& 31).toUInt32).toInt32) &&& (255 : Int32))), .val (.int ((((own_U (own_c p1)).toUInt32 >>> ((16 : Int32) &&& 31).toUInt32).toInt32) &&& (255 : Int32))), .val (.int ((((own_U (own_c p1)).toUInt32 >>> ((24 : Int32) &&& 31).toUInt32).toInt32) &&& (255 : Int32))), .unset] [(.int (224 : Int32)), (.int (((own_U (own_c p1)) &&& (255 : Int32)) &&& (240 : Int32)))])) _
    refine XS.icmpNo X2.here hx rfl (hb hby at_165) rfl (teq ho2).2 ?_
    show Steps p.tables e below (T2.setTop (mkF m 168 #[.val (.int p1), .val (.int (own_c p1)), .val (.int (own_U (own_c p1))), .val (.int ((own_U (own_c p1)) &&& (255 : Int32))), .val (.int ((((own_U (own_c p1)).toUInt32 >>> ((8 : Int32) &&& 31).toUInt32).toInt32) &&& (255 : Int32))), .val (.int ((((own_U (own_c p1)).toUInt32 >>> ((16 : Int32) &&& 31).toUInt32).toInt32) &&& (255 : Int32))), .val (.int ((((own_U (own_c p1)).toUInt32 >>> ((24 : Int32) &&& 31).toUInt32).toInt32) &&& (255 : Int32))), .unset] [])) _
    refine XS.iload X2.here hx rfl (hb hby at_168) rfl ?_
    show Steps p.tables e below (T2.setTop (mkF m 170 #[.val (.int p1), .val (.int (own_c p1)), .val (.int (own_U (own_c p1))), .val (.int ((own_U (own_c p1)) &&& (255 : Int32))), .val (.int ((((own_U (own_c p1)).toUInt32 >>> ((8 : Int32) &&& 31).toUInt32).toInt32) &&& (255 : Int32))), .val (.int ((((own_U (own_c p1)).toUInt32 >>> ((16 : Int32) &&& 31).toUInt32).toInt32) &&& (255 : Int32))), .val (.int ((((own_U (own_c p1)).toUInt32 >>> ((24 : Int32) &&& 31).toUInt32).toInt32) &&& (255 : Int32))), .unset] [(.int ((((own_U (own_c p1)).toUInt32 >>> ((8 : Int32) &&& 31).toUInt32).toInt32) &&& (255 : Int32)))])) _
    refine XS.sipush X2.here hx rfl (hb hby at_170) ?_
    show Steps p.tables e below (T2.setTop (mkF m 173 #[.val (.int p1), .val (.int (own_c p1)), .val (.int (own_U (own_c p1))), .val (.int ((own_U (own_c p1)) &&& (255 : Int32))), .val (.int ((((own_U (own_c p1)).toUInt32 >>> ((8 : Int32) &&& 31).toUInt32).toInt32) &&& (255 : Int32))), .val (.int ((((own_U (own_c p1)).toUInt32 >>> ((16 : Int32) &&& 31).toUInt32).toInt32) &&& (255 : Int32))), .val (.int ((((own_U (own_c p1)).toUInt32 >>> ((24 : Int32) &&& 31).toUInt32).toInt32) &&& (255 : Int32))), .unset] [(.int (192 : Int32)), (.int ((((own_U (own_c p1)).toUInt32 >>> ((8 : Int32) &&& 31).toUInt32).toInt32) &&& (255 : Int32)))])) _
    refine XS.iand X2.here hx rfl (hb hby at_173) rfl ?_
    show Steps p.tables e below (T2.setTop (mkF m 174 #[.val (.int p1), .val (.int (own_c p1)), .val (.int (own_U (own_c p1))), .val (.int ((own_U (own_c p1)) &&& (255 : Int32))), .val (.int ((((own_U (own_c p1)).toUInt32 >>> ((8 : Int32) &&& 31).toUInt32).toInt32) &&& (255 : Int32))), .val (.int ((((own_U (own_c p1)).toUInt32 >>> ((16 : Int32) &&& 31).toUInt32).toInt32) &&& (255 : Int32))), .val (.int ((((own_U (own_c p1)).toUInt32 >>> ((24 : Int32) &&& 31).toUInt32).toInt32) &&& (255 : Int32))), .unset] [(.int (((((own_U (own_c p1)).toUInt32 >>> ((8 : Int32) &&& 31).toUInt32).toInt32) &&& (255 : Int32)) &&& (192 : Int32)))])) _
    refine XS.sipush X2.here hx rfl (hb hby at_174) ?_
    show Steps p.tables e below (T2.setTop (mkF m 177 #[.val (.int p1), .val (.int (own_c p1)), .val (.int (own_U (own_c p1))), .val (.int ((own_U (own_c p1)) &&& (255 : Int32))), .val (.int ((((own_U (own_c p1)).toUInt32 >>> ((8 : Int32) &&& 31).toUInt32).toInt32) &&& (255 : Int32))), .val (.int ((((own_U (own_c p1)).toUInt32 >>> ((16 : Int32) &&& 31).toUInt32).toInt32) &&& (255 : Int32))), .val (.int ((((own_U (own_c p1)).toUInt32 >>> ((24 : Int32) &&& 31).toUInt32).toInt32) &&& (255 : Int32))), .unset] [(.int (128 : Int32)), (.int (((((own_U (own_c p1)).toUInt32 >>> ((8 : Int32) &&& 31).toUInt32).toInt32) &&& (255 : Int32)) &&& (192 : Int32)))])) _
    refine XS.icmpNo X2.here hx rfl (hb hby at_177) rfl (teq ho3).2 ?_
    show Steps p.tables e below (T2.setTop (mkF m 180 #[.val (.int p1), .val (.int (own_c p1)), .val (.int (own_U (own_c p1))), .val (.int ((own_U (own_c p1)) &&& (255 : Int32))), .val (.int ((((own_U (own_c p1)).toUInt32 >>> ((8 : Int32) &&& 31).toUInt32).toInt32) &&& (255 : Int32))), .val (.int ((((own_U (own_c p1)).toUInt32 >>> ((16 : Int32) &&& 31).toUInt32).toInt32) &&& (255 : Int32))), .val (.int ((((own_U (own_c p1)).toUInt32 >>> ((24 : Int32) &&& 31).toUInt32).toInt32) &&& (255 : Int32))), .unset] [])) _
    refine XS.iload X2.here hx rfl (hb hby at_180) rfl ?_
    show Steps p.tables e below (T2.setTop (mkF m 182 #[.val (.int p1), .val (.int (own_c p1)), .val (.int (own_U (own_c p1))), .val (.int ((own_U (own_c p1)) &&& (255 : Int32))), .val (.int ((((own_U (own_c p1)).toUInt32 >>> ((8 : Int32) &&& 31).toUInt32).toInt32) &&& (255 : Int32))), .val (.int ((((own_U (own_c p1)).toUInt32 >>> ((16 : Int32) &&& 31).toUInt32).toInt32) &&& (255 : Int32))), .val (.int ((((own_U (own_c p1)).toUInt32 >>> ((24 : Int32) &&& 31).toUInt32).toInt32) &&& (255 : Int32))), .unset] [(.int ((((own_U (own_c p1)).toUInt32 >>> ((16 : Int32) &&& 31).toUInt32).toInt32) &&& (255 : Int32)))])) _
    refine XS.sipush X2.here hx rfl (hb hby at_182) ?_
    show Steps p.tables e below (T2.setTop (mkF m 185 #[.val (.int p1), .val (.int (own_c p1)), .val (.int (own_U (own_c p1))), .val (.int ((own_U (own_c p1)) &&& (255 : Int32))), .val (.int ((((own_U (own_c p1)).toUInt32 >>> ((8 : Int32) &&& 31).toUInt32).toInt32) &&& (255 : Int32))), .val (.int ((((own_U (own_c p1)).toUInt32 >>> ((16 : Int32) &&& 31).toUInt32).toInt32) &&& (255 : Int32))), .val (.int ((((own_U (own_c p1)).toUInt32 >>> ((24 : Int32) &&& 31).toUInt32).toInt32) &&& (255 : Int32))), .unset] [(.int (192 : Int32)), (.int ((((own_U (own_c p1)).toUInt32 >>> ((16 : Int32) &&& 31).toUInt32).toInt32) &&& (255 : Int32)))])) _
    refine XS.iand X2.here hx rfl (hb hby at_185) rfl ?_
    show Steps p.tables e below (T2.setTop (mkF m 186 #[.val (.int p1), .val (.int (own_c p1)), .val (.int (own_U (own_c p1))), .val (.int ((own_U (own_c p1)) &&& (255 : Int32))), .val (.int ((((own_U (own_c p1)).toUInt32 >>> ((8 : Int32) &&& 31).toUInt32).toInt32) &&& (255 : Int32))), .val (.int ((((own_U (own_c p1)).toUInt32 >>> ((16 : Int32) &&& 31).toUInt32).toInt32) &&& (255 : Int32))), .val (.int ((((own_U (own_c p1)).toUInt32 >>> ((24 : Int32) &&& 31).toUInt32).toInt32) &&& (255 : Int32))), .unset] [(.int (((((own_U (own_c p1)).toUInt32 >>> ((16 : Int32) &&& 31).toUInt32).toInt32) &&& (255 : Int32)) &&& (192 : Int32)))])) _
    refine XS.sipush X2.here hx rfl (hb hby at_186) ?_
    show Steps p.tables e below (T2.setTop (mkF m 189 #[.val (.int p1), .val (.int (own_c p1)), .val (.int (own_U (own_c p1))), .val (.int ((own_U (own_c p1)) &&& (255 : Int32))), .val (.int ((((own_U (own_c p1)).toUInt32 >>> ((8 : Int32) &&& 31).toUInt32).toInt32) &&& (255 : Int32))), .val (.int ((((own_U (own_c p1)).toUInt32 >>> ((16 : Int32) &&& 31).toUInt32).toInt32) &&& (255 : Int32))), .val (.int ((((own_U (own_c p1)).toUInt32 >>> ((24 : Int32) &&& 31).toUInt32).toInt32) &&& (255 : Int32))), .unset] [(.int (128 : Int32)), (.int (((((own_U (own_c p1)).toUInt32 >>> ((16 : Int32) &&& 31).toUInt32).toInt32) &&& (255 : Int32)) &&& (192 : Int32)))])) _
    refine XS.icmpYes X2.here hx rfl (pc0 := 189) (pc' := 194) rfl (hb hby at_189) rfl (teq ho4).1 (by decide) (by decide) ?_
    show Steps p.tables e below (T2.setTop (mkF m 194 #[.val (.int p1), .val (.int (own_c p1)), .val (.int (own_U (own_c p1))), .val (.int ((own_U (own_c p1)) &&& (255 : Int32))), .val (.int ((((own_U (own_c p1)).toUInt32 >>> ((8 : Int32) &&& 31).toUInt32).toInt32) &&& (255 : Int32))), .val (.int ((((own_U (own_c p1)).toUInt32 >>> ((16 : Int32) &&& 31).toUInt32).toInt32) &&& (255 : Int32))), .val (.int ((((own_U (own_c p1)).toUInt32 >>> ((24 : Int32) &&& 31).toUInt32).toInt32) &&& (255 : Int32))), .unset] [])) _
    refine XS.iloadN X2.here hx rfl (hb hby at_194) rfl ?_
    show Steps p.tables e below (T2.setTop (mkF m 195 #[.val (.int p1), .val (.int (own_c p1)), .val (.int (own_U (own_c p1))), .val (.int ((own_U (own_c p1)) &&& (255 : Int32))), .val (.int ((((own_U (own_c p1)).toUInt32 >>> ((8 : Int32) &&& 31).toUInt32).toInt32) &&& (255 : Int32))), .val (.int ((((own_U (own_c p1)).toUInt32 >>> ((16 : Int32) &&& 31).toUInt32).toInt32) &&& (255 : Int32))), .val (.int ((((own_U (own_c p1)).toUInt32 >>> ((24 : Int32) &&& 31).toUInt32).toInt32) &&& (255 : Int32))), .unset] [(.int ((own_U (own_c p1)) &&& (255 : Int32)))])) _
    refine XS.bipush X2.here hx rfl (hb hby at_195) ?_
    show Steps p.tables e below (T2.setTop (mkF m 197 #[.val (.int p1), .val (.int (own_c p1)), .val (.int (own_U (own_c p1))), .val (.int ((own_U (own_c p1)) &&& (255 : Int32))), .val (.int ((((own_U (own_c p1)).toUInt32 >>> ((8 : Int32) &&& 31).toUInt32).toInt32) &&& (255 : Int32))), .val (.int ((((own_U (own_c p1)).toUInt32 >>> ((16 : Int32) &&& 31).toUInt32).toInt32) &&& (255 : Int32))), .val (.int ((((own_U (own_c p1)).toUInt32 >>> ((24 : Int32) &&& 31).toUInt32).toInt32) &&& (255 : Int32))), .unset] [(.int (15 : Int32)), (.int ((own_U (own_c p1)) &&& (255 : Int32)))])) _
    refine XS.iand X2.here hx rfl (hb hby at_197) rfl ?_
    show Steps p.tables e below (T2.setTop (mkF m 198 #[.val (.int p1), .val (.int (own_c p1)), .val (.int (own_U (own_c p1))), .val (.int ((own_U (own_c p1)) &&& (255 : Int32))), .val (.int ((((own_U (own_c p1)).toUInt32 >>> ((8 : Int32) &&& 31).toUInt32).toInt32) &&& (255 : Int32))), .val (.int ((((own_U (own_c p1)).toUInt32 >>> ((16 : Int32) &&& 31).toUInt32).toInt32) &&& (255 : Int32))), .val (.int ((((own_U (own_c p1)).toUInt32 >>> ((24 : Int32) &&& 31).toUInt32).toInt32) &&& (255 : Int32))), .unset] [(.int (((own_U (own_c p1)) &&& (255 : Int32)) &&& (15 : Int32)))])) _
    refine XS.bipush X2.here hx rfl (hb hby at_198) ?_
    show Steps p.tables e below (T2.setTop (mkF m 200 #[.val (.int p1), .val (.int (own_c p1)), .val (.int (own_U (own_c p1))), .val (.int ((own_U (own_c p1)) &&& (255 : Int32))), .val (.int ((((own_U (own_c p1)).toUInt32 >>> ((8 : Int32) &&& 31).toUInt32).toInt32) &&& (255 : Int32))), .val (.int ((((own_U (own_c p1)).toUInt32 >>> ((16 : Int32) &&& 31).toUInt32).toInt32) &&& (255 : Int32))), .val (.int ((((own_U (own_c p1)).toUInt32 >>> ((24 : Int32) &&& 31).toUInt32).toInt32) &&& (255 : Int32))), .unset] [(.int (12 : Int32)), (.int (((own_U (own_c p1)) &&& (255 : Int32)) &&& (15 : Int32)))])) _
    refine XS.ishl X2.here hx rfl (hb hby at_200) rfl ?_
    show Steps p.tables e below (T2.setTop (mkF m 201 #[.val (.int p1), .val (.int (own_c p1)), .val (.int (own_U (own_c p1))), .val (.int ((own_U (own_c p1)) &&& (255 : Int32))), .val (.int ((((own_U (own_c p1)).toUInt32 >>> ((8 : Int32) &&& 31).toUInt32).toInt32) &&& (255 : Int32))), .val (.int ((((own_U (own_c p1)).toUInt32 >>> ((16 : Int32) &&& 31).toUInt32).toInt32) &&& (255 : Int32))), .val (.int ((((own_U (own_c p1)).toUInt32 >>> ((24 : Int32) &&& 31).toUInt32).toInt32) &&& (255 : Int32))), .unset] [(.int ((((own_U (own_c p1)) &&& (255 : Int32)) &&& (15 : Int32)) <<< ((12 : Int32) &&& 31)))])) _
    refine XS.iload X2.here hx rfl (hb hby at_201) rfl ?_
    show Steps p.tables e below (T2.setTop (mkF m 203 #[.val (.int p1), .val (.int (own_c p1)), .val (.int (own_U (own_c p1))), .val (.int ((own_U (own_c p1)) &&& (255 : Int32))), .val (.int ((((own_U (own_c p1)).toUInt32 >>> ((8 : Int32) &&& 31).toUInt32).toInt32) &&& (255 : Int32))), .val (.int ((((own_U (own_c p1)).toUInt32 >>> ((16 : Int32) &&& 31).toUInt32).toInt32) &&& (255 : Int32))), .val (.int ((((own_U (own_c p1)).toUInt32 >>> ((24 : Int32) &&& 31).toUInt32).toInt32) &&& (255 : Int32))), .unset] [(.int ((((own_U (own_c p1)).toUInt32 >>> ((8 : Int32) &&& 31).toUInt32).toInt32) &&& (255 : Int32))), (.int ((((own_U (own_c p1)) &&& (255 : Int32)) &&& (15 : Int32)) <<< ((12 : Int32) &&& 31)))])) _
    refine XS.bipush X2.here hx rfl (hb hby at_203) ?_
    show Steps p.tables e below (T2.setTop (mkF m 205 #[.val (.int p1), .val (.int (own_c p1)), .val (.int (own_U (own_c p1))), .val (.int ((own_U (own_c p1)) &&& (255 : Int32))), .val (.int ((((own_U (own_c p1)).toUInt32 >>> ((8 : Int32) &&& 31).toUInt32).toInt32) &&& (255 : Int32))), .val (.int ((((own_U (own_c p1)).toUInt32 >>> ((16 : Int32) &&& 31).toUInt32).toInt32) &&& (255 : Int32))), .val (.int ((((own_U (own_c p1)).toUInt32 >>> ((24 : Int32) &&& 31).toUInt32).toInt32) &&& (255 : Int32))), .unset] [(.int (63 : Int32)), (.int ((((own_U (own_c p1)).toUInt32 >>> ((8 : Int32) &&& 31).toUInt32).toInt32) &&& (255 : Int32))), (.int ((((own_U (own_c p1)) &&& (255 : Int32)) &&& (15 : Int32)) <<< ((12 : Int32) &&& 31)))])) _
    refine XS.iand X2.here hx rfl (hb hby at_205) rfl ?_
    show Steps p.tables e below (T2.setTop (mkF m 206 #[.val (.int p1), .val (.int (own_c p1)), .val (.int (own_U (own_c p1))), .val (.int ((own_U (own_c p1)) &&& (255 : Int32))), .val (.int ((((own_U (own_c p1)).toUInt32 >>> ((8 : Int32) &&& 31).toUInt32).toInt32) &&& (255 : Int32))), .val (.int ((((own_U (own_c p1)).toUInt32 >>> ((16 : Int32) &&& 31).toUInt32).toInt32) &&& (255 : Int32))), .val (.int ((((own_U (own_c p1)).toUInt32 >>> ((24 : Int32) &&& 31).toUInt32).toInt32) &&& (255 : Int32))), .unset] [(.int (((((own_U (own_c p1)).toUInt32 >>> ((8 : Int32) &&& 31).toUInt32).toInt32) &&& (255 : Int32)) &&& (63 : Int32))), (.int ((((own_U (own_c p1)) &&& (255 : Int32)) &&& (15 : Int32)) <<< ((12 : Int32) &&& 31)))])) _
    refine XS.bipush X2.here hx rfl (hb hby at_206) ?_
    show Steps p.tables e below (T2.setTop (mkF m 208 #[.val (.int p1), .val (.int (own_c p1)), .val (.int (own_U (own_c p1))), .val (.int ((own_U (own_c p1)) &&& (255 : Int32))), .val (.int ((((own_U (own_c p1)).toUInt32 >>> ((8 : Int32) &&& 31).toUInt32).toInt32) &&& (255 : Int32))), .val (.int ((((own_U (own_c p1)).toUInt32 >>> ((16 : Int32) &&& 31).toUInt32).toInt32) &&& (255 : Int32))), .val (.int ((((own_U (own_c p1)).toUInt32 >>> ((24 : Int32) &&& 31).toUInt32).toInt32) &&& (255 : Int32))), .unset] [(.int (6 : Int32)), (.int (((((own_U (own_c p1)).toUInt32 >>> ((8 : Int32) &&& 31).toUInt32).toInt32) &&& (255 : Int32)) &&& (63 : Int32))), (.int ((((own_U (own_c p1)) &&& (255 : Int32)) &&& (15 : Int32)) <<< ((12 : Int32) &&& 31)))])) _
    refine XS.ishl X2.here hx rfl (hb hby at_208) rfl ?_
    show Steps p.tables e below (T2.setTop (mkF m 209 #[.val (.int p1), .val (.int (own_c p1)), .val (.int (own_U (own_c p1))), .val (.int ((own_U (own_c p1)) &&& (255 : Int32))), .val (.int ((((own_U (own_c p1)).toUInt32 >>> ((8 : Int32) &&& 31).toUInt32).toInt32) &&& (255 : Int32))), .val (.int ((((own_U (own_c p1)).toUInt32 >>> ((16 : Int32) &&& 31).toUInt32).toInt32) &&& (255 : Int32))), .val (.int ((((own_U (own_c p1)).toUInt32 >>> ((24 : Int32) &&& 31).toUInt32).toInt32) &&& (255 : Int32))), .unset] [(.int ((((((own_U (own_c p1)).toUInt32 >>> ((8 : Int32) &&& 31).toUInt32).toInt32) &&& (255 : Int32)) &&& (63 : Int32)) <<< ((6 : Int32) &&& 31))), (.int ((((own_U (own_c p1)) &&& (255 : Int32)) &&& (15 : Int32)) <<< ((12 : Int32) &&& 31)))])) _
    refine XS.ior X2.here hx rfl (hb hby at_209) rfl ?_
    show Steps p.tables e below (T2.setTop (mkF m 210 #[.val (.int p1), .val (.int (own_c p1)), .val (.int (own_U (own_c p1))), .val (.int ((own_U (own_c p1)) &&& (255 : Int32))), .val (.int ((((own_U (own_c p1)).toUInt32 >>> ((8 : Int32) &&& 31).toUInt32).toInt32) &&& (255 : Int32))), .val (.int ((((own_U (own_c p1)).toUInt32 >>> ((16 : Int32) &&& 31).toUInt32).toInt32) &&& (255 : Int32))), .val (.int ((((own_U (own_c p1)).toUInt32 >>> ((24 : Int32) &&& 31).toUInt32).toInt32) &&& (255 : Int32))), .unset] [(.int (((((own_U (own_c p1)) &&& (255 : Int32)) &&& (15 : Int32)) <<< ((12 : Int32) &&& 31)) ||| ((((((own_U (own_c p1)).toUInt32 >>> ((8 : Int32) &&& 31).toUInt32).toInt32) &&& (255 : Int32)) &&& (63 : Int32)) <<< ((6 : Int32) &&& 31))))])) _
    refine XS.iload X2.here hx rfl (hb hby at_210) rfl ?_
    show Steps p.tables e below (T2.setTop (mkF m 212 #[.val (.int p1), .val (.int (own_c p1)), .val (.int (own_U (own_c p1))), .val (.int ((own_U (own_c p1)) &&& (255 : Int32))), .val (.int ((((own_U (own_c p1)).toUInt32 >>> ((8 : Int32) &&& 31).toUInt32).toInt32) &&& (255 : Int32))), .val (.int ((((own_U (own_c p1)).toUInt32 >>> ((16 : Int32) &&& 31).toUInt32).toInt32) &&& (255 : Int32))), .val (.int ((((own_U (own_c p1)).toUInt32 >>> ((24 : Int32) &&& 31).toUInt32).toInt32) &&& (255 : Int32))), .unset] [(.int ((((own_U (own_c p1)).toUInt32 >>> ((16 : Int32) &&& 31).toUInt32).toInt32) &&& (255 : Int32))), (.int (((((own_U (own_c p1)) &&& (255 : Int32)) &&& (15 : Int32)) <<< ((12 : Int32) &&& 31)) ||| ((((((own_U (own_c p1)).toUInt32 >>> ((8 : Int32) &&& 31).toUInt32).toInt32) &&& (255 : Int32)) &&& (63 : Int32)) <<< ((6 : Int32) &&& 31))))])) _
    refine XS.bipush X2.here hx rfl (hb hby at_212) ?_
    show Steps p.tables e below (T2.setTop (mkF m 214 #[.val (.int p1), .val (.int (own_c p1)), .val (.int (own_U (own_c p1))), .val (.int ((own_U (own_c p1)) &&& (255 : Int32))), .val (.int ((((own_U (own_c p1)).toUInt32 >>> ((8 : Int32) &&& 31).toUInt32).toInt32) &&& (255 : Int32))), .val (.int ((((own_U (own_c p1)).toUInt32 >>> ((16 : Int32) &&& 31).toUInt32).toInt32) &&& (255 : Int32))), .val (.int ((((own_U (own_c p1)).toUInt32 >>> ((24 : Int32) &&& 31).toUInt32).toInt32) &&& (255 : Int32))), .unset] [(.int (63 : Int32)), (.int ((((own_U (own_c p1)).toUInt32 >>> ((16 : Int32) &&& 31).toUInt32).toInt32) &&& (255 : Int32))), (.int (((((own_U (own_c p1)) &&& (255 : Int32)) &&& (15 : Int32)) <<< ((12 : Int32) &&& 31)) ||| ((((((own_U (own_c p1)).toUInt32 >>> ((8 : Int32) &&& 31).toUInt32).toInt32) &&& (255 : Int32)) &&& (63 : Int32)) <<< ((6 : Int32) &&& 31))))])) _
    refine XS.iand X2.here hx rfl (hb hby at_214) rfl ?_
    show Steps p.tables e below (T2.setTop (mkF m 215 #[.val (.int p1), .val (.int (own_c p1)), .val (.int (own_U (own_c p1))), .val (.int ((own_U (own_c p1)) &&& (255 : Int32))), .val (.int ((((own_U (own_c p1)).toUInt32 >>> ((8 : Int32) &&& 31).toUInt32).toInt32) &&& (255 : Int32))), .val (.int ((((own_U (own_c p1)).toUInt32 >>> ((16 : Int32) &&& 31).toUInt32).toInt32) &&& (255 : Int32))), .val (.int ((((own_U (own_c p1)).toUInt32 >>> ((24 : Int32) &&& 31).toUInt32).toInt32) &&& (255 : Int32))), .unset] [(.int (((((own_U (own_c p1)).toUInt32 >>> ((16 : Int32) &&& 31).toUInt32).toInt32) &&& (255 : Int32)) &&& (63 : Int32))), (.int (((((own_U (own_c p1)) &&& (255 : Int32)) &&& (15 : Int32)) <<< ((12 : Int32) &&& 31)) ||| ((((((own_U (own_c p1)).toUInt32 >>> ((8 : Int32) &&& 31).toUInt32).toInt32) &&& (255 : Int32)) &&& (63 : Int32)) <<< ((6 : Int32) &&& 31))))])) _
    refine XS.ior X2.here hx rfl (hb hby at_215) rfl ?_
    show Steps p.tables e below (T2.setTop (mkF m 216 #[.val (.int p1), .val (.int (own_c p1)), .val (.int (own_U (own_c p1))), .val (.int ((own_U (own_c p1)) &&& (255 : Int32))), .val (.int ((((own_U (own_c p1)).toUInt32 >>> ((8 : Int32) &&& 31).toUInt32).toInt32) &&& (255 : Int32))), .val (.int ((((own_U (own_c p1)).toUInt32 >>> ((16 : Int32) &&& 31).toUInt32).toInt32) &&& (255 : Int32))), .val (.int ((((own_U (own_c p1)).toUInt32 >>> ((24 : Int32) &&& 31).toUInt32).toInt32) &&& (255 : Int32))), .unset] [(.int ((((((own_U (own_c p1)) &&& (255 : Int32)) &&& (15 : Int32)) <<< ((12 : Int32) &&& 31)) ||| ((((((own_U (own_c p1)).toUInt32 >>> ((8 : Int32) &&& 31).toUInt32).toInt32) &&& (255 : Int32)) &&& (63 : Int32)) <<< ((6 : Int32) &&& 31))) ||| (((((own_U (own_c p1)).toUInt32 >>> ((16 : Int32) &&& 31).toUInt32).toInt32) &&& (255 : Int32)) &&& (63 : Int32))))])) _
    refine XS.istore X2.here hx rfl (hb hby at_216) rfl (l' := #[.val (.int p1), .val (.int (own_c p1)), .val (.int (own_U (own_c p1))), .val (.int ((own_U (own_c p1)) &&& (255 : Int32))), .val (.int ((((own_U (own_c p1)).toUInt32 >>> ((8 : Int32) &&& 31).toUInt32).toInt32) &&& (255 : Int32))), .val (.int ((((own_U (own_c p1)).toUInt32 >>> ((16 : Int32) &&& 31).toUInt32).toInt32) &&& (255 : Int32))), .val (.int ((((own_U (own_c p1)).toUInt32 >>> ((24 : Int32) &&& 31).toUInt32).toInt32) &&& (255 : Int32))), .val (.int ((((((own_U (own_c p1)) &&& (255 : Int32)) &&& (15 : Int32)) <<< ((12 : Int32) &&& 31)) ||| ((((((own_U (own_c p1)).toUInt32 >>> ((8 : Int32) &&& 31).toUInt32).toInt32) &&& (255 : Int32)) &&& (63 : Int32)) <<< ((6 : Int32) &&& 31))) ||| (((((own_U (own_c p1)).toUInt32 >>> ((16 : Int32) &&& 31).toUInt32).toInt32) &&& (255 : Int32)) &&& (63 : Int32))))]) rfl ?_
    show Steps p.tables e below (T2.setTop (mkF m 218 #[.val (.int p1), .val (.int (own_c p1)), .val (.int (own_U (own_c p1))), .val (.int ((own_U (own_c p1)) &&& (255 : Int32))), .val (.int ((((own_U (own_c p1)).toUInt32 >>> ((8 : Int32) &&& 31).toUInt32).toInt32) &&& (255 : Int32))), .val (.int ((((own_U (own_c p1)).toUInt32 >>> ((16 : Int32) &&& 31).toUInt32).toInt32) &&& (255 : Int32))), .val (.int ((((own_U (own_c p1)).toUInt32 >>> ((24 : Int32) &&& 31).toUInt32).toInt32) &&& (255 : Int32))), .val (.int ((((((own_U (own_c p1)) &&& (255 : Int32)) &&& (15 : Int32)) <<< ((12 : Int32) &&& 31)) ||| ((((((own_U (own_c p1)).toUInt32 >>> ((8 : Int32) &&& 31).toUInt32).toInt32) &&& (255 : Int32)) &&& (63 : Int32)) <<< ((6 : Int32) &&& 31))) ||| (((((own_U (own_c p1)).toUInt32 >>> ((16 : Int32) &&& 31).toUInt32).toInt32) &&& (255 : Int32)) &&& (63 : Int32))))] [])) _
    refine XS.iload X2.here hx rfl (hb hby at_218) rfl ?_
    show Steps p.tables e below (T2.setTop (mkF m 220 #[.val (.int p1), .val (.int (own_c p1)), .val (.int (own_U (own_c p1))), .val (.int ((own_U (own_c p1)) &&& (255 : Int32))), .val (.int ((((own_U (own_c p1)).toUInt32 >>> ((8 : Int32) &&& 31).toUInt32).toInt32) &&& (255 : Int32))), .val (.int ((((own_U (own_c p1)).toUInt32 >>> ((16 : Int32) &&& 31).toUInt32).toInt32) &&& (255 : Int32))), .val (.int ((((own_U (own_c p1)).toUInt32 >>> ((24 : Int32) &&& 31).toUInt32).toInt32) &&& (255 : Int32))), .val (.int ((((((own_U (own_c p1)) &&& (255 : Int32)) &&& (15 : Int32)) <<< ((12 : Int32) &&& 31)) ||| ((((((own_U (own_c p1)).toUInt32 >>> ((8 : Int32) &&& 31).toUInt32).toInt32) &&& (255 : Int32)) &&& (63 : Int32)) <<< ((6 : Int32) &&& 31))) ||| (((((own_U (own_c p1)).toUInt32 >>> ((16 : Int32) &&& 31).toUInt32).toInt32) &&& (255 : Int32)) &&& (63 : Int32))))] [(.int ((((((own_U (own_c p1)) &&& (255 : Int32)) &&& (15 : Int32)) <<< ((12 : Int32) &&& 31)) ||| ((((((own_U (own_c p1)).toUInt32 >>> ((8 : Int32) &&& 31).toUInt32).toInt32) &&& (255 : Int32)) &&& (63 : Int32)) <<< ((6 : Int32) &&& 31))) ||| (((((own_U (own_c p1)).toUInt32 >>> ((16 : Int32) &&& 31).toUInt32).toInt32) &&& (255 : Int32)) &&& (63 : Int32))))])) _
    refine XS.iloadN X2.here hx rfl (hb hby at_220) rfl ?_
    show Steps p.tables e below (T2.setTop (mkF m 221 #[.val (.int p1), .val (.int (own_c p1)), .val (.int (own_U (own_c p1))), .val (.int ((own_U (own_c p1)) &&& (255 : Int32))), .val (.int ((((own_U (own_c p1)).toUInt32 >>> ((8 : Int32) &&& 31).toUInt32).toInt32) &&& (255 : Int32))), .val (.int ((((own_U (own_c p1)).toUInt32 >>> ((16 : Int32) &&& 31).toUInt32).toInt32) &&& (255 : Int32))), .val (.int ((((own_U (own_c p1)).toUInt32 >>> ((24 : Int32) &&& 31).toUInt32).toInt32) &&& (255 : Int32))), .val (.int ((((((own_U (own_c p1)) &&& (255 : Int32)) &&& (15 : Int32)) <<< ((12 : Int32) &&& 31)) ||| ((((((own_U (own_c p1)).toUInt32 >>> ((8 : Int32) &&& 31).toUInt32).toInt32) &&& (255 : Int32)) &&& (63 : Int32)) <<< ((6 : Int32) &&& 31))) ||| (((((own_U (own_c p1)).toUInt32 >>> ((16 : Int32) &&& 31).toUInt32).toInt32) &&& (255 : Int32)) &&& (63 : Int32))))] [(.int (own_c p1)), (.int ((((((own_U (own_c p1)) &&& (255 : Int32)) &&& (15 : Int32)) <<< ((12 : Int32) &&& 31)) ||| ((((((own_U (own_c p1)).toUInt32 >>> ((8 : Int32) &&& 31).toUInt32).toInt32) &&& (255 : Int32)) &&& (63 : Int32)) <<< ((6 : Int32) &&& 31))) ||| (((((own_U (own_c p1)).toUInt32 >>> ((16 : Int32) &&& 31).toUInt32).toInt32) &&& (255 : Int32)) &&& (63 : Int32))))])) _
    refine XS.icmpNo X2.here hx rfl (hb hby at_221) rfl (teq ho5).2 ?_
    show Steps p.tables e below (T2.setTop (mkF m 224 #[.val (.int p1), .val (.int (own_c p1)), .val (.int (own_U (own_c p1))), .val (.int ((own_U (own_c p1)) &&& (255 : Int32))), .val (.int ((((own_U (own_c p1)).toUInt32 >>> ((8 : Int32) &&& 31).toUInt32).toInt32) &&& (255 : Int32))), .val (.int ((((own_U (own_c p1)).toUInt32 >>> ((16 : Int32) &&& 31).toUInt32).toInt32) &&& (255 : Int32))), .val (.int ((((own_U (own_c p1)).toUInt32 >>> ((24 : Int32) &&& 31).toUInt32).toInt32) &&& (255 : Int32))), .val (.int ((((((own_U (own_c p1)) &&& (255 : Int32)) &&& (15 : Int32)) <<< ((12 : Int32) &&& 31)) ||| ((((((own_U (own_c p1)).toUInt32 >>> ((8 : Int32) &&& 31).toUInt32).toInt32) &&& (255 : Int32)) &&& (63 : Int32)) <<< ((6 : Int32) &&& 31))) ||| (((((own_U (own_c p1)).toUInt32 >>> ((16 : Int32) &&& 31).toUInt32).toInt32) &&& (255 : Int32)) &&& (63 : Int32))))] [])) _
    refine XS.iconst X2.here hx rfl (hb hby at_224) ?_
    show Steps p.tables e below (T2.setTop (mkF m 225 #[.val (.int p1), .val (.int (own_c p1)), .val (.int (own_U (own_c p1))), .val (.int ((own_U (own_c p1)) &&& (255 : Int32))), .val (.int ((((own_U (own_c p1)).toUInt32 >>> ((8 : Int32) &&& 31).toUInt32).toInt32) &&& (255 : Int32))), .val (.int ((((own_U (own_c p1)).toUInt32 >>> ((16 : Int32) &&& 31).toUInt32).toInt32) &&& (255 : Int32))), .val (.int ((((own_U (own_c p1)).toUInt32 >>> ((24 : Int32) &&& 31).toUInt32).toInt32) &&& (255 : Int32))), .val (.int ((((((own_U (own_c p1)) &&& (255 : Int32)) &&& (15 : Int32)) <<< ((12 : Int32) &&& 31)) ||| ((((((own_U (own_c p1)).toUInt32 >>> ((8 : Int32) &&& 31).toUInt32).toInt32) &&& (255 : Int32)) &&& (63 : Int32)) <<< ((6 : Int32) &&& 31))) ||| (((((own_U (own_c p1)).toUInt32 >>> ((16 : Int32) &&& 31).toUInt32).toInt32) &&& (255 : Int32)) &&& (63 : Int32))))] [(.int (1 : Int32))])) _
    refine XS.goto X2.here hx rfl (pc0 := 225) (pc' := 229) rfl (hb hby at_225) (by decide) (by decide) ?_
    show Steps p.tables e below (T2.setTop (mkF m 229 #[.val (.int p1), .val (.int (own_c p1)), .val (.int (own_U (own_c p1))), .val (.int ((own_U (own_c p1)) &&& (255 : Int32))), .val (.int ((((own_U (own_c p1)).toUInt32 >>> ((8 : Int32) &&& 31).toUInt32).toInt32) &&& (255 : Int32))), .val (.int ((((own_U (own_c p1)).toUInt32 >>> ((16 : Int32) &&& 31).toUInt32).toInt32) &&& (255 : Int32))), .val (.int ((((own_U (own_c p1)).toUInt32 >>> ((24 : Int32) &&& 31).toUInt32).toInt32) &&& (255 : Int32))), .val (.int ((((((own_U (own_c p1)) &&& (255 : Int32)) &&& (15 : Int32)) <<< ((12 : Int32) &&& 31)) ||| ((((((own_U (own_c p1)).toUInt32 >>> ((8 : Int32) &&& 31).toUInt32).toInt32) &&& (255 : Int32)) &&& (63 : Int32)) <<< ((6 : Int32) &&& 31))) ||| (((((own_U (own_c p1)).toUInt32 >>> ((16 : Int32) &&& 31).toUInt32).toInt32) &&& (255 : Int32)) &&& (63 : Int32))))] [(.int (1 : Int32))])) _
    exact retN X2 hx (t := .boolean) Bd.returns (by simp) (hb hby at_229) hr
  · show Q0 Z p1 h0 n0 _ T2.heap _
    exact ⟨rfl, N2⟩
theorem own_cb (p1 : Int32) : (own_c p1).toBitVec.toNat < 65536 := by
  have e : (own_c p1).toBitVec = ((p1 &&& (65535 : Int32)).toBitVec.setWidth 16).setWidth 32 := rfl
  rw [e, BitVec.toNat_setWidth, BitVec.toNat_setWidth]
  omega
theorem own_lt {c : Int32} (hb : c.toBitVec.toNat < 65536) (h : c < 2048) : c.toBitVec.toNat < 2048 := by
  rw [Int32.lt_iff_toInt_lt] at h
  have e : c.toInt = c.toBitVec.toNat := BitVec.toInt_eq_toNat_of_lt (by omega)
  have q : (2048 : Int32).toInt = 2048 := by decide
  omega
theorem own_r6 (x : Int32) : ((x.toUInt32 >>> ((6 : Int32) &&& 31).toUInt32).toInt32).toBitVec = x.toBitVec >>> 6 := rfl
theorem own_r8 (x : Int32) : ((x.toUInt32 >>> ((8 : Int32) &&& 31).toUInt32).toInt32).toBitVec = x.toBitVec >>> 8 := rfl
theorem own_r12 (x : Int32) : ((x.toUInt32 >>> ((12 : Int32) &&& 31).toUInt32).toInt32).toBitVec = x.toBitVec >>> 12 := rfl
theorem own_r16 (x : Int32) : ((x.toUInt32 >>> ((16 : Int32) &&& 31).toUInt32).toInt32).toBitVec = x.toBitVec >>> 16 := rfl
theorem own_r24 (x : Int32) : ((x.toUInt32 >>> ((24 : Int32) &&& 31).toUInt32).toInt32).toBitVec = x.toBitVec >>> 24 := rfl
theorem own_l6 (x : Int32) : (x <<< ((6 : Int32) &&& 31)).toBitVec = x.toBitVec <<< 6 := rfl
theorem own_l8 (x : Int32) : (x <<< ((8 : Int32) &&& 31)).toBitVec = x.toBitVec <<< 8 := rfl
theorem own_l12 (x : Int32) : (x <<< ((12 : Int32) &&& 31)).toBitVec = x.toBitVec <<< 12 := rfl
theorem own_l16 (x : Int32) : (x <<< ((16 : Int32) &&& 31)).toBitVec = x.toBitVec <<< 16 := rfl
theorem own_hi {x : BitVec 32} {k : Nat} (h : x.toNat < 2 ^ k) (j : Nat) (hj : k ≤ j) : x.getLsbD j = false := by
  rw [← BitVec.testBit_toNat]; exact Nat.testBit_lt_two_pow (Nat.lt_of_lt_of_le h (Nat.pow_le_pow_right (by decide) hj))
theorem own_b2 (c U : Int32) (hb : c.toBitVec.toNat < 2048) (hU : U = own_u2 c) : ((((U.toUInt32 >>> ((16 : Int32) &&& 31).toUInt32).toInt32) &&& (255 : Int32)) = (0 : Int32)) ∧ ((((U.toUInt32 >>> ((24 : Int32) &&& 31).toUInt32).toInt32) &&& (255 : Int32)) = (0 : Int32)) ∧ (((U &&& (255 : Int32)) &&& (224 : Int32)) = (192 : Int32)) ∧ (((((U.toUInt32 >>> ((8 : Int32) &&& 31).toUInt32).toInt32) &&& (255 : Int32)) &&& (192 : Int32)) = (128 : Int32)) ∧ (((((U &&& (255 : Int32)) &&& (31 : Int32)) <<< ((6 : Int32) &&& 31)) ||| ((((U.toUInt32 >>> ((8 : Int32) &&& 31).toUInt32).toInt32) &&& (255 : Int32)) &&& (63 : Int32))) = c) := by
  subst hU
  have h := own_hi (k := 11) hb
  simp only [← Int32.toBitVec_inj, own_u2, Int32.toBitVec_or, Int32.toBitVec_and, own_r6, own_r8, own_r12, own_r16, own_r24, own_l6, own_l8, own_l12, own_l16, Int32.toBitVec_ofNat]
  generalize c.toBitVec = x at *
  have h' : ∀ (j : Nat) (hj : j < 32), 11 ≤ j → x[j] = false := fun j hj q => by rw [← BitVec.getLsbD_eq_getElem]; exact h j q
  refine ⟨?_, ?_, ?_, ?_, ?_⟩ <;> refine BitVec.eq_of_getLsbD_eq fun n hn => ?_
  all_goals
    rcases (by omega : n = 0 ∨ n = 1 ∨ n = 2 ∨ n = 3 ∨ n = 4 ∨ n = 5 ∨ n = 6 ∨ n = 7 ∨ n = 8 ∨ n = 9 ∨ n = 10 ∨ n = 11 ∨ n = 12 ∨ n = 13 ∨ n = 14 ∨ n = 15 ∨ n = 16 ∨ n = 17 ∨ n = 18 ∨ n = 19 ∨ n = 20 ∨ n = 21 ∨ n = 22 ∨ n = 23 ∨ n = 24 ∨ n = 25 ∨ n = 26 ∨ n = 27 ∨ n = 28 ∨ n = 29 ∨ n = 30 ∨ n = 31) with rfl | rfl | rfl | rfl | rfl | rfl | rfl | rfl | rfl | rfl | rfl | rfl | rfl | rfl | rfl | rfl | rfl | rfl | rfl | rfl | rfl | rfl | rfl | rfl | rfl | rfl | rfl | rfl | rfl | rfl | rfl | rfl <;> simp [h, h']
theorem own_b3 (c U : Int32) (hb : c.toBitVec.toNat < 65536) (hU : U = own_u3 c) : ((((U.toUInt32 >>> ((24 : Int32) &&& 31).toUInt32).toInt32) &&& (255 : Int32)) = (0 : Int32)) ∧ (((U &&& (255 : Int32)) &&& (240 : Int32)) = (224 : Int32)) ∧ (((((U.toUInt32 >>> ((8 : Int32) &&& 31).toUInt32).toInt32) &&& (255 : Int32)) &&& (192 : Int32)) = (128 : Int32)) ∧ (((((U.toUInt32 >>> ((16 : Int32) &&& 31).toUInt32).toInt32) &&& (255 : Int32)) &&& (192 : Int32)) = (128 : Int32)) ∧ ((((((U &&& (255 : Int32)) &&& (15 : Int32)) <<< ((12 : Int32) &&& 31)) ||| (((((U.toUInt32 >>> ((8 : Int32) &&& 31).toUInt32).toInt32) &&& (255 : Int32)) &&& (63 : Int32)) <<< ((6 : Int32) &&& 31))) ||| ((((U.toUInt32 >>> ((16 : Int32) &&& 31).toUInt32).toInt32) &&& (255 : Int32)) &&& (63 : Int32))) = c) := by
  subst hU
  have h := own_hi (k := 16) hb
  simp only [← Int32.toBitVec_inj, own_u3, Int32.toBitVec_or, Int32.toBitVec_and, own_r6, own_r8, own_r12, own_r16, own_r24, own_l6, own_l8, own_l12, own_l16, Int32.toBitVec_ofNat]
  generalize c.toBitVec = x at *
  have h' : ∀ (j : Nat) (hj : j < 32), 16 ≤ j → x[j] = false := fun j hj q => by rw [← BitVec.getLsbD_eq_getElem]; exact h j q
  refine ⟨?_, ?_, ?_, ?_, ?_⟩ <;> refine BitVec.eq_of_getLsbD_eq fun n hn => ?_
  all_goals
    rcases (by omega : n = 0 ∨ n = 1 ∨ n = 2 ∨ n = 3 ∨ n = 4 ∨ n = 5 ∨ n = 6 ∨ n = 7 ∨ n = 8 ∨ n = 9 ∨ n = 10 ∨ n = 11 ∨ n = 12 ∨ n = 13 ∨ n = 14 ∨ n = 15 ∨ n = 16 ∨ n = 17 ∨ n = 18 ∨ n = 19 ∨ n = 20 ∨ n = 21 ∨ n = 22 ∨ n = 23 ∨ n = 24 ∨ n = 25 ∨ n = 26 ∨ n = 27 ∨ n = 28 ∨ n = 29 ∨ n = 30 ∨ n = 31) with rfl | rfl | rfl | rfl | rfl | rfl | rfl | rfl | rfl | rfl | rfl | rfl | rfl | rfl | rfl | rfl | rfl | rfl | rfl | rfl | rfl | rfl | rfl | rfl | rfl | rfl | rfl | rfl | rfl | rfl | rfl | rfl <;> simp [h, h']
theorem rm0 (l : Launch) (Z : State) (a0 : Array Value) (hw : ∀ d ∈ tables_1, d.before a0 Z = true) (ws : List Jvm.Cond) (p1 : Int32) (h0 : Heap) (n0 : Nat) (Z0 : n0 ≤ h0.size) :
    MetFree l x (head1 (Jvm.Cond.code x code maxLocals ret :: ws) room_1) (fun a U => a = #[(.int p1)] ∧ Z.Warmed39 U.vm ∧ U.heap = h0) (fun _ _ _ _ _ => True) (fun _ U o U' => ∃ v L, o = .returned v ∧ Q0 Z p1 h0 n0 v U'.heap L ∧ FrameEnd U o U' L room_1.cells room_1.slots) := by
  have hb := own_cb p1
  by_cases hc9 : own_c p1 < (55296 : Int32)
  · by_cases hc65 : own_c p1 < (128 : Int32)
    · exact own_rm0_tff l Z a0 hw ws p1 h0 n0 Z0 (by rw [own_U, if_pos hc65]) hc9 hc65
    · by_cases hc83 : own_c p1 < (2048 : Int32)
      · obtain ⟨x0, x1, x2, x3, x4⟩ := own_b2 (own_c p1) (own_U (own_c p1)) (own_lt hb hc83) (by rw [own_U, if_neg hc65, if_pos hc83])
        exact own_rm0_ttfftftf l Z a0 hw ws p1 h0 n0 Z0 x0 x1 x2 x3 x4 hc9 hc65 hc83
      · obtain ⟨x0, x1, x2, x3, x4⟩ := own_b3 (own_c p1) (own_U (own_c p1)) hb (by rw [own_U, if_neg hc65, if_neg hc83])
        exact own_rm0_ttttfftf l Z a0 hw ws p1 h0 n0 Z0 x0 x1 x2 x3 x4 hc9 hc65 hc83
  · by_cases hc15 : (57343 : Int32) < own_c p1
    · have hc65 : ¬ own_c p1 < (128 : Int32) := fun h => hc9 (Int32.lt_trans h (by decide))
      have hc83 : ¬ own_c p1 < (2048 : Int32) := fun h => hc9 (Int32.lt_trans h (by decide))
      obtain ⟨x0, x1, x2, x3, x4⟩ := own_b3 (own_c p1) (own_U (own_c p1)) hb (by rw [own_U, if_neg hc65, if_neg hc83])
      exact own_rm0_fttttfftf l Z a0 hw ws p1 h0 n0 Z0 x0 x1 x2 x3 x4 hc9 hc15 hc65 hc83
    · exact own_rm0_ff l Z a0 hw ws p1 h0 n0 Z0 hc9 hc15
set_option maxRecDepth 65536 in
set_option maxHeartbeats 40000000 in
theorem comes_1 {Post : Tables → Env → Array Value → State → Outcome → State → Prop} (hpost : ∀ tb e args s v u, (limb_1_1.after args s (.returned v) u = true ∧ limb_1_2.after args s (.returned v) u = true ∧ True) → FrameEnd s (.returned v) u (Jvm.fieldLocs frame_1_writes args s ++ Jvm.arrayLocs frame_1_arrays args s ++ Jvm.staticLocs frame_1_statics s) 0 0 → Post tb e args s (.returned v) u) :
    ArmFor flags0 classFile x code maxLocals ret World_1 tables_1 room_1 Calls_1 rest_1 Pre_1 Post := by
  intro l hfl _ _ p e ha hc hk s m args below hf hA hF happ hP
  obtain ⟨hcalls, hrest, hpre⟩ := hP
  obtain ⟨-, -, -, hnamed, -, -, -, hat⟩ := (Spec.applies_iff hf).mp happ
  obtain ⟨hg, hn⟩ := and_e (Cond.before_iff.mp (show (Jvm.Cond.and given_1 narrow_1).before args s = true from hpre))
  obtain ⟨g3, g4⟩ := and_e hg
  obtain ⟨w0, rfl⟩ : ∃ w0 : Value, args = #[w0] := by
    have hs : args.size = 1 := by simpa [Cond.value, given_1] using g3
    obtain ⟨L⟩ := args
    match L, hs with
    | [w0], _ => exact ⟨w0, rfl⟩
  have hw := fun d (hd : d ∈ tables_1) => atoms_spec (ws := Jvm.Cond.code x code maxLocals ret :: tables_1) hat d (List.mem_cons_of_mem _ hd)
  have hfit : Fit s := fun {y c} hc i hi => by
    obtain ⟨ha, rfl⟩ := Array.getElem?_eq_some_iff.mp hc
    have q := List.all_eq_true.mp ((Array.all_eq_true_iff_forall_mem.mp hF) _ (Array.getElem_mem ha)) i (List.mem_range.mpr hi)
    simpa [Array.getElem?_eq_getElem hi] using q
  obtain ⟨i0, ei0⟩ := is_v g4
  obtain rfl : w0 = (.int i0) := Option.some.inj ei0
  obtain ⟨n, o, h1, h2, h3, _, L, rfl, ⟨rfl, N⟩, hq⟩ := rm0 l s _ hw tables_1 i0 s.heap s.heap.size (Nat.le_refl _) p e ha hc hk s m _ below hf ((Spec.applies_iff_loose hf).mp happ).1 ⟨rfl, State.Warmed39.refl s, rfl⟩ trivial
  refine ⟨n, _, h1, h2, h3, hpost _ _ _ _ _ _ ⟨Cond.after_iff.mpr rfl, Cond.after_iff.mpr (eq_i res_at (Term.int_eval (1)) rfl), trivial⟩ ⟨hq.1, hq.2.1, (hq.2.2.sift fun y hy => Or.inr (N y hy)).mono (by decide) (by decide)⟩⟩
theorem main_1_1 : Claimed_1_1 := comes_1 fun _ _ _ _ _ _ h hF => ⟨h.1, hF⟩
theorem main_1_2 : Claimed_1_2 := comes_1 fun _ _ _ _ _ _ h hF => ⟨h.2.1, hF⟩
end Jvm.Pilot.@@N@@
namespace Jvm.Pilot.@@N@@
open Jvm Jvm.ClassFile Sem Op Lib Jvm.Free Jvm.Stand Jvm.Pilot.@@N@@.Jvm.D
/-! MADE BY PROGRAM (witnessworld.py) out of the Statement's table words and the real class files: 9 classes; the members and pool entries that the words name. The judged class is class 1, her method 1. -/
namespace start1
open Jvm.ClassFile
def u (s : String) : CpInfo := .utf8 (stringToUtf16 s)
/-- a pool by its gaps: so many unusable entries, then the entry; so many at the end -/
def gap : Nat → List CpInfo → List CpInfo
  | 0, r => r
  | n + 1, r => .unusable :: gap n r
def poolList (es : List (Nat × CpInfo)) (last : Nat) : List CpInfo := es.foldr (fun e r => gap e.1 (e.2 :: r)) (gap last [])
def pool (es : List (Nat × CpInfo)) (last : Nat) : Array CpInfo := ⟨poolList es last⟩
def fileOf (pool : Array CpInfo) (this : Nat) (attrs : Array Attribute := #[]) (ms : Array MethodInfo := #[]) (fl : Nat := 33) (sup : Nat := 0) (ifs : Array Nat := #[]) (fds : Array FieldInfo := #[]) : ClassFile where
  minorVersion := 0
  majorVersion := 65
  constantPool := pool
  accessFlags := fl
  thisClass := this
  superClass := sup
  interfaces := ifs
  fields := fds
  methods := ms
  attributes := attrs
def plain (name : String) (sup : Option ClassId) : Class where
  name := name
  kind := .ordinary
  loader := none
  accessFlags := 33
  super := sup
  interfaces := #[]
  cf := none
  fields := #[]
  methods := #[]
  instanceTypes := #[]
  staticTypes := #[]
  resolved := #[]
  callSites := []
  init := .initialized
  statics := none
  mirror := none

def pool0 : Array CpInfo := pool [(5, u "<init>"), (0, u "()V"), (1, .class_ 10), (1, u "java/lang/Object")] 113

def k0m0 : Method := { name := "<init>", desc := "()V", sig := { parameters := [], returnType := none }, accessFlags := 1, code := none }
/-- java/lang/Object -/
def k0 : Class := { plain "java/lang/Object" none with
  accessFlags := 33
  interfaces := #[]
  cf := some (fileOf pool0 8 #[] #[{ accessFlags := 1, nameIndex := 5, descriptorIndex := 6, attributes := #[] }] 33 0 #[] #[])
  fields := #[]
  methods := #[k0m0]
  instanceTypes := #[]
  staticTypes := #[]
  resolved := Array.replicate 124 none
  statics := none }

def pool1 : Array CpInfo := pool [(2, .class_ 4), (1, u "java/lang/Object"), (0, u "<init>"), (0, u "()V"), (0, .integer 65535), (0, .integer 55296), (0, .integer 57343), (0, .interfaceMethodref 11 12), (0, .class_ 13), (0, .nameAndType 14 15), (0, u "com/example/taster/taster/io/Translation"), (0, u "utf8"), (0, u "(C)I"), (0, .class_ 17), (0, u "com/example/taster/taster/io/TranslationUtf8PinLaw"), (2, u "law"), (0, u "(I)Z")] 3

def k1m0 : Method := { name := "<init>", desc := "()V", sig := { parameters := [], returnType := none }, accessFlags := 2, code := none }
def k1c1 : Code := { maxStack := 3, maxLocals := 8, code := code, exceptionTable := #[], attributes := #[] }
def k1m1 : Method := { name := "law", desc := "(I)Z", sig := { parameters := [.int], returnType := some .boolean }, accessFlags := 9, code := some k1c1 }
/-- com/example/taster/taster/io/TranslationUtf8PinLaw -/
def k1 : Class := { plain "com/example/taster/taster/io/TranslationUtf8PinLaw" (some 0) with
  accessFlags := 49
  interfaces := #[]
  cf := some (fileOf pool1 16 #[] #[{ accessFlags := 2, nameIndex := 5, descriptorIndex := 6, attributes := #[] }, { accessFlags := 9, nameIndex := 20, descriptorIndex := 21, attributes := #[] }] 49 2 #[] #[])
  fields := #[]
  methods := #[k1m0, k1m1]
  instanceTypes := #[]
  staticTypes := #[]
  resolved := Array.replicate 25 none
  statics := none }

def pool2 : Array CpInfo := pool [(5, .integer 32960), (0, .integer 8421600), (0, .class_ 8), (0, u "com/example/taster/taster/io/Translation"), (0, .class_ 10), (0, u "java/lang/Object"), (5, u "utf8"), (0, u "(C)I")] 10

def k2c0 : Code := { maxStack := 3, maxLocals := 1, code := prog_63_method_2_code, exceptionTable := #[], attributes := #[] }
def k2m0 : Method := { name := "utf8", desc := "(C)I", sig := { parameters := [.char], returnType := some .int }, accessFlags := 9, code := some k2c0 }
/-- com/example/taster/taster/io/Translation -/
def k2 : Class := { plain "com/example/taster/taster/io/Translation" (some 0) with
  accessFlags := 1536
  interfaces := #[]
  cf := some (fileOf pool2 7 #[] #[{ accessFlags := 9, nameIndex := 16, descriptorIndex := 17, attributes := #[] }] 1536 9 #[] #[])
  fields := #[]
  methods := #[k2m0]
  instanceTypes := #[]
  staticTypes := #[]
  resolved := Array.replicate 28 none
  statics := none }

def pool3 : Array CpInfo := pool [(1, u "java/lang/Cloneable"), (0, .class_ 1), (0, u "java/lang/Object"), (0, .class_ 3)] 3

/-- java/lang/Cloneable -/
def k3 : Class := { plain "java/lang/Cloneable" (some 0) with
  accessFlags := 1537
  interfaces := #[]
  cf := some (fileOf pool3 2 #[] #[] 1537 4 #[] #[])
  fields := #[]
  methods := #[]
  instanceTypes := #[]
  staticTypes := #[]
  resolved := Array.replicate 8 none
  statics := none }

def pool4 : Array CpInfo := pool [(1, u "java/io/Serializable"), (0, .class_ 1), (0, u "java/lang/Object"), (0, .class_ 3)] 3

/-- java/io/Serializable -/
def k4 : Class := { plain "java/io/Serializable" (some 0) with
  accessFlags := 1537
  interfaces := #[]
  cf := some (fileOf pool4 2 #[] #[] 1537 4 #[] #[])
  fields := #[]
  methods := #[]
  instanceTypes := #[]
  staticTypes := #[]
  resolved := Array.replicate 8 none
  statics := none }

/-- the primitive byte -/
def k5 : Class := { plain "byte" none with kind := .primitive 'B', accessFlags := 0x411 }
/-- [B -/
def k6 : Class := { plain "[B" (some 0) with kind := .array 5 .byte, interfaces := #[3, 4], accessFlags := 1041 }

/-- the primitive int -/
def k7 : Class := { plain "int" none with kind := .primitive 'I', accessFlags := 0x411 }
/-- [I -/
def k8 : Class := { plain "[I" (some 0) with kind := .array 7 .int, interfaces := #[3, 4], accessFlags := 1041 }

def heap : Heap := #[]
def classes : Array Class := #[k0, k1, k2, k3, k4, k5, k6, k7, k8]
def interned : List (Array UInt16 × Addr) := []
def slotsUsed : Nat := 0
def theMethod : MethodId := ⟨1, 1⟩
def args0 : Array Value := #[.int 233]
def aboutOver (below : List Frame) : State where
  vm := { classes := classes, interned := interned.toArray }
  heap := heap
  slotsUsed := slotsUsed
  threads := #[{ frames := .invoking theMethod args0 :: below }]
def below0 : List Frame := [.native { method := ⟨0, 0⟩, args := #[] }]
def about1 : State := aboutOver below0
def p0 : Program := .bare "" "" ""
def e0 : Env := launch0.env 0 0 0
theorem w_frames : about1.frames = Frame.invoking theMethod args0 :: below0 := rfl
set_option maxRecDepth 65536 in
theorem w_args : argsFit about1.vm theMethod args0 = true := by decide +kernel
set_option maxRecDepth 65536 in
theorem w_heap : heapFits about1 = true := by decide +kernel
set_option maxRecDepth 65536 in
theorem w_runnable : about1.curStatus? = some .runnable := by decide +kernel
set_option maxRecDepth 65536 in
theorem w_alone : about1.alone = true := by decide +kernel
set_option maxRecDepth 65536 in
theorem w_named : about1.methodNamed? x = some theMethod := by decide +kernel
set_option maxRecDepth 65536 in
theorem w_hears : about1.hears theMethod below0 = true := by decide +kernel
set_option maxRecDepth 65536 in
theorem w_ripe : about1.ripe theMethod args0 below0 = true := by decide +kernel
theorem w_running : about1.status = .running := rfl
set_option maxRecDepth 65536 in
theorem w_room : about1.hasRoom e0.platform room_1 = true :=
  launch0.hasRoom_least _ room_1 (by decide +kernel) (by decide +kernel) (by decide +kernel) (by decide +kernel) (by decide +kernel) (by decide +kernel)
theorem allAtoms_all (ts : List Jvm.Cond) (a : Array Jvm.Value) (st : Jvm.State) : (allAtoms ts).before a st = ts.all (fun c => c.before a st) := by
  induction ts with
  | nil => rfl
  | cons c t ih =>
    show (Jvm.Cond.and c (allAtoms t)).before a st = _
    rw [Jvm.Cond.before_and, ih, List.all_cons]
def words1 : List Jvm.Cond := Jvm.Cond.code x code maxLocals ret :: tables_1
/-- a 'code' word, met by the world's own term for the bytes: nothing is compared byte by byte -/
theorem code_word {y : MethodName} {bytes : ByteArray} {mx : Nat} {rt : Option FieldType} {a : Array Value} {s : State} {m : MethodId} {meth : Method} {c : Code} (h1 : s.methodNamed? y = some m) (h2 : s.vm.method? m = some meth) (h3 : meth.code = some c) (h4 : c.code = bytes)
    (h5 : (c.maxLocals == mx && c.exceptionTable.isEmpty && decide (c.maxStack ≤ mostOperands) && decide (meth.sig.returnType = rt) && !meth.locks && decide (parseMethodDescriptor y.desc = some meth.sig)) = true) : (Jvm.Cond.code y bytes mx rt).before a s = true := by
  simp only [Bool.and_eq_true, beq_iff_eq, Bool.not_eq_true', decide_eq_true_eq] at h5
  obtain ⟨⟨⟨⟨⟨g1, g2⟩, g3⟩, g4⟩, g5⟩, g6⟩ := h5
  simp [Cond.before, Cond.holds, Cond.value, h1, h2, h3, h4, g1, g2, g3, g4, g5, g6]
def isCode : Jvm.Cond → Bool
  | .code _ _ _ _ => true
  | _ => false
theorem all_split {L : List Jvm.Cond} {P : Jvm.Cond → Bool} (h1 : L.all (fun c => isCode c || P c) = true) (h2 : ∀ c ∈ L.filter isCode, P c = true) : L.all P = true := by
  refine List.all_eq_true.mpr fun c hc => ?_
  have h := List.all_eq_true.mp h1 c hc
  rcases Bool.eq_false_or_eq_true (isCode c) with hi | hi
  · exact h2 c (List.mem_filter.mpr ⟨hc, hi⟩)
  · simpa [hi] using h
set_option maxRecDepth 65536 in
theorem w_c0 : (Jvm.Cond.code x code maxLocals ret).before args0 about1 = true := code_word (m := ⟨1, 1⟩) (meth := k1m1) (c := k1c1) (by decide +kernel) rfl rfl rfl (by decide +kernel)
set_option maxRecDepth 65536 in
theorem w_c1 : (Jvm.Cond.code ({ cls := "com/example/taster/taster/io/Translation", name := "utf8", desc := "(C)I" } : Jvm.MethodName) prog_63_method_2_code (1 : Nat) (Option.some Jvm.ClassFile.FieldType.int)).before args0 about1 = true := code_word (m := ⟨2, 0⟩) (meth := k2m0) (c := k2c0) (by decide +kernel) rfl rfl rfl (by decide +kernel)
def codes1 : List Jvm.Cond := [Jvm.Cond.code x code maxLocals ret, Jvm.Cond.code ({ cls := "com/example/taster/taster/io/Translation", name := "utf8", desc := "(C)I" } : Jvm.MethodName) prog_63_method_2_code (1 : Nat) (Option.some Jvm.ClassFile.FieldType.int)]
set_option maxRecDepth 65536 in
theorem codes_eq : words1.filter isCode = codes1 := rfl
theorem w_codes : ∀ c ∈ words1.filter isCode, c.before args0 about1 = true := by
  rw [codes_eq]
  intro c hc
  simp only [codes1, List.mem_cons, List.not_mem_nil, or_false] at hc
  rcases hc with rfl | rfl
  · exact w_c0
  · exact w_c1
set_option maxRecDepth 65536 in
theorem w_t1 : words1.all (fun c => isCode c || c.before args0 about1) = true := by decide +kernel
theorem w_tables : (allAtoms (Jvm.Cond.code x code maxLocals ret :: tables_1)).before args0 about1 = true := by
  rw [allAtoms_all]
  show words1.all (fun c => c.before args0 about1) = true
  refine all_split ?_ w_codes
  rw [w_t1]
set_option maxRecDepth 65536 in
theorem w_case : (Jvm.Cond.and given_1 narrow_1).before args0 about1 = true := by decide +kernel
theorem w_applies : (headSpec (Jvm.Cond.code x code maxLocals ret :: tables_1) room_1).applies x e0.platform about1 = true :=
  (Spec.applies_iff w_frames).mpr ⟨w_running, w_runnable, w_alone, w_named, w_hears, w_ripe, w_room, w_tables⟩
theorem atStart : AtStart classFile x code maxLocals ret World_1 tables_1 room_1 Calls_1 rest_1 Pre_1 launch0 p0 e0 about1 theMethod args0 below0 :=
  ⟨lists_1, trivial, launch0.admits_env _ _ _, launch0.least_env, fairChoices_fair.cas, fairChoices_fair.clock, w_frames, w_args, w_heap, w_applies, trivial, trivial, w_case⟩
end start1
theorem witness_1 : WitnessClaimed_1 := ⟨start1.p0, start1.e0, start1.about1, start1.theMethod, start1.args0, start1.below0, start1.atStart⟩
end Jvm.Pilot.@@N@@
