import JvmDerived
import JvmDerived.Pilot.@@N@@Statement
import JvmDerived.Pilot.@@N@@Code
set_option linter.unusedVariables false
set_option linter.unusedSimpArgs false
namespace Jvm.RoadKit
open Sem ClassFile Op Lib Jvm.Stand Jvm.Free Jvm.LawKit
section New
variable {p : Program} {l : Launch} {e : Env} {R : Room} {s : State} {m : MethodId} {args : Array Value} {below : List Frame} {meth : Method} {c : Code} {T : State} {locs : List Loc} {cells slots : Nat}
theorem retI (X : Stand p l e R s m args below meth c T locs cells slots) (hx : p.tables.exec = Jvm.exec) {pc : Nat} {Ls : Array Slot} {z : Int32} {rest : List Value} (hret : meth.sig.returnType = some .int) (hd : decode c.code pc = .ok (.ireturn, 1)) {fs : List Frame}
    (hl : ∀ (f : JFrame) (acts : List Action), f.method = m → f.locked = none → f.entered = [] → (doReturn e (T.setTop f) acts (some (.int z))).1 = T.setFrames fs) : Steps p.tables e below (T.setTop (mkF m pc Ls (.int z :: rest))) (T.setFrames fs) := by
  have hm' : T.vm.method? m = some meth := X.method'
  have hn : narrow .int (.int z) = .int z := rfl
  show Steps p.tables e below (T.setTop { method := m, pc := pc, locals := Ls, stack := _ :: rest, locked := none }) _
  jvm_step X.here [X.here.top, hx, hd, hm', hret, hn]
  first | (intro acts; rw [hl _ acts rfl rfl rfl]) | rw [hl _ _ rfl rfl rfl]
  exact Steps.refl _
end New
end Jvm.RoadKit
namespace Jvm.Pilot.@@N@@
open Jvm Jvm.ClassFile Sem Op Lib Jvm.Free Jvm.Stand Jvm.LawKit Jvm.RoadKit Bundle Jvm.Pilot.@@N@@.Jvm.D
def own_Q (r : Option Value) (h0 : Heap) (n0 : Nat) (v : Option Value) (h : Heap) (L : List Loc) : Prop := v = r ∧ Fr n0 L ∧ h = h0
def own_u1 (x0 : Int32) : Int32 := ((0 : Int32) ||| ((1 : Int32) <<< (x0 &&& 31)))
def own_u2 (x0 x1 : Int32) : Int32 := (own_u1 x0 ||| ((1 : Int32) <<< (x1 &&& 31)))
def own_u3 (x0 x1 x2 : Int32) : Int32 := (own_u2 x0 x1 ||| ((1 : Int32) <<< (x2 &&& 31)))
theorem d1_0 : decode prog_52_method_10_code 0 = .ok (.iconst 0, 1) := by decide +kernel
theorem d1_1 : decode prog_52_method_10_code 1 = .ok (.istore_n 1, 1) := by decide +kernel
theorem d1_2 : decode prog_52_method_10_code 2 = .ok (.aload_n 0, 1) := by decide +kernel
theorem d1_3 : decode prog_52_method_10_code 3 = .ok (.astore_n 2, 1) := by decide +kernel
theorem d1_4 : decode prog_52_method_10_code 4 = .ok (.aload_n 2, 1) := by decide +kernel
theorem d1_5 : decode prog_52_method_10_code 5 = .ok (.arraylength, 1) := by decide +kernel
theorem d1_6 : decode prog_52_method_10_code 6 = .ok (.istore_n 3, 1) := by decide +kernel
theorem d1_7 : decode prog_52_method_10_code 7 = .ok (.iconst 0, 1) := by decide +kernel
theorem d1_8 : decode prog_52_method_10_code 8 = .ok (.istore 4, 2) := by decide +kernel
theorem d1_10 : decode prog_52_method_10_code 10 = .ok (.iload 4, 2) := by decide +kernel
theorem d1_12 : decode prog_52_method_10_code 12 = .ok (.iload_n 3, 1) := by decide +kernel
theorem d1_13 : decode prog_52_method_10_code 13 = .ok (.if_icmp .ge 22, 3) := by decide +kernel
theorem d1_16 : decode prog_52_method_10_code 16 = .ok (.aload_n 2, 1) := by decide +kernel
theorem d1_17 : decode prog_52_method_10_code 17 = .ok (.iload 4, 2) := by decide +kernel
theorem d1_19 : decode prog_52_method_10_code 19 = .ok (.iaload, 1) := by decide +kernel
theorem d1_20 : decode prog_52_method_10_code 20 = .ok (.istore 5, 2) := by decide +kernel
theorem d1_22 : decode prog_52_method_10_code 22 = .ok (.iload_n 1, 1) := by decide +kernel
theorem d1_23 : decode prog_52_method_10_code 23 = .ok (.iconst 1, 1) := by decide +kernel
theorem d1_24 : decode prog_52_method_10_code 24 = .ok (.iload 5, 2) := by decide +kernel
theorem d1_26 : decode prog_52_method_10_code 26 = .ok (.ishl, 1) := by decide +kernel
theorem d1_27 : decode prog_52_method_10_code 27 = .ok (.ior, 1) := by decide +kernel
theorem d1_28 : decode prog_52_method_10_code 28 = .ok (.istore_n 1, 1) := by decide +kernel
theorem d1_29 : decode prog_52_method_10_code 29 = .ok (.iinc 4 1, 3) := by decide +kernel
theorem d1_32 : decode prog_52_method_10_code 32 = .ok (.goto (-22), 3) := by decide +kernel
theorem d1_35 : decode prog_52_method_10_code 35 = .ok (.iload_n 1, 1) := by decide +kernel
theorem d1_36 : decode prog_52_method_10_code 36 = .ok (.ireturn, 1) := by decide +kernel
theorem ef_1 (m : MethodId) (x0 : Addr) : entryFrame m #[(.ref x0)] 6 = mkF m 0 #[.val (.ref x0), .unset, .unset, .unset, .unset, .unset] [] := by first | (simp [entryFrame, mkF, argsToLocals, Value.category]; done) | rfl
theorem os1_20 {s0 : Slot} {z1 : Value} {z2 : Value} {z3 : Value} {z4 : Value} {s5 : Slot} {v : Int32} (h : One s5) : storeLocals #[s0, .val z1, .val z2, .val z3, .val z4, s5] 5 (.int v) = some #[s0, .val z1, .val z2, .val z3, .val z4, .val (.int v)] := by
  rcases h with rfl | ⟨w, rfl, hw⟩
  · rfl
  · cases w <;> first | rfl | (simp [Value.category] at hw)
theorem pn_1 : plainName "com/example/sundew/sundew/text/BreakProperties" = true := by first | (simp [plainName, overriddenIn]; done) | decide +kernel
set_option maxRecDepth 65536 in
set_option maxHeartbeats 40000000 in
theorem tn1_10_10 {p : Program} {l : Launch} {e : Env} {R : Room} {s : State} {m : MethodId} {args : Array Value} {below : List Frame} {meth : Method} {c : Code} {T0 : State} {locs : List Loc} {cells slots : Nat} {Z : State} {a0 : Array Value} {h0 : Heap} (s0 : Slot) (i1 : Int32) (o2 : Addr) (i3 : Int32) (i4 : Int32) (s5 : Slot) (w2 : Int32) (cl_o2 : Cell)
    (X0 : Stand p l e R s m args below meth c T0 locs cells slots) (hx : p.tables.exec = Jvm.exec) (hZ : Z.Warmed39 s.vm) (hw : ∀ d ∈ tables_1, d.before a0 Z = true) (hby : c.code = prog_52_method_10_code) (hml : c.maxLocals = 6) (hown : s.vm.findClass "com/example/sundew/sundew/text/BreakProperties" = some m.cls) (e0 : T0.heap = h0) (Ar_o2 : Arr Z h0 o2 cl_o2 .int) (hin19 : ¬ (i4 < 0 ∨ cl_o2.slots.size ≤ (i4).toNatClampNeg)) (hat19 : cl_o2.slots[(i4).toNatClampNeg]? = some (.int w2)) (hs5 : One s5) (hc13 : i4 < i3) :
    ∃ (T' : State), Stand p l e R s m args below meth c T' locs cells slots ∧ T'.heap = h0 ∧
      ∀ target, Steps p.tables e below (T'.setTop (mkF m 10 #[s0, .val (.int (i1 ||| ((1 : Int32) <<< (w2 &&& 31)))), .val (.ref o2), .val (.int i3), .val (.int (i4 + (1 : Int32))), .val (.int w2)] [])) target → Steps p.tables e below (T0.setTop (mkF m 10 #[s0, .val (.int i1), .val (.ref o2), .val (.int i3), .val (.int i4), s5] [])) target := by

  refine ⟨T0, X0, e0, fun target kt => ?_⟩
  show Steps p.tables e below (T0.setTop (mkF m 10 #[s0, .val (.int i1), .val (.ref o2), .val (.int i3), .val (.int i4), s5] [])) _
  refine XS.iload X0.here hx rfl (hb hby d1_10) rfl ?_
  show Steps p.tables e below (T0.setTop (mkF m 12 #[s0, .val (.int i1), .val (.ref o2), .val (.int i3), .val (.int i4), s5] [(.int i4)])) _
  refine XS.iloadN X0.here hx rfl (hb hby d1_12) rfl ?_
  show Steps p.tables e below (T0.setTop (mkF m 13 #[s0, .val (.int i1), .val (.ref o2), .val (.int i3), .val (.int i4), s5] [(.int i3), (.int i4)])) _
  refine XS.icmpNo X0.here hx rfl (hb hby d1_13) rfl (tlt hc13).2.1 ?_
  show Steps p.tables e below (T0.setTop (mkF m 16 #[s0, .val (.int i1), .val (.ref o2), .val (.int i3), .val (.int i4), s5] [])) _
  refine XS.aloadN X0.here hx rfl (hb hby d1_16) rfl rfl ?_
  show Steps p.tables e below (T0.setTop (mkF m 17 #[s0, .val (.int i1), .val (.ref o2), .val (.int i3), .val (.int i4), s5] [(.ref o2)])) _
  refine XS.iload X0.here hx rfl (hb hby d1_17) rfl ?_
  show Steps p.tables e below (T0.setTop (mkF m 19 #[s0, .val (.int i1), .val (.ref o2), .val (.int i3), .val (.int i4), s5] [(.int i4), (.ref o2)])) _
  refine X0.iaload hx (j := i4) (v := (.int w2)) (by rw [e0]; exact Ar_o2.1) (State.isArrayOf_alike hZ.alike Ar_o2.2.1) Ar_o2.2.2 hin19 hat19 (g := (mkF m 19 #[s0, .val (.int i1), .val (.ref o2), .val (.int i3), .val (.int i4), s5] [(.int i4), (.ref o2)])) rfl rfl (hb hby d1_19) _ ?_
  show Steps p.tables e below (T0.setTop (mkF m 20 #[s0, .val (.int i1), .val (.ref o2), .val (.int i3), .val (.int i4), s5] [(.int w2)])) _
  refine XS.istore X0.here hx rfl (hb hby d1_20) rfl (l' := #[s0, .val (.int i1), .val (.ref o2), .val (.int i3), .val (.int i4), .val (.int w2)]) (os1_20 hs5) ?_
  show Steps p.tables e below (T0.setTop (mkF m 22 #[s0, .val (.int i1), .val (.ref o2), .val (.int i3), .val (.int i4), .val (.int w2)] [])) _
  refine XS.iloadN X0.here hx rfl (hb hby d1_22) rfl ?_
  show Steps p.tables e below (T0.setTop (mkF m 23 #[s0, .val (.int i1), .val (.ref o2), .val (.int i3), .val (.int i4), .val (.int w2)] [(.int i1)])) _
  refine XS.iconst X0.here hx rfl (hb hby d1_23) ?_
  show Steps p.tables e below (T0.setTop (mkF m 24 #[s0, .val (.int i1), .val (.ref o2), .val (.int i3), .val (.int i4), .val (.int w2)] [(.int (1 : Int32)), (.int i1)])) _
  refine XS.iload X0.here hx rfl (hb hby d1_24) rfl ?_
  show Steps p.tables e below (T0.setTop (mkF m 26 #[s0, .val (.int i1), .val (.ref o2), .val (.int i3), .val (.int i4), .val (.int w2)] [(.int w2), (.int (1 : Int32)), (.int i1)])) _
  refine XS.ishl X0.here hx rfl (hb hby d1_26) rfl ?_
  show Steps p.tables e below (T0.setTop (mkF m 27 #[s0, .val (.int i1), .val (.ref o2), .val (.int i3), .val (.int i4), .val (.int w2)] [(.int ((1 : Int32) <<< (w2 &&& 31))), (.int i1)])) _
  refine XS.ior X0.here hx rfl (hb hby d1_27) rfl ?_
  show Steps p.tables e below (T0.setTop (mkF m 28 #[s0, .val (.int i1), .val (.ref o2), .val (.int i3), .val (.int i4), .val (.int w2)] [(.int (i1 ||| ((1 : Int32) <<< (w2 &&& 31))))])) _
  refine XS.istoreN X0.here hx rfl (hb hby d1_28) rfl (l' := #[s0, .val (.int (i1 ||| ((1 : Int32) <<< (w2 &&& 31)))), .val (.ref o2), .val (.int i3), .val (.int i4), .val (.int w2)]) rfl ?_
  show Steps p.tables e below (T0.setTop (mkF m 29 #[s0, .val (.int (i1 ||| ((1 : Int32) <<< (w2 &&& 31)))), .val (.ref o2), .val (.int i3), .val (.int i4), .val (.int w2)] [])) _
  refine XS.iinc X0.here hx rfl (hb hby d1_29) rfl (l' := #[s0, .val (.int (i1 ||| ((1 : Int32) <<< (w2 &&& 31)))), .val (.ref o2), .val (.int i3), .val (.int (i4 + (1 : Int32))), .val (.int w2)]) rfl ?_
  show Steps p.tables e below (T0.setTop (mkF m 32 #[s0, .val (.int (i1 ||| ((1 : Int32) <<< (w2 &&& 31)))), .val (.ref o2), .val (.int i3), .val (.int (i4 + (1 : Int32))), .val (.int w2)] [])) _
  refine XS.goto X0.here hx rfl (pc0 := 32) (pc' := 10) rfl (hb hby d1_32) (by decide) (by decide) ?_
  exact kt
set_option maxRecDepth 65536 in
set_option maxHeartbeats 40000000 in
theorem tn1_10_35 {p : Program} {l : Launch} {e : Env} {R : Room} {s : State} {m : MethodId} {args : Array Value} {below : List Frame} {meth : Method} {c : Code} {T0 : State} {locs : List Loc} {cells slots : Nat} {Z : State} {a0 : Array Value} {h0 : Heap} (s0 : Slot) (s1 : Slot) (s2 : Slot) (i3 : Int32) (i4 : Int32) (s5 : Slot)
    (X0 : Stand p l e R s m args below meth c T0 locs cells slots) (hx : p.tables.exec = Jvm.exec) (hZ : Z.Warmed39 s.vm) (hw : ∀ d ∈ tables_1, d.before a0 Z = true) (hby : c.code = prog_52_method_10_code) (hml : c.maxLocals = 6) (hown : s.vm.findClass "com/example/sundew/sundew/text/BreakProperties" = some m.cls) (e0 : T0.heap = h0) (hc13 : ¬ (i4 < i3)) :
    ∃ (T' : State), Stand p l e R s m args below meth c T' locs cells slots ∧ T'.heap = h0 ∧
      ∀ target, Steps p.tables e below (T'.setTop (mkF m 35 #[s0, s1, s2, .val (.int i3), .val (.int i4), s5] [])) target → Steps p.tables e below (T0.setTop (mkF m 10 #[s0, s1, s2, .val (.int i3), .val (.int i4), s5] [])) target := by

  refine ⟨T0, X0, e0, fun target kt => ?_⟩
  show Steps p.tables e below (T0.setTop (mkF m 10 #[s0, s1, s2, .val (.int i3), .val (.int i4), s5] [])) _
  refine XS.iload X0.here hx rfl (hb hby d1_10) rfl ?_
  show Steps p.tables e below (T0.setTop (mkF m 12 #[s0, s1, s2, .val (.int i3), .val (.int i4), s5] [(.int i4)])) _
  refine XS.iloadN X0.here hx rfl (hb hby d1_12) rfl ?_
  show Steps p.tables e below (T0.setTop (mkF m 13 #[s0, s1, s2, .val (.int i3), .val (.int i4), s5] [(.int i3), (.int i4)])) _
  refine XS.icmpYes X0.here hx rfl (pc0 := 13) (pc' := 35) rfl (hb hby d1_13) rfl (flt hc13).2.1 (by decide) (by decide) ?_
  exact kt
set_option maxRecDepth 65536 in
set_option maxHeartbeats 40000000 in
theorem own_rm1_0 (l : Launch) (Z : State) (a0 : Array Value) (hw : ∀ d ∈ tables_1, d.before a0 Z = true) (ws : List Jvm.Cond) (a1 : Addr) (kk : ClassId) (h0 : Heap) (n0 : Nat) (Z0 : n0 ≤ h0.size) (VV : Arv Z h0 a1 kk .int (0 : Int32) [] (.int 0)) :
    MetFree l (⟨"com/example/sundew/sundew/text/BreakProperties", "bits", "([I)I"⟩ : MethodName) (head1 (Jvm.Cond.code (⟨"com/example/sundew/sundew/text/BreakProperties", "bits", "([I)I"⟩ : MethodName) prog_52_method_10_code 6 (some .int) :: ws) ({ frames := 0, cells := 0, slots := 0, locals := 0 } : Room)) (fun a U => a = #[(.ref a1)] ∧ Z.Warmed39 U.vm ∧ U.heap = h0) (fun _ _ _ _ _ => True) (fun _ U o U' => ∃ v L, o = .returned v ∧ own_Q (some (.int (0 : Int32))) h0 n0 v U'.heap L ∧ FrameEnd U o U' L ({ frames := 0, cells := 0, slots := 0, locals := 0 } : Room).cells ({ frames := 0, cells := 0, slots := 0, locals := 0 } : Room).slots) := by
  refine MetFree.of_bodySF (plainFor_of_name pn_1) hisR ?_
  intro p e s m args below meth c s₁ Bd hml0 hP hK
  obtain ⟨rfl, hZ, hh⟩ := hP
  have hx := Bd.exec
  have hby := Bd.bytes
  have hml : c.maxLocals = 6 := hml0
  have hown : s.vm.findClass "com/example/sundew/sundew/text/BreakProperties" = some m.cls := findClass_of_methodNamed Bd.named
  have hnm := (name_of_methodNamed Bd.named Bd.method).1
  have X0 : Stand p l e ({ frames := 0, cells := 0, slots := 0, locals := 0 } : Room) s m #[(.ref a1)] below meth c s₁ [] 0 0 := Stand.of_body Bd
  have e0 : s₁.heap = h0 := by rw [← hh, Bd.state]; rfl
  have N0 := Fr.nil n0
  have pre0 : ∀ t, Steps p.tables e below (s₁.setTop (mkF m 0 #[.val (.ref a1), .unset, .unset, .unset, .unset, .unset] [])) t → Steps p.tables e below (s₁.setTop (entryFrame m #[(.ref a1)] 6)) t := fun t k => castTop (ef_1 m a1) k
  obtain ⟨cl_a1, Ar_a1, -, S_a1, N_a1, H_a1, -⟩ := VV
  obtain ⟨T9, X9, e9, s9⟩ := tn1_10_35 (.val (.ref a1)) (.val (.int (0 : Int32))) (.val (.ref a1)) (0 : Int32) (0 : Int32) (.unset) X0 hx hZ hw hby hml hown e0 (by decide)

  obtain ⟨fs, hr, hrun, hended, hW, hsame⟩ := X9.leave (v := some (.int (0 : Int32))) (fun h => by rw [Bd.returns] at h; cases h)
  refine ⟨_, _, pre0 _ ?_, hrun, hended, _, _, rfl, ?_, ⟨_, rfl⟩, hW, hsame.mono (by decide) (by decide)⟩
  · show Steps p.tables e below (s₁.setTop (mkF m 0 #[.val (.ref a1), .unset, .unset, .unset, .unset, .unset] [])) _
    refine XS.iconst X0.here hx rfl (hb hby d1_0) ?_
    show Steps p.tables e below (s₁.setTop (mkF m 1 #[.val (.ref a1), .unset, .unset, .unset, .unset, .unset] [(.int (0 : Int32))])) _
    refine XS.istoreN X0.here hx rfl (hb hby d1_1) rfl (l' := #[.val (.ref a1), .val (.int (0 : Int32)), .unset, .unset, .unset, .unset]) rfl ?_
    show Steps p.tables e below (s₁.setTop (mkF m 2 #[.val (.ref a1), .val (.int (0 : Int32)), .unset, .unset, .unset, .unset] [])) _
    refine XS.aloadN X0.here hx rfl (hb hby d1_2) rfl rfl ?_
    show Steps p.tables e below (s₁.setTop (mkF m 3 #[.val (.ref a1), .val (.int (0 : Int32)), .unset, .unset, .unset, .unset] [(.ref a1)])) _
    refine XS.astoreN X0.here hx rfl (hb hby d1_3) rfl rfl (l' := #[.val (.ref a1), .val (.int (0 : Int32)), .val (.ref a1), .unset, .unset, .unset]) rfl ?_
    show Steps p.tables e below (s₁.setTop (mkF m 4 #[.val (.ref a1), .val (.int (0 : Int32)), .val (.ref a1), .unset, .unset, .unset] [])) _
    refine XS.aloadN X0.here hx rfl (hb hby d1_4) rfl rfl ?_
    show Steps p.tables e below (s₁.setTop (mkF m 5 #[.val (.ref a1), .val (.int (0 : Int32)), .val (.ref a1), .unset, .unset, .unset] [(.ref a1)])) _
    refine X0.arraylength hx (by rw [e0]; exact Ar_a1.1) (State.isArrayOf_alike hZ.alike Ar_a1.2.1) (g := (mkF m 5 #[.val (.ref a1), .val (.int (0 : Int32)), .val (.ref a1), .unset, .unset, .unset] [(.ref a1)])) rfl rfl (hb hby d1_5) _ ?_
    rw [len_of S_a1 N_a1]
    show Steps p.tables e below (s₁.setTop (mkF m 6 #[.val (.ref a1), .val (.int (0 : Int32)), .val (.ref a1), .unset, .unset, .unset] [(.int (0 : Int32))])) _
    refine XS.istoreN X0.here hx rfl (hb hby d1_6) rfl (l' := #[.val (.ref a1), .val (.int (0 : Int32)), .val (.ref a1), .val (.int (0 : Int32)), .unset, .unset]) rfl ?_
    show Steps p.tables e below (s₁.setTop (mkF m 7 #[.val (.ref a1), .val (.int (0 : Int32)), .val (.ref a1), .val (.int (0 : Int32)), .unset, .unset] [])) _
    refine XS.iconst X0.here hx rfl (hb hby d1_7) ?_
    show Steps p.tables e below (s₁.setTop (mkF m 8 #[.val (.ref a1), .val (.int (0 : Int32)), .val (.ref a1), .val (.int (0 : Int32)), .unset, .unset] [(.int (0 : Int32))])) _
    refine XS.istore X0.here hx rfl (hb hby d1_8) rfl (l' := #[.val (.ref a1), .val (.int (0 : Int32)), .val (.ref a1), .val (.int (0 : Int32)), .val (.int (0 : Int32)), .unset]) rfl ?_
    show Steps p.tables e below (s₁.setTop (mkF m 10 #[.val (.ref a1), .val (.int (0 : Int32)), .val (.ref a1), .val (.int (0 : Int32)), .val (.int (0 : Int32)), .unset] [])) _
    refine s9 _ ?_
    show Steps p.tables e below (T9.setTop (mkF m 35 #[.val (.ref a1), .val (.int (0 : Int32)), .val (.ref a1), .val (.int (0 : Int32)), .val (.int (0 : Int32)), .unset] [])) _
    refine XS.iloadN X9.here hx rfl (hb hby d1_35) rfl ?_
    show Steps p.tables e below (T9.setTop (mkF m 36 #[.val (.ref a1), .val (.int (0 : Int32)), .val (.ref a1), .val (.int (0 : Int32)), .val (.int (0 : Int32)), .unset] [(.int (0 : Int32))])) _
    exact retI X9 hx Bd.returns (hb hby d1_36) hr
  · show own_Q (some (.int (0 : Int32))) h0 n0 _ T9.heap _
    rw [e9]
    exact ⟨rfl, N0, rfl⟩
set_option maxRecDepth 65536 in
set_option maxHeartbeats 40000000 in
theorem own_rm1_1 (l : Launch) (Z : State) (a0 : Array Value) (hw : ∀ d ∈ tables_1, d.before a0 Z = true) (ws : List Jvm.Cond) (a1 : Addr) (kk : ClassId) (x0 : Int32) (h0 : Heap) (n0 : Nat) (Z0 : n0 ≤ h0.size) (VV : Arv Z h0 a1 kk .int (1 : Int32) [.int x0] (.int 0)) :
    MetFree l (⟨"com/example/sundew/sundew/text/BreakProperties", "bits", "([I)I"⟩ : MethodName) (head1 (Jvm.Cond.code (⟨"com/example/sundew/sundew/text/BreakProperties", "bits", "([I)I"⟩ : MethodName) prog_52_method_10_code 6 (some .int) :: ws) ({ frames := 0, cells := 0, slots := 0, locals := 0 } : Room)) (fun a U => a = #[(.ref a1)] ∧ Z.Warmed39 U.vm ∧ U.heap = h0) (fun _ _ _ _ _ => True) (fun _ U o U' => ∃ v L, o = .returned v ∧ own_Q (some (.int (own_u1 x0))) h0 n0 v U'.heap L ∧ FrameEnd U o U' L ({ frames := 0, cells := 0, slots := 0, locals := 0 } : Room).cells ({ frames := 0, cells := 0, slots := 0, locals := 0 } : Room).slots) := by
  refine MetFree.of_bodySF (plainFor_of_name pn_1) hisR ?_
  intro p e s m args below meth c s₁ Bd hml0 hP hK
  obtain ⟨rfl, hZ, hh⟩ := hP
  have hx := Bd.exec
  have hby := Bd.bytes
  have hml : c.maxLocals = 6 := hml0
  have hown : s.vm.findClass "com/example/sundew/sundew/text/BreakProperties" = some m.cls := findClass_of_methodNamed Bd.named
  have hnm := (name_of_methodNamed Bd.named Bd.method).1
  have X0 : Stand p l e ({ frames := 0, cells := 0, slots := 0, locals := 0 } : Room) s m #[(.ref a1)] below meth c s₁ [] 0 0 := Stand.of_body Bd
  have e0 : s₁.heap = h0 := by rw [← hh, Bd.state]; rfl
  have N0 := Fr.nil n0
  have pre0 : ∀ t, Steps p.tables e below (s₁.setTop (mkF m 0 #[.val (.ref a1), .unset, .unset, .unset, .unset, .unset] [])) t → Steps p.tables e below (s₁.setTop (entryFrame m #[(.ref a1)] 6)) t := fun t k => castTop (ef_1 m a1) k
  obtain ⟨cl_a1, Ar_a1, -, S_a1, N_a1, H_a1, -⟩ := VV
  have at0 : cl_a1.slots[(0 : Int32).toNatClampNeg]? = some (.int x0) := by rw [show (0 : Int32).toNatClampNeg = 0 from by decide]; exact H_a1 0 (by rw [S_a1]; decide)
  obtain ⟨T1, X1, e1, s1⟩ := tn1_10_10 (.val (.ref a1)) (0 : Int32) a1 (1 : Int32) (0 : Int32) (.unset) x0 cl_a1 X0 hx hZ hw hby hml hown e0 Ar_a1 (inb_of S_a1 ⟨by decide, by decide⟩) at0 One.u (by decide)
  obtain ⟨T9, X9, e9, s9⟩ := tn1_10_35 (.val (.ref a1)) (.val (.int (own_u1 x0))) (.val (.ref a1)) (1 : Int32) ((0 : Int32) + (1 : Int32)) (.val (.int x0)) X1 hx hZ hw hby hml hown e1 (by decide)

  obtain ⟨fs, hr, hrun, hended, hW, hsame⟩ := X9.leave (v := some (.int (own_u1 x0))) (fun h => by rw [Bd.returns] at h; cases h)
  refine ⟨_, _, pre0 _ ?_, hrun, hended, _, _, rfl, ?_, ⟨_, rfl⟩, hW, hsame.mono (by decide) (by decide)⟩
  · show Steps p.tables e below (s₁.setTop (mkF m 0 #[.val (.ref a1), .unset, .unset, .unset, .unset, .unset] [])) _
    refine XS.iconst X0.here hx rfl (hb hby d1_0) ?_
    show Steps p.tables e below (s₁.setTop (mkF m 1 #[.val (.ref a1), .unset, .unset, .unset, .unset, .unset] [(.int (0 : Int32))])) _
    refine XS.istoreN X0.here hx rfl (hb hby d1_1) rfl (l' := #[.val (.ref a1), .val (.int (0 : Int32)), .unset, .unset, .unset, .unset]) rfl ?_
    show Steps p.tables e below (s₁.setTop (mkF m 2 #[.val (.ref a1), .val (.int (0 : Int32)), .unset, .unset, .unset, .unset] [])) _
    refine XS.aloadN X0.here hx rfl (hb hby d1_2) rfl rfl ?_
    show Steps p.tables e below (s₁.setTop (mkF m 3 #[.val (.ref a1), .val (.int (0 : Int32)), .unset, .unset, .unset, .unset] [(.ref a1)])) _
    refine XS.astoreN X0.here hx rfl (hb hby d1_3) rfl rfl (l' := #[.val (.ref a1), .val (.int (0 : Int32)), .val (.ref a1), .unset, .unset, .unset]) rfl ?_
    show Steps p.tables e below (s₁.setTop (mkF m 4 #[.val (.ref a1), .val (.int (0 : Int32)), .val (.ref a1), .unset, .unset, .unset] [])) _
    refine XS.aloadN X0.here hx rfl (hb hby d1_4) rfl rfl ?_
    show Steps p.tables e below (s₁.setTop (mkF m 5 #[.val (.ref a1), .val (.int (0 : Int32)), .val (.ref a1), .unset, .unset, .unset] [(.ref a1)])) _
    refine X0.arraylength hx (by rw [e0]; exact Ar_a1.1) (State.isArrayOf_alike hZ.alike Ar_a1.2.1) (g := (mkF m 5 #[.val (.ref a1), .val (.int (0 : Int32)), .val (.ref a1), .unset, .unset, .unset] [(.ref a1)])) rfl rfl (hb hby d1_5) _ ?_
    rw [len_of S_a1 N_a1]
    show Steps p.tables e below (s₁.setTop (mkF m 6 #[.val (.ref a1), .val (.int (0 : Int32)), .val (.ref a1), .unset, .unset, .unset] [(.int (1 : Int32))])) _
    refine XS.istoreN X0.here hx rfl (hb hby d1_6) rfl (l' := #[.val (.ref a1), .val (.int (0 : Int32)), .val (.ref a1), .val (.int (1 : Int32)), .unset, .unset]) rfl ?_
    show Steps p.tables e below (s₁.setTop (mkF m 7 #[.val (.ref a1), .val (.int (0 : Int32)), .val (.ref a1), .val (.int (1 : Int32)), .unset, .unset] [])) _
    refine XS.iconst X0.here hx rfl (hb hby d1_7) ?_
    show Steps p.tables e below (s₁.setTop (mkF m 8 #[.val (.ref a1), .val (.int (0 : Int32)), .val (.ref a1), .val (.int (1 : Int32)), .unset, .unset] [(.int (0 : Int32))])) _
    refine XS.istore X0.here hx rfl (hb hby d1_8) rfl (l' := #[.val (.ref a1), .val (.int (0 : Int32)), .val (.ref a1), .val (.int (1 : Int32)), .val (.int (0 : Int32)), .unset]) rfl ?_
    show Steps p.tables e below (s₁.setTop (mkF m 10 #[.val (.ref a1), .val (.int (0 : Int32)), .val (.ref a1), .val (.int (1 : Int32)), .val (.int (0 : Int32)), .unset] [])) _
    refine s1 _ ?_
    refine s9 _ ?_
    show Steps p.tables e below (T9.setTop (mkF m 35 #[.val (.ref a1), .val (.int (own_u1 x0)), .val (.ref a1), .val (.int (1 : Int32)), .val (.int ((0 : Int32) + (1 : Int32))), .val (.int x0)] [])) _
    refine XS.iloadN X9.here hx rfl (hb hby d1_35) rfl ?_
    show Steps p.tables e below (T9.setTop (mkF m 36 #[.val (.ref a1), .val (.int (own_u1 x0)), .val (.ref a1), .val (.int (1 : Int32)), .val (.int ((0 : Int32) + (1 : Int32))), .val (.int x0)] [(.int (own_u1 x0))])) _
    exact retI X9 hx Bd.returns (hb hby d1_36) hr
  · show own_Q (some (.int (own_u1 x0))) h0 n0 _ T9.heap _
    rw [e9]
    exact ⟨rfl, N0, rfl⟩
set_option maxRecDepth 65536 in
set_option maxHeartbeats 40000000 in
theorem own_rm1_2 (l : Launch) (Z : State) (a0 : Array Value) (hw : ∀ d ∈ tables_1, d.before a0 Z = true) (ws : List Jvm.Cond) (a1 : Addr) (kk : ClassId) (x0 : Int32) (x1 : Int32) (h0 : Heap) (n0 : Nat) (Z0 : n0 ≤ h0.size) (VV : Arv Z h0 a1 kk .int (2 : Int32) [.int x0, .int x1] (.int 0)) :
    MetFree l (⟨"com/example/sundew/sundew/text/BreakProperties", "bits", "([I)I"⟩ : MethodName) (head1 (Jvm.Cond.code (⟨"com/example/sundew/sundew/text/BreakProperties", "bits", "([I)I"⟩ : MethodName) prog_52_method_10_code 6 (some .int) :: ws) ({ frames := 0, cells := 0, slots := 0, locals := 0 } : Room)) (fun a U => a = #[(.ref a1)] ∧ Z.Warmed39 U.vm ∧ U.heap = h0) (fun _ _ _ _ _ => True) (fun _ U o U' => ∃ v L, o = .returned v ∧ own_Q (some (.int (own_u2 x0 x1))) h0 n0 v U'.heap L ∧ FrameEnd U o U' L ({ frames := 0, cells := 0, slots := 0, locals := 0 } : Room).cells ({ frames := 0, cells := 0, slots := 0, locals := 0 } : Room).slots) := by
  refine MetFree.of_bodySF (plainFor_of_name pn_1) hisR ?_
  intro p e s m args below meth c s₁ Bd hml0 hP hK
  obtain ⟨rfl, hZ, hh⟩ := hP
  have hx := Bd.exec
  have hby := Bd.bytes
  have hml : c.maxLocals = 6 := hml0
  have hown : s.vm.findClass "com/example/sundew/sundew/text/BreakProperties" = some m.cls := findClass_of_methodNamed Bd.named
  have hnm := (name_of_methodNamed Bd.named Bd.method).1
  have X0 : Stand p l e ({ frames := 0, cells := 0, slots := 0, locals := 0 } : Room) s m #[(.ref a1)] below meth c s₁ [] 0 0 := Stand.of_body Bd
  have e0 : s₁.heap = h0 := by rw [← hh, Bd.state]; rfl
  have N0 := Fr.nil n0
  have pre0 : ∀ t, Steps p.tables e below (s₁.setTop (mkF m 0 #[.val (.ref a1), .unset, .unset, .unset, .unset, .unset] [])) t → Steps p.tables e below (s₁.setTop (entryFrame m #[(.ref a1)] 6)) t := fun t k => castTop (ef_1 m a1) k
  obtain ⟨cl_a1, Ar_a1, -, S_a1, N_a1, H_a1, -⟩ := VV
  have at0 : cl_a1.slots[(0 : Int32).toNatClampNeg]? = some (.int x0) := by rw [show (0 : Int32).toNatClampNeg = 0 from by decide]; exact H_a1 0 (by rw [S_a1]; decide)
  obtain ⟨T1, X1, e1, s1⟩ := tn1_10_10 (.val (.ref a1)) (0 : Int32) a1 (2 : Int32) (0 : Int32) (.unset) x0 cl_a1 X0 hx hZ hw hby hml hown e0 Ar_a1 (inb_of S_a1 ⟨by decide, by decide⟩) at0 One.u (by decide)
  have at1 : cl_a1.slots[((0 : Int32) + (1 : Int32)).toNatClampNeg]? = some (.int x1) := by rw [show ((0 : Int32) + (1 : Int32)).toNatClampNeg = 1 from by decide]; exact H_a1 1 (by rw [S_a1]; decide)
  obtain ⟨T2, X2, e2, s2⟩ := tn1_10_10 (.val (.ref a1)) (own_u1 x0) a1 (2 : Int32) ((0 : Int32) + (1 : Int32)) (.val (.int x0)) x1 cl_a1 X1 hx hZ hw hby hml hown e1 Ar_a1 (inb_of S_a1 ⟨by decide, by decide⟩) at1 (One.val rfl) (by decide)
  obtain ⟨T9, X9, e9, s9⟩ := tn1_10_35 (.val (.ref a1)) (.val (.int (own_u2 x0 x1))) (.val (.ref a1)) (2 : Int32) (((0 : Int32) + (1 : Int32)) + (1 : Int32)) (.val (.int x1)) X2 hx hZ hw hby hml hown e2 (by decide)

  obtain ⟨fs, hr, hrun, hended, hW, hsame⟩ := X9.leave (v := some (.int (own_u2 x0 x1))) (fun h => by rw [Bd.returns] at h; cases h)
  refine ⟨_, _, pre0 _ ?_, hrun, hended, _, _, rfl, ?_, ⟨_, rfl⟩, hW, hsame.mono (by decide) (by decide)⟩
  · show Steps p.tables e below (s₁.setTop (mkF m 0 #[.val (.ref a1), .unset, .unset, .unset, .unset, .unset] [])) _
    refine XS.iconst X0.here hx rfl (hb hby d1_0) ?_
    show Steps p.tables e below (s₁.setTop (mkF m 1 #[.val (.ref a1), .unset, .unset, .unset, .unset, .unset] [(.int (0 : Int32))])) _
    refine XS.istoreN X0.here hx rfl (hb hby d1_1) rfl (l' := #[.val (.ref a1), .val (.int (0 : Int32)), .unset, .unset, .unset, .unset]) rfl ?_
    show Steps p.tables e below (s₁.setTop (mkF m 2 #[.val (.ref a1), .val (.int (0 : Int32)), .unset, .unset, .unset, .unset] [])) _
    refine XS.aloadN X0.here hx rfl (hb hby d1_2) rfl rfl ?_
    show Steps p.tables e below (s₁.setTop (mkF m 3 #[.val (.ref a1), .val (.int (0 : Int32)), .unset, .unset, .unset, .unset] [(.ref a1)])) _
    refine XS.astoreN X0.here hx rfl (hb hby d1_3) rfl rfl (l' := #[.val (.ref a1), .val (.int (0 : Int32)), .val (.ref a1), .unset, .unset, .unset]) rfl ?_
    show Steps p.tables e below (s₁.setTop (mkF m 4 #[.val (.ref a1), .val (.int (0 : Int32)), .val (.ref a1), .unset, .unset, .unset] [])) _
    refine XS.aloadN X0.here hx rfl (hb hby d1_4) rfl rfl ?_
    show Steps p.tables e below (s₁.setTop (mkF m 5 #[.val (.ref a1), .val (.int (0 : Int32)), .val (.ref a1), .unset, .unset, .unset] [(.ref a1)])) _
    refine X0.arraylength hx (by rw [e0]; exact Ar_a1.1) (State.isArrayOf_alike hZ.alike Ar_a1.2.1) (g := (mkF m 5 #[.val (.ref a1), .val (.int (0 : Int32)), .val (.ref a1), .unset, .unset, .unset] [(.ref a1)])) rfl rfl (hb hby d1_5) _ ?_
    rw [len_of S_a1 N_a1]
    show Steps p.tables e below (s₁.setTop (mkF m 6 #[.val (.ref a1), .val (.int (0 : Int32)), .val (.ref a1), .unset, .unset, .unset] [(.int (2 : Int32))])) _
    refine XS.istoreN X0.here hx rfl (hb hby d1_6) rfl (l' := #[.val (.ref a1), .val (.int (0 : Int32)), .val (.ref a1), .val (.int (2 : Int32)), .unset, .unset]) rfl ?_
    show Steps p.tables e below (s₁.setTop (mkF m 7 #[.val (.ref a1), .val (.int (0 : Int32)), .val (.ref a1), .val (.int (2 : Int32)), .unset, .unset] [])) _
    refine XS.iconst X0.here hx rfl (hb hby d1_7) ?_
    show Steps p.tables e below (s₁.setTop (mkF m 8 #[.val (.ref a1), .val (.int (0 : Int32)), .val (.ref a1), .val (.int (2 : Int32)), .unset, .unset] [(.int (0 : Int32))])) _
    refine XS.istore X0.here hx rfl (hb hby d1_8) rfl (l' := #[.val (.ref a1), .val (.int (0 : Int32)), .val (.ref a1), .val (.int (2 : Int32)), .val (.int (0 : Int32)), .unset]) rfl ?_
    show Steps p.tables e below (s₁.setTop (mkF m 10 #[.val (.ref a1), .val (.int (0 : Int32)), .val (.ref a1), .val (.int (2 : Int32)), .val (.int (0 : Int32)), .unset] [])) _
    refine s1 _ ?_
    refine s2 _ ?_
    refine s9 _ ?_
    show Steps p.tables e below (T9.setTop (mkF m 35 #[.val (.ref a1), .val (.int (own_u2 x0 x1)), .val (.ref a1), .val (.int (2 : Int32)), .val (.int (((0 : Int32) + (1 : Int32)) + (1 : Int32))), .val (.int x1)] [])) _
    refine XS.iloadN X9.here hx rfl (hb hby d1_35) rfl ?_
    show Steps p.tables e below (T9.setTop (mkF m 36 #[.val (.ref a1), .val (.int (own_u2 x0 x1)), .val (.ref a1), .val (.int (2 : Int32)), .val (.int (((0 : Int32) + (1 : Int32)) + (1 : Int32))), .val (.int x1)] [(.int (own_u2 x0 x1))])) _
    exact retI X9 hx Bd.returns (hb hby d1_36) hr
  · show own_Q (some (.int (own_u2 x0 x1))) h0 n0 _ T9.heap _
    rw [e9]
    exact ⟨rfl, N0, rfl⟩
set_option maxRecDepth 65536 in
set_option maxHeartbeats 40000000 in
theorem own_rm1_3 (l : Launch) (Z : State) (a0 : Array Value) (hw : ∀ d ∈ tables_1, d.before a0 Z = true) (ws : List Jvm.Cond) (a1 : Addr) (kk : ClassId) (x0 : Int32) (x1 : Int32) (x2 : Int32) (h0 : Heap) (n0 : Nat) (Z0 : n0 ≤ h0.size) (VV : Arv Z h0 a1 kk .int (3 : Int32) [.int x0, .int x1, .int x2] (.int 0)) :
    MetFree l (⟨"com/example/sundew/sundew/text/BreakProperties", "bits", "([I)I"⟩ : MethodName) (head1 (Jvm.Cond.code (⟨"com/example/sundew/sundew/text/BreakProperties", "bits", "([I)I"⟩ : MethodName) prog_52_method_10_code 6 (some .int) :: ws) ({ frames := 0, cells := 0, slots := 0, locals := 0 } : Room)) (fun a U => a = #[(.ref a1)] ∧ Z.Warmed39 U.vm ∧ U.heap = h0) (fun _ _ _ _ _ => True) (fun _ U o U' => ∃ v L, o = .returned v ∧ own_Q (some (.int (own_u3 x0 x1 x2))) h0 n0 v U'.heap L ∧ FrameEnd U o U' L ({ frames := 0, cells := 0, slots := 0, locals := 0 } : Room).cells ({ frames := 0, cells := 0, slots := 0, locals := 0 } : Room).slots) := by
  refine MetFree.of_bodySF (plainFor_of_name pn_1) hisR ?_
  intro p e s m args below meth c s₁ Bd hml0 hP hK
  obtain ⟨rfl, hZ, hh⟩ := hP
  have hx := Bd.exec
  have hby := Bd.bytes
  have hml : c.maxLocals = 6 := hml0
  have hown : s.vm.findClass "com/example/sundew/sundew/text/BreakProperties" = some m.cls := findClass_of_methodNamed Bd.named
  have hnm := (name_of_methodNamed Bd.named Bd.method).1
  have X0 : Stand p l e ({ frames := 0, cells := 0, slots := 0, locals := 0 } : Room) s m #[(.ref a1)] below meth c s₁ [] 0 0 := Stand.of_body Bd
  have e0 : s₁.heap = h0 := by rw [← hh, Bd.state]; rfl
  have N0 := Fr.nil n0
  have pre0 : ∀ t, Steps p.tables e below (s₁.setTop (mkF m 0 #[.val (.ref a1), .unset, .unset, .unset, .unset, .unset] [])) t → Steps p.tables e below (s₁.setTop (entryFrame m #[(.ref a1)] 6)) t := fun t k => castTop (ef_1 m a1) k
  obtain ⟨cl_a1, Ar_a1, -, S_a1, N_a1, H_a1, -⟩ := VV
  have at0 : cl_a1.slots[(0 : Int32).toNatClampNeg]? = some (.int x0) := by rw [show (0 : Int32).toNatClampNeg = 0 from by decide]; exact H_a1 0 (by rw [S_a1]; decide)
  obtain ⟨T1, X1, e1, s1⟩ := tn1_10_10 (.val (.ref a1)) (0 : Int32) a1 (3 : Int32) (0 : Int32) (.unset) x0 cl_a1 X0 hx hZ hw hby hml hown e0 Ar_a1 (inb_of S_a1 ⟨by decide, by decide⟩) at0 One.u (by decide)
  have at1 : cl_a1.slots[((0 : Int32) + (1 : Int32)).toNatClampNeg]? = some (.int x1) := by rw [show ((0 : Int32) + (1 : Int32)).toNatClampNeg = 1 from by decide]; exact H_a1 1 (by rw [S_a1]; decide)
  obtain ⟨T2, X2, e2, s2⟩ := tn1_10_10 (.val (.ref a1)) (own_u1 x0) a1 (3 : Int32) ((0 : Int32) + (1 : Int32)) (.val (.int x0)) x1 cl_a1 X1 hx hZ hw hby hml hown e1 Ar_a1 (inb_of S_a1 ⟨by decide, by decide⟩) at1 (One.val rfl) (by decide)
  have at2 : cl_a1.slots[(((0 : Int32) + (1 : Int32)) + (1 : Int32)).toNatClampNeg]? = some (.int x2) := by rw [show (((0 : Int32) + (1 : Int32)) + (1 : Int32)).toNatClampNeg = 2 from by decide]; exact H_a1 2 (by rw [S_a1]; decide)
  obtain ⟨T3, X3, e3, s3⟩ := tn1_10_10 (.val (.ref a1)) (own_u2 x0 x1) a1 (3 : Int32) (((0 : Int32) + (1 : Int32)) + (1 : Int32)) (.val (.int x1)) x2 cl_a1 X2 hx hZ hw hby hml hown e2 Ar_a1 (inb_of S_a1 ⟨by decide, by decide⟩) at2 (One.val rfl) (by decide)
  obtain ⟨T9, X9, e9, s9⟩ := tn1_10_35 (.val (.ref a1)) (.val (.int (own_u3 x0 x1 x2))) (.val (.ref a1)) (3 : Int32) ((((0 : Int32) + (1 : Int32)) + (1 : Int32)) + (1 : Int32)) (.val (.int x2)) X3 hx hZ hw hby hml hown e3 (by decide)

  obtain ⟨fs, hr, hrun, hended, hW, hsame⟩ := X9.leave (v := some (.int (own_u3 x0 x1 x2))) (fun h => by rw [Bd.returns] at h; cases h)
  refine ⟨_, _, pre0 _ ?_, hrun, hended, _, _, rfl, ?_, ⟨_, rfl⟩, hW, hsame.mono (by decide) (by decide)⟩
  · show Steps p.tables e below (s₁.setTop (mkF m 0 #[.val (.ref a1), .unset, .unset, .unset, .unset, .unset] [])) _
    refine XS.iconst X0.here hx rfl (hb hby d1_0) ?_
    show Steps p.tables e below (s₁.setTop (mkF m 1 #[.val (.ref a1), .unset, .unset, .unset, .unset, .unset] [(.int (0 : Int32))])) _
    refine XS.istoreN X0.here hx rfl (hb hby d1_1) rfl (l' := #[.val (.ref a1), .val (.int (0 : Int32)), .unset, .unset, .unset, .unset]) rfl ?_
    show Steps p.tables e below (s₁.setTop (mkF m 2 #[.val (.ref a1), .val (.int (0 : Int32)), .unset, .unset, .unset, .unset] [])) _
    refine XS.aloadN X0.here hx rfl (hb hby d1_2) rfl rfl ?_
    show Steps p.tables e below (s₁.setTop (mkF m 3 #[.val (.ref a1), .val (.int (0 : Int32)), .unset, .unset, .unset, .unset] [(.ref a1)])) _
    refine XS.astoreN X0.here hx rfl (hb hby d1_3) rfl rfl (l' := #[.val (.ref a1), .val (.int (0 : Int32)), .val (.ref a1), .unset, .unset, .unset]) rfl ?_
    show Steps p.tables e below (s₁.setTop (mkF m 4 #[.val (.ref a1), .val (.int (0 : Int32)), .val (.ref a1), .unset, .unset, .unset] [])) _
    refine XS.aloadN X0.here hx rfl (hb hby d1_4) rfl rfl ?_
    show Steps p.tables e below (s₁.setTop (mkF m 5 #[.val (.ref a1), .val (.int (0 : Int32)), .val (.ref a1), .unset, .unset, .unset] [(.ref a1)])) _
    refine X0.arraylength hx (by rw [e0]; exact Ar_a1.1) (State.isArrayOf_alike hZ.alike Ar_a1.2.1) (g := (mkF m 5 #[.val (.ref a1), .val (.int (0 : Int32)), .val (.ref a1), .unset, .unset, .unset] [(.ref a1)])) rfl rfl (hb hby d1_5) _ ?_
    rw [len_of S_a1 N_a1]
    show Steps p.tables e below (s₁.setTop (mkF m 6 #[.val (.ref a1), .val (.int (0 : Int32)), .val (.ref a1), .unset, .unset, .unset] [(.int (3 : Int32))])) _
    refine XS.istoreN X0.here hx rfl (hb hby d1_6) rfl (l' := #[.val (.ref a1), .val (.int (0 : Int32)), .val (.ref a1), .val (.int (3 : Int32)), .unset, .unset]) rfl ?_
    show Steps p.tables e below (s₁.setTop (mkF m 7 #[.val (.ref a1), .val (.int (0 : Int32)), .val (.ref a1), .val (.int (3 : Int32)), .unset, .unset] [])) _
    refine XS.iconst X0.here hx rfl (hb hby d1_7) ?_
    show Steps p.tables e below (s₁.setTop (mkF m 8 #[.val (.ref a1), .val (.int (0 : Int32)), .val (.ref a1), .val (.int (3 : Int32)), .unset, .unset] [(.int (0 : Int32))])) _
    refine XS.istore X0.here hx rfl (hb hby d1_8) rfl (l' := #[.val (.ref a1), .val (.int (0 : Int32)), .val (.ref a1), .val (.int (3 : Int32)), .val (.int (0 : Int32)), .unset]) rfl ?_
    show Steps p.tables e below (s₁.setTop (mkF m 10 #[.val (.ref a1), .val (.int (0 : Int32)), .val (.ref a1), .val (.int (3 : Int32)), .val (.int (0 : Int32)), .unset] [])) _
    refine s1 _ ?_
    refine s2 _ ?_
    refine s3 _ ?_
    refine s9 _ ?_
    show Steps p.tables e below (T9.setTop (mkF m 35 #[.val (.ref a1), .val (.int (own_u3 x0 x1 x2)), .val (.ref a1), .val (.int (3 : Int32)), .val (.int ((((0 : Int32) + (1 : Int32)) + (1 : Int32)) + (1 : Int32))), .val (.int x2)] [])) _
    refine XS.iloadN X9.here hx rfl (hb hby d1_35) rfl ?_
    show Steps p.tables e below (T9.setTop (mkF m 36 #[.val (.ref a1), .val (.int (own_u3 x0 x1 x2)), .val (.ref a1), .val (.int (3 : Int32)), .val (.int ((((0 : Int32) + (1 : Int32)) + (1 : Int32)) + (1 : Int32))), .val (.int x2)] [(.int (own_u3 x0 x1 x2))])) _
    exact retI X9 hx Bd.returns (hb hby d1_36) hr
  · show own_Q (some (.int (own_u3 x0 x1 x2))) h0 n0 _ T9.heap _
    rw [e9]
    exact ⟨rfl, N0, rfl⟩
theorem own_lt32 (x : Int32) : (x &&& (31 : Int32)).toBitVec.toNat < 32 := by
  rw [Int32.toBitVec_and, BitVec.toNat_and]
  exact Nat.lt_of_le_of_lt Nat.and_le_right (by decide)
theorem own_four (x : Int32) : (x &&& (3 : Int32)) = 0 ∨ (x &&& (3 : Int32)) = 1 ∨ (x &&& (3 : Int32)) = 2 ∨ (x &&& (3 : Int32)) = 3 := by
  have b : (x &&& (3 : Int32)).toBitVec.toNat < 4 := by
    rw [Int32.toBitVec_and, BitVec.toNat_and]
    exact Nat.lt_of_le_of_lt Nat.and_le_right (by decide)
  generalize (x &&& (3 : Int32)) = y at *
  have e (k : Nat) (z : Int32) (hz : z.toBitVec.toNat = k) (h : y.toBitVec.toNat = k) : y = z := Int32.toBitVec_inj.mp (BitVec.eq_of_toNat_eq (h.trans hz.symm))
  rcases (by omega : y.toBitVec.toNat = 0 ∨ y.toBitVec.toNat = 1 ∨ y.toBitVec.toNat = 2 ∨ y.toBitVec.toNat = 3) with h | h | h | h
  · exact Or.inl (e 0 0 (by decide) h)
  · exact Or.inr (Or.inl (e 1 1 (by decide) h))
  · exact Or.inr (Or.inr (Or.inl (e 2 2 (by decide) h)))
  · exact Or.inr (Or.inr (Or.inr (e 3 3 (by decide) h)))
theorem own_m31 {x : Int32} (hx : x.toBitVec.toNat < 32) : x &&& (31 : Int32) = x := by
  refine Int32.toBitVec_inj.mp (BitVec.eq_of_toNat_eq ?_)
  rw [Int32.toBitVec_and, BitVec.toNat_and]
  have : (31 : Int32).toBitVec.toNat = 2 ^ 5 - 1 := by decide
  rw [this, Nat.and_two_pow_sub_one_eq_mod]
  exact Nat.mod_eq_of_lt hx
theorem own_tst (U q : Int32) (hq : q.toBitVec.toNat < 32) : ((((U.toUInt32 >>> (q &&& 31).toUInt32).toInt32) &&& (1 : Int32)) = 0) ↔ U.toBitVec.getLsbD q.toBitVec.toNat = false := by
  rw [own_m31 hq]
  have e : (((U.toUInt32 >>> q.toUInt32).toInt32) &&& (1 : Int32)).toBitVec = (U.toBitVec >>> q.toBitVec.toNat) &&& 1#32 := by
    have m : q.toBitVec.toNat % 32 = q.toBitVec.toNat := Nat.mod_eq_of_lt hq
    rw [Int32.toBitVec_and]
    have : ((U.toUInt32 >>> q.toUInt32).toInt32).toBitVec = U.toBitVec >>> (q.toBitVec.toNat % 32) := by
      simp [UInt32.toBitVec_shiftRight, BitVec.toNat_umod]
    rw [this, m]; rfl
  rw [← Int32.toBitVec_inj, e, BitVec.and_one_eq_setWidth_ofBool_getLsbD, BitVec.getLsbD_ushiftRight, Nat.add_zero]
  cases U.toBitVec.getLsbD q.toBitVec.toNat <;> decide
theorem own_one (x q : Int32) (hx : x.toBitVec.toNat < 32) (hq : q.toBitVec.toNat < 32) : ((1 : Int32) <<< (x &&& 31)).toBitVec.getLsbD q.toBitVec.toNat = decide (q = x) := by
  rw [own_m31 hx]
  have e : ((1 : Int32) <<< x).toBitVec = 1#32 <<< x.toBitVec.toNat := by
    have m : x.toBitVec.toNat % 32 = x.toBitVec.toNat := Nat.mod_eq_of_lt hx
    have s : (x.toBitVec.smod 32#32).toNat = x.toBitVec.toNat := by
      rw [BitVec.smod_eq, BitVec.msb_eq_false_iff_two_mul_lt.mpr (by omega), show (32#32).msb = false from by decide]
      exact m
    rw [Int32.toBitVec_shiftLeft]
    show 1#32 <<< (x.toBitVec.smod 32#32).toNat = _
    rw [s]
  rw [e, BitVec.getLsbD_shiftLeft]
  have i : (q = x) ↔ q.toBitVec.toNat = x.toBitVec.toNat := by rw [← Int32.toBitVec_inj, BitVec.toNat_eq]
  have ii : decide (q = x) = decide (q.toBitVec.toNat = x.toBitVec.toNat) := decide_eq_decide.mpr i
  rw [ii]
  by_cases h : q.toBitVec.toNat = x.toBitVec.toNat
  · simp [h, hx]
  · by_cases g : q.toBitVec.toNat < x.toBitVec.toNat
    · simp [g, Nat.ne_of_lt g]
    · have k : 1#32 = BitVec.ofNat 32 1 := rfl
      have z : (1#32).getLsbD (q.toBitVec.toNat - x.toBitVec.toNat) = false := by
        rw [BitVec.getLsbD_one]; simp; omega
      simp [h, z]
theorem own_zero (n : Nat) : (0 : Int32).toBitVec.getLsbD n = false := by
  show (0#32).getLsbD n = false
  simp
theorem own_lor (a b : Int32) (n : Nat) : (a ||| b).toBitVec.getLsbD n = (a.toBitVec.getLsbD n || b.toBitVec.getLsbD n) := by
  rw [Int32.toBitVec_or, BitVec.getLsbD_or]
theorem own_bits1 (a q : Int32) (ha : a.toBitVec.toNat < 32) (hq : q.toBitVec.toNat < 32) : (own_u1 a).toBitVec.getLsbD q.toBitVec.toNat = decide (q = a) := by
  rw [own_u1, own_lor, own_zero, own_one a q ha hq, Bool.false_or]
theorem own_bits2 (a b q : Int32) (ha : a.toBitVec.toNat < 32) (hb : b.toBitVec.toNat < 32) (hq : q.toBitVec.toNat < 32) : (own_u2 a b).toBitVec.getLsbD q.toBitVec.toNat = (decide (q = a) || decide (q = b)) := by
  rw [own_u2, own_lor, own_bits1 a q ha hq, own_one b q hb hq]
theorem own_bits3 (a b c q : Int32) (ha : a.toBitVec.toNat < 32) (hb : b.toBitVec.toNat < 32) (hc : c.toBitVec.toNat < 32) (hq : q.toBitVec.toNat < 32) : (own_u3 a b c).toBitVec.getLsbD q.toBitVec.toNat = (decide (q = a) || decide (q = b) || decide (q = c)) := by
  rw [own_u3, own_lor, own_bits2 a b q ha hb hq, own_one c q hc hq]
theorem ef_0 (m : MethodId) (x0 : Int32) (x1 : Int32) (x2 : Int32) (x3 : Int32) (x4 : Int32) : entryFrame m #[(.int x0), (.int x1), (.int x2), (.int x3), (.int x4)] maxLocals = mkF m 0 #[.val (.int x0), .val (.int x1), .val (.int x2), .val (.int x3), .val (.int x4), .unset, .unset, .unset, .unset, .unset, .unset, .unset, .unset, .unset] [] := by first | (simp [entryFrame, mkF, argsToLocals, Value.category, maxLocals]; done) | rfl
theorem pd_0_0 : parseMethodDescriptor "([I)I" = some ⟨[(.array .int)], some .int⟩ := by decide +kernel
theorem pn_0 : plainName "com/example/sundew/sundew/text/BreakPropertiesBitsPinLaw" = true := by first | (simp [plainName, overriddenIn]; done) | decide +kernel
def own_Q0 (h0 : Heap) (n0 : Nat) (v : Option Value) (h : Heap) (L : List Loc) : Prop := v = some (.int (1 : Int32)) ∧ Fr n0 L
set_option maxRecDepth 65536 in
set_option maxHeartbeats 40000000 in
theorem own_rm0_0_0 (l : Launch) (Z : State) (a0 : Array Value) (hw : ∀ d ∈ tables_1, d.before a0 Z = true) (ws : List Jvm.Cond) (p1 : Int32) (p2 : Int32) (p3 : Int32) (p4 : Int32) (p5 : Int32) (h0 : Heap) (n0 : Nat) (Z0 : n0 ≤ h0.size) (hn : (p1 &&& (3 : Int32)) = (0 : Int32)) (hc39 : (0 : Int32) < (1 : Int32)) (hc51 : (0 : Int32) < (2 : Int32)) (hc63 : (0 : Int32) < (3 : Int32)) (hc82 : (0 : Int32) < (1 : Int32)) (hc95 : (0 : Int32) < (2 : Int32)) (hc108 : (0 : Int32) < (3 : Int32)) (hc132 : ((((0 : Int32).toUInt32 >>> ((p5 &&& (31 : Int32)) &&& 31).toUInt32).toInt32) &&& (1 : Int32)) = (0 : Int32)) :
    MetFree l x (head1 (Jvm.Cond.code x code maxLocals ret :: ws) room_1) (fun a U => a = #[(.int p1), (.int p2), (.int p3), (.int p4), (.int p5)] ∧ Z.Warmed39 U.vm ∧ U.heap = h0) (fun _ _ _ _ _ => True) (fun _ U o U' => ∃ v L, o = .returned v ∧ own_Q0 h0 n0 v U'.heap L ∧ FrameEnd U o U' L room_1.cells room_1.slots) := by
  refine MetFree.of_bodySF (plainFor_of_name pn_0) hisR ?_
  intro p e s m args below meth c s₁ Bd hml0 hP hK
  obtain ⟨rfl, hZ, hh⟩ := hP
  have hx := Bd.exec
  have hby := Bd.bytes
  have hml : c.maxLocals = 14 := hml0
  have hown : s.vm.findClass "com/example/sundew/sundew/text/BreakPropertiesBitsPinLaw" = some m.cls := findClass_of_methodNamed Bd.named
  have hnm := (name_of_methodNamed Bd.named Bd.method).1
  have X0 : Stand p l e room_1 s m #[(.int p1), (.int p2), (.int p3), (.int p4), (.int p5)] below meth c s₁ [] 0 0 := Stand.of_body Bd
  have e0 : s₁.heap = h0 := by rw [← hh, Bd.state]; rfl
  have N0 := Fr.nil n0
  have pre0 : ∀ t, Steps p.tables e below (s₁.setTop (mkF m 0 #[.val (.int p1), .val (.int p2), .val (.int p3), .val (.int p4), .val (.int p5), .unset, .unset, .unset, .unset, .unset, .unset, .unset, .unset, .unset] [])) t → Steps p.tables e below (s₁.setTop (entryFrame m #[(.int p1), (.int p2), (.int p3), (.int p4), (.int p5)] maxLocals)) t := fun t k => castTop (ef_0 m p1 p2 p3 p4 p5) k
  obtain ⟨T6, h6, k6, X6, e6, E6, A6, st6⟩ := newP X0 hx hZ (hw _ (List.mem_of_getElem? (i := 0) rfl)) e0 (g := (mkF m 32 #[.val (.int p1), .val (.int p2), .val (.int p3), .val (.int p4), .val (.int p5), .val (.int (0 : Int32)), .val (.int (p2 &&& (31 : Int32))), .val (.int (p3 &&& (31 : Int32))), .val (.int (p4 &&& (31 : Int32))), .val (.int (p5 &&& (31 : Int32))), .unset, .unset, .unset, .unset] [(.int (0 : Int32))])) rfl (hb hby at_32) rfl (by decide) (cap := 0) (by decide) (by decide) (by decide) (by decide)
  obtain ⟨b6, g6⟩ : ∃ z, z = h0.size := ⟨_, rfl⟩
  rw [← g6] at A6 st6
  have V_b6 := Arv.new A6 (by decide)
  have g_b6 : n0 ≤ b6 := Nat.le_trans Z0 (Nat.le_of_eq g6.symm)
  have sz_b6 : h0.size ≤ b6 := (Nat.le_trans (Keep.refl h0 []).1 (Nat.le_of_eq g6.symm))
  have K6 : Keep h0 h6 [] := (Keep.refl h0 []).ext E6
  obtain ⟨_, _, ⟨T7, L7, k7, n7⟩, -, X7, ⟨Lc7, hQ7, l7, y7, z7⟩, st7⟩ := Jvm.LawKit.callS X6 hx (y := (⟨"com/example/sundew/sundew/text/BreakProperties", "bits", "([I)I"⟩ : MethodName)) hown (mvT hZ (hw _ (List.mem_of_getElem? (i := 1) rfl))) (mvT hZ (hw _ (List.mem_of_getElem? (i := 2) rfl))) (mvT hZ (hw _ (List.mem_of_getElem? (i := 3) rfl))) (mvT hZ (hw _ (List.mem_of_getElem? (i := 4) rfl))) (by decide) (backOf (W := 0) (own_rm1_0 l Z a0 hw [] b6 _ h6 n0 (Nat.le_trans Z0 E6.1) V_b6) hZ (hw _ (List.mem_of_getElem? (i := 4) rfl)) (hw _ (List.mem_of_getElem? (i := 3) rfl)) (by decide) (by decide)) (g := (mkF m 74 #[.val (.int p1), .val (.int p2), .val (.int p3), .val (.int p4), .val (.int p5), .val (.int (0 : Int32)), .val (.int (p2 &&& (31 : Int32))), .val (.int (p3 &&& (31 : Int32))), .val (.int (p4 &&& (31 : Int32))), .val (.int (p5 &&& (31 : Int32))), .val (.ref b6), .unset, .unset, .unset] [(.ref b6)])) rfl (by rw [hml]; rfl) (argsL := [(.ref b6)]) (rest := []) (lenOf pd_0_0 rfl) rfl (by show 2 * 0 + _ ≤ _; exact Nat.le_of_eq rfl) (hb hby at_74) (fun _ _ => ⟨rfl, e6, (by decide : 1 + 0 ≤ _), (by decide : 0 + 0 ≤ _)⟩)
  dsimp only [Pt.U, Pt.locs, Pt.cells, Pt.slots] at X7 l7 y7 z7 st7 hQ7
  subst l7 y7 z7
  obtain ⟨rfl, N7q, e7⟩ := hQ7
  have N7 := Fr.app N0 N7q
  obtain ⟨fs, hr, hrun, hended, hW, hsame⟩ := X7.leave (v := some (.int (1 : Int32))) (fun h => by rw [Bd.returns] at h; cases h)
  refine ⟨_, _, pre0 _ ?_, hrun, hended, _, _, rfl, ?_, ⟨_, rfl⟩, hW, hsame.mono (by decide) (by decide)⟩
  · show Steps p.tables e below (s₁.setTop (mkF m 0 #[.val (.int p1), .val (.int p2), .val (.int p3), .val (.int p4), .val (.int p5), .unset, .unset, .unset, .unset, .unset, .unset, .unset, .unset, .unset] [])) _
    refine XS.iloadN X0.here hx rfl (hb hby at_0) rfl ?_
    show Steps p.tables e below (s₁.setTop (mkF m 1 #[.val (.int p1), .val (.int p2), .val (.int p3), .val (.int p4), .val (.int p5), .unset, .unset, .unset, .unset, .unset, .unset, .unset, .unset, .unset] [(.int p1)])) _
    refine XS.iconst X0.here hx rfl (hb hby at_1) ?_
    show Steps p.tables e below (s₁.setTop (mkF m 2 #[.val (.int p1), .val (.int p2), .val (.int p3), .val (.int p4), .val (.int p5), .unset, .unset, .unset, .unset, .unset, .unset, .unset, .unset, .unset] [(.int (3 : Int32)), (.int p1)])) _
    refine XS.iand X0.here hx rfl (hb hby at_2) rfl ?_
    show Steps p.tables e below (s₁.setTop (mkF m 3 #[.val (.int p1), .val (.int p2), .val (.int p3), .val (.int p4), .val (.int p5), .unset, .unset, .unset, .unset, .unset, .unset, .unset, .unset, .unset] [(.int (p1 &&& (3 : Int32)))])) _
    rw [hn]
    show Steps p.tables e below (s₁.setTop (mkF m 3 #[.val (.int p1), .val (.int p2), .val (.int p3), .val (.int p4), .val (.int p5), .unset, .unset, .unset, .unset, .unset, .unset, .unset, .unset, .unset] [(.int (0 : Int32))])) _
    refine XS.istore X0.here hx rfl (hb hby at_3) rfl (l' := #[.val (.int p1), .val (.int p2), .val (.int p3), .val (.int p4), .val (.int p5), .val (.int (0 : Int32)), .unset, .unset, .unset, .unset, .unset, .unset, .unset, .unset]) rfl ?_
    show Steps p.tables e below (s₁.setTop (mkF m 5 #[.val (.int p1), .val (.int p2), .val (.int p3), .val (.int p4), .val (.int p5), .val (.int (0 : Int32)), .unset, .unset, .unset, .unset, .unset, .unset, .unset, .unset] [])) _
    refine XS.iloadN X0.here hx rfl (hb hby at_5) rfl ?_
    show Steps p.tables e below (s₁.setTop (mkF m 6 #[.val (.int p1), .val (.int p2), .val (.int p3), .val (.int p4), .val (.int p5), .val (.int (0 : Int32)), .unset, .unset, .unset, .unset, .unset, .unset, .unset, .unset] [(.int p2)])) _
    refine XS.bipush X0.here hx rfl (hb hby at_6) ?_
    show Steps p.tables e below (s₁.setTop (mkF m 8 #[.val (.int p1), .val (.int p2), .val (.int p3), .val (.int p4), .val (.int p5), .val (.int (0 : Int32)), .unset, .unset, .unset, .unset, .unset, .unset, .unset, .unset] [(.int (31 : Int32)), (.int p2)])) _
    refine XS.iand X0.here hx rfl (hb hby at_8) rfl ?_
    show Steps p.tables e below (s₁.setTop (mkF m 9 #[.val (.int p1), .val (.int p2), .val (.int p3), .val (.int p4), .val (.int p5), .val (.int (0 : Int32)), .unset, .unset, .unset, .unset, .unset, .unset, .unset, .unset] [(.int (p2 &&& (31 : Int32)))])) _
    refine XS.istore X0.here hx rfl (hb hby at_9) rfl (l' := #[.val (.int p1), .val (.int p2), .val (.int p3), .val (.int p4), .val (.int p5), .val (.int (0 : Int32)), .val (.int (p2 &&& (31 : Int32))), .unset, .unset, .unset, .unset, .unset, .unset, .unset]) rfl ?_
    show Steps p.tables e below (s₁.setTop (mkF m 11 #[.val (.int p1), .val (.int p2), .val (.int p3), .val (.int p4), .val (.int p5), .val (.int (0 : Int32)), .val (.int (p2 &&& (31 : Int32))), .unset, .unset, .unset, .unset, .unset, .unset, .unset] [])) _
    refine XS.iloadN X0.here hx rfl (hb hby at_11) rfl ?_
    show Steps p.tables e below (s₁.setTop (mkF m 12 #[.val (.int p1), .val (.int p2), .val (.int p3), .val (.int p4), .val (.int p5), .val (.int (0 : Int32)), .val (.int (p2 &&& (31 : Int32))), .unset, .unset, .unset, .unset, .unset, .unset, .unset] [(.int p3)])) _
    refine XS.bipush X0.here hx rfl (hb hby at_12) ?_
    show Steps p.tables e below (s₁.setTop (mkF m 14 #[.val (.int p1), .val (.int p2), .val (.int p3), .val (.int p4), .val (.int p5), .val (.int (0 : Int32)), .val (.int (p2 &&& (31 : Int32))), .unset, .unset, .unset, .unset, .unset, .unset, .unset] [(.int (31 : Int32)), (.int p3)])) _
    refine XS.iand X0.here hx rfl (hb hby at_14) rfl ?_
    show Steps p.tables e below (s₁.setTop (mkF m 15 #[.val (.int p1), .val (.int p2), .val (.int p3), .val (.int p4), .val (.int p5), .val (.int (0 : Int32)), .val (.int (p2 &&& (31 : Int32))), .unset, .unset, .unset, .unset, .unset, .unset, .unset] [(.int (p3 &&& (31 : Int32)))])) _
    refine XS.istore X0.here hx rfl (hb hby at_15) rfl (l' := #[.val (.int p1), .val (.int p2), .val (.int p3), .val (.int p4), .val (.int p5), .val (.int (0 : Int32)), .val (.int (p2 &&& (31 : Int32))), .val (.int (p3 &&& (31 : Int32))), .unset, .unset, .unset, .unset, .unset, .unset]) rfl ?_
    show Steps p.tables e below (s₁.setTop (mkF m 17 #[.val (.int p1), .val (.int p2), .val (.int p3), .val (.int p4), .val (.int p5), .val (.int (0 : Int32)), .val (.int (p2 &&& (31 : Int32))), .val (.int (p3 &&& (31 : Int32))), .unset, .unset, .unset, .unset, .unset, .unset] [])) _
    refine XS.iloadN X0.here hx rfl (hb hby at_17) rfl ?_
    show Steps p.tables e below (s₁.setTop (mkF m 18 #[.val (.int p1), .val (.int p2), .val (.int p3), .val (.int p4), .val (.int p5), .val (.int (0 : Int32)), .val (.int (p2 &&& (31 : Int32))), .val (.int (p3 &&& (31 : Int32))), .unset, .unset, .unset, .unset, .unset, .unset] [(.int p4)])) _
    refine XS.bipush X0.here hx rfl (hb hby at_18) ?_
    show Steps p.tables e below (s₁.setTop (mkF m 20 #[.val (.int p1), .val (.int p2), .val (.int p3), .val (.int p4), .val (.int p5), .val (.int (0 : Int32)), .val (.int (p2 &&& (31 : Int32))), .val (.int (p3 &&& (31 : Int32))), .unset, .unset, .unset, .unset, .unset, .unset] [(.int (31 : Int32)), (.int p4)])) _
    refine XS.iand X0.here hx rfl (hb hby at_20) rfl ?_
    show Steps p.tables e below (s₁.setTop (mkF m 21 #[.val (.int p1), .val (.int p2), .val (.int p3), .val (.int p4), .val (.int p5), .val (.int (0 : Int32)), .val (.int (p2 &&& (31 : Int32))), .val (.int (p3 &&& (31 : Int32))), .unset, .unset, .unset, .unset, .unset, .unset] [(.int (p4 &&& (31 : Int32)))])) _
    refine XS.istore X0.here hx rfl (hb hby at_21) rfl (l' := #[.val (.int p1), .val (.int p2), .val (.int p3), .val (.int p4), .val (.int p5), .val (.int (0 : Int32)), .val (.int (p2 &&& (31 : Int32))), .val (.int (p3 &&& (31 : Int32))), .val (.int (p4 &&& (31 : Int32))), .unset, .unset, .unset, .unset, .unset]) rfl ?_
    show Steps p.tables e below (s₁.setTop (mkF m 23 #[.val (.int p1), .val (.int p2), .val (.int p3), .val (.int p4), .val (.int p5), .val (.int (0 : Int32)), .val (.int (p2 &&& (31 : Int32))), .val (.int (p3 &&& (31 : Int32))), .val (.int (p4 &&& (31 : Int32))), .unset, .unset, .unset, .unset, .unset] [])) _
    refine XS.iload X0.here hx rfl (hb hby at_23) rfl ?_
    show Steps p.tables e below (s₁.setTop (mkF m 25 #[.val (.int p1), .val (.int p2), .val (.int p3), .val (.int p4), .val (.int p5), .val (.int (0 : Int32)), .val (.int (p2 &&& (31 : Int32))), .val (.int (p3 &&& (31 : Int32))), .val (.int (p4 &&& (31 : Int32))), .unset, .unset, .unset, .unset, .unset] [(.int p5)])) _
    refine XS.bipush X0.here hx rfl (hb hby at_25) ?_
    show Steps p.tables e below (s₁.setTop (mkF m 27 #[.val (.int p1), .val (.int p2), .val (.int p3), .val (.int p4), .val (.int p5), .val (.int (0 : Int32)), .val (.int (p2 &&& (31 : Int32))), .val (.int (p3 &&& (31 : Int32))), .val (.int (p4 &&& (31 : Int32))), .unset, .unset, .unset, .unset, .unset] [(.int (31 : Int32)), (.int p5)])) _
    refine XS.iand X0.here hx rfl (hb hby at_27) rfl ?_
    show Steps p.tables e below (s₁.setTop (mkF m 28 #[.val (.int p1), .val (.int p2), .val (.int p3), .val (.int p4), .val (.int p5), .val (.int (0 : Int32)), .val (.int (p2 &&& (31 : Int32))), .val (.int (p3 &&& (31 : Int32))), .val (.int (p4 &&& (31 : Int32))), .unset, .unset, .unset, .unset, .unset] [(.int (p5 &&& (31 : Int32)))])) _
    refine XS.istore X0.here hx rfl (hb hby at_28) rfl (l' := #[.val (.int p1), .val (.int p2), .val (.int p3), .val (.int p4), .val (.int p5), .val (.int (0 : Int32)), .val (.int (p2 &&& (31 : Int32))), .val (.int (p3 &&& (31 : Int32))), .val (.int (p4 &&& (31 : Int32))), .val (.int (p5 &&& (31 : Int32))), .unset, .unset, .unset, .unset]) rfl ?_
    show Steps p.tables e below (s₁.setTop (mkF m 30 #[.val (.int p1), .val (.int p2), .val (.int p3), .val (.int p4), .val (.int p5), .val (.int (0 : Int32)), .val (.int (p2 &&& (31 : Int32))), .val (.int (p3 &&& (31 : Int32))), .val (.int (p4 &&& (31 : Int32))), .val (.int (p5 &&& (31 : Int32))), .unset, .unset, .unset, .unset] [])) _
    refine XS.iload X0.here hx rfl (hb hby at_30) rfl ?_
    show Steps p.tables e below (s₁.setTop (mkF m 32 #[.val (.int p1), .val (.int p2), .val (.int p3), .val (.int p4), .val (.int p5), .val (.int (0 : Int32)), .val (.int (p2 &&& (31 : Int32))), .val (.int (p3 &&& (31 : Int32))), .val (.int (p4 &&& (31 : Int32))), .val (.int (p5 &&& (31 : Int32))), .unset, .unset, .unset, .unset] [(.int (0 : Int32))])) _
    refine st6 _ ?_
    show Steps p.tables e below (T6.setTop (mkF m 34 #[.val (.int p1), .val (.int p2), .val (.int p3), .val (.int p4), .val (.int p5), .val (.int (0 : Int32)), .val (.int (p2 &&& (31 : Int32))), .val (.int (p3 &&& (31 : Int32))), .val (.int (p4 &&& (31 : Int32))), .val (.int (p5 &&& (31 : Int32))), .unset, .unset, .unset, .unset] [(.ref b6)])) _
    refine XS.astore X6.here hx rfl (hb hby at_34) rfl rfl (l' := #[.val (.int p1), .val (.int p2), .val (.int p3), .val (.int p4), .val (.int p5), .val (.int (0 : Int32)), .val (.int (p2 &&& (31 : Int32))), .val (.int (p3 &&& (31 : Int32))), .val (.int (p4 &&& (31 : Int32))), .val (.int (p5 &&& (31 : Int32))), .val (.ref b6), .unset, .unset, .unset]) rfl ?_
    show Steps p.tables e below (T6.setTop (mkF m 36 #[.val (.int p1), .val (.int p2), .val (.int p3), .val (.int p4), .val (.int p5), .val (.int (0 : Int32)), .val (.int (p2 &&& (31 : Int32))), .val (.int (p3 &&& (31 : Int32))), .val (.int (p4 &&& (31 : Int32))), .val (.int (p5 &&& (31 : Int32))), .val (.ref b6), .unset, .unset, .unset] [])) _
    refine XS.iload X6.here hx rfl (hb hby at_36) rfl ?_
    show Steps p.tables e below (T6.setTop (mkF m 38 #[.val (.int p1), .val (.int p2), .val (.int p3), .val (.int p4), .val (.int p5), .val (.int (0 : Int32)), .val (.int (p2 &&& (31 : Int32))), .val (.int (p3 &&& (31 : Int32))), .val (.int (p4 &&& (31 : Int32))), .val (.int (p5 &&& (31 : Int32))), .val (.ref b6), .unset, .unset, .unset] [(.int (0 : Int32))])) _
    refine XS.iconst X6.here hx rfl (hb hby at_38) ?_
    show Steps p.tables e below (T6.setTop (mkF m 39 #[.val (.int p1), .val (.int p2), .val (.int p3), .val (.int p4), .val (.int p5), .val (.int (0 : Int32)), .val (.int (p2 &&& (31 : Int32))), .val (.int (p3 &&& (31 : Int32))), .val (.int (p4 &&& (31 : Int32))), .val (.int (p5 &&& (31 : Int32))), .val (.ref b6), .unset, .unset, .unset] [(.int (1 : Int32)), (.int (0 : Int32))])) _
    refine XS.icmpYes X6.here hx rfl (pc0 := 39) (pc' := 48) rfl (hb hby at_39) rfl (tlt hc39).1 (by decide) (by decide) ?_
    show Steps p.tables e below (T6.setTop (mkF m 48 #[.val (.int p1), .val (.int p2), .val (.int p3), .val (.int p4), .val (.int p5), .val (.int (0 : Int32)), .val (.int (p2 &&& (31 : Int32))), .val (.int (p3 &&& (31 : Int32))), .val (.int (p4 &&& (31 : Int32))), .val (.int (p5 &&& (31 : Int32))), .val (.ref b6), .unset, .unset, .unset] [])) _
    refine XS.iload X6.here hx rfl (hb hby at_48) rfl ?_
    show Steps p.tables e below (T6.setTop (mkF m 50 #[.val (.int p1), .val (.int p2), .val (.int p3), .val (.int p4), .val (.int p5), .val (.int (0 : Int32)), .val (.int (p2 &&& (31 : Int32))), .val (.int (p3 &&& (31 : Int32))), .val (.int (p4 &&& (31 : Int32))), .val (.int (p5 &&& (31 : Int32))), .val (.ref b6), .unset, .unset, .unset] [(.int (0 : Int32))])) _
    refine XS.iconst X6.here hx rfl (hb hby at_50) ?_
    show Steps p.tables e below (T6.setTop (mkF m 51 #[.val (.int p1), .val (.int p2), .val (.int p3), .val (.int p4), .val (.int p5), .val (.int (0 : Int32)), .val (.int (p2 &&& (31 : Int32))), .val (.int (p3 &&& (31 : Int32))), .val (.int (p4 &&& (31 : Int32))), .val (.int (p5 &&& (31 : Int32))), .val (.ref b6), .unset, .unset, .unset] [(.int (2 : Int32)), (.int (0 : Int32))])) _
    refine XS.icmpYes X6.here hx rfl (pc0 := 51) (pc' := 60) rfl (hb hby at_51) rfl (tlt hc51).1 (by decide) (by decide) ?_
    show Steps p.tables e below (T6.setTop (mkF m 60 #[.val (.int p1), .val (.int p2), .val (.int p3), .val (.int p4), .val (.int p5), .val (.int (0 : Int32)), .val (.int (p2 &&& (31 : Int32))), .val (.int (p3 &&& (31 : Int32))), .val (.int (p4 &&& (31 : Int32))), .val (.int (p5 &&& (31 : Int32))), .val (.ref b6), .unset, .unset, .unset] [])) _
    refine XS.iload X6.here hx rfl (hb hby at_60) rfl ?_
    show Steps p.tables e below (T6.setTop (mkF m 62 #[.val (.int p1), .val (.int p2), .val (.int p3), .val (.int p4), .val (.int p5), .val (.int (0 : Int32)), .val (.int (p2 &&& (31 : Int32))), .val (.int (p3 &&& (31 : Int32))), .val (.int (p4 &&& (31 : Int32))), .val (.int (p5 &&& (31 : Int32))), .val (.ref b6), .unset, .unset, .unset] [(.int (0 : Int32))])) _
    refine XS.iconst X6.here hx rfl (hb hby at_62) ?_
    show Steps p.tables e below (T6.setTop (mkF m 63 #[.val (.int p1), .val (.int p2), .val (.int p3), .val (.int p4), .val (.int p5), .val (.int (0 : Int32)), .val (.int (p2 &&& (31 : Int32))), .val (.int (p3 &&& (31 : Int32))), .val (.int (p4 &&& (31 : Int32))), .val (.int (p5 &&& (31 : Int32))), .val (.ref b6), .unset, .unset, .unset] [(.int (3 : Int32)), (.int (0 : Int32))])) _
    refine XS.icmpYes X6.here hx rfl (pc0 := 63) (pc' := 72) rfl (hb hby at_63) rfl (tlt hc63).1 (by decide) (by decide) ?_
    show Steps p.tables e below (T6.setTop (mkF m 72 #[.val (.int p1), .val (.int p2), .val (.int p3), .val (.int p4), .val (.int p5), .val (.int (0 : Int32)), .val (.int (p2 &&& (31 : Int32))), .val (.int (p3 &&& (31 : Int32))), .val (.int (p4 &&& (31 : Int32))), .val (.int (p5 &&& (31 : Int32))), .val (.ref b6), .unset, .unset, .unset] [])) _
    refine XS.aload X6.here hx rfl (hb hby at_72) rfl rfl ?_
    show Steps p.tables e below (T6.setTop (mkF m 74 #[.val (.int p1), .val (.int p2), .val (.int p3), .val (.int p4), .val (.int p5), .val (.int (0 : Int32)), .val (.int (p2 &&& (31 : Int32))), .val (.int (p3 &&& (31 : Int32))), .val (.int (p4 &&& (31 : Int32))), .val (.int (p5 &&& (31 : Int32))), .val (.ref b6), .unset, .unset, .unset] [(.ref b6)])) _
    refine st7 _ ?_
    show Steps p.tables e below (T7.setTop (mkF m 77 #[.val (.int p1), .val (.int p2), .val (.int p3), .val (.int p4), .val (.int p5), .val (.int (0 : Int32)), .val (.int (p2 &&& (31 : Int32))), .val (.int (p3 &&& (31 : Int32))), .val (.int (p4 &&& (31 : Int32))), .val (.int (p5 &&& (31 : Int32))), .val (.ref b6), .unset, .unset, .unset] [(.int (0 : Int32))])) _
    refine XS.istore X7.here hx rfl (hb hby at_77) rfl (l' := #[.val (.int p1), .val (.int p2), .val (.int p3), .val (.int p4), .val (.int p5), .val (.int (0 : Int32)), .val (.int (p2 &&& (31 : Int32))), .val (.int (p3 &&& (31 : Int32))), .val (.int (p4 &&& (31 : Int32))), .val (.int (p5 &&& (31 : Int32))), .val (.ref b6), .val (.int (0 : Int32)), .unset, .unset]) rfl ?_
    show Steps p.tables e below (T7.setTop (mkF m 79 #[.val (.int p1), .val (.int p2), .val (.int p3), .val (.int p4), .val (.int p5), .val (.int (0 : Int32)), .val (.int (p2 &&& (31 : Int32))), .val (.int (p3 &&& (31 : Int32))), .val (.int (p4 &&& (31 : Int32))), .val (.int (p5 &&& (31 : Int32))), .val (.ref b6), .val (.int (0 : Int32)), .unset, .unset] [])) _
    refine XS.iload X7.here hx rfl (hb hby at_79) rfl ?_
    show Steps p.tables e below (T7.setTop (mkF m 81 #[.val (.int p1), .val (.int p2), .val (.int p3), .val (.int p4), .val (.int p5), .val (.int (0 : Int32)), .val (.int (p2 &&& (31 : Int32))), .val (.int (p3 &&& (31 : Int32))), .val (.int (p4 &&& (31 : Int32))), .val (.int (p5 &&& (31 : Int32))), .val (.ref b6), .val (.int (0 : Int32)), .unset, .unset] [(.int (0 : Int32))])) _
    refine XS.iconst X7.here hx rfl (hb hby at_81) ?_
    show Steps p.tables e below (T7.setTop (mkF m 82 #[.val (.int p1), .val (.int p2), .val (.int p3), .val (.int p4), .val (.int p5), .val (.int (0 : Int32)), .val (.int (p2 &&& (31 : Int32))), .val (.int (p3 &&& (31 : Int32))), .val (.int (p4 &&& (31 : Int32))), .val (.int (p5 &&& (31 : Int32))), .val (.ref b6), .val (.int (0 : Int32)), .unset, .unset] [(.int (1 : Int32)), (.int (0 : Int32))])) _
    refine XS.icmpYes X7.here hx rfl (pc0 := 82) (pc' := 92) rfl (hb hby at_82) rfl (tlt hc82).1 (by decide) (by decide) ?_
    show Steps p.tables e below (T7.setTop (mkF m 92 #[.val (.int p1), .val (.int p2), .val (.int p3), .val (.int p4), .val (.int p5), .val (.int (0 : Int32)), .val (.int (p2 &&& (31 : Int32))), .val (.int (p3 &&& (31 : Int32))), .val (.int (p4 &&& (31 : Int32))), .val (.int (p5 &&& (31 : Int32))), .val (.ref b6), .val (.int (0 : Int32)), .unset, .unset] [])) _
    refine XS.iload X7.here hx rfl (hb hby at_92) rfl ?_
    show Steps p.tables e below (T7.setTop (mkF m 94 #[.val (.int p1), .val (.int p2), .val (.int p3), .val (.int p4), .val (.int p5), .val (.int (0 : Int32)), .val (.int (p2 &&& (31 : Int32))), .val (.int (p3 &&& (31 : Int32))), .val (.int (p4 &&& (31 : Int32))), .val (.int (p5 &&& (31 : Int32))), .val (.ref b6), .val (.int (0 : Int32)), .unset, .unset] [(.int (0 : Int32))])) _
    refine XS.iconst X7.here hx rfl (hb hby at_94) ?_
    show Steps p.tables e below (T7.setTop (mkF m 95 #[.val (.int p1), .val (.int p2), .val (.int p3), .val (.int p4), .val (.int p5), .val (.int (0 : Int32)), .val (.int (p2 &&& (31 : Int32))), .val (.int (p3 &&& (31 : Int32))), .val (.int (p4 &&& (31 : Int32))), .val (.int (p5 &&& (31 : Int32))), .val (.ref b6), .val (.int (0 : Int32)), .unset, .unset] [(.int (2 : Int32)), (.int (0 : Int32))])) _
    refine XS.icmpYes X7.here hx rfl (pc0 := 95) (pc' := 105) rfl (hb hby at_95) rfl (tlt hc95).1 (by decide) (by decide) ?_
    show Steps p.tables e below (T7.setTop (mkF m 105 #[.val (.int p1), .val (.int p2), .val (.int p3), .val (.int p4), .val (.int p5), .val (.int (0 : Int32)), .val (.int (p2 &&& (31 : Int32))), .val (.int (p3 &&& (31 : Int32))), .val (.int (p4 &&& (31 : Int32))), .val (.int (p5 &&& (31 : Int32))), .val (.ref b6), .val (.int (0 : Int32)), .unset, .unset] [])) _
    refine XS.iload X7.here hx rfl (hb hby at_105) rfl ?_
    show Steps p.tables e below (T7.setTop (mkF m 107 #[.val (.int p1), .val (.int p2), .val (.int p3), .val (.int p4), .val (.int p5), .val (.int (0 : Int32)), .val (.int (p2 &&& (31 : Int32))), .val (.int (p3 &&& (31 : Int32))), .val (.int (p4 &&& (31 : Int32))), .val (.int (p5 &&& (31 : Int32))), .val (.ref b6), .val (.int (0 : Int32)), .unset, .unset] [(.int (0 : Int32))])) _
    refine XS.iconst X7.here hx rfl (hb hby at_107) ?_
    show Steps p.tables e below (T7.setTop (mkF m 108 #[.val (.int p1), .val (.int p2), .val (.int p3), .val (.int p4), .val (.int p5), .val (.int (0 : Int32)), .val (.int (p2 &&& (31 : Int32))), .val (.int (p3 &&& (31 : Int32))), .val (.int (p4 &&& (31 : Int32))), .val (.int (p5 &&& (31 : Int32))), .val (.ref b6), .val (.int (0 : Int32)), .unset, .unset] [(.int (3 : Int32)), (.int (0 : Int32))])) _
    refine XS.icmpYes X7.here hx rfl (pc0 := 108) (pc' := 122) rfl (hb hby at_108) rfl (tlt hc108).1 (by decide) (by decide) ?_
    show Steps p.tables e below (T7.setTop (mkF m 122 #[.val (.int p1), .val (.int p2), .val (.int p3), .val (.int p4), .val (.int p5), .val (.int (0 : Int32)), .val (.int (p2 &&& (31 : Int32))), .val (.int (p3 &&& (31 : Int32))), .val (.int (p4 &&& (31 : Int32))), .val (.int (p5 &&& (31 : Int32))), .val (.ref b6), .val (.int (0 : Int32)), .unset, .unset] [])) _
    refine XS.iconst X7.here hx rfl (hb hby at_122) ?_
    show Steps p.tables e below (T7.setTop (mkF m 123 #[.val (.int p1), .val (.int p2), .val (.int p3), .val (.int p4), .val (.int p5), .val (.int (0 : Int32)), .val (.int (p2 &&& (31 : Int32))), .val (.int (p3 &&& (31 : Int32))), .val (.int (p4 &&& (31 : Int32))), .val (.int (p5 &&& (31 : Int32))), .val (.ref b6), .val (.int (0 : Int32)), .unset, .unset] [(.int (0 : Int32))])) _
    refine XS.istore X7.here hx rfl (hb hby at_123) rfl (l' := #[.val (.int p1), .val (.int p2), .val (.int p3), .val (.int p4), .val (.int p5), .val (.int (0 : Int32)), .val (.int (p2 &&& (31 : Int32))), .val (.int (p3 &&& (31 : Int32))), .val (.int (p4 &&& (31 : Int32))), .val (.int (p5 &&& (31 : Int32))), .val (.ref b6), .val (.int (0 : Int32)), .val (.int (0 : Int32)), .unset]) rfl ?_
    show Steps p.tables e below (T7.setTop (mkF m 125 #[.val (.int p1), .val (.int p2), .val (.int p3), .val (.int p4), .val (.int p5), .val (.int (0 : Int32)), .val (.int (p2 &&& (31 : Int32))), .val (.int (p3 &&& (31 : Int32))), .val (.int (p4 &&& (31 : Int32))), .val (.int (p5 &&& (31 : Int32))), .val (.ref b6), .val (.int (0 : Int32)), .val (.int (0 : Int32)), .unset] [])) _
    refine XS.iload X7.here hx rfl (hb hby at_125) rfl ?_
    show Steps p.tables e below (T7.setTop (mkF m 127 #[.val (.int p1), .val (.int p2), .val (.int p3), .val (.int p4), .val (.int p5), .val (.int (0 : Int32)), .val (.int (p2 &&& (31 : Int32))), .val (.int (p3 &&& (31 : Int32))), .val (.int (p4 &&& (31 : Int32))), .val (.int (p5 &&& (31 : Int32))), .val (.ref b6), .val (.int (0 : Int32)), .val (.int (0 : Int32)), .unset] [(.int (0 : Int32))])) _
    refine XS.iload X7.here hx rfl (hb hby at_127) rfl ?_
    show Steps p.tables e below (T7.setTop (mkF m 129 #[.val (.int p1), .val (.int p2), .val (.int p3), .val (.int p4), .val (.int p5), .val (.int (0 : Int32)), .val (.int (p2 &&& (31 : Int32))), .val (.int (p3 &&& (31 : Int32))), .val (.int (p4 &&& (31 : Int32))), .val (.int (p5 &&& (31 : Int32))), .val (.ref b6), .val (.int (0 : Int32)), .val (.int (0 : Int32)), .unset] [(.int (p5 &&& (31 : Int32))), (.int (0 : Int32))])) _
    refine XS.iushr X7.here hx rfl (hb hby at_129) rfl ?_
    show Steps p.tables e below (T7.setTop (mkF m 130 #[.val (.int p1), .val (.int p2), .val (.int p3), .val (.int p4), .val (.int p5), .val (.int (0 : Int32)), .val (.int (p2 &&& (31 : Int32))), .val (.int (p3 &&& (31 : Int32))), .val (.int (p4 &&& (31 : Int32))), .val (.int (p5 &&& (31 : Int32))), .val (.ref b6), .val (.int (0 : Int32)), .val (.int (0 : Int32)), .unset] [(.int (((0 : Int32).toUInt32 >>> ((p5 &&& (31 : Int32)) &&& 31).toUInt32).toInt32))])) _
    refine XS.iconst X7.here hx rfl (hb hby at_130) ?_
    show Steps p.tables e below (T7.setTop (mkF m 131 #[.val (.int p1), .val (.int p2), .val (.int p3), .val (.int p4), .val (.int p5), .val (.int (0 : Int32)), .val (.int (p2 &&& (31 : Int32))), .val (.int (p3 &&& (31 : Int32))), .val (.int (p4 &&& (31 : Int32))), .val (.int (p5 &&& (31 : Int32))), .val (.ref b6), .val (.int (0 : Int32)), .val (.int (0 : Int32)), .unset] [(.int (1 : Int32)), (.int (((0 : Int32).toUInt32 >>> ((p5 &&& (31 : Int32)) &&& 31).toUInt32).toInt32))])) _
    refine XS.iand X7.here hx rfl (hb hby at_131) rfl ?_
    show Steps p.tables e below (T7.setTop (mkF m 132 #[.val (.int p1), .val (.int p2), .val (.int p3), .val (.int p4), .val (.int p5), .val (.int (0 : Int32)), .val (.int (p2 &&& (31 : Int32))), .val (.int (p3 &&& (31 : Int32))), .val (.int (p4 &&& (31 : Int32))), .val (.int (p5 &&& (31 : Int32))), .val (.ref b6), .val (.int (0 : Int32)), .val (.int (0 : Int32)), .unset] [(.int ((((0 : Int32).toUInt32 >>> ((p5 &&& (31 : Int32)) &&& 31).toUInt32).toInt32) &&& (1 : Int32)))])) _
    refine XS.ifYes X7.here hx rfl (pc0 := 132) (pc' := 139) rfl (hb hby at_132) rfl ((if0 _ _).trans (teq hc132).1) (by decide) (by decide) ?_
    show Steps p.tables e below (T7.setTop (mkF m 139 #[.val (.int p1), .val (.int p2), .val (.int p3), .val (.int p4), .val (.int p5), .val (.int (0 : Int32)), .val (.int (p2 &&& (31 : Int32))), .val (.int (p3 &&& (31 : Int32))), .val (.int (p4 &&& (31 : Int32))), .val (.int (p5 &&& (31 : Int32))), .val (.ref b6), .val (.int (0 : Int32)), .val (.int (0 : Int32)), .unset] [])) _
    refine XS.iconst X7.here hx rfl (hb hby at_139) ?_
    show Steps p.tables e below (T7.setTop (mkF m 140 #[.val (.int p1), .val (.int p2), .val (.int p3), .val (.int p4), .val (.int p5), .val (.int (0 : Int32)), .val (.int (p2 &&& (31 : Int32))), .val (.int (p3 &&& (31 : Int32))), .val (.int (p4 &&& (31 : Int32))), .val (.int (p5 &&& (31 : Int32))), .val (.ref b6), .val (.int (0 : Int32)), .val (.int (0 : Int32)), .unset] [(.int (0 : Int32))])) _
    refine XS.istore X7.here hx rfl (hb hby at_140) rfl (l' := #[.val (.int p1), .val (.int p2), .val (.int p3), .val (.int p4), .val (.int p5), .val (.int (0 : Int32)), .val (.int (p2 &&& (31 : Int32))), .val (.int (p3 &&& (31 : Int32))), .val (.int (p4 &&& (31 : Int32))), .val (.int (p5 &&& (31 : Int32))), .val (.ref b6), .val (.int (0 : Int32)), .val (.int (0 : Int32)), .val (.int (0 : Int32))]) rfl ?_
    show Steps p.tables e below (T7.setTop (mkF m 142 #[.val (.int p1), .val (.int p2), .val (.int p3), .val (.int p4), .val (.int p5), .val (.int (0 : Int32)), .val (.int (p2 &&& (31 : Int32))), .val (.int (p3 &&& (31 : Int32))), .val (.int (p4 &&& (31 : Int32))), .val (.int (p5 &&& (31 : Int32))), .val (.ref b6), .val (.int (0 : Int32)), .val (.int (0 : Int32)), .val (.int (0 : Int32))] [])) _
    refine XS.iload X7.here hx rfl (hb hby at_142) rfl ?_
    show Steps p.tables e below (T7.setTop (mkF m 144 #[.val (.int p1), .val (.int p2), .val (.int p3), .val (.int p4), .val (.int p5), .val (.int (0 : Int32)), .val (.int (p2 &&& (31 : Int32))), .val (.int (p3 &&& (31 : Int32))), .val (.int (p4 &&& (31 : Int32))), .val (.int (p5 &&& (31 : Int32))), .val (.ref b6), .val (.int (0 : Int32)), .val (.int (0 : Int32)), .val (.int (0 : Int32))] [(.int (0 : Int32))])) _
    refine XS.iload X7.here hx rfl (hb hby at_144) rfl ?_
    show Steps p.tables e below (T7.setTop (mkF m 146 #[.val (.int p1), .val (.int p2), .val (.int p3), .val (.int p4), .val (.int p5), .val (.int (0 : Int32)), .val (.int (p2 &&& (31 : Int32))), .val (.int (p3 &&& (31 : Int32))), .val (.int (p4 &&& (31 : Int32))), .val (.int (p5 &&& (31 : Int32))), .val (.ref b6), .val (.int (0 : Int32)), .val (.int (0 : Int32)), .val (.int (0 : Int32))] [(.int (0 : Int32)), (.int (0 : Int32))])) _
    refine XS.icmpNo X7.here hx rfl (hb hby at_146) rfl (teq (rfl : (0 : Int32) = (0 : Int32))).2 ?_
    show Steps p.tables e below (T7.setTop (mkF m 149 #[.val (.int p1), .val (.int p2), .val (.int p3), .val (.int p4), .val (.int p5), .val (.int (0 : Int32)), .val (.int (p2 &&& (31 : Int32))), .val (.int (p3 &&& (31 : Int32))), .val (.int (p4 &&& (31 : Int32))), .val (.int (p5 &&& (31 : Int32))), .val (.ref b6), .val (.int (0 : Int32)), .val (.int (0 : Int32)), .val (.int (0 : Int32))] [])) _
    refine XS.iconst X7.here hx rfl (hb hby at_149) ?_
    show Steps p.tables e below (T7.setTop (mkF m 150 #[.val (.int p1), .val (.int p2), .val (.int p3), .val (.int p4), .val (.int p5), .val (.int (0 : Int32)), .val (.int (p2 &&& (31 : Int32))), .val (.int (p3 &&& (31 : Int32))), .val (.int (p4 &&& (31 : Int32))), .val (.int (p5 &&& (31 : Int32))), .val (.ref b6), .val (.int (0 : Int32)), .val (.int (0 : Int32)), .val (.int (0 : Int32))] [(.int (1 : Int32))])) _
    refine XS.goto X7.here hx rfl (pc0 := 150) (pc' := 154) rfl (hb hby at_150) (by decide) (by decide) ?_
    show Steps p.tables e below (T7.setTop (mkF m 154 #[.val (.int p1), .val (.int p2), .val (.int p3), .val (.int p4), .val (.int p5), .val (.int (0 : Int32)), .val (.int (p2 &&& (31 : Int32))), .val (.int (p3 &&& (31 : Int32))), .val (.int (p4 &&& (31 : Int32))), .val (.int (p5 &&& (31 : Int32))), .val (.ref b6), .val (.int (0 : Int32)), .val (.int (0 : Int32)), .val (.int (0 : Int32))] [(.int (1 : Int32))])) _
    exact retN X7 hx (t := .boolean) Bd.returns (by simp) (hb hby at_154) hr
  · show own_Q0 h0 n0 _ T7.heap _
    rw [e7]
    exact ⟨rfl, N7⟩
set_option maxRecDepth 65536 in
set_option maxHeartbeats 40000000 in
theorem own_rm0_1_0 (l : Launch) (Z : State) (a0 : Array Value) (hw : ∀ d ∈ tables_1, d.before a0 Z = true) (ws : List Jvm.Cond) (p1 : Int32) (p2 : Int32) (p3 : Int32) (p4 : Int32) (p5 : Int32) (h0 : Heap) (n0 : Nat) (Z0 : n0 ≤ h0.size) (hn : (p1 &&& (3 : Int32)) = (1 : Int32)) (hc39 : ¬ ((1 : Int32) < (1 : Int32))) (hc51 : (1 : Int32) < (2 : Int32)) (hc63 : (1 : Int32) < (3 : Int32)) (hc82 : ¬ ((1 : Int32) < (1 : Int32))) (hc89 : (p5 &&& (31 : Int32)) = (p2 &&& (31 : Int32))) (hc132 : ¬ (((((own_u1 (p2 &&& (31 : Int32))).toUInt32 >>> ((p5 &&& (31 : Int32)) &&& 31).toUInt32).toInt32) &&& (1 : Int32)) = (0 : Int32))) :
    MetFree l x (head1 (Jvm.Cond.code x code maxLocals ret :: ws) room_1) (fun a U => a = #[(.int p1), (.int p2), (.int p3), (.int p4), (.int p5)] ∧ Z.Warmed39 U.vm ∧ U.heap = h0) (fun _ _ _ _ _ => True) (fun _ U o U' => ∃ v L, o = .returned v ∧ own_Q0 h0 n0 v U'.heap L ∧ FrameEnd U o U' L room_1.cells room_1.slots) := by
  refine MetFree.of_bodySF (plainFor_of_name pn_0) hisR ?_
  intro p e s m args below meth c s₁ Bd hml0 hP hK
  obtain ⟨rfl, hZ, hh⟩ := hP
  have hx := Bd.exec
  have hby := Bd.bytes
  have hml : c.maxLocals = 14 := hml0
  have hown : s.vm.findClass "com/example/sundew/sundew/text/BreakPropertiesBitsPinLaw" = some m.cls := findClass_of_methodNamed Bd.named
  have hnm := (name_of_methodNamed Bd.named Bd.method).1
  have X0 : Stand p l e room_1 s m #[(.int p1), (.int p2), (.int p3), (.int p4), (.int p5)] below meth c s₁ [] 0 0 := Stand.of_body Bd
  have e0 : s₁.heap = h0 := by rw [← hh, Bd.state]; rfl
  have N0 := Fr.nil n0
  have pre0 : ∀ t, Steps p.tables e below (s₁.setTop (mkF m 0 #[.val (.int p1), .val (.int p2), .val (.int p3), .val (.int p4), .val (.int p5), .unset, .unset, .unset, .unset, .unset, .unset, .unset, .unset, .unset] [])) t → Steps p.tables e below (s₁.setTop (entryFrame m #[(.int p1), (.int p2), (.int p3), (.int p4), (.int p5)] maxLocals)) t := fun t k => castTop (ef_0 m p1 p2 p3 p4 p5) k
  obtain ⟨T6, h6, k6, X6, e6, E6, A6, st6⟩ := newP X0 hx hZ (hw _ (List.mem_of_getElem? (i := 0) rfl)) e0 (g := (mkF m 32 #[.val (.int p1), .val (.int p2), .val (.int p3), .val (.int p4), .val (.int p5), .val (.int (1 : Int32)), .val (.int (p2 &&& (31 : Int32))), .val (.int (p3 &&& (31 : Int32))), .val (.int (p4 &&& (31 : Int32))), .val (.int (p5 &&& (31 : Int32))), .unset, .unset, .unset, .unset] [(.int (1 : Int32))])) rfl (hb hby at_32) rfl (by decide) (cap := 1) (by decide) (by decide) (by decide) (by decide)
  obtain ⟨b6, g6⟩ : ∃ z, z = h0.size := ⟨_, rfl⟩
  rw [← g6] at A6 st6
  have V_b6 : Arv Z h6 b6 k6 .int (1 : Int32) [(.int (0 : Int32))] (.int (0 : Int32)) := (Arv.new A6 (by decide)).pad (pad_rep [] (.int (0 : Int32)) 1)
  have g_b6 : n0 ≤ b6 := Nat.le_trans Z0 (Nat.le_of_eq g6.symm)
  have sz_b6 : h0.size ≤ b6 := (Nat.le_trans (Keep.refl h0 []).1 (Nat.le_of_eq g6.symm))
  have K6 : Keep h0 h6 [] := (Keep.refl h0 []).ext E6
  obtain ⟨cl_b6_47, Ar_b6, q_b6, S_b6, N_b6, H_b6, G_b6⟩ := V_b6
  have hin47 : ¬ ((0 : Int32) < 0 ∨ cl_b6_47.slots.size ≤ ((0 : Int32)).toNatClampNeg) := inb_of S_b6 ⟨by decide, by decide⟩
  obtain ⟨T7, h7, X7, e7, W7, st7⟩ := stI X6 hx hZ e6 Ar_b6 (j := (0 : Int32)) hin47 (g := (mkF m 47 #[.val (.int p1), .val (.int p2), .val (.int p3), .val (.int p4), .val (.int p5), .val (.int (1 : Int32)), .val (.int (p2 &&& (31 : Int32))), .val (.int (p3 &&& (31 : Int32))), .val (.int (p4 &&& (31 : Int32))), .val (.int (p5 &&& (31 : Int32))), .val (.ref b6), .unset, .unset, .unset] [(.int (p2 &&& (31 : Int32))), (.int (0 : Int32)), (.ref b6)])) rfl rfl (hb hby at_47)
  have V_b6_7 := Arv.set Ar_b6 q_b6 S_b6 N_b6 H_b6 G_b6 rfl W7 0 rfl (Nat.le_of_ble_eq_true rfl)
  have K7 : Keep h0 h7 [] := K6.wr W7 (Or.inr sz_b6)
  have N7 := Fr.snoc X7 N0 g_b6
  obtain ⟨_, _, ⟨T8, L8, k8, n8⟩, -, X8, ⟨Lc8, hQ8, l8, y8, z8⟩, st8⟩ := Jvm.LawKit.callS X7 hx (y := (⟨"com/example/sundew/sundew/text/BreakProperties", "bits", "([I)I"⟩ : MethodName)) hown (mvT hZ (hw _ (List.mem_of_getElem? (i := 1) rfl))) (mvT hZ (hw _ (List.mem_of_getElem? (i := 2) rfl))) (mvT hZ (hw _ (List.mem_of_getElem? (i := 3) rfl))) (mvT hZ (hw _ (List.mem_of_getElem? (i := 4) rfl))) (by decide) (backOf (W := 0) (own_rm1_1 l Z a0 hw [] b6 _ (p2 &&& (31 : Int32)) h7 n0 (Nat.le_trans (Nat.le_trans Z0 E6.1) (Keep.of_wr W7).1) V_b6_7) hZ (hw _ (List.mem_of_getElem? (i := 4) rfl)) (hw _ (List.mem_of_getElem? (i := 3) rfl)) (by decide) (by decide)) (g := (mkF m 74 #[.val (.int p1), .val (.int p2), .val (.int p3), .val (.int p4), .val (.int p5), .val (.int (1 : Int32)), .val (.int (p2 &&& (31 : Int32))), .val (.int (p3 &&& (31 : Int32))), .val (.int (p4 &&& (31 : Int32))), .val (.int (p5 &&& (31 : Int32))), .val (.ref b6), .unset, .unset, .unset] [(.ref b6)])) rfl (by rw [hml]; rfl) (argsL := [(.ref b6)]) (rest := []) (lenOf pd_0_0 rfl) rfl (by show 2 * 0 + _ ≤ _; exact Nat.le_of_eq rfl) (hb hby at_74) (fun _ _ => ⟨rfl, e7, (by decide : 1 + 0 ≤ _), (by decide : 1 + 0 ≤ _)⟩)
  dsimp only [Pt.U, Pt.locs, Pt.cells, Pt.slots] at X8 l8 y8 z8 st8 hQ8
  subst l8 y8 z8
  obtain ⟨rfl, N8q, e8⟩ := hQ8
  have N8 := Fr.app N7 N8q
  obtain ⟨fs, hr, hrun, hended, hW, hsame⟩ := X8.leave (v := some (.int (1 : Int32))) (fun h => by rw [Bd.returns] at h; cases h)
  refine ⟨_, _, pre0 _ ?_, hrun, hended, _, _, rfl, ?_, ⟨_, rfl⟩, hW, hsame.mono (by decide) (by decide)⟩
  · show Steps p.tables e below (s₁.setTop (mkF m 0 #[.val (.int p1), .val (.int p2), .val (.int p3), .val (.int p4), .val (.int p5), .unset, .unset, .unset, .unset, .unset, .unset, .unset, .unset, .unset] [])) _
    refine XS.iloadN X0.here hx rfl (hb hby at_0) rfl ?_
    show Steps p.tables e below (s₁.setTop (mkF m 1 #[.val (.int p1), .val (.int p2), .val (.int p3), .val (.int p4), .val (.int p5), .unset, .unset, .unset, .unset, .unset, .unset, .unset, .unset, .unset] [(.int p1)])) _
    refine XS.iconst X0.here hx rfl (hb hby at_1) ?_
    show Steps p.tables e below (s₁.setTop (mkF m 2 #[.val (.int p1), .val (.int p2), .val (.int p3), .val (.int p4), .val (.int p5), .unset, .unset, .unset, .unset, .unset, .unset, .unset, .unset, .unset] [(.int (3 : Int32)), (.int p1)])) _
    refine XS.iand X0.here hx rfl (hb hby at_2) rfl ?_
    show Steps p.tables e below (s₁.setTop (mkF m 3 #[.val (.int p1), .val (.int p2), .val (.int p3), .val (.int p4), .val (.int p5), .unset, .unset, .unset, .unset, .unset, .unset, .unset, .unset, .unset] [(.int (p1 &&& (3 : Int32)))])) _
    rw [hn]
    show Steps p.tables e below (s₁.setTop (mkF m 3 #[.val (.int p1), .val (.int p2), .val (.int p3), .val (.int p4), .val (.int p5), .unset, .unset, .unset, .unset, .unset, .unset, .unset, .unset, .unset] [(.int (1 : Int32))])) _
    refine XS.istore X0.here hx rfl (hb hby at_3) rfl (l' := #[.val (.int p1), .val (.int p2), .val (.int p3), .val (.int p4), .val (.int p5), .val (.int (1 : Int32)), .unset, .unset, .unset, .unset, .unset, .unset, .unset, .unset]) rfl ?_
    show Steps p.tables e below (s₁.setTop (mkF m 5 #[.val (.int p1), .val (.int p2), .val (.int p3), .val (.int p4), .val (.int p5), .val (.int (1 : Int32)), .unset, .unset, .unset, .unset, .unset, .unset, .unset, .unset] [])) _
    refine XS.iloadN X0.here hx rfl (hb hby at_5) rfl ?_
    show Steps p.tables e below (s₁.setTop (mkF m 6 #[.val (.int p1), .val (.int p2), .val (.int p3), .val (.int p4), .val (.int p5), .val (.int (1 : Int32)), .unset, .unset, .unset, .unset, .unset, .unset, .unset, .unset] [(.int p2)])) _
    refine XS.bipush X0.here hx rfl (hb hby at_6) ?_
    show Steps p.tables e below (s₁.setTop (mkF m 8 #[.val (.int p1), .val (.int p2), .val (.int p3), .val (.int p4), .val (.int p5), .val (.int (1 : Int32)), .unset, .unset, .unset, .unset, .unset, .unset, .unset, .unset] [(.int (31 : Int32)), (.int p2)])) _
    refine XS.iand X0.here hx rfl (hb hby at_8) rfl ?_
    show Steps p.tables e below (s₁.setTop (mkF m 9 #[.val (.int p1), .val (.int p2), .val (.int p3), .val (.int p4), .val (.int p5), .val (.int (1 : Int32)), .unset, .unset, .unset, .unset, .unset, .unset, .unset, .unset] [(.int (p2 &&& (31 : Int32)))])) _
    refine XS.istore X0.here hx rfl (hb hby at_9) rfl (l' := #[.val (.int p1), .val (.int p2), .val (.int p3), .val (.int p4), .val (.int p5), .val (.int (1 : Int32)), .val (.int (p2 &&& (31 : Int32))), .unset, .unset, .unset, .unset, .unset, .unset, .unset]) rfl ?_
    show Steps p.tables e below (s₁.setTop (mkF m 11 #[.val (.int p1), .val (.int p2), .val (.int p3), .val (.int p4), .val (.int p5), .val (.int (1 : Int32)), .val (.int (p2 &&& (31 : Int32))), .unset, .unset, .unset, .unset, .unset, .unset, .unset] [])) _
    refine XS.iloadN X0.here hx rfl (hb hby at_11) rfl ?_
    show Steps p.tables e below (s₁.setTop (mkF m 12 #[.val (.int p1), .val (.int p2), .val (.int p3), .val (.int p4), .val (.int p5), .val (.int (1 : Int32)), .val (.int (p2 &&& (31 : Int32))), .unset, .unset, .unset, .unset, .unset, .unset, .unset] [(.int p3)])) _
    refine XS.bipush X0.here hx rfl (hb hby at_12) ?_
    show Steps p.tables e below (s₁.setTop (mkF m 14 #[.val (.int p1), .val (.int p2), .val (.int p3), .val (.int p4), .val (.int p5), .val (.int (1 : Int32)), .val (.int (p2 &&& (31 : Int32))), .unset, .unset, .unset, .unset, .unset, .unset, .unset] [(.int (31 : Int32)), (.int p3)])) _
    refine XS.iand X0.here hx rfl (hb hby at_14) rfl ?_
    show Steps p.tables e below (s₁.setTop (mkF m 15 #[.val (.int p1), .val (.int p2), .val (.int p3), .val (.int p4), .val (.int p5), .val (.int (1 : Int32)), .val (.int (p2 &&& (31 : Int32))), .unset, .unset, .unset, .unset, .unset, .unset, .unset] [(.int (p3 &&& (31 : Int32)))])) _
    refine XS.istore X0.here hx rfl (hb hby at_15) rfl (l' := #[.val (.int p1), .val (.int p2), .val (.int p3), .val (.int p4), .val (.int p5), .val (.int (1 : Int32)), .val (.int (p2 &&& (31 : Int32))), .val (.int (p3 &&& (31 : Int32))), .unset, .unset, .unset, .unset, .unset, .unset]) rfl ?_
    show Steps p.tables e below (s₁.setTop (mkF m 17 #[.val (.int p1), .val (.int p2), .val (.int p3), .val (.int p4), .val (.int p5), .val (.int (1 : Int32)), .val (.int (p2 &&& (31 : Int32))), .val (.int (p3 &&& (31 : Int32))), .unset, .unset, .unset, .unset, .unset, .unset] [])) _
    refine XS.iloadN X0.here hx rfl (hb hby at_17) rfl ?_
    show Steps p.tables e below (s₁.setTop (mkF m 18 #[.val (.int p1), .val (.int p2), .val (.int p3), .val (.int p4), .val (.int p5), .val (.int (1 : Int32)), .val (.int (p2 &&& (31 : Int32))), .val (.int (p3 &&& (31 : Int32))), .unset, .unset, .unset, .unset, .unset, .unset] [(.int p4)])) _
    refine XS.bipush X0.here hx rfl (hb hby at_18) ?_
    show Steps p.tables e below (s₁.setTop (mkF m 20 #[.val (.int p1), .val (.int p2), .val (.int p3), .val (.int p4), .val (.int p5), .val (.int (1 : Int32)), .val (.int (p2 &&& (31 : Int32))), .val (.int (p3 &&& (31 : Int32))), .unset, .unset, .unset, .unset, .unset, .unset] [(.int (31 : Int32)), (.int p4)])) _
    refine XS.iand X0.here hx rfl (hb hby at_20) rfl ?_
    show Steps p.tables e below (s₁.setTop (mkF m 21 #[.val (.int p1), .val (.int p2), .val (.int p3), .val (.int p4), .val (.int p5), .val (.int (1 : Int32)), .val (.int (p2 &&& (31 : Int32))), .val (.int (p3 &&& (31 : Int32))), .unset, .unset, .unset, .unset, .unset, .unset] [(.int (p4 &&& (31 : Int32)))])) _
    refine XS.istore X0.here hx rfl (hb hby at_21) rfl (l' := #[.val (.int p1), .val (.int p2), .val (.int p3), .val (.int p4), .val (.int p5), .val (.int (1 : Int32)), .val (.int (p2 &&& (31 : Int32))), .val (.int (p3 &&& (31 : Int32))), .val (.int (p4 &&& (31 : Int32))), .unset, .unset, .unset, .unset, .unset]) rfl ?_
    show Steps p.tables e below (s₁.setTop (mkF m 23 #[.val (.int p1), .val (.int p2), .val (.int p3), .val (.int p4), .val (.int p5), .val (.int (1 : Int32)), .val (.int (p2 &&& (31 : Int32))), .val (.int (p3 &&& (31 : Int32))), .val (.int (p4 &&& (31 : Int32))), .unset, .unset, .unset, .unset, .unset] [])) _
    refine XS.iload X0.here hx rfl (hb hby at_23) rfl ?_
    show Steps p.tables e below (s₁.setTop (mkF m 25 #[.val (.int p1), .val (.int p2), .val (.int p3), .val (.int p4), .val (.int p5), .val (.int (1 : Int32)), .val (.int (p2 &&& (31 : Int32))), .val (.int (p3 &&& (31 : Int32))), .val (.int (p4 &&& (31 : Int32))), .unset, .unset, .unset, .unset, .unset] [(.int p5)])) _
    refine XS.bipush X0.here hx rfl (hb hby at_25) ?_
    show Steps p.tables e below (s₁.setTop (mkF m 27 #[.val (.int p1), .val (.int p2), .val (.int p3), .val (.int p4), .val (.int p5), .val (.int (1 : Int32)), .val (.int (p2 &&& (31 : Int32))), .val (.int (p3 &&& (31 : Int32))), .val (.int (p4 &&& (31 : Int32))), .unset, .unset, .unset, .unset, .unset] [(.int (31 : Int32)), (.int p5)])) _
    refine XS.iand X0.here hx rfl (hb hby at_27) rfl ?_
    show Steps p.tables e below (s₁.setTop (mkF m 28 #[.val (.int p1), .val (.int p2), .val (.int p3), .val (.int p4), .val (.int p5), .val (.int (1 : Int32)), .val (.int (p2 &&& (31 : Int32))), .val (.int (p3 &&& (31 : Int32))), .val (.int (p4 &&& (31 : Int32))), .unset, .unset, .unset, .unset, .unset] [(.int (p5 &&& (31 : Int32)))])) _
    refine XS.istore X0.here hx rfl (hb hby at_28) rfl (l' := #[.val (.int p1), .val (.int p2), .val (.int p3), .val (.int p4), .val (.int p5), .val (.int (1 : Int32)), .val (.int (p2 &&& (31 : Int32))), .val (.int (p3 &&& (31 : Int32))), .val (.int (p4 &&& (31 : Int32))), .val (.int (p5 &&& (31 : Int32))), .unset, .unset, .unset, .unset]) rfl ?_
    show Steps p.tables e below (s₁.setTop (mkF m 30 #[.val (.int p1), .val (.int p2), .val (.int p3), .val (.int p4), .val (.int p5), .val (.int (1 : Int32)), .val (.int (p2 &&& (31 : Int32))), .val (.int (p3 &&& (31 : Int32))), .val (.int (p4 &&& (31 : Int32))), .val (.int (p5 &&& (31 : Int32))), .unset, .unset, .unset, .unset] [])) _
    refine XS.iload X0.here hx rfl (hb hby at_30) rfl ?_
    show Steps p.tables e below (s₁.setTop (mkF m 32 #[.val (.int p1), .val (.int p2), .val (.int p3), .val (.int p4), .val (.int p5), .val (.int (1 : Int32)), .val (.int (p2 &&& (31 : Int32))), .val (.int (p3 &&& (31 : Int32))), .val (.int (p4 &&& (31 : Int32))), .val (.int (p5 &&& (31 : Int32))), .unset, .unset, .unset, .unset] [(.int (1 : Int32))])) _
    refine st6 _ ?_
    show Steps p.tables e below (T6.setTop (mkF m 34 #[.val (.int p1), .val (.int p2), .val (.int p3), .val (.int p4), .val (.int p5), .val (.int (1 : Int32)), .val (.int (p2 &&& (31 : Int32))), .val (.int (p3 &&& (31 : Int32))), .val (.int (p4 &&& (31 : Int32))), .val (.int (p5 &&& (31 : Int32))), .unset, .unset, .unset, .unset] [(.ref b6)])) _
    refine XS.astore X6.here hx rfl (hb hby at_34) rfl rfl (l' := #[.val (.int p1), .val (.int p2), .val (.int p3), .val (.int p4), .val (.int p5), .val (.int (1 : Int32)), .val (.int (p2 &&& (31 : Int32))), .val (.int (p3 &&& (31 : Int32))), .val (.int (p4 &&& (31 : Int32))), .val (.int (p5 &&& (31 : Int32))), .val (.ref b6), .unset, .unset, .unset]) rfl ?_
    show Steps p.tables e below (T6.setTop (mkF m 36 #[.val (.int p1), .val (.int p2), .val (.int p3), .val (.int p4), .val (.int p5), .val (.int (1 : Int32)), .val (.int (p2 &&& (31 : Int32))), .val (.int (p3 &&& (31 : Int32))), .val (.int (p4 &&& (31 : Int32))), .val (.int (p5 &&& (31 : Int32))), .val (.ref b6), .unset, .unset, .unset] [])) _
    refine XS.iload X6.here hx rfl (hb hby at_36) rfl ?_
    show Steps p.tables e below (T6.setTop (mkF m 38 #[.val (.int p1), .val (.int p2), .val (.int p3), .val (.int p4), .val (.int p5), .val (.int (1 : Int32)), .val (.int (p2 &&& (31 : Int32))), .val (.int (p3 &&& (31 : Int32))), .val (.int (p4 &&& (31 : Int32))), .val (.int (p5 &&& (31 : Int32))), .val (.ref b6), .unset, .unset, .unset] [(.int (1 : Int32))])) _
    refine XS.iconst X6.here hx rfl (hb hby at_38) ?_
    show Steps p.tables e below (T6.setTop (mkF m 39 #[.val (.int p1), .val (.int p2), .val (.int p3), .val (.int p4), .val (.int p5), .val (.int (1 : Int32)), .val (.int (p2 &&& (31 : Int32))), .val (.int (p3 &&& (31 : Int32))), .val (.int (p4 &&& (31 : Int32))), .val (.int (p5 &&& (31 : Int32))), .val (.ref b6), .unset, .unset, .unset] [(.int (1 : Int32)), (.int (1 : Int32))])) _
    refine XS.icmpNo X6.here hx rfl (hb hby at_39) rfl (flt hc39).1 ?_
    show Steps p.tables e below (T6.setTop (mkF m 42 #[.val (.int p1), .val (.int p2), .val (.int p3), .val (.int p4), .val (.int p5), .val (.int (1 : Int32)), .val (.int (p2 &&& (31 : Int32))), .val (.int (p3 &&& (31 : Int32))), .val (.int (p4 &&& (31 : Int32))), .val (.int (p5 &&& (31 : Int32))), .val (.ref b6), .unset, .unset, .unset] [])) _
    refine XS.aload X6.here hx rfl (hb hby at_42) rfl rfl ?_
    show Steps p.tables e below (T6.setTop (mkF m 44 #[.val (.int p1), .val (.int p2), .val (.int p3), .val (.int p4), .val (.int p5), .val (.int (1 : Int32)), .val (.int (p2 &&& (31 : Int32))), .val (.int (p3 &&& (31 : Int32))), .val (.int (p4 &&& (31 : Int32))), .val (.int (p5 &&& (31 : Int32))), .val (.ref b6), .unset, .unset, .unset] [(.ref b6)])) _
    refine XS.iconst X6.here hx rfl (hb hby at_44) ?_
    show Steps p.tables e below (T6.setTop (mkF m 45 #[.val (.int p1), .val (.int p2), .val (.int p3), .val (.int p4), .val (.int p5), .val (.int (1 : Int32)), .val (.int (p2 &&& (31 : Int32))), .val (.int (p3 &&& (31 : Int32))), .val (.int (p4 &&& (31 : Int32))), .val (.int (p5 &&& (31 : Int32))), .val (.ref b6), .unset, .unset, .unset] [(.int (0 : Int32)), (.ref b6)])) _
    refine XS.iload X6.here hx rfl (hb hby at_45) rfl ?_
    show Steps p.tables e below (T6.setTop (mkF m 47 #[.val (.int p1), .val (.int p2), .val (.int p3), .val (.int p4), .val (.int p5), .val (.int (1 : Int32)), .val (.int (p2 &&& (31 : Int32))), .val (.int (p3 &&& (31 : Int32))), .val (.int (p4 &&& (31 : Int32))), .val (.int (p5 &&& (31 : Int32))), .val (.ref b6), .unset, .unset, .unset] [(.int (p2 &&& (31 : Int32))), (.int (0 : Int32)), (.ref b6)])) _
    refine st7 _ ?_
    show Steps p.tables e below (T7.setTop (mkF m 48 #[.val (.int p1), .val (.int p2), .val (.int p3), .val (.int p4), .val (.int p5), .val (.int (1 : Int32)), .val (.int (p2 &&& (31 : Int32))), .val (.int (p3 &&& (31 : Int32))), .val (.int (p4 &&& (31 : Int32))), .val (.int (p5 &&& (31 : Int32))), .val (.ref b6), .unset, .unset, .unset] [])) _
    refine XS.iload X7.here hx rfl (hb hby at_48) rfl ?_
    show Steps p.tables e below (T7.setTop (mkF m 50 #[.val (.int p1), .val (.int p2), .val (.int p3), .val (.int p4), .val (.int p5), .val (.int (1 : Int32)), .val (.int (p2 &&& (31 : Int32))), .val (.int (p3 &&& (31 : Int32))), .val (.int (p4 &&& (31 : Int32))), .val (.int (p5 &&& (31 : Int32))), .val (.ref b6), .unset, .unset, .unset] [(.int (1 : Int32))])) _
    refine XS.iconst X7.here hx rfl (hb hby at_50) ?_
    show Steps p.tables e below (T7.setTop (mkF m 51 #[.val (.int p1), .val (.int p2), .val (.int p3), .val (.int p4), .val (.int p5), .val (.int (1 : Int32)), .val (.int (p2 &&& (31 : Int32))), .val (.int (p3 &&& (31 : Int32))), .val (.int (p4 &&& (31 : Int32))), .val (.int (p5 &&& (31 : Int32))), .val (.ref b6), .unset, .unset, .unset] [(.int (2 : Int32)), (.int (1 : Int32))])) _
    refine XS.icmpYes X7.here hx rfl (pc0 := 51) (pc' := 60) rfl (hb hby at_51) rfl (tlt hc51).1 (by decide) (by decide) ?_
    show Steps p.tables e below (T7.setTop (mkF m 60 #[.val (.int p1), .val (.int p2), .val (.int p3), .val (.int p4), .val (.int p5), .val (.int (1 : Int32)), .val (.int (p2 &&& (31 : Int32))), .val (.int (p3 &&& (31 : Int32))), .val (.int (p4 &&& (31 : Int32))), .val (.int (p5 &&& (31 : Int32))), .val (.ref b6), .unset, .unset, .unset] [])) _
    refine XS.iload X7.here hx rfl (hb hby at_60) rfl ?_
    show Steps p.tables e below (T7.setTop (mkF m 62 #[.val (.int p1), .val (.int p2), .val (.int p3), .val (.int p4), .val (.int p5), .val (.int (1 : Int32)), .val (.int (p2 &&& (31 : Int32))), .val (.int (p3 &&& (31 : Int32))), .val (.int (p4 &&& (31 : Int32))), .val (.int (p5 &&& (31 : Int32))), .val (.ref b6), .unset, .unset, .unset] [(.int (1 : Int32))])) _
    refine XS.iconst X7.here hx rfl (hb hby at_62) ?_
    show Steps p.tables e below (T7.setTop (mkF m 63 #[.val (.int p1), .val (.int p2), .val (.int p3), .val (.int p4), .val (.int p5), .val (.int (1 : Int32)), .val (.int (p2 &&& (31 : Int32))), .val (.int (p3 &&& (31 : Int32))), .val (.int (p4 &&& (31 : Int32))), .val (.int (p5 &&& (31 : Int32))), .val (.ref b6), .unset, .unset, .unset] [(.int (3 : Int32)), (.int (1 : Int32))])) _
    refine XS.icmpYes X7.here hx rfl (pc0 := 63) (pc' := 72) rfl (hb hby at_63) rfl (tlt hc63).1 (by decide) (by decide) ?_
    show Steps p.tables e below (T7.setTop (mkF m 72 #[.val (.int p1), .val (.int p2), .val (.int p3), .val (.int p4), .val (.int p5), .val (.int (1 : Int32)), .val (.int (p2 &&& (31 : Int32))), .val (.int (p3 &&& (31 : Int32))), .val (.int (p4 &&& (31 : Int32))), .val (.int (p5 &&& (31 : Int32))), .val (.ref b6), .unset, .unset, .unset] [])) _
    refine XS.aload X7.here hx rfl (hb hby at_72) rfl rfl ?_
    show Steps p.tables e below (T7.setTop (mkF m 74 #[.val (.int p1), .val (.int p2), .val (.int p3), .val (.int p4), .val (.int p5), .val (.int (1 : Int32)), .val (.int (p2 &&& (31 : Int32))), .val (.int (p3 &&& (31 : Int32))), .val (.int (p4 &&& (31 : Int32))), .val (.int (p5 &&& (31 : Int32))), .val (.ref b6), .unset, .unset, .unset] [(.ref b6)])) _
    refine st8 _ ?_
    show Steps p.tables e below (T8.setTop (mkF m 77 #[.val (.int p1), .val (.int p2), .val (.int p3), .val (.int p4), .val (.int p5), .val (.int (1 : Int32)), .val (.int (p2 &&& (31 : Int32))), .val (.int (p3 &&& (31 : Int32))), .val (.int (p4 &&& (31 : Int32))), .val (.int (p5 &&& (31 : Int32))), .val (.ref b6), .unset, .unset, .unset] [(.int (own_u1 (p2 &&& (31 : Int32))))])) _
    refine XS.istore X8.here hx rfl (hb hby at_77) rfl (l' := #[.val (.int p1), .val (.int p2), .val (.int p3), .val (.int p4), .val (.int p5), .val (.int (1 : Int32)), .val (.int (p2 &&& (31 : Int32))), .val (.int (p3 &&& (31 : Int32))), .val (.int (p4 &&& (31 : Int32))), .val (.int (p5 &&& (31 : Int32))), .val (.ref b6), .val (.int (own_u1 (p2 &&& (31 : Int32)))), .unset, .unset]) rfl ?_
    show Steps p.tables e below (T8.setTop (mkF m 79 #[.val (.int p1), .val (.int p2), .val (.int p3), .val (.int p4), .val (.int p5), .val (.int (1 : Int32)), .val (.int (p2 &&& (31 : Int32))), .val (.int (p3 &&& (31 : Int32))), .val (.int (p4 &&& (31 : Int32))), .val (.int (p5 &&& (31 : Int32))), .val (.ref b6), .val (.int (own_u1 (p2 &&& (31 : Int32)))), .unset, .unset] [])) _
    refine XS.iload X8.here hx rfl (hb hby at_79) rfl ?_
    show Steps p.tables e below (T8.setTop (mkF m 81 #[.val (.int p1), .val (.int p2), .val (.int p3), .val (.int p4), .val (.int p5), .val (.int (1 : Int32)), .val (.int (p2 &&& (31 : Int32))), .val (.int (p3 &&& (31 : Int32))), .val (.int (p4 &&& (31 : Int32))), .val (.int (p5 &&& (31 : Int32))), .val (.ref b6), .val (.int (own_u1 (p2 &&& (31 : Int32)))), .unset, .unset] [(.int (1 : Int32))])) _
    refine XS.iconst X8.here hx rfl (hb hby at_81) ?_
    show Steps p.tables e below (T8.setTop (mkF m 82 #[.val (.int p1), .val (.int p2), .val (.int p3), .val (.int p4), .val (.int p5), .val (.int (1 : Int32)), .val (.int (p2 &&& (31 : Int32))), .val (.int (p3 &&& (31 : Int32))), .val (.int (p4 &&& (31 : Int32))), .val (.int (p5 &&& (31 : Int32))), .val (.ref b6), .val (.int (own_u1 (p2 &&& (31 : Int32)))), .unset, .unset] [(.int (1 : Int32)), (.int (1 : Int32))])) _
    refine XS.icmpNo X8.here hx rfl (hb hby at_82) rfl (flt hc82).1 ?_
    show Steps p.tables e below (T8.setTop (mkF m 85 #[.val (.int p1), .val (.int p2), .val (.int p3), .val (.int p4), .val (.int p5), .val (.int (1 : Int32)), .val (.int (p2 &&& (31 : Int32))), .val (.int (p3 &&& (31 : Int32))), .val (.int (p4 &&& (31 : Int32))), .val (.int (p5 &&& (31 : Int32))), .val (.ref b6), .val (.int (own_u1 (p2 &&& (31 : Int32)))), .unset, .unset] [])) _
    refine XS.iload X8.here hx rfl (hb hby at_85) rfl ?_
    show Steps p.tables e below (T8.setTop (mkF m 87 #[.val (.int p1), .val (.int p2), .val (.int p3), .val (.int p4), .val (.int p5), .val (.int (1 : Int32)), .val (.int (p2 &&& (31 : Int32))), .val (.int (p3 &&& (31 : Int32))), .val (.int (p4 &&& (31 : Int32))), .val (.int (p5 &&& (31 : Int32))), .val (.ref b6), .val (.int (own_u1 (p2 &&& (31 : Int32)))), .unset, .unset] [(.int (p5 &&& (31 : Int32)))])) _
    refine XS.iload X8.here hx rfl (hb hby at_87) rfl ?_
    show Steps p.tables e below (T8.setTop (mkF m 89 #[.val (.int p1), .val (.int p2), .val (.int p3), .val (.int p4), .val (.int p5), .val (.int (1 : Int32)), .val (.int (p2 &&& (31 : Int32))), .val (.int (p3 &&& (31 : Int32))), .val (.int (p4 &&& (31 : Int32))), .val (.int (p5 &&& (31 : Int32))), .val (.ref b6), .val (.int (own_u1 (p2 &&& (31 : Int32)))), .unset, .unset] [(.int (p2 &&& (31 : Int32))), (.int (p5 &&& (31 : Int32)))])) _
    refine XS.icmpYes X8.here hx rfl (pc0 := 89) (pc' := 118) rfl (hb hby at_89) rfl (teq hc89).1 (by decide) (by decide) ?_
    show Steps p.tables e below (T8.setTop (mkF m 118 #[.val (.int p1), .val (.int p2), .val (.int p3), .val (.int p4), .val (.int p5), .val (.int (1 : Int32)), .val (.int (p2 &&& (31 : Int32))), .val (.int (p3 &&& (31 : Int32))), .val (.int (p4 &&& (31 : Int32))), .val (.int (p5 &&& (31 : Int32))), .val (.ref b6), .val (.int (own_u1 (p2 &&& (31 : Int32)))), .unset, .unset] [])) _
    refine XS.iconst X8.here hx rfl (hb hby at_118) ?_
    show Steps p.tables e below (T8.setTop (mkF m 119 #[.val (.int p1), .val (.int p2), .val (.int p3), .val (.int p4), .val (.int p5), .val (.int (1 : Int32)), .val (.int (p2 &&& (31 : Int32))), .val (.int (p3 &&& (31 : Int32))), .val (.int (p4 &&& (31 : Int32))), .val (.int (p5 &&& (31 : Int32))), .val (.ref b6), .val (.int (own_u1 (p2 &&& (31 : Int32)))), .unset, .unset] [(.int (1 : Int32))])) _
    refine XS.goto X8.here hx rfl (pc0 := 119) (pc' := 123) rfl (hb hby at_119) (by decide) (by decide) ?_
    show Steps p.tables e below (T8.setTop (mkF m 123 #[.val (.int p1), .val (.int p2), .val (.int p3), .val (.int p4), .val (.int p5), .val (.int (1 : Int32)), .val (.int (p2 &&& (31 : Int32))), .val (.int (p3 &&& (31 : Int32))), .val (.int (p4 &&& (31 : Int32))), .val (.int (p5 &&& (31 : Int32))), .val (.ref b6), .val (.int (own_u1 (p2 &&& (31 : Int32)))), .unset, .unset] [(.int (1 : Int32))])) _
    refine XS.istore X8.here hx rfl (hb hby at_123) rfl (l' := #[.val (.int p1), .val (.int p2), .val (.int p3), .val (.int p4), .val (.int p5), .val (.int (1 : Int32)), .val (.int (p2 &&& (31 : Int32))), .val (.int (p3 &&& (31 : Int32))), .val (.int (p4 &&& (31 : Int32))), .val (.int (p5 &&& (31 : Int32))), .val (.ref b6), .val (.int (own_u1 (p2 &&& (31 : Int32)))), .val (.int (1 : Int32)), .unset]) rfl ?_
    show Steps p.tables e below (T8.setTop (mkF m 125 #[.val (.int p1), .val (.int p2), .val (.int p3), .val (.int p4), .val (.int p5), .val (.int (1 : Int32)), .val (.int (p2 &&& (31 : Int32))), .val (.int (p3 &&& (31 : Int32))), .val (.int (p4 &&& (31 : Int32))), .val (.int (p5 &&& (31 : Int32))), .val (.ref b6), .val (.int (own_u1 (p2 &&& (31 : Int32)))), .val (.int (1 : Int32)), .unset] [])) _
    refine XS.iload X8.here hx rfl (hb hby at_125) rfl ?_
    show Steps p.tables e below (T8.setTop (mkF m 127 #[.val (.int p1), .val (.int p2), .val (.int p3), .val (.int p4), .val (.int p5), .val (.int (1 : Int32)), .val (.int (p2 &&& (31 : Int32))), .val (.int (p3 &&& (31 : Int32))), .val (.int (p4 &&& (31 : Int32))), .val (.int (p5 &&& (31 : Int32))), .val (.ref b6), .val (.int (own_u1 (p2 &&& (31 : Int32)))), .val (.int (1 : Int32)), .unset] [(.int (own_u1 (p2 &&& (31 : Int32))))])) _
    refine XS.iload X8.here hx rfl (hb hby at_127) rfl ?_
    show Steps p.tables e below (T8.setTop (mkF m 129 #[.val (.int p1), .val (.int p2), .val (.int p3), .val (.int p4), .val (.int p5), .val (.int (1 : Int32)), .val (.int (p2 &&& (31 : Int32))), .val (.int (p3 &&& (31 : Int32))), .val (.int (p4 &&& (31 : Int32))), .val (.int (p5 &&& (31 : Int32))), .val (.ref b6), .val (.int (own_u1 (p2 &&& (31 : Int32)))), .val (.int (1 : Int32)), .unset] [(.int (p5 &&& (31 : Int32))), (.int (own_u1 (p2 &&& (31 : Int32))))])) _
    refine XS.iushr X8.here hx rfl (hb hby at_129) rfl ?_
    show Steps p.tables e below (T8.setTop (mkF m 130 #[.val (.int p1), .val (.int p2), .val (.int p3), .val (.int p4), .val (.int p5), .val (.int (1 : Int32)), .val (.int (p2 &&& (31 : Int32))), .val (.int (p3 &&& (31 : Int32))), .val (.int (p4 &&& (31 : Int32))), .val (.int (p5 &&& (31 : Int32))), .val (.ref b6), .val (.int (own_u1 (p2 &&& (31 : Int32)))), .val (.int (1 : Int32)), .unset] [(.int (((own_u1 (p2 &&& (31 : Int32))).toUInt32 >>> ((p5 &&& (31 : Int32)) &&& 31).toUInt32).toInt32))])) _
    refine XS.iconst X8.here hx rfl (hb hby at_130) ?_
    show Steps p.tables e below (T8.setTop (mkF m 131 #[.val (.int p1), .val (.int p2), .val (.int p3), .val (.int p4), .val (.int p5), .val (.int (1 : Int32)), .val (.int (p2 &&& (31 : Int32))), .val (.int (p3 &&& (31 : Int32))), .val (.int (p4 &&& (31 : Int32))), .val (.int (p5 &&& (31 : Int32))), .val (.ref b6), .val (.int (own_u1 (p2 &&& (31 : Int32)))), .val (.int (1 : Int32)), .unset] [(.int (1 : Int32)), (.int (((own_u1 (p2 &&& (31 : Int32))).toUInt32 >>> ((p5 &&& (31 : Int32)) &&& 31).toUInt32).toInt32))])) _
    refine XS.iand X8.here hx rfl (hb hby at_131) rfl ?_
    show Steps p.tables e below (T8.setTop (mkF m 132 #[.val (.int p1), .val (.int p2), .val (.int p3), .val (.int p4), .val (.int p5), .val (.int (1 : Int32)), .val (.int (p2 &&& (31 : Int32))), .val (.int (p3 &&& (31 : Int32))), .val (.int (p4 &&& (31 : Int32))), .val (.int (p5 &&& (31 : Int32))), .val (.ref b6), .val (.int (own_u1 (p2 &&& (31 : Int32)))), .val (.int (1 : Int32)), .unset] [(.int ((((own_u1 (p2 &&& (31 : Int32))).toUInt32 >>> ((p5 &&& (31 : Int32)) &&& 31).toUInt32).toInt32) &&& (1 : Int32)))])) _
    refine XS.ifNo X8.here hx rfl (hb hby at_132) rfl ((if0 _ _).trans (feq hc132).1) ?_
    show Steps p.tables e below (T8.setTop (mkF m 135 #[.val (.int p1), .val (.int p2), .val (.int p3), .val (.int p4), .val (.int p5), .val (.int (1 : Int32)), .val (.int (p2 &&& (31 : Int32))), .val (.int (p3 &&& (31 : Int32))), .val (.int (p4 &&& (31 : Int32))), .val (.int (p5 &&& (31 : Int32))), .val (.ref b6), .val (.int (own_u1 (p2 &&& (31 : Int32)))), .val (.int (1 : Int32)), .unset] [])) _
    refine XS.iconst X8.here hx rfl (hb hby at_135) ?_
    show Steps p.tables e below (T8.setTop (mkF m 136 #[.val (.int p1), .val (.int p2), .val (.int p3), .val (.int p4), .val (.int p5), .val (.int (1 : Int32)), .val (.int (p2 &&& (31 : Int32))), .val (.int (p3 &&& (31 : Int32))), .val (.int (p4 &&& (31 : Int32))), .val (.int (p5 &&& (31 : Int32))), .val (.ref b6), .val (.int (own_u1 (p2 &&& (31 : Int32)))), .val (.int (1 : Int32)), .unset] [(.int (1 : Int32))])) _
    refine XS.goto X8.here hx rfl (pc0 := 136) (pc' := 140) rfl (hb hby at_136) (by decide) (by decide) ?_
    show Steps p.tables e below (T8.setTop (mkF m 140 #[.val (.int p1), .val (.int p2), .val (.int p3), .val (.int p4), .val (.int p5), .val (.int (1 : Int32)), .val (.int (p2 &&& (31 : Int32))), .val (.int (p3 &&& (31 : Int32))), .val (.int (p4 &&& (31 : Int32))), .val (.int (p5 &&& (31 : Int32))), .val (.ref b6), .val (.int (own_u1 (p2 &&& (31 : Int32)))), .val (.int (1 : Int32)), .unset] [(.int (1 : Int32))])) _
    refine XS.istore X8.here hx rfl (hb hby at_140) rfl (l' := #[.val (.int p1), .val (.int p2), .val (.int p3), .val (.int p4), .val (.int p5), .val (.int (1 : Int32)), .val (.int (p2 &&& (31 : Int32))), .val (.int (p3 &&& (31 : Int32))), .val (.int (p4 &&& (31 : Int32))), .val (.int (p5 &&& (31 : Int32))), .val (.ref b6), .val (.int (own_u1 (p2 &&& (31 : Int32)))), .val (.int (1 : Int32)), .val (.int (1 : Int32))]) rfl ?_
    show Steps p.tables e below (T8.setTop (mkF m 142 #[.val (.int p1), .val (.int p2), .val (.int p3), .val (.int p4), .val (.int p5), .val (.int (1 : Int32)), .val (.int (p2 &&& (31 : Int32))), .val (.int (p3 &&& (31 : Int32))), .val (.int (p4 &&& (31 : Int32))), .val (.int (p5 &&& (31 : Int32))), .val (.ref b6), .val (.int (own_u1 (p2 &&& (31 : Int32)))), .val (.int (1 : Int32)), .val (.int (1 : Int32))] [])) _
    refine XS.iload X8.here hx rfl (hb hby at_142) rfl ?_
    show Steps p.tables e below (T8.setTop (mkF m 144 #[.val (.int p1), .val (.int p2), .val (.int p3), .val (.int p4), .val (.int p5), .val (.int (1 : Int32)), .val (.int (p2 &&& (31 : Int32))), .val (.int (p3 &&& (31 : Int32))), .val (.int (p4 &&& (31 : Int32))), .val (.int (p5 &&& (31 : Int32))), .val (.ref b6), .val (.int (own_u1 (p2 &&& (31 : Int32)))), .val (.int (1 : Int32)), .val (.int (1 : Int32))] [(.int (1 : Int32))])) _
    refine XS.iload X8.here hx rfl (hb hby at_144) rfl ?_
    show Steps p.tables e below (T8.setTop (mkF m 146 #[.val (.int p1), .val (.int p2), .val (.int p3), .val (.int p4), .val (.int p5), .val (.int (1 : Int32)), .val (.int (p2 &&& (31 : Int32))), .val (.int (p3 &&& (31 : Int32))), .val (.int (p4 &&& (31 : Int32))), .val (.int (p5 &&& (31 : Int32))), .val (.ref b6), .val (.int (own_u1 (p2 &&& (31 : Int32)))), .val (.int (1 : Int32)), .val (.int (1 : Int32))] [(.int (1 : Int32)), (.int (1 : Int32))])) _
    refine XS.icmpNo X8.here hx rfl (hb hby at_146) rfl (teq (rfl : (1 : Int32) = (1 : Int32))).2 ?_
    show Steps p.tables e below (T8.setTop (mkF m 149 #[.val (.int p1), .val (.int p2), .val (.int p3), .val (.int p4), .val (.int p5), .val (.int (1 : Int32)), .val (.int (p2 &&& (31 : Int32))), .val (.int (p3 &&& (31 : Int32))), .val (.int (p4 &&& (31 : Int32))), .val (.int (p5 &&& (31 : Int32))), .val (.ref b6), .val (.int (own_u1 (p2 &&& (31 : Int32)))), .val (.int (1 : Int32)), .val (.int (1 : Int32))] [])) _
    refine XS.iconst X8.here hx rfl (hb hby at_149) ?_
    show Steps p.tables e below (T8.setTop (mkF m 150 #[.val (.int p1), .val (.int p2), .val (.int p3), .val (.int p4), .val (.int p5), .val (.int (1 : Int32)), .val (.int (p2 &&& (31 : Int32))), .val (.int (p3 &&& (31 : Int32))), .val (.int (p4 &&& (31 : Int32))), .val (.int (p5 &&& (31 : Int32))), .val (.ref b6), .val (.int (own_u1 (p2 &&& (31 : Int32)))), .val (.int (1 : Int32)), .val (.int (1 : Int32))] [(.int (1 : Int32))])) _
    refine XS.goto X8.here hx rfl (pc0 := 150) (pc' := 154) rfl (hb hby at_150) (by decide) (by decide) ?_
    show Steps p.tables e below (T8.setTop (mkF m 154 #[.val (.int p1), .val (.int p2), .val (.int p3), .val (.int p4), .val (.int p5), .val (.int (1 : Int32)), .val (.int (p2 &&& (31 : Int32))), .val (.int (p3 &&& (31 : Int32))), .val (.int (p4 &&& (31 : Int32))), .val (.int (p5 &&& (31 : Int32))), .val (.ref b6), .val (.int (own_u1 (p2 &&& (31 : Int32)))), .val (.int (1 : Int32)), .val (.int (1 : Int32))] [(.int (1 : Int32))])) _
    exact retN X8 hx (t := .boolean) Bd.returns (by simp) (hb hby at_154) hr
  · show own_Q0 h0 n0 _ T8.heap _
    rw [e8]
    exact ⟨rfl, N8⟩
set_option maxRecDepth 65536 in
set_option maxHeartbeats 40000000 in
theorem own_rm0_1_1 (l : Launch) (Z : State) (a0 : Array Value) (hw : ∀ d ∈ tables_1, d.before a0 Z = true) (ws : List Jvm.Cond) (p1 : Int32) (p2 : Int32) (p3 : Int32) (p4 : Int32) (p5 : Int32) (h0 : Heap) (n0 : Nat) (Z0 : n0 ≤ h0.size) (hn : (p1 &&& (3 : Int32)) = (1 : Int32)) (hc39 : ¬ ((1 : Int32) < (1 : Int32))) (hc51 : (1 : Int32) < (2 : Int32)) (hc63 : (1 : Int32) < (3 : Int32)) (hc82 : ¬ ((1 : Int32) < (1 : Int32))) (hc89 : ¬ ((p5 &&& (31 : Int32)) = (p2 &&& (31 : Int32)))) (hc95 : (1 : Int32) < (2 : Int32)) (hc108 : (1 : Int32) < (3 : Int32)) (hc132 : ((((own_u1 (p2 &&& (31 : Int32))).toUInt32 >>> ((p5 &&& (31 : Int32)) &&& 31).toUInt32).toInt32) &&& (1 : Int32)) = (0 : Int32)) :
    MetFree l x (head1 (Jvm.Cond.code x code maxLocals ret :: ws) room_1) (fun a U => a = #[(.int p1), (.int p2), (.int p3), (.int p4), (.int p5)] ∧ Z.Warmed39 U.vm ∧ U.heap = h0) (fun _ _ _ _ _ => True) (fun _ U o U' => ∃ v L, o = .returned v ∧ own_Q0 h0 n0 v U'.heap L ∧ FrameEnd U o U' L room_1.cells room_1.slots) := by
  refine MetFree.of_bodySF (plainFor_of_name pn_0) hisR ?_
  intro p e s m args below meth c s₁ Bd hml0 hP hK
  obtain ⟨rfl, hZ, hh⟩ := hP
  have hx := Bd.exec
  have hby := Bd.bytes
  have hml : c.maxLocals = 14 := hml0
  have hown : s.vm.findClass "com/example/sundew/sundew/text/BreakPropertiesBitsPinLaw" = some m.cls := findClass_of_methodNamed Bd.named
  have hnm := (name_of_methodNamed Bd.named Bd.method).1
  have X0 : Stand p l e room_1 s m #[(.int p1), (.int p2), (.int p3), (.int p4), (.int p5)] below meth c s₁ [] 0 0 := Stand.of_body Bd
  have e0 : s₁.heap = h0 := by rw [← hh, Bd.state]; rfl
  have N0 := Fr.nil n0
  have pre0 : ∀ t, Steps p.tables e below (s₁.setTop (mkF m 0 #[.val (.int p1), .val (.int p2), .val (.int p3), .val (.int p4), .val (.int p5), .unset, .unset, .unset, .unset, .unset, .unset, .unset, .unset, .unset] [])) t → Steps p.tables e below (s₁.setTop (entryFrame m #[(.int p1), (.int p2), (.int p3), (.int p4), (.int p5)] maxLocals)) t := fun t k => castTop (ef_0 m p1 p2 p3 p4 p5) k
  obtain ⟨T6, h6, k6, X6, e6, E6, A6, st6⟩ := newP X0 hx hZ (hw _ (List.mem_of_getElem? (i := 0) rfl)) e0 (g := (mkF m 32 #[.val (.int p1), .val (.int p2), .val (.int p3), .val (.int p4), .val (.int p5), .val (.int (1 : Int32)), .val (.int (p2 &&& (31 : Int32))), .val (.int (p3 &&& (31 : Int32))), .val (.int (p4 &&& (31 : Int32))), .val (.int (p5 &&& (31 : Int32))), .unset, .unset, .unset, .unset] [(.int (1 : Int32))])) rfl (hb hby at_32) rfl (by decide) (cap := 1) (by decide) (by decide) (by decide) (by decide)
  obtain ⟨b6, g6⟩ : ∃ z, z = h0.size := ⟨_, rfl⟩
  rw [← g6] at A6 st6
  have V_b6 : Arv Z h6 b6 k6 .int (1 : Int32) [(.int (0 : Int32))] (.int (0 : Int32)) := (Arv.new A6 (by decide)).pad (pad_rep [] (.int (0 : Int32)) 1)
  have g_b6 : n0 ≤ b6 := Nat.le_trans Z0 (Nat.le_of_eq g6.symm)
  have sz_b6 : h0.size ≤ b6 := (Nat.le_trans (Keep.refl h0 []).1 (Nat.le_of_eq g6.symm))
  have K6 : Keep h0 h6 [] := (Keep.refl h0 []).ext E6
  obtain ⟨cl_b6_47, Ar_b6, q_b6, S_b6, N_b6, H_b6, G_b6⟩ := V_b6
  have hin47 : ¬ ((0 : Int32) < 0 ∨ cl_b6_47.slots.size ≤ ((0 : Int32)).toNatClampNeg) := inb_of S_b6 ⟨by decide, by decide⟩
  obtain ⟨T7, h7, X7, e7, W7, st7⟩ := stI X6 hx hZ e6 Ar_b6 (j := (0 : Int32)) hin47 (g := (mkF m 47 #[.val (.int p1), .val (.int p2), .val (.int p3), .val (.int p4), .val (.int p5), .val (.int (1 : Int32)), .val (.int (p2 &&& (31 : Int32))), .val (.int (p3 &&& (31 : Int32))), .val (.int (p4 &&& (31 : Int32))), .val (.int (p5 &&& (31 : Int32))), .val (.ref b6), .unset, .unset, .unset] [(.int (p2 &&& (31 : Int32))), (.int (0 : Int32)), (.ref b6)])) rfl rfl (hb hby at_47)
  have V_b6_7 := Arv.set Ar_b6 q_b6 S_b6 N_b6 H_b6 G_b6 rfl W7 0 rfl (Nat.le_of_ble_eq_true rfl)
  have K7 : Keep h0 h7 [] := K6.wr W7 (Or.inr sz_b6)
  have N7 := Fr.snoc X7 N0 g_b6
  obtain ⟨_, _, ⟨T8, L8, k8, n8⟩, -, X8, ⟨Lc8, hQ8, l8, y8, z8⟩, st8⟩ := Jvm.LawKit.callS X7 hx (y := (⟨"com/example/sundew/sundew/text/BreakProperties", "bits", "([I)I"⟩ : MethodName)) hown (mvT hZ (hw _ (List.mem_of_getElem? (i := 1) rfl))) (mvT hZ (hw _ (List.mem_of_getElem? (i := 2) rfl))) (mvT hZ (hw _ (List.mem_of_getElem? (i := 3) rfl))) (mvT hZ (hw _ (List.mem_of_getElem? (i := 4) rfl))) (by decide) (backOf (W := 0) (own_rm1_1 l Z a0 hw [] b6 _ (p2 &&& (31 : Int32)) h7 n0 (Nat.le_trans (Nat.le_trans Z0 E6.1) (Keep.of_wr W7).1) V_b6_7) hZ (hw _ (List.mem_of_getElem? (i := 4) rfl)) (hw _ (List.mem_of_getElem? (i := 3) rfl)) (by decide) (by decide)) (g := (mkF m 74 #[.val (.int p1), .val (.int p2), .val (.int p3), .val (.int p4), .val (.int p5), .val (.int (1 : Int32)), .val (.int (p2 &&& (31 : Int32))), .val (.int (p3 &&& (31 : Int32))), .val (.int (p4 &&& (31 : Int32))), .val (.int (p5 &&& (31 : Int32))), .val (.ref b6), .unset, .unset, .unset] [(.ref b6)])) rfl (by rw [hml]; rfl) (argsL := [(.ref b6)]) (rest := []) (lenOf pd_0_0 rfl) rfl (by show 2 * 0 + _ ≤ _; exact Nat.le_of_eq rfl) (hb hby at_74) (fun _ _ => ⟨rfl, e7, (by decide : 1 + 0 ≤ _), (by decide : 1 + 0 ≤ _)⟩)
  dsimp only [Pt.U, Pt.locs, Pt.cells, Pt.slots] at X8 l8 y8 z8 st8 hQ8
  subst l8 y8 z8
  obtain ⟨rfl, N8q, e8⟩ := hQ8
  have N8 := Fr.app N7 N8q
  obtain ⟨fs, hr, hrun, hended, hW, hsame⟩ := X8.leave (v := some (.int (1 : Int32))) (fun h => by rw [Bd.returns] at h; cases h)
  refine ⟨_, _, pre0 _ ?_, hrun, hended, _, _, rfl, ?_, ⟨_, rfl⟩, hW, hsame.mono (by decide) (by decide)⟩
  · show Steps p.tables e below (s₁.setTop (mkF m 0 #[.val (.int p1), .val (.int p2), .val (.int p3), .val (.int p4), .val (.int p5), .unset, .unset, .unset, .unset, .unset, .unset, .unset, .unset, .unset] [])) _
    refine XS.iloadN X0.here hx rfl (hb hby at_0) rfl ?_
    show Steps p.tables e below (s₁.setTop (mkF m 1 #[.val (.int p1), .val (.int p2), .val (.int p3), .val (.int p4), .val (.int p5), .unset, .unset, .unset, .unset, .unset, .unset, .unset, .unset, .unset] [(.int p1)])) _
    refine XS.iconst X0.here hx rfl (hb hby at_1) ?_
    show Steps p.tables e below (s₁.setTop (mkF m 2 #[.val (.int p1), .val (.int p2), .val (.int p3), .val (.int p4), .val (.int p5), .unset, .unset, .unset, .unset, .unset, .unset, .unset, .unset, .unset] [(.int (3 : Int32)), (.int p1)])) _
    refine XS.iand X0.here hx rfl (hb hby at_2) rfl ?_
    show Steps p.tables e below (s₁.setTop (mkF m 3 #[.val (.int p1), .val (.int p2), .val (.int p3), .val (.int p4), .val (.int p5), .unset, .unset, .unset, .unset, .unset, .unset, .unset, .unset, .unset] [(.int (p1 &&& (3 : Int32)))])) _
    rw [hn]
    show Steps p.tables e below (s₁.setTop (mkF m 3 #[.val (.int p1), .val (.int p2), .val (.int p3), .val (.int p4), .val (.int p5), .unset, .unset, .unset, .unset, .unset, .unset, .unset, .unset, .unset] [(.int (1 : Int32))])) _
    refine XS.istore X0.here hx rfl (hb hby at_3) rfl (l' := #[.val (.int p1), .val (.int p2), .val (.int p3), .val (.int p4), .val (.int p5), .val (.int (1 : Int32)), .unset, .unset, .unset, .unset, .unset, .unset, .unset, .unset]) rfl ?_
    show Steps p.tables e below (s₁.setTop (mkF m 5 #[.val (.int p1), .val (.int p2), .val (.int p3), .val (.int p4), .val (.int p5), .val (.int (1 : Int32)), .unset, .unset, .unset, .unset, .unset, .unset, .unset, .unset] [])) _
    refine XS.iloadN X0.here hx rfl (hb hby at_5) rfl ?_
    show Steps p.tables e below (s₁.setTop (mkF m 6 #[.val (.int p1), .val (.int p2), .val (.int p3), .val (.int p4), .val (.int p5), .val (.int (1 : Int32)), .unset, .unset, .unset, .unset, .unset, .unset, .unset, .unset] [(.int p2)])) _
    refine XS.bipush X0.here hx rfl (hb hby at_6) ?_
    show Steps p.tables e below (s₁.setTop (mkF m 8 #[.val (.int p1), .val (.int p2), .val (.int p3), .val (.int p4), .val (.int p5), .val (.int (1 : Int32)), .unset, .unset, .unset, .unset, .unset, .unset, .unset, .unset] [(.int (31 : Int32)), (.int p2)])) _
    refine XS.iand X0.here hx rfl (hb hby at_8) rfl ?_
    show Steps p.tables e below (s₁.setTop (mkF m 9 #[.val (.int p1), .val (.int p2), .val (.int p3), .val (.int p4), .val (.int p5), .val (.int (1 : Int32)), .unset, .unset, .unset, .unset, .unset, .unset, .unset, .unset] [(.int (p2 &&& (31 : Int32)))])) _
    refine XS.istore X0.here hx rfl (hb hby at_9) rfl (l' := #[.val (.int p1), .val (.int p2), .val (.int p3), .val (.int p4), .val (.int p5), .val (.int (1 : Int32)), .val (.int (p2 &&& (31 : Int32))), .unset, .unset, .unset, .unset, .unset, .unset, .unset]) rfl ?_
    show Steps p.tables e below (s₁.setTop (mkF m 11 #[.val (.int p1), .val (.int p2), .val (.int p3), .val (.int p4), .val (.int p5), .val (.int (1 : Int32)), .val (.int (p2 &&& (31 : Int32))), .unset, .unset, .unset, .unset, .unset, .unset, .unset] [])) _
    refine XS.iloadN X0.here hx rfl (hb hby at_11) rfl ?_
    show Steps p.tables e below (s₁.setTop (mkF m 12 #[.val (.int p1), .val (.int p2), .val (.int p3), .val (.int p4), .val (.int p5), .val (.int (1 : Int32)), .val (.int (p2 &&& (31 : Int32))), .unset, .unset, .unset, .unset, .unset, .unset, .unset] [(.int p3)])) _
    refine XS.bipush X0.here hx rfl (hb hby at_12) ?_
    show Steps p.tables e below (s₁.setTop (mkF m 14 #[.val (.int p1), .val (.int p2), .val (.int p3), .val (.int p4), .val (.int p5), .val (.int (1 : Int32)), .val (.int (p2 &&& (31 : Int32))), .unset, .unset, .unset, .unset, .unset, .unset, .unset] [(.int (31 : Int32)), (.int p3)])) _
    refine XS.iand X0.here hx rfl (hb hby at_14) rfl ?_
    show Steps p.tables e below (s₁.setTop (mkF m 15 #[.val (.int p1), .val (.int p2), .val (.int p3), .val (.int p4), .val (.int p5), .val (.int (1 : Int32)), .val (.int (p2 &&& (31 : Int32))), .unset, .unset, .unset, .unset, .unset, .unset, .unset] [(.int (p3 &&& (31 : Int32)))])) _
    refine XS.istore X0.here hx rfl (hb hby at_15) rfl (l' := #[.val (.int p1), .val (.int p2), .val (.int p3), .val (.int p4), .val (.int p5), .val (.int (1 : Int32)), .val (.int (p2 &&& (31 : Int32))), .val (.int (p3 &&& (31 : Int32))), .unset, .unset, .unset, .unset, .unset, .unset]) rfl ?_
    show Steps p.tables e below (s₁.setTop (mkF m 17 #[.val (.int p1), .val (.int p2), .val (.int p3), .val (.int p4), .val (.int p5), .val (.int (1 : Int32)), .val (.int (p2 &&& (31 : Int32))), .val (.int (p3 &&& (31 : Int32))), .unset, .unset, .unset, .unset, .unset, .unset] [])) _
    refine XS.iloadN X0.here hx rfl (hb hby at_17) rfl ?_
    show Steps p.tables e below (s₁.setTop (mkF m 18 #[.val (.int p1), .val (.int p2), .val (.int p3), .val (.int p4), .val (.int p5), .val (.int (1 : Int32)), .val (.int (p2 &&& (31 : Int32))), .val (.int (p3 &&& (31 : Int32))), .unset, .unset, .unset, .unset, .unset, .unset] [(.int p4)])) _
    refine XS.bipush X0.here hx rfl (hb hby at_18) ?_
    show Steps p.tables e below (s₁.setTop (mkF m 20 #[.val (.int p1), .val (.int p2), .val (.int p3), .val (.int p4), .val (.int p5), .val (.int (1 : Int32)), .val (.int (p2 &&& (31 : Int32))), .val (.int (p3 &&& (31 : Int32))), .unset, .unset, .unset, .unset, .unset, .unset] [(.int (31 : Int32)), (.int p4)])) _
    refine XS.iand X0.here hx rfl (hb hby at_20) rfl ?_
    show Steps p.tables e below (s₁.setTop (mkF m 21 #[.val (.int p1), .val (.int p2), .val (.int p3), .val (.int p4), .val (.int p5), .val (.int (1 : Int32)), .val (.int (p2 &&& (31 : Int32))), .val (.int (p3 &&& (31 : Int32))), .unset, .unset, .unset, .unset, .unset, .unset] [(.int (p4 &&& (31 : Int32)))])) _
    refine XS.istore X0.here hx rfl (hb hby at_21) rfl (l' := #[.val (.int p1), .val (.int p2), .val (.int p3), .val (.int p4), .val (.int p5), .val (.int (1 : Int32)), .val (.int (p2 &&& (31 : Int32))), .val (.int (p3 &&& (31 : Int32))), .val (.int (p4 &&& (31 : Int32))), .unset, .unset, .unset, .unset, .unset]) rfl ?_
    show Steps p.tables e below (s₁.setTop (mkF m 23 #[.val (.int p1), .val (.int p2), .val (.int p3), .val (.int p4), .val (.int p5), .val (.int (1 : Int32)), .val (.int (p2 &&& (31 : Int32))), .val (.int (p3 &&& (31 : Int32))), .val (.int (p4 &&& (31 : Int32))), .unset, .unset, .unset, .unset, .unset] [])) _
    refine XS.iload X0.here hx rfl (hb hby at_23) rfl ?_
    show Steps p.tables e below (s₁.setTop (mkF m 25 #[.val (.int p1), .val (.int p2), .val (.int p3), .val (.int p4), .val (.int p5), .val (.int (1 : Int32)), .val (.int (p2 &&& (31 : Int32))), .val (.int (p3 &&& (31 : Int32))), .val (.int (p4 &&& (31 : Int32))), .unset, .unset, .unset, .unset, .unset] [(.int p5)])) _
    refine XS.bipush X0.here hx rfl (hb hby at_25) ?_
    show Steps p.tables e below (s₁.setTop (mkF m 27 #[.val (.int p1), .val (.int p2), .val (.int p3), .val (.int p4), .val (.int p5), .val (.int (1 : Int32)), .val (.int (p2 &&& (31 : Int32))), .val (.int (p3 &&& (31 : Int32))), .val (.int (p4 &&& (31 : Int32))), .unset, .unset, .unset, .unset, .unset] [(.int (31 : Int32)), (.int p5)])) _
    refine XS.iand X0.here hx rfl (hb hby at_27) rfl ?_
    show Steps p.tables e below (s₁.setTop (mkF m 28 #[.val (.int p1), .val (.int p2), .val (.int p3), .val (.int p4), .val (.int p5), .val (.int (1 : Int32)), .val (.int (p2 &&& (31 : Int32))), .val (.int (p3 &&& (31 : Int32))), .val (.int (p4 &&& (31 : Int32))), .unset, .unset, .unset, .unset, .unset] [(.int (p5 &&& (31 : Int32)))])) _
    refine XS.istore X0.here hx rfl (hb hby at_28) rfl (l' := #[.val (.int p1), .val (.int p2), .val (.int p3), .val (.int p4), .val (.int p5), .val (.int (1 : Int32)), .val (.int (p2 &&& (31 : Int32))), .val (.int (p3 &&& (31 : Int32))), .val (.int (p4 &&& (31 : Int32))), .val (.int (p5 &&& (31 : Int32))), .unset, .unset, .unset, .unset]) rfl ?_
    show Steps p.tables e below (s₁.setTop (mkF m 30 #[.val (.int p1), .val (.int p2), .val (.int p3), .val (.int p4), .val (.int p5), .val (.int (1 : Int32)), .val (.int (p2 &&& (31 : Int32))), .val (.int (p3 &&& (31 : Int32))), .val (.int (p4 &&& (31 : Int32))), .val (.int (p5 &&& (31 : Int32))), .unset, .unset, .unset, .unset] [])) _
    refine XS.iload X0.here hx rfl (hb hby at_30) rfl ?_
    show Steps p.tables e below (s₁.setTop (mkF m 32 #[.val (.int p1), .val (.int p2), .val (.int p3), .val (.int p4), .val (.int p5), .val (.int (1 : Int32)), .val (.int (p2 &&& (31 : Int32))), .val (.int (p3 &&& (31 : Int32))), .val (.int (p4 &&& (31 : Int32))), .val (.int (p5 &&& (31 : Int32))), .unset, .unset, .unset, .unset] [(.int (1 : Int32))])) _
    refine st6 _ ?_
    show Steps p.tables e below (T6.setTop (mkF m 34 #[.val (.int p1), .val (.int p2), .val (.int p3), .val (.int p4), .val (.int p5), .val (.int (1 : Int32)), .val (.int (p2 &&& (31 : Int32))), .val (.int (p3 &&& (31 : Int32))), .val (.int (p4 &&& (31 : Int32))), .val (.int (p5 &&& (31 : Int32))), .unset, .unset, .unset, .unset] [(.ref b6)])) _
    refine XS.astore X6.here hx rfl (hb hby at_34) rfl rfl (l' := #[.val (.int p1), .val (.int p2), .val (.int p3), .val (.int p4), .val (.int p5), .val (.int (1 : Int32)), .val (.int (p2 &&& (31 : Int32))), .val (.int (p3 &&& (31 : Int32))), .val (.int (p4 &&& (31 : Int32))), .val (.int (p5 &&& (31 : Int32))), .val (.ref b6), .unset, .unset, .unset]) rfl ?_
    show Steps p.tables e below (T6.setTop (mkF m 36 #[.val (.int p1), .val (.int p2), .val (.int p3), .val (.int p4), .val (.int p5), .val (.int (1 : Int32)), .val (.int (p2 &&& (31 : Int32))), .val (.int (p3 &&& (31 : Int32))), .val (.int (p4 &&& (31 : Int32))), .val (.int (p5 &&& (31 : Int32))), .val (.ref b6), .unset, .unset, .unset] [])) _
    refine XS.iload X6.here hx rfl (hb hby at_36) rfl ?_
    show Steps p.tables e below (T6.setTop (mkF m 38 #[.val (.int p1), .val (.int p2), .val (.int p3), .val (.int p4), .val (.int p5), .val (.int (1 : Int32)), .val (.int (p2 &&& (31 : Int32))), .val (.int (p3 &&& (31 : Int32))), .val (.int (p4 &&& (31 : Int32))), .val (.int (p5 &&& (31 : Int32))), .val (.ref b6), .unset, .unset, .unset] [(.int (1 : Int32))])) _
    refine XS.iconst X6.here hx rfl (hb hby at_38) ?_
    show Steps p.tables e below (T6.setTop (mkF m 39 #[.val (.int p1), .val (.int p2), .val (.int p3), .val (.int p4), .val (.int p5), .val (.int (1 : Int32)), .val (.int (p2 &&& (31 : Int32))), .val (.int (p3 &&& (31 : Int32))), .val (.int (p4 &&& (31 : Int32))), .val (.int (p5 &&& (31 : Int32))), .val (.ref b6), .unset, .unset, .unset] [(.int (1 : Int32)), (.int (1 : Int32))])) _
    refine XS.icmpNo X6.here hx rfl (hb hby at_39) rfl (flt hc39).1 ?_
    show Steps p.tables e below (T6.setTop (mkF m 42 #[.val (.int p1), .val (.int p2), .val (.int p3), .val (.int p4), .val (.int p5), .val (.int (1 : Int32)), .val (.int (p2 &&& (31 : Int32))), .val (.int (p3 &&& (31 : Int32))), .val (.int (p4 &&& (31 : Int32))), .val (.int (p5 &&& (31 : Int32))), .val (.ref b6), .unset, .unset, .unset] [])) _
    refine XS.aload X6.here hx rfl (hb hby at_42) rfl rfl ?_
    show Steps p.tables e below (T6.setTop (mkF m 44 #[.val (.int p1), .val (.int p2), .val (.int p3), .val (.int p4), .val (.int p5), .val (.int (1 : Int32)), .val (.int (p2 &&& (31 : Int32))), .val (.int (p3 &&& (31 : Int32))), .val (.int (p4 &&& (31 : Int32))), .val (.int (p5 &&& (31 : Int32))), .val (.ref b6), .unset, .unset, .unset] [(.ref b6)])) _
    refine XS.iconst X6.here hx rfl (hb hby at_44) ?_
    show Steps p.tables e below (T6.setTop (mkF m 45 #[.val (.int p1), .val (.int p2), .val (.int p3), .val (.int p4), .val (.int p5), .val (.int (1 : Int32)), .val (.int (p2 &&& (31 : Int32))), .val (.int (p3 &&& (31 : Int32))), .val (.int (p4 &&& (31 : Int32))), .val (.int (p5 &&& (31 : Int32))), .val (.ref b6), .unset, .unset, .unset] [(.int (0 : Int32)), (.ref b6)])) _
    refine XS.iload X6.here hx rfl (hb hby at_45) rfl ?_
    show Steps p.tables e below (T6.setTop (mkF m 47 #[.val (.int p1), .val (.int p2), .val (.int p3), .val (.int p4), .val (.int p5), .val (.int (1 : Int32)), .val (.int (p2 &&& (31 : Int32))), .val (.int (p3 &&& (31 : Int32))), .val (.int (p4 &&& (31 : Int32))), .val (.int (p5 &&& (31 : Int32))), .val (.ref b6), .unset, .unset, .unset] [(.int (p2 &&& (31 : Int32))), (.int (0 : Int32)), (.ref b6)])) _
    refine st7 _ ?_
    show Steps p.tables e below (T7.setTop (mkF m 48 #[.val (.int p1), .val (.int p2), .val (.int p3), .val (.int p4), .val (.int p5), .val (.int (1 : Int32)), .val (.int (p2 &&& (31 : Int32))), .val (.int (p3 &&& (31 : Int32))), .val (.int (p4 &&& (31 : Int32))), .val (.int (p5 &&& (31 : Int32))), .val (.ref b6), .unset, .unset, .unset] [])) _
    refine XS.iload X7.here hx rfl (hb hby at_48) rfl ?_
    show Steps p.tables e below (T7.setTop (mkF m 50 #[.val (.int p1), .val (.int p2), .val (.int p3), .val (.int p4), .val (.int p5), .val (.int (1 : Int32)), .val (.int (p2 &&& (31 : Int32))), .val (.int (p3 &&& (31 : Int32))), .val (.int (p4 &&& (31 : Int32))), .val (.int (p5 &&& (31 : Int32))), .val (.ref b6), .unset, .unset, .unset] [(.int (1 : Int32))])) _
    refine XS.iconst X7.here hx rfl (hb hby at_50) ?_
    show Steps p.tables e below (T7.setTop (mkF m 51 #[.val (.int p1), .val (.int p2), .val (.int p3), .val (.int p4), .val (.int p5), .val (.int (1 : Int32)), .val (.int (p2 &&& (31 : Int32))), .val (.int (p3 &&& (31 : Int32))), .val (.int (p4 &&& (31 : Int32))), .val (.int (p5 &&& (31 : Int32))), .val (.ref b6), .unset, .unset, .unset] [(.int (2 : Int32)), (.int (1 : Int32))])) _
    refine XS.icmpYes X7.here hx rfl (pc0 := 51) (pc' := 60) rfl (hb hby at_51) rfl (tlt hc51).1 (by decide) (by decide) ?_
    show Steps p.tables e below (T7.setTop (mkF m 60 #[.val (.int p1), .val (.int p2), .val (.int p3), .val (.int p4), .val (.int p5), .val (.int (1 : Int32)), .val (.int (p2 &&& (31 : Int32))), .val (.int (p3 &&& (31 : Int32))), .val (.int (p4 &&& (31 : Int32))), .val (.int (p5 &&& (31 : Int32))), .val (.ref b6), .unset, .unset, .unset] [])) _
    refine XS.iload X7.here hx rfl (hb hby at_60) rfl ?_
    show Steps p.tables e below (T7.setTop (mkF m 62 #[.val (.int p1), .val (.int p2), .val (.int p3), .val (.int p4), .val (.int p5), .val (.int (1 : Int32)), .val (.int (p2 &&& (31 : Int32))), .val (.int (p3 &&& (31 : Int32))), .val (.int (p4 &&& (31 : Int32))), .val (.int (p5 &&& (31 : Int32))), .val (.ref b6), .unset, .unset, .unset] [(.int (1 : Int32))])) _
    refine XS.iconst X7.here hx rfl (hb hby at_62) ?_
    show Steps p.tables e below (T7.setTop (mkF m 63 #[.val (.int p1), .val (.int p2), .val (.int p3), .val (.int p4), .val (.int p5), .val (.int (1 : Int32)), .val (.int (p2 &&& (31 : Int32))), .val (.int (p3 &&& (31 : Int32))), .val (.int (p4 &&& (31 : Int32))), .val (.int (p5 &&& (31 : Int32))), .val (.ref b6), .unset, .unset, .unset] [(.int (3 : Int32)), (.int (1 : Int32))])) _
    refine XS.icmpYes X7.here hx rfl (pc0 := 63) (pc' := 72) rfl (hb hby at_63) rfl (tlt hc63).1 (by decide) (by decide) ?_
    show Steps p.tables e below (T7.setTop (mkF m 72 #[.val (.int p1), .val (.int p2), .val (.int p3), .val (.int p4), .val (.int p5), .val (.int (1 : Int32)), .val (.int (p2 &&& (31 : Int32))), .val (.int (p3 &&& (31 : Int32))), .val (.int (p4 &&& (31 : Int32))), .val (.int (p5 &&& (31 : Int32))), .val (.ref b6), .unset, .unset, .unset] [])) _
    refine XS.aload X7.here hx rfl (hb hby at_72) rfl rfl ?_
    show Steps p.tables e below (T7.setTop (mkF m 74 #[.val (.int p1), .val (.int p2), .val (.int p3), .val (.int p4), .val (.int p5), .val (.int (1 : Int32)), .val (.int (p2 &&& (31 : Int32))), .val (.int (p3 &&& (31 : Int32))), .val (.int (p4 &&& (31 : Int32))), .val (.int (p5 &&& (31 : Int32))), .val (.ref b6), .unset, .unset, .unset] [(.ref b6)])) _
    refine st8 _ ?_
    show Steps p.tables e below (T8.setTop (mkF m 77 #[.val (.int p1), .val (.int p2), .val (.int p3), .val (.int p4), .val (.int p5), .val (.int (1 : Int32)), .val (.int (p2 &&& (31 : Int32))), .val (.int (p3 &&& (31 : Int32))), .val (.int (p4 &&& (31 : Int32))), .val (.int (p5 &&& (31 : Int32))), .val (.ref b6), .unset, .unset, .unset] [(.int (own_u1 (p2 &&& (31 : Int32))))])) _
    refine XS.istore X8.here hx rfl (hb hby at_77) rfl (l' := #[.val (.int p1), .val (.int p2), .val (.int p3), .val (.int p4), .val (.int p5), .val (.int (1 : Int32)), .val (.int (p2 &&& (31 : Int32))), .val (.int (p3 &&& (31 : Int32))), .val (.int (p4 &&& (31 : Int32))), .val (.int (p5 &&& (31 : Int32))), .val (.ref b6), .val (.int (own_u1 (p2 &&& (31 : Int32)))), .unset, .unset]) rfl ?_
    show Steps p.tables e below (T8.setTop (mkF m 79 #[.val (.int p1), .val (.int p2), .val (.int p3), .val (.int p4), .val (.int p5), .val (.int (1 : Int32)), .val (.int (p2 &&& (31 : Int32))), .val (.int (p3 &&& (31 : Int32))), .val (.int (p4 &&& (31 : Int32))), .val (.int (p5 &&& (31 : Int32))), .val (.ref b6), .val (.int (own_u1 (p2 &&& (31 : Int32)))), .unset, .unset] [])) _
    refine XS.iload X8.here hx rfl (hb hby at_79) rfl ?_
    show Steps p.tables e below (T8.setTop (mkF m 81 #[.val (.int p1), .val (.int p2), .val (.int p3), .val (.int p4), .val (.int p5), .val (.int (1 : Int32)), .val (.int (p2 &&& (31 : Int32))), .val (.int (p3 &&& (31 : Int32))), .val (.int (p4 &&& (31 : Int32))), .val (.int (p5 &&& (31 : Int32))), .val (.ref b6), .val (.int (own_u1 (p2 &&& (31 : Int32)))), .unset, .unset] [(.int (1 : Int32))])) _
    refine XS.iconst X8.here hx rfl (hb hby at_81) ?_
    show Steps p.tables e below (T8.setTop (mkF m 82 #[.val (.int p1), .val (.int p2), .val (.int p3), .val (.int p4), .val (.int p5), .val (.int (1 : Int32)), .val (.int (p2 &&& (31 : Int32))), .val (.int (p3 &&& (31 : Int32))), .val (.int (p4 &&& (31 : Int32))), .val (.int (p5 &&& (31 : Int32))), .val (.ref b6), .val (.int (own_u1 (p2 &&& (31 : Int32)))), .unset, .unset] [(.int (1 : Int32)), (.int (1 : Int32))])) _
    refine XS.icmpNo X8.here hx rfl (hb hby at_82) rfl (flt hc82).1 ?_
    show Steps p.tables e below (T8.setTop (mkF m 85 #[.val (.int p1), .val (.int p2), .val (.int p3), .val (.int p4), .val (.int p5), .val (.int (1 : Int32)), .val (.int (p2 &&& (31 : Int32))), .val (.int (p3 &&& (31 : Int32))), .val (.int (p4 &&& (31 : Int32))), .val (.int (p5 &&& (31 : Int32))), .val (.ref b6), .val (.int (own_u1 (p2 &&& (31 : Int32)))), .unset, .unset] [])) _
    refine XS.iload X8.here hx rfl (hb hby at_85) rfl ?_
    show Steps p.tables e below (T8.setTop (mkF m 87 #[.val (.int p1), .val (.int p2), .val (.int p3), .val (.int p4), .val (.int p5), .val (.int (1 : Int32)), .val (.int (p2 &&& (31 : Int32))), .val (.int (p3 &&& (31 : Int32))), .val (.int (p4 &&& (31 : Int32))), .val (.int (p5 &&& (31 : Int32))), .val (.ref b6), .val (.int (own_u1 (p2 &&& (31 : Int32)))), .unset, .unset] [(.int (p5 &&& (31 : Int32)))])) _
    refine XS.iload X8.here hx rfl (hb hby at_87) rfl ?_
    show Steps p.tables e below (T8.setTop (mkF m 89 #[.val (.int p1), .val (.int p2), .val (.int p3), .val (.int p4), .val (.int p5), .val (.int (1 : Int32)), .val (.int (p2 &&& (31 : Int32))), .val (.int (p3 &&& (31 : Int32))), .val (.int (p4 &&& (31 : Int32))), .val (.int (p5 &&& (31 : Int32))), .val (.ref b6), .val (.int (own_u1 (p2 &&& (31 : Int32)))), .unset, .unset] [(.int (p2 &&& (31 : Int32))), (.int (p5 &&& (31 : Int32)))])) _
    refine XS.icmpNo X8.here hx rfl (hb hby at_89) rfl (feq hc89).1 ?_
    show Steps p.tables e below (T8.setTop (mkF m 92 #[.val (.int p1), .val (.int p2), .val (.int p3), .val (.int p4), .val (.int p5), .val (.int (1 : Int32)), .val (.int (p2 &&& (31 : Int32))), .val (.int (p3 &&& (31 : Int32))), .val (.int (p4 &&& (31 : Int32))), .val (.int (p5 &&& (31 : Int32))), .val (.ref b6), .val (.int (own_u1 (p2 &&& (31 : Int32)))), .unset, .unset] [])) _
    refine XS.iload X8.here hx rfl (hb hby at_92) rfl ?_
    show Steps p.tables e below (T8.setTop (mkF m 94 #[.val (.int p1), .val (.int p2), .val (.int p3), .val (.int p4), .val (.int p5), .val (.int (1 : Int32)), .val (.int (p2 &&& (31 : Int32))), .val (.int (p3 &&& (31 : Int32))), .val (.int (p4 &&& (31 : Int32))), .val (.int (p5 &&& (31 : Int32))), .val (.ref b6), .val (.int (own_u1 (p2 &&& (31 : Int32)))), .unset, .unset] [(.int (1 : Int32))])) _
    refine XS.iconst X8.here hx rfl (hb hby at_94) ?_
    show Steps p.tables e below (T8.setTop (mkF m 95 #[.val (.int p1), .val (.int p2), .val (.int p3), .val (.int p4), .val (.int p5), .val (.int (1 : Int32)), .val (.int (p2 &&& (31 : Int32))), .val (.int (p3 &&& (31 : Int32))), .val (.int (p4 &&& (31 : Int32))), .val (.int (p5 &&& (31 : Int32))), .val (.ref b6), .val (.int (own_u1 (p2 &&& (31 : Int32)))), .unset, .unset] [(.int (2 : Int32)), (.int (1 : Int32))])) _
    refine XS.icmpYes X8.here hx rfl (pc0 := 95) (pc' := 105) rfl (hb hby at_95) rfl (tlt hc95).1 (by decide) (by decide) ?_
    show Steps p.tables e below (T8.setTop (mkF m 105 #[.val (.int p1), .val (.int p2), .val (.int p3), .val (.int p4), .val (.int p5), .val (.int (1 : Int32)), .val (.int (p2 &&& (31 : Int32))), .val (.int (p3 &&& (31 : Int32))), .val (.int (p4 &&& (31 : Int32))), .val (.int (p5 &&& (31 : Int32))), .val (.ref b6), .val (.int (own_u1 (p2 &&& (31 : Int32)))), .unset, .unset] [])) _
    refine XS.iload X8.here hx rfl (hb hby at_105) rfl ?_
    show Steps p.tables e below (T8.setTop (mkF m 107 #[.val (.int p1), .val (.int p2), .val (.int p3), .val (.int p4), .val (.int p5), .val (.int (1 : Int32)), .val (.int (p2 &&& (31 : Int32))), .val (.int (p3 &&& (31 : Int32))), .val (.int (p4 &&& (31 : Int32))), .val (.int (p5 &&& (31 : Int32))), .val (.ref b6), .val (.int (own_u1 (p2 &&& (31 : Int32)))), .unset, .unset] [(.int (1 : Int32))])) _
    refine XS.iconst X8.here hx rfl (hb hby at_107) ?_
    show Steps p.tables e below (T8.setTop (mkF m 108 #[.val (.int p1), .val (.int p2), .val (.int p3), .val (.int p4), .val (.int p5), .val (.int (1 : Int32)), .val (.int (p2 &&& (31 : Int32))), .val (.int (p3 &&& (31 : Int32))), .val (.int (p4 &&& (31 : Int32))), .val (.int (p5 &&& (31 : Int32))), .val (.ref b6), .val (.int (own_u1 (p2 &&& (31 : Int32)))), .unset, .unset] [(.int (3 : Int32)), (.int (1 : Int32))])) _
    refine XS.icmpYes X8.here hx rfl (pc0 := 108) (pc' := 122) rfl (hb hby at_108) rfl (tlt hc108).1 (by decide) (by decide) ?_
    show Steps p.tables e below (T8.setTop (mkF m 122 #[.val (.int p1), .val (.int p2), .val (.int p3), .val (.int p4), .val (.int p5), .val (.int (1 : Int32)), .val (.int (p2 &&& (31 : Int32))), .val (.int (p3 &&& (31 : Int32))), .val (.int (p4 &&& (31 : Int32))), .val (.int (p5 &&& (31 : Int32))), .val (.ref b6), .val (.int (own_u1 (p2 &&& (31 : Int32)))), .unset, .unset] [])) _
    refine XS.iconst X8.here hx rfl (hb hby at_122) ?_
    show Steps p.tables e below (T8.setTop (mkF m 123 #[.val (.int p1), .val (.int p2), .val (.int p3), .val (.int p4), .val (.int p5), .val (.int (1 : Int32)), .val (.int (p2 &&& (31 : Int32))), .val (.int (p3 &&& (31 : Int32))), .val (.int (p4 &&& (31 : Int32))), .val (.int (p5 &&& (31 : Int32))), .val (.ref b6), .val (.int (own_u1 (p2 &&& (31 : Int32)))), .unset, .unset] [(.int (0 : Int32))])) _
    refine XS.istore X8.here hx rfl (hb hby at_123) rfl (l' := #[.val (.int p1), .val (.int p2), .val (.int p3), .val (.int p4), .val (.int p5), .val (.int (1 : Int32)), .val (.int (p2 &&& (31 : Int32))), .val (.int (p3 &&& (31 : Int32))), .val (.int (p4 &&& (31 : Int32))), .val (.int (p5 &&& (31 : Int32))), .val (.ref b6), .val (.int (own_u1 (p2 &&& (31 : Int32)))), .val (.int (0 : Int32)), .unset]) rfl ?_
    show Steps p.tables e below (T8.setTop (mkF m 125 #[.val (.int p1), .val (.int p2), .val (.int p3), .val (.int p4), .val (.int p5), .val (.int (1 : Int32)), .val (.int (p2 &&& (31 : Int32))), .val (.int (p3 &&& (31 : Int32))), .val (.int (p4 &&& (31 : Int32))), .val (.int (p5 &&& (31 : Int32))), .val (.ref b6), .val (.int (own_u1 (p2 &&& (31 : Int32)))), .val (.int (0 : Int32)), .unset] [])) _
    refine XS.iload X8.here hx rfl (hb hby at_125) rfl ?_
    show Steps p.tables e below (T8.setTop (mkF m 127 #[.val (.int p1), .val (.int p2), .val (.int p3), .val (.int p4), .val (.int p5), .val (.int (1 : Int32)), .val (.int (p2 &&& (31 : Int32))), .val (.int (p3 &&& (31 : Int32))), .val (.int (p4 &&& (31 : Int32))), .val (.int (p5 &&& (31 : Int32))), .val (.ref b6), .val (.int (own_u1 (p2 &&& (31 : Int32)))), .val (.int (0 : Int32)), .unset] [(.int (own_u1 (p2 &&& (31 : Int32))))])) _
    refine XS.iload X8.here hx rfl (hb hby at_127) rfl ?_
    show Steps p.tables e below (T8.setTop (mkF m 129 #[.val (.int p1), .val (.int p2), .val (.int p3), .val (.int p4), .val (.int p5), .val (.int (1 : Int32)), .val (.int (p2 &&& (31 : Int32))), .val (.int (p3 &&& (31 : Int32))), .val (.int (p4 &&& (31 : Int32))), .val (.int (p5 &&& (31 : Int32))), .val (.ref b6), .val (.int (own_u1 (p2 &&& (31 : Int32)))), .val (.int (0 : Int32)), .unset] [(.int (p5 &&& (31 : Int32))), (.int (own_u1 (p2 &&& (31 : Int32))))])) _
    refine XS.iushr X8.here hx rfl (hb hby at_129) rfl ?_
    show Steps p.tables e below (T8.setTop (mkF m 130 #[.val (.int p1), .val (.int p2), .val (.int p3), .val (.int p4), .val (.int p5), .val (.int (1 : Int32)), .val (.int (p2 &&& (31 : Int32))), .val (.int (p3 &&& (31 : Int32))), .val (.int (p4 &&& (31 : Int32))), .val (.int (p5 &&& (31 : Int32))), .val (.ref b6), .val (.int (own_u1 (p2 &&& (31 : Int32)))), .val (.int (0 : Int32)), .unset] [(.int (((own_u1 (p2 &&& (31 : Int32))).toUInt32 >>> ((p5 &&& (31 : Int32)) &&& 31).toUInt32).toInt32))])) _
    refine XS.iconst X8.here hx rfl (hb hby at_130) ?_
    show Steps p.tables e below (T8.setTop (mkF m 131 #[.val (.int p1), .val (.int p2), .val (.int p3), .val (.int p4), .val (.int p5), .val (.int (1 : Int32)), .val (.int (p2 &&& (31 : Int32))), .val (.int (p3 &&& (31 : Int32))), .val (.int (p4 &&& (31 : Int32))), .val (.int (p5 &&& (31 : Int32))), .val (.ref b6), .val (.int (own_u1 (p2 &&& (31 : Int32)))), .val (.int (0 : Int32)), .unset] [(.int (1 : Int32)), (.int (((own_u1 (p2 &&& (31 : Int32))).toUInt32 >>> ((p5 &&& (31 : Int32)) &&& 31).toUInt32).toInt32))])) _
    refine XS.iand X8.here hx rfl (hb hby at_131) rfl ?_
    show Steps p.tables e below (T8.setTop (mkF m 132 #[.val (.int p1), .val (.int p2), .val (.int p3), .val (.int p4), .val (.int p5), .val (.int (1 : Int32)), .val (.int (p2 &&& (31 : Int32))), .val (.int (p3 &&& (31 : Int32))), .val (.int (p4 &&& (31 : Int32))), .val (.int (p5 &&& (31 : Int32))), .val (.ref b6), .val (.int (own_u1 (p2 &&& (31 : Int32)))), .val (.int (0 : Int32)), .unset] [(.int ((((own_u1 (p2 &&& (31 : Int32))).toUInt32 >>> ((p5 &&& (31 : Int32)) &&& 31).toUInt32).toInt32) &&& (1 : Int32)))])) _
    refine XS.ifYes X8.here hx rfl (pc0 := 132) (pc' := 139) rfl (hb hby at_132) rfl ((if0 _ _).trans (teq hc132).1) (by decide) (by decide) ?_
    show Steps p.tables e below (T8.setTop (mkF m 139 #[.val (.int p1), .val (.int p2), .val (.int p3), .val (.int p4), .val (.int p5), .val (.int (1 : Int32)), .val (.int (p2 &&& (31 : Int32))), .val (.int (p3 &&& (31 : Int32))), .val (.int (p4 &&& (31 : Int32))), .val (.int (p5 &&& (31 : Int32))), .val (.ref b6), .val (.int (own_u1 (p2 &&& (31 : Int32)))), .val (.int (0 : Int32)), .unset] [])) _
    refine XS.iconst X8.here hx rfl (hb hby at_139) ?_
    show Steps p.tables e below (T8.setTop (mkF m 140 #[.val (.int p1), .val (.int p2), .val (.int p3), .val (.int p4), .val (.int p5), .val (.int (1 : Int32)), .val (.int (p2 &&& (31 : Int32))), .val (.int (p3 &&& (31 : Int32))), .val (.int (p4 &&& (31 : Int32))), .val (.int (p5 &&& (31 : Int32))), .val (.ref b6), .val (.int (own_u1 (p2 &&& (31 : Int32)))), .val (.int (0 : Int32)), .unset] [(.int (0 : Int32))])) _
    refine XS.istore X8.here hx rfl (hb hby at_140) rfl (l' := #[.val (.int p1), .val (.int p2), .val (.int p3), .val (.int p4), .val (.int p5), .val (.int (1 : Int32)), .val (.int (p2 &&& (31 : Int32))), .val (.int (p3 &&& (31 : Int32))), .val (.int (p4 &&& (31 : Int32))), .val (.int (p5 &&& (31 : Int32))), .val (.ref b6), .val (.int (own_u1 (p2 &&& (31 : Int32)))), .val (.int (0 : Int32)), .val (.int (0 : Int32))]) rfl ?_
    show Steps p.tables e below (T8.setTop (mkF m 142 #[.val (.int p1), .val (.int p2), .val (.int p3), .val (.int p4), .val (.int p5), .val (.int (1 : Int32)), .val (.int (p2 &&& (31 : Int32))), .val (.int (p3 &&& (31 : Int32))), .val (.int (p4 &&& (31 : Int32))), .val (.int (p5 &&& (31 : Int32))), .val (.ref b6), .val (.int (own_u1 (p2 &&& (31 : Int32)))), .val (.int (0 : Int32)), .val (.int (0 : Int32))] [])) _
    refine XS.iload X8.here hx rfl (hb hby at_142) rfl ?_
    show Steps p.tables e below (T8.setTop (mkF m 144 #[.val (.int p1), .val (.int p2), .val (.int p3), .val (.int p4), .val (.int p5), .val (.int (1 : Int32)), .val (.int (p2 &&& (31 : Int32))), .val (.int (p3 &&& (31 : Int32))), .val (.int (p4 &&& (31 : Int32))), .val (.int (p5 &&& (31 : Int32))), .val (.ref b6), .val (.int (own_u1 (p2 &&& (31 : Int32)))), .val (.int (0 : Int32)), .val (.int (0 : Int32))] [(.int (0 : Int32))])) _
    refine XS.iload X8.here hx rfl (hb hby at_144) rfl ?_
    show Steps p.tables e below (T8.setTop (mkF m 146 #[.val (.int p1), .val (.int p2), .val (.int p3), .val (.int p4), .val (.int p5), .val (.int (1 : Int32)), .val (.int (p2 &&& (31 : Int32))), .val (.int (p3 &&& (31 : Int32))), .val (.int (p4 &&& (31 : Int32))), .val (.int (p5 &&& (31 : Int32))), .val (.ref b6), .val (.int (own_u1 (p2 &&& (31 : Int32)))), .val (.int (0 : Int32)), .val (.int (0 : Int32))] [(.int (0 : Int32)), (.int (0 : Int32))])) _
    refine XS.icmpNo X8.here hx rfl (hb hby at_146) rfl (teq (rfl : (0 : Int32) = (0 : Int32))).2 ?_
    show Steps p.tables e below (T8.setTop (mkF m 149 #[.val (.int p1), .val (.int p2), .val (.int p3), .val (.int p4), .val (.int p5), .val (.int (1 : Int32)), .val (.int (p2 &&& (31 : Int32))), .val (.int (p3 &&& (31 : Int32))), .val (.int (p4 &&& (31 : Int32))), .val (.int (p5 &&& (31 : Int32))), .val (.ref b6), .val (.int (own_u1 (p2 &&& (31 : Int32)))), .val (.int (0 : Int32)), .val (.int (0 : Int32))] [])) _
    refine XS.iconst X8.here hx rfl (hb hby at_149) ?_
    show Steps p.tables e below (T8.setTop (mkF m 150 #[.val (.int p1), .val (.int p2), .val (.int p3), .val (.int p4), .val (.int p5), .val (.int (1 : Int32)), .val (.int (p2 &&& (31 : Int32))), .val (.int (p3 &&& (31 : Int32))), .val (.int (p4 &&& (31 : Int32))), .val (.int (p5 &&& (31 : Int32))), .val (.ref b6), .val (.int (own_u1 (p2 &&& (31 : Int32)))), .val (.int (0 : Int32)), .val (.int (0 : Int32))] [(.int (1 : Int32))])) _
    refine XS.goto X8.here hx rfl (pc0 := 150) (pc' := 154) rfl (hb hby at_150) (by decide) (by decide) ?_
    show Steps p.tables e below (T8.setTop (mkF m 154 #[.val (.int p1), .val (.int p2), .val (.int p3), .val (.int p4), .val (.int p5), .val (.int (1 : Int32)), .val (.int (p2 &&& (31 : Int32))), .val (.int (p3 &&& (31 : Int32))), .val (.int (p4 &&& (31 : Int32))), .val (.int (p5 &&& (31 : Int32))), .val (.ref b6), .val (.int (own_u1 (p2 &&& (31 : Int32)))), .val (.int (0 : Int32)), .val (.int (0 : Int32))] [(.int (1 : Int32))])) _
    exact retN X8 hx (t := .boolean) Bd.returns (by simp) (hb hby at_154) hr
  · show own_Q0 h0 n0 _ T8.heap _
    rw [e8]
    exact ⟨rfl, N8⟩
set_option maxRecDepth 65536 in
set_option maxHeartbeats 40000000 in
theorem own_rm0_2_0 (l : Launch) (Z : State) (a0 : Array Value) (hw : ∀ d ∈ tables_1, d.before a0 Z = true) (ws : List Jvm.Cond) (p1 : Int32) (p2 : Int32) (p3 : Int32) (p4 : Int32) (p5 : Int32) (h0 : Heap) (n0 : Nat) (Z0 : n0 ≤ h0.size) (hn : (p1 &&& (3 : Int32)) = (2 : Int32)) (hc39 : ¬ ((2 : Int32) < (1 : Int32))) (hc51 : ¬ ((2 : Int32) < (2 : Int32))) (hc63 : (2 : Int32) < (3 : Int32)) (hc82 : ¬ ((2 : Int32) < (1 : Int32))) (hc89 : (p5 &&& (31 : Int32)) = (p2 &&& (31 : Int32))) (hc132 : ¬ (((((own_u2 (p2 &&& (31 : Int32)) (p3 &&& (31 : Int32))).toUInt32 >>> ((p5 &&& (31 : Int32)) &&& 31).toUInt32).toInt32) &&& (1 : Int32)) = (0 : Int32))) :
    MetFree l x (head1 (Jvm.Cond.code x code maxLocals ret :: ws) room_1) (fun a U => a = #[(.int p1), (.int p2), (.int p3), (.int p4), (.int p5)] ∧ Z.Warmed39 U.vm ∧ U.heap = h0) (fun _ _ _ _ _ => True) (fun _ U o U' => ∃ v L, o = .returned v ∧ own_Q0 h0 n0 v U'.heap L ∧ FrameEnd U o U' L room_1.cells room_1.slots) := by
  refine MetFree.of_bodySF (plainFor_of_name pn_0) hisR ?_
  intro p e s m args below meth c s₁ Bd hml0 hP hK
  obtain ⟨rfl, hZ, hh⟩ := hP
  have hx := Bd.exec
  have hby := Bd.bytes
  have hml : c.maxLocals = 14 := hml0
  have hown : s.vm.findClass "com/example/sundew/sundew/text/BreakPropertiesBitsPinLaw" = some m.cls := findClass_of_methodNamed Bd.named
  have hnm := (name_of_methodNamed Bd.named Bd.method).1
  have X0 : Stand p l e room_1 s m #[(.int p1), (.int p2), (.int p3), (.int p4), (.int p5)] below meth c s₁ [] 0 0 := Stand.of_body Bd
  have e0 : s₁.heap = h0 := by rw [← hh, Bd.state]; rfl
  have N0 := Fr.nil n0
  have pre0 : ∀ t, Steps p.tables e below (s₁.setTop (mkF m 0 #[.val (.int p1), .val (.int p2), .val (.int p3), .val (.int p4), .val (.int p5), .unset, .unset, .unset, .unset, .unset, .unset, .unset, .unset, .unset] [])) t → Steps p.tables e below (s₁.setTop (entryFrame m #[(.int p1), (.int p2), (.int p3), (.int p4), (.int p5)] maxLocals)) t := fun t k => castTop (ef_0 m p1 p2 p3 p4 p5) k
  obtain ⟨T6, h6, k6, X6, e6, E6, A6, st6⟩ := newP X0 hx hZ (hw _ (List.mem_of_getElem? (i := 0) rfl)) e0 (g := (mkF m 32 #[.val (.int p1), .val (.int p2), .val (.int p3), .val (.int p4), .val (.int p5), .val (.int (2 : Int32)), .val (.int (p2 &&& (31 : Int32))), .val (.int (p3 &&& (31 : Int32))), .val (.int (p4 &&& (31 : Int32))), .val (.int (p5 &&& (31 : Int32))), .unset, .unset, .unset, .unset] [(.int (2 : Int32))])) rfl (hb hby at_32) rfl (by decide) (cap := 2) (by decide) (by decide) (by decide) (by decide)
  obtain ⟨b6, g6⟩ : ∃ z, z = h0.size := ⟨_, rfl⟩
  rw [← g6] at A6 st6
  have V_b6 : Arv Z h6 b6 k6 .int (2 : Int32) [(.int (0 : Int32)), (.int (0 : Int32))] (.int (0 : Int32)) := (Arv.new A6 (by decide)).pad (pad_rep [] (.int (0 : Int32)) 2)
  have g_b6 : n0 ≤ b6 := Nat.le_trans Z0 (Nat.le_of_eq g6.symm)
  have sz_b6 : h0.size ≤ b6 := (Nat.le_trans (Keep.refl h0 []).1 (Nat.le_of_eq g6.symm))
  have K6 : Keep h0 h6 [] := (Keep.refl h0 []).ext E6
  obtain ⟨cl_b6_47, Ar_b6, q_b6, S_b6, N_b6, H_b6, G_b6⟩ := V_b6
  have hin47 : ¬ ((0 : Int32) < 0 ∨ cl_b6_47.slots.size ≤ ((0 : Int32)).toNatClampNeg) := inb_of S_b6 ⟨by decide, by decide⟩
  obtain ⟨T7, h7, X7, e7, W7, st7⟩ := stI X6 hx hZ e6 Ar_b6 (j := (0 : Int32)) hin47 (g := (mkF m 47 #[.val (.int p1), .val (.int p2), .val (.int p3), .val (.int p4), .val (.int p5), .val (.int (2 : Int32)), .val (.int (p2 &&& (31 : Int32))), .val (.int (p3 &&& (31 : Int32))), .val (.int (p4 &&& (31 : Int32))), .val (.int (p5 &&& (31 : Int32))), .val (.ref b6), .unset, .unset, .unset] [(.int (p2 &&& (31 : Int32))), (.int (0 : Int32)), (.ref b6)])) rfl rfl (hb hby at_47)
  have V_b6_7 := Arv.set Ar_b6 q_b6 S_b6 N_b6 H_b6 G_b6 rfl W7 0 rfl (Nat.le_of_ble_eq_true rfl)
  have K7 : Keep h0 h7 [] := K6.wr W7 (Or.inr sz_b6)
  have N7 := Fr.snoc X7 N0 g_b6
  obtain ⟨cl_b6_59, Ar_b6, q_b6, S_b6, N_b6, H_b6, G_b6⟩ := V_b6_7
  have hin59 : ¬ ((1 : Int32) < 0 ∨ cl_b6_59.slots.size ≤ ((1 : Int32)).toNatClampNeg) := inb_of S_b6 ⟨by decide, by decide⟩
  obtain ⟨T8, h8, X8, e8, W8, st8⟩ := stI X7 hx hZ e7 Ar_b6 (j := (1 : Int32)) hin59 (g := (mkF m 59 #[.val (.int p1), .val (.int p2), .val (.int p3), .val (.int p4), .val (.int p5), .val (.int (2 : Int32)), .val (.int (p2 &&& (31 : Int32))), .val (.int (p3 &&& (31 : Int32))), .val (.int (p4 &&& (31 : Int32))), .val (.int (p5 &&& (31 : Int32))), .val (.ref b6), .unset, .unset, .unset] [(.int (p3 &&& (31 : Int32))), (.int (1 : Int32)), (.ref b6)])) rfl rfl (hb hby at_59)
  have V_b6_8 := Arv.set Ar_b6 q_b6 S_b6 N_b6 H_b6 G_b6 rfl W8 1 rfl (Nat.le_of_ble_eq_true rfl)
  have K8 : Keep h0 h8 [] := K7.wr W8 (Or.inr sz_b6)
  have N8 := Fr.snoc X8 N7 g_b6
  obtain ⟨_, _, ⟨T9, L9, k9, n9⟩, -, X9, ⟨Lc9, hQ9, l9, y9, z9⟩, st9⟩ := Jvm.LawKit.callS X8 hx (y := (⟨"com/example/sundew/sundew/text/BreakProperties", "bits", "([I)I"⟩ : MethodName)) hown (mvT hZ (hw _ (List.mem_of_getElem? (i := 1) rfl))) (mvT hZ (hw _ (List.mem_of_getElem? (i := 2) rfl))) (mvT hZ (hw _ (List.mem_of_getElem? (i := 3) rfl))) (mvT hZ (hw _ (List.mem_of_getElem? (i := 4) rfl))) (by decide) (backOf (W := 0) (own_rm1_2 l Z a0 hw [] b6 _ (p2 &&& (31 : Int32)) (p3 &&& (31 : Int32)) h8 n0 (Nat.le_trans (Nat.le_trans (Nat.le_trans Z0 E6.1) (Keep.of_wr W7).1) (Keep.of_wr W8).1) V_b6_8) hZ (hw _ (List.mem_of_getElem? (i := 4) rfl)) (hw _ (List.mem_of_getElem? (i := 3) rfl)) (by decide) (by decide)) (g := (mkF m 74 #[.val (.int p1), .val (.int p2), .val (.int p3), .val (.int p4), .val (.int p5), .val (.int (2 : Int32)), .val (.int (p2 &&& (31 : Int32))), .val (.int (p3 &&& (31 : Int32))), .val (.int (p4 &&& (31 : Int32))), .val (.int (p5 &&& (31 : Int32))), .val (.ref b6), .unset, .unset, .unset] [(.ref b6)])) rfl (by rw [hml]; rfl) (argsL := [(.ref b6)]) (rest := []) (lenOf pd_0_0 rfl) rfl (by show 2 * 0 + _ ≤ _; exact Nat.le_of_eq rfl) (hb hby at_74) (fun _ _ => ⟨rfl, e8, (by decide : 1 + 0 ≤ _), (by decide : 2 + 0 ≤ _)⟩)
  dsimp only [Pt.U, Pt.locs, Pt.cells, Pt.slots] at X9 l9 y9 z9 st9 hQ9
  subst l9 y9 z9
  obtain ⟨rfl, N9q, e9⟩ := hQ9
  have N9 := Fr.app N8 N9q
  obtain ⟨fs, hr, hrun, hended, hW, hsame⟩ := X9.leave (v := some (.int (1 : Int32))) (fun h => by rw [Bd.returns] at h; cases h)
  refine ⟨_, _, pre0 _ ?_, hrun, hended, _, _, rfl, ?_, ⟨_, rfl⟩, hW, hsame.mono (by decide) (by decide)⟩
  · show Steps p.tables e below (s₁.setTop (mkF m 0 #[.val (.int p1), .val (.int p2), .val (.int p3), .val (.int p4), .val (.int p5), .unset, .unset, .unset, .unset, .unset, .unset, .unset, .unset, .unset] [])) _
    refine XS.iloadN X0.here hx rfl (hb hby at_0) rfl ?_
    show Steps p.tables e below (s₁.setTop (mkF m 1 #[.val (.int p1), .val (.int p2), .val (.int p3), .val (.int p4), .val (.int p5), .unset, .unset, .unset, .unset, .unset, .unset, .unset, .unset, .unset] [(.int p1)])) _
    refine XS.iconst X0.here hx rfl (hb hby at_1) ?_
    show Steps p.tables e below (s₁.setTop (mkF m 2 #[.val (.int p1), .val (.int p2), .val (.int p3), .val (.int p4), .val (.int p5), .unset, .unset, .unset, .unset, .unset, .unset, .unset, .unset, .unset] [(.int (3 : Int32)), (.int p1)])) _
    refine XS.iand X0.here hx rfl (hb hby at_2) rfl ?_
    show Steps p.tables e below (s₁.setTop (mkF m 3 #[.val (.int p1), .val (.int p2), .val (.int p3), .val (.int p4), .val (.int p5), .unset, .unset, .unset, .unset, .unset, .unset, .unset, .unset, .unset] [(.int (p1 &&& (3 : Int32)))])) _
    rw [hn]
    show Steps p.tables e below (s₁.setTop (mkF m 3 #[.val (.int p1), .val (.int p2), .val (.int p3), .val (.int p4), .val (.int p5), .unset, .unset, .unset, .unset, .unset, .unset, .unset, .unset, .unset] [(.int (2 : Int32))])) _
    refine XS.istore X0.here hx rfl (hb hby at_3) rfl (l' := #[.val (.int p1), .val (.int p2), .val (.int p3), .val (.int p4), .val (.int p5), .val (.int (2 : Int32)), .unset, .unset, .unset, .unset, .unset, .unset, .unset, .unset]) rfl ?_
    show Steps p.tables e below (s₁.setTop (mkF m 5 #[.val (.int p1), .val (.int p2), .val (.int p3), .val (.int p4), .val (.int p5), .val (.int (2 : Int32)), .unset, .unset, .unset, .unset, .unset, .unset, .unset, .unset] [])) _
    refine XS.iloadN X0.here hx rfl (hb hby at_5) rfl ?_
    show Steps p.tables e below (s₁.setTop (mkF m 6 #[.val (.int p1), .val (.int p2), .val (.int p3), .val (.int p4), .val (.int p5), .val (.int (2 : Int32)), .unset, .unset, .unset, .unset, .unset, .unset, .unset, .unset] [(.int p2)])) _
    refine XS.bipush X0.here hx rfl (hb hby at_6) ?_
    show Steps p.tables e below (s₁.setTop (mkF m 8 #[.val (.int p1), .val (.int p2), .val (.int p3), .val (.int p4), .val (.int p5), .val (.int (2 : Int32)), .unset, .unset, .unset, .unset, .unset, .unset, .unset, .unset] [(.int (31 : Int32)), (.int p2)])) _
    refine XS.iand X0.here hx rfl (hb hby at_8) rfl ?_
    show Steps p.tables e below (s₁.setTop (mkF m 9 #[.val (.int p1), .val (.int p2), .val (.int p3), .val (.int p4), .val (.int p5), .val (.int (2 : Int32)), .unset, .unset, .unset, .unset, .unset, .unset, .unset, .unset] [(.int (p2 &&& (31 : Int32)))])) _
    refine XS.istore X0.here hx rfl (hb hby at_9) rfl (l' := #[.val (.int p1), .val (.int p2), .val (.int p3), .val (.int p4), .val (.int p5), .val (.int (2 : Int32)), .val (.int (p2 &&& (31 : Int32))), .unset, .unset, .unset, .unset, .unset, .unset, .unset]) rfl ?_
    show Steps p.tables e below (s₁.setTop (mkF m 11 #[.val (.int p1), .val (.int p2), .val (.int p3), .val (.int p4), .val (.int p5), .val (.int (2 : Int32)), .val (.int (p2 &&& (31 : Int32))), .unset, .unset, .unset, .unset, .unset, .unset, .unset] [])) _
    refine XS.iloadN X0.here hx rfl (hb hby at_11) rfl ?_
    show Steps p.tables e below (s₁.setTop (mkF m 12 #[.val (.int p1), .val (.int p2), .val (.int p3), .val (.int p4), .val (.int p5), .val (.int (2 : Int32)), .val (.int (p2 &&& (31 : Int32))), .unset, .unset, .unset, .unset, .unset, .unset, .unset] [(.int p3)])) _
    refine XS.bipush X0.here hx rfl (hb hby at_12) ?_
    show Steps p.tables e below (s₁.setTop (mkF m 14 #[.val (.int p1), .val (.int p2), .val (.int p3), .val (.int p4), .val (.int p5), .val (.int (2 : Int32)), .val (.int (p2 &&& (31 : Int32))), .unset, .unset, .unset, .unset, .unset, .unset, .unset] [(.int (31 : Int32)), (.int p3)])) _
    refine XS.iand X0.here hx rfl (hb hby at_14) rfl ?_
    show Steps p.tables e below (s₁.setTop (mkF m 15 #[.val (.int p1), .val (.int p2), .val (.int p3), .val (.int p4), .val (.int p5), .val (.int (2 : Int32)), .val (.int (p2 &&& (31 : Int32))), .unset, .unset, .unset, .unset, .unset, .unset, .unset] [(.int (p3 &&& (31 : Int32)))])) _
    refine XS.istore X0.here hx rfl (hb hby at_15) rfl (l' := #[.val (.int p1), .val (.int p2), .val (.int p3), .val (.int p4), .val (.int p5), .val (.int (2 : Int32)), .val (.int (p2 &&& (31 : Int32))), .val (.int (p3 &&& (31 : Int32))), .unset, .unset, .unset, .unset, .unset, .unset]) rfl ?_
    show Steps p.tables e below (s₁.setTop (mkF m 17 #[.val (.int p1), .val (.int p2), .val (.int p3), .val (.int p4), .val (.int p5), .val (.int (2 : Int32)), .val (.int (p2 &&& (31 : Int32))), .val (.int (p3 &&& (31 : Int32))), .unset, .unset, .unset, .unset, .unset, .unset] [])) _
    refine XS.iloadN X0.here hx rfl (hb hby at_17) rfl ?_
    show Steps p.tables e below (s₁.setTop (mkF m 18 #[.val (.int p1), .val (.int p2), .val (.int p3), .val (.int p4), .val (.int p5), .val (.int (2 : Int32)), .val (.int (p2 &&& (31 : Int32))), .val (.int (p3 &&& (31 : Int32))), .unset, .unset, .unset, .unset, .unset, .unset] [(.int p4)])) _
    refine XS.bipush X0.here hx rfl (hb hby at_18) ?_
    show Steps p.tables e below (s₁.setTop (mkF m 20 #[.val (.int p1), .val (.int p2), .val (.int p3), .val (.int p4), .val (.int p5), .val (.int (2 : Int32)), .val (.int (p2 &&& (31 : Int32))), .val (.int (p3 &&& (31 : Int32))), .unset, .unset, .unset, .unset, .unset, .unset] [(.int (31 : Int32)), (.int p4)])) _
    refine XS.iand X0.here hx rfl (hb hby at_20) rfl ?_
    show Steps p.tables e below (s₁.setTop (mkF m 21 #[.val (.int p1), .val (.int p2), .val (.int p3), .val (.int p4), .val (.int p5), .val (.int (2 : Int32)), .val (.int (p2 &&& (31 : Int32))), .val (.int (p3 &&& (31 : Int32))), .unset, .unset, .unset, .unset, .unset, .unset] [(.int (p4 &&& (31 : Int32)))])) _
    refine XS.istore X0.here hx rfl (hb hby at_21) rfl (l' := #[.val (.int p1), .val (.int p2), .val (.int p3), .val (.int p4), .val (.int p5), .val (.int (2 : Int32)), .val (.int (p2 &&& (31 : Int32))), .val (.int (p3 &&& (31 : Int32))), .val (.int (p4 &&& (31 : Int32))), .unset, .unset, .unset, .unset, .unset]) rfl ?_
    show Steps p.tables e below (s₁.setTop (mkF m 23 #[.val (.int p1), .val (.int p2), .val (.int p3), .val (.int p4), .val (.int p5), .val (.int (2 : Int32)), .val (.int (p2 &&& (31 : Int32))), .val (.int (p3 &&& (31 : Int32))), .val (.int (p4 &&& (31 : Int32))), .unset, .unset, .unset, .unset, .unset] [])) _
    refine XS.iload X0.here hx rfl (hb hby at_23) rfl ?_
    show Steps p.tables e below (s₁.setTop (mkF m 25 #[.val (.int p1), .val (.int p2), .val (.int p3), .val (.int p4), .val (.int p5), .val (.int (2 : Int32)), .val (.int (p2 &&& (31 : Int32))), .val (.int (p3 &&& (31 : Int32))), .val (.int (p4 &&& (31 : Int32))), .unset, .unset, .unset, .unset, .unset] [(.int p5)])) _
    refine XS.bipush X0.here hx rfl (hb hby at_25) ?_
    show Steps p.tables e below (s₁.setTop (mkF m 27 #[.val (.int p1), .val (.int p2), .val (.int p3), .val (.int p4), .val (.int p5), .val (.int (2 : Int32)), .val (.int (p2 &&& (31 : Int32))), .val (.int (p3 &&& (31 : Int32))), .val (.int (p4 &&& (31 : Int32))), .unset, .unset, .unset, .unset, .unset] [(.int (31 : Int32)), (.int p5)])) _
    refine XS.iand X0.here hx rfl (hb hby at_27) rfl ?_
    show Steps p.tables e below (s₁.setTop (mkF m 28 #[.val (.int p1), .val (.int p2), .val (.int p3), .val (.int p4), .val (.int p5), .val (.int (2 : Int32)), .val (.int (p2 &&& (31 : Int32))), .val (.int (p3 &&& (31 : Int32))), .val (.int (p4 &&& (31 : Int32))), .unset, .unset, .unset, .unset, .unset] [(.int (p5 &&& (31 : Int32)))])) _
    refine XS.istore X0.here hx rfl (hb hby at_28) rfl (l' := #[.val (.int p1), .val (.int p2), .val (.int p3), .val (.int p4), .val (.int p5), .val (.int (2 : Int32)), .val (.int (p2 &&& (31 : Int32))), .val (.int (p3 &&& (31 : Int32))), .val (.int (p4 &&& (31 : Int32))), .val (.int (p5 &&& (31 : Int32))), .unset, .unset, .unset, .unset]) rfl ?_
    show Steps p.tables e below (s₁.setTop (mkF m 30 #[.val (.int p1), .val (.int p2), .val (.int p3), .val (.int p4), .val (.int p5), .val (.int (2 : Int32)), .val (.int (p2 &&& (31 : Int32))), .val (.int (p3 &&& (31 : Int32))), .val (.int (p4 &&& (31 : Int32))), .val (.int (p5 &&& (31 : Int32))), .unset, .unset, .unset, .unset] [])) _
    refine XS.iload X0.here hx rfl (hb hby at_30) rfl ?_
    show Steps p.tables e below (s₁.setTop (mkF m 32 #[.val (.int p1), .val (.int p2), .val (.int p3), .val (.int p4), .val (.int p5), .val (.int (2 : Int32)), .val (.int (p2 &&& (31 : Int32))), .val (.int (p3 &&& (31 : Int32))), .val (.int (p4 &&& (31 : Int32))), .val (.int (p5 &&& (31 : Int32))), .unset, .unset, .unset, .unset] [(.int (2 : Int32))])) _
    refine st6 _ ?_
    show Steps p.tables e below (T6.setTop (mkF m 34 #[.val (.int p1), .val (.int p2), .val (.int p3), .val (.int p4), .val (.int p5), .val (.int (2 : Int32)), .val (.int (p2 &&& (31 : Int32))), .val (.int (p3 &&& (31 : Int32))), .val (.int (p4 &&& (31 : Int32))), .val (.int (p5 &&& (31 : Int32))), .unset, .unset, .unset, .unset] [(.ref b6)])) _
    refine XS.astore X6.here hx rfl (hb hby at_34) rfl rfl (l' := #[.val (.int p1), .val (.int p2), .val (.int p3), .val (.int p4), .val (.int p5), .val (.int (2 : Int32)), .val (.int (p2 &&& (31 : Int32))), .val (.int (p3 &&& (31 : Int32))), .val (.int (p4 &&& (31 : Int32))), .val (.int (p5 &&& (31 : Int32))), .val (.ref b6), .unset, .unset, .unset]) rfl ?_
    show Steps p.tables e below (T6.setTop (mkF m 36 #[.val (.int p1), .val (.int p2), .val (.int p3), .val (.int p4), .val (.int p5), .val (.int (2 : Int32)), .val (.int (p2 &&& (31 : Int32))), .val (.int (p3 &&& (31 : Int32))), .val (.int (p4 &&& (31 : Int32))), .val (.int (p5 &&& (31 : Int32))), .val (.ref b6), .unset, .unset, .unset] [])) _
    refine XS.iload X6.here hx rfl (hb hby at_36) rfl ?_
    show Steps p.tables e below (T6.setTop (mkF m 38 #[.val (.int p1), .val (.int p2), .val (.int p3), .val (.int p4), .val (.int p5), .val (.int (2 : Int32)), .val (.int (p2 &&& (31 : Int32))), .val (.int (p3 &&& (31 : Int32))), .val (.int (p4 &&& (31 : Int32))), .val (.int (p5 &&& (31 : Int32))), .val (.ref b6), .unset, .unset, .unset] [(.int (2 : Int32))])) _
    refine XS.iconst X6.here hx rfl (hb hby at_38) ?_
    show Steps p.tables e below (T6.setTop (mkF m 39 #[.val (.int p1), .val (.int p2), .val (.int p3), .val (.int p4), .val (.int p5), .val (.int (2 : Int32)), .val (.int (p2 &&& (31 : Int32))), .val (.int (p3 &&& (31 : Int32))), .val (.int (p4 &&& (31 : Int32))), .val (.int (p5 &&& (31 : Int32))), .val (.ref b6), .unset, .unset, .unset] [(.int (1 : Int32)), (.int (2 : Int32))])) _
    refine XS.icmpNo X6.here hx rfl (hb hby at_39) rfl (flt hc39).1 ?_
    show Steps p.tables e below (T6.setTop (mkF m 42 #[.val (.int p1), .val (.int p2), .val (.int p3), .val (.int p4), .val (.int p5), .val (.int (2 : Int32)), .val (.int (p2 &&& (31 : Int32))), .val (.int (p3 &&& (31 : Int32))), .val (.int (p4 &&& (31 : Int32))), .val (.int (p5 &&& (31 : Int32))), .val (.ref b6), .unset, .unset, .unset] [])) _
    refine XS.aload X6.here hx rfl (hb hby at_42) rfl rfl ?_
    show Steps p.tables e below (T6.setTop (mkF m 44 #[.val (.int p1), .val (.int p2), .val (.int p3), .val (.int p4), .val (.int p5), .val (.int (2 : Int32)), .val (.int (p2 &&& (31 : Int32))), .val (.int (p3 &&& (31 : Int32))), .val (.int (p4 &&& (31 : Int32))), .val (.int (p5 &&& (31 : Int32))), .val (.ref b6), .unset, .unset, .unset] [(.ref b6)])) _
    refine XS.iconst X6.here hx rfl (hb hby at_44) ?_
    show Steps p.tables e below (T6.setTop (mkF m 45 #[.val (.int p1), .val (.int p2), .val (.int p3), .val (.int p4), .val (.int p5), .val (.int (2 : Int32)), .val (.int (p2 &&& (31 : Int32))), .val (.int (p3 &&& (31 : Int32))), .val (.int (p4 &&& (31 : Int32))), .val (.int (p5 &&& (31 : Int32))), .val (.ref b6), .unset, .unset, .unset] [(.int (0 : Int32)), (.ref b6)])) _
    refine XS.iload X6.here hx rfl (hb hby at_45) rfl ?_
    show Steps p.tables e below (T6.setTop (mkF m 47 #[.val (.int p1), .val (.int p2), .val (.int p3), .val (.int p4), .val (.int p5), .val (.int (2 : Int32)), .val (.int (p2 &&& (31 : Int32))), .val (.int (p3 &&& (31 : Int32))), .val (.int (p4 &&& (31 : Int32))), .val (.int (p5 &&& (31 : Int32))), .val (.ref b6), .unset, .unset, .unset] [(.int (p2 &&& (31 : Int32))), (.int (0 : Int32)), (.ref b6)])) _
    refine st7 _ ?_
    show Steps p.tables e below (T7.setTop (mkF m 48 #[.val (.int p1), .val (.int p2), .val (.int p3), .val (.int p4), .val (.int p5), .val (.int (2 : Int32)), .val (.int (p2 &&& (31 : Int32))), .val (.int (p3 &&& (31 : Int32))), .val (.int (p4 &&& (31 : Int32))), .val (.int (p5 &&& (31 : Int32))), .val (.ref b6), .unset, .unset, .unset] [])) _
    refine XS.iload X7.here hx rfl (hb hby at_48) rfl ?_
    show Steps p.tables e below (T7.setTop (mkF m 50 #[.val (.int p1), .val (.int p2), .val (.int p3), .val (.int p4), .val (.int p5), .val (.int (2 : Int32)), .val (.int (p2 &&& (31 : Int32))), .val (.int (p3 &&& (31 : Int32))), .val (.int (p4 &&& (31 : Int32))), .val (.int (p5 &&& (31 : Int32))), .val (.ref b6), .unset, .unset, .unset] [(.int (2 : Int32))])) _
    refine XS.iconst X7.here hx rfl (hb hby at_50) ?_
    show Steps p.tables e below (T7.setTop (mkF m 51 #[.val (.int p1), .val (.int p2), .val (.int p3), .val (.int p4), .val (.int p5), .val (.int (2 : Int32)), .val (.int (p2 &&& (31 : Int32))), .val (.int (p3 &&& (31 : Int32))), .val (.int (p4 &&& (31 : Int32))), .val (.int (p5 &&& (31 : Int32))), .val (.ref b6), .unset, .unset, .unset] [(.int (2 : Int32)), (.int (2 : Int32))])) _
    refine XS.icmpNo X7.here hx rfl (hb hby at_51) rfl (flt hc51).1 ?_
    show Steps p.tables e below (T7.setTop (mkF m 54 #[.val (.int p1), .val (.int p2), .val (.int p3), .val (.int p4), .val (.int p5), .val (.int (2 : Int32)), .val (.int (p2 &&& (31 : Int32))), .val (.int (p3 &&& (31 : Int32))), .val (.int (p4 &&& (31 : Int32))), .val (.int (p5 &&& (31 : Int32))), .val (.ref b6), .unset, .unset, .unset] [])) _
    refine XS.aload X7.here hx rfl (hb hby at_54) rfl rfl ?_
    show Steps p.tables e below (T7.setTop (mkF m 56 #[.val (.int p1), .val (.int p2), .val (.int p3), .val (.int p4), .val (.int p5), .val (.int (2 : Int32)), .val (.int (p2 &&& (31 : Int32))), .val (.int (p3 &&& (31 : Int32))), .val (.int (p4 &&& (31 : Int32))), .val (.int (p5 &&& (31 : Int32))), .val (.ref b6), .unset, .unset, .unset] [(.ref b6)])) _
    refine XS.iconst X7.here hx rfl (hb hby at_56) ?_
    show Steps p.tables e below (T7.setTop (mkF m 57 #[.val (.int p1), .val (.int p2), .val (.int p3), .val (.int p4), .val (.int p5), .val (.int (2 : Int32)), .val (.int (p2 &&& (31 : Int32))), .val (.int (p3 &&& (31 : Int32))), .val (.int (p4 &&& (31 : Int32))), .val (.int (p5 &&& (31 : Int32))), .val (.ref b6), .unset, .unset, .unset] [(.int (1 : Int32)), (.ref b6)])) _
    refine XS.iload X7.here hx rfl (hb hby at_57) rfl ?_
    show Steps p.tables e below (T7.setTop (mkF m 59 #[.val (.int p1), .val (.int p2), .val (.int p3), .val (.int p4), .val (.int p5), .val (.int (2 : Int32)), .val (.int (p2 &&& (31 : Int32))), .val (.int (p3 &&& (31 : Int32))), .val (.int (p4 &&& (31 : Int32))), .val (.int (p5 &&& (31 : Int32))), .val (.ref b6), .unset, .unset, .unset] [(.int (p3 &&& (31 : Int32))), (.int (1 : Int32)), (.ref b6)])) _
    refine st8 _ ?_
    show Steps p.tables e below (T8.setTop (mkF m 60 #[.val (.int p1), .val (.int p2), .val (.int p3), .val (.int p4), .val (.int p5), .val (.int (2 : Int32)), .val (.int (p2 &&& (31 : Int32))), .val (.int (p3 &&& (31 : Int32))), .val (.int (p4 &&& (31 : Int32))), .val (.int (p5 &&& (31 : Int32))), .val (.ref b6), .unset, .unset, .unset] [])) _
    refine XS.iload X8.here hx rfl (hb hby at_60) rfl ?_
    show Steps p.tables e below (T8.setTop (mkF m 62 #[.val (.int p1), .val (.int p2), .val (.int p3), .val (.int p4), .val (.int p5), .val (.int (2 : Int32)), .val (.int (p2 &&& (31 : Int32))), .val (.int (p3 &&& (31 : Int32))), .val (.int (p4 &&& (31 : Int32))), .val (.int (p5 &&& (31 : Int32))), .val (.ref b6), .unset, .unset, .unset] [(.int (2 : Int32))])) _
    refine XS.iconst X8.here hx rfl (hb hby at_62) ?_
    show Steps p.tables e below (T8.setTop (mkF m 63 #[.val (.int p1), .val (.int p2), .val (.int p3), .val (.int p4), .val (.int p5), .val (.int (2 : Int32)), .val (.int (p2 &&& (31 : Int32))), .val (.int (p3 &&& (31 : Int32))), .val (.int (p4 &&& (31 : Int32))), .val (.int (p5 &&& (31 : Int32))), .val (.ref b6), .unset, .unset, .unset] [(.int (3 : Int32)), (.int (2 : Int32))])) _
    refine XS.icmpYes X8.here hx rfl (pc0 := 63) (pc' := 72) rfl (hb hby at_63) rfl (tlt hc63).1 (by decide) (by decide) ?_
    show Steps p.tables e below (T8.setTop (mkF m 72 #[.val (.int p1), .val (.int p2), .val (.int p3), .val (.int p4), .val (.int p5), .val (.int (2 : Int32)), .val (.int (p2 &&& (31 : Int32))), .val (.int (p3 &&& (31 : Int32))), .val (.int (p4 &&& (31 : Int32))), .val (.int (p5 &&& (31 : Int32))), .val (.ref b6), .unset, .unset, .unset] [])) _
    refine XS.aload X8.here hx rfl (hb hby at_72) rfl rfl ?_
    show Steps p.tables e below (T8.setTop (mkF m 74 #[.val (.int p1), .val (.int p2), .val (.int p3), .val (.int p4), .val (.int p5), .val (.int (2 : Int32)), .val (.int (p2 &&& (31 : Int32))), .val (.int (p3 &&& (31 : Int32))), .val (.int (p4 &&& (31 : Int32))), .val (.int (p5 &&& (31 : Int32))), .val (.ref b6), .unset, .unset, .unset] [(.ref b6)])) _
    refine st9 _ ?_
    show Steps p.tables e below (T9.setTop (mkF m 77 #[.val (.int p1), .val (.int p2), .val (.int p3), .val (.int p4), .val (.int p5), .val (.int (2 : Int32)), .val (.int (p2 &&& (31 : Int32))), .val (.int (p3 &&& (31 : Int32))), .val (.int (p4 &&& (31 : Int32))), .val (.int (p5 &&& (31 : Int32))), .val (.ref b6), .unset, .unset, .unset] [(.int (own_u2 (p2 &&& (31 : Int32)) (p3 &&& (31 : Int32))))])) _
    refine XS.istore X9.here hx rfl (hb hby at_77) rfl (l' := #[.val (.int p1), .val (.int p2), .val (.int p3), .val (.int p4), .val (.int p5), .val (.int (2 : Int32)), .val (.int (p2 &&& (31 : Int32))), .val (.int (p3 &&& (31 : Int32))), .val (.int (p4 &&& (31 : Int32))), .val (.int (p5 &&& (31 : Int32))), .val (.ref b6), .val (.int (own_u2 (p2 &&& (31 : Int32)) (p3 &&& (31 : Int32)))), .unset, .unset]) rfl ?_
    show Steps p.tables e below (T9.setTop (mkF m 79 #[.val (.int p1), .val (.int p2), .val (.int p3), .val (.int p4), .val (.int p5), .val (.int (2 : Int32)), .val (.int (p2 &&& (31 : Int32))), .val (.int (p3 &&& (31 : Int32))), .val (.int (p4 &&& (31 : Int32))), .val (.int (p5 &&& (31 : Int32))), .val (.ref b6), .val (.int (own_u2 (p2 &&& (31 : Int32)) (p3 &&& (31 : Int32)))), .unset, .unset] [])) _
    refine XS.iload X9.here hx rfl (hb hby at_79) rfl ?_
    show Steps p.tables e below (T9.setTop (mkF m 81 #[.val (.int p1), .val (.int p2), .val (.int p3), .val (.int p4), .val (.int p5), .val (.int (2 : Int32)), .val (.int (p2 &&& (31 : Int32))), .val (.int (p3 &&& (31 : Int32))), .val (.int (p4 &&& (31 : Int32))), .val (.int (p5 &&& (31 : Int32))), .val (.ref b6), .val (.int (own_u2 (p2 &&& (31 : Int32)) (p3 &&& (31 : Int32)))), .unset, .unset] [(.int (2 : Int32))])) _
    refine XS.iconst X9.here hx rfl (hb hby at_81) ?_
    show Steps p.tables e below (T9.setTop (mkF m 82 #[.val (.int p1), .val (.int p2), .val (.int p3), .val (.int p4), .val (.int p5), .val (.int (2 : Int32)), .val (.int (p2 &&& (31 : Int32))), .val (.int (p3 &&& (31 : Int32))), .val (.int (p4 &&& (31 : Int32))), .val (.int (p5 &&& (31 : Int32))), .val (.ref b6), .val (.int (own_u2 (p2 &&& (31 : Int32)) (p3 &&& (31 : Int32)))), .unset, .unset] [(.int (1 : Int32)), (.int (2 : Int32))])) _
    refine XS.icmpNo X9.here hx rfl (hb hby at_82) rfl (flt hc82).1 ?_
    show Steps p.tables e below (T9.setTop (mkF m 85 #[.val (.int p1), .val (.int p2), .val (.int p3), .val (.int p4), .val (.int p5), .val (.int (2 : Int32)), .val (.int (p2 &&& (31 : Int32))), .val (.int (p3 &&& (31 : Int32))), .val (.int (p4 &&& (31 : Int32))), .val (.int (p5 &&& (31 : Int32))), .val (.ref b6), .val (.int (own_u2 (p2 &&& (31 : Int32)) (p3 &&& (31 : Int32)))), .unset, .unset] [])) _
    refine XS.iload X9.here hx rfl (hb hby at_85) rfl ?_
    show Steps p.tables e below (T9.setTop (mkF m 87 #[.val (.int p1), .val (.int p2), .val (.int p3), .val (.int p4), .val (.int p5), .val (.int (2 : Int32)), .val (.int (p2 &&& (31 : Int32))), .val (.int (p3 &&& (31 : Int32))), .val (.int (p4 &&& (31 : Int32))), .val (.int (p5 &&& (31 : Int32))), .val (.ref b6), .val (.int (own_u2 (p2 &&& (31 : Int32)) (p3 &&& (31 : Int32)))), .unset, .unset] [(.int (p5 &&& (31 : Int32)))])) _
    refine XS.iload X9.here hx rfl (hb hby at_87) rfl ?_
    show Steps p.tables e below (T9.setTop (mkF m 89 #[.val (.int p1), .val (.int p2), .val (.int p3), .val (.int p4), .val (.int p5), .val (.int (2 : Int32)), .val (.int (p2 &&& (31 : Int32))), .val (.int (p3 &&& (31 : Int32))), .val (.int (p4 &&& (31 : Int32))), .val (.int (p5 &&& (31 : Int32))), .val (.ref b6), .val (.int (own_u2 (p2 &&& (31 : Int32)) (p3 &&& (31 : Int32)))), .unset, .unset] [(.int (p2 &&& (31 : Int32))), (.int (p5 &&& (31 : Int32)))])) _
    refine XS.icmpYes X9.here hx rfl (pc0 := 89) (pc' := 118) rfl (hb hby at_89) rfl (teq hc89).1 (by decide) (by decide) ?_
    show Steps p.tables e below (T9.setTop (mkF m 118 #[.val (.int p1), .val (.int p2), .val (.int p3), .val (.int p4), .val (.int p5), .val (.int (2 : Int32)), .val (.int (p2 &&& (31 : Int32))), .val (.int (p3 &&& (31 : Int32))), .val (.int (p4 &&& (31 : Int32))), .val (.int (p5 &&& (31 : Int32))), .val (.ref b6), .val (.int (own_u2 (p2 &&& (31 : Int32)) (p3 &&& (31 : Int32)))), .unset, .unset] [])) _
    refine XS.iconst X9.here hx rfl (hb hby at_118) ?_
    show Steps p.tables e below (T9.setTop (mkF m 119 #[.val (.int p1), .val (.int p2), .val (.int p3), .val (.int p4), .val (.int p5), .val (.int (2 : Int32)), .val (.int (p2 &&& (31 : Int32))), .val (.int (p3 &&& (31 : Int32))), .val (.int (p4 &&& (31 : Int32))), .val (.int (p5 &&& (31 : Int32))), .val (.ref b6), .val (.int (own_u2 (p2 &&& (31 : Int32)) (p3 &&& (31 : Int32)))), .unset, .unset] [(.int (1 : Int32))])) _
    refine XS.goto X9.here hx rfl (pc0 := 119) (pc' := 123) rfl (hb hby at_119) (by decide) (by decide) ?_
    show Steps p.tables e below (T9.setTop (mkF m 123 #[.val (.int p1), .val (.int p2), .val (.int p3), .val (.int p4), .val (.int p5), .val (.int (2 : Int32)), .val (.int (p2 &&& (31 : Int32))), .val (.int (p3 &&& (31 : Int32))), .val (.int (p4 &&& (31 : Int32))), .val (.int (p5 &&& (31 : Int32))), .val (.ref b6), .val (.int (own_u2 (p2 &&& (31 : Int32)) (p3 &&& (31 : Int32)))), .unset, .unset] [(.int (1 : Int32))])) _
    refine XS.istore X9.here hx rfl (hb hby at_123) rfl (l' := #[.val (.int p1), .val (.int p2), .val (.int p3), .val (.int p4), .val (.int p5), .val (.int (2 : Int32)), .val (.int (p2 &&& (31 : Int32))), .val (.int (p3 &&& (31 : Int32))), .val (.int (p4 &&& (31 : Int32))), .val (.int (p5 &&& (31 : Int32))), .val (.ref b6), .val (.int (own_u2 (p2 &&& (31 : Int32)) (p3 &&& (31 : Int32)))), .val (.int (1 : Int32)), .unset]) rfl ?_
    show Steps p.tables e below (T9.setTop (mkF m 125 #[.val (.int p1), .val (.int p2), .val (.int p3), .val (.int p4), .val (.int p5), .val (.int (2 : Int32)), .val (.int (p2 &&& (31 : Int32))), .val (.int (p3 &&& (31 : Int32))), .val (.int (p4 &&& (31 : Int32))), .val (.int (p5 &&& (31 : Int32))), .val (.ref b6), .val (.int (own_u2 (p2 &&& (31 : Int32)) (p3 &&& (31 : Int32)))), .val (.int (1 : Int32)), .unset] [])) _
    refine XS.iload X9.here hx rfl (hb hby at_125) rfl ?_
    show Steps p.tables e below (T9.setTop (mkF m 127 #[.val (.int p1), .val (.int p2), .val (.int p3), .val (.int p4), .val (.int p5), .val (.int (2 : Int32)), .val (.int (p2 &&& (31 : Int32))), .val (.int (p3 &&& (31 : Int32))), .val (.int (p4 &&& (31 : Int32))), .val (.int (p5 &&& (31 : Int32))), .val (.ref b6), .val (.int (own_u2 (p2 &&& (31 : Int32)) (p3 &&& (31 : Int32)))), .val (.int (1 : Int32)), .unset] [(.int (own_u2 (p2 &&& (31 : Int32)) (p3 &&& (31 : Int32))))])) _
    refine XS.iload X9.here hx rfl (hb hby at_127) rfl ?_
    show Steps p.tables e below (T9.setTop (mkF m 129 #[.val (.int p1), .val (.int p2), .val (.int p3), .val (.int p4), .val (.int p5), .val (.int (2 : Int32)), .val (.int (p2 &&& (31 : Int32))), .val (.int (p3 &&& (31 : Int32))), .val (.int (p4 &&& (31 : Int32))), .val (.int (p5 &&& (31 : Int32))), .val (.ref b6), .val (.int (own_u2 (p2 &&& (31 : Int32)) (p3 &&& (31 : Int32)))), .val (.int (1 : Int32)), .unset] [(.int (p5 &&& (31 : Int32))), (.int (own_u2 (p2 &&& (31 : Int32)) (p3 &&& (31 : Int32))))])) _
    refine XS.iushr X9.here hx rfl (hb hby at_129) rfl ?_
    show Steps p.tables e below (T9.setTop (mkF m 130 #[.val (.int p1), .val (.int p2), .val (.int p3), .val (.int p4), .val (.int p5), .val (.int (2 : Int32)), .val (.int (p2 &&& (31 : Int32))), .val (.int (p3 &&& (31 : Int32))), .val (.int (p4 &&& (31 : Int32))), .val (.int (p5 &&& (31 : Int32))), .val (.ref b6), .val (.int (own_u2 (p2 &&& (31 : Int32)) (p3 &&& (31 : Int32)))), .val (.int (1 : Int32)), .unset] [(.int (((own_u2 (p2 &&& (31 : Int32)) (p3 &&& (31 : Int32))).toUInt32 >>> ((p5 &&& (31 : Int32)) &&& 31).toUInt32).toInt32))])) _
    refine XS.iconst X9.here hx rfl (hb hby at_130) ?_
    show Steps p.tables e below (T9.setTop (mkF m 131 #[.val (.int p1), .val (.int p2), .val (.int p3), .val (.int p4), .val (.int p5), .val (.int (2 : Int32)), .val (.int (p2 &&& (31 : Int32))), .val (.int (p3 &&& (31 : Int32))), .val (.int (p4 &&& (31 : Int32))), .val (.int (p5 &&& (31 : Int32))), .val (.ref b6), .val (.int (own_u2 (p2 &&& (31 : Int32)) (p3 &&& (31 : Int32)))), .val (.int (1 : Int32)), .unset] [(.int (1 : Int32)), (.int (((own_u2 (p2 &&& (31 : Int32)) (p3 &&& (31 : Int32))).toUInt32 >>> ((p5 &&& (31 : Int32)) &&& 31).toUInt32).toInt32))])) _
    refine XS.iand X9.here hx rfl (hb hby at_131) rfl ?_
    show Steps p.tables e below (T9.setTop (mkF m 132 #[.val (.int p1), .val (.int p2), .val (.int p3), .val (.int p4), .val (.int p5), .val (.int (2 : Int32)), .val (.int (p2 &&& (31 : Int32))), .val (.int (p3 &&& (31 : Int32))), .val (.int (p4 &&& (31 : Int32))), .val (.int (p5 &&& (31 : Int32))), .val (.ref b6), .val (.int (own_u2 (p2 &&& (31 : Int32)) (p3 &&& (31 : Int32)))), .val (.int (1 : Int32)), .unset] [(.int ((((own_u2 (p2 &&& (31 : Int32)) (p3 &&& (31 : Int32))).toUInt32 >>> ((p5 &&& (31 : Int32)) &&& 31).toUInt32).toInt32) &&& (1 : Int32)))])) _
    refine XS.ifNo X9.here hx rfl (hb hby at_132) rfl ((if0 _ _).trans (feq hc132).1) ?_
    show Steps p.tables e below (T9.setTop (mkF m 135 #[.val (.int p1), .val (.int p2), .val (.int p3), .val (.int p4), .val (.int p5), .val (.int (2 : Int32)), .val (.int (p2 &&& (31 : Int32))), .val (.int (p3 &&& (31 : Int32))), .val (.int (p4 &&& (31 : Int32))), .val (.int (p5 &&& (31 : Int32))), .val (.ref b6), .val (.int (own_u2 (p2 &&& (31 : Int32)) (p3 &&& (31 : Int32)))), .val (.int (1 : Int32)), .unset] [])) _
    refine XS.iconst X9.here hx rfl (hb hby at_135) ?_
    show Steps p.tables e below (T9.setTop (mkF m 136 #[.val (.int p1), .val (.int p2), .val (.int p3), .val (.int p4), .val (.int p5), .val (.int (2 : Int32)), .val (.int (p2 &&& (31 : Int32))), .val (.int (p3 &&& (31 : Int32))), .val (.int (p4 &&& (31 : Int32))), .val (.int (p5 &&& (31 : Int32))), .val (.ref b6), .val (.int (own_u2 (p2 &&& (31 : Int32)) (p3 &&& (31 : Int32)))), .val (.int (1 : Int32)), .unset] [(.int (1 : Int32))])) _
    refine XS.goto X9.here hx rfl (pc0 := 136) (pc' := 140) rfl (hb hby at_136) (by decide) (by decide) ?_
    show Steps p.tables e below (T9.setTop (mkF m 140 #[.val (.int p1), .val (.int p2), .val (.int p3), .val (.int p4), .val (.int p5), .val (.int (2 : Int32)), .val (.int (p2 &&& (31 : Int32))), .val (.int (p3 &&& (31 : Int32))), .val (.int (p4 &&& (31 : Int32))), .val (.int (p5 &&& (31 : Int32))), .val (.ref b6), .val (.int (own_u2 (p2 &&& (31 : Int32)) (p3 &&& (31 : Int32)))), .val (.int (1 : Int32)), .unset] [(.int (1 : Int32))])) _
    refine XS.istore X9.here hx rfl (hb hby at_140) rfl (l' := #[.val (.int p1), .val (.int p2), .val (.int p3), .val (.int p4), .val (.int p5), .val (.int (2 : Int32)), .val (.int (p2 &&& (31 : Int32))), .val (.int (p3 &&& (31 : Int32))), .val (.int (p4 &&& (31 : Int32))), .val (.int (p5 &&& (31 : Int32))), .val (.ref b6), .val (.int (own_u2 (p2 &&& (31 : Int32)) (p3 &&& (31 : Int32)))), .val (.int (1 : Int32)), .val (.int (1 : Int32))]) rfl ?_
    show Steps p.tables e below (T9.setTop (mkF m 142 #[.val (.int p1), .val (.int p2), .val (.int p3), .val (.int p4), .val (.int p5), .val (.int (2 : Int32)), .val (.int (p2 &&& (31 : Int32))), .val (.int (p3 &&& (31 : Int32))), .val (.int (p4 &&& (31 : Int32))), .val (.int (p5 &&& (31 : Int32))), .val (.ref b6), .val (.int (own_u2 (p2 &&& (31 : Int32)) (p3 &&& (31 : Int32)))), .val (.int (1 : Int32)), .val (.int (1 : Int32))] [])) _
    refine XS.iload X9.here hx rfl (hb hby at_142) rfl ?_
    show Steps p.tables e below (T9.setTop (mkF m 144 #[.val (.int p1), .val (.int p2), .val (.int p3), .val (.int p4), .val (.int p5), .val (.int (2 : Int32)), .val (.int (p2 &&& (31 : Int32))), .val (.int (p3 &&& (31 : Int32))), .val (.int (p4 &&& (31 : Int32))), .val (.int (p5 &&& (31 : Int32))), .val (.ref b6), .val (.int (own_u2 (p2 &&& (31 : Int32)) (p3 &&& (31 : Int32)))), .val (.int (1 : Int32)), .val (.int (1 : Int32))] [(.int (1 : Int32))])) _
    refine XS.iload X9.here hx rfl (hb hby at_144) rfl ?_
    show Steps p.tables e below (T9.setTop (mkF m 146 #[.val (.int p1), .val (.int p2), .val (.int p3), .val (.int p4), .val (.int p5), .val (.int (2 : Int32)), .val (.int (p2 &&& (31 : Int32))), .val (.int (p3 &&& (31 : Int32))), .val (.int (p4 &&& (31 : Int32))), .val (.int (p5 &&& (31 : Int32))), .val (.ref b6), .val (.int (own_u2 (p2 &&& (31 : Int32)) (p3 &&& (31 : Int32)))), .val (.int (1 : Int32)), .val (.int (1 : Int32))] [(.int (1 : Int32)), (.int (1 : Int32))])) _
    refine XS.icmpNo X9.here hx rfl (hb hby at_146) rfl (teq (rfl : (1 : Int32) = (1 : Int32))).2 ?_
    show Steps p.tables e below (T9.setTop (mkF m 149 #[.val (.int p1), .val (.int p2), .val (.int p3), .val (.int p4), .val (.int p5), .val (.int (2 : Int32)), .val (.int (p2 &&& (31 : Int32))), .val (.int (p3 &&& (31 : Int32))), .val (.int (p4 &&& (31 : Int32))), .val (.int (p5 &&& (31 : Int32))), .val (.ref b6), .val (.int (own_u2 (p2 &&& (31 : Int32)) (p3 &&& (31 : Int32)))), .val (.int (1 : Int32)), .val (.int (1 : Int32))] [])) _
    refine XS.iconst X9.here hx rfl (hb hby at_149) ?_
    show Steps p.tables e below (T9.setTop (mkF m 150 #[.val (.int p1), .val (.int p2), .val (.int p3), .val (.int p4), .val (.int p5), .val (.int (2 : Int32)), .val (.int (p2 &&& (31 : Int32))), .val (.int (p3 &&& (31 : Int32))), .val (.int (p4 &&& (31 : Int32))), .val (.int (p5 &&& (31 : Int32))), .val (.ref b6), .val (.int (own_u2 (p2 &&& (31 : Int32)) (p3 &&& (31 : Int32)))), .val (.int (1 : Int32)), .val (.int (1 : Int32))] [(.int (1 : Int32))])) _
    refine XS.goto X9.here hx rfl (pc0 := 150) (pc' := 154) rfl (hb hby at_150) (by decide) (by decide) ?_
    show Steps p.tables e below (T9.setTop (mkF m 154 #[.val (.int p1), .val (.int p2), .val (.int p3), .val (.int p4), .val (.int p5), .val (.int (2 : Int32)), .val (.int (p2 &&& (31 : Int32))), .val (.int (p3 &&& (31 : Int32))), .val (.int (p4 &&& (31 : Int32))), .val (.int (p5 &&& (31 : Int32))), .val (.ref b6), .val (.int (own_u2 (p2 &&& (31 : Int32)) (p3 &&& (31 : Int32)))), .val (.int (1 : Int32)), .val (.int (1 : Int32))] [(.int (1 : Int32))])) _
    exact retN X9 hx (t := .boolean) Bd.returns (by simp) (hb hby at_154) hr
  · show own_Q0 h0 n0 _ T9.heap _
    rw [e9]
    exact ⟨rfl, N9⟩
set_option maxRecDepth 65536 in
set_option maxHeartbeats 40000000 in
theorem own_rm0_2_1 (l : Launch) (Z : State) (a0 : Array Value) (hw : ∀ d ∈ tables_1, d.before a0 Z = true) (ws : List Jvm.Cond) (p1 : Int32) (p2 : Int32) (p3 : Int32) (p4 : Int32) (p5 : Int32) (h0 : Heap) (n0 : Nat) (Z0 : n0 ≤ h0.size) (hn : (p1 &&& (3 : Int32)) = (2 : Int32)) (hc39 : ¬ ((2 : Int32) < (1 : Int32))) (hc51 : ¬ ((2 : Int32) < (2 : Int32))) (hc63 : (2 : Int32) < (3 : Int32)) (hc82 : ¬ ((2 : Int32) < (1 : Int32))) (hc89 : ¬ ((p5 &&& (31 : Int32)) = (p2 &&& (31 : Int32)))) (hc95 : ¬ ((2 : Int32) < (2 : Int32))) (hc102 : (p5 &&& (31 : Int32)) = (p3 &&& (31 : Int32))) (hc132 : ¬ (((((own_u2 (p2 &&& (31 : Int32)) (p3 &&& (31 : Int32))).toUInt32 >>> ((p5 &&& (31 : Int32)) &&& 31).toUInt32).toInt32) &&& (1 : Int32)) = (0 : Int32))) :
    MetFree l x (head1 (Jvm.Cond.code x code maxLocals ret :: ws) room_1) (fun a U => a = #[(.int p1), (.int p2), (.int p3), (.int p4), (.int p5)] ∧ Z.Warmed39 U.vm ∧ U.heap = h0) (fun _ _ _ _ _ => True) (fun _ U o U' => ∃ v L, o = .returned v ∧ own_Q0 h0 n0 v U'.heap L ∧ FrameEnd U o U' L room_1.cells room_1.slots) := by
  refine MetFree.of_bodySF (plainFor_of_name pn_0) hisR ?_
  intro p e s m args below meth c s₁ Bd hml0 hP hK
  obtain ⟨rfl, hZ, hh⟩ := hP
  have hx := Bd.exec
  have hby := Bd.bytes
  have hml : c.maxLocals = 14 := hml0
  have hown : s.vm.findClass "com/example/sundew/sundew/text/BreakPropertiesBitsPinLaw" = some m.cls := findClass_of_methodNamed Bd.named
  have hnm := (name_of_methodNamed Bd.named Bd.method).1
  have X0 : Stand p l e room_1 s m #[(.int p1), (.int p2), (.int p3), (.int p4), (.int p5)] below meth c s₁ [] 0 0 := Stand.of_body Bd
  have e0 : s₁.heap = h0 := by rw [← hh, Bd.state]; rfl
  have N0 := Fr.nil n0
  have pre0 : ∀ t, Steps p.tables e below (s₁.setTop (mkF m 0 #[.val (.int p1), .val (.int p2), .val (.int p3), .val (.int p4), .val (.int p5), .unset, .unset, .unset, .unset, .unset, .unset, .unset, .unset, .unset] [])) t → Steps p.tables e below (s₁.setTop (entryFrame m #[(.int p1), (.int p2), (.int p3), (.int p4), (.int p5)] maxLocals)) t := fun t k => castTop (ef_0 m p1 p2 p3 p4 p5) k
  obtain ⟨T6, h6, k6, X6, e6, E6, A6, st6⟩ := newP X0 hx hZ (hw _ (List.mem_of_getElem? (i := 0) rfl)) e0 (g := (mkF m 32 #[.val (.int p1), .val (.int p2), .val (.int p3), .val (.int p4), .val (.int p5), .val (.int (2 : Int32)), .val (.int (p2 &&& (31 : Int32))), .val (.int (p3 &&& (31 : Int32))), .val (.int (p4 &&& (31 : Int32))), .val (.int (p5 &&& (31 : Int32))), .unset, .unset, .unset, .unset] [(.int (2 : Int32))])) rfl (hb hby at_32) rfl (by decide) (cap := 2) (by decide) (by decide) (by decide) (by decide)
  obtain ⟨b6, g6⟩ : ∃ z, z = h0.size := ⟨_, rfl⟩
  rw [← g6] at A6 st6
  have V_b6 : Arv Z h6 b6 k6 .int (2 : Int32) [(.int (0 : Int32)), (.int (0 : Int32))] (.int (0 : Int32)) := (Arv.new A6 (by decide)).pad (pad_rep [] (.int (0 : Int32)) 2)
  have g_b6 : n0 ≤ b6 := Nat.le_trans Z0 (Nat.le_of_eq g6.symm)
  have sz_b6 : h0.size ≤ b6 := (Nat.le_trans (Keep.refl h0 []).1 (Nat.le_of_eq g6.symm))
  have K6 : Keep h0 h6 [] := (Keep.refl h0 []).ext E6
  obtain ⟨cl_b6_47, Ar_b6, q_b6, S_b6, N_b6, H_b6, G_b6⟩ := V_b6
  have hin47 : ¬ ((0 : Int32) < 0 ∨ cl_b6_47.slots.size ≤ ((0 : Int32)).toNatClampNeg) := inb_of S_b6 ⟨by decide, by decide⟩
  obtain ⟨T7, h7, X7, e7, W7, st7⟩ := stI X6 hx hZ e6 Ar_b6 (j := (0 : Int32)) hin47 (g := (mkF m 47 #[.val (.int p1), .val (.int p2), .val (.int p3), .val (.int p4), .val (.int p5), .val (.int (2 : Int32)), .val (.int (p2 &&& (31 : Int32))), .val (.int (p3 &&& (31 : Int32))), .val (.int (p4 &&& (31 : Int32))), .val (.int (p5 &&& (31 : Int32))), .val (.ref b6), .unset, .unset, .unset] [(.int (p2 &&& (31 : Int32))), (.int (0 : Int32)), (.ref b6)])) rfl rfl (hb hby at_47)
  have V_b6_7 := Arv.set Ar_b6 q_b6 S_b6 N_b6 H_b6 G_b6 rfl W7 0 rfl (Nat.le_of_ble_eq_true rfl)
  have K7 : Keep h0 h7 [] := K6.wr W7 (Or.inr sz_b6)
  have N7 := Fr.snoc X7 N0 g_b6
  obtain ⟨cl_b6_59, Ar_b6, q_b6, S_b6, N_b6, H_b6, G_b6⟩ := V_b6_7
  have hin59 : ¬ ((1 : Int32) < 0 ∨ cl_b6_59.slots.size ≤ ((1 : Int32)).toNatClampNeg) := inb_of S_b6 ⟨by decide, by decide⟩
  obtain ⟨T8, h8, X8, e8, W8, st8⟩ := stI X7 hx hZ e7 Ar_b6 (j := (1 : Int32)) hin59 (g := (mkF m 59 #[.val (.int p1), .val (.int p2), .val (.int p3), .val (.int p4), .val (.int p5), .val (.int (2 : Int32)), .val (.int (p2 &&& (31 : Int32))), .val (.int (p3 &&& (31 : Int32))), .val (.int (p4 &&& (31 : Int32))), .val (.int (p5 &&& (31 : Int32))), .val (.ref b6), .unset, .unset, .unset] [(.int (p3 &&& (31 : Int32))), (.int (1 : Int32)), (.ref b6)])) rfl rfl (hb hby at_59)
  have V_b6_8 := Arv.set Ar_b6 q_b6 S_b6 N_b6 H_b6 G_b6 rfl W8 1 rfl (Nat.le_of_ble_eq_true rfl)
  have K8 : Keep h0 h8 [] := K7.wr W8 (Or.inr sz_b6)
  have N8 := Fr.snoc X8 N7 g_b6
  obtain ⟨_, _, ⟨T9, L9, k9, n9⟩, -, X9, ⟨Lc9, hQ9, l9, y9, z9⟩, st9⟩ := Jvm.LawKit.callS X8 hx (y := (⟨"com/example/sundew/sundew/text/BreakProperties", "bits", "([I)I"⟩ : MethodName)) hown (mvT hZ (hw _ (List.mem_of_getElem? (i := 1) rfl))) (mvT hZ (hw _ (List.mem_of_getElem? (i := 2) rfl))) (mvT hZ (hw _ (List.mem_of_getElem? (i := 3) rfl))) (mvT hZ (hw _ (List.mem_of_getElem? (i := 4) rfl))) (by decide) (backOf (W := 0) (own_rm1_2 l Z a0 hw [] b6 _ (p2 &&& (31 : Int32)) (p3 &&& (31 : Int32)) h8 n0 (Nat.le_trans (Nat.le_trans (Nat.le_trans Z0 E6.1) (Keep.of_wr W7).1) (Keep.of_wr W8).1) V_b6_8) hZ (hw _ (List.mem_of_getElem? (i := 4) rfl)) (hw _ (List.mem_of_getElem? (i := 3) rfl)) (by decide) (by decide)) (g := (mkF m 74 #[.val (.int p1), .val (.int p2), .val (.int p3), .val (.int p4), .val (.int p5), .val (.int (2 : Int32)), .val (.int (p2 &&& (31 : Int32))), .val (.int (p3 &&& (31 : Int32))), .val (.int (p4 &&& (31 : Int32))), .val (.int (p5 &&& (31 : Int32))), .val (.ref b6), .unset, .unset, .unset] [(.ref b6)])) rfl (by rw [hml]; rfl) (argsL := [(.ref b6)]) (rest := []) (lenOf pd_0_0 rfl) rfl (by show 2 * 0 + _ ≤ _; exact Nat.le_of_eq rfl) (hb hby at_74) (fun _ _ => ⟨rfl, e8, (by decide : 1 + 0 ≤ _), (by decide : 2 + 0 ≤ _)⟩)
  dsimp only [Pt.U, Pt.locs, Pt.cells, Pt.slots] at X9 l9 y9 z9 st9 hQ9
  subst l9 y9 z9
  obtain ⟨rfl, N9q, e9⟩ := hQ9
  have N9 := Fr.app N8 N9q
  obtain ⟨fs, hr, hrun, hended, hW, hsame⟩ := X9.leave (v := some (.int (1 : Int32))) (fun h => by rw [Bd.returns] at h; cases h)
  refine ⟨_, _, pre0 _ ?_, hrun, hended, _, _, rfl, ?_, ⟨_, rfl⟩, hW, hsame.mono (by decide) (by decide)⟩
  · show Steps p.tables e below (s₁.setTop (mkF m 0 #[.val (.int p1), .val (.int p2), .val (.int p3), .val (.int p4), .val (.int p5), .unset, .unset, .unset, .unset, .unset, .unset, .unset, .unset, .unset] [])) _
    refine XS.iloadN X0.here hx rfl (hb hby at_0) rfl ?_
    show Steps p.tables e below (s₁.setTop (mkF m 1 #[.val (.int p1), .val (.int p2), .val (.int p3), .val (.int p4), .val (.int p5), .unset, .unset, .unset, .unset, .unset, .unset, .unset, .unset, .unset] [(.int p1)])) _
    refine XS.iconst X0.here hx rfl (hb hby at_1) ?_
    show Steps p.tables e below (s₁.setTop (mkF m 2 #[.val (.int p1), .val (.int p2), .val (.int p3), .val (.int p4), .val (.int p5), .unset, .unset, .unset, .unset, .unset, .unset, .unset, .unset, .unset] [(.int (3 : Int32)), (.int p1)])) _
    refine XS.iand X0.here hx rfl (hb hby at_2) rfl ?_
    show Steps p.tables e below (s₁.setTop (mkF m 3 #[.val (.int p1), .val (.int p2), .val (.int p3), .val (.int p4), .val (.int p5), .unset, .unset, .unset, .unset, .unset, .unset, .unset, .unset, .unset] [(.int (p1 &&& (3 : Int32)))])) _
    rw [hn]
    show Steps p.tables e below (s₁.setTop (mkF m 3 #[.val (.int p1), .val (.int p2), .val (.int p3), .val (.int p4), .val (.int p5), .unset, .unset, .unset, .unset, .unset, .unset, .unset, .unset, .unset] [(.int (2 : Int32))])) _
    refine XS.istore X0.here hx rfl (hb hby at_3) rfl (l' := #[.val (.int p1), .val (.int p2), .val (.int p3), .val (.int p4), .val (.int p5), .val (.int (2 : Int32)), .unset, .unset, .unset, .unset, .unset, .unset, .unset, .unset]) rfl ?_
    show Steps p.tables e below (s₁.setTop (mkF m 5 #[.val (.int p1), .val (.int p2), .val (.int p3), .val (.int p4), .val (.int p5), .val (.int (2 : Int32)), .unset, .unset, .unset, .unset, .unset, .unset, .unset, .unset] [])) _
    refine XS.iloadN X0.here hx rfl (hb hby at_5) rfl ?_
    show Steps p.tables e below (s₁.setTop (mkF m 6 #[.val (.int p1), .val (.int p2), .val (.int p3), .val (.int p4), .val (.int p5), .val (.int (2 : Int32)), .unset, .unset, .unset, .unset, .unset, .unset, .unset, .unset] [(.int p2)])) _
    refine XS.bipush X0.here hx rfl (hb hby at_6) ?_
    show Steps p.tables e below (s₁.setTop (mkF m 8 #[.val (.int p1), .val (.int p2), .val (.int p3), .val (.int p4), .val (.int p5), .val (.int (2 : Int32)), .unset, .unset, .unset, .unset, .unset, .unset, .unset, .unset] [(.int (31 : Int32)), (.int p2)])) _
    refine XS.iand X0.here hx rfl (hb hby at_8) rfl ?_
    show Steps p.tables e below (s₁.setTop (mkF m 9 #[.val (.int p1), .val (.int p2), .val (.int p3), .val (.int p4), .val (.int p5), .val (.int (2 : Int32)), .unset, .unset, .unset, .unset, .unset, .unset, .unset, .unset] [(.int (p2 &&& (31 : Int32)))])) _
    refine XS.istore X0.here hx rfl (hb hby at_9) rfl (l' := #[.val (.int p1), .val (.int p2), .val (.int p3), .val (.int p4), .val (.int p5), .val (.int (2 : Int32)), .val (.int (p2 &&& (31 : Int32))), .unset, .unset, .unset, .unset, .unset, .unset, .unset]) rfl ?_
    show Steps p.tables e below (s₁.setTop (mkF m 11 #[.val (.int p1), .val (.int p2), .val (.int p3), .val (.int p4), .val (.int p5), .val (.int (2 : Int32)), .val (.int (p2 &&& (31 : Int32))), .unset, .unset, .unset, .unset, .unset, .unset, .unset] [])) _
    refine XS.iloadN X0.here hx rfl (hb hby at_11) rfl ?_
    show Steps p.tables e below (s₁.setTop (mkF m 12 #[.val (.int p1), .val (.int p2), .val (.int p3), .val (.int p4), .val (.int p5), .val (.int (2 : Int32)), .val (.int (p2 &&& (31 : Int32))), .unset, .unset, .unset, .unset, .unset, .unset, .unset] [(.int p3)])) _
    refine XS.bipush X0.here hx rfl (hb hby at_12) ?_
    show Steps p.tables e below (s₁.setTop (mkF m 14 #[.val (.int p1), .val (.int p2), .val (.int p3), .val (.int p4), .val (.int p5), .val (.int (2 : Int32)), .val (.int (p2 &&& (31 : Int32))), .unset, .unset, .unset, .unset, .unset, .unset, .unset] [(.int (31 : Int32)), (.int p3)])) _
    refine XS.iand X0.here hx rfl (hb hby at_14) rfl ?_
    show Steps p.tables e below (s₁.setTop (mkF m 15 #[.val (.int p1), .val (.int p2), .val (.int p3), .val (.int p4), .val (.int p5), .val (.int (2 : Int32)), .val (.int (p2 &&& (31 : Int32))), .unset, .unset, .unset, .unset, .unset, .unset, .unset] [(.int (p3 &&& (31 : Int32)))])) _
    refine XS.istore X0.here hx rfl (hb hby at_15) rfl (l' := #[.val (.int p1), .val (.int p2), .val (.int p3), .val (.int p4), .val (.int p5), .val (.int (2 : Int32)), .val (.int (p2 &&& (31 : Int32))), .val (.int (p3 &&& (31 : Int32))), .unset, .unset, .unset, .unset, .unset, .unset]) rfl ?_
    show Steps p.tables e below (s₁.setTop (mkF m 17 #[.val (.int p1), .val (.int p2), .val (.int p3), .val (.int p4), .val (.int p5), .val (.int (2 : Int32)), .val (.int (p2 &&& (31 : Int32))), .val (.int (p3 &&& (31 : Int32))), .unset, .unset, .unset, .unset, .unset, .unset] [])) _
    refine XS.iloadN X0.here hx rfl (hb hby at_17) rfl ?_
    show Steps p.tables e below (s₁.setTop (mkF m 18 #[.val (.int p1), .val (.int p2), .val (.int p3), .val (.int p4), .val (.int p5), .val (.int (2 : Int32)), .val (.int (p2 &&& (31 : Int32))), .val (.int (p3 &&& (31 : Int32))), .unset, .unset, .unset, .unset, .unset, .unset] [(.int p4)])) _
    refine XS.bipush X0.here hx rfl (hb hby at_18) ?_
    show Steps p.tables e below (s₁.setTop (mkF m 20 #[.val (.int p1), .val (.int p2), .val (.int p3), .val (.int p4), .val (.int p5), .val (.int (2 : Int32)), .val (.int (p2 &&& (31 : Int32))), .val (.int (p3 &&& (31 : Int32))), .unset, .unset, .unset, .unset, .unset, .unset] [(.int (31 : Int32)), (.int p4)])) _
    refine XS.iand X0.here hx rfl (hb hby at_20) rfl ?_
    show Steps p.tables e below (s₁.setTop (mkF m 21 #[.val (.int p1), .val (.int p2), .val (.int p3), .val (.int p4), .val (.int p5), .val (.int (2 : Int32)), .val (.int (p2 &&& (31 : Int32))), .val (.int (p3 &&& (31 : Int32))), .unset, .unset, .unset, .unset, .unset, .unset] [(.int (p4 &&& (31 : Int32)))])) _
    refine XS.istore X0.here hx rfl (hb hby at_21) rfl (l' := #[.val (.int p1), .val (.int p2), .val (.int p3), .val (.int p4), .val (.int p5), .val (.int (2 : Int32)), .val (.int (p2 &&& (31 : Int32))), .val (.int (p3 &&& (31 : Int32))), .val (.int (p4 &&& (31 : Int32))), .unset, .unset, .unset, .unset, .unset]) rfl ?_
    show Steps p.tables e below (s₁.setTop (mkF m 23 #[.val (.int p1), .val (.int p2), .val (.int p3), .val (.int p4), .val (.int p5), .val (.int (2 : Int32)), .val (.int (p2 &&& (31 : Int32))), .val (.int (p3 &&& (31 : Int32))), .val (.int (p4 &&& (31 : Int32))), .unset, .unset, .unset, .unset, .unset] [])) _
    refine XS.iload X0.here hx rfl (hb hby at_23) rfl ?_
    show Steps p.tables e below (s₁.setTop (mkF m 25 #[.val (.int p1), .val (.int p2), .val (.int p3), .val (.int p4), .val (.int p5), .val (.int (2 : Int32)), .val (.int (p2 &&& (31 : Int32))), .val (.int (p3 &&& (31 : Int32))), .val (.int (p4 &&& (31 : Int32))), .unset, .unset, .unset, .unset, .unset] [(.int p5)])) _
    refine XS.bipush X0.here hx rfl (hb hby at_25) ?_
    show Steps p.tables e below (s₁.setTop (mkF m 27 #[.val (.int p1), .val (.int p2), .val (.int p3), .val (.int p4), .val (.int p5), .val (.int (2 : Int32)), .val (.int (p2 &&& (31 : Int32))), .val (.int (p3 &&& (31 : Int32))), .val (.int (p4 &&& (31 : Int32))), .unset, .unset, .unset, .unset, .unset] [(.int (31 : Int32)), (.int p5)])) _
    refine XS.iand X0.here hx rfl (hb hby at_27) rfl ?_
    show Steps p.tables e below (s₁.setTop (mkF m 28 #[.val (.int p1), .val (.int p2), .val (.int p3), .val (.int p4), .val (.int p5), .val (.int (2 : Int32)), .val (.int (p2 &&& (31 : Int32))), .val (.int (p3 &&& (31 : Int32))), .val (.int (p4 &&& (31 : Int32))), .unset, .unset, .unset, .unset, .unset] [(.int (p5 &&& (31 : Int32)))])) _
    refine XS.istore X0.here hx rfl (hb hby at_28) rfl (l' := #[.val (.int p1), .val (.int p2), .val (.int p3), .val (.int p4), .val (.int p5), .val (.int (2 : Int32)), .val (.int (p2 &&& (31 : Int32))), .val (.int (p3 &&& (31 : Int32))), .val (.int (p4 &&& (31 : Int32))), .val (.int (p5 &&& (31 : Int32))), .unset, .unset, .unset, .unset]) rfl ?_
    show Steps p.tables e below (s₁.setTop (mkF m 30 #[.val (.int p1), .val (.int p2), .val (.int p3), .val (.int p4), .val (.int p5), .val (.int (2 : Int32)), .val (.int (p2 &&& (31 : Int32))), .val (.int (p3 &&& (31 : Int32))), .val (.int (p4 &&& (31 : Int32))), .val (.int (p5 &&& (31 : Int32))), .unset, .unset, .unset, .unset] [])) _
    refine XS.iload X0.here hx rfl (hb hby at_30) rfl ?_
    show Steps p.tables e below (s₁.setTop (mkF m 32 #[.val (.int p1), .val (.int p2), .val (.int p3), .val (.int p4), .val (.int p5), .val (.int (2 : Int32)), .val (.int (p2 &&& (31 : Int32))), .val (.int (p3 &&& (31 : Int32))), .val (.int (p4 &&& (31 : Int32))), .val (.int (p5 &&& (31 : Int32))), .unset, .unset, .unset, .unset] [(.int (2 : Int32))])) _
    refine st6 _ ?_
    show Steps p.tables e below (T6.setTop (mkF m 34 #[.val (.int p1), .val (.int p2), .val (.int p3), .val (.int p4), .val (.int p5), .val (.int (2 : Int32)), .val (.int (p2 &&& (31 : Int32))), .val (.int (p3 &&& (31 : Int32))), .val (.int (p4 &&& (31 : Int32))), .val (.int (p5 &&& (31 : Int32))), .unset, .unset, .unset, .unset] [(.ref b6)])) _
    refine XS.astore X6.here hx rfl (hb hby at_34) rfl rfl (l' := #[.val (.int p1), .val (.int p2), .val (.int p3), .val (.int p4), .val (.int p5), .val (.int (2 : Int32)), .val (.int (p2 &&& (31 : Int32))), .val (.int (p3 &&& (31 : Int32))), .val (.int (p4 &&& (31 : Int32))), .val (.int (p5 &&& (31 : Int32))), .val (.ref b6), .unset, .unset, .unset]) rfl ?_
    show Steps p.tables e below (T6.setTop (mkF m 36 #[.val (.int p1), .val (.int p2), .val (.int p3), .val (.int p4), .val (.int p5), .val (.int (2 : Int32)), .val (.int (p2 &&& (31 : Int32))), .val (.int (p3 &&& (31 : Int32))), .val (.int (p4 &&& (31 : Int32))), .val (.int (p5 &&& (31 : Int32))), .val (.ref b6), .unset, .unset, .unset] [])) _
    refine XS.iload X6.here hx rfl (hb hby at_36) rfl ?_
    show Steps p.tables e below (T6.setTop (mkF m 38 #[.val (.int p1), .val (.int p2), .val (.int p3), .val (.int p4), .val (.int p5), .val (.int (2 : Int32)), .val (.int (p2 &&& (31 : Int32))), .val (.int (p3 &&& (31 : Int32))), .val (.int (p4 &&& (31 : Int32))), .val (.int (p5 &&& (31 : Int32))), .val (.ref b6), .unset, .unset, .unset] [(.int (2 : Int32))])) _
    refine XS.iconst X6.here hx rfl (hb hby at_38) ?_
    show Steps p.tables e below (T6.setTop (mkF m 39 #[.val (.int p1), .val (.int p2), .val (.int p3), .val (.int p4), .val (.int p5), .val (.int (2 : Int32)), .val (.int (p2 &&& (31 : Int32))), .val (.int (p3 &&& (31 : Int32))), .val (.int (p4 &&& (31 : Int32))), .val (.int (p5 &&& (31 : Int32))), .val (.ref b6), .unset, .unset, .unset] [(.int (1 : Int32)), (.int (2 : Int32))])) _
    refine XS.icmpNo X6.here hx rfl (hb hby at_39) rfl (flt hc39).1 ?_
    show Steps p.tables e below (T6.setTop (mkF m 42 #[.val (.int p1), .val (.int p2), .val (.int p3), .val (.int p4), .val (.int p5), .val (.int (2 : Int32)), .val (.int (p2 &&& (31 : Int32))), .val (.int (p3 &&& (31 : Int32))), .val (.int (p4 &&& (31 : Int32))), .val (.int (p5 &&& (31 : Int32))), .val (.ref b6), .unset, .unset, .unset] [])) _
    refine XS.aload X6.here hx rfl (hb hby at_42) rfl rfl ?_
    show Steps p.tables e below (T6.setTop (mkF m 44 #[.val (.int p1), .val (.int p2), .val (.int p3), .val (.int p4), .val (.int p5), .val (.int (2 : Int32)), .val (.int (p2 &&& (31 : Int32))), .val (.int (p3 &&& (31 : Int32))), .val (.int (p4 &&& (31 : Int32))), .val (.int (p5 &&& (31 : Int32))), .val (.ref b6), .unset, .unset, .unset] [(.ref b6)])) _
    refine XS.iconst X6.here hx rfl (hb hby at_44) ?_
    show Steps p.tables e below (T6.setTop (mkF m 45 #[.val (.int p1), .val (.int p2), .val (.int p3), .val (.int p4), .val (.int p5), .val (.int (2 : Int32)), .val (.int (p2 &&& (31 : Int32))), .val (.int (p3 &&& (31 : Int32))), .val (.int (p4 &&& (31 : Int32))), .val (.int (p5 &&& (31 : Int32))), .val (.ref b6), .unset, .unset, .unset] [(.int (0 : Int32)), (.ref b6)])) _
    refine XS.iload X6.here hx rfl (hb hby at_45) rfl ?_
    show Steps p.tables e below (T6.setTop (mkF m 47 #[.val (.int p1), .val (.int p2), .val (.int p3), .val (.int p4), .val (.int p5), .val (.int (2 : Int32)), .val (.int (p2 &&& (31 : Int32))), .val (.int (p3 &&& (31 : Int32))), .val (.int (p4 &&& (31 : Int32))), .val (.int (p5 &&& (31 : Int32))), .val (.ref b6), .unset, .unset, .unset] [(.int (p2 &&& (31 : Int32))), (.int (0 : Int32)), (.ref b6)])) _
    refine st7 _ ?_
    show Steps p.tables e below (T7.setTop (mkF m 48 #[.val (.int p1), .val (.int p2), .val (.int p3), .val (.int p4), .val (.int p5), .val (.int (2 : Int32)), .val (.int (p2 &&& (31 : Int32))), .val (.int (p3 &&& (31 : Int32))), .val (.int (p4 &&& (31 : Int32))), .val (.int (p5 &&& (31 : Int32))), .val (.ref b6), .unset, .unset, .unset] [])) _
    refine XS.iload X7.here hx rfl (hb hby at_48) rfl ?_
    show Steps p.tables e below (T7.setTop (mkF m 50 #[.val (.int p1), .val (.int p2), .val (.int p3), .val (.int p4), .val (.int p5), .val (.int (2 : Int32)), .val (.int (p2 &&& (31 : Int32))), .val (.int (p3 &&& (31 : Int32))), .val (.int (p4 &&& (31 : Int32))), .val (.int (p5 &&& (31 : Int32))), .val (.ref b6), .unset, .unset, .unset] [(.int (2 : Int32))])) _
    refine XS.iconst X7.here hx rfl (hb hby at_50) ?_
    show Steps p.tables e below (T7.setTop (mkF m 51 #[.val (.int p1), .val (.int p2), .val (.int p3), .val (.int p4), .val (.int p5), .val (.int (2 : Int32)), .val (.int (p2 &&& (31 : Int32))), .val (.int (p3 &&& (31 : Int32))), .val (.int (p4 &&& (31 : Int32))), .val (.int (p5 &&& (31 : Int32))), .val (.ref b6), .unset, .unset, .unset] [(.int (2 : Int32)), (.int (2 : Int32))])) _
    refine XS.icmpNo X7.here hx rfl (hb hby at_51) rfl (flt hc51).1 ?_
    show Steps p.tables e below (T7.setTop (mkF m 54 #[.val (.int p1), .val (.int p2), .val (.int p3), .val (.int p4), .val (.int p5), .val (.int (2 : Int32)), .val (.int (p2 &&& (31 : Int32))), .val (.int (p3 &&& (31 : Int32))), .val (.int (p4 &&& (31 : Int32))), .val (.int (p5 &&& (31 : Int32))), .val (.ref b6), .unset, .unset, .unset] [])) _
    refine XS.aload X7.here hx rfl (hb hby at_54) rfl rfl ?_
    show Steps p.tables e below (T7.setTop (mkF m 56 #[.val (.int p1), .val (.int p2), .val (.int p3), .val (.int p4), .val (.int p5), .val (.int (2 : Int32)), .val (.int (p2 &&& (31 : Int32))), .val (.int (p3 &&& (31 : Int32))), .val (.int (p4 &&& (31 : Int32))), .val (.int (p5 &&& (31 : Int32))), .val (.ref b6), .unset, .unset, .unset] [(.ref b6)])) _
    refine XS.iconst X7.here hx rfl (hb hby at_56) ?_
    show Steps p.tables e below (T7.setTop (mkF m 57 #[.val (.int p1), .val (.int p2), .val (.int p3), .val (.int p4), .val (.int p5), .val (.int (2 : Int32)), .val (.int (p2 &&& (31 : Int32))), .val (.int (p3 &&& (31 : Int32))), .val (.int (p4 &&& (31 : Int32))), .val (.int (p5 &&& (31 : Int32))), .val (.ref b6), .unset, .unset, .unset] [(.int (1 : Int32)), (.ref b6)])) _
    refine XS.iload X7.here hx rfl (hb hby at_57) rfl ?_
    show Steps p.tables e below (T7.setTop (mkF m 59 #[.val (.int p1), .val (.int p2), .val (.int p3), .val (.int p4), .val (.int p5), .val (.int (2 : Int32)), .val (.int (p2 &&& (31 : Int32))), .val (.int (p3 &&& (31 : Int32))), .val (.int (p4 &&& (31 : Int32))), .val (.int (p5 &&& (31 : Int32))), .val (.ref b6), .unset, .unset, .unset] [(.int (p3 &&& (31 : Int32))), (.int (1 : Int32)), (.ref b6)])) _
    refine st8 _ ?_
    show Steps p.tables e below (T8.setTop (mkF m 60 #[.val (.int p1), .val (.int p2), .val (.int p3), .val (.int p4), .val (.int p5), .val (.int (2 : Int32)), .val (.int (p2 &&& (31 : Int32))), .val (.int (p3 &&& (31 : Int32))), .val (.int (p4 &&& (31 : Int32))), .val (.int (p5 &&& (31 : Int32))), .val (.ref b6), .unset, .unset, .unset] [])) _
    refine XS.iload X8.here hx rfl (hb hby at_60) rfl ?_
    show Steps p.tables e below (T8.setTop (mkF m 62 #[.val (.int p1), .val (.int p2), .val (.int p3), .val (.int p4), .val (.int p5), .val (.int (2 : Int32)), .val (.int (p2 &&& (31 : Int32))), .val (.int (p3 &&& (31 : Int32))), .val (.int (p4 &&& (31 : Int32))), .val (.int (p5 &&& (31 : Int32))), .val (.ref b6), .unset, .unset, .unset] [(.int (2 : Int32))])) _
    refine XS.iconst X8.here hx rfl (hb hby at_62) ?_
    show Steps p.tables e below (T8.setTop (mkF m 63 #[.val (.int p1), .val (.int p2), .val (.int p3), .val (.int p4), .val (.int p5), .val (.int (2 : Int32)), .val (.int (p2 &&& (31 : Int32))), .val (.int (p3 &&& (31 : Int32))), .val (.int (p4 &&& (31 : Int32))), .val (.int (p5 &&& (31 : Int32))), .val (.ref b6), .unset, .unset, .unset] [(.int (3 : Int32)), (.int (2 : Int32))])) _
    refine XS.icmpYes X8.here hx rfl (pc0 := 63) (pc' := 72) rfl (hb hby at_63) rfl (tlt hc63).1 (by decide) (by decide) ?_
    show Steps p.tables e below (T8.setTop (mkF m 72 #[.val (.int p1), .val (.int p2), .val (.int p3), .val (.int p4), .val (.int p5), .val (.int (2 : Int32)), .val (.int (p2 &&& (31 : Int32))), .val (.int (p3 &&& (31 : Int32))), .val (.int (p4 &&& (31 : Int32))), .val (.int (p5 &&& (31 : Int32))), .val (.ref b6), .unset, .unset, .unset] [])) _
    refine XS.aload X8.here hx rfl (hb hby at_72) rfl rfl ?_
    show Steps p.tables e below (T8.setTop (mkF m 74 #[.val (.int p1), .val (.int p2), .val (.int p3), .val (.int p4), .val (.int p5), .val (.int (2 : Int32)), .val (.int (p2 &&& (31 : Int32))), .val (.int (p3 &&& (31 : Int32))), .val (.int (p4 &&& (31 : Int32))), .val (.int (p5 &&& (31 : Int32))), .val (.ref b6), .unset, .unset, .unset] [(.ref b6)])) _
    refine st9 _ ?_
    show Steps p.tables e below (T9.setTop (mkF m 77 #[.val (.int p1), .val (.int p2), .val (.int p3), .val (.int p4), .val (.int p5), .val (.int (2 : Int32)), .val (.int (p2 &&& (31 : Int32))), .val (.int (p3 &&& (31 : Int32))), .val (.int (p4 &&& (31 : Int32))), .val (.int (p5 &&& (31 : Int32))), .val (.ref b6), .unset, .unset, .unset] [(.int (own_u2 (p2 &&& (31 : Int32)) (p3 &&& (31 : Int32))))])) _
    refine XS.istore X9.here hx rfl (hb hby at_77) rfl (l' := #[.val (.int p1), .val (.int p2), .val (.int p3), .val (.int p4), .val (.int p5), .val (.int (2 : Int32)), .val (.int (p2 &&& (31 : Int32))), .val (.int (p3 &&& (31 : Int32))), .val (.int (p4 &&& (31 : Int32))), .val (.int (p5 &&& (31 : Int32))), .val (.ref b6), .val (.int (own_u2 (p2 &&& (31 : Int32)) (p3 &&& (31 : Int32)))), .unset, .unset]) rfl ?_
    show Steps p.tables e below (T9.setTop (mkF m 79 #[.val (.int p1), .val (.int p2), .val (.int p3), .val (.int p4), .val (.int p5), .val (.int (2 : Int32)), .val (.int (p2 &&& (31 : Int32))), .val (.int (p3 &&& (31 : Int32))), .val (.int (p4 &&& (31 : Int32))), .val (.int (p5 &&& (31 : Int32))), .val (.ref b6), .val (.int (own_u2 (p2 &&& (31 : Int32)) (p3 &&& (31 : Int32)))), .unset, .unset] [])) _
    refine XS.iload X9.here hx rfl (hb hby at_79) rfl ?_
    show Steps p.tables e below (T9.setTop (mkF m 81 #[.val (.int p1), .val (.int p2), .val (.int p3), .val (.int p4), .val (.int p5), .val (.int (2 : Int32)), .val (.int (p2 &&& (31 : Int32))), .val (.int (p3 &&& (31 : Int32))), .val (.int (p4 &&& (31 : Int32))), .val (.int (p5 &&& (31 : Int32))), .val (.ref b6), .val (.int (own_u2 (p2 &&& (31 : Int32)) (p3 &&& (31 : Int32)))), .unset, .unset] [(.int (2 : Int32))])) _
    refine XS.iconst X9.here hx rfl (hb hby at_81) ?_
    show Steps p.tables e below (T9.setTop (mkF m 82 #[.val (.int p1), .val (.int p2), .val (.int p3), .val (.int p4), .val (.int p5), .val (.int (2 : Int32)), .val (.int (p2 &&& (31 : Int32))), .val (.int (p3 &&& (31 : Int32))), .val (.int (p4 &&& (31 : Int32))), .val (.int (p5 &&& (31 : Int32))), .val (.ref b6), .val (.int (own_u2 (p2 &&& (31 : Int32)) (p3 &&& (31 : Int32)))), .unset, .unset] [(.int (1 : Int32)), (.int (2 : Int32))])) _
    refine XS.icmpNo X9.here hx rfl (hb hby at_82) rfl (flt hc82).1 ?_
    show Steps p.tables e below (T9.setTop (mkF m 85 #[.val (.int p1), .val (.int p2), .val (.int p3), .val (.int p4), .val (.int p5), .val (.int (2 : Int32)), .val (.int (p2 &&& (31 : Int32))), .val (.int (p3 &&& (31 : Int32))), .val (.int (p4 &&& (31 : Int32))), .val (.int (p5 &&& (31 : Int32))), .val (.ref b6), .val (.int (own_u2 (p2 &&& (31 : Int32)) (p3 &&& (31 : Int32)))), .unset, .unset] [])) _
    refine XS.iload X9.here hx rfl (hb hby at_85) rfl ?_
    show Steps p.tables e below (T9.setTop (mkF m 87 #[.val (.int p1), .val (.int p2), .val (.int p3), .val (.int p4), .val (.int p5), .val (.int (2 : Int32)), .val (.int (p2 &&& (31 : Int32))), .val (.int (p3 &&& (31 : Int32))), .val (.int (p4 &&& (31 : Int32))), .val (.int (p5 &&& (31 : Int32))), .val (.ref b6), .val (.int (own_u2 (p2 &&& (31 : Int32)) (p3 &&& (31 : Int32)))), .unset, .unset] [(.int (p5 &&& (31 : Int32)))])) _
    refine XS.iload X9.here hx rfl (hb hby at_87) rfl ?_
    show Steps p.tables e below (T9.setTop (mkF m 89 #[.val (.int p1), .val (.int p2), .val (.int p3), .val (.int p4), .val (.int p5), .val (.int (2 : Int32)), .val (.int (p2 &&& (31 : Int32))), .val (.int (p3 &&& (31 : Int32))), .val (.int (p4 &&& (31 : Int32))), .val (.int (p5 &&& (31 : Int32))), .val (.ref b6), .val (.int (own_u2 (p2 &&& (31 : Int32)) (p3 &&& (31 : Int32)))), .unset, .unset] [(.int (p2 &&& (31 : Int32))), (.int (p5 &&& (31 : Int32)))])) _
    refine XS.icmpNo X9.here hx rfl (hb hby at_89) rfl (feq hc89).1 ?_
    show Steps p.tables e below (T9.setTop (mkF m 92 #[.val (.int p1), .val (.int p2), .val (.int p3), .val (.int p4), .val (.int p5), .val (.int (2 : Int32)), .val (.int (p2 &&& (31 : Int32))), .val (.int (p3 &&& (31 : Int32))), .val (.int (p4 &&& (31 : Int32))), .val (.int (p5 &&& (31 : Int32))), .val (.ref b6), .val (.int (own_u2 (p2 &&& (31 : Int32)) (p3 &&& (31 : Int32)))), .unset, .unset] [])) _
    refine XS.iload X9.here hx rfl (hb hby at_92) rfl ?_
    show Steps p.tables e below (T9.setTop (mkF m 94 #[.val (.int p1), .val (.int p2), .val (.int p3), .val (.int p4), .val (.int p5), .val (.int (2 : Int32)), .val (.int (p2 &&& (31 : Int32))), .val (.int (p3 &&& (31 : Int32))), .val (.int (p4 &&& (31 : Int32))), .val (.int (p5 &&& (31 : Int32))), .val (.ref b6), .val (.int (own_u2 (p2 &&& (31 : Int32)) (p3 &&& (31 : Int32)))), .unset, .unset] [(.int (2 : Int32))])) _
    refine XS.iconst X9.here hx rfl (hb hby at_94) ?_
    show Steps p.tables e below (T9.setTop (mkF m 95 #[.val (.int p1), .val (.int p2), .val (.int p3), .val (.int p4), .val (.int p5), .val (.int (2 : Int32)), .val (.int (p2 &&& (31 : Int32))), .val (.int (p3 &&& (31 : Int32))), .val (.int (p4 &&& (31 : Int32))), .val (.int (p5 &&& (31 : Int32))), .val (.ref b6), .val (.int (own_u2 (p2 &&& (31 : Int32)) (p3 &&& (31 : Int32)))), .unset, .unset] [(.int (2 : Int32)), (.int (2 : Int32))])) _
    refine XS.icmpNo X9.here hx rfl (hb hby at_95) rfl (flt hc95).1 ?_
    show Steps p.tables e below (T9.setTop (mkF m 98 #[.val (.int p1), .val (.int p2), .val (.int p3), .val (.int p4), .val (.int p5), .val (.int (2 : Int32)), .val (.int (p2 &&& (31 : Int32))), .val (.int (p3 &&& (31 : Int32))), .val (.int (p4 &&& (31 : Int32))), .val (.int (p5 &&& (31 : Int32))), .val (.ref b6), .val (.int (own_u2 (p2 &&& (31 : Int32)) (p3 &&& (31 : Int32)))), .unset, .unset] [])) _
    refine XS.iload X9.here hx rfl (hb hby at_98) rfl ?_
    show Steps p.tables e below (T9.setTop (mkF m 100 #[.val (.int p1), .val (.int p2), .val (.int p3), .val (.int p4), .val (.int p5), .val (.int (2 : Int32)), .val (.int (p2 &&& (31 : Int32))), .val (.int (p3 &&& (31 : Int32))), .val (.int (p4 &&& (31 : Int32))), .val (.int (p5 &&& (31 : Int32))), .val (.ref b6), .val (.int (own_u2 (p2 &&& (31 : Int32)) (p3 &&& (31 : Int32)))), .unset, .unset] [(.int (p5 &&& (31 : Int32)))])) _
    refine XS.iload X9.here hx rfl (hb hby at_100) rfl ?_
    show Steps p.tables e below (T9.setTop (mkF m 102 #[.val (.int p1), .val (.int p2), .val (.int p3), .val (.int p4), .val (.int p5), .val (.int (2 : Int32)), .val (.int (p2 &&& (31 : Int32))), .val (.int (p3 &&& (31 : Int32))), .val (.int (p4 &&& (31 : Int32))), .val (.int (p5 &&& (31 : Int32))), .val (.ref b6), .val (.int (own_u2 (p2 &&& (31 : Int32)) (p3 &&& (31 : Int32)))), .unset, .unset] [(.int (p3 &&& (31 : Int32))), (.int (p5 &&& (31 : Int32)))])) _
    refine XS.icmpYes X9.here hx rfl (pc0 := 102) (pc' := 118) rfl (hb hby at_102) rfl (teq hc102).1 (by decide) (by decide) ?_
    show Steps p.tables e below (T9.setTop (mkF m 118 #[.val (.int p1), .val (.int p2), .val (.int p3), .val (.int p4), .val (.int p5), .val (.int (2 : Int32)), .val (.int (p2 &&& (31 : Int32))), .val (.int (p3 &&& (31 : Int32))), .val (.int (p4 &&& (31 : Int32))), .val (.int (p5 &&& (31 : Int32))), .val (.ref b6), .val (.int (own_u2 (p2 &&& (31 : Int32)) (p3 &&& (31 : Int32)))), .unset, .unset] [])) _
    refine XS.iconst X9.here hx rfl (hb hby at_118) ?_
    show Steps p.tables e below (T9.setTop (mkF m 119 #[.val (.int p1), .val (.int p2), .val (.int p3), .val (.int p4), .val (.int p5), .val (.int (2 : Int32)), .val (.int (p2 &&& (31 : Int32))), .val (.int (p3 &&& (31 : Int32))), .val (.int (p4 &&& (31 : Int32))), .val (.int (p5 &&& (31 : Int32))), .val (.ref b6), .val (.int (own_u2 (p2 &&& (31 : Int32)) (p3 &&& (31 : Int32)))), .unset, .unset] [(.int (1 : Int32))])) _
    refine XS.goto X9.here hx rfl (pc0 := 119) (pc' := 123) rfl (hb hby at_119) (by decide) (by decide) ?_
    show Steps p.tables e below (T9.setTop (mkF m 123 #[.val (.int p1), .val (.int p2), .val (.int p3), .val (.int p4), .val (.int p5), .val (.int (2 : Int32)), .val (.int (p2 &&& (31 : Int32))), .val (.int (p3 &&& (31 : Int32))), .val (.int (p4 &&& (31 : Int32))), .val (.int (p5 &&& (31 : Int32))), .val (.ref b6), .val (.int (own_u2 (p2 &&& (31 : Int32)) (p3 &&& (31 : Int32)))), .unset, .unset] [(.int (1 : Int32))])) _
    refine XS.istore X9.here hx rfl (hb hby at_123) rfl (l' := #[.val (.int p1), .val (.int p2), .val (.int p3), .val (.int p4), .val (.int p5), .val (.int (2 : Int32)), .val (.int (p2 &&& (31 : Int32))), .val (.int (p3 &&& (31 : Int32))), .val (.int (p4 &&& (31 : Int32))), .val (.int (p5 &&& (31 : Int32))), .val (.ref b6), .val (.int (own_u2 (p2 &&& (31 : Int32)) (p3 &&& (31 : Int32)))), .val (.int (1 : Int32)), .unset]) rfl ?_
    show Steps p.tables e below (T9.setTop (mkF m 125 #[.val (.int p1), .val (.int p2), .val (.int p3), .val (.int p4), .val (.int p5), .val (.int (2 : Int32)), .val (.int (p2 &&& (31 : Int32))), .val (.int (p3 &&& (31 : Int32))), .val (.int (p4 &&& (31 : Int32))), .val (.int (p5 &&& (31 : Int32))), .val (.ref b6), .val (.int (own_u2 (p2 &&& (31 : Int32)) (p3 &&& (31 : Int32)))), .val (.int (1 : Int32)), .unset] [])) _
    refine XS.iload X9.here hx rfl (hb hby at_125) rfl ?_
    show Steps p.tables e below (T9.setTop (mkF m 127 #[.val (.int p1), .val (.int p2), .val (.int p3), .val (.int p4), .val (.int p5), .val (.int (2 : Int32)), .val (.int (p2 &&& (31 : Int32))), .val (.int (p3 &&& (31 : Int32))), .val (.int (p4 &&& (31 : Int32))), .val (.int (p5 &&& (31 : Int32))), .val (.ref b6), .val (.int (own_u2 (p2 &&& (31 : Int32)) (p3 &&& (31 : Int32)))), .val (.int (1 : Int32)), .unset] [(.int (own_u2 (p2 &&& (31 : Int32)) (p3 &&& (31 : Int32))))])) _
    refine XS.iload X9.here hx rfl (hb hby at_127) rfl ?_
    show Steps p.tables e below (T9.setTop (mkF m 129 #[.val (.int p1), .val (.int p2), .val (.int p3), .val (.int p4), .val (.int p5), .val (.int (2 : Int32)), .val (.int (p2 &&& (31 : Int32))), .val (.int (p3 &&& (31 : Int32))), .val (.int (p4 &&& (31 : Int32))), .val (.int (p5 &&& (31 : Int32))), .val (.ref b6), .val (.int (own_u2 (p2 &&& (31 : Int32)) (p3 &&& (31 : Int32)))), .val (.int (1 : Int32)), .unset] [(.int (p5 &&& (31 : Int32))), (.int (own_u2 (p2 &&& (31 : Int32)) (p3 &&& (31 : Int32))))])) _
    refine XS.iushr X9.here hx rfl (hb hby at_129) rfl ?_
    show Steps p.tables e below (T9.setTop (mkF m 130 #[.val (.int p1), .val (.int p2), .val (.int p3), .val (.int p4), .val (.int p5), .val (.int (2 : Int32)), .val (.int (p2 &&& (31 : Int32))), .val (.int (p3 &&& (31 : Int32))), .val (.int (p4 &&& (31 : Int32))), .val (.int (p5 &&& (31 : Int32))), .val (.ref b6), .val (.int (own_u2 (p2 &&& (31 : Int32)) (p3 &&& (31 : Int32)))), .val (.int (1 : Int32)), .unset] [(.int (((own_u2 (p2 &&& (31 : Int32)) (p3 &&& (31 : Int32))).toUInt32 >>> ((p5 &&& (31 : Int32)) &&& 31).toUInt32).toInt32))])) _
    refine XS.iconst X9.here hx rfl (hb hby at_130) ?_
    show Steps p.tables e below (T9.setTop (mkF m 131 #[.val (.int p1), .val (.int p2), .val (.int p3), .val (.int p4), .val (.int p5), .val (.int (2 : Int32)), .val (.int (p2 &&& (31 : Int32))), .val (.int (p3 &&& (31 : Int32))), .val (.int (p4 &&& (31 : Int32))), .val (.int (p5 &&& (31 : Int32))), .val (.ref b6), .val (.int (own_u2 (p2 &&& (31 : Int32)) (p3 &&& (31 : Int32)))), .val (.int (1 : Int32)), .unset] [(.int (1 : Int32)), (.int (((own_u2 (p2 &&& (31 : Int32)) (p3 &&& (31 : Int32))).toUInt32 >>> ((p5 &&& (31 : Int32)) &&& 31).toUInt32).toInt32))])) _
    refine XS.iand X9.here hx rfl (hb hby at_131) rfl ?_
    show Steps p.tables e below (T9.setTop (mkF m 132 #[.val (.int p1), .val (.int p2), .val (.int p3), .val (.int p4), .val (.int p5), .val (.int (2 : Int32)), .val (.int (p2 &&& (31 : Int32))), .val (.int (p3 &&& (31 : Int32))), .val (.int (p4 &&& (31 : Int32))), .val (.int (p5 &&& (31 : Int32))), .val (.ref b6), .val (.int (own_u2 (p2 &&& (31 : Int32)) (p3 &&& (31 : Int32)))), .val (.int (1 : Int32)), .unset] [(.int ((((own_u2 (p2 &&& (31 : Int32)) (p3 &&& (31 : Int32))).toUInt32 >>> ((p5 &&& (31 : Int32)) &&& 31).toUInt32).toInt32) &&& (1 : Int32)))])) _
    refine XS.ifNo X9.here hx rfl (hb hby at_132) rfl ((if0 _ _).trans (feq hc132).1) ?_
    show Steps p.tables e below (T9.setTop (mkF m 135 #[.val (.int p1), .val (.int p2), .val (.int p3), .val (.int p4), .val (.int p5), .val (.int (2 : Int32)), .val (.int (p2 &&& (31 : Int32))), .val (.int (p3 &&& (31 : Int32))), .val (.int (p4 &&& (31 : Int32))), .val (.int (p5 &&& (31 : Int32))), .val (.ref b6), .val (.int (own_u2 (p2 &&& (31 : Int32)) (p3 &&& (31 : Int32)))), .val (.int (1 : Int32)), .unset] [])) _
    refine XS.iconst X9.here hx rfl (hb hby at_135) ?_
    show Steps p.tables e below (T9.setTop (mkF m 136 #[.val (.int p1), .val (.int p2), .val (.int p3), .val (.int p4), .val (.int p5), .val (.int (2 : Int32)), .val (.int (p2 &&& (31 : Int32))), .val (.int (p3 &&& (31 : Int32))), .val (.int (p4 &&& (31 : Int32))), .val (.int (p5 &&& (31 : Int32))), .val (.ref b6), .val (.int (own_u2 (p2 &&& (31 : Int32)) (p3 &&& (31 : Int32)))), .val (.int (1 : Int32)), .unset] [(.int (1 : Int32))])) _
    refine XS.goto X9.here hx rfl (pc0 := 136) (pc' := 140) rfl (hb hby at_136) (by decide) (by decide) ?_
    show Steps p.tables e below (T9.setTop (mkF m 140 #[.val (.int p1), .val (.int p2), .val (.int p3), .val (.int p4), .val (.int p5), .val (.int (2 : Int32)), .val (.int (p2 &&& (31 : Int32))), .val (.int (p3 &&& (31 : Int32))), .val (.int (p4 &&& (31 : Int32))), .val (.int (p5 &&& (31 : Int32))), .val (.ref b6), .val (.int (own_u2 (p2 &&& (31 : Int32)) (p3 &&& (31 : Int32)))), .val (.int (1 : Int32)), .unset] [(.int (1 : Int32))])) _
    refine XS.istore X9.here hx rfl (hb hby at_140) rfl (l' := #[.val (.int p1), .val (.int p2), .val (.int p3), .val (.int p4), .val (.int p5), .val (.int (2 : Int32)), .val (.int (p2 &&& (31 : Int32))), .val (.int (p3 &&& (31 : Int32))), .val (.int (p4 &&& (31 : Int32))), .val (.int (p5 &&& (31 : Int32))), .val (.ref b6), .val (.int (own_u2 (p2 &&& (31 : Int32)) (p3 &&& (31 : Int32)))), .val (.int (1 : Int32)), .val (.int (1 : Int32))]) rfl ?_
    show Steps p.tables e below (T9.setTop (mkF m 142 #[.val (.int p1), .val (.int p2), .val (.int p3), .val (.int p4), .val (.int p5), .val (.int (2 : Int32)), .val (.int (p2 &&& (31 : Int32))), .val (.int (p3 &&& (31 : Int32))), .val (.int (p4 &&& (31 : Int32))), .val (.int (p5 &&& (31 : Int32))), .val (.ref b6), .val (.int (own_u2 (p2 &&& (31 : Int32)) (p3 &&& (31 : Int32)))), .val (.int (1 : Int32)), .val (.int (1 : Int32))] [])) _
    refine XS.iload X9.here hx rfl (hb hby at_142) rfl ?_
    show Steps p.tables e below (T9.setTop (mkF m 144 #[.val (.int p1), .val (.int p2), .val (.int p3), .val (.int p4), .val (.int p5), .val (.int (2 : Int32)), .val (.int (p2 &&& (31 : Int32))), .val (.int (p3 &&& (31 : Int32))), .val (.int (p4 &&& (31 : Int32))), .val (.int (p5 &&& (31 : Int32))), .val (.ref b6), .val (.int (own_u2 (p2 &&& (31 : Int32)) (p3 &&& (31 : Int32)))), .val (.int (1 : Int32)), .val (.int (1 : Int32))] [(.int (1 : Int32))])) _
    refine XS.iload X9.here hx rfl (hb hby at_144) rfl ?_
    show Steps p.tables e below (T9.setTop (mkF m 146 #[.val (.int p1), .val (.int p2), .val (.int p3), .val (.int p4), .val (.int p5), .val (.int (2 : Int32)), .val (.int (p2 &&& (31 : Int32))), .val (.int (p3 &&& (31 : Int32))), .val (.int (p4 &&& (31 : Int32))), .val (.int (p5 &&& (31 : Int32))), .val (.ref b6), .val (.int (own_u2 (p2 &&& (31 : Int32)) (p3 &&& (31 : Int32)))), .val (.int (1 : Int32)), .val (.int (1 : Int32))] [(.int (1 : Int32)), (.int (1 : Int32))])) _
    refine XS.icmpNo X9.here hx rfl (hb hby at_146) rfl (teq (rfl : (1 : Int32) = (1 : Int32))).2 ?_
    show Steps p.tables e below (T9.setTop (mkF m 149 #[.val (.int p1), .val (.int p2), .val (.int p3), .val (.int p4), .val (.int p5), .val (.int (2 : Int32)), .val (.int (p2 &&& (31 : Int32))), .val (.int (p3 &&& (31 : Int32))), .val (.int (p4 &&& (31 : Int32))), .val (.int (p5 &&& (31 : Int32))), .val (.ref b6), .val (.int (own_u2 (p2 &&& (31 : Int32)) (p3 &&& (31 : Int32)))), .val (.int (1 : Int32)), .val (.int (1 : Int32))] [])) _
    refine XS.iconst X9.here hx rfl (hb hby at_149) ?_
    show Steps p.tables e below (T9.setTop (mkF m 150 #[.val (.int p1), .val (.int p2), .val (.int p3), .val (.int p4), .val (.int p5), .val (.int (2 : Int32)), .val (.int (p2 &&& (31 : Int32))), .val (.int (p3 &&& (31 : Int32))), .val (.int (p4 &&& (31 : Int32))), .val (.int (p5 &&& (31 : Int32))), .val (.ref b6), .val (.int (own_u2 (p2 &&& (31 : Int32)) (p3 &&& (31 : Int32)))), .val (.int (1 : Int32)), .val (.int (1 : Int32))] [(.int (1 : Int32))])) _
    refine XS.goto X9.here hx rfl (pc0 := 150) (pc' := 154) rfl (hb hby at_150) (by decide) (by decide) ?_
    show Steps p.tables e below (T9.setTop (mkF m 154 #[.val (.int p1), .val (.int p2), .val (.int p3), .val (.int p4), .val (.int p5), .val (.int (2 : Int32)), .val (.int (p2 &&& (31 : Int32))), .val (.int (p3 &&& (31 : Int32))), .val (.int (p4 &&& (31 : Int32))), .val (.int (p5 &&& (31 : Int32))), .val (.ref b6), .val (.int (own_u2 (p2 &&& (31 : Int32)) (p3 &&& (31 : Int32)))), .val (.int (1 : Int32)), .val (.int (1 : Int32))] [(.int (1 : Int32))])) _
    exact retN X9 hx (t := .boolean) Bd.returns (by simp) (hb hby at_154) hr
  · show own_Q0 h0 n0 _ T9.heap _
    rw [e9]
    exact ⟨rfl, N9⟩
set_option maxRecDepth 65536 in
set_option maxHeartbeats 40000000 in
theorem own_rm0_2_2 (l : Launch) (Z : State) (a0 : Array Value) (hw : ∀ d ∈ tables_1, d.before a0 Z = true) (ws : List Jvm.Cond) (p1 : Int32) (p2 : Int32) (p3 : Int32) (p4 : Int32) (p5 : Int32) (h0 : Heap) (n0 : Nat) (Z0 : n0 ≤ h0.size) (hn : (p1 &&& (3 : Int32)) = (2 : Int32)) (hc39 : ¬ ((2 : Int32) < (1 : Int32))) (hc51 : ¬ ((2 : Int32) < (2 : Int32))) (hc63 : (2 : Int32) < (3 : Int32)) (hc82 : ¬ ((2 : Int32) < (1 : Int32))) (hc89 : ¬ ((p5 &&& (31 : Int32)) = (p2 &&& (31 : Int32)))) (hc95 : ¬ ((2 : Int32) < (2 : Int32))) (hc102 : ¬ ((p5 &&& (31 : Int32)) = (p3 &&& (31 : Int32)))) (hc108 : (2 : Int32) < (3 : Int32)) (hc132 : ((((own_u2 (p2 &&& (31 : Int32)) (p3 &&& (31 : Int32))).toUInt32 >>> ((p5 &&& (31 : Int32)) &&& 31).toUInt32).toInt32) &&& (1 : Int32)) = (0 : Int32)) :
    MetFree l x (head1 (Jvm.Cond.code x code maxLocals ret :: ws) room_1) (fun a U => a = #[(.int p1), (.int p2), (.int p3), (.int p4), (.int p5)] ∧ Z.Warmed39 U.vm ∧ U.heap = h0) (fun _ _ _ _ _ => True) (fun _ U o U' => ∃ v L, o = .returned v ∧ own_Q0 h0 n0 v U'.heap L ∧ FrameEnd U o U' L room_1.cells room_1.slots) := by
  refine MetFree.of_bodySF (plainFor_of_name pn_0) hisR ?_
  intro p e s m args below meth c s₁ Bd hml0 hP hK
  obtain ⟨rfl, hZ, hh⟩ := hP
  have hx := Bd.exec
  have hby := Bd.bytes
  have hml : c.maxLocals = 14 := hml0
  have hown : s.vm.findClass "com/example/sundew/sundew/text/BreakPropertiesBitsPinLaw" = some m.cls := findClass_of_methodNamed Bd.named
  have hnm := (name_of_methodNamed Bd.named Bd.method).1
  have X0 : Stand p l e room_1 s m #[(.int p1), (.int p2), (.int p3), (.int p4), (.int p5)] below meth c s₁ [] 0 0 := Stand.of_body Bd
  have e0 : s₁.heap = h0 := by rw [← hh, Bd.state]; rfl
  have N0 := Fr.nil n0
  have pre0 : ∀ t, Steps p.tables e below (s₁.setTop (mkF m 0 #[.val (.int p1), .val (.int p2), .val (.int p3), .val (.int p4), .val (.int p5), .unset, .unset, .unset, .unset, .unset, .unset, .unset, .unset, .unset] [])) t → Steps p.tables e below (s₁.setTop (entryFrame m #[(.int p1), (.int p2), (.int p3), (.int p4), (.int p5)] maxLocals)) t := fun t k => castTop (ef_0 m p1 p2 p3 p4 p5) k
  obtain ⟨T6, h6, k6, X6, e6, E6, A6, st6⟩ := newP X0 hx hZ (hw _ (List.mem_of_getElem? (i := 0) rfl)) e0 (g := (mkF m 32 #[.val (.int p1), .val (.int p2), .val (.int p3), .val (.int p4), .val (.int p5), .val (.int (2 : Int32)), .val (.int (p2 &&& (31 : Int32))), .val (.int (p3 &&& (31 : Int32))), .val (.int (p4 &&& (31 : Int32))), .val (.int (p5 &&& (31 : Int32))), .unset, .unset, .unset, .unset] [(.int (2 : Int32))])) rfl (hb hby at_32) rfl (by decide) (cap := 2) (by decide) (by decide) (by decide) (by decide)
  obtain ⟨b6, g6⟩ : ∃ z, z = h0.size := ⟨_, rfl⟩
  rw [← g6] at A6 st6
  have V_b6 : Arv Z h6 b6 k6 .int (2 : Int32) [(.int (0 : Int32)), (.int (0 : Int32))] (.int (0 : Int32)) := (Arv.new A6 (by decide)).pad (pad_rep [] (.int (0 : Int32)) 2)
  have g_b6 : n0 ≤ b6 := Nat.le_trans Z0 (Nat.le_of_eq g6.symm)
  have sz_b6 : h0.size ≤ b6 := (Nat.le_trans (Keep.refl h0 []).1 (Nat.le_of_eq g6.symm))
  have K6 : Keep h0 h6 [] := (Keep.refl h0 []).ext E6
  obtain ⟨cl_b6_47, Ar_b6, q_b6, S_b6, N_b6, H_b6, G_b6⟩ := V_b6
  have hin47 : ¬ ((0 : Int32) < 0 ∨ cl_b6_47.slots.size ≤ ((0 : Int32)).toNatClampNeg) := inb_of S_b6 ⟨by decide, by decide⟩
  obtain ⟨T7, h7, X7, e7, W7, st7⟩ := stI X6 hx hZ e6 Ar_b6 (j := (0 : Int32)) hin47 (g := (mkF m 47 #[.val (.int p1), .val (.int p2), .val (.int p3), .val (.int p4), .val (.int p5), .val (.int (2 : Int32)), .val (.int (p2 &&& (31 : Int32))), .val (.int (p3 &&& (31 : Int32))), .val (.int (p4 &&& (31 : Int32))), .val (.int (p5 &&& (31 : Int32))), .val (.ref b6), .unset, .unset, .unset] [(.int (p2 &&& (31 : Int32))), (.int (0 : Int32)), (.ref b6)])) rfl rfl (hb hby at_47)
  have V_b6_7 := Arv.set Ar_b6 q_b6 S_b6 N_b6 H_b6 G_b6 rfl W7 0 rfl (Nat.le_of_ble_eq_true rfl)
  have K7 : Keep h0 h7 [] := K6.wr W7 (Or.inr sz_b6)
  have N7 := Fr.snoc X7 N0 g_b6
  obtain ⟨cl_b6_59, Ar_b6, q_b6, S_b6, N_b6, H_b6, G_b6⟩ := V_b6_7
  have hin59 : ¬ ((1 : Int32) < 0 ∨ cl_b6_59.slots.size ≤ ((1 : Int32)).toNatClampNeg) := inb_of S_b6 ⟨by decide, by decide⟩
  obtain ⟨T8, h8, X8, e8, W8, st8⟩ := stI X7 hx hZ e7 Ar_b6 (j := (1 : Int32)) hin59 (g := (mkF m 59 #[.val (.int p1), .val (.int p2), .val (.int p3), .val (.int p4), .val (.int p5), .val (.int (2 : Int32)), .val (.int (p2 &&& (31 : Int32))), .val (.int (p3 &&& (31 : Int32))), .val (.int (p4 &&& (31 : Int32))), .val (.int (p5 &&& (31 : Int32))), .val (.ref b6), .unset, .unset, .unset] [(.int (p3 &&& (31 : Int32))), (.int (1 : Int32)), (.ref b6)])) rfl rfl (hb hby at_59)
  have V_b6_8 := Arv.set Ar_b6 q_b6 S_b6 N_b6 H_b6 G_b6 rfl W8 1 rfl (Nat.le_of_ble_eq_true rfl)
  have K8 : Keep h0 h8 [] := K7.wr W8 (Or.inr sz_b6)
  have N8 := Fr.snoc X8 N7 g_b6
  obtain ⟨_, _, ⟨T9, L9, k9, n9⟩, -, X9, ⟨Lc9, hQ9, l9, y9, z9⟩, st9⟩ := Jvm.LawKit.callS X8 hx (y := (⟨"com/example/sundew/sundew/text/BreakProperties", "bits", "([I)I"⟩ : MethodName)) hown (mvT hZ (hw _ (List.mem_of_getElem? (i := 1) rfl))) (mvT hZ (hw _ (List.mem_of_getElem? (i := 2) rfl))) (mvT hZ (hw _ (List.mem_of_getElem? (i := 3) rfl))) (mvT hZ (hw _ (List.mem_of_getElem? (i := 4) rfl))) (by decide) (backOf (W := 0) (own_rm1_2 l Z a0 hw [] b6 _ (p2 &&& (31 : Int32)) (p3 &&& (31 : Int32)) h8 n0 (Nat.le_trans (Nat.le_trans (Nat.le_trans Z0 E6.1) (Keep.of_wr W7).1) (Keep.of_wr W8).1) V_b6_8) hZ (hw _ (List.mem_of_getElem? (i := 4) rfl)) (hw _ (List.mem_of_getElem? (i := 3) rfl)) (by decide) (by decide)) (g := (mkF m 74 #[.val (.int p1), .val (.int p2), .val (.int p3), .val (.int p4), .val (.int p5), .val (.int (2 : Int32)), .val (.int (p2 &&& (31 : Int32))), .val (.int (p3 &&& (31 : Int32))), .val (.int (p4 &&& (31 : Int32))), .val (.int (p5 &&& (31 : Int32))), .val (.ref b6), .unset, .unset, .unset] [(.ref b6)])) rfl (by rw [hml]; rfl) (argsL := [(.ref b6)]) (rest := []) (lenOf pd_0_0 rfl) rfl (by show 2 * 0 + _ ≤ _; exact Nat.le_of_eq rfl) (hb hby at_74) (fun _ _ => ⟨rfl, e8, (by decide : 1 + 0 ≤ _), (by decide : 2 + 0 ≤ _)⟩)
  dsimp only [Pt.U, Pt.locs, Pt.cells, Pt.slots] at X9 l9 y9 z9 st9 hQ9
  subst l9 y9 z9
  obtain ⟨rfl, N9q, e9⟩ := hQ9
  have N9 := Fr.app N8 N9q
  obtain ⟨fs, hr, hrun, hended, hW, hsame⟩ := X9.leave (v := some (.int (1 : Int32))) (fun h => by rw [Bd.returns] at h; cases h)
  refine ⟨_, _, pre0 _ ?_, hrun, hended, _, _, rfl, ?_, ⟨_, rfl⟩, hW, hsame.mono (by decide) (by decide)⟩
  · show Steps p.tables e below (s₁.setTop (mkF m 0 #[.val (.int p1), .val (.int p2), .val (.int p3), .val (.int p4), .val (.int p5), .unset, .unset, .unset, .unset, .unset, .unset, .unset, .unset, .unset] [])) _
    refine XS.iloadN X0.here hx rfl (hb hby at_0) rfl ?_
    show Steps p.tables e below (s₁.setTop (mkF m 1 #[.val (.int p1), .val (.int p2), .val (.int p3), .val (.int p4), .val (.int p5), .unset, .unset, .unset, .unset, .unset, .unset, .unset, .unset, .unset] [(.int p1)])) _
    refine XS.iconst X0.here hx rfl (hb hby at_1) ?_
    show Steps p.tables e below (s₁.setTop (mkF m 2 #[.val (.int p1), .val (.int p2), .val (.int p3), .val (.int p4), .val (.int p5), .unset, .unset, .unset, .unset, .unset, .unset, .unset, .unset, .unset] [(.int (3 : Int32)), (.int p1)])) _
    refine XS.iand X0.here hx rfl (hb hby at_2) rfl ?_
    show Steps p.tables e below (s₁.setTop (mkF m 3 #[.val (.int p1), .val (.int p2), .val (.int p3), .val (.int p4), .val (.int p5), .unset, .unset, .unset, .unset, .unset, .unset, .unset, .unset, .unset] [(.int (p1 &&& (3 : Int32)))])) _
    rw [hn]
    show Steps p.tables e below (s₁.setTop (mkF m 3 #[.val (.int p1), .val (.int p2), .val (.int p3), .val (.int p4), .val (.int p5), .unset, .unset, .unset, .unset, .unset, .unset, .unset, .unset, .unset] [(.int (2 : Int32))])) _
    refine XS.istore X0.here hx rfl (hb hby at_3) rfl (l' := #[.val (.int p1), .val (.int p2), .val (.int p3), .val (.int p4), .val (.int p5), .val (.int (2 : Int32)), .unset, .unset, .unset, .unset, .unset, .unset, .unset, .unset]) rfl ?_
    show Steps p.tables e below (s₁.setTop (mkF m 5 #[.val (.int p1), .val (.int p2), .val (.int p3), .val (.int p4), .val (.int p5), .val (.int (2 : Int32)), .unset, .unset, .unset, .unset, .unset, .unset, .unset, .unset] [])) _
    refine XS.iloadN X0.here hx rfl (hb hby at_5) rfl ?_
    show Steps p.tables e below (s₁.setTop (mkF m 6 #[.val (.int p1), .val (.int p2), .val (.int p3), .val (.int p4), .val (.int p5), .val (.int (2 : Int32)), .unset, .unset, .unset, .unset, .unset, .unset, .unset, .unset] [(.int p2)])) _
    refine XS.bipush X0.here hx rfl (hb hby at_6) ?_
    show Steps p.tables e below (s₁.setTop (mkF m 8 #[.val (.int p1), .val (.int p2), .val (.int p3), .val (.int p4), .val (.int p5), .val (.int (2 : Int32)), .unset, .unset, .unset, .unset, .unset, .unset, .unset, .unset] [(.int (31 : Int32)), (.int p2)])) _
    refine XS.iand X0.here hx rfl (hb hby at_8) rfl ?_
    show Steps p.tables e below (s₁.setTop (mkF m 9 #[.val (.int p1), .val (.int p2), .val (.int p3), .val (.int p4), .val (.int p5), .val (.int (2 : Int32)), .unset, .unset, .unset, .unset, .unset, .unset, .unset, .unset] [(.int (p2 &&& (31 : Int32)))])) _
    refine XS.istore X0.here hx rfl (hb hby at_9) rfl (l' := #[.val (.int p1), .val (.int p2), .val (.int p3), .val (.int p4), .val (.int p5), .val (.int (2 : Int32)), .val (.int (p2 &&& (31 : Int32))), .unset, .unset, .unset, .unset, .unset, .unset, .unset]) rfl ?_
    show Steps p.tables e below (s₁.setTop (mkF m 11 #[.val (.int p1), .val (.int p2), .val (.int p3), .val (.int p4), .val (.int p5), .val (.int (2 : Int32)), .val (.int (p2 &&& (31 : Int32))), .unset, .unset, .unset, .unset, .unset, .unset, .unset] [])) _
    refine XS.iloadN X0.here hx rfl (hb hby at_11) rfl ?_
    show Steps p.tables e below (s₁.setTop (mkF m 12 #[.val (.int p1), .val (.int p2), .val (.int p3), .val (.int p4), .val (.int p5), .val (.int (2 : Int32)), .val (.int (p2 &&& (31 : Int32))), .unset, .unset, .unset, .unset, .unset, .unset, .unset] [(.int p3)])) _
    refine XS.bipush X0.here hx rfl (hb hby at_12) ?_
    show Steps p.tables e below (s₁.setTop (mkF m 14 #[.val (.int p1), .val (.int p2), .val (.int p3), .val (.int p4), .val (.int p5), .val (.int (2 : Int32)), .val (.int (p2 &&& (31 : Int32))), .unset, .unset, .unset, .unset, .unset, .unset, .unset] [(.int (31 : Int32)), (.int p3)])) _
    refine XS.iand X0.here hx rfl (hb hby at_14) rfl ?_
    show Steps p.tables e below (s₁.setTop (mkF m 15 #[.val (.int p1), .val (.int p2), .val (.int p3), .val (.int p4), .val (.int p5), .val (.int (2 : Int32)), .val (.int (p2 &&& (31 : Int32))), .unset, .unset, .unset, .unset, .unset, .unset, .unset] [(.int (p3 &&& (31 : Int32)))])) _
    refine XS.istore X0.here hx rfl (hb hby at_15) rfl (l' := #[.val (.int p1), .val (.int p2), .val (.int p3), .val (.int p4), .val (.int p5), .val (.int (2 : Int32)), .val (.int (p2 &&& (31 : Int32))), .val (.int (p3 &&& (31 : Int32))), .unset, .unset, .unset, .unset, .unset, .unset]) rfl ?_
    show Steps p.tables e below (s₁.setTop (mkF m 17 #[.val (.int p1), .val (.int p2), .val (.int p3), .val (.int p4), .val (.int p5), .val (.int (2 : Int32)), .val (.int (p2 &&& (31 : Int32))), .val (.int (p3 &&& (31 : Int32))), .unset, .unset, .unset, .unset, .unset, .unset] [])) _
    refine XS.iloadN X0.here hx rfl (hb hby at_17) rfl ?_
    show Steps p.tables e below (s₁.setTop (mkF m 18 #[.val (.int p1), .val (.int p2), .val (.int p3), .val (.int p4), .val (.int p5), .val (.int (2 : Int32)), .val (.int (p2 &&& (31 : Int32))), .val (.int (p3 &&& (31 : Int32))), .unset, .unset, .unset, .unset, .unset, .unset] [(.int p4)])) _
    refine XS.bipush X0.here hx rfl (hb hby at_18) ?_
    show Steps p.tables e below (s₁.setTop (mkF m 20 #[.val (.int p1), .val (.int p2), .val (.int p3), .val (.int p4), .val (.int p5), .val (.int (2 : Int32)), .val (.int (p2 &&& (31 : Int32))), .val (.int (p3 &&& (31 : Int32))), .unset, .unset, .unset, .unset, .unset, .unset] [(.int (31 : Int32)), (.int p4)])) _
    refine XS.iand X0.here hx rfl (hb hby at_20) rfl ?_
    show Steps p.tables e below (s₁.setTop (mkF m 21 #[.val (.int p1), .val (.int p2), .val (.int p3), .val (.int p4), .val (.int p5), .val (.int (2 : Int32)), .val (.int (p2 &&& (31 : Int32))), .val (.int (p3 &&& (31 : Int32))), .unset, .unset, .unset, .unset, .unset, .unset] [(.int (p4 &&& (31 : Int32)))])) _
    refine XS.istore X0.here hx rfl (hb hby at_21) rfl (l' := #[.val (.int p1), .val (.int p2), .val (.int p3), .val (.int p4), .val (.int p5), .val (.int (2 : Int32)), .val (.int (p2 &&& (31 : Int32))), .val (.int (p3 &&& (31 : Int32))), .val (.int (p4 &&& (31 : Int32))), .unset, .unset, .unset, .unset, .unset]) rfl ?_
    show Steps p.tables e below (s₁.setTop (mkF m 23 #[.val (.int p1), .val (.int p2), .val (.int p3), .val (.int p4), .val (.int p5), .val (.int (2 : Int32)), .val (.int (p2 &&& (31 : Int32))), .val (.int (p3 &&& (31 : Int32))), .val (.int (p4 &&& (31 : Int32))), .unset, .unset, .unset, .unset, .unset] [])) _
    refine XS.iload X0.here hx rfl (hb hby at_23) rfl ?_
    show Steps p.tables e below (s₁.setTop (mkF m 25 #[.val (.int p1), .val (.int p2), .val (.int p3), .val (.int p4), .val (.int p5), .val (.int (2 : Int32)), .val (.int (p2 &&& (31 : Int32))), .val (.int (p3 &&& (31 : Int32))), .val (.int (p4 &&& (31 : Int32))), .unset, .unset, .unset, .unset, .unset] [(.int p5)])) _
    refine XS.bipush X0.here hx rfl (hb hby at_25) ?_
    show Steps p.tables e below (s₁.setTop (mkF m 27 #[.val (.int p1), .val (.int p2), .val (.int p3), .val (.int p4), .val (.int p5), .val (.int (2 : Int32)), .val (.int (p2 &&& (31 : Int32))), .val (.int (p3 &&& (31 : Int32))), .val (.int (p4 &&& (31 : Int32))), .unset, .unset, .unset, .unset, .unset] [(.int (31 : Int32)), (.int p5)])) _
    refine XS.iand X0.here hx rfl (hb hby at_27) rfl ?_
    show Steps p.tables e below (s₁.setTop (mkF m 28 #[.val (.int p1), .val (.int p2), .val (.int p3), .val (.int p4), .val (.int p5), .val (.int (2 : Int32)), .val (.int (p2 &&& (31 : Int32))), .val (.int (p3 &&& (31 : Int32))), .val (.int (p4 &&& (31 : Int32))), .unset, .unset, .unset, .unset, .unset] [(.int (p5 &&& (31 : Int32)))])) _
    refine XS.istore X0.here hx rfl (hb hby at_28) rfl (l' := #[.val (.int p1), .val (.int p2), .val (.int p3), .val (.int p4), .val (.int p5), .val (.int (2 : Int32)), .val (.int (p2 &&& (31 : Int32))), .val (.int (p3 &&& (31 : Int32))), .val (.int (p4 &&& (31 : Int32))), .val (.int (p5 &&& (31 : Int32))), .unset, .unset, .unset, .unset]) rfl ?_
    show Steps p.tables e below (s₁.setTop (mkF m 30 #[.val (.int p1), .val (.int p2), .val (.int p3), .val (.int p4), .val (.int p5), .val (.int (2 : Int32)), .val (.int (p2 &&& (31 : Int32))), .val (.int (p3 &&& (31 : Int32))), .val (.int (p4 &&& (31 : Int32))), .val (.int (p5 &&& (31 : Int32))), .unset, .unset, .unset, .unset] [])) _
    refine XS.iload X0.here hx rfl (hb hby at_30) rfl ?_
    show Steps p.tables e below (s₁.setTop (mkF m 32 #[.val (.int p1), .val (.int p2), .val (.int p3), .val (.int p4), .val (.int p5), .val (.int (2 : Int32)), .val (.int (p2 &&& (31 : Int32))), .val (.int (p3 &&& (31 : Int32))), .val (.int (p4 &&& (31 : Int32))), .val (.int (p5 &&& (31 : Int32))), .unset, .unset, .unset, .unset] [(.int (2 : Int32))])) _
    refine st6 _ ?_
    show Steps p.tables e below (T6.setTop (mkF m 34 #[.val (.int p1), .val (.int p2), .val (.int p3), .val (.int p4), .val (.int p5), .val (.int (2 : Int32)), .val (.int (p2 &&& (31 : Int32))), .val (.int (p3 &&& (31 : Int32))), .val (.int (p4 &&& (31 : Int32))), .val (.int (p5 &&& (31 : Int32))), .unset, .unset, .unset, .unset] [(.ref b6)])) _
    refine XS.astore X6.here hx rfl (hb hby at_34) rfl rfl (l' := #[.val (.int p1), .val (.int p2), .val (.int p3), .val (.int p4), .val (.int p5), .val (.int (2 : Int32)), .val (.int (p2 &&& (31 : Int32))), .val (.int (p3 &&& (31 : Int32))), .val (.int (p4 &&& (31 : Int32))), .val (.int (p5 &&& (31 : Int32))), .val (.ref b6), .unset, .unset, .unset]) rfl ?_
    show Steps p.tables e below (T6.setTop (mkF m 36 #[.val (.int p1), .val (.int p2), .val (.int p3), .val (.int p4), .val (.int p5), .val (.int (2 : Int32)), .val (.int (p2 &&& (31 : Int32))), .val (.int (p3 &&& (31 : Int32))), .val (.int (p4 &&& (31 : Int32))), .val (.int (p5 &&& (31 : Int32))), .val (.ref b6), .unset, .unset, .unset] [])) _
    refine XS.iload X6.here hx rfl (hb hby at_36) rfl ?_
    show Steps p.tables e below (T6.setTop (mkF m 38 #[.val (.int p1), .val (.int p2), .val (.int p3), .val (.int p4), .val (.int p5), .val (.int (2 : Int32)), .val (.int (p2 &&& (31 : Int32))), .val (.int (p3 &&& (31 : Int32))), .val (.int (p4 &&& (31 : Int32))), .val (.int (p5 &&& (31 : Int32))), .val (.ref b6), .unset, .unset, .unset] [(.int (2 : Int32))])) _
    refine XS.iconst X6.here hx rfl (hb hby at_38) ?_
    show Steps p.tables e below (T6.setTop (mkF m 39 #[.val (.int p1), .val (.int p2), .val (.int p3), .val (.int p4), .val (.int p5), .val (.int (2 : Int32)), .val (.int (p2 &&& (31 : Int32))), .val (.int (p3 &&& (31 : Int32))), .val (.int (p4 &&& (31 : Int32))), .val (.int (p5 &&& (31 : Int32))), .val (.ref b6), .unset, .unset, .unset] [(.int (1 : Int32)), (.int (2 : Int32))])) _
    refine XS.icmpNo X6.here hx rfl (hb hby at_39) rfl (flt hc39).1 ?_
    show Steps p.tables e below (T6.setTop (mkF m 42 #[.val (.int p1), .val (.int p2), .val (.int p3), .val (.int p4), .val (.int p5), .val (.int (2 : Int32)), .val (.int (p2 &&& (31 : Int32))), .val (.int (p3 &&& (31 : Int32))), .val (.int (p4 &&& (31 : Int32))), .val (.int (p5 &&& (31 : Int32))), .val (.ref b6), .unset, .unset, .unset] [])) _
    refine XS.aload X6.here hx rfl (hb hby at_42) rfl rfl ?_
    show Steps p.tables e below (T6.setTop (mkF m 44 #[.val (.int p1), .val (.int p2), .val (.int p3), .val (.int p4), .val (.int p5), .val (.int (2 : Int32)), .val (.int (p2 &&& (31 : Int32))), .val (.int (p3 &&& (31 : Int32))), .val (.int (p4 &&& (31 : Int32))), .val (.int (p5 &&& (31 : Int32))), .val (.ref b6), .unset, .unset, .unset] [(.ref b6)])) _
    refine XS.iconst X6.here hx rfl (hb hby at_44) ?_
    show Steps p.tables e below (T6.setTop (mkF m 45 #[.val (.int p1), .val (.int p2), .val (.int p3), .val (.int p4), .val (.int p5), .val (.int (2 : Int32)), .val (.int (p2 &&& (31 : Int32))), .val (.int (p3 &&& (31 : Int32))), .val (.int (p4 &&& (31 : Int32))), .val (.int (p5 &&& (31 : Int32))), .val (.ref b6), .unset, .unset, .unset] [(.int (0 : Int32)), (.ref b6)])) _
    refine XS.iload X6.here hx rfl (hb hby at_45) rfl ?_
    show Steps p.tables e below (T6.setTop (mkF m 47 #[.val (.int p1), .val (.int p2), .val (.int p3), .val (.int p4), .val (.int p5), .val (.int (2 : Int32)), .val (.int (p2 &&& (31 : Int32))), .val (.int (p3 &&& (31 : Int32))), .val (.int (p4 &&& (31 : Int32))), .val (.int (p5 &&& (31 : Int32))), .val (.ref b6), .unset, .unset, .unset] [(.int (p2 &&& (31 : Int32))), (.int (0 : Int32)), (.ref b6)])) _
    refine st7 _ ?_
    show Steps p.tables e below (T7.setTop (mkF m 48 #[.val (.int p1), .val (.int p2), .val (.int p3), .val (.int p4), .val (.int p5), .val (.int (2 : Int32)), .val (.int (p2 &&& (31 : Int32))), .val (.int (p3 &&& (31 : Int32))), .val (.int (p4 &&& (31 : Int32))), .val (.int (p5 &&& (31 : Int32))), .val (.ref b6), .unset, .unset, .unset] [])) _
    refine XS.iload X7.here hx rfl (hb hby at_48) rfl ?_
    show Steps p.tables e below (T7.setTop (mkF m 50 #[.val (.int p1), .val (.int p2), .val (.int p3), .val (.int p4), .val (.int p5), .val (.int (2 : Int32)), .val (.int (p2 &&& (31 : Int32))), .val (.int (p3 &&& (31 : Int32))), .val (.int (p4 &&& (31 : Int32))), .val (.int (p5 &&& (31 : Int32))), .val (.ref b6), .unset, .unset, .unset] [(.int (2 : Int32))])) _
    refine XS.iconst X7.here hx rfl (hb hby at_50) ?_
    show Steps p.tables e below (T7.setTop (mkF m 51 #[.val (.int p1), .val (.int p2), .val (.int p3), .val (.int p4), .val (.int p5), .val (.int (2 : Int32)), .val (.int (p2 &&& (31 : Int32))), .val (.int (p3 &&& (31 : Int32))), .val (.int (p4 &&& (31 : Int32))), .val (.int (p5 &&& (31 : Int32))), .val (.ref b6), .unset, .unset, .unset] [(.int (2 : Int32)), (.int (2 : Int32))])) _
    refine XS.icmpNo X7.here hx rfl (hb hby at_51) rfl (flt hc51).1 ?_
    show Steps p.tables e below (T7.setTop (mkF m 54 #[.val (.int p1), .val (.int p2), .val (.int p3), .val (.int p4), .val (.int p5), .val (.int (2 : Int32)), .val (.int (p2 &&& (31 : Int32))), .val (.int (p3 &&& (31 : Int32))), .val (.int (p4 &&& (31 : Int32))), .val (.int (p5 &&& (31 : Int32))), .val (.ref b6), .unset, .unset, .unset] [])) _
    refine XS.aload X7.here hx rfl (hb hby at_54) rfl rfl ?_
    show Steps p.tables e below (T7.setTop (mkF m 56 #[.val (.int p1), .val (.int p2), .val (.int p3), .val (.int p4), .val (.int p5), .val (.int (2 : Int32)), .val (.int (p2 &&& (31 : Int32))), .val (.int (p3 &&& (31 : Int32))), .val (.int (p4 &&& (31 : Int32))), .val (.int (p5 &&& (31 : Int32))), .val (.ref b6), .unset, .unset, .unset] [(.ref b6)])) _
    refine XS.iconst X7.here hx rfl (hb hby at_56) ?_
    show Steps p.tables e below (T7.setTop (mkF m 57 #[.val (.int p1), .val (.int p2), .val (.int p3), .val (.int p4), .val (.int p5), .val (.int (2 : Int32)), .val (.int (p2 &&& (31 : Int32))), .val (.int (p3 &&& (31 : Int32))), .val (.int (p4 &&& (31 : Int32))), .val (.int (p5 &&& (31 : Int32))), .val (.ref b6), .unset, .unset, .unset] [(.int (1 : Int32)), (.ref b6)])) _
    refine XS.iload X7.here hx rfl (hb hby at_57) rfl ?_
    show Steps p.tables e below (T7.setTop (mkF m 59 #[.val (.int p1), .val (.int p2), .val (.int p3), .val (.int p4), .val (.int p5), .val (.int (2 : Int32)), .val (.int (p2 &&& (31 : Int32))), .val (.int (p3 &&& (31 : Int32))), .val (.int (p4 &&& (31 : Int32))), .val (.int (p5 &&& (31 : Int32))), .val (.ref b6), .unset, .unset, .unset] [(.int (p3 &&& (31 : Int32))), (.int (1 : Int32)), (.ref b6)])) _
    refine st8 _ ?_
    show Steps p.tables e below (T8.setTop (mkF m 60 #[.val (.int p1), .val (.int p2), .val (.int p3), .val (.int p4), .val (.int p5), .val (.int (2 : Int32)), .val (.int (p2 &&& (31 : Int32))), .val (.int (p3 &&& (31 : Int32))), .val (.int (p4 &&& (31 : Int32))), .val (.int (p5 &&& (31 : Int32))), .val (.ref b6), .unset, .unset, .unset] [])) _
    refine XS.iload X8.here hx rfl (hb hby at_60) rfl ?_
    show Steps p.tables e below (T8.setTop (mkF m 62 #[.val (.int p1), .val (.int p2), .val (.int p3), .val (.int p4), .val (.int p5), .val (.int (2 : Int32)), .val (.int (p2 &&& (31 : Int32))), .val (.int (p3 &&& (31 : Int32))), .val (.int (p4 &&& (31 : Int32))), .val (.int (p5 &&& (31 : Int32))), .val (.ref b6), .unset, .unset, .unset] [(.int (2 : Int32))])) _
    refine XS.iconst X8.here hx rfl (hb hby at_62) ?_
    show Steps p.tables e below (T8.setTop (mkF m 63 #[.val (.int p1), .val (.int p2), .val (.int p3), .val (.int p4), .val (.int p5), .val (.int (2 : Int32)), .val (.int (p2 &&& (31 : Int32))), .val (.int (p3 &&& (31 : Int32))), .val (.int (p4 &&& (31 : Int32))), .val (.int (p5 &&& (31 : Int32))), .val (.ref b6), .unset, .unset, .unset] [(.int (3 : Int32)), (.int (2 : Int32))])) _
    refine XS.icmpYes X8.here hx rfl (pc0 := 63) (pc' := 72) rfl (hb hby at_63) rfl (tlt hc63).1 (by decide) (by decide) ?_
    show Steps p.tables e below (T8.setTop (mkF m 72 #[.val (.int p1), .val (.int p2), .val (.int p3), .val (.int p4), .val (.int p5), .val (.int (2 : Int32)), .val (.int (p2 &&& (31 : Int32))), .val (.int (p3 &&& (31 : Int32))), .val (.int (p4 &&& (31 : Int32))), .val (.int (p5 &&& (31 : Int32))), .val (.ref b6), .unset, .unset, .unset] [])) _
    refine XS.aload X8.here hx rfl (hb hby at_72) rfl rfl ?_
    show Steps p.tables e below (T8.setTop (mkF m 74 #[.val (.int p1), .val (.int p2), .val (.int p3), .val (.int p4), .val (.int p5), .val (.int (2 : Int32)), .val (.int (p2 &&& (31 : Int32))), .val (.int (p3 &&& (31 : Int32))), .val (.int (p4 &&& (31 : Int32))), .val (.int (p5 &&& (31 : Int32))), .val (.ref b6), .unset, .unset, .unset] [(.ref b6)])) _
    refine st9 _ ?_
    show Steps p.tables e below (T9.setTop (mkF m 77 #[.val (.int p1), .val (.int p2), .val (.int p3), .val (.int p4), .val (.int p5), .val (.int (2 : Int32)), .val (.int (p2 &&& (31 : Int32))), .val (.int (p3 &&& (31 : Int32))), .val (.int (p4 &&& (31 : Int32))), .val (.int (p5 &&& (31 : Int32))), .val (.ref b6), .unset, .unset, .unset] [(.int (own_u2 (p2 &&& (31 : Int32)) (p3 &&& (31 : Int32))))])) _
    refine XS.istore X9.here hx rfl (hb hby at_77) rfl (l' := #[.val (.int p1), .val (.int p2), .val (.int p3), .val (.int p4), .val (.int p5), .val (.int (2 : Int32)), .val (.int (p2 &&& (31 : Int32))), .val (.int (p3 &&& (31 : Int32))), .val (.int (p4 &&& (31 : Int32))), .val (.int (p5 &&& (31 : Int32))), .val (.ref b6), .val (.int (own_u2 (p2 &&& (31 : Int32)) (p3 &&& (31 : Int32)))), .unset, .unset]) rfl ?_
    show Steps p.tables e below (T9.setTop (mkF m 79 #[.val (.int p1), .val (.int p2), .val (.int p3), .val (.int p4), .val (.int p5), .val (.int (2 : Int32)), .val (.int (p2 &&& (31 : Int32))), .val (.int (p3 &&& (31 : Int32))), .val (.int (p4 &&& (31 : Int32))), .val (.int (p5 &&& (31 : Int32))), .val (.ref b6), .val (.int (own_u2 (p2 &&& (31 : Int32)) (p3 &&& (31 : Int32)))), .unset, .unset] [])) _
    refine XS.iload X9.here hx rfl (hb hby at_79) rfl ?_
    show Steps p.tables e below (T9.setTop (mkF m 81 #[.val (.int p1), .val (.int p2), .val (.int p3), .val (.int p4), .val (.int p5), .val (.int (2 : Int32)), .val (.int (p2 &&& (31 : Int32))), .val (.int (p3 &&& (31 : Int32))), .val (.int (p4 &&& (31 : Int32))), .val (.int (p5 &&& (31 : Int32))), .val (.ref b6), .val (.int (own_u2 (p2 &&& (31 : Int32)) (p3 &&& (31 : Int32)))), .unset, .unset] [(.int (2 : Int32))])) _
    refine XS.iconst X9.here hx rfl (hb hby at_81) ?_
    show Steps p.tables e below (T9.setTop (mkF m 82 #[.val (.int p1), .val (.int p2), .val (.int p3), .val (.int p4), .val (.int p5), .val (.int (2 : Int32)), .val (.int (p2 &&& (31 : Int32))), .val (.int (p3 &&& (31 : Int32))), .val (.int (p4 &&& (31 : Int32))), .val (.int (p5 &&& (31 : Int32))), .val (.ref b6), .val (.int (own_u2 (p2 &&& (31 : Int32)) (p3 &&& (31 : Int32)))), .unset, .unset] [(.int (1 : Int32)), (.int (2 : Int32))])) _
    refine XS.icmpNo X9.here hx rfl (hb hby at_82) rfl (flt hc82).1 ?_
    show Steps p.tables e below (T9.setTop (mkF m 85 #[.val (.int p1), .val (.int p2), .val (.int p3), .val (.int p4), .val (.int p5), .val (.int (2 : Int32)), .val (.int (p2 &&& (31 : Int32))), .val (.int (p3 &&& (31 : Int32))), .val (.int (p4 &&& (31 : Int32))), .val (.int (p5 &&& (31 : Int32))), .val (.ref b6), .val (.int (own_u2 (p2 &&& (31 : Int32)) (p3 &&& (31 : Int32)))), .unset, .unset] [])) _
    refine XS.iload X9.here hx rfl (hb hby at_85) rfl ?_
    show Steps p.tables e below (T9.setTop (mkF m 87 #[.val (.int p1), .val (.int p2), .val (.int p3), .val (.int p4), .val (.int p5), .val (.int (2 : Int32)), .val (.int (p2 &&& (31 : Int32))), .val (.int (p3 &&& (31 : Int32))), .val (.int (p4 &&& (31 : Int32))), .val (.int (p5 &&& (31 : Int32))), .val (.ref b6), .val (.int (own_u2 (p2 &&& (31 : Int32)) (p3 &&& (31 : Int32)))), .unset, .unset] [(.int (p5 &&& (31 : Int32)))])) _
    refine XS.iload X9.here hx rfl (hb hby at_87) rfl ?_
    show Steps p.tables e below (T9.setTop (mkF m 89 #[.val (.int p1), .val (.int p2), .val (.int p3), .val (.int p4), .val (.int p5), .val (.int (2 : Int32)), .val (.int (p2 &&& (31 : Int32))), .val (.int (p3 &&& (31 : Int32))), .val (.int (p4 &&& (31 : Int32))), .val (.int (p5 &&& (31 : Int32))), .val (.ref b6), .val (.int (own_u2 (p2 &&& (31 : Int32)) (p3 &&& (31 : Int32)))), .unset, .unset] [(.int (p2 &&& (31 : Int32))), (.int (p5 &&& (31 : Int32)))])) _
    refine XS.icmpNo X9.here hx rfl (hb hby at_89) rfl (feq hc89).1 ?_
    show Steps p.tables e below (T9.setTop (mkF m 92 #[.val (.int p1), .val (.int p2), .val (.int p3), .val (.int p4), .val (.int p5), .val (.int (2 : Int32)), .val (.int (p2 &&& (31 : Int32))), .val (.int (p3 &&& (31 : Int32))), .val (.int (p4 &&& (31 : Int32))), .val (.int (p5 &&& (31 : Int32))), .val (.ref b6), .val (.int (own_u2 (p2 &&& (31 : Int32)) (p3 &&& (31 : Int32)))), .unset, .unset] [])) _
    refine XS.iload X9.here hx rfl (hb hby at_92) rfl ?_
    show Steps p.tables e below (T9.setTop (mkF m 94 #[.val (.int p1), .val (.int p2), .val (.int p3), .val (.int p4), .val (.int p5), .val (.int (2 : Int32)), .val (.int (p2 &&& (31 : Int32))), .val (.int (p3 &&& (31 : Int32))), .val (.int (p4 &&& (31 : Int32))), .val (.int (p5 &&& (31 : Int32))), .val (.ref b6), .val (.int (own_u2 (p2 &&& (31 : Int32)) (p3 &&& (31 : Int32)))), .unset, .unset] [(.int (2 : Int32))])) _
    refine XS.iconst X9.here hx rfl (hb hby at_94) ?_
    show Steps p.tables e below (T9.setTop (mkF m 95 #[.val (.int p1), .val (.int p2), .val (.int p3), .val (.int p4), .val (.int p5), .val (.int (2 : Int32)), .val (.int (p2 &&& (31 : Int32))), .val (.int (p3 &&& (31 : Int32))), .val (.int (p4 &&& (31 : Int32))), .val (.int (p5 &&& (31 : Int32))), .val (.ref b6), .val (.int (own_u2 (p2 &&& (31 : Int32)) (p3 &&& (31 : Int32)))), .unset, .unset] [(.int (2 : Int32)), (.int (2 : Int32))])) _
    refine XS.icmpNo X9.here hx rfl (hb hby at_95) rfl (flt hc95).1 ?_
    show Steps p.tables e below (T9.setTop (mkF m 98 #[.val (.int p1), .val (.int p2), .val (.int p3), .val (.int p4), .val (.int p5), .val (.int (2 : Int32)), .val (.int (p2 &&& (31 : Int32))), .val (.int (p3 &&& (31 : Int32))), .val (.int (p4 &&& (31 : Int32))), .val (.int (p5 &&& (31 : Int32))), .val (.ref b6), .val (.int (own_u2 (p2 &&& (31 : Int32)) (p3 &&& (31 : Int32)))), .unset, .unset] [])) _
    refine XS.iload X9.here hx rfl (hb hby at_98) rfl ?_
    show Steps p.tables e below (T9.setTop (mkF m 100 #[.val (.int p1), .val (.int p2), .val (.int p3), .val (.int p4), .val (.int p5), .val (.int (2 : Int32)), .val (.int (p2 &&& (31 : Int32))), .val (.int (p3 &&& (31 : Int32))), .val (.int (p4 &&& (31 : Int32))), .val (.int (p5 &&& (31 : Int32))), .val (.ref b6), .val (.int (own_u2 (p2 &&& (31 : Int32)) (p3 &&& (31 : Int32)))), .unset, .unset] [(.int (p5 &&& (31 : Int32)))])) _
    refine XS.iload X9.here hx rfl (hb hby at_100) rfl ?_
    show Steps p.tables e below (T9.setTop (mkF m 102 #[.val (.int p1), .val (.int p2), .val (.int p3), .val (.int p4), .val (.int p5), .val (.int (2 : Int32)), .val (.int (p2 &&& (31 : Int32))), .val (.int (p3 &&& (31 : Int32))), .val (.int (p4 &&& (31 : Int32))), .val (.int (p5 &&& (31 : Int32))), .val (.ref b6), .val (.int (own_u2 (p2 &&& (31 : Int32)) (p3 &&& (31 : Int32)))), .unset, .unset] [(.int (p3 &&& (31 : Int32))), (.int (p5 &&& (31 : Int32)))])) _
    refine XS.icmpNo X9.here hx rfl (hb hby at_102) rfl (feq hc102).1 ?_
    show Steps p.tables e below (T9.setTop (mkF m 105 #[.val (.int p1), .val (.int p2), .val (.int p3), .val (.int p4), .val (.int p5), .val (.int (2 : Int32)), .val (.int (p2 &&& (31 : Int32))), .val (.int (p3 &&& (31 : Int32))), .val (.int (p4 &&& (31 : Int32))), .val (.int (p5 &&& (31 : Int32))), .val (.ref b6), .val (.int (own_u2 (p2 &&& (31 : Int32)) (p3 &&& (31 : Int32)))), .unset, .unset] [])) _
    refine XS.iload X9.here hx rfl (hb hby at_105) rfl ?_
    show Steps p.tables e below (T9.setTop (mkF m 107 #[.val (.int p1), .val (.int p2), .val (.int p3), .val (.int p4), .val (.int p5), .val (.int (2 : Int32)), .val (.int (p2 &&& (31 : Int32))), .val (.int (p3 &&& (31 : Int32))), .val (.int (p4 &&& (31 : Int32))), .val (.int (p5 &&& (31 : Int32))), .val (.ref b6), .val (.int (own_u2 (p2 &&& (31 : Int32)) (p3 &&& (31 : Int32)))), .unset, .unset] [(.int (2 : Int32))])) _
    refine XS.iconst X9.here hx rfl (hb hby at_107) ?_
    show Steps p.tables e below (T9.setTop (mkF m 108 #[.val (.int p1), .val (.int p2), .val (.int p3), .val (.int p4), .val (.int p5), .val (.int (2 : Int32)), .val (.int (p2 &&& (31 : Int32))), .val (.int (p3 &&& (31 : Int32))), .val (.int (p4 &&& (31 : Int32))), .val (.int (p5 &&& (31 : Int32))), .val (.ref b6), .val (.int (own_u2 (p2 &&& (31 : Int32)) (p3 &&& (31 : Int32)))), .unset, .unset] [(.int (3 : Int32)), (.int (2 : Int32))])) _
    refine XS.icmpYes X9.here hx rfl (pc0 := 108) (pc' := 122) rfl (hb hby at_108) rfl (tlt hc108).1 (by decide) (by decide) ?_
    show Steps p.tables e below (T9.setTop (mkF m 122 #[.val (.int p1), .val (.int p2), .val (.int p3), .val (.int p4), .val (.int p5), .val (.int (2 : Int32)), .val (.int (p2 &&& (31 : Int32))), .val (.int (p3 &&& (31 : Int32))), .val (.int (p4 &&& (31 : Int32))), .val (.int (p5 &&& (31 : Int32))), .val (.ref b6), .val (.int (own_u2 (p2 &&& (31 : Int32)) (p3 &&& (31 : Int32)))), .unset, .unset] [])) _
    refine XS.iconst X9.here hx rfl (hb hby at_122) ?_
    show Steps p.tables e below (T9.setTop (mkF m 123 #[.val (.int p1), .val (.int p2), .val (.int p3), .val (.int p4), .val (.int p5), .val (.int (2 : Int32)), .val (.int (p2 &&& (31 : Int32))), .val (.int (p3 &&& (31 : Int32))), .val (.int (p4 &&& (31 : Int32))), .val (.int (p5 &&& (31 : Int32))), .val (.ref b6), .val (.int (own_u2 (p2 &&& (31 : Int32)) (p3 &&& (31 : Int32)))), .unset, .unset] [(.int (0 : Int32))])) _
    refine XS.istore X9.here hx rfl (hb hby at_123) rfl (l' := #[.val (.int p1), .val (.int p2), .val (.int p3), .val (.int p4), .val (.int p5), .val (.int (2 : Int32)), .val (.int (p2 &&& (31 : Int32))), .val (.int (p3 &&& (31 : Int32))), .val (.int (p4 &&& (31 : Int32))), .val (.int (p5 &&& (31 : Int32))), .val (.ref b6), .val (.int (own_u2 (p2 &&& (31 : Int32)) (p3 &&& (31 : Int32)))), .val (.int (0 : Int32)), .unset]) rfl ?_
    show Steps p.tables e below (T9.setTop (mkF m 125 #[.val (.int p1), .val (.int p2), .val (.int p3), .val (.int p4), .val (.int p5), .val (.int (2 : Int32)), .val (.int (p2 &&& (31 : Int32))), .val (.int (p3 &&& (31 : Int32))), .val (.int (p4 &&& (31 : Int32))), .val (.int (p5 &&& (31 : Int32))), .val (.ref b6), .val (.int (own_u2 (p2 &&& (31 : Int32)) (p3 &&& (31 : Int32)))), .val (.int (0 : Int32)), .unset] [])) _
    refine XS.iload X9.here hx rfl (hb hby at_125) rfl ?_
    show Steps p.tables e below (T9.setTop (mkF m 127 #[.val (.int p1), .val (.int p2), .val (.int p3), .val (.int p4), .val (.int p5), .val (.int (2 : Int32)), .val (.int (p2 &&& (31 : Int32))), .val (.int (p3 &&& (31 : Int32))), .val (.int (p4 &&& (31 : Int32))), .val (.int (p5 &&& (31 : Int32))), .val (.ref b6), .val (.int (own_u2 (p2 &&& (31 : Int32)) (p3 &&& (31 : Int32)))), .val (.int (0 : Int32)), .unset] [(.int (own_u2 (p2 &&& (31 : Int32)) (p3 &&& (31 : Int32))))])) _
    refine XS.iload X9.here hx rfl (hb hby at_127) rfl ?_
    show Steps p.tables e below (T9.setTop (mkF m 129 #[.val (.int p1), .val (.int p2), .val (.int p3), .val (.int p4), .val (.int p5), .val (.int (2 : Int32)), .val (.int (p2 &&& (31 : Int32))), .val (.int (p3 &&& (31 : Int32))), .val (.int (p4 &&& (31 : Int32))), .val (.int (p5 &&& (31 : Int32))), .val (.ref b6), .val (.int (own_u2 (p2 &&& (31 : Int32)) (p3 &&& (31 : Int32)))), .val (.int (0 : Int32)), .unset] [(.int (p5 &&& (31 : Int32))), (.int (own_u2 (p2 &&& (31 : Int32)) (p3 &&& (31 : Int32))))])) _
    refine XS.iushr X9.here hx rfl (hb hby at_129) rfl ?_
    show Steps p.tables e below (T9.setTop (mkF m 130 #[.val (.int p1), .val (.int p2), .val (.int p3), .val (.int p4), .val (.int p5), .val (.int (2 : Int32)), .val (.int (p2 &&& (31 : Int32))), .val (.int (p3 &&& (31 : Int32))), .val (.int (p4 &&& (31 : Int32))), .val (.int (p5 &&& (31 : Int32))), .val (.ref b6), .val (.int (own_u2 (p2 &&& (31 : Int32)) (p3 &&& (31 : Int32)))), .val (.int (0 : Int32)), .unset] [(.int (((own_u2 (p2 &&& (31 : Int32)) (p3 &&& (31 : Int32))).toUInt32 >>> ((p5 &&& (31 : Int32)) &&& 31).toUInt32).toInt32))])) _
    refine XS.iconst X9.here hx rfl (hb hby at_130) ?_
    show Steps p.tables e below (T9.setTop (mkF m 131 #[.val (.int p1), .val (.int p2), .val (.int p3), .val (.int p4), .val (.int p5), .val (.int (2 : Int32)), .val (.int (p2 &&& (31 : Int32))), .val (.int (p3 &&& (31 : Int32))), .val (.int (p4 &&& (31 : Int32))), .val (.int (p5 &&& (31 : Int32))), .val (.ref b6), .val (.int (own_u2 (p2 &&& (31 : Int32)) (p3 &&& (31 : Int32)))), .val (.int (0 : Int32)), .unset] [(.int (1 : Int32)), (.int (((own_u2 (p2 &&& (31 : Int32)) (p3 &&& (31 : Int32))).toUInt32 >>> ((p5 &&& (31 : Int32)) &&& 31).toUInt32).toInt32))])) _
    refine XS.iand X9.here hx rfl (hb hby at_131) rfl ?_
    show Steps p.tables e below (T9.setTop (mkF m 132 #[.val (.int p1), .val (.int p2), .val (.int p3), .val (.int p4), .val (.int p5), .val (.int (2 : Int32)), .val (.int (p2 &&& (31 : Int32))), .val (.int (p3 &&& (31 : Int32))), .val (.int (p4 &&& (31 : Int32))), .val (.int (p5 &&& (31 : Int32))), .val (.ref b6), .val (.int (own_u2 (p2 &&& (31 : Int32)) (p3 &&& (31 : Int32)))), .val (.int (0 : Int32)), .unset] [(.int ((((own_u2 (p2 &&& (31 : Int32)) (p3 &&& (31 : Int32))).toUInt32 >>> ((p5 &&& (31 : Int32)) &&& 31).toUInt32).toInt32) &&& (1 : Int32)))])) _
    refine XS.ifYes X9.here hx rfl (pc0 := 132) (pc' := 139) rfl (hb hby at_132) rfl ((if0 _ _).trans (teq hc132).1) (by decide) (by decide) ?_
    show Steps p.tables e below (T9.setTop (mkF m 139 #[.val (.int p1), .val (.int p2), .val (.int p3), .val (.int p4), .val (.int p5), .val (.int (2 : Int32)), .val (.int (p2 &&& (31 : Int32))), .val (.int (p3 &&& (31 : Int32))), .val (.int (p4 &&& (31 : Int32))), .val (.int (p5 &&& (31 : Int32))), .val (.ref b6), .val (.int (own_u2 (p2 &&& (31 : Int32)) (p3 &&& (31 : Int32)))), .val (.int (0 : Int32)), .unset] [])) _
    refine XS.iconst X9.here hx rfl (hb hby at_139) ?_
    show Steps p.tables e below (T9.setTop (mkF m 140 #[.val (.int p1), .val (.int p2), .val (.int p3), .val (.int p4), .val (.int p5), .val (.int (2 : Int32)), .val (.int (p2 &&& (31 : Int32))), .val (.int (p3 &&& (31 : Int32))), .val (.int (p4 &&& (31 : Int32))), .val (.int (p5 &&& (31 : Int32))), .val (.ref b6), .val (.int (own_u2 (p2 &&& (31 : Int32)) (p3 &&& (31 : Int32)))), .val (.int (0 : Int32)), .unset] [(.int (0 : Int32))])) _
    refine XS.istore X9.here hx rfl (hb hby at_140) rfl (l' := #[.val (.int p1), .val (.int p2), .val (.int p3), .val (.int p4), .val (.int p5), .val (.int (2 : Int32)), .val (.int (p2 &&& (31 : Int32))), .val (.int (p3 &&& (31 : Int32))), .val (.int (p4 &&& (31 : Int32))), .val (.int (p5 &&& (31 : Int32))), .val (.ref b6), .val (.int (own_u2 (p2 &&& (31 : Int32)) (p3 &&& (31 : Int32)))), .val (.int (0 : Int32)), .val (.int (0 : Int32))]) rfl ?_
    show Steps p.tables e below (T9.setTop (mkF m 142 #[.val (.int p1), .val (.int p2), .val (.int p3), .val (.int p4), .val (.int p5), .val (.int (2 : Int32)), .val (.int (p2 &&& (31 : Int32))), .val (.int (p3 &&& (31 : Int32))), .val (.int (p4 &&& (31 : Int32))), .val (.int (p5 &&& (31 : Int32))), .val (.ref b6), .val (.int (own_u2 (p2 &&& (31 : Int32)) (p3 &&& (31 : Int32)))), .val (.int (0 : Int32)), .val (.int (0 : Int32))] [])) _
    refine XS.iload X9.here hx rfl (hb hby at_142) rfl ?_
    show Steps p.tables e below (T9.setTop (mkF m 144 #[.val (.int p1), .val (.int p2), .val (.int p3), .val (.int p4), .val (.int p5), .val (.int (2 : Int32)), .val (.int (p2 &&& (31 : Int32))), .val (.int (p3 &&& (31 : Int32))), .val (.int (p4 &&& (31 : Int32))), .val (.int (p5 &&& (31 : Int32))), .val (.ref b6), .val (.int (own_u2 (p2 &&& (31 : Int32)) (p3 &&& (31 : Int32)))), .val (.int (0 : Int32)), .val (.int (0 : Int32))] [(.int (0 : Int32))])) _
    refine XS.iload X9.here hx rfl (hb hby at_144) rfl ?_
    show Steps p.tables e below (T9.setTop (mkF m 146 #[.val (.int p1), .val (.int p2), .val (.int p3), .val (.int p4), .val (.int p5), .val (.int (2 : Int32)), .val (.int (p2 &&& (31 : Int32))), .val (.int (p3 &&& (31 : Int32))), .val (.int (p4 &&& (31 : Int32))), .val (.int (p5 &&& (31 : Int32))), .val (.ref b6), .val (.int (own_u2 (p2 &&& (31 : Int32)) (p3 &&& (31 : Int32)))), .val (.int (0 : Int32)), .val (.int (0 : Int32))] [(.int (0 : Int32)), (.int (0 : Int32))])) _
    refine XS.icmpNo X9.here hx rfl (hb hby at_146) rfl (teq (rfl : (0 : Int32) = (0 : Int32))).2 ?_
    show Steps p.tables e below (T9.setTop (mkF m 149 #[.val (.int p1), .val (.int p2), .val (.int p3), .val (.int p4), .val (.int p5), .val (.int (2 : Int32)), .val (.int (p2 &&& (31 : Int32))), .val (.int (p3 &&& (31 : Int32))), .val (.int (p4 &&& (31 : Int32))), .val (.int (p5 &&& (31 : Int32))), .val (.ref b6), .val (.int (own_u2 (p2 &&& (31 : Int32)) (p3 &&& (31 : Int32)))), .val (.int (0 : Int32)), .val (.int (0 : Int32))] [])) _
    refine XS.iconst X9.here hx rfl (hb hby at_149) ?_
    show Steps p.tables e below (T9.setTop (mkF m 150 #[.val (.int p1), .val (.int p2), .val (.int p3), .val (.int p4), .val (.int p5), .val (.int (2 : Int32)), .val (.int (p2 &&& (31 : Int32))), .val (.int (p3 &&& (31 : Int32))), .val (.int (p4 &&& (31 : Int32))), .val (.int (p5 &&& (31 : Int32))), .val (.ref b6), .val (.int (own_u2 (p2 &&& (31 : Int32)) (p3 &&& (31 : Int32)))), .val (.int (0 : Int32)), .val (.int (0 : Int32))] [(.int (1 : Int32))])) _
    refine XS.goto X9.here hx rfl (pc0 := 150) (pc' := 154) rfl (hb hby at_150) (by decide) (by decide) ?_
    show Steps p.tables e below (T9.setTop (mkF m 154 #[.val (.int p1), .val (.int p2), .val (.int p3), .val (.int p4), .val (.int p5), .val (.int (2 : Int32)), .val (.int (p2 &&& (31 : Int32))), .val (.int (p3 &&& (31 : Int32))), .val (.int (p4 &&& (31 : Int32))), .val (.int (p5 &&& (31 : Int32))), .val (.ref b6), .val (.int (own_u2 (p2 &&& (31 : Int32)) (p3 &&& (31 : Int32)))), .val (.int (0 : Int32)), .val (.int (0 : Int32))] [(.int (1 : Int32))])) _
    exact retN X9 hx (t := .boolean) Bd.returns (by simp) (hb hby at_154) hr
  · show own_Q0 h0 n0 _ T9.heap _
    rw [e9]
    exact ⟨rfl, N9⟩
set_option maxRecDepth 65536 in
set_option maxHeartbeats 40000000 in
theorem own_rm0_3_0 (l : Launch) (Z : State) (a0 : Array Value) (hw : ∀ d ∈ tables_1, d.before a0 Z = true) (ws : List Jvm.Cond) (p1 : Int32) (p2 : Int32) (p3 : Int32) (p4 : Int32) (p5 : Int32) (h0 : Heap) (n0 : Nat) (Z0 : n0 ≤ h0.size) (hn : (p1 &&& (3 : Int32)) = (3 : Int32)) (hc39 : ¬ ((3 : Int32) < (1 : Int32))) (hc51 : ¬ ((3 : Int32) < (2 : Int32))) (hc63 : ¬ ((3 : Int32) < (3 : Int32))) (hc82 : ¬ ((3 : Int32) < (1 : Int32))) (hc89 : (p5 &&& (31 : Int32)) = (p2 &&& (31 : Int32))) (hc132 : ¬ (((((own_u3 (p2 &&& (31 : Int32)) (p3 &&& (31 : Int32)) (p4 &&& (31 : Int32))).toUInt32 >>> ((p5 &&& (31 : Int32)) &&& 31).toUInt32).toInt32) &&& (1 : Int32)) = (0 : Int32))) :
    MetFree l x (head1 (Jvm.Cond.code x code maxLocals ret :: ws) room_1) (fun a U => a = #[(.int p1), (.int p2), (.int p3), (.int p4), (.int p5)] ∧ Z.Warmed39 U.vm ∧ U.heap = h0) (fun _ _ _ _ _ => True) (fun _ U o U' => ∃ v L, o = .returned v ∧ own_Q0 h0 n0 v U'.heap L ∧ FrameEnd U o U' L room_1.cells room_1.slots) := by
  refine MetFree.of_bodySF (plainFor_of_name pn_0) hisR ?_
  intro p e s m args below meth c s₁ Bd hml0 hP hK
  obtain ⟨rfl, hZ, hh⟩ := hP
  have hx := Bd.exec
  have hby := Bd.bytes
  have hml : c.maxLocals = 14 := hml0
  have hown : s.vm.findClass "com/example/sundew/sundew/text/BreakPropertiesBitsPinLaw" = some m.cls := findClass_of_methodNamed Bd.named
  have hnm := (name_of_methodNamed Bd.named Bd.method).1
  have X0 : Stand p l e room_1 s m #[(.int p1), (.int p2), (.int p3), (.int p4), (.int p5)] below meth c s₁ [] 0 0 := Stand.of_body Bd
  have e0 : s₁.heap = h0 := by rw [← hh, Bd.state]; rfl
  have N0 := Fr.nil n0
  have pre0 : ∀ t, Steps p.tables e below (s₁.setTop (mkF m 0 #[.val (.int p1), .val (.int p2), .val (.int p3), .val (.int p4), .val (.int p5), .unset, .unset, .unset, .unset, .unset, .unset, .unset, .unset, .unset] [])) t → Steps p.tables e below (s₁.setTop (entryFrame m #[(.int p1), (.int p2), (.int p3), (.int p4), (.int p5)] maxLocals)) t := fun t k => castTop (ef_0 m p1 p2 p3 p4 p5) k
  obtain ⟨T6, h6, k6, X6, e6, E6, A6, st6⟩ := newP X0 hx hZ (hw _ (List.mem_of_getElem? (i := 0) rfl)) e0 (g := (mkF m 32 #[.val (.int p1), .val (.int p2), .val (.int p3), .val (.int p4), .val (.int p5), .val (.int (3 : Int32)), .val (.int (p2 &&& (31 : Int32))), .val (.int (p3 &&& (31 : Int32))), .val (.int (p4 &&& (31 : Int32))), .val (.int (p5 &&& (31 : Int32))), .unset, .unset, .unset, .unset] [(.int (3 : Int32))])) rfl (hb hby at_32) rfl (by decide) (cap := 3) (by decide) (by decide) (by decide) (by decide)
  obtain ⟨b6, g6⟩ : ∃ z, z = h0.size := ⟨_, rfl⟩
  rw [← g6] at A6 st6
  have V_b6 : Arv Z h6 b6 k6 .int (3 : Int32) [(.int (0 : Int32)), (.int (0 : Int32)), (.int (0 : Int32))] (.int (0 : Int32)) := (Arv.new A6 (by decide)).pad (pad_rep [] (.int (0 : Int32)) 3)
  have g_b6 : n0 ≤ b6 := Nat.le_trans Z0 (Nat.le_of_eq g6.symm)
  have sz_b6 : h0.size ≤ b6 := (Nat.le_trans (Keep.refl h0 []).1 (Nat.le_of_eq g6.symm))
  have K6 : Keep h0 h6 [] := (Keep.refl h0 []).ext E6
  obtain ⟨cl_b6_47, Ar_b6, q_b6, S_b6, N_b6, H_b6, G_b6⟩ := V_b6
  have hin47 : ¬ ((0 : Int32) < 0 ∨ cl_b6_47.slots.size ≤ ((0 : Int32)).toNatClampNeg) := inb_of S_b6 ⟨by decide, by decide⟩
  obtain ⟨T7, h7, X7, e7, W7, st7⟩ := stI X6 hx hZ e6 Ar_b6 (j := (0 : Int32)) hin47 (g := (mkF m 47 #[.val (.int p1), .val (.int p2), .val (.int p3), .val (.int p4), .val (.int p5), .val (.int (3 : Int32)), .val (.int (p2 &&& (31 : Int32))), .val (.int (p3 &&& (31 : Int32))), .val (.int (p4 &&& (31 : Int32))), .val (.int (p5 &&& (31 : Int32))), .val (.ref b6), .unset, .unset, .unset] [(.int (p2 &&& (31 : Int32))), (.int (0 : Int32)), (.ref b6)])) rfl rfl (hb hby at_47)
  have V_b6_7 := Arv.set Ar_b6 q_b6 S_b6 N_b6 H_b6 G_b6 rfl W7 0 rfl (Nat.le_of_ble_eq_true rfl)
  have K7 : Keep h0 h7 [] := K6.wr W7 (Or.inr sz_b6)
  have N7 := Fr.snoc X7 N0 g_b6
  obtain ⟨cl_b6_59, Ar_b6, q_b6, S_b6, N_b6, H_b6, G_b6⟩ := V_b6_7
  have hin59 : ¬ ((1 : Int32) < 0 ∨ cl_b6_59.slots.size ≤ ((1 : Int32)).toNatClampNeg) := inb_of S_b6 ⟨by decide, by decide⟩
  obtain ⟨T8, h8, X8, e8, W8, st8⟩ := stI X7 hx hZ e7 Ar_b6 (j := (1 : Int32)) hin59 (g := (mkF m 59 #[.val (.int p1), .val (.int p2), .val (.int p3), .val (.int p4), .val (.int p5), .val (.int (3 : Int32)), .val (.int (p2 &&& (31 : Int32))), .val (.int (p3 &&& (31 : Int32))), .val (.int (p4 &&& (31 : Int32))), .val (.int (p5 &&& (31 : Int32))), .val (.ref b6), .unset, .unset, .unset] [(.int (p3 &&& (31 : Int32))), (.int (1 : Int32)), (.ref b6)])) rfl rfl (hb hby at_59)
  have V_b6_8 := Arv.set Ar_b6 q_b6 S_b6 N_b6 H_b6 G_b6 rfl W8 1 rfl (Nat.le_of_ble_eq_true rfl)
  have K8 : Keep h0 h8 [] := K7.wr W8 (Or.inr sz_b6)
  have N8 := Fr.snoc X8 N7 g_b6
  obtain ⟨cl_b6_71, Ar_b6, q_b6, S_b6, N_b6, H_b6, G_b6⟩ := V_b6_8
  have hin71 : ¬ ((2 : Int32) < 0 ∨ cl_b6_71.slots.size ≤ ((2 : Int32)).toNatClampNeg) := inb_of S_b6 ⟨by decide, by decide⟩
  obtain ⟨T9, h9, X9, e9, W9, st9⟩ := stI X8 hx hZ e8 Ar_b6 (j := (2 : Int32)) hin71 (g := (mkF m 71 #[.val (.int p1), .val (.int p2), .val (.int p3), .val (.int p4), .val (.int p5), .val (.int (3 : Int32)), .val (.int (p2 &&& (31 : Int32))), .val (.int (p3 &&& (31 : Int32))), .val (.int (p4 &&& (31 : Int32))), .val (.int (p5 &&& (31 : Int32))), .val (.ref b6), .unset, .unset, .unset] [(.int (p4 &&& (31 : Int32))), (.int (2 : Int32)), (.ref b6)])) rfl rfl (hb hby at_71)
  have V_b6_9 := Arv.set Ar_b6 q_b6 S_b6 N_b6 H_b6 G_b6 rfl W9 2 rfl (Nat.le_of_ble_eq_true rfl)
  have K9 : Keep h0 h9 [] := K8.wr W9 (Or.inr sz_b6)
  have N9 := Fr.snoc X9 N8 g_b6
  obtain ⟨_, _, ⟨T10, L10, k10, n10⟩, -, X10, ⟨Lc10, hQ10, l10, y10, z10⟩, st10⟩ := Jvm.LawKit.callS X9 hx (y := (⟨"com/example/sundew/sundew/text/BreakProperties", "bits", "([I)I"⟩ : MethodName)) hown (mvT hZ (hw _ (List.mem_of_getElem? (i := 1) rfl))) (mvT hZ (hw _ (List.mem_of_getElem? (i := 2) rfl))) (mvT hZ (hw _ (List.mem_of_getElem? (i := 3) rfl))) (mvT hZ (hw _ (List.mem_of_getElem? (i := 4) rfl))) (by decide) (backOf (W := 0) (own_rm1_3 l Z a0 hw [] b6 _ (p2 &&& (31 : Int32)) (p3 &&& (31 : Int32)) (p4 &&& (31 : Int32)) h9 n0 (Nat.le_trans (Nat.le_trans (Nat.le_trans (Nat.le_trans Z0 E6.1) (Keep.of_wr W7).1) (Keep.of_wr W8).1) (Keep.of_wr W9).1) V_b6_9) hZ (hw _ (List.mem_of_getElem? (i := 4) rfl)) (hw _ (List.mem_of_getElem? (i := 3) rfl)) (by decide) (by decide)) (g := (mkF m 74 #[.val (.int p1), .val (.int p2), .val (.int p3), .val (.int p4), .val (.int p5), .val (.int (3 : Int32)), .val (.int (p2 &&& (31 : Int32))), .val (.int (p3 &&& (31 : Int32))), .val (.int (p4 &&& (31 : Int32))), .val (.int (p5 &&& (31 : Int32))), .val (.ref b6), .unset, .unset, .unset] [(.ref b6)])) rfl (by rw [hml]; rfl) (argsL := [(.ref b6)]) (rest := []) (lenOf pd_0_0 rfl) rfl (by show 2 * 0 + _ ≤ _; exact Nat.le_of_eq rfl) (hb hby at_74) (fun _ _ => ⟨rfl, e9, (by decide : 1 + 0 ≤ _), (by decide : 3 + 0 ≤ _)⟩)
  dsimp only [Pt.U, Pt.locs, Pt.cells, Pt.slots] at X10 l10 y10 z10 st10 hQ10
  subst l10 y10 z10
  obtain ⟨rfl, N10q, e10⟩ := hQ10
  have N10 := Fr.app N9 N10q
  obtain ⟨fs, hr, hrun, hended, hW, hsame⟩ := X10.leave (v := some (.int (1 : Int32))) (fun h => by rw [Bd.returns] at h; cases h)
  refine ⟨_, _, pre0 _ ?_, hrun, hended, _, _, rfl, ?_, ⟨_, rfl⟩, hW, hsame.mono (by decide) (by decide)⟩
  · show Steps p.tables e below (s₁.setTop (mkF m 0 #[.val (.int p1), .val (.int p2), .val (.int p3), .val (.int p4), .val (.int p5), .unset, .unset, .unset, .unset, .unset, .unset, .unset, .unset, .unset] [])) _
    refine XS.iloadN X0.here hx rfl (hb hby at_0) rfl ?_
    show Steps p.tables e below (s₁.setTop (mkF m 1 #[.val (.int p1), .val (.int p2), .val (.int p3), .val (.int p4), .val (.int p5), .unset, .unset, .unset, .unset, .unset, .unset, .unset, .unset, .unset] [(.int p1)])) _
    refine XS.iconst X0.here hx rfl (hb hby at_1) ?_
    show Steps p.tables e below (s₁.setTop (mkF m 2 #[.val (.int p1), .val (.int p2), .val (.int p3), .val (.int p4), .val (.int p5), .unset, .unset, .unset, .unset, .unset, .unset, .unset, .unset, .unset] [(.int (3 : Int32)), (.int p1)])) _
    refine XS.iand X0.here hx rfl (hb hby at_2) rfl ?_
    show Steps p.tables e below (s₁.setTop (mkF m 3 #[.val (.int p1), .val (.int p2), .val (.int p3), .val (.int p4), .val (.int p5), .unset, .unset, .unset, .unset, .unset, .unset, .unset, .unset, .unset] [(.int (p1 &&& (3 : Int32)))])) _
    rw [hn]
    show Steps p.tables e below (s₁.setTop (mkF m 3 #[.val (.int p1), .val (.int p2), .val (.int p3), .val (.int p4), .val (.int p5), .unset, .unset, .unset, .unset, .unset, .unset, .unset, .unset, .unset] [(.int (3 : Int32))])) _
    refine XS.istore X0.here hx rfl (hb hby at_3) rfl (l' := #[.val (.int p1), .val (.int p2), .val (.int p3), .val (.int p4), .val (.int p5), .val (.int (3 : Int32)), .unset, .unset, .unset, .unset, .unset, .unset, .unset, .unset]) rfl ?_
    show Steps p.tables e below (s₁.setTop (mkF m 5 #[.val (.int p1), .val (.int p2), .val (.int p3), .val (.int p4), .val (.int p5), .val (.int (3 : Int32)), .unset, .unset, .unset, .unset, .unset, .unset, .unset, .unset] [])) _
    refine XS.iloadN X0.here hx rfl (hb hby at_5) rfl ?_
    show Steps p.tables e below (s₁.setTop (mkF m 6 #[.val (.int p1), .val (.int p2), .val (.int p3), .val (.int p4), .val (.int p5), .val (.int (3 : Int32)), .unset, .unset, .unset, .unset, .unset, .unset, .unset, .unset] [(.int p2)])) _
    refine XS.bipush X0.here hx rfl (hb hby at_6) ?_
    show Steps p.tables e below (s₁.setTop (mkF m 8 #[.val (.int p1), .val (.int p2), .val (.int p3), .val (.int p4), .val (.int p5), .val (.int (3 : Int32)), .unset, .unset, .unset, .unset, .unset, .unset, .unset, .unset] [(.int (31 : Int32)), (.int p2)])) _
    refine XS.iand X0.here hx rfl (hb hby at_8) rfl ?_
    show Steps p.tables e below (s₁.setTop (mkF m 9 #[.val (.int p1), .val (.int p2), .val (.int p3), .val (.int p4), .val (.int p5), .val (.int (3 : Int32)), .unset, .unset, .unset, .unset, .unset, .unset, .unset, .unset] [(.int (p2 &&& (31 : Int32)))])) _
    refine XS.istore X0.here hx rfl (hb hby at_9) rfl (l' := #[.val (.int p1), .val (.int p2), .val (.int p3), .val (.int p4), .val (.int p5), .val (.int (3 : Int32)), .val (.int (p2 &&& (31 : Int32))), .unset, .unset, .unset, .unset, .unset, .unset, .unset]) rfl ?_
    show Steps p.tables e below (s₁.setTop (mkF m 11 #[.val (.int p1), .val (.int p2), .val (.int p3), .val (.int p4), .val (.int p5), .val (.int (3 : Int32)), .val (.int (p2 &&& (31 : Int32))), .unset, .unset, .unset, .unset, .unset, .unset, .unset] [])) _
    refine XS.iloadN X0.here hx rfl (hb hby at_11) rfl ?_
    show Steps p.tables e below (s₁.setTop (mkF m 12 #[.val (.int p1), .val (.int p2), .val (.int p3), .val (.int p4), .val (.int p5), .val (.int (3 : Int32)), .val (.int (p2 &&& (31 : Int32))), .unset, .unset, .unset, .unset, .unset, .unset, .unset] [(.int p3)])) _
    refine XS.bipush X0.here hx rfl (hb hby at_12) ?_
    show Steps p.tables e below (s₁.setTop (mkF m 14 #[.val (.int p1), .val (.int p2), .val (.int p3), .val (.int p4), .val (.int p5), .val (.int (3 : Int32)), .val (.int (p2 &&& (31 : Int32))), .unset, .unset, .unset, .unset, .unset, .unset, .unset] [(.int (31 : Int32)), (.int p3)])) _
    refine XS.iand X0.here hx rfl (hb hby at_14) rfl ?_
    show Steps p.tables e below (s₁.setTop (mkF m 15 #[.val (.int p1), .val (.int p2), .val (.int p3), .val (.int p4), .val (.int p5), .val (.int (3 : Int32)), .val (.int (p2 &&& (31 : Int32))), .unset, .unset, .unset, .unset, .unset, .unset, .unset] [(.int (p3 &&& (31 : Int32)))])) _
    refine XS.istore X0.here hx rfl (hb hby at_15) rfl (l' := #[.val (.int p1), .val (.int p2), .val (.int p3), .val (.int p4), .val (.int p5), .val (.int (3 : Int32)), .val (.int (p2 &&& (31 : Int32))), .val (.int (p3 &&& (31 : Int32))), .unset, .unset, .unset, .unset, .unset, .unset]) rfl ?_
    show Steps p.tables e below (s₁.setTop (mkF m 17 #[.val (.int p1), .val (.int p2), .val (.int p3), .val (.int p4), .val (.int p5), .val (.int (3 : Int32)), .val (.int (p2 &&& (31 : Int32))), .val (.int (p3 &&& (31 : Int32))), .unset, .unset, .unset, .unset, .unset, .unset] [])) _
    refine XS.iloadN X0.here hx rfl (hb hby at_17) rfl ?_
    show Steps p.tables e below (s₁.setTop (mkF m 18 #[.val (.int p1), .val (.int p2), .val (.int p3), .val (.int p4), .val (.int p5), .val (.int (3 : Int32)), .val (.int (p2 &&& (31 : Int32))), .val (.int (p3 &&& (31 : Int32))), .unset, .unset, .unset, .unset, .unset, .unset] [(.int p4)])) _
    refine XS.bipush X0.here hx rfl (hb hby at_18) ?_
    show Steps p.tables e below (s₁.setTop (mkF m 20 #[.val (.int p1), .val (.int p2), .val (.int p3), .val (.int p4), .val (.int p5), .val (.int (3 : Int32)), .val (.int (p2 &&& (31 : Int32))), .val (.int (p3 &&& (31 : Int32))), .unset, .unset, .unset, .unset, .unset, .unset] [(.int (31 : Int32)), (.int p4)])) _
    refine XS.iand X0.here hx rfl (hb hby at_20) rfl ?_
    show Steps p.tables e below (s₁.setTop (mkF m 21 #[.val (.int p1), .val (.int p2), .val (.int p3), .val (.int p4), .val (.int p5), .val (.int (3 : Int32)), .val (.int (p2 &&& (31 : Int32))), .val (.int (p3 &&& (31 : Int32))), .unset, .unset, .unset, .unset, .unset, .unset] [(.int (p4 &&& (31 : Int32)))])) _
    refine XS.istore X0.here hx rfl (hb hby at_21) rfl (l' := #[.val (.int p1), .val (.int p2), .val (.int p3), .val (.int p4), .val (.int p5), .val (.int (3 : Int32)), .val (.int (p2 &&& (31 : Int32))), .val (.int (p3 &&& (31 : Int32))), .val (.int (p4 &&& (31 : Int32))), .unset, .unset, .unset, .unset, .unset]) rfl ?_
    show Steps p.tables e below (s₁.setTop (mkF m 23 #[.val (.int p1), .val (.int p2), .val (.int p3), .val (.int p4), .val (.int p5), .val (.int (3 : Int32)), .val (.int (p2 &&& (31 : Int32))), .val (.int (p3 &&& (31 : Int32))), .val (.int (p4 &&& (31 : Int32))), .unset, .unset, .unset, .unset, .unset] [])) _
    refine XS.iload X0.here hx rfl (hb hby at_23) rfl ?_
    show Steps p.tables e below (s₁.setTop (mkF m 25 #[.val (.int p1), .val (.int p2), .val (.int p3), .val (.int p4), .val (.int p5), .val (.int (3 : Int32)), .val (.int (p2 &&& (31 : Int32))), .val (.int (p3 &&& (31 : Int32))), .val (.int (p4 &&& (31 : Int32))), .unset, .unset, .unset, .unset, .unset] [(.int p5)])) _
    refine XS.bipush X0.here hx rfl (hb hby at_25) ?_
    show Steps p.tables e below (s₁.setTop (mkF m 27 #[.val (.int p1), .val (.int p2), .val (.int p3), .val (.int p4), .val (.int p5), .val (.int (3 : Int32)), .val (.int (p2 &&& (31 : Int32))), .val (.int (p3 &&& (31 : Int32))), .val (.int (p4 &&& (31 : Int32))), .unset, .unset, .unset, .unset, .unset] [(.int (31 : Int32)), (.int p5)])) _
    refine XS.iand X0.here hx rfl (hb hby at_27) rfl ?_
    show Steps p.tables e below (s₁.setTop (mkF m 28 #[.val (.int p1), .val (.int p2), .val (.int p3), .val (.int p4), .val (.int p5), .val (.int (3 : Int32)), .val (.int (p2 &&& (31 : Int32))), .val (.int (p3 &&& (31 : Int32))), .val (.int (p4 &&& (31 : Int32))), .unset, .unset, .unset, .unset, .unset] [(.int (p5 &&& (31 : Int32)))])) _
    refine XS.istore X0.here hx rfl (hb hby at_28) rfl (l' := #[.val (.int p1), .val (.int p2), .val (.int p3), .val (.int p4), .val (.int p5), .val (.int (3 : Int32)), .val (.int (p2 &&& (31 : Int32))), .val (.int (p3 &&& (31 : Int32))), .val (.int (p4 &&& (31 : Int32))), .val (.int (p5 &&& (31 : Int32))), .unset, .unset, .unset, .unset]) rfl ?_
    show Steps p.tables e below (s₁.setTop (mkF m 30 #[.val (.int p1), .val (.int p2), .val (.int p3), .val (.int p4), .val (.int p5), .val (.int (3 : Int32)), .val (.int (p2 &&& (31 : Int32))), .val (.int (p3 &&& (31 : Int32))), .val (.int (p4 &&& (31 : Int32))), .val (.int (p5 &&& (31 : Int32))), .unset, .unset, .unset, .unset] [])) _
    refine XS.iload X0.here hx rfl (hb hby at_30) rfl ?_
    show Steps p.tables e below (s₁.setTop (mkF m 32 #[.val (.int p1), .val (.int p2), .val (.int p3), .val (.int p4), .val (.int p5), .val (.int (3 : Int32)), .val (.int (p2 &&& (31 : Int32))), .val (.int (p3 &&& (31 : Int32))), .val (.int (p4 &&& (31 : Int32))), .val (.int (p5 &&& (31 : Int32))), .unset, .unset, .unset, .unset] [(.int (3 : Int32))])) _
    refine st6 _ ?_
    show Steps p.tables e below (T6.setTop (mkF m 34 #[.val (.int p1), .val (.int p2), .val (.int p3), .val (.int p4), .val (.int p5), .val (.int (3 : Int32)), .val (.int (p2 &&& (31 : Int32))), .val (.int (p3 &&& (31 : Int32))), .val (.int (p4 &&& (31 : Int32))), .val (.int (p5 &&& (31 : Int32))), .unset, .unset, .unset, .unset] [(.ref b6)])) _
    refine XS.astore X6.here hx rfl (hb hby at_34) rfl rfl (l' := #[.val (.int p1), .val (.int p2), .val (.int p3), .val (.int p4), .val (.int p5), .val (.int (3 : Int32)), .val (.int (p2 &&& (31 : Int32))), .val (.int (p3 &&& (31 : Int32))), .val (.int (p4 &&& (31 : Int32))), .val (.int (p5 &&& (31 : Int32))), .val (.ref b6), .unset, .unset, .unset]) rfl ?_
    show Steps p.tables e below (T6.setTop (mkF m 36 #[.val (.int p1), .val (.int p2), .val (.int p3), .val (.int p4), .val (.int p5), .val (.int (3 : Int32)), .val (.int (p2 &&& (31 : Int32))), .val (.int (p3 &&& (31 : Int32))), .val (.int (p4 &&& (31 : Int32))), .val (.int (p5 &&& (31 : Int32))), .val (.ref b6), .unset, .unset, .unset] [])) _
    refine XS.iload X6.here hx rfl (hb hby at_36) rfl ?_
    show Steps p.tables e below (T6.setTop (mkF m 38 #[.val (.int p1), .val (.int p2), .val (.int p3), .val (.int p4), .val (.int p5), .val (.int (3 : Int32)), .val (.int (p2 &&& (31 : Int32))), .val (.int (p3 &&& (31 : Int32))), .val (.int (p4 &&& (31 : Int32))), .val (.int (p5 &&& (31 : Int32))), .val (.ref b6), .unset, .unset, .unset] [(.int (3 : Int32))])) _
    refine XS.iconst X6.here hx rfl (hb hby at_38) ?_
    show Steps p.tables e below (T6.setTop (mkF m 39 #[.val (.int p1), .val (.int p2), .val (.int p3), .val (.int p4), .val (.int p5), .val (.int (3 : Int32)), .val (.int (p2 &&& (31 : Int32))), .val (.int (p3 &&& (31 : Int32))), .val (.int (p4 &&& (31 : Int32))), .val (.int (p5 &&& (31 : Int32))), .val (.ref b6), .unset, .unset, .unset] [(.int (1 : Int32)), (.int (3 : Int32))])) _
    refine XS.icmpNo X6.here hx rfl (hb hby at_39) rfl (flt hc39).1 ?_
    show Steps p.tables e below (T6.setTop (mkF m 42 #[.val (.int p1), .val (.int p2), .val (.int p3), .val (.int p4), .val (.int p5), .val (.int (3 : Int32)), .val (.int (p2 &&& (31 : Int32))), .val (.int (p3 &&& (31 : Int32))), .val (.int (p4 &&& (31 : Int32))), .val (.int (p5 &&& (31 : Int32))), .val (.ref b6), .unset, .unset, .unset] [])) _
    refine XS.aload X6.here hx rfl (hb hby at_42) rfl rfl ?_
    show Steps p.tables e below (T6.setTop (mkF m 44 #[.val (.int p1), .val (.int p2), .val (.int p3), .val (.int p4), .val (.int p5), .val (.int (3 : Int32)), .val (.int (p2 &&& (31 : Int32))), .val (.int (p3 &&& (31 : Int32))), .val (.int (p4 &&& (31 : Int32))), .val (.int (p5 &&& (31 : Int32))), .val (.ref b6), .unset, .unset, .unset] [(.ref b6)])) _
    refine XS.iconst X6.here hx rfl (hb hby at_44) ?_
    show Steps p.tables e below (T6.setTop (mkF m 45 #[.val (.int p1), .val (.int p2), .val (.int p3), .val (.int p4), .val (.int p5), .val (.int (3 : Int32)), .val (.int (p2 &&& (31 : Int32))), .val (.int (p3 &&& (31 : Int32))), .val (.int (p4 &&& (31 : Int32))), .val (.int (p5 &&& (31 : Int32))), .val (.ref b6), .unset, .unset, .unset] [(.int (0 : Int32)), (.ref b6)])) _
    refine XS.iload X6.here hx rfl (hb hby at_45) rfl ?_
    show Steps p.tables e below (T6.setTop (mkF m 47 #[.val (.int p1), .val (.int p2), .val (.int p3), .val (.int p4), .val (.int p5), .val (.int (3 : Int32)), .val (.int (p2 &&& (31 : Int32))), .val (.int (p3 &&& (31 : Int32))), .val (.int (p4 &&& (31 : Int32))), .val (.int (p5 &&& (31 : Int32))), .val (.ref b6), .unset, .unset, .unset] [(.int (p2 &&& (31 : Int32))), (.int (0 : Int32)), (.ref b6)])) _
    refine st7 _ ?_
    show Steps p.tables e below (T7.setTop (mkF m 48 #[.val (.int p1), .val (.int p2), .val (.int p3), .val (.int p4), .val (.int p5), .val (.int (3 : Int32)), .val (.int (p2 &&& (31 : Int32))), .val (.int (p3 &&& (31 : Int32))), .val (.int (p4 &&& (31 : Int32))), .val (.int (p5 &&& (31 : Int32))), .val (.ref b6), .unset, .unset, .unset] [])) _
    refine XS.iload X7.here hx rfl (hb hby at_48) rfl ?_
    show Steps p.tables e below (T7.setTop (mkF m 50 #[.val (.int p1), .val (.int p2), .val (.int p3), .val (.int p4), .val (.int p5), .val (.int (3 : Int32)), .val (.int (p2 &&& (31 : Int32))), .val (.int (p3 &&& (31 : Int32))), .val (.int (p4 &&& (31 : Int32))), .val (.int (p5 &&& (31 : Int32))), .val (.ref b6), .unset, .unset, .unset] [(.int (3 : Int32))])) _
    refine XS.iconst X7.here hx rfl (hb hby at_50) ?_
    show Steps p.tables e below (T7.setTop (mkF m 51 #[.val (.int p1), .val (.int p2), .val (.int p3), .val (.int p4), .val (.int p5), .val (.int (3 : Int32)), .val (.int (p2 &&& (31 : Int32))), .val (.int (p3 &&& (31 : Int32))), .val (.int (p4 &&& (31 : Int32))), .val (.int (p5 &&& (31 : Int32))), .val (.ref b6), .unset, .unset, .unset] [(.int (2 : Int32)), (.int (3 : Int32))])) _
    refine XS.icmpNo X7.here hx rfl (hb hby at_51) rfl (flt hc51).1 ?_
    show Steps p.tables e below (T7.setTop (mkF m 54 #[.val (.int p1), .val (.int p2), .val (.int p3), .val (.int p4), .val (.int p5), .val (.int (3 : Int32)), .val (.int (p2 &&& (31 : Int32))), .val (.int (p3 &&& (31 : Int32))), .val (.int (p4 &&& (31 : Int32))), .val (.int (p5 &&& (31 : Int32))), .val (.ref b6), .unset, .unset, .unset] [])) _
    refine XS.aload X7.here hx rfl (hb hby at_54) rfl rfl ?_
    show Steps p.tables e below (T7.setTop (mkF m 56 #[.val (.int p1), .val (.int p2), .val (.int p3), .val (.int p4), .val (.int p5), .val (.int (3 : Int32)), .val (.int (p2 &&& (31 : Int32))), .val (.int (p3 &&& (31 : Int32))), .val (.int (p4 &&& (31 : Int32))), .val (.int (p5 &&& (31 : Int32))), .val (.ref b6), .unset, .unset, .unset] [(.ref b6)])) _
    refine XS.iconst X7.here hx rfl (hb hby at_56) ?_
    show Steps p.tables e below (T7.setTop (mkF m 57 #[.val (.int p1), .val (.int p2), .val (.int p3), .val (.int p4), .val (.int p5), .val (.int (3 : Int32)), .val (.int (p2 &&& (31 : Int32))), .val (.int (p3 &&& (31 : Int32))), .val (.int (p4 &&& (31 : Int32))), .val (.int (p5 &&& (31 : Int32))), .val (.ref b6), .unset, .unset, .unset] [(.int (1 : Int32)), (.ref b6)])) _
    refine XS.iload X7.here hx rfl (hb hby at_57) rfl ?_
    show Steps p.tables e below (T7.setTop (mkF m 59 #[.val (.int p1), .val (.int p2), .val (.int p3), .val (.int p4), .val (.int p5), .val (.int (3 : Int32)), .val (.int (p2 &&& (31 : Int32))), .val (.int (p3 &&& (31 : Int32))), .val (.int (p4 &&& (31 : Int32))), .val (.int (p5 &&& (31 : Int32))), .val (.ref b6), .unset, .unset, .unset] [(.int (p3 &&& (31 : Int32))), (.int (1 : Int32)), (.ref b6)])) _
    refine st8 _ ?_
    show Steps p.tables e below (T8.setTop (mkF m 60 #[.val (.int p1), .val (.int p2), .val (.int p3), .val (.int p4), .val (.int p5), .val (.int (3 : Int32)), .val (.int (p2 &&& (31 : Int32))), .val (.int (p3 &&& (31 : Int32))), .val (.int (p4 &&& (31 : Int32))), .val (.int (p5 &&& (31 : Int32))), .val (.ref b6), .unset, .unset, .unset] [])) _
    refine XS.iload X8.here hx rfl (hb hby at_60) rfl ?_
    show Steps p.tables e below (T8.setTop (mkF m 62 #[.val (.int p1), .val (.int p2), .val (.int p3), .val (.int p4), .val (.int p5), .val (.int (3 : Int32)), .val (.int (p2 &&& (31 : Int32))), .val (.int (p3 &&& (31 : Int32))), .val (.int (p4 &&& (31 : Int32))), .val (.int (p5 &&& (31 : Int32))), .val (.ref b6), .unset, .unset, .unset] [(.int (3 : Int32))])) _
    refine XS.iconst X8.here hx rfl (hb hby at_62) ?_
    show Steps p.tables e below (T8.setTop (mkF m 63 #[.val (.int p1), .val (.int p2), .val (.int p3), .val (.int p4), .val (.int p5), .val (.int (3 : Int32)), .val (.int (p2 &&& (31 : Int32))), .val (.int (p3 &&& (31 : Int32))), .val (.int (p4 &&& (31 : Int32))), .val (.int (p5 &&& (31 : Int32))), .val (.ref b6), .unset, .unset, .unset] [(.int (3 : Int32)), (.int (3 : Int32))])) _
    refine XS.icmpNo X8.here hx rfl (hb hby at_63) rfl (flt hc63).1 ?_
    show Steps p.tables e below (T8.setTop (mkF m 66 #[.val (.int p1), .val (.int p2), .val (.int p3), .val (.int p4), .val (.int p5), .val (.int (3 : Int32)), .val (.int (p2 &&& (31 : Int32))), .val (.int (p3 &&& (31 : Int32))), .val (.int (p4 &&& (31 : Int32))), .val (.int (p5 &&& (31 : Int32))), .val (.ref b6), .unset, .unset, .unset] [])) _
    refine XS.aload X8.here hx rfl (hb hby at_66) rfl rfl ?_
    show Steps p.tables e below (T8.setTop (mkF m 68 #[.val (.int p1), .val (.int p2), .val (.int p3), .val (.int p4), .val (.int p5), .val (.int (3 : Int32)), .val (.int (p2 &&& (31 : Int32))), .val (.int (p3 &&& (31 : Int32))), .val (.int (p4 &&& (31 : Int32))), .val (.int (p5 &&& (31 : Int32))), .val (.ref b6), .unset, .unset, .unset] [(.ref b6)])) _
    refine XS.iconst X8.here hx rfl (hb hby at_68) ?_
    show Steps p.tables e below (T8.setTop (mkF m 69 #[.val (.int p1), .val (.int p2), .val (.int p3), .val (.int p4), .val (.int p5), .val (.int (3 : Int32)), .val (.int (p2 &&& (31 : Int32))), .val (.int (p3 &&& (31 : Int32))), .val (.int (p4 &&& (31 : Int32))), .val (.int (p5 &&& (31 : Int32))), .val (.ref b6), .unset, .unset, .unset] [(.int (2 : Int32)), (.ref b6)])) _
    refine XS.iload X8.here hx rfl (hb hby at_69) rfl ?_
    show Steps p.tables e below (T8.setTop (mkF m 71 #[.val (.int p1), .val (.int p2), .val (.int p3), .val (.int p4), .val (.int p5), .val (.int (3 : Int32)), .val (.int (p2 &&& (31 : Int32))), .val (.int (p3 &&& (31 : Int32))), .val (.int (p4 &&& (31 : Int32))), .val (.int (p5 &&& (31 : Int32))), .val (.ref b6), .unset, .unset, .unset] [(.int (p4 &&& (31 : Int32))), (.int (2 : Int32)), (.ref b6)])) _
    refine st9 _ ?_
    show Steps p.tables e below (T9.setTop (mkF m 72 #[.val (.int p1), .val (.int p2), .val (.int p3), .val (.int p4), .val (.int p5), .val (.int (3 : Int32)), .val (.int (p2 &&& (31 : Int32))), .val (.int (p3 &&& (31 : Int32))), .val (.int (p4 &&& (31 : Int32))), .val (.int (p5 &&& (31 : Int32))), .val (.ref b6), .unset, .unset, .unset] [])) _
    refine XS.aload X9.here hx rfl (hb hby at_72) rfl rfl ?_
    show Steps p.tables e below (T9.setTop (mkF m 74 #[.val (.int p1), .val (.int p2), .val (.int p3), .val (.int p4), .val (.int p5), .val (.int (3 : Int32)), .val (.int (p2 &&& (31 : Int32))), .val (.int (p3 &&& (31 : Int32))), .val (.int (p4 &&& (31 : Int32))), .val (.int (p5 &&& (31 : Int32))), .val (.ref b6), .unset, .unset, .unset] [(.ref b6)])) _
    refine st10 _ ?_
    show Steps p.tables e below (T10.setTop (mkF m 77 #[.val (.int p1), .val (.int p2), .val (.int p3), .val (.int p4), .val (.int p5), .val (.int (3 : Int32)), .val (.int (p2 &&& (31 : Int32))), .val (.int (p3 &&& (31 : Int32))), .val (.int (p4 &&& (31 : Int32))), .val (.int (p5 &&& (31 : Int32))), .val (.ref b6), .unset, .unset, .unset] [(.int (own_u3 (p2 &&& (31 : Int32)) (p3 &&& (31 : Int32)) (p4 &&& (31 : Int32))))])) _
    refine XS.istore X10.here hx rfl (hb hby at_77) rfl (l' := #[.val (.int p1), .val (.int p2), .val (.int p3), .val (.int p4), .val (.int p5), .val (.int (3 : Int32)), .val (.int (p2 &&& (31 : Int32))), .val (.int (p3 &&& (31 : Int32))), .val (.int (p4 &&& (31 : Int32))), .val (.int (p5 &&& (31 : Int32))), .val (.ref b6), .val (.int (own_u3 (p2 &&& (31 : Int32)) (p3 &&& (31 : Int32)) (p4 &&& (31 : Int32)))), .unset, .unset]) rfl ?_
    show Steps p.tables e below (T10.setTop (mkF m 79 #[.val (.int p1), .val (.int p2), .val (.int p3), .val (.int p4), .val (.int p5), .val (.int (3 : Int32)), .val (.int (p2 &&& (31 : Int32))), .val (.int (p3 &&& (31 : Int32))), .val (.int (p4 &&& (31 : Int32))), .val (.int (p5 &&& (31 : Int32))), .val (.ref b6), .val (.int (own_u3 (p2 &&& (31 : Int32)) (p3 &&& (31 : Int32)) (p4 &&& (31 : Int32)))), .unset, .unset] [])) _
    refine XS.iload X10.here hx rfl (hb hby at_79) rfl ?_
    show Steps p.tables e below (T10.setTop (mkF m 81 #[.val (.int p1), .val (.int p2), .val (.int p3), .val (.int p4), .val (.int p5), .val (.int (3 : Int32)), .val (.int (p2 &&& (31 : Int32))), .val (.int (p3 &&& (31 : Int32))), .val (.int (p4 &&& (31 : Int32))), .val (.int (p5 &&& (31 : Int32))), .val (.ref b6), .val (.int (own_u3 (p2 &&& (31 : Int32)) (p3 &&& (31 : Int32)) (p4 &&& (31 : Int32)))), .unset, .unset] [(.int (3 : Int32))])) _
    refine XS.iconst X10.here hx rfl (hb hby at_81) ?_
    show Steps p.tables e below (T10.setTop (mkF m 82 #[.val (.int p1), .val (.int p2), .val (.int p3), .val (.int p4), .val (.int p5), .val (.int (3 : Int32)), .val (.int (p2 &&& (31 : Int32))), .val (.int (p3 &&& (31 : Int32))), .val (.int (p4 &&& (31 : Int32))), .val (.int (p5 &&& (31 : Int32))), .val (.ref b6), .val (.int (own_u3 (p2 &&& (31 : Int32)) (p3 &&& (31 : Int32)) (p4 &&& (31 : Int32)))), .unset, .unset] [(.int (1 : Int32)), (.int (3 : Int32))])) _
    refine XS.icmpNo X10.here hx rfl (hb hby at_82) rfl (flt hc82).1 ?_
    show Steps p.tables e below (T10.setTop (mkF m 85 #[.val (.int p1), .val (.int p2), .val (.int p3), .val (.int p4), .val (.int p5), .val (.int (3 : Int32)), .val (.int (p2 &&& (31 : Int32))), .val (.int (p3 &&& (31 : Int32))), .val (.int (p4 &&& (31 : Int32))), .val (.int (p5 &&& (31 : Int32))), .val (.ref b6), .val (.int (own_u3 (p2 &&& (31 : Int32)) (p3 &&& (31 : Int32)) (p4 &&& (31 : Int32)))), .unset, .unset] [])) _
    refine XS.iload X10.here hx rfl (hb hby at_85) rfl ?_
    show Steps p.tables e below (T10.setTop (mkF m 87 #[.val (.int p1), .val (.int p2), .val (.int p3), .val (.int p4), .val (.int p5), .val (.int (3 : Int32)), .val (.int (p2 &&& (31 : Int32))), .val (.int (p3 &&& (31 : Int32))), .val (.int (p4 &&& (31 : Int32))), .val (.int (p5 &&& (31 : Int32))), .val (.ref b6), .val (.int (own_u3 (p2 &&& (31 : Int32)) (p3 &&& (31 : Int32)) (p4 &&& (31 : Int32)))), .unset, .unset] [(.int (p5 &&& (31 : Int32)))])) _
    refine XS.iload X10.here hx rfl (hb hby at_87) rfl ?_
    show Steps p.tables e below (T10.setTop (mkF m 89 #[.val (.int p1), .val (.int p2), .val (.int p3), .val (.int p4), .val (.int p5), .val (.int (3 : Int32)), .val (.int (p2 &&& (31 : Int32))), .val (.int (p3 &&& (31 : Int32))), .val (.int (p4 &&& (31 : Int32))), .val (.int (p5 &&& (31 : Int32))), .val (.ref b6), .val (.int (own_u3 (p2 &&& (31 : Int32)) (p3 &&& (31 : Int32)) (p4 &&& (31 : Int32)))), .unset, .unset] [(.int (p2 &&& (31 : Int32))), (.int (p5 &&& (31 : Int32)))])) _
    refine XS.icmpYes X10.here hx rfl (pc0 := 89) (pc' := 118) rfl (hb hby at_89) rfl (teq hc89).1 (by decide) (by decide) ?_
    show Steps p.tables e below (T10.setTop (mkF m 118 #[.val (.int p1), .val (.int p2), .val (.int p3), .val (.int p4), .val (.int p5), .val (.int (3 : Int32)), .val (.int (p2 &&& (31 : Int32))), .val (.int (p3 &&& (31 : Int32))), .val (.int (p4 &&& (31 : Int32))), .val (.int (p5 &&& (31 : Int32))), .val (.ref b6), .val (.int (own_u3 (p2 &&& (31 : Int32)) (p3 &&& (31 : Int32)) (p4 &&& (31 : Int32)))), .unset, .unset] [])) _
    refine XS.iconst X10.here hx rfl (hb hby at_118) ?_
    show Steps p.tables e below (T10.setTop (mkF m 119 #[.val (.int p1), .val (.int p2), .val (.int p3), .val (.int p4), .val (.int p5), .val (.int (3 : Int32)), .val (.int (p2 &&& (31 : Int32))), .val (.int (p3 &&& (31 : Int32))), .val (.int (p4 &&& (31 : Int32))), .val (.int (p5 &&& (31 : Int32))), .val (.ref b6), .val (.int (own_u3 (p2 &&& (31 : Int32)) (p3 &&& (31 : Int32)) (p4 &&& (31 : Int32)))), .unset, .unset] [(.int (1 : Int32))])) _
    refine XS.goto X10.here hx rfl (pc0 := 119) (pc' := 123) rfl (hb hby at_119) (by decide) (by decide) ?_
    show Steps p.tables e below (T10.setTop (mkF m 123 #[.val (.int p1), .val (.int p2), .val (.int p3), .val (.int p4), .val (.int p5), .val (.int (3 : Int32)), .val (.int (p2 &&& (31 : Int32))), .val (.int (p3 &&& (31 : Int32))), .val (.int (p4 &&& (31 : Int32))), .val (.int (p5 &&& (31 : Int32))), .val (.ref b6), .val (.int (own_u3 (p2 &&& (31 : Int32)) (p3 &&& (31 : Int32)) (p4 &&& (31 : Int32)))), .unset, .unset] [(.int (1 : Int32))])) _
    refine XS.istore X10.here hx rfl (hb hby at_123) rfl (l' := #[.val (.int p1), .val (.int p2), .val (.int p3), .val (.int p4), .val (.int p5), .val (.int (3 : Int32)), .val (.int (p2 &&& (31 : Int32))), .val (.int (p3 &&& (31 : Int32))), .val (.int (p4 &&& (31 : Int32))), .val (.int (p5 &&& (31 : Int32))), .val (.ref b6), .val (.int (own_u3 (p2 &&& (31 : Int32)) (p3 &&& (31 : Int32)) (p4 &&& (31 : Int32)))), .val (.int (1 : Int32)), .unset]) rfl ?_
    show Steps p.tables e below (T10.setTop (mkF m 125 #[.val (.int p1), .val (.int p2), .val (.int p3), .val (.int p4), .val (.int p5), .val (.int (3 : Int32)), .val (.int (p2 &&& (31 : Int32))), .val (.int (p3 &&& (31 : Int32))), .val (.int (p4 &&& (31 : Int32))), .val (.int (p5 &&& (31 : Int32))), .val (.ref b6), .val (.int (own_u3 (p2 &&& (31 : Int32)) (p3 &&& (31 : Int32)) (p4 &&& (31 : Int32)))), .val (.int (1 : Int32)), .unset] [])) _
    refine XS.iload X10.here hx rfl (hb hby at_125) rfl ?_
    show Steps p.tables e below (T10.setTop (mkF m 127 #[.val (.int p1), .val (.int p2), .val (.int p3), .val (.int p4), .val (.int p5), .val (.int (3 : Int32)), .val (.int (p2 &&& (31 : Int32))), .val (.int (p3 &&& (31 : Int32))), .val (.int (p4 &&& (31 : Int32))), .val (.int (p5 &&& (31 : Int32))), .val (.ref b6), .val (.int (own_u3 (p2 &&& (31 : Int32)) (p3 &&& (31 : Int32)) (p4 &&& (31 : Int32)))), .val (.int (1 : Int32)), .unset] [(.int (own_u3 (p2 &&& (31 : Int32)) (p3 &&& (31 : Int32)) (p4 &&& (31 : Int32))))])) _
    refine XS.iload X10.here hx rfl (hb hby at_127) rfl ?_
    show Steps p.tables e below (T10.setTop (mkF m 129 #[.val (.int p1), .val (.int p2), .val (.int p3), .val (.int p4), .val (.int p5), .val (.int (3 : Int32)), .val (.int (p2 &&& (31 : Int32))), .val (.int (p3 &&& (31 : Int32))), .val (.int (p4 &&& (31 : Int32))), .val (.int (p5 &&& (31 : Int32))), .val (.ref b6), .val (.int (own_u3 (p2 &&& (31 : Int32)) (p3 &&& (31 : Int32)) (p4 &&& (31 : Int32)))), .val (.int (1 : Int32)), .unset] [(.int (p5 &&& (31 : Int32))), (.int (own_u3 (p2 &&& (31 : Int32)) (p3 &&& (31 : Int32)) (p4 &&& (31 : Int32))))])) _
    refine XS.iushr X10.here hx rfl (hb hby at_129) rfl ?_
    show Steps p.tables e below (T10.setTop (mkF m 130 #[.val (.int p1), .val (.int p2), .val (.int p3), .val (.int p4), .val (.int p5), .val (.int (3 : Int32)), .val (.int (p2 &&& (31 : Int32))), .val (.int (p3 &&& (31 : Int32))), .val (.int (p4 &&& (31 : Int32))), .val (.int (p5 &&& (31 : Int32))), .val (.ref b6), .val (.int (own_u3 (p2 &&& (31 : Int32)) (p3 &&& (31 : Int32)) (p4 &&& (31 : Int32)))), .val (.int (1 : Int32)), .unset] [(.int (((own_u3 (p2 &&& (31 : Int32)) (p3 &&& (31 : Int32)) (p4 &&& (31 : Int32))).toUInt32 >>> ((p5 &&& (31 : Int32)) &&& 31).toUInt32).toInt32))])) _
    refine XS.iconst X10.here hx rfl (hb hby at_130) ?_
    show Steps p.tables e below (T10.setTop (mkF m 131 #[.val (.int p1), .val (.int p2), .val (.int p3), .val (.int p4), .val (.int p5), .val (.int (3 : Int32)), .val (.int (p2 &&& (31 : Int32))), .val (.int (p3 &&& (31 : Int32))), .val (.int (p4 &&& (31 : Int32))), .val (.int (p5 &&& (31 : Int32))), .val (.ref b6), .val (.int (own_u3 (p2 &&& (31 : Int32)) (p3 &&& (31 : Int32)) (p4 &&& (31 : Int32)))), .val (.int (1 : Int32)), .unset] [(.int (1 : Int32)), (.int (((own_u3 (p2 &&& (31 : Int32)) (p3 &&& (31 : Int32)) (p4 &&& (31 : Int32))).toUInt32 >>> ((p5 &&& (31 : Int32)) &&& 31).toUInt32).toInt32))])) _
    refine XS.iand X10.here hx rfl (hb hby at_131) rfl ?_
    show Steps p.tables e below (T10.setTop (mkF m 132 #[.val (.int p1), .val (.int p2), .val (.int p3), .val (.int p4), .val (.int p5), .val (.int (3 : Int32)), .val (.int (p2 &&& (31 : Int32))), .val (.int (p3 &&& (31 : Int32))), .val (.int (p4 &&& (31 : Int32))), .val (.int (p5 &&& (31 : Int32))), .val (.ref b6), .val (.int (own_u3 (p2 &&& (31 : Int32)) (p3 &&& (31 : Int32)) (p4 &&& (31 : Int32)))), .val (.int (1 : Int32)), .unset] [(.int ((((own_u3 (p2 &&& (31 : Int32)) (p3 &&& (31 : Int32)) (p4 &&& (31 : Int32))).toUInt32 >>> ((p5 &&& (31 : Int32)) &&& 31).toUInt32).toInt32) &&& (1 : Int32)))])) _
    refine XS.ifNo X10.here hx rfl (hb hby at_132) rfl ((if0 _ _).trans (feq hc132).1) ?_
    show Steps p.tables e below (T10.setTop (mkF m 135 #[.val (.int p1), .val (.int p2), .val (.int p3), .val (.int p4), .val (.int p5), .val (.int (3 : Int32)), .val (.int (p2 &&& (31 : Int32))), .val (.int (p3 &&& (31 : Int32))), .val (.int (p4 &&& (31 : Int32))), .val (.int (p5 &&& (31 : Int32))), .val (.ref b6), .val (.int (own_u3 (p2 &&& (31 : Int32)) (p3 &&& (31 : Int32)) (p4 &&& (31 : Int32)))), .val (.int (1 : Int32)), .unset] [])) _
    refine XS.iconst X10.here hx rfl (hb hby at_135) ?_
    show Steps p.tables e below (T10.setTop (mkF m 136 #[.val (.int p1), .val (.int p2), .val (.int p3), .val (.int p4), .val (.int p5), .val (.int (3 : Int32)), .val (.int (p2 &&& (31 : Int32))), .val (.int (p3 &&& (31 : Int32))), .val (.int (p4 &&& (31 : Int32))), .val (.int (p5 &&& (31 : Int32))), .val (.ref b6), .val (.int (own_u3 (p2 &&& (31 : Int32)) (p3 &&& (31 : Int32)) (p4 &&& (31 : Int32)))), .val (.int (1 : Int32)), .unset] [(.int (1 : Int32))])) _
    refine XS.goto X10.here hx rfl (pc0 := 136) (pc' := 140) rfl (hb hby at_136) (by decide) (by decide) ?_
    show Steps p.tables e below (T10.setTop (mkF m 140 #[.val (.int p1), .val (.int p2), .val (.int p3), .val (.int p4), .val (.int p5), .val (.int (3 : Int32)), .val (.int (p2 &&& (31 : Int32))), .val (.int (p3 &&& (31 : Int32))), .val (.int (p4 &&& (31 : Int32))), .val (.int (p5 &&& (31 : Int32))), .val (.ref b6), .val (.int (own_u3 (p2 &&& (31 : Int32)) (p3 &&& (31 : Int32)) (p4 &&& (31 : Int32)))), .val (.int (1 : Int32)), .unset] [(.int (1 : Int32))])) _
    refine XS.istore X10.here hx rfl (hb hby at_140) rfl (l' := #[.val (.int p1), .val (.int p2), .val (.int p3), .val (.int p4), .val (.int p5), .val (.int (3 : Int32)), .val (.int (p2 &&& (31 : Int32))), .val (.int (p3 &&& (31 : Int32))), .val (.int (p4 &&& (31 : Int32))), .val (.int (p5 &&& (31 : Int32))), .val (.ref b6), .val (.int (own_u3 (p2 &&& (31 : Int32)) (p3 &&& (31 : Int32)) (p4 &&& (31 : Int32)))), .val (.int (1 : Int32)), .val (.int (1 : Int32))]) rfl ?_
    show Steps p.tables e below (T10.setTop (mkF m 142 #[.val (.int p1), .val (.int p2), .val (.int p3), .val (.int p4), .val (.int p5), .val (.int (3 : Int32)), .val (.int (p2 &&& (31 : Int32))), .val (.int (p3 &&& (31 : Int32))), .val (.int (p4 &&& (31 : Int32))), .val (.int (p5 &&& (31 : Int32))), .val (.ref b6), .val (.int (own_u3 (p2 &&& (31 : Int32)) (p3 &&& (31 : Int32)) (p4 &&& (31 : Int32)))), .val (.int (1 : Int32)), .val (.int (1 : Int32))] [])) _
    refine XS.iload X10.here hx rfl (hb hby at_142) rfl ?_
    show Steps p.tables e below (T10.setTop (mkF m 144 #[.val (.int p1), .val (.int p2), .val (.int p3), .val (.int p4), .val (.int p5), .val (.int (3 : Int32)), .val (.int (p2 &&& (31 : Int32))), .val (.int (p3 &&& (31 : Int32))), .val (.int (p4 &&& (31 : Int32))), .val (.int (p5 &&& (31 : Int32))), .val (.ref b6), .val (.int (own_u3 (p2 &&& (31 : Int32)) (p3 &&& (31 : Int32)) (p4 &&& (31 : Int32)))), .val (.int (1 : Int32)), .val (.int (1 : Int32))] [(.int (1 : Int32))])) _
    refine XS.iload X10.here hx rfl (hb hby at_144) rfl ?_
    show Steps p.tables e below (T10.setTop (mkF m 146 #[.val (.int p1), .val (.int p2), .val (.int p3), .val (.int p4), .val (.int p5), .val (.int (3 : Int32)), .val (.int (p2 &&& (31 : Int32))), .val (.int (p3 &&& (31 : Int32))), .val (.int (p4 &&& (31 : Int32))), .val (.int (p5 &&& (31 : Int32))), .val (.ref b6), .val (.int (own_u3 (p2 &&& (31 : Int32)) (p3 &&& (31 : Int32)) (p4 &&& (31 : Int32)))), .val (.int (1 : Int32)), .val (.int (1 : Int32))] [(.int (1 : Int32)), (.int (1 : Int32))])) _
    refine XS.icmpNo X10.here hx rfl (hb hby at_146) rfl (teq (rfl : (1 : Int32) = (1 : Int32))).2 ?_
    show Steps p.tables e below (T10.setTop (mkF m 149 #[.val (.int p1), .val (.int p2), .val (.int p3), .val (.int p4), .val (.int p5), .val (.int (3 : Int32)), .val (.int (p2 &&& (31 : Int32))), .val (.int (p3 &&& (31 : Int32))), .val (.int (p4 &&& (31 : Int32))), .val (.int (p5 &&& (31 : Int32))), .val (.ref b6), .val (.int (own_u3 (p2 &&& (31 : Int32)) (p3 &&& (31 : Int32)) (p4 &&& (31 : Int32)))), .val (.int (1 : Int32)), .val (.int (1 : Int32))] [])) _
    refine XS.iconst X10.here hx rfl (hb hby at_149) ?_
    show Steps p.tables e below (T10.setTop (mkF m 150 #[.val (.int p1), .val (.int p2), .val (.int p3), .val (.int p4), .val (.int p5), .val (.int (3 : Int32)), .val (.int (p2 &&& (31 : Int32))), .val (.int (p3 &&& (31 : Int32))), .val (.int (p4 &&& (31 : Int32))), .val (.int (p5 &&& (31 : Int32))), .val (.ref b6), .val (.int (own_u3 (p2 &&& (31 : Int32)) (p3 &&& (31 : Int32)) (p4 &&& (31 : Int32)))), .val (.int (1 : Int32)), .val (.int (1 : Int32))] [(.int (1 : Int32))])) _
    refine XS.goto X10.here hx rfl (pc0 := 150) (pc' := 154) rfl (hb hby at_150) (by decide) (by decide) ?_
    show Steps p.tables e below (T10.setTop (mkF m 154 #[.val (.int p1), .val (.int p2), .val (.int p3), .val (.int p4), .val (.int p5), .val (.int (3 : Int32)), .val (.int (p2 &&& (31 : Int32))), .val (.int (p3 &&& (31 : Int32))), .val (.int (p4 &&& (31 : Int32))), .val (.int (p5 &&& (31 : Int32))), .val (.ref b6), .val (.int (own_u3 (p2 &&& (31 : Int32)) (p3 &&& (31 : Int32)) (p4 &&& (31 : Int32)))), .val (.int (1 : Int32)), .val (.int (1 : Int32))] [(.int (1 : Int32))])) _
    exact retN X10 hx (t := .boolean) Bd.returns (by simp) (hb hby at_154) hr
  · show own_Q0 h0 n0 _ T10.heap _
    rw [e10]
    exact ⟨rfl, N10⟩
set_option maxRecDepth 65536 in
set_option maxHeartbeats 40000000 in
theorem own_rm0_3_1 (l : Launch) (Z : State) (a0 : Array Value) (hw : ∀ d ∈ tables_1, d.before a0 Z = true) (ws : List Jvm.Cond) (p1 : Int32) (p2 : Int32) (p3 : Int32) (p4 : Int32) (p5 : Int32) (h0 : Heap) (n0 : Nat) (Z0 : n0 ≤ h0.size) (hn : (p1 &&& (3 : Int32)) = (3 : Int32)) (hc39 : ¬ ((3 : Int32) < (1 : Int32))) (hc51 : ¬ ((3 : Int32) < (2 : Int32))) (hc63 : ¬ ((3 : Int32) < (3 : Int32))) (hc82 : ¬ ((3 : Int32) < (1 : Int32))) (hc89 : ¬ ((p5 &&& (31 : Int32)) = (p2 &&& (31 : Int32)))) (hc95 : ¬ ((3 : Int32) < (2 : Int32))) (hc102 : (p5 &&& (31 : Int32)) = (p3 &&& (31 : Int32))) (hc132 : ¬ (((((own_u3 (p2 &&& (31 : Int32)) (p3 &&& (31 : Int32)) (p4 &&& (31 : Int32))).toUInt32 >>> ((p5 &&& (31 : Int32)) &&& 31).toUInt32).toInt32) &&& (1 : Int32)) = (0 : Int32))) :
    MetFree l x (head1 (Jvm.Cond.code x code maxLocals ret :: ws) room_1) (fun a U => a = #[(.int p1), (.int p2), (.int p3), (.int p4), (.int p5)] ∧ Z.Warmed39 U.vm ∧ U.heap = h0) (fun _ _ _ _ _ => True) (fun _ U o U' => ∃ v L, o = .returned v ∧ own_Q0 h0 n0 v U'.heap L ∧ FrameEnd U o U' L room_1.cells room_1.slots) := by
  refine MetFree.of_bodySF (plainFor_of_name pn_0) hisR ?_
  intro p e s m args below meth c s₁ Bd hml0 hP hK
  obtain ⟨rfl, hZ, hh⟩ := hP
  have hx := Bd.exec
  have hby := Bd.bytes
  have hml : c.maxLocals = 14 := hml0
  have hown : s.vm.findClass "com/example/sundew/sundew/text/BreakPropertiesBitsPinLaw" = some m.cls := findClass_of_methodNamed Bd.named
  have hnm := (name_of_methodNamed Bd.named Bd.method).1
  have X0 : Stand p l e room_1 s m #[(.int p1), (.int p2), (.int p3), (.int p4), (.int p5)] below meth c s₁ [] 0 0 := Stand.of_body Bd
  have e0 : s₁.heap = h0 := by rw [← hh, Bd.state]; rfl
  have N0 := Fr.nil n0
  have pre0 : ∀ t, Steps p.tables e below (s₁.setTop (mkF m 0 #[.val (.int p1), .val (.int p2), .val (.int p3), .val (.int p4), .val (.int p5), .unset, .unset, .unset, .unset, .unset, .unset, .unset, .unset, .unset] [])) t → Steps p.tables e below (s₁.setTop (entryFrame m #[(.int p1), (.int p2), (.int p3), (.int p4), (.int p5)] maxLocals)) t := fun t k => castTop (ef_0 m p1 p2 p3 p4 p5) k
  obtain ⟨T6, h6, k6, X6, e6, E6, A6, st6⟩ := newP X0 hx hZ (hw _ (List.mem_of_getElem? (i := 0) rfl)) e0 (g := (mkF m 32 #[.val (.int p1), .val (.int p2), .val (.int p3), .val (.int p4), .val (.int p5), .val (.int (3 : Int32)), .val (.int (p2 &&& (31 : Int32))), .val (.int (p3 &&& (31 : Int32))), .val (.int (p4 &&& (31 : Int32))), .val (.int (p5 &&& (31 : Int32))), .unset, .unset, .unset, .unset] [(.int (3 : Int32))])) rfl (hb hby at_32) rfl (by decide) (cap := 3) (by decide) (by decide) (by decide) (by decide)
  obtain ⟨b6, g6⟩ : ∃ z, z = h0.size := ⟨_, rfl⟩
  rw [← g6] at A6 st6
  have V_b6 : Arv Z h6 b6 k6 .int (3 : Int32) [(.int (0 : Int32)), (.int (0 : Int32)), (.int (0 : Int32))] (.int (0 : Int32)) := (Arv.new A6 (by decide)).pad (pad_rep [] (.int (0 : Int32)) 3)
  have g_b6 : n0 ≤ b6 := Nat.le_trans Z0 (Nat.le_of_eq g6.symm)
  have sz_b6 : h0.size ≤ b6 := (Nat.le_trans (Keep.refl h0 []).1 (Nat.le_of_eq g6.symm))
  have K6 : Keep h0 h6 [] := (Keep.refl h0 []).ext E6
  obtain ⟨cl_b6_47, Ar_b6, q_b6, S_b6, N_b6, H_b6, G_b6⟩ := V_b6
  have hin47 : ¬ ((0 : Int32) < 0 ∨ cl_b6_47.slots.size ≤ ((0 : Int32)).toNatClampNeg) := inb_of S_b6 ⟨by decide, by decide⟩
  obtain ⟨T7, h7, X7, e7, W7, st7⟩ := stI X6 hx hZ e6 Ar_b6 (j := (0 : Int32)) hin47 (g := (mkF m 47 #[.val (.int p1), .val (.int p2), .val (.int p3), .val (.int p4), .val (.int p5), .val (.int (3 : Int32)), .val (.int (p2 &&& (31 : Int32))), .val (.int (p3 &&& (31 : Int32))), .val (.int (p4 &&& (31 : Int32))), .val (.int (p5 &&& (31 : Int32))), .val (.ref b6), .unset, .unset, .unset] [(.int (p2 &&& (31 : Int32))), (.int (0 : Int32)), (.ref b6)])) rfl rfl (hb hby at_47)
  have V_b6_7 := Arv.set Ar_b6 q_b6 S_b6 N_b6 H_b6 G_b6 rfl W7 0 rfl (Nat.le_of_ble_eq_true rfl)
  have K7 : Keep h0 h7 [] := K6.wr W7 (Or.inr sz_b6)
  have N7 := Fr.snoc X7 N0 g_b6
  obtain ⟨cl_b6_59, Ar_b6, q_b6, S_b6, N_b6, H_b6, G_b6⟩ := V_b6_7
  have hin59 : ¬ ((1 : Int32) < 0 ∨ cl_b6_59.slots.size ≤ ((1 : Int32)).toNatClampNeg) := inb_of S_b6 ⟨by decide, by decide⟩
  obtain ⟨T8, h8, X8, e8, W8, st8⟩ := stI X7 hx hZ e7 Ar_b6 (j := (1 : Int32)) hin59 (g := (mkF m 59 #[.val (.int p1), .val (.int p2), .val (.int p3), .val (.int p4), .val (.int p5), .val (.int (3 : Int32)), .val (.int (p2 &&& (31 : Int32))), .val (.int (p3 &&& (31 : Int32))), .val (.int (p4 &&& (31 : Int32))), .val (.int (p5 &&& (31 : Int32))), .val (.ref b6), .unset, .unset, .unset] [(.int (p3 &&& (31 : Int32))), (.int (1 : Int32)), (.ref b6)])) rfl rfl (hb hby at_59)
  have V_b6_8 := Arv.set Ar_b6 q_b6 S_b6 N_b6 H_b6 G_b6 rfl W8 1 rfl (Nat.le_of_ble_eq_true rfl)
  have K8 : Keep h0 h8 [] := K7.wr W8 (Or.inr sz_b6)
  have N8 := Fr.snoc X8 N7 g_b6
  obtain ⟨cl_b6_71, Ar_b6, q_b6, S_b6, N_b6, H_b6, G_b6⟩ := V_b6_8
  have hin71 : ¬ ((2 : Int32) < 0 ∨ cl_b6_71.slots.size ≤ ((2 : Int32)).toNatClampNeg) := inb_of S_b6 ⟨by decide, by decide⟩
  obtain ⟨T9, h9, X9, e9, W9, st9⟩ := stI X8 hx hZ e8 Ar_b6 (j := (2 : Int32)) hin71 (g := (mkF m 71 #[.val (.int p1), .val (.int p2), .val (.int p3), .val (.int p4), .val (.int p5), .val (.int (3 : Int32)), .val (.int (p2 &&& (31 : Int32))), .val (.int (p3 &&& (31 : Int32))), .val (.int (p4 &&& (31 : Int32))), .val (.int (p5 &&& (31 : Int32))), .val (.ref b6), .unset, .unset, .unset] [(.int (p4 &&& (31 : Int32))), (.int (2 : Int32)), (.ref b6)])) rfl rfl (hb hby at_71)
  have V_b6_9 := Arv.set Ar_b6 q_b6 S_b6 N_b6 H_b6 G_b6 rfl W9 2 rfl (Nat.le_of_ble_eq_true rfl)
  have K9 : Keep h0 h9 [] := K8.wr W9 (Or.inr sz_b6)
  have N9 := Fr.snoc X9 N8 g_b6
  obtain ⟨_, _, ⟨T10, L10, k10, n10⟩, -, X10, ⟨Lc10, hQ10, l10, y10, z10⟩, st10⟩ := Jvm.LawKit.callS X9 hx (y := (⟨"com/example/sundew/sundew/text/BreakProperties", "bits", "([I)I"⟩ : MethodName)) hown (mvT hZ (hw _ (List.mem_of_getElem? (i := 1) rfl))) (mvT hZ (hw _ (List.mem_of_getElem? (i := 2) rfl))) (mvT hZ (hw _ (List.mem_of_getElem? (i := 3) rfl))) (mvT hZ (hw _ (List.mem_of_getElem? (i := 4) rfl))) (by decide) (backOf (W := 0) (own_rm1_3 l Z a0 hw [] b6 _ (p2 &&& (31 : Int32)) (p3 &&& (31 : Int32)) (p4 &&& (31 : Int32)) h9 n0 (Nat.le_trans (Nat.le_trans (Nat.le_trans (Nat.le_trans Z0 E6.1) (Keep.of_wr W7).1) (Keep.of_wr W8).1) (Keep.of_wr W9).1) V_b6_9) hZ (hw _ (List.mem_of_getElem? (i := 4) rfl)) (hw _ (List.mem_of_getElem? (i := 3) rfl)) (by decide) (by decide)) (g := (mkF m 74 #[.val (.int p1), .val (.int p2), .val (.int p3), .val (.int p4), .val (.int p5), .val (.int (3 : Int32)), .val (.int (p2 &&& (31 : Int32))), .val (.int (p3 &&& (31 : Int32))), .val (.int (p4 &&& (31 : Int32))), .val (.int (p5 &&& (31 : Int32))), .val (.ref b6), .unset, .unset, .unset] [(.ref b6)])) rfl (by rw [hml]; rfl) (argsL := [(.ref b6)]) (rest := []) (lenOf pd_0_0 rfl) rfl (by show 2 * 0 + _ ≤ _; exact Nat.le_of_eq rfl) (hb hby at_74) (fun _ _ => ⟨rfl, e9, (by decide : 1 + 0 ≤ _), (by decide : 3 + 0 ≤ _)⟩)
  dsimp only [Pt.U, Pt.locs, Pt.cells, Pt.slots] at X10 l10 y10 z10 st10 hQ10
  subst l10 y10 z10
  obtain ⟨rfl, N10q, e10⟩ := hQ10
  have N10 := Fr.app N9 N10q
  obtain ⟨fs, hr, hrun, hended, hW, hsame⟩ := X10.leave (v := some (.int (1 : Int32))) (fun h => by rw [Bd.returns] at h; cases h)
  refine ⟨_, _, pre0 _ ?_, hrun, hended, _, _, rfl, ?_, ⟨_, rfl⟩, hW, hsame.mono (by decide) (by decide)⟩
  · show Steps p.tables e below (s₁.setTop (mkF m 0 #[.val (.int p1), .val (.int p2), .val (.int p3), .val (.int p4), .val (.int p5), .unset, .unset, .unset, .unset, .unset, .unset, .unset, .unset, .unset] [])) _
    refine XS.iloadN X0.here hx rfl (hb hby at_0) rfl ?_
    show Steps p.tables e below (s₁.setTop (mkF m 1 #[.val (.int p1), .val (.int p2), .val (.int p3), .val (.int p4), .val (.int p5), .unset, .unset, .unset, .unset, .unset, .unset, .unset, .unset, .unset] [(.int p1)])) _
    refine XS.iconst X0.here hx rfl (hb hby at_1) ?_
    show Steps p.tables e below (s₁.setTop (mkF m 2 #[.val (.int p1), .val (.int p2), .val (.int p3), .val (.int p4), .val (.int p5), .unset, .unset, .unset, .unset, .unset, .unset, .unset, .unset, .unset] [(.int (3 : Int32)), (.int p1)])) _
    refine XS.iand X0.here hx rfl (hb hby at_2) rfl ?_
    show Steps p.tables e below (s₁.setTop (mkF m 3 #[.val (.int p1), .val (.int p2), .val (.int p3), .val (.int p4), .val (.int p5), .unset, .unset, .unset, .unset, .unset, .unset, .unset, .unset, .unset] [(.int (p1 &&& (3 : Int32)))])) _
    rw [hn]
    show Steps p.tables e below (s₁.setTop (mkF m 3 #[.val (.int p1), .val (.int p2), .val (.int p3), .val (.int p4), .val (.int p5), .unset, .unset, .unset, .unset, .unset, .unset, .unset, .unset, .unset] [(.int (3 : Int32))])) _
    refine XS.istore X0.here hx rfl (hb hby at_3) rfl (l' := #[.val (.int p1), .val (.int p2), .val (.int p3), .val (.int p4), .val (.int p5), .val (.int (3 : Int32)), .unset, .unset, .unset, .unset, .unset, .unset, .unset, .unset]) rfl ?_
    show Steps p.tables e below (s₁.setTop (mkF m 5 #[.val (.int p1), .val (.int p2), .val (.int p3), .val (.int p4), .val (.int p5), .val (.int (3 : Int32)), .unset, .unset, .unset, .unset, .unset, .unset, .unset, .unset] [])) _
    refine XS.iloadN X0.here hx rfl (hb hby at_5) rfl ?_
    show Steps p.tables e below (s₁.setTop (mkF m 6 #[.val (.int p1), .val (.int p2), .val (.int p3), .val (.int p4), .val (.int p5), .val (.int (3 : Int32)), .unset, .unset, .unset, .unset, .unset, .unset, .unset, .unset] [(.int p2)])) _
    refine XS.bipush X0.here hx rfl (hb hby at_6) ?_
    show Steps p.tables e below (s₁.setTop (mkF m 8 #[.val (.int p1), .val (.int p2), .val (.int p3), .val (.int p4), .val (.int p5), .val (.int (3 : Int32)), .unset, .unset, .unset, .unset, .unset, .unset, .unset, .unset] [(.int (31 : Int32)), (.int p2)])) _
    refine XS.iand X0.here hx rfl (hb hby at_8) rfl ?_
    show Steps p.tables e below (s₁.setTop (mkF m 9 #[.val (.int p1), .val (.int p2), .val (.int p3), .val (.int p4), .val (.int p5), .val (.int (3 : Int32)), .unset, .unset, .unset, .unset, .unset, .unset, .unset, .unset] [(.int (p2 &&& (31 : Int32)))])) _
    refine XS.istore X0.here hx rfl (hb hby at_9) rfl (l' := #[.val (.int p1), .val (.int p2), .val (.int p3), .val (.int p4), .val (.int p5), .val (.int (3 : Int32)), .val (.int (p2 &&& (31 : Int32))), .unset, .unset, .unset, .unset, .unset, .unset, .unset]) rfl ?_
    show Steps p.tables e below (s₁.setTop (mkF m 11 #[.val (.int p1), .val (.int p2), .val (.int p3), .val (.int p4), .val (.int p5), .val (.int (3 : Int32)), .val (.int (p2 &&& (31 : Int32))), .unset, .unset, .unset, .unset, .unset, .unset, .unset] [])) _
    refine XS.iloadN X0.here hx rfl (hb hby at_11) rfl ?_
    show Steps p.tables e below (s₁.setTop (mkF m 12 #[.val (.int p1), .val (.int p2), .val (.int p3), .val (.int p4), .val (.int p5), .val (.int (3 : Int32)), .val (.int (p2 &&& (31 : Int32))), .unset, .unset, .unset, .unset, .unset, .unset, .unset] [(.int p3)])) _
    refine XS.bipush X0.here hx rfl (hb hby at_12) ?_
    show Steps p.tables e below (s₁.setTop (mkF m 14 #[.val (.int p1), .val (.int p2), .val (.int p3), .val (.int p4), .val (.int p5), .val (.int (3 : Int32)), .val (.int (p2 &&& (31 : Int32))), .unset, .unset, .unset, .unset, .unset, .unset, .unset] [(.int (31 : Int32)), (.int p3)])) _
    refine XS.iand X0.here hx rfl (hb hby at_14) rfl ?_
    show Steps p.tables e below (s₁.setTop (mkF m 15 #[.val (.int p1), .val (.int p2), .val (.int p3), .val (.int p4), .val (.int p5), .val (.int (3 : Int32)), .val (.int (p2 &&& (31 : Int32))), .unset, .unset, .unset, .unset, .unset, .unset, .unset] [(.int (p3 &&& (31 : Int32)))])) _
    refine XS.istore X0.here hx rfl (hb hby at_15) rfl (l' := #[.val (.int p1), .val (.int p2), .val (.int p3), .val (.int p4), .val (.int p5), .val (.int (3 : Int32)), .val (.int (p2 &&& (31 : Int32))), .val (.int (p3 &&& (31 : Int32))), .unset, .unset, .unset, .unset, .unset, .unset]) rfl ?_
    show Steps p.tables e below (s₁.setTop (mkF m 17 #[.val (.int p1), .val (.int p2), .val (.int p3), .val (.int p4), .val (.int p5), .val (.int (3 : Int32)), .val (.int (p2 &&& (31 : Int32))), .val (.int (p3 &&& (31 : Int32))), .unset, .unset, .unset, .unset, .unset, .unset] [])) _
    refine XS.iloadN X0.here hx rfl (hb hby at_17) rfl ?_
    show Steps p.tables e below (s₁.setTop (mkF m 18 #[.val (.int p1), .val (.int p2), .val (.int p3), .val (.int p4), .val (.int p5), .val (.int (3 : Int32)), .val (.int (p2 &&& (31 : Int32))), .val (.int (p3 &&& (31 : Int32))), .unset, .unset, .unset, .unset, .unset, .unset] [(.int p4)])) _
    refine XS.bipush X0.here hx rfl (hb hby at_18) ?_
    show Steps p.tables e below (s₁.setTop (mkF m 20 #[.val (.int p1), .val (.int p2), .val (.int p3), .val (.int p4), .val (.int p5), .val (.int (3 : Int32)), .val (.int (p2 &&& (31 : Int32))), .val (.int (p3 &&& (31 : Int32))), .unset, .unset, .unset, .unset, .unset, .unset] [(.int (31 : Int32)), (.int p4)])) _
    refine XS.iand X0.here hx rfl (hb hby at_20) rfl ?_
    show Steps p.tables e below (s₁.setTop (mkF m 21 #[.val (.int p1), .val (.int p2), .val (.int p3), .val (.int p4), .val (.int p5), .val (.int (3 : Int32)), .val (.int (p2 &&& (31 : Int32))), .val (.int (p3 &&& (31 : Int32))), .unset, .unset, .unset, .unset, .unset, .unset] [(.int (p4 &&& (31 : Int32)))])) _
    refine XS.istore X0.here hx rfl (hb hby at_21) rfl (l' := #[.val (.int p1), .val (.int p2), .val (.int p3), .val (.int p4), .val (.int p5), .val (.int (3 : Int32)), .val (.int (p2 &&& (31 : Int32))), .val (.int (p3 &&& (31 : Int32))), .val (.int (p4 &&& (31 : Int32))), .unset, .unset, .unset, .unset, .unset]) rfl ?_
    show Steps p.tables e below (s₁.setTop (mkF m 23 #[.val (.int p1), .val (.int p2), .val (.int p3), .val (.int p4), .val (.int p5), .val (.int (3 : Int32)), .val (.int (p2 &&& (31 : Int32))), .val (.int (p3 &&& (31 : Int32))), .val (.int (p4 &&& (31 : Int32))), .unset, .unset, .unset, .unset, .unset] [])) _
    refine XS.iload X0.here hx rfl (hb hby at_23) rfl ?_
    show Steps p.tables e below (s₁.setTop (mkF m 25 #[.val (.int p1), .val (.int p2), .val (.int p3), .val (.int p4), .val (.int p5), .val (.int (3 : Int32)), .val (.int (p2 &&& (31 : Int32))), .val (.int (p3 &&& (31 : Int32))), .val (.int (p4 &&& (31 : Int32))), .unset, .unset, .unset, .unset, .unset] [(.int p5)])) _
    refine XS.bipush X0.here hx rfl (hb hby at_25) ?_
    show Steps p.tables e below (s₁.setTop (mkF m 27 #[.val (.int p1), .val (.int p2), .val (.int p3), .val (.int p4), .val (.int p5), .val (.int (3 : Int32)), .val (.int (p2 &&& (31 : Int32))), .val (.int (p3 &&& (31 : Int32))), .val (.int (p4 &&& (31 : Int32))), .unset, .unset, .unset, .unset, .unset] [(.int (31 : Int32)), (.int p5)])) _
    refine XS.iand X0.here hx rfl (hb hby at_27) rfl ?_
    show Steps p.tables e below (s₁.setTop (mkF m 28 #[.val (.int p1), .val (.int p2), .val (.int p3), .val (.int p4), .val (.int p5), .val (.int (3 : Int32)), .val (.int (p2 &&& (31 : Int32))), .val (.int (p3 &&& (31 : Int32))), .val (.int (p4 &&& (31 : Int32))), .unset, .unset, .unset, .unset, .unset] [(.int (p5 &&& (31 : Int32)))])) _
    refine XS.istore X0.here hx rfl (hb hby at_28) rfl (l' := #[.val (.int p1), .val (.int p2), .val (.int p3), .val (.int p4), .val (.int p5), .val (.int (3 : Int32)), .val (.int (p2 &&& (31 : Int32))), .val (.int (p3 &&& (31 : Int32))), .val (.int (p4 &&& (31 : Int32))), .val (.int (p5 &&& (31 : Int32))), .unset, .unset, .unset, .unset]) rfl ?_
    show Steps p.tables e below (s₁.setTop (mkF m 30 #[.val (.int p1), .val (.int p2), .val (.int p3), .val (.int p4), .val (.int p5), .val (.int (3 : Int32)), .val (.int (p2 &&& (31 : Int32))), .val (.int (p3 &&& (31 : Int32))), .val (.int (p4 &&& (31 : Int32))), .val (.int (p5 &&& (31 : Int32))), .unset, .unset, .unset, .unset] [])) _
    refine XS.iload X0.here hx rfl (hb hby at_30) rfl ?_
    show Steps p.tables e below (s₁.setTop (mkF m 32 #[.val (.int p1), .val (.int p2), .val (.int p3), .val (.int p4), .val (.int p5), .val (.int (3 : Int32)), .val (.int (p2 &&& (31 : Int32))), .val (.int (p3 &&& (31 : Int32))), .val (.int (p4 &&& (31 : Int32))), .val (.int (p5 &&& (31 : Int32))), .unset, .unset, .unset, .unset] [(.int (3 : Int32))])) _
    refine st6 _ ?_
    show Steps p.tables e below (T6.setTop (mkF m 34 #[.val (.int p1), .val (.int p2), .val (.int p3), .val (.int p4), .val (.int p5), .val (.int (3 : Int32)), .val (.int (p2 &&& (31 : Int32))), .val (.int (p3 &&& (31 : Int32))), .val (.int (p4 &&& (31 : Int32))), .val (.int (p5 &&& (31 : Int32))), .unset, .unset, .unset, .unset] [(.ref b6)])) _
    refine XS.astore X6.here hx rfl (hb hby at_34) rfl rfl (l' := #[.val (.int p1), .val (.int p2), .val (.int p3), .val (.int p4), .val (.int p5), .val (.int (3 : Int32)), .val (.int (p2 &&& (31 : Int32))), .val (.int (p3 &&& (31 : Int32))), .val (.int (p4 &&& (31 : Int32))), .val (.int (p5 &&& (31 : Int32))), .val (.ref b6), .unset, .unset, .unset]) rfl ?_
    show Steps p.tables e below (T6.setTop (mkF m 36 #[.val (.int p1), .val (.int p2), .val (.int p3), .val (.int p4), .val (.int p5), .val (.int (3 : Int32)), .val (.int (p2 &&& (31 : Int32))), .val (.int (p3 &&& (31 : Int32))), .val (.int (p4 &&& (31 : Int32))), .val (.int (p5 &&& (31 : Int32))), .val (.ref b6), .unset, .unset, .unset] [])) _
    refine XS.iload X6.here hx rfl (hb hby at_36) rfl ?_
    show Steps p.tables e below (T6.setTop (mkF m 38 #[.val (.int p1), .val (.int p2), .val (.int p3), .val (.int p4), .val (.int p5), .val (.int (3 : Int32)), .val (.int (p2 &&& (31 : Int32))), .val (.int (p3 &&& (31 : Int32))), .val (.int (p4 &&& (31 : Int32))), .val (.int (p5 &&& (31 : Int32))), .val (.ref b6), .unset, .unset, .unset] [(.int (3 : Int32))])) _
    refine XS.iconst X6.here hx rfl (hb hby at_38) ?_
    show Steps p.tables e below (T6.setTop (mkF m 39 #[.val (.int p1), .val (.int p2), .val (.int p3), .val (.int p4), .val (.int p5), .val (.int (3 : Int32)), .val (.int (p2 &&& (31 : Int32))), .val (.int (p3 &&& (31 : Int32))), .val (.int (p4 &&& (31 : Int32))), .val (.int (p5 &&& (31 : Int32))), .val (.ref b6), .unset, .unset, .unset] [(.int (1 : Int32)), (.int (3 : Int32))])) _
    refine XS.icmpNo X6.here hx rfl (hb hby at_39) rfl (flt hc39).1 ?_
    show Steps p.tables e below (T6.setTop (mkF m 42 #[.val (.int p1), .val (.int p2), .val (.int p3), .val (.int p4), .val (.int p5), .val (.int (3 : Int32)), .val (.int (p2 &&& (31 : Int32))), .val (.int (p3 &&& (31 : Int32))), .val (.int (p4 &&& (31 : Int32))), .val (.int (p5 &&& (31 : Int32))), .val (.ref b6), .unset, .unset, .unset] [])) _
    refine XS.aload X6.here hx rfl (hb hby at_42) rfl rfl ?_
    show Steps p.tables e below (T6.setTop (mkF m 44 #[.val (.int p1), .val (.int p2), .val (.int p3), .val (.int p4), .val (.int p5), .val (.int (3 : Int32)), .val (.int (p2 &&& (31 : Int32))), .val (.int (p3 &&& (31 : Int32))), .val (.int (p4 &&& (31 : Int32))), .val (.int (p5 &&& (31 : Int32))), .val (.ref b6), .unset, .unset, .unset] [(.ref b6)])) _
    refine XS.iconst X6.here hx rfl (hb hby at_44) ?_
    show Steps p.tables e below (T6.setTop (mkF m 45 #[.val (.int p1), .val (.int p2), .val (.int p3), .val (.int p4), .val (.int p5), .val (.int (3 : Int32)), .val (.int (p2 &&& (31 : Int32))), .val (.int (p3 &&& (31 : Int32))), .val (.int (p4 &&& (31 : Int32))), .val (.int (p5 &&& (31 : Int32))), .val (.ref b6), .unset, .unset, .unset] [(.int (0 : Int32)), (.ref b6)])) _
    refine XS.iload X6.here hx rfl (hb hby at_45) rfl ?_
    show Steps p.tables e below (T6.setTop (mkF m 47 #[.val (.int p1), .val (.int p2), .val (.int p3), .val (.int p4), .val (.int p5), .val (.int (3 : Int32)), .val (.int (p2 &&& (31 : Int32))), .val (.int (p3 &&& (31 : Int32))), .val (.int (p4 &&& (31 : Int32))), .val (.int (p5 &&& (31 : Int32))), .val (.ref b6), .unset, .unset, .unset] [(.int (p2 &&& (31 : Int32))), (.int (0 : Int32)), (.ref b6)])) _
    refine st7 _ ?_
    show Steps p.tables e below (T7.setTop (mkF m 48 #[.val (.int p1), .val (.int p2), .val (.int p3), .val (.int p4), .val (.int p5), .val (.int (3 : Int32)), .val (.int (p2 &&& (31 : Int32))), .val (.int (p3 &&& (31 : Int32))), .val (.int (p4 &&& (31 : Int32))), .val (.int (p5 &&& (31 : Int32))), .val (.ref b6), .unset, .unset, .unset] [])) _
    refine XS.iload X7.here hx rfl (hb hby at_48) rfl ?_
    show Steps p.tables e below (T7.setTop (mkF m 50 #[.val (.int p1), .val (.int p2), .val (.int p3), .val (.int p4), .val (.int p5), .val (.int (3 : Int32)), .val (.int (p2 &&& (31 : Int32))), .val (.int (p3 &&& (31 : Int32))), .val (.int (p4 &&& (31 : Int32))), .val (.int (p5 &&& (31 : Int32))), .val (.ref b6), .unset, .unset, .unset] [(.int (3 : Int32))])) _
    refine XS.iconst X7.here hx rfl (hb hby at_50) ?_
    show Steps p.tables e below (T7.setTop (mkF m 51 #[.val (.int p1), .val (.int p2), .val (.int p3), .val (.int p4), .val (.int p5), .val (.int (3 : Int32)), .val (.int (p2 &&& (31 : Int32))), .val (.int (p3 &&& (31 : Int32))), .val (.int (p4 &&& (31 : Int32))), .val (.int (p5 &&& (31 : Int32))), .val (.ref b6), .unset, .unset, .unset] [(.int (2 : Int32)), (.int (3 : Int32))])) _
    refine XS.icmpNo X7.here hx rfl (hb hby at_51) rfl (flt hc51).1 ?_
    show Steps p.tables e below (T7.setTop (mkF m 54 #[.val (.int p1), .val (.int p2), .val (.int p3), .val (.int p4), .val (.int p5), .val (.int (3 : Int32)), .val (.int (p2 &&& (31 : Int32))), .val (.int (p3 &&& (31 : Int32))), .val (.int (p4 &&& (31 : Int32))), .val (.int (p5 &&& (31 : Int32))), .val (.ref b6), .unset, .unset, .unset] [])) _
    refine XS.aload X7.here hx rfl (hb hby at_54) rfl rfl ?_
    show Steps p.tables e below (T7.setTop (mkF m 56 #[.val (.int p1), .val (.int p2), .val (.int p3), .val (.int p4), .val (.int p5), .val (.int (3 : Int32)), .val (.int (p2 &&& (31 : Int32))), .val (.int (p3 &&& (31 : Int32))), .val (.int (p4 &&& (31 : Int32))), .val (.int (p5 &&& (31 : Int32))), .val (.ref b6), .unset, .unset, .unset] [(.ref b6)])) _
    refine XS.iconst X7.here hx rfl (hb hby at_56) ?_
    show Steps p.tables e below (T7.setTop (mkF m 57 #[.val (.int p1), .val (.int p2), .val (.int p3), .val (.int p4), .val (.int p5), .val (.int (3 : Int32)), .val (.int (p2 &&& (31 : Int32))), .val (.int (p3 &&& (31 : Int32))), .val (.int (p4 &&& (31 : Int32))), .val (.int (p5 &&& (31 : Int32))), .val (.ref b6), .unset, .unset, .unset] [(.int (1 : Int32)), (.ref b6)])) _
    refine XS.iload X7.here hx rfl (hb hby at_57) rfl ?_
    show Steps p.tables e below (T7.setTop (mkF m 59 #[.val (.int p1), .val (.int p2), .val (.int p3), .val (.int p4), .val (.int p5), .val (.int (3 : Int32)), .val (.int (p2 &&& (31 : Int32))), .val (.int (p3 &&& (31 : Int32))), .val (.int (p4 &&& (31 : Int32))), .val (.int (p5 &&& (31 : Int32))), .val (.ref b6), .unset, .unset, .unset] [(.int (p3 &&& (31 : Int32))), (.int (1 : Int32)), (.ref b6)])) _
    refine st8 _ ?_
    show Steps p.tables e below (T8.setTop (mkF m 60 #[.val (.int p1), .val (.int p2), .val (.int p3), .val (.int p4), .val (.int p5), .val (.int (3 : Int32)), .val (.int (p2 &&& (31 : Int32))), .val (.int (p3 &&& (31 : Int32))), .val (.int (p4 &&& (31 : Int32))), .val (.int (p5 &&& (31 : Int32))), .val (.ref b6), .unset, .unset, .unset] [])) _
    refine XS.iload X8.here hx rfl (hb hby at_60) rfl ?_
    show Steps p.tables e below (T8.setTop (mkF m 62 #[.val (.int p1), .val (.int p2), .val (.int p3), .val (.int p4), .val (.int p5), .val (.int (3 : Int32)), .val (.int (p2 &&& (31 : Int32))), .val (.int (p3 &&& (31 : Int32))), .val (.int (p4 &&& (31 : Int32))), .val (.int (p5 &&& (31 : Int32))), .val (.ref b6), .unset, .unset, .unset] [(.int (3 : Int32))])) _
    refine XS.iconst X8.here hx rfl (hb hby at_62) ?_
    show Steps p.tables e below (T8.setTop (mkF m 63 #[.val (.int p1), .val (.int p2), .val (.int p3), .val (.int p4), .val (.int p5), .val (.int (3 : Int32)), .val (.int (p2 &&& (31 : Int32))), .val (.int (p3 &&& (31 : Int32))), .val (.int (p4 &&& (31 : Int32))), .val (.int (p5 &&& (31 : Int32))), .val (.ref b6), .unset, .unset, .unset] [(.int (3 : Int32)), (.int (3 : Int32))])) _
    refine XS.icmpNo X8.here hx rfl (hb hby at_63) rfl (flt hc63).1 ?_
    show Steps p.tables e below (T8.setTop (mkF m 66 #[.val (.int p1), .val (.int p2), .val (.int p3), .val (.int p4), .val (.int p5), .val (.int (3 : Int32)), .val (.int (p2 &&& (31 : Int32))), .val (.int (p3 &&& (31 : Int32))), .val (.int (p4 &&& (31 : Int32))), .val (.int (p5 &&& (31 : Int32))), .val (.ref b6), .unset, .unset, .unset] [])) _
    refine XS.aload X8.here hx rfl (hb hby at_66) rfl rfl ?_
    show Steps p.tables e below (T8.setTop (mkF m 68 #[.val (.int p1), .val (.int p2), .val (.int p3), .val (.int p4), .val (.int p5), .val (.int (3 : Int32)), .val (.int (p2 &&& (31 : Int32))), .val (.int (p3 &&& (31 : Int32))), .val (.int (p4 &&& (31 : Int32))), .val (.int (p5 &&& (31 : Int32))), .val (.ref b6), .unset, .unset, .unset] [(.ref b6)])) _
    refine XS.iconst X8.here hx rfl (hb hby at_68) ?_
    show Steps p.tables e below (T8.setTop (mkF m 69 #[.val (.int p1), .val (.int p2), .val (.int p3), .val (.int p4), .val (.int p5), .val (.int (3 : Int32)), .val (.int (p2 &&& (31 : Int32))), .val (.int (p3 &&& (31 : Int32))), .val (.int (p4 &&& (31 : Int32))), .val (.int (p5 &&& (31 : Int32))), .val (.ref b6), .unset, .unset, .unset] [(.int (2 : Int32)), (.ref b6)])) _
    refine XS.iload X8.here hx rfl (hb hby at_69) rfl ?_
    show Steps p.tables e below (T8.setTop (mkF m 71 #[.val (.int p1), .val (.int p2), .val (.int p3), .val (.int p4), .val (.int p5), .val (.int (3 : Int32)), .val (.int (p2 &&& (31 : Int32))), .val (.int (p3 &&& (31 : Int32))), .val (.int (p4 &&& (31 : Int32))), .val (.int (p5 &&& (31 : Int32))), .val (.ref b6), .unset, .unset, .unset] [(.int (p4 &&& (31 : Int32))), (.int (2 : Int32)), (.ref b6)])) _
    refine st9 _ ?_
    show Steps p.tables e below (T9.setTop (mkF m 72 #[.val (.int p1), .val (.int p2), .val (.int p3), .val (.int p4), .val (.int p5), .val (.int (3 : Int32)), .val (.int (p2 &&& (31 : Int32))), .val (.int (p3 &&& (31 : Int32))), .val (.int (p4 &&& (31 : Int32))), .val (.int (p5 &&& (31 : Int32))), .val (.ref b6), .unset, .unset, .unset] [])) _
    refine XS.aload X9.here hx rfl (hb hby at_72) rfl rfl ?_
    show Steps p.tables e below (T9.setTop (mkF m 74 #[.val (.int p1), .val (.int p2), .val (.int p3), .val (.int p4), .val (.int p5), .val (.int (3 : Int32)), .val (.int (p2 &&& (31 : Int32))), .val (.int (p3 &&& (31 : Int32))), .val (.int (p4 &&& (31 : Int32))), .val (.int (p5 &&& (31 : Int32))), .val (.ref b6), .unset, .unset, .unset] [(.ref b6)])) _
    refine st10 _ ?_
    show Steps p.tables e below (T10.setTop (mkF m 77 #[.val (.int p1), .val (.int p2), .val (.int p3), .val (.int p4), .val (.int p5), .val (.int (3 : Int32)), .val (.int (p2 &&& (31 : Int32))), .val (.int (p3 &&& (31 : Int32))), .val (.int (p4 &&& (31 : Int32))), .val (.int (p5 &&& (31 : Int32))), .val (.ref b6), .unset, .unset, .unset] [(.int (own_u3 (p2 &&& (31 : Int32)) (p3 &&& (31 : Int32)) (p4 &&& (31 : Int32))))])) _
    refine XS.istore X10.here hx rfl (hb hby at_77) rfl (l' := #[.val (.int p1), .val (.int p2), .val (.int p3), .val (.int p4), .val (.int p5), .val (.int (3 : Int32)), .val (.int (p2 &&& (31 : Int32))), .val (.int (p3 &&& (31 : Int32))), .val (.int (p4 &&& (31 : Int32))), .val (.int (p5 &&& (31 : Int32))), .val (.ref b6), .val (.int (own_u3 (p2 &&& (31 : Int32)) (p3 &&& (31 : Int32)) (p4 &&& (31 : Int32)))), .unset, .unset]) rfl ?_
    show Steps p.tables e below (T10.setTop (mkF m 79 #[.val (.int p1), .val (.int p2), .val (.int p3), .val (.int p4), .val (.int p5), .val (.int (3 : Int32)), .val (.int (p2 &&& (31 : Int32))), .val (.int (p3 &&& (31 : Int32))), .val (.int (p4 &&& (31 : Int32))), .val (.int (p5 &&& (31 : Int32))), .val (.ref b6), .val (.int (own_u3 (p2 &&& (31 : Int32)) (p3 &&& (31 : Int32)) (p4 &&& (31 : Int32)))), .unset, .unset] [])) _
    refine XS.iload X10.here hx rfl (hb hby at_79) rfl ?_
    show Steps p.tables e below (T10.setTop (mkF m 81 #[.val (.int p1), .val (.int p2), .val (.int p3), .val (.int p4), .val (.int p5), .val (.int (3 : Int32)), .val (.int (p2 &&& (31 : Int32))), .val (.int (p3 &&& (31 : Int32))), .val (.int (p4 &&& (31 : Int32))), .val (.int (p5 &&& (31 : Int32))), .val (.ref b6), .val (.int (own_u3 (p2 &&& (31 : Int32)) (p3 &&& (31 : Int32)) (p4 &&& (31 : Int32)))), .unset, .unset] [(.int (3 : Int32))])) _
    refine XS.iconst X10.here hx rfl (hb hby at_81) ?_
    show Steps p.tables e below (T10.setTop (mkF m 82 #[.val (.int p1), .val (.int p2), .val (.int p3), .val (.int p4), .val (.int p5), .val (.int (3 : Int32)), .val (.int (p2 &&& (31 : Int32))), .val (.int (p3 &&& (31 : Int32))), .val (.int (p4 &&& (31 : Int32))), .val (.int (p5 &&& (31 : Int32))), .val (.ref b6), .val (.int (own_u3 (p2 &&& (31 : Int32)) (p3 &&& (31 : Int32)) (p4 &&& (31 : Int32)))), .unset, .unset] [(.int (1 : Int32)), (.int (3 : Int32))])) _
    refine XS.icmpNo X10.here hx rfl (hb hby at_82) rfl (flt hc82).1 ?_
    show Steps p.tables e below (T10.setTop (mkF m 85 #[.val (.int p1), .val (.int p2), .val (.int p3), .val (.int p4), .val (.int p5), .val (.int (3 : Int32)), .val (.int (p2 &&& (31 : Int32))), .val (.int (p3 &&& (31 : Int32))), .val (.int (p4 &&& (31 : Int32))), .val (.int (p5 &&& (31 : Int32))), .val (.ref b6), .val (.int (own_u3 (p2 &&& (31 : Int32)) (p3 &&& (31 : Int32)) (p4 &&& (31 : Int32)))), .unset, .unset] [])) _
    refine XS.iload X10.here hx rfl (hb hby at_85) rfl ?_
    show Steps p.tables e below (T10.setTop (mkF m 87 #[.val (.int p1), .val (.int p2), .val (.int p3), .val (.int p4), .val (.int p5), .val (.int (3 : Int32)), .val (.int (p2 &&& (31 : Int32))), .val (.int (p3 &&& (31 : Int32))), .val (.int (p4 &&& (31 : Int32))), .val (.int (p5 &&& (31 : Int32))), .val (.ref b6), .val (.int (own_u3 (p2 &&& (31 : Int32)) (p3 &&& (31 : Int32)) (p4 &&& (31 : Int32)))), .unset, .unset] [(.int (p5 &&& (31 : Int32)))])) _
    refine XS.iload X10.here hx rfl (hb hby at_87) rfl ?_
    show Steps p.tables e below (T10.setTop (mkF m 89 #[.val (.int p1), .val (.int p2), .val (.int p3), .val (.int p4), .val (.int p5), .val (.int (3 : Int32)), .val (.int (p2 &&& (31 : Int32))), .val (.int (p3 &&& (31 : Int32))), .val (.int (p4 &&& (31 : Int32))), .val (.int (p5 &&& (31 : Int32))), .val (.ref b6), .val (.int (own_u3 (p2 &&& (31 : Int32)) (p3 &&& (31 : Int32)) (p4 &&& (31 : Int32)))), .unset, .unset] [(.int (p2 &&& (31 : Int32))), (.int (p5 &&& (31 : Int32)))])) _
    refine XS.icmpNo X10.here hx rfl (hb hby at_89) rfl (feq hc89).1 ?_
    show Steps p.tables e below (T10.setTop (mkF m 92 #[.val (.int p1), .val (.int p2), .val (.int p3), .val (.int p4), .val (.int p5), .val (.int (3 : Int32)), .val (.int (p2 &&& (31 : Int32))), .val (.int (p3 &&& (31 : Int32))), .val (.int (p4 &&& (31 : Int32))), .val (.int (p5 &&& (31 : Int32))), .val (.ref b6), .val (.int (own_u3 (p2 &&& (31 : Int32)) (p3 &&& (31 : Int32)) (p4 &&& (31 : Int32)))), .unset, .unset] [])) _
    refine XS.iload X10.here hx rfl (hb hby at_92) rfl ?_
    show Steps p.tables e below (T10.setTop (mkF m 94 #[.val (.int p1), .val (.int p2), .val (.int p3), .val (.int p4), .val (.int p5), .val (.int (3 : Int32)), .val (.int (p2 &&& (31 : Int32))), .val (.int (p3 &&& (31 : Int32))), .val (.int (p4 &&& (31 : Int32))), .val (.int (p5 &&& (31 : Int32))), .val (.ref b6), .val (.int (own_u3 (p2 &&& (31 : Int32)) (p3 &&& (31 : Int32)) (p4 &&& (31 : Int32)))), .unset, .unset] [(.int (3 : Int32))])) _
    refine XS.iconst X10.here hx rfl (hb hby at_94) ?_
    show Steps p.tables e below (T10.setTop (mkF m 95 #[.val (.int p1), .val (.int p2), .val (.int p3), .val (.int p4), .val (.int p5), .val (.int (3 : Int32)), .val (.int (p2 &&& (31 : Int32))), .val (.int (p3 &&& (31 : Int32))), .val (.int (p4 &&& (31 : Int32))), .val (.int (p5 &&& (31 : Int32))), .val (.ref b6), .val (.int (own_u3 (p2 &&& (31 : Int32)) (p3 &&& (31 : Int32)) (p4 &&& (31 : Int32)))), .unset, .unset] [(.int (2 : Int32)), (.int (3 : Int32))])) _
    refine XS.icmpNo X10.here hx rfl (hb hby at_95) rfl (flt hc95).1 ?_
    show Steps p.tables e below (T10.setTop (mkF m 98 #[.val (.int p1), .val (.int p2), .val (.int p3), .val (.int p4), .val (.int p5), .val (.int (3 : Int32)), .val (.int (p2 &&& (31 : Int32))), .val (.int (p3 &&& (31 : Int32))), .val (.int (p4 &&& (31 : Int32))), .val (.int (p5 &&& (31 : Int32))), .val (.ref b6), .val (.int (own_u3 (p2 &&& (31 : Int32)) (p3 &&& (31 : Int32)) (p4 &&& (31 : Int32)))), .unset, .unset] [])) _
    refine XS.iload X10.here hx rfl (hb hby at_98) rfl ?_
    show Steps p.tables e below (T10.setTop (mkF m 100 #[.val (.int p1), .val (.int p2), .val (.int p3), .val (.int p4), .val (.int p5), .val (.int (3 : Int32)), .val (.int (p2 &&& (31 : Int32))), .val (.int (p3 &&& (31 : Int32))), .val (.int (p4 &&& (31 : Int32))), .val (.int (p5 &&& (31 : Int32))), .val (.ref b6), .val (.int (own_u3 (p2 &&& (31 : Int32)) (p3 &&& (31 : Int32)) (p4 &&& (31 : Int32)))), .unset, .unset] [(.int (p5 &&& (31 : Int32)))])) _
    refine XS.iload X10.here hx rfl (hb hby at_100) rfl ?_
    show Steps p.tables e below (T10.setTop (mkF m 102 #[.val (.int p1), .val (.int p2), .val (.int p3), .val (.int p4), .val (.int p5), .val (.int (3 : Int32)), .val (.int (p2 &&& (31 : Int32))), .val (.int (p3 &&& (31 : Int32))), .val (.int (p4 &&& (31 : Int32))), .val (.int (p5 &&& (31 : Int32))), .val (.ref b6), .val (.int (own_u3 (p2 &&& (31 : Int32)) (p3 &&& (31 : Int32)) (p4 &&& (31 : Int32)))), .unset, .unset] [(.int (p3 &&& (31 : Int32))), (.int (p5 &&& (31 : Int32)))])) _
    refine XS.icmpYes X10.here hx rfl (pc0 := 102) (pc' := 118) rfl (hb hby at_102) rfl (teq hc102).1 (by decide) (by decide) ?_
    show Steps p.tables e below (T10.setTop (mkF m 118 #[.val (.int p1), .val (.int p2), .val (.int p3), .val (.int p4), .val (.int p5), .val (.int (3 : Int32)), .val (.int (p2 &&& (31 : Int32))), .val (.int (p3 &&& (31 : Int32))), .val (.int (p4 &&& (31 : Int32))), .val (.int (p5 &&& (31 : Int32))), .val (.ref b6), .val (.int (own_u3 (p2 &&& (31 : Int32)) (p3 &&& (31 : Int32)) (p4 &&& (31 : Int32)))), .unset, .unset] [])) _
    refine XS.iconst X10.here hx rfl (hb hby at_118) ?_
    show Steps p.tables e below (T10.setTop (mkF m 119 #[.val (.int p1), .val (.int p2), .val (.int p3), .val (.int p4), .val (.int p5), .val (.int (3 : Int32)), .val (.int (p2 &&& (31 : Int32))), .val (.int (p3 &&& (31 : Int32))), .val (.int (p4 &&& (31 : Int32))), .val (.int (p5 &&& (31 : Int32))), .val (.ref b6), .val (.int (own_u3 (p2 &&& (31 : Int32)) (p3 &&& (31 : Int32)) (p4 &&& (31 : Int32)))), .unset, .unset] [(.int (1 : Int32))])) _
    refine XS.goto X10.here hx rfl (pc0 := 119) (pc' := 123) rfl (hb hby at_119) (by decide) (by decide) ?_
    show Steps p.tables e below (T10.setTop (mkF m 123 #[.val (.int p1), .val (.int p2), .val (.int p3), .val (.int p4), .val (.int p5), .val (.int (3 : Int32)), .val (.int (p2 &&& (31 : Int32))), .val (.int (p3 &&& (31 : Int32))), .val (.int (p4 &&& (31 : Int32))), .val (.int (p5 &&& (31 : Int32))), .val (.ref b6), .val (.int (own_u3 (p2 &&& (31 : Int32)) (p3 &&& (31 : Int32)) (p4 &&& (31 : Int32)))), .unset, .unset] [(.int (1 : Int32))])) _
    refine XS.istore X10.here hx rfl (hb hby at_123) rfl (l' := #[.val (.int p1), .val (.int p2), .val (.int p3), .val (.int p4), .val (.int p5), .val (.int (3 : Int32)), .val (.int (p2 &&& (31 : Int32))), .val (.int (p3 &&& (31 : Int32))), .val (.int (p4 &&& (31 : Int32))), .val (.int (p5 &&& (31 : Int32))), .val (.ref b6), .val (.int (own_u3 (p2 &&& (31 : Int32)) (p3 &&& (31 : Int32)) (p4 &&& (31 : Int32)))), .val (.int (1 : Int32)), .unset]) rfl ?_
    show Steps p.tables e below (T10.setTop (mkF m 125 #[.val (.int p1), .val (.int p2), .val (.int p3), .val (.int p4), .val (.int p5), .val (.int (3 : Int32)), .val (.int (p2 &&& (31 : Int32))), .val (.int (p3 &&& (31 : Int32))), .val (.int (p4 &&& (31 : Int32))), .val (.int (p5 &&& (31 : Int32))), .val (.ref b6), .val (.int (own_u3 (p2 &&& (31 : Int32)) (p3 &&& (31 : Int32)) (p4 &&& (31 : Int32)))), .val (.int (1 : Int32)), .unset] [])) _
    refine XS.iload X10.here hx rfl (hb hby at_125) rfl ?_
    show Steps p.tables e below (T10.setTop (mkF m 127 #[.val (.int p1), .val (.int p2), .val (.int p3), .val (.int p4), .val (.int p5), .val (.int (3 : Int32)), .val (.int (p2 &&& (31 : Int32))), .val (.int (p3 &&& (31 : Int32))), .val (.int (p4 &&& (31 : Int32))), .val (.int (p5 &&& (31 : Int32))), .val (.ref b6), .val (.int (own_u3 (p2 &&& (31 : Int32)) (p3 &&& (31 : Int32)) (p4 &&& (31 : Int32)))), .val (.int (1 : Int32)), .unset] [(.int (own_u3 (p2 &&& (31 : Int32)) (p3 &&& (31 : Int32)) (p4 &&& (31 : Int32))))])) _
    refine XS.iload X10.here hx rfl (hb hby at_127) rfl ?_
    show Steps p.tables e below (T10.setTop (mkF m 129 #[.val (.int p1), .val (.int p2), .val (.int p3), .val (.int p4), .val (.int p5), .val (.int (3 : Int32)), .val (.int (p2 &&& (31 : Int32))), .val (.int (p3 &&& (31 : Int32))), .val (.int (p4 &&& (31 : Int32))), .val (.int (p5 &&& (31 : Int32))), .val (.ref b6), .val (.int (own_u3 (p2 &&& (31 : Int32)) (p3 &&& (31 : Int32)) (p4 &&& (31 : Int32)))), .val (.int (1 : Int32)), .unset] [(.int (p5 &&& (31 : Int32))), (.int (own_u3 (p2 &&& (31 : Int32)) (p3 &&& (31 : Int32)) (p4 &&& (31 : Int32))))])) _
    refine XS.iushr X10.here hx rfl (hb hby at_129) rfl ?_
    show Steps p.tables e below (T10.setTop (mkF m 130 #[.val (.int p1), .val (.int p2), .val (.int p3), .val (.int p4), .val (.int p5), .val (.int (3 : Int32)), .val (.int (p2 &&& (31 : Int32))), .val (.int (p3 &&& (31 : Int32))), .val (.int (p4 &&& (31 : Int32))), .val (.int (p5 &&& (31 : Int32))), .val (.ref b6), .val (.int (own_u3 (p2 &&& (31 : Int32)) (p3 &&& (31 : Int32)) (p4 &&& (31 : Int32)))), .val (.int (1 : Int32)), .unset] [(.int (((own_u3 (p2 &&& (31 : Int32)) (p3 &&& (31 : Int32)) (p4 &&& (31 : Int32))).toUInt32 >>> ((p5 &&& (31 : Int32)) &&& 31).toUInt32).toInt32))])) _
    refine XS.iconst X10.here hx rfl (hb hby at_130) ?_
    show Steps p.tables e below (T10.setTop (mkF m 131 #[.val (.int p1), .val (.int p2), .val (.int p3), .val (.int p4), .val (.int p5), .val (.int (3 : Int32)), .val (.int (p2 &&& (31 : Int32))), .val (.int (p3 &&& (31 : Int32))), .val (.int (p4 &&& (31 : Int32))), .val (.int (p5 &&& (31 : Int32))), .val (.ref b6), .val (.int (own_u3 (p2 &&& (31 : Int32)) (p3 &&& (31 : Int32)) (p4 &&& (31 : Int32)))), .val (.int (1 : Int32)), .unset] [(.int (1 : Int32)), (.int (((own_u3 (p2 &&& (31 : Int32)) (p3 &&& (31 : Int32)) (p4 &&& (31 : Int32))).toUInt32 >>> ((p5 &&& (31 : Int32)) &&& 31).toUInt32).toInt32))])) _
    refine XS.iand X10.here hx rfl (hb hby at_131) rfl ?_
    show Steps p.tables e below (T10.setTop (mkF m 132 #[.val (.int p1), .val (.int p2), .val (.int p3), .val (.int p4), .val (.int p5), .val (.int (3 : Int32)), .val (.int (p2 &&& (31 : Int32))), .val (.int (p3 &&& (31 : Int32))), .val (.int (p4 &&& (31 : Int32))), .val (.int (p5 &&& (31 : Int32))), .val (.ref b6), .val (.int (own_u3 (p2 &&& (31 : Int32)) (p3 &&& (31 : Int32)) (p4 &&& (31 : Int32)))), .val (.int (1 : Int32)), .unset] [(.int ((((own_u3 (p2 &&& (31 : Int32)) (p3 &&& (31 : Int32)) (p4 &&& (31 : Int32))).toUInt32 >>> ((p5 &&& (31 : Int32)) &&& 31).toUInt32).toInt32) &&& (1 : Int32)))])) _
    refine XS.ifNo X10.here hx rfl (hb hby at_132) rfl ((if0 _ _).trans (feq hc132).1) ?_
    show Steps p.tables e below (T10.setTop (mkF m 135 #[.val (.int p1), .val (.int p2), .val (.int p3), .val (.int p4), .val (.int p5), .val (.int (3 : Int32)), .val (.int (p2 &&& (31 : Int32))), .val (.int (p3 &&& (31 : Int32))), .val (.int (p4 &&& (31 : Int32))), .val (.int (p5 &&& (31 : Int32))), .val (.ref b6), .val (.int (own_u3 (p2 &&& (31 : Int32)) (p3 &&& (31 : Int32)) (p4 &&& (31 : Int32)))), .val (.int (1 : Int32)), .unset] [])) _
    refine XS.iconst X10.here hx rfl (hb hby at_135) ?_
    show Steps p.tables e below (T10.setTop (mkF m 136 #[.val (.int p1), .val (.int p2), .val (.int p3), .val (.int p4), .val (.int p5), .val (.int (3 : Int32)), .val (.int (p2 &&& (31 : Int32))), .val (.int (p3 &&& (31 : Int32))), .val (.int (p4 &&& (31 : Int32))), .val (.int (p5 &&& (31 : Int32))), .val (.ref b6), .val (.int (own_u3 (p2 &&& (31 : Int32)) (p3 &&& (31 : Int32)) (p4 &&& (31 : Int32)))), .val (.int (1 : Int32)), .unset] [(.int (1 : Int32))])) _
    refine XS.goto X10.here hx rfl (pc0 := 136) (pc' := 140) rfl (hb hby at_136) (by decide) (by decide) ?_
    show Steps p.tables e below (T10.setTop (mkF m 140 #[.val (.int p1), .val (.int p2), .val (.int p3), .val (.int p4), .val (.int p5), .val (.int (3 : Int32)), .val (.int (p2 &&& (31 : Int32))), .val (.int (p3 &&& (31 : Int32))), .val (.int (p4 &&& (31 : Int32))), .val (.int (p5 &&& (31 : Int32))), .val (.ref b6), .val (.int (own_u3 (p2 &&& (31 : Int32)) (p3 &&& (31 : Int32)) (p4 &&& (31 : Int32)))), .val (.int (1 : Int32)), .unset] [(.int (1 : Int32))])) _
    refine XS.istore X10.here hx rfl (hb hby at_140) rfl (l' := #[.val (.int p1), .val (.int p2), .val (.int p3), .val (.int p4), .val (.int p5), .val (.int (3 : Int32)), .val (.int (p2 &&& (31 : Int32))), .val (.int (p3 &&& (31 : Int32))), .val (.int (p4 &&& (31 : Int32))), .val (.int (p5 &&& (31 : Int32))), .val (.ref b6), .val (.int (own_u3 (p2 &&& (31 : Int32)) (p3 &&& (31 : Int32)) (p4 &&& (31 : Int32)))), .val (.int (1 : Int32)), .val (.int (1 : Int32))]) rfl ?_
    show Steps p.tables e below (T10.setTop (mkF m 142 #[.val (.int p1), .val (.int p2), .val (.int p3), .val (.int p4), .val (.int p5), .val (.int (3 : Int32)), .val (.int (p2 &&& (31 : Int32))), .val (.int (p3 &&& (31 : Int32))), .val (.int (p4 &&& (31 : Int32))), .val (.int (p5 &&& (31 : Int32))), .val (.ref b6), .val (.int (own_u3 (p2 &&& (31 : Int32)) (p3 &&& (31 : Int32)) (p4 &&& (31 : Int32)))), .val (.int (1 : Int32)), .val (.int (1 : Int32))] [])) _
    refine XS.iload X10.here hx rfl (hb hby at_142) rfl ?_
    show Steps p.tables e below (T10.setTop (mkF m 144 #[.val (.int p1), .val (.int p2), .val (.int p3), .val (.int p4), .val (.int p5), .val (.int (3 : Int32)), .val (.int (p2 &&& (31 : Int32))), .val (.int (p3 &&& (31 : Int32))), .val (.int (p4 &&& (31 : Int32))), .val (.int (p5 &&& (31 : Int32))), .val (.ref b6), .val (.int (own_u3 (p2 &&& (31 : Int32)) (p3 &&& (31 : Int32)) (p4 &&& (31 : Int32)))), .val (.int (1 : Int32)), .val (.int (1 : Int32))] [(.int (1 : Int32))])) _
    refine XS.iload X10.here hx rfl (hb hby at_144) rfl ?_
    show Steps p.tables e below (T10.setTop (mkF m 146 #[.val (.int p1), .val (.int p2), .val (.int p3), .val (.int p4), .val (.int p5), .val (.int (3 : Int32)), .val (.int (p2 &&& (31 : Int32))), .val (.int (p3 &&& (31 : Int32))), .val (.int (p4 &&& (31 : Int32))), .val (.int (p5 &&& (31 : Int32))), .val (.ref b6), .val (.int (own_u3 (p2 &&& (31 : Int32)) (p3 &&& (31 : Int32)) (p4 &&& (31 : Int32)))), .val (.int (1 : Int32)), .val (.int (1 : Int32))] [(.int (1 : Int32)), (.int (1 : Int32))])) _
    refine XS.icmpNo X10.here hx rfl (hb hby at_146) rfl (teq (rfl : (1 : Int32) = (1 : Int32))).2 ?_
    show Steps p.tables e below (T10.setTop (mkF m 149 #[.val (.int p1), .val (.int p2), .val (.int p3), .val (.int p4), .val (.int p5), .val (.int (3 : Int32)), .val (.int (p2 &&& (31 : Int32))), .val (.int (p3 &&& (31 : Int32))), .val (.int (p4 &&& (31 : Int32))), .val (.int (p5 &&& (31 : Int32))), .val (.ref b6), .val (.int (own_u3 (p2 &&& (31 : Int32)) (p3 &&& (31 : Int32)) (p4 &&& (31 : Int32)))), .val (.int (1 : Int32)), .val (.int (1 : Int32))] [])) _
    refine XS.iconst X10.here hx rfl (hb hby at_149) ?_
    show Steps p.tables e below (T10.setTop (mkF m 150 #[.val (.int p1), .val (.int p2), .val (.int p3), .val (.int p4), .val (.int p5), .val (.int (3 : Int32)), .val (.int (p2 &&& (31 : Int32))), .val (.int (p3 &&& (31 : Int32))), .val (.int (p4 &&& (31 : Int32))), .val (.int (p5 &&& (31 : Int32))), .val (.ref b6), .val (.int (own_u3 (p2 &&& (31 : Int32)) (p3 &&& (31 : Int32)) (p4 &&& (31 : Int32)))), .val (.int (1 : Int32)), .val (.int (1 : Int32))] [(.int (1 : Int32))])) _
    refine XS.goto X10.here hx rfl (pc0 := 150) (pc' := 154) rfl (hb hby at_150) (by decide) (by decide) ?_
    show Steps p.tables e below (T10.setTop (mkF m 154 #[.val (.int p1), .val (.int p2), .val (.int p3), .val (.int p4), .val (.int p5), .val (.int (3 : Int32)), .val (.int (p2 &&& (31 : Int32))), .val (.int (p3 &&& (31 : Int32))), .val (.int (p4 &&& (31 : Int32))), .val (.int (p5 &&& (31 : Int32))), .val (.ref b6), .val (.int (own_u3 (p2 &&& (31 : Int32)) (p3 &&& (31 : Int32)) (p4 &&& (31 : Int32)))), .val (.int (1 : Int32)), .val (.int (1 : Int32))] [(.int (1 : Int32))])) _
    exact retN X10 hx (t := .boolean) Bd.returns (by simp) (hb hby at_154) hr
  · show own_Q0 h0 n0 _ T10.heap _
    rw [e10]
    exact ⟨rfl, N10⟩
set_option maxRecDepth 65536 in
set_option maxHeartbeats 40000000 in
theorem own_rm0_3_2 (l : Launch) (Z : State) (a0 : Array Value) (hw : ∀ d ∈ tables_1, d.before a0 Z = true) (ws : List Jvm.Cond) (p1 : Int32) (p2 : Int32) (p3 : Int32) (p4 : Int32) (p5 : Int32) (h0 : Heap) (n0 : Nat) (Z0 : n0 ≤ h0.size) (hn : (p1 &&& (3 : Int32)) = (3 : Int32)) (hc39 : ¬ ((3 : Int32) < (1 : Int32))) (hc51 : ¬ ((3 : Int32) < (2 : Int32))) (hc63 : ¬ ((3 : Int32) < (3 : Int32))) (hc82 : ¬ ((3 : Int32) < (1 : Int32))) (hc89 : ¬ ((p5 &&& (31 : Int32)) = (p2 &&& (31 : Int32)))) (hc95 : ¬ ((3 : Int32) < (2 : Int32))) (hc102 : ¬ ((p5 &&& (31 : Int32)) = (p3 &&& (31 : Int32)))) (hc108 : ¬ ((3 : Int32) < (3 : Int32))) (hc115 : (p5 &&& (31 : Int32)) = (p4 &&& (31 : Int32))) (hc132 : ¬ (((((own_u3 (p2 &&& (31 : Int32)) (p3 &&& (31 : Int32)) (p4 &&& (31 : Int32))).toUInt32 >>> ((p5 &&& (31 : Int32)) &&& 31).toUInt32).toInt32) &&& (1 : Int32)) = (0 : Int32))) :
    MetFree l x (head1 (Jvm.Cond.code x code maxLocals ret :: ws) room_1) (fun a U => a = #[(.int p1), (.int p2), (.int p3), (.int p4), (.int p5)] ∧ Z.Warmed39 U.vm ∧ U.heap = h0) (fun _ _ _ _ _ => True) (fun _ U o U' => ∃ v L, o = .returned v ∧ own_Q0 h0 n0 v U'.heap L ∧ FrameEnd U o U' L room_1.cells room_1.slots) := by
  refine MetFree.of_bodySF (plainFor_of_name pn_0) hisR ?_
  intro p e s m args below meth c s₁ Bd hml0 hP hK
  obtain ⟨rfl, hZ, hh⟩ := hP
  have hx := Bd.exec
  have hby := Bd.bytes
  have hml : c.maxLocals = 14 := hml0
  have hown : s.vm.findClass "com/example/sundew/sundew/text/BreakPropertiesBitsPinLaw" = some m.cls := findClass_of_methodNamed Bd.named
  have hnm := (name_of_methodNamed Bd.named Bd.method).1
  have X0 : Stand p l e room_1 s m #[(.int p1), (.int p2), (.int p3), (.int p4), (.int p5)] below meth c s₁ [] 0 0 := Stand.of_body Bd
  have e0 : s₁.heap = h0 := by rw [← hh, Bd.state]; rfl
  have N0 := Fr.nil n0
  have pre0 : ∀ t, Steps p.tables e below (s₁.setTop (mkF m 0 #[.val (.int p1), .val (.int p2), .val (.int p3), .val (.int p4), .val (.int p5), .unset, .unset, .unset, .unset, .unset, .unset, .unset, .unset, .unset] [])) t → Steps p.tables e below (s₁.setTop (entryFrame m #[(.int p1), (.int p2), (.int p3), (.int p4), (.int p5)] maxLocals)) t := fun t k => castTop (ef_0 m p1 p2 p3 p4 p5) k
  obtain ⟨T6, h6, k6, X6, e6, E6, A6, st6⟩ := newP X0 hx hZ (hw _ (List.mem_of_getElem? (i := 0) rfl)) e0 (g := (mkF m 32 #[.val (.int p1), .val (.int p2), .val (.int p3), .val (.int p4), .val (.int p5), .val (.int (3 : Int32)), .val (.int (p2 &&& (31 : Int32))), .val (.int (p3 &&& (31 : Int32))), .val (.int (p4 &&& (31 : Int32))), .val (.int (p5 &&& (31 : Int32))), .unset, .unset, .unset, .unset] [(.int (3 : Int32))])) rfl (hb hby at_32) rfl (by decide) (cap := 3) (by decide) (by decide) (by decide) (by decide)
  obtain ⟨b6, g6⟩ : ∃ z, z = h0.size := ⟨_, rfl⟩
  rw [← g6] at A6 st6
  have V_b6 : Arv Z h6 b6 k6 .int (3 : Int32) [(.int (0 : Int32)), (.int (0 : Int32)), (.int (0 : Int32))] (.int (0 : Int32)) := (Arv.new A6 (by decide)).pad (pad_rep [] (.int (0 : Int32)) 3)
  have g_b6 : n0 ≤ b6 := Nat.le_trans Z0 (Nat.le_of_eq g6.symm)
  have sz_b6 : h0.size ≤ b6 := (Nat.le_trans (Keep.refl h0 []).1 (Nat.le_of_eq g6.symm))
  have K6 : Keep h0 h6 [] := (Keep.refl h0 []).ext E6
  obtain ⟨cl_b6_47, Ar_b6, q_b6, S_b6, N_b6, H_b6, G_b6⟩ := V_b6
  have hin47 : ¬ ((0 : Int32) < 0 ∨ cl_b6_47.slots.size ≤ ((0 : Int32)).toNatClampNeg) := inb_of S_b6 ⟨by decide, by decide⟩
  obtain ⟨T7, h7, X7, e7, W7, st7⟩ := stI X6 hx hZ e6 Ar_b6 (j := (0 : Int32)) hin47 (g := (mkF m 47 #[.val (.int p1), .val (.int p2), .val (.int p3), .val (.int p4), .val (.int p5), .val (.int (3 : Int32)), .val (.int (p2 &&& (31 : Int32))), .val (.int (p3 &&& (31 : Int32))), .val (.int (p4 &&& (31 : Int32))), .val (.int (p5 &&& (31 : Int32))), .val (.ref b6), .unset, .unset, .unset] [(.int (p2 &&& (31 : Int32))), (.int (0 : Int32)), (.ref b6)])) rfl rfl (hb hby at_47)
  have V_b6_7 := Arv.set Ar_b6 q_b6 S_b6 N_b6 H_b6 G_b6 rfl W7 0 rfl (Nat.le_of_ble_eq_true rfl)
  have K7 : Keep h0 h7 [] := K6.wr W7 (Or.inr sz_b6)
  have N7 := Fr.snoc X7 N0 g_b6
  obtain ⟨cl_b6_59, Ar_b6, q_b6, S_b6, N_b6, H_b6, G_b6⟩ := V_b6_7
  have hin59 : ¬ ((1 : Int32) < 0 ∨ cl_b6_59.slots.size ≤ ((1 : Int32)).toNatClampNeg) := inb_of S_b6 ⟨by decide, by decide⟩
  obtain ⟨T8, h8, X8, e8, W8, st8⟩ := stI X7 hx hZ e7 Ar_b6 (j := (1 : Int32)) hin59 (g := (mkF m 59 #[.val (.int p1), .val (.int p2), .val (.int p3), .val (.int p4), .val (.int p5), .val (.int (3 : Int32)), .val (.int (p2 &&& (31 : Int32))), .val (.int (p3 &&& (31 : Int32))), .val (.int (p4 &&& (31 : Int32))), .val (.int (p5 &&& (31 : Int32))), .val (.ref b6), .unset, .unset, .unset] [(.int (p3 &&& (31 : Int32))), (.int (1 : Int32)), (.ref b6)])) rfl rfl (hb hby at_59)
  have V_b6_8 := Arv.set Ar_b6 q_b6 S_b6 N_b6 H_b6 G_b6 rfl W8 1 rfl (Nat.le_of_ble_eq_true rfl)
  have K8 : Keep h0 h8 [] := K7.wr W8 (Or.inr sz_b6)
  have N8 := Fr.snoc X8 N7 g_b6
  obtain ⟨cl_b6_71, Ar_b6, q_b6, S_b6, N_b6, H_b6, G_b6⟩ := V_b6_8
  have hin71 : ¬ ((2 : Int32) < 0 ∨ cl_b6_71.slots.size ≤ ((2 : Int32)).toNatClampNeg) := inb_of S_b6 ⟨by decide, by decide⟩
  obtain ⟨T9, h9, X9, e9, W9, st9⟩ := stI X8 hx hZ e8 Ar_b6 (j := (2 : Int32)) hin71 (g := (mkF m 71 #[.val (.int p1), .val (.int p2), .val (.int p3), .val (.int p4), .val (.int p5), .val (.int (3 : Int32)), .val (.int (p2 &&& (31 : Int32))), .val (.int (p3 &&& (31 : Int32))), .val (.int (p4 &&& (31 : Int32))), .val (.int (p5 &&& (31 : Int32))), .val (.ref b6), .unset, .unset, .unset] [(.int (p4 &&& (31 : Int32))), (.int (2 : Int32)), (.ref b6)])) rfl rfl (hb hby at_71)
  have V_b6_9 := Arv.set Ar_b6 q_b6 S_b6 N_b6 H_b6 G_b6 rfl W9 2 rfl (Nat.le_of_ble_eq_true rfl)
  have K9 : Keep h0 h9 [] := K8.wr W9 (Or.inr sz_b6)
  have N9 := Fr.snoc X9 N8 g_b6
  obtain ⟨_, _, ⟨T10, L10, k10, n10⟩, -, X10, ⟨Lc10, hQ10, l10, y10, z10⟩, st10⟩ := Jvm.LawKit.callS X9 hx (y := (⟨"com/example/sundew/sundew/text/BreakProperties", "bits", "([I)I"⟩ : MethodName)) hown (mvT hZ (hw _ (List.mem_of_getElem? (i := 1) rfl))) (mvT hZ (hw _ (List.mem_of_getElem? (i := 2) rfl))) (mvT hZ (hw _ (List.mem_of_getElem? (i := 3) rfl))) (mvT hZ (hw _ (List.mem_of_getElem? (i := 4) rfl))) (by decide) (backOf (W := 0) (own_rm1_3 l Z a0 hw [] b6 _ (p2 &&& (31 : Int32)) (p3 &&& (31 : Int32)) (p4 &&& (31 : Int32)) h9 n0 (Nat.le_trans (Nat.le_trans (Nat.le_trans (Nat.le_trans Z0 E6.1) (Keep.of_wr W7).1) (Keep.of_wr W8).1) (Keep.of_wr W9).1) V_b6_9) hZ (hw _ (List.mem_of_getElem? (i := 4) rfl)) (hw _ (List.mem_of_getElem? (i := 3) rfl)) (by decide) (by decide)) (g := (mkF m 74 #[.val (.int p1), .val (.int p2), .val (.int p3), .val (.int p4), .val (.int p5), .val (.int (3 : Int32)), .val (.int (p2 &&& (31 : Int32))), .val (.int (p3 &&& (31 : Int32))), .val (.int (p4 &&& (31 : Int32))), .val (.int (p5 &&& (31 : Int32))), .val (.ref b6), .unset, .unset, .unset] [(.ref b6)])) rfl (by rw [hml]; rfl) (argsL := [(.ref b6)]) (rest := []) (lenOf pd_0_0 rfl) rfl (by show 2 * 0 + _ ≤ _; exact Nat.le_of_eq rfl) (hb hby at_74) (fun _ _ => ⟨rfl, e9, (by decide : 1 + 0 ≤ _), (by decide : 3 + 0 ≤ _)⟩)
  dsimp only [Pt.U, Pt.locs, Pt.cells, Pt.slots] at X10 l10 y10 z10 st10 hQ10
  subst l10 y10 z10
  obtain ⟨rfl, N10q, e10⟩ := hQ10
  have N10 := Fr.app N9 N10q
  obtain ⟨fs, hr, hrun, hended, hW, hsame⟩ := X10.leave (v := some (.int (1 : Int32))) (fun h => by rw [Bd.returns] at h; cases h)
  refine ⟨_, _, pre0 _ ?_, hrun, hended, _, _, rfl, ?_, ⟨_, rfl⟩, hW, hsame.mono (by decide) (by decide)⟩
  · show Steps p.tables e below (s₁.setTop (mkF m 0 #[.val (.int p1), .val (.int p2), .val (.int p3), .val (.int p4), .val (.int p5), .unset, .unset, .unset, .unset, .unset, .unset, .unset, .unset, .unset] [])) _
    refine XS.iloadN X0.here hx rfl (hb hby at_0) rfl ?_
    show Steps p.tables e below (s₁.setTop (mkF m 1 #[.val (.int p1), .val (.int p2), .val (.int p3), .val (.int p4), .val (.int p5), .unset, .unset, .unset, .unset, .unset, .unset, .unset, .unset, .unset] [(.int p1)])) _
    refine XS.iconst X0.here hx rfl (hb hby at_1) ?_
    show Steps p.tables e below (s₁.setTop (mkF m 2 #[.val (.int p1), .val (.int p2), .val (.int p3), .val (.int p4), .val (.int p5), .unset, .unset, .unset, .unset, .unset, .unset, .unset, .unset, .unset] [(.int (3 : Int32)), (.int p1)])) _
    refine XS.iand X0.here hx rfl (hb hby at_2) rfl ?_
    show Steps p.tables e below (s₁.setTop (mkF m 3 #[.val (.int p1), .val (.int p2), .val (.int p3), .val (.int p4), .val (.int p5), .unset, .unset, .unset, .unset, .unset, .unset, .unset, .unset, .unset] [(.int (p1 &&& (3 : Int32)))])) _
    rw [hn]
    show Steps p.tables e below (s₁.setTop (mkF m 3 #[.val (.int p1), .val (.int p2), .val (.int p3), .val (.int p4), .val (.int p5), .unset, .unset, .unset, .unset, .unset, .unset, .unset, .unset, .unset] [(.int (3 : Int32))])) _
    refine XS.istore X0.here hx rfl (hb hby at_3) rfl (l' := #[.val (.int p1), .val (.int p2), .val (.int p3), .val (.int p4), .val (.int p5), .val (.int (3 : Int32)), .unset, .unset, .unset, .unset, .unset, .unset, .unset, .unset]) rfl ?_
    show Steps p.tables e below (s₁.setTop (mkF m 5 #[.val (.int p1), .val (.int p2), .val (.int p3), .val (.int p4), .val (.int p5), .val (.int (3 : Int32)), .unset, .unset, .unset, .unset, .unset, .unset, .unset, .unset] [])) _
    refine XS.iloadN X0.here hx rfl (hb hby at_5) rfl ?_
    show Steps p.tables e below (s₁.setTop (mkF m 6 #[.val (.int p1), .val (.int p2), .val (.int p3), .val (.int p4), .val (.int p5), .val (.int (3 : Int32)), .unset, .unset, .unset, .unset, .unset, .unset, .unset, .unset] [(.int p2)])) _
    refine XS.bipush X0.here hx rfl (hb hby at_6) ?_
    show Steps p.tables e below (s₁.setTop (mkF m 8 #[.val (.int p1), .val (.int p2), .val (.int p3), .val (.int p4), .val (.int p5), .val (.int (3 : Int32)), .unset, .unset, .unset, .unset, .unset, .unset, .unset, .unset] [(.int (31 : Int32)), (.int p2)])) _
    refine XS.iand X0.here hx rfl (hb hby at_8) rfl ?_
    show Steps p.tables e below (s₁.setTop (mkF m 9 #[.val (.int p1), .val (.int p2), .val (.int p3), .val (.int p4), .val (.int p5), .val (.int (3 : Int32)), .unset, .unset, .unset, .unset, .unset, .unset, .unset, .unset] [(.int (p2 &&& (31 : Int32)))])) _
    refine XS.istore X0.here hx rfl (hb hby at_9) rfl (l' := #[.val (.int p1), .val (.int p2), .val (.int p3), .val (.int p4), .val (.int p5), .val (.int (3 : Int32)), .val (.int (p2 &&& (31 : Int32))), .unset, .unset, .unset, .unset, .unset, .unset, .unset]) rfl ?_
    show Steps p.tables e below (s₁.setTop (mkF m 11 #[.val (.int p1), .val (.int p2), .val (.int p3), .val (.int p4), .val (.int p5), .val (.int (3 : Int32)), .val (.int (p2 &&& (31 : Int32))), .unset, .unset, .unset, .unset, .unset, .unset, .unset] [])) _
    refine XS.iloadN X0.here hx rfl (hb hby at_11) rfl ?_
    show Steps p.tables e below (s₁.setTop (mkF m 12 #[.val (.int p1), .val (.int p2), .val (.int p3), .val (.int p4), .val (.int p5), .val (.int (3 : Int32)), .val (.int (p2 &&& (31 : Int32))), .unset, .unset, .unset, .unset, .unset, .unset, .unset] [(.int p3)])) _
    refine XS.bipush X0.here hx rfl (hb hby at_12) ?_
    show Steps p.tables e below (s₁.setTop (mkF m 14 #[.val (.int p1), .val (.int p2), .val (.int p3), .val (.int p4), .val (.int p5), .val (.int (3 : Int32)), .val (.int (p2 &&& (31 : Int32))), .unset, .unset, .unset, .unset, .unset, .unset, .unset] [(.int (31 : Int32)), (.int p3)])) _
    refine XS.iand X0.here hx rfl (hb hby at_14) rfl ?_
    show Steps p.tables e below (s₁.setTop (mkF m 15 #[.val (.int p1), .val (.int p2), .val (.int p3), .val (.int p4), .val (.int p5), .val (.int (3 : Int32)), .val (.int (p2 &&& (31 : Int32))), .unset, .unset, .unset, .unset, .unset, .unset, .unset] [(.int (p3 &&& (31 : Int32)))])) _
    refine XS.istore X0.here hx rfl (hb hby at_15) rfl (l' := #[.val (.int p1), .val (.int p2), .val (.int p3), .val (.int p4), .val (.int p5), .val (.int (3 : Int32)), .val (.int (p2 &&& (31 : Int32))), .val (.int (p3 &&& (31 : Int32))), .unset, .unset, .unset, .unset, .unset, .unset]) rfl ?_
    show Steps p.tables e below (s₁.setTop (mkF m 17 #[.val (.int p1), .val (.int p2), .val (.int p3), .val (.int p4), .val (.int p5), .val (.int (3 : Int32)), .val (.int (p2 &&& (31 : Int32))), .val (.int (p3 &&& (31 : Int32))), .unset, .unset, .unset, .unset, .unset, .unset] [])) _
    refine XS.iloadN X0.here hx rfl (hb hby at_17) rfl ?_
    show Steps p.tables e below (s₁.setTop (mkF m 18 #[.val (.int p1), .val (.int p2), .val (.int p3), .val (.int p4), .val (.int p5), .val (.int (3 : Int32)), .val (.int (p2 &&& (31 : Int32))), .val (.int (p3 &&& (31 : Int32))), .unset, .unset, .unset, .unset, .unset, .unset] [(.int p4)])) _
    refine XS.bipush X0.here hx rfl (hb hby at_18) ?_
    show Steps p.tables e below (s₁.setTop (mkF m 20 #[.val (.int p1), .val (.int p2), .val (.int p3), .val (.int p4), .val (.int p5), .val (.int (3 : Int32)), .val (.int (p2 &&& (31 : Int32))), .val (.int (p3 &&& (31 : Int32))), .unset, .unset, .unset, .unset, .unset, .unset] [(.int (31 : Int32)), (.int p4)])) _
    refine XS.iand X0.here hx rfl (hb hby at_20) rfl ?_
    show Steps p.tables e below (s₁.setTop (mkF m 21 #[.val (.int p1), .val (.int p2), .val (.int p3), .val (.int p4), .val (.int p5), .val (.int (3 : Int32)), .val (.int (p2 &&& (31 : Int32))), .val (.int (p3 &&& (31 : Int32))), .unset, .unset, .unset, .unset, .unset, .unset] [(.int (p4 &&& (31 : Int32)))])) _
    refine XS.istore X0.here hx rfl (hb hby at_21) rfl (l' := #[.val (.int p1), .val (.int p2), .val (.int p3), .val (.int p4), .val (.int p5), .val (.int (3 : Int32)), .val (.int (p2 &&& (31 : Int32))), .val (.int (p3 &&& (31 : Int32))), .val (.int (p4 &&& (31 : Int32))), .unset, .unset, .unset, .unset, .unset]) rfl ?_
    show Steps p.tables e below (s₁.setTop (mkF m 23 #[.val (.int p1), .val (.int p2), .val (.int p3), .val (.int p4), .val (.int p5), .val (.int (3 : Int32)), .val (.int (p2 &&& (31 : Int32))), .val (.int (p3 &&& (31 : Int32))), .val (.int (p4 &&& (31 : Int32))), .unset, .unset, .unset, .unset, .unset] [])) _
    refine XS.iload X0.here hx rfl (hb hby at_23) rfl ?_
    show Steps p.tables e below (s₁.setTop (mkF m 25 #[.val (.int p1), .val (.int p2), .val (.int p3), .val (.int p4), .val (.int p5), .val (.int (3 : Int32)), .val (.int (p2 &&& (31 : Int32))), .val (.int (p3 &&& (31 : Int32))), .val (.int (p4 &&& (31 : Int32))), .unset, .unset, .unset, .unset, .unset] [(.int p5)])) _
    refine XS.bipush X0.here hx rfl (hb hby at_25) ?_
    show Steps p.tables e below (s₁.setTop (mkF m 27 #[.val (.int p1), .val (.int p2), .val (.int p3), .val (.int p4), .val (.int p5), .val (.int (3 : Int32)), .val (.int (p2 &&& (31 : Int32))), .val (.int (p3 &&& (31 : Int32))), .val (.int (p4 &&& (31 : Int32))), .unset, .unset, .unset, .unset, .unset] [(.int (31 : Int32)), (.int p5)])) _
    refine XS.iand X0.here hx rfl (hb hby at_27) rfl ?_
    show Steps p.tables e below (s₁.setTop (mkF m 28 #[.val (.int p1), .val (.int p2), .val (.int p3), .val (.int p4), .val (.int p5), .val (.int (3 : Int32)), .val (.int (p2 &&& (31 : Int32))), .val (.int (p3 &&& (31 : Int32))), .val (.int (p4 &&& (31 : Int32))), .unset, .unset, .unset, .unset, .unset] [(.int (p5 &&& (31 : Int32)))])) _
    refine XS.istore X0.here hx rfl (hb hby at_28) rfl (l' := #[.val (.int p1), .val (.int p2), .val (.int p3), .val (.int p4), .val (.int p5), .val (.int (3 : Int32)), .val (.int (p2 &&& (31 : Int32))), .val (.int (p3 &&& (31 : Int32))), .val (.int (p4 &&& (31 : Int32))), .val (.int (p5 &&& (31 : Int32))), .unset, .unset, .unset, .unset]) rfl ?_
    show Steps p.tables e below (s₁.setTop (mkF m 30 #[.val (.int p1), .val (.int p2), .val (.int p3), .val (.int p4), .val (.int p5), .val (.int (3 : Int32)), .val (.int (p2 &&& (31 : Int32))), .val (.int (p3 &&& (31 : Int32))), .val (.int (p4 &&& (31 : Int32))), .val (.int (p5 &&& (31 : Int32))), .unset, .unset, .unset, .unset] [])) _
    refine XS.iload X0.here hx rfl (hb hby at_30) rfl ?_
    show Steps p.tables e below (s₁.setTop (mkF m 32 #[.val (.int p1), .val (.int p2), .val (.int p3), .val (.int p4), .val (.int p5), .val (.int (3 : Int32)), .val (.int (p2 &&& (31 : Int32))), .val (.int (p3 &&& (31 : Int32))), .val (.int (p4 &&& (31 : Int32))), .val (.int (p5 &&& (31 : Int32))), .unset, .unset, .unset, .unset] [(.int (3 : Int32))])) _
    refine st6 _ ?_
    show Steps p.tables e below (T6.setTop (mkF m 34 #[.val (.int p1), .val (.int p2), .val (.int p3), .val (.int p4), .val (.int p5), .val (.int (3 : Int32)), .val (.int (p2 &&& (31 : Int32))), .val (.int (p3 &&& (31 : Int32))), .val (.int (p4 &&& (31 : Int32))), .val (.int (p5 &&& (31 : Int32))), .unset, .unset, .unset, .unset] [(.ref b6)])) _
    refine XS.astore X6.here hx rfl (hb hby at_34) rfl rfl (l' := #[.val (.int p1), .val (.int p2), .val (.int p3), .val (.int p4), .val (.int p5), .val (.int (3 : Int32)), .val (.int (p2 &&& (31 : Int32))), .val (.int (p3 &&& (31 : Int32))), .val (.int (p4 &&& (31 : Int32))), .val (.int (p5 &&& (31 : Int32))), .val (.ref b6), .unset, .unset, .unset]) rfl ?_
    show Steps p.tables e below (T6.setTop (mkF m 36 #[.val (.int p1), .val (.int p2), .val (.int p3), .val (.int p4), .val (.int p5), .val (.int (3 : Int32)), .val (.int (p2 &&& (31 : Int32))), .val (.int (p3 &&& (31 : Int32))), .val (.int (p4 &&& (31 : Int32))), .val (.int (p5 &&& (31 : Int32))), .val (.ref b6), .unset, .unset, .unset] [])) _
    refine XS.iload X6.here hx rfl (hb hby at_36) rfl ?_
    show Steps p.tables e below (T6.setTop (mkF m 38 #[.val (.int p1), .val (.int p2), .val (.int p3), .val (.int p4), .val (.int p5), .val (.int (3 : Int32)), .val (.int (p2 &&& (31 : Int32))), .val (.int (p3 &&& (31 : Int32))), .val (.int (p4 &&& (31 : Int32))), .val (.int (p5 &&& (31 : Int32))), .val (.ref b6), .unset, .unset, .unset] [(.int (3 : Int32))])) _
    refine XS.iconst X6.here hx rfl (hb hby at_38) ?_
    show Steps p.tables e below (T6.setTop (mkF m 39 #[.val (.int p1), .val (.int p2), .val (.int p3), .val (.int p4), .val (.int p5), .val (.int (3 : Int32)), .val (.int (p2 &&& (31 : Int32))), .val (.int (p3 &&& (31 : Int32))), .val (.int (p4 &&& (31 : Int32))), .val (.int (p5 &&& (31 : Int32))), .val (.ref b6), .unset, .unset, .unset] [(.int (1 : Int32)), (.int (3 : Int32))])) _
    refine XS.icmpNo X6.here hx rfl (hb hby at_39) rfl (flt hc39).1 ?_
    show Steps p.tables e below (T6.setTop (mkF m 42 #[.val (.int p1), .val (.int p2), .val (.int p3), .val (.int p4), .val (.int p5), .val (.int (3 : Int32)), .val (.int (p2 &&& (31 : Int32))), .val (.int (p3 &&& (31 : Int32))), .val (.int (p4 &&& (31 : Int32))), .val (.int (p5 &&& (31 : Int32))), .val (.ref b6), .unset, .unset, .unset] [])) _
    refine XS.aload X6.here hx rfl (hb hby at_42) rfl rfl ?_
    show Steps p.tables e below (T6.setTop (mkF m 44 #[.val (.int p1), .val (.int p2), .val (.int p3), .val (.int p4), .val (.int p5), .val (.int (3 : Int32)), .val (.int (p2 &&& (31 : Int32))), .val (.int (p3 &&& (31 : Int32))), .val (.int (p4 &&& (31 : Int32))), .val (.int (p5 &&& (31 : Int32))), .val (.ref b6), .unset, .unset, .unset] [(.ref b6)])) _
    refine XS.iconst X6.here hx rfl (hb hby at_44) ?_
    show Steps p.tables e below (T6.setTop (mkF m 45 #[.val (.int p1), .val (.int p2), .val (.int p3), .val (.int p4), .val (.int p5), .val (.int (3 : Int32)), .val (.int (p2 &&& (31 : Int32))), .val (.int (p3 &&& (31 : Int32))), .val (.int (p4 &&& (31 : Int32))), .val (.int (p5 &&& (31 : Int32))), .val (.ref b6), .unset, .unset, .unset] [(.int (0 : Int32)), (.ref b6)])) _
    refine XS.iload X6.here hx rfl (hb hby at_45) rfl ?_
    show Steps p.tables e below (T6.setTop (mkF m 47 #[.val (.int p1), .val (.int p2), .val (.int p3), .val (.int p4), .val (.int p5), .val (.int (3 : Int32)), .val (.int (p2 &&& (31 : Int32))), .val (.int (p3 &&& (31 : Int32))), .val (.int (p4 &&& (31 : Int32))), .val (.int (p5 &&& (31 : Int32))), .val (.ref b6), .unset, .unset, .unset] [(.int (p2 &&& (31 : Int32))), (.int (0 : Int32)), (.ref b6)])) _
    refine st7 _ ?_
    show Steps p.tables e below (T7.setTop (mkF m 48 #[.val (.int p1), .val (.int p2), .val (.int p3), .val (.int p4), .val (.int p5), .val (.int (3 : Int32)), .val (.int (p2 &&& (31 : Int32))), .val (.int (p3 &&& (31 : Int32))), .val (.int (p4 &&& (31 : Int32))), .val (.int (p5 &&& (31 : Int32))), .val (.ref b6), .unset, .unset, .unset] [])) _
    refine XS.iload X7.here hx rfl (hb hby at_48) rfl ?_
    show Steps p.tables e below (T7.setTop (mkF m 50 #[.val (.int p1), .val (.int p2), .val (.int p3), .val (.int p4), .val (.int p5), .val (.int (3 : Int32)), .val (.int (p2 &&& (31 : Int32))), .val (.int (p3 &&& (31 : Int32))), .val (.int (p4 &&& (31 : Int32))), .val (.int (p5 &&& (31 : Int32))), .val (.ref b6), .unset, .unset, .unset] [(.int (3 : Int32))])) _
    refine XS.iconst X7.here hx rfl (hb hby at_50) ?_
    show Steps p.tables e below (T7.setTop (mkF m 51 #[.val (.int p1), .val (.int p2), .val (.int p3), .val (.int p4), .val (.int p5), .val (.int (3 : Int32)), .val (.int (p2 &&& (31 : Int32))), .val (.int (p3 &&& (31 : Int32))), .val (.int (p4 &&& (31 : Int32))), .val (.int (p5 &&& (31 : Int32))), .val (.ref b6), .unset, .unset, .unset] [(.int (2 : Int32)), (.int (3 : Int32))])) _
    refine XS.icmpNo X7.here hx rfl (hb hby at_51) rfl (flt hc51).1 ?_
    show Steps p.tables e below (T7.setTop (mkF m 54 #[.val (.int p1), .val (.int p2), .val (.int p3), .val (.int p4), .val (.int p5), .val (.int (3 : Int32)), .val (.int (p2 &&& (31 : Int32))), .val (.int (p3 &&& (31 : Int32))), .val (.int (p4 &&& (31 : Int32))), .val (.int (p5 &&& (31 : Int32))), .val (.ref b6), .unset, .unset, .unset] [])) _
    refine XS.aload X7.here hx rfl (hb hby at_54) rfl rfl ?_
    show Steps p.tables e below (T7.setTop (mkF m 56 #[.val (.int p1), .val (.int p2), .val (.int p3), .val (.int p4), .val (.int p5), .val (.int (3 : Int32)), .val (.int (p2 &&& (31 : Int32))), .val (.int (p3 &&& (31 : Int32))), .val (.int (p4 &&& (31 : Int32))), .val (.int (p5 &&& (31 : Int32))), .val (.ref b6), .unset, .unset, .unset] [(.ref b6)])) _
    refine XS.iconst X7.here hx rfl (hb hby at_56) ?_
    show Steps p.tables e below (T7.setTop (mkF m 57 #[.val (.int p1), .val (.int p2), .val (.int p3), .val (.int p4), .val (.int p5), .val (.int (3 : Int32)), .val (.int (p2 &&& (31 : Int32))), .val (.int (p3 &&& (31 : Int32))), .val (.int (p4 &&& (31 : Int32))), .val (.int (p5 &&& (31 : Int32))), .val (.ref b6), .unset, .unset, .unset] [(.int (1 : Int32)), (.ref b6)])) _
    refine XS.iload X7.here hx rfl (hb hby at_57) rfl ?_
    show Steps p.tables e below (T7.setTop (mkF m 59 #[.val (.int p1), .val (.int p2), .val (.int p3), .val (.int p4), .val (.int p5), .val (.int (3 : Int32)), .val (.int (p2 &&& (31 : Int32))), .val (.int (p3 &&& (31 : Int32))), .val (.int (p4 &&& (31 : Int32))), .val (.int (p5 &&& (31 : Int32))), .val (.ref b6), .unset, .unset, .unset] [(.int (p3 &&& (31 : Int32))), (.int (1 : Int32)), (.ref b6)])) _
    refine st8 _ ?_
    show Steps p.tables e below (T8.setTop (mkF m 60 #[.val (.int p1), .val (.int p2), .val (.int p3), .val (.int p4), .val (.int p5), .val (.int (3 : Int32)), .val (.int (p2 &&& (31 : Int32))), .val (.int (p3 &&& (31 : Int32))), .val (.int (p4 &&& (31 : Int32))), .val (.int (p5 &&& (31 : Int32))), .val (.ref b6), .unset, .unset, .unset] [])) _
    refine XS.iload X8.here hx rfl (hb hby at_60) rfl ?_
    show Steps p.tables e below (T8.setTop (mkF m 62 #[.val (.int p1), .val (.int p2), .val (.int p3), .val (.int p4), .val (.int p5), .val (.int (3 : Int32)), .val (.int (p2 &&& (31 : Int32))), .val (.int (p3 &&& (31 : Int32))), .val (.int (p4 &&& (31 : Int32))), .val (.int (p5 &&& (31 : Int32))), .val (.ref b6), .unset, .unset, .unset] [(.int (3 : Int32))])) _
    refine XS.iconst X8.here hx rfl (hb hby at_62) ?_
    show Steps p.tables e below (T8.setTop (mkF m 63 #[.val (.int p1), .val (.int p2), .val (.int p3), .val (.int p4), .val (.int p5), .val (.int (3 : Int32)), .val (.int (p2 &&& (31 : Int32))), .val (.int (p3 &&& (31 : Int32))), .val (.int (p4 &&& (31 : Int32))), .val (.int (p5 &&& (31 : Int32))), .val (.ref b6), .unset, .unset, .unset] [(.int (3 : Int32)), (.int (3 : Int32))])) _
    refine XS.icmpNo X8.here hx rfl (hb hby at_63) rfl (flt hc63).1 ?_
    show Steps p.tables e below (T8.setTop (mkF m 66 #[.val (.int p1), .val (.int p2), .val (.int p3), .val (.int p4), .val (.int p5), .val (.int (3 : Int32)), .val (.int (p2 &&& (31 : Int32))), .val (.int (p3 &&& (31 : Int32))), .val (.int (p4 &&& (31 : Int32))), .val (.int (p5 &&& (31 : Int32))), .val (.ref b6), .unset, .unset, .unset] [])) _
    refine XS.aload X8.here hx rfl (hb hby at_66) rfl rfl ?_
    show Steps p.tables e below (T8.setTop (mkF m 68 #[.val (.int p1), .val (.int p2), .val (.int p3), .val (.int p4), .val (.int p5), .val (.int (3 : Int32)), .val (.int (p2 &&& (31 : Int32))), .val (.int (p3 &&& (31 : Int32))), .val (.int (p4 &&& (31 : Int32))), .val (.int (p5 &&& (31 : Int32))), .val (.ref b6), .unset, .unset, .unset] [(.ref b6)])) _
    refine XS.iconst X8.here hx rfl (hb hby at_68) ?_
    show Steps p.tables e below (T8.setTop (mkF m 69 #[.val (.int p1), .val (.int p2), .val (.int p3), .val (.int p4), .val (.int p5), .val (.int (3 : Int32)), .val (.int (p2 &&& (31 : Int32))), .val (.int (p3 &&& (31 : Int32))), .val (.int (p4 &&& (31 : Int32))), .val (.int (p5 &&& (31 : Int32))), .val (.ref b6), .unset, .unset, .unset] [(.int (2 : Int32)), (.ref b6)])) _
    refine XS.iload X8.here hx rfl (hb hby at_69) rfl ?_
    show Steps p.tables e below (T8.setTop (mkF m 71 #[.val (.int p1), .val (.int p2), .val (.int p3), .val (.int p4), .val (.int p5), .val (.int (3 : Int32)), .val (.int (p2 &&& (31 : Int32))), .val (.int (p3 &&& (31 : Int32))), .val (.int (p4 &&& (31 : Int32))), .val (.int (p5 &&& (31 : Int32))), .val (.ref b6), .unset, .unset, .unset] [(.int (p4 &&& (31 : Int32))), (.int (2 : Int32)), (.ref b6)])) _
    refine st9 _ ?_
    show Steps p.tables e below (T9.setTop (mkF m 72 #[.val (.int p1), .val (.int p2), .val (.int p3), .val (.int p4), .val (.int p5), .val (.int (3 : Int32)), .val (.int (p2 &&& (31 : Int32))), .val (.int (p3 &&& (31 : Int32))), .val (.int (p4 &&& (31 : Int32))), .val (.int (p5 &&& (31 : Int32))), .val (.ref b6), .unset, .unset, .unset] [])) _
    refine XS.aload X9.here hx rfl (hb hby at_72) rfl rfl ?_
    show Steps p.tables e below (T9.setTop (mkF m 74 #[.val (.int p1), .val (.int p2), .val (.int p3), .val (.int p4), .val (.int p5), .val (.int (3 : Int32)), .val (.int (p2 &&& (31 : Int32))), .val (.int (p3 &&& (31 : Int32))), .val (.int (p4 &&& (31 : Int32))), .val (.int (p5 &&& (31 : Int32))), .val (.ref b6), .unset, .unset, .unset] [(.ref b6)])) _
    refine st10 _ ?_
    show Steps p.tables e below (T10.setTop (mkF m 77 #[.val (.int p1), .val (.int p2), .val (.int p3), .val (.int p4), .val (.int p5), .val (.int (3 : Int32)), .val (.int (p2 &&& (31 : Int32))), .val (.int (p3 &&& (31 : Int32))), .val (.int (p4 &&& (31 : Int32))), .val (.int (p5 &&& (31 : Int32))), .val (.ref b6), .unset, .unset, .unset] [(.int (own_u3 (p2 &&& (31 : Int32)) (p3 &&& (31 : Int32)) (p4 &&& (31 : Int32))))])) _
    refine XS.istore X10.here hx rfl (hb hby at_77) rfl (l' := #[.val (.int p1), .val (.int p2), .val (.int p3), .val (.int p4), .val (.int p5), .val (.int (3 : Int32)), .val (.int (p2 &&& (31 : Int32))), .val (.int (p3 &&& (31 : Int32))), .val (.int (p4 &&& (31 : Int32))), .val (.int (p5 &&& (31 : Int32))), .val (.ref b6), .val (.int (own_u3 (p2 &&& (31 : Int32)) (p3 &&& (31 : Int32)) (p4 &&& (31 : Int32)))), .unset, .unset]) rfl ?_
    show Steps p.tables e below (T10.setTop (mkF m 79 #[.val (.int p1), .val (.int p2), .val (.int p3), .val (.int p4), .val (.int p5), .val (.int (3 : Int32)), .val (.int (p2 &&& (31 : Int32))), .val (.int (p3 &&& (31 : Int32))), .val (.int (p4 &&& (31 : Int32))), .val (.int (p5 &&& (31 : Int32))), .val (.ref b6), .val (.int (own_u3 (p2 &&& (31 : Int32)) (p3 &&& (31 : Int32)) (p4 &&& (31 : Int32)))), .unset, .unset] [])) _
    refine XS.iload X10.here hx rfl (hb hby at_79) rfl ?_
    show Steps p.tables e below (T10.setTop (mkF m 81 #[.val (.int p1), .val (.int p2), .val (.int p3), .val (.int p4), .val (.int p5), .val (.int (3 : Int32)), .val (.int (p2 &&& (31 : Int32))), .val (.int (p3 &&& (31 : Int32))), .val (.int (p4 &&& (31 : Int32))), .val (.int (p5 &&& (31 : Int32))), .val (.ref b6), .val (.int (own_u3 (p2 &&& (31 : Int32)) (p3 &&& (31 : Int32)) (p4 &&& (31 : Int32)))), .unset, .unset] [(.int (3 : Int32))])) _
    refine XS.iconst X10.here hx rfl (hb hby at_81) ?_
    show Steps p.tables e below (T10.setTop (mkF m 82 #[.val (.int p1), .val (.int p2), .val (.int p3), .val (.int p4), .val (.int p5), .val (.int (3 : Int32)), .val (.int (p2 &&& (31 : Int32))), .val (.int (p3 &&& (31 : Int32))), .val (.int (p4 &&& (31 : Int32))), .val (.int (p5 &&& (31 : Int32))), .val (.ref b6), .val (.int (own_u3 (p2 &&& (31 : Int32)) (p3 &&& (31 : Int32)) (p4 &&& (31 : Int32)))), .unset, .unset] [(.int (1 : Int32)), (.int (3 : Int32))])) _
    refine XS.icmpNo X10.here hx rfl (hb hby at_82) rfl (flt hc82).1 ?_
    show Steps p.tables e below (T10.setTop (mkF m 85 #[.val (.int p1), .val (.int p2), .val (.int p3), .val (.int p4), .val (.int p5), .val (.int (3 : Int32)), .val (.int (p2 &&& (31 : Int32))), .val (.int (p3 &&& (31 : Int32))), .val (.int (p4 &&& (31 : Int32))), .val (.int (p5 &&& (31 : Int32))), .val (.ref b6), .val (.int (own_u3 (p2 &&& (31 : Int32)) (p3 &&& (31 : Int32)) (p4 &&& (31 : Int32)))), .unset, .unset] [])) _
    refine XS.iload X10.here hx rfl (hb hby at_85) rfl ?_
    show Steps p.tables e below (T10.setTop (mkF m 87 #[.val (.int p1), .val (.int p2), .val (.int p3), .val (.int p4), .val (.int p5), .val (.int (3 : Int32)), .val (.int (p2 &&& (31 : Int32))), .val (.int (p3 &&& (31 : Int32))), .val (.int (p4 &&& (31 : Int32))), .val (.int (p5 &&& (31 : Int32))), .val (.ref b6), .val (.int (own_u3 (p2 &&& (31 : Int32)) (p3 &&& (31 : Int32)) (p4 &&& (31 : Int32)))), .unset, .unset] [(.int (p5 &&& (31 : Int32)))])) _
    refine XS.iload X10.here hx rfl (hb hby at_87) rfl ?_
    show Steps p.tables e below (T10.setTop (mkF m 89 #[.val (.int p1), .val (.int p2), .val (.int p3), .val (.int p4), .val (.int p5), .val (.int (3 : Int32)), .val (.int (p2 &&& (31 : Int32))), .val (.int (p3 &&& (31 : Int32))), .val (.int (p4 &&& (31 : Int32))), .val (.int (p5 &&& (31 : Int32))), .val (.ref b6), .val (.int (own_u3 (p2 &&& (31 : Int32)) (p3 &&& (31 : Int32)) (p4 &&& (31 : Int32)))), .unset, .unset] [(.int (p2 &&& (31 : Int32))), (.int (p5 &&& (31 : Int32)))])) _
    refine XS.icmpNo X10.here hx rfl (hb hby at_89) rfl (feq hc89).1 ?_
    show Steps p.tables e below (T10.setTop (mkF m 92 #[.val (.int p1), .val (.int p2), .val (.int p3), .val (.int p4), .val (.int p5), .val (.int (3 : Int32)), .val (.int (p2 &&& (31 : Int32))), .val (.int (p3 &&& (31 : Int32))), .val (.int (p4 &&& (31 : Int32))), .val (.int (p5 &&& (31 : Int32))), .val (.ref b6), .val (.int (own_u3 (p2 &&& (31 : Int32)) (p3 &&& (31 : Int32)) (p4 &&& (31 : Int32)))), .unset, .unset] [])) _
    refine XS.iload X10.here hx rfl (hb hby at_92) rfl ?_
    show Steps p.tables e below (T10.setTop (mkF m 94 #[.val (.int p1), .val (.int p2), .val (.int p3), .val (.int p4), .val (.int p5), .val (.int (3 : Int32)), .val (.int (p2 &&& (31 : Int32))), .val (.int (p3 &&& (31 : Int32))), .val (.int (p4 &&& (31 : Int32))), .val (.int (p5 &&& (31 : Int32))), .val (.ref b6), .val (.int (own_u3 (p2 &&& (31 : Int32)) (p3 &&& (31 : Int32)) (p4 &&& (31 : Int32)))), .unset, .unset] [(.int (3 : Int32))])) _
    refine XS.iconst X10.here hx rfl (hb hby at_94) ?_
    show Steps p.tables e below (T10.setTop (mkF m 95 #[.val (.int p1), .val (.int p2), .val (.int p3), .val (.int p4), .val (.int p5), .val (.int (3 : Int32)), .val (.int (p2 &&& (31 : Int32))), .val (.int (p3 &&& (31 : Int32))), .val (.int (p4 &&& (31 : Int32))), .val (.int (p5 &&& (31 : Int32))), .val (.ref b6), .val (.int (own_u3 (p2 &&& (31 : Int32)) (p3 &&& (31 : Int32)) (p4 &&& (31 : Int32)))), .unset, .unset] [(.int (2 : Int32)), (.int (3 : Int32))])) _
    refine XS.icmpNo X10.here hx rfl (hb hby at_95) rfl (flt hc95).1 ?_
    show Steps p.tables e below (T10.setTop (mkF m 98 #[.val (.int p1), .val (.int p2), .val (.int p3), .val (.int p4), .val (.int p5), .val (.int (3 : Int32)), .val (.int (p2 &&& (31 : Int32))), .val (.int (p3 &&& (31 : Int32))), .val (.int (p4 &&& (31 : Int32))), .val (.int (p5 &&& (31 : Int32))), .val (.ref b6), .val (.int (own_u3 (p2 &&& (31 : Int32)) (p3 &&& (31 : Int32)) (p4 &&& (31 : Int32)))), .unset, .unset] [])) _
    refine XS.iload X10.here hx rfl (hb hby at_98) rfl ?_
    show Steps p.tables e below (T10.setTop (mkF m 100 #[.val (.int p1), .val (.int p2), .val (.int p3), .val (.int p4), .val (.int p5), .val (.int (3 : Int32)), .val (.int (p2 &&& (31 : Int32))), .val (.int (p3 &&& (31 : Int32))), .val (.int (p4 &&& (31 : Int32))), .val (.int (p5 &&& (31 : Int32))), .val (.ref b6), .val (.int (own_u3 (p2 &&& (31 : Int32)) (p3 &&& (31 : Int32)) (p4 &&& (31 : Int32)))), .unset, .unset] [(.int (p5 &&& (31 : Int32)))])) _
    refine XS.iload X10.here hx rfl (hb hby at_100) rfl ?_
    show Steps p.tables e below (T10.setTop (mkF m 102 #[.val (.int p1), .val (.int p2), .val (.int p3), .val (.int p4), .val (.int p5), .val (.int (3 : Int32)), .val (.int (p2 &&& (31 : Int32))), .val (.int (p3 &&& (31 : Int32))), .val (.int (p4 &&& (31 : Int32))), .val (.int (p5 &&& (31 : Int32))), .val (.ref b6), .val (.int (own_u3 (p2 &&& (31 : Int32)) (p3 &&& (31 : Int32)) (p4 &&& (31 : Int32)))), .unset, .unset] [(.int (p3 &&& (31 : Int32))), (.int (p5 &&& (31 : Int32)))])) _
    refine XS.icmpNo X10.here hx rfl (hb hby at_102) rfl (feq hc102).1 ?_
    show Steps p.tables e below (T10.setTop (mkF m 105 #[.val (.int p1), .val (.int p2), .val (.int p3), .val (.int p4), .val (.int p5), .val (.int (3 : Int32)), .val (.int (p2 &&& (31 : Int32))), .val (.int (p3 &&& (31 : Int32))), .val (.int (p4 &&& (31 : Int32))), .val (.int (p5 &&& (31 : Int32))), .val (.ref b6), .val (.int (own_u3 (p2 &&& (31 : Int32)) (p3 &&& (31 : Int32)) (p4 &&& (31 : Int32)))), .unset, .unset] [])) _
    refine XS.iload X10.here hx rfl (hb hby at_105) rfl ?_
    show Steps p.tables e below (T10.setTop (mkF m 107 #[.val (.int p1), .val (.int p2), .val (.int p3), .val (.int p4), .val (.int p5), .val (.int (3 : Int32)), .val (.int (p2 &&& (31 : Int32))), .val (.int (p3 &&& (31 : Int32))), .val (.int (p4 &&& (31 : Int32))), .val (.int (p5 &&& (31 : Int32))), .val (.ref b6), .val (.int (own_u3 (p2 &&& (31 : Int32)) (p3 &&& (31 : Int32)) (p4 &&& (31 : Int32)))), .unset, .unset] [(.int (3 : Int32))])) _
    refine XS.iconst X10.here hx rfl (hb hby at_107) ?_
    show Steps p.tables e below (T10.setTop (mkF m 108 #[.val (.int p1), .val (.int p2), .val (.int p3), .val (.int p4), .val (.int p5), .val (.int (3 : Int32)), .val (.int (p2 &&& (31 : Int32))), .val (.int (p3 &&& (31 : Int32))), .val (.int (p4 &&& (31 : Int32))), .val (.int (p5 &&& (31 : Int32))), .val (.ref b6), .val (.int (own_u3 (p2 &&& (31 : Int32)) (p3 &&& (31 : Int32)) (p4 &&& (31 : Int32)))), .unset, .unset] [(.int (3 : Int32)), (.int (3 : Int32))])) _
    refine XS.icmpNo X10.here hx rfl (hb hby at_108) rfl (flt hc108).1 ?_
    show Steps p.tables e below (T10.setTop (mkF m 111 #[.val (.int p1), .val (.int p2), .val (.int p3), .val (.int p4), .val (.int p5), .val (.int (3 : Int32)), .val (.int (p2 &&& (31 : Int32))), .val (.int (p3 &&& (31 : Int32))), .val (.int (p4 &&& (31 : Int32))), .val (.int (p5 &&& (31 : Int32))), .val (.ref b6), .val (.int (own_u3 (p2 &&& (31 : Int32)) (p3 &&& (31 : Int32)) (p4 &&& (31 : Int32)))), .unset, .unset] [])) _
    refine XS.iload X10.here hx rfl (hb hby at_111) rfl ?_
    show Steps p.tables e below (T10.setTop (mkF m 113 #[.val (.int p1), .val (.int p2), .val (.int p3), .val (.int p4), .val (.int p5), .val (.int (3 : Int32)), .val (.int (p2 &&& (31 : Int32))), .val (.int (p3 &&& (31 : Int32))), .val (.int (p4 &&& (31 : Int32))), .val (.int (p5 &&& (31 : Int32))), .val (.ref b6), .val (.int (own_u3 (p2 &&& (31 : Int32)) (p3 &&& (31 : Int32)) (p4 &&& (31 : Int32)))), .unset, .unset] [(.int (p5 &&& (31 : Int32)))])) _
    refine XS.iload X10.here hx rfl (hb hby at_113) rfl ?_
    show Steps p.tables e below (T10.setTop (mkF m 115 #[.val (.int p1), .val (.int p2), .val (.int p3), .val (.int p4), .val (.int p5), .val (.int (3 : Int32)), .val (.int (p2 &&& (31 : Int32))), .val (.int (p3 &&& (31 : Int32))), .val (.int (p4 &&& (31 : Int32))), .val (.int (p5 &&& (31 : Int32))), .val (.ref b6), .val (.int (own_u3 (p2 &&& (31 : Int32)) (p3 &&& (31 : Int32)) (p4 &&& (31 : Int32)))), .unset, .unset] [(.int (p4 &&& (31 : Int32))), (.int (p5 &&& (31 : Int32)))])) _
    refine XS.icmpNo X10.here hx rfl (hb hby at_115) rfl (teq hc115).2 ?_
    show Steps p.tables e below (T10.setTop (mkF m 118 #[.val (.int p1), .val (.int p2), .val (.int p3), .val (.int p4), .val (.int p5), .val (.int (3 : Int32)), .val (.int (p2 &&& (31 : Int32))), .val (.int (p3 &&& (31 : Int32))), .val (.int (p4 &&& (31 : Int32))), .val (.int (p5 &&& (31 : Int32))), .val (.ref b6), .val (.int (own_u3 (p2 &&& (31 : Int32)) (p3 &&& (31 : Int32)) (p4 &&& (31 : Int32)))), .unset, .unset] [])) _
    refine XS.iconst X10.here hx rfl (hb hby at_118) ?_
    show Steps p.tables e below (T10.setTop (mkF m 119 #[.val (.int p1), .val (.int p2), .val (.int p3), .val (.int p4), .val (.int p5), .val (.int (3 : Int32)), .val (.int (p2 &&& (31 : Int32))), .val (.int (p3 &&& (31 : Int32))), .val (.int (p4 &&& (31 : Int32))), .val (.int (p5 &&& (31 : Int32))), .val (.ref b6), .val (.int (own_u3 (p2 &&& (31 : Int32)) (p3 &&& (31 : Int32)) (p4 &&& (31 : Int32)))), .unset, .unset] [(.int (1 : Int32))])) _
    refine XS.goto X10.here hx rfl (pc0 := 119) (pc' := 123) rfl (hb hby at_119) (by decide) (by decide) ?_
    show Steps p.tables e below (T10.setTop (mkF m 123 #[.val (.int p1), .val (.int p2), .val (.int p3), .val (.int p4), .val (.int p5), .val (.int (3 : Int32)), .val (.int (p2 &&& (31 : Int32))), .val (.int (p3 &&& (31 : Int32))), .val (.int (p4 &&& (31 : Int32))), .val (.int (p5 &&& (31 : Int32))), .val (.ref b6), .val (.int (own_u3 (p2 &&& (31 : Int32)) (p3 &&& (31 : Int32)) (p4 &&& (31 : Int32)))), .unset, .unset] [(.int (1 : Int32))])) _
    refine XS.istore X10.here hx rfl (hb hby at_123) rfl (l' := #[.val (.int p1), .val (.int p2), .val (.int p3), .val (.int p4), .val (.int p5), .val (.int (3 : Int32)), .val (.int (p2 &&& (31 : Int32))), .val (.int (p3 &&& (31 : Int32))), .val (.int (p4 &&& (31 : Int32))), .val (.int (p5 &&& (31 : Int32))), .val (.ref b6), .val (.int (own_u3 (p2 &&& (31 : Int32)) (p3 &&& (31 : Int32)) (p4 &&& (31 : Int32)))), .val (.int (1 : Int32)), .unset]) rfl ?_
    show Steps p.tables e below (T10.setTop (mkF m 125 #[.val (.int p1), .val (.int p2), .val (.int p3), .val (.int p4), .val (.int p5), .val (.int (3 : Int32)), .val (.int (p2 &&& (31 : Int32))), .val (.int (p3 &&& (31 : Int32))), .val (.int (p4 &&& (31 : Int32))), .val (.int (p5 &&& (31 : Int32))), .val (.ref b6), .val (.int (own_u3 (p2 &&& (31 : Int32)) (p3 &&& (31 : Int32)) (p4 &&& (31 : Int32)))), .val (.int (1 : Int32)), .unset] [])) _
    refine XS.iload X10.here hx rfl (hb hby at_125) rfl ?_
    show Steps p.tables e below (T10.setTop (mkF m 127 #[.val (.int p1), .val (.int p2), .val (.int p3), .val (.int p4), .val (.int p5), .val (.int (3 : Int32)), .val (.int (p2 &&& (31 : Int32))), .val (.int (p3 &&& (31 : Int32))), .val (.int (p4 &&& (31 : Int32))), .val (.int (p5 &&& (31 : Int32))), .val (.ref b6), .val (.int (own_u3 (p2 &&& (31 : Int32)) (p3 &&& (31 : Int32)) (p4 &&& (31 : Int32)))), .val (.int (1 : Int32)), .unset] [(.int (own_u3 (p2 &&& (31 : Int32)) (p3 &&& (31 : Int32)) (p4 &&& (31 : Int32))))])) _
    refine XS.iload X10.here hx rfl (hb hby at_127) rfl ?_
    show Steps p.tables e below (T10.setTop (mkF m 129 #[.val (.int p1), .val (.int p2), .val (.int p3), .val (.int p4), .val (.int p5), .val (.int (3 : Int32)), .val (.int (p2 &&& (31 : Int32))), .val (.int (p3 &&& (31 : Int32))), .val (.int (p4 &&& (31 : Int32))), .val (.int (p5 &&& (31 : Int32))), .val (.ref b6), .val (.int (own_u3 (p2 &&& (31 : Int32)) (p3 &&& (31 : Int32)) (p4 &&& (31 : Int32)))), .val (.int (1 : Int32)), .unset] [(.int (p5 &&& (31 : Int32))), (.int (own_u3 (p2 &&& (31 : Int32)) (p3 &&& (31 : Int32)) (p4 &&& (31 : Int32))))])) _
    refine XS.iushr X10.here hx rfl (hb hby at_129) rfl ?_
    show Steps p.tables e below (T10.setTop (mkF m 130 #[.val (.int p1), .val (.int p2), .val (.int p3), .val (.int p4), .val (.int p5), .val (.int (3 : Int32)), .val (.int (p2 &&& (31 : Int32))), .val (.int (p3 &&& (31 : Int32))), .val (.int (p4 &&& (31 : Int32))), .val (.int (p5 &&& (31 : Int32))), .val (.ref b6), .val (.int (own_u3 (p2 &&& (31 : Int32)) (p3 &&& (31 : Int32)) (p4 &&& (31 : Int32)))), .val (.int (1 : Int32)), .unset] [(.int (((own_u3 (p2 &&& (31 : Int32)) (p3 &&& (31 : Int32)) (p4 &&& (31 : Int32))).toUInt32 >>> ((p5 &&& (31 : Int32)) &&& 31).toUInt32).toInt32))])) _
    refine XS.iconst X10.here hx rfl (hb hby at_130) ?_
    show Steps p.tables e below (T10.setTop (mkF m 131 #[.val (.int p1), .val (.int p2), .val (.int p3), .val (.int p4), .val (.int p5), .val (.int (3 : Int32)), .val (.int (p2 &&& (31 : Int32))), .val (.int (p3 &&& (31 : Int32))), .val (.int (p4 &&& (31 : Int32))), .val (.int (p5 &&& (31 : Int32))), .val (.ref b6), .val (.int (own_u3 (p2 &&& (31 : Int32)) (p3 &&& (31 : Int32)) (p4 &&& (31 : Int32)))), .val (.int (1 : Int32)), .unset] [(.int (1 : Int32)), (.int (((own_u3 (p2 &&& (31 : Int32)) (p3 &&& (31 : Int32)) (p4 &&& (31 : Int32))).toUInt32 >>> ((p5 &&& (31 : Int32)) &&& 31).toUInt32).toInt32))])) _
    refine XS.iand X10.here hx rfl (hb hby at_131) rfl ?_
    show Steps p.tables e below (T10.setTop (mkF m 132 #[.val (.int p1), .val (.int p2), .val (.int p3), .val (.int p4), .val (.int p5), .val (.int (3 : Int32)), .val (.int (p2 &&& (31 : Int32))), .val (.int (p3 &&& (31 : Int32))), .val (.int (p4 &&& (31 : Int32))), .val (.int (p5 &&& (31 : Int32))), .val (.ref b6), .val (.int (own_u3 (p2 &&& (31 : Int32)) (p3 &&& (31 : Int32)) (p4 &&& (31 : Int32)))), .val (.int (1 : Int32)), .unset] [(.int ((((own_u3 (p2 &&& (31 : Int32)) (p3 &&& (31 : Int32)) (p4 &&& (31 : Int32))).toUInt32 >>> ((p5 &&& (31 : Int32)) &&& 31).toUInt32).toInt32) &&& (1 : Int32)))])) _
    refine XS.ifNo X10.here hx rfl (hb hby at_132) rfl ((if0 _ _).trans (feq hc132).1) ?_
    show Steps p.tables e below (T10.setTop (mkF m 135 #[.val (.int p1), .val (.int p2), .val (.int p3), .val (.int p4), .val (.int p5), .val (.int (3 : Int32)), .val (.int (p2 &&& (31 : Int32))), .val (.int (p3 &&& (31 : Int32))), .val (.int (p4 &&& (31 : Int32))), .val (.int (p5 &&& (31 : Int32))), .val (.ref b6), .val (.int (own_u3 (p2 &&& (31 : Int32)) (p3 &&& (31 : Int32)) (p4 &&& (31 : Int32)))), .val (.int (1 : Int32)), .unset] [])) _
    refine XS.iconst X10.here hx rfl (hb hby at_135) ?_
    show Steps p.tables e below (T10.setTop (mkF m 136 #[.val (.int p1), .val (.int p2), .val (.int p3), .val (.int p4), .val (.int p5), .val (.int (3 : Int32)), .val (.int (p2 &&& (31 : Int32))), .val (.int (p3 &&& (31 : Int32))), .val (.int (p4 &&& (31 : Int32))), .val (.int (p5 &&& (31 : Int32))), .val (.ref b6), .val (.int (own_u3 (p2 &&& (31 : Int32)) (p3 &&& (31 : Int32)) (p4 &&& (31 : Int32)))), .val (.int (1 : Int32)), .unset] [(.int (1 : Int32))])) _
    refine XS.goto X10.here hx rfl (pc0 := 136) (pc' := 140) rfl (hb hby at_136) (by decide) (by decide) ?_
    show Steps p.tables e below (T10.setTop (mkF m 140 #[.val (.int p1), .val (.int p2), .val (.int p3), .val (.int p4), .val (.int p5), .val (.int (3 : Int32)), .val (.int (p2 &&& (31 : Int32))), .val (.int (p3 &&& (31 : Int32))), .val (.int (p4 &&& (31 : Int32))), .val (.int (p5 &&& (31 : Int32))), .val (.ref b6), .val (.int (own_u3 (p2 &&& (31 : Int32)) (p3 &&& (31 : Int32)) (p4 &&& (31 : Int32)))), .val (.int (1 : Int32)), .unset] [(.int (1 : Int32))])) _
    refine XS.istore X10.here hx rfl (hb hby at_140) rfl (l' := #[.val (.int p1), .val (.int p2), .val (.int p3), .val (.int p4), .val (.int p5), .val (.int (3 : Int32)), .val (.int (p2 &&& (31 : Int32))), .val (.int (p3 &&& (31 : Int32))), .val (.int (p4 &&& (31 : Int32))), .val (.int (p5 &&& (31 : Int32))), .val (.ref b6), .val (.int (own_u3 (p2 &&& (31 : Int32)) (p3 &&& (31 : Int32)) (p4 &&& (31 : Int32)))), .val (.int (1 : Int32)), .val (.int (1 : Int32))]) rfl ?_
    show Steps p.tables e below (T10.setTop (mkF m 142 #[.val (.int p1), .val (.int p2), .val (.int p3), .val (.int p4), .val (.int p5), .val (.int (3 : Int32)), .val (.int (p2 &&& (31 : Int32))), .val (.int (p3 &&& (31 : Int32))), .val (.int (p4 &&& (31 : Int32))), .val (.int (p5 &&& (31 : Int32))), .val (.ref b6), .val (.int (own_u3 (p2 &&& (31 : Int32)) (p3 &&& (31 : Int32)) (p4 &&& (31 : Int32)))), .val (.int (1 : Int32)), .val (.int (1 : Int32))] [])) _
    refine XS.iload X10.here hx rfl (hb hby at_142) rfl ?_
    show Steps p.tables e below (T10.setTop (mkF m 144 #[.val (.int p1), .val (.int p2), .val (.int p3), .val (.int p4), .val (.int p5), .val (.int (3 : Int32)), .val (.int (p2 &&& (31 : Int32))), .val (.int (p3 &&& (31 : Int32))), .val (.int (p4 &&& (31 : Int32))), .val (.int (p5 &&& (31 : Int32))), .val (.ref b6), .val (.int (own_u3 (p2 &&& (31 : Int32)) (p3 &&& (31 : Int32)) (p4 &&& (31 : Int32)))), .val (.int (1 : Int32)), .val (.int (1 : Int32))] [(.int (1 : Int32))])) _
    refine XS.iload X10.here hx rfl (hb hby at_144) rfl ?_
    show Steps p.tables e below (T10.setTop (mkF m 146 #[.val (.int p1), .val (.int p2), .val (.int p3), .val (.int p4), .val (.int p5), .val (.int (3 : Int32)), .val (.int (p2 &&& (31 : Int32))), .val (.int (p3 &&& (31 : Int32))), .val (.int (p4 &&& (31 : Int32))), .val (.int (p5 &&& (31 : Int32))), .val (.ref b6), .val (.int (own_u3 (p2 &&& (31 : Int32)) (p3 &&& (31 : Int32)) (p4 &&& (31 : Int32)))), .val (.int (1 : Int32)), .val (.int (1 : Int32))] [(.int (1 : Int32)), (.int (1 : Int32))])) _
    refine XS.icmpNo X10.here hx rfl (hb hby at_146) rfl (teq (rfl : (1 : Int32) = (1 : Int32))).2 ?_
    show Steps p.tables e below (T10.setTop (mkF m 149 #[.val (.int p1), .val (.int p2), .val (.int p3), .val (.int p4), .val (.int p5), .val (.int (3 : Int32)), .val (.int (p2 &&& (31 : Int32))), .val (.int (p3 &&& (31 : Int32))), .val (.int (p4 &&& (31 : Int32))), .val (.int (p5 &&& (31 : Int32))), .val (.ref b6), .val (.int (own_u3 (p2 &&& (31 : Int32)) (p3 &&& (31 : Int32)) (p4 &&& (31 : Int32)))), .val (.int (1 : Int32)), .val (.int (1 : Int32))] [])) _
    refine XS.iconst X10.here hx rfl (hb hby at_149) ?_
    show Steps p.tables e below (T10.setTop (mkF m 150 #[.val (.int p1), .val (.int p2), .val (.int p3), .val (.int p4), .val (.int p5), .val (.int (3 : Int32)), .val (.int (p2 &&& (31 : Int32))), .val (.int (p3 &&& (31 : Int32))), .val (.int (p4 &&& (31 : Int32))), .val (.int (p5 &&& (31 : Int32))), .val (.ref b6), .val (.int (own_u3 (p2 &&& (31 : Int32)) (p3 &&& (31 : Int32)) (p4 &&& (31 : Int32)))), .val (.int (1 : Int32)), .val (.int (1 : Int32))] [(.int (1 : Int32))])) _
    refine XS.goto X10.here hx rfl (pc0 := 150) (pc' := 154) rfl (hb hby at_150) (by decide) (by decide) ?_
    show Steps p.tables e below (T10.setTop (mkF m 154 #[.val (.int p1), .val (.int p2), .val (.int p3), .val (.int p4), .val (.int p5), .val (.int (3 : Int32)), .val (.int (p2 &&& (31 : Int32))), .val (.int (p3 &&& (31 : Int32))), .val (.int (p4 &&& (31 : Int32))), .val (.int (p5 &&& (31 : Int32))), .val (.ref b6), .val (.int (own_u3 (p2 &&& (31 : Int32)) (p3 &&& (31 : Int32)) (p4 &&& (31 : Int32)))), .val (.int (1 : Int32)), .val (.int (1 : Int32))] [(.int (1 : Int32))])) _
    exact retN X10 hx (t := .boolean) Bd.returns (by simp) (hb hby at_154) hr
  · show own_Q0 h0 n0 _ T10.heap _
    rw [e10]
    exact ⟨rfl, N10⟩
set_option maxRecDepth 65536 in
set_option maxHeartbeats 40000000 in
theorem own_rm0_3_3 (l : Launch) (Z : State) (a0 : Array Value) (hw : ∀ d ∈ tables_1, d.before a0 Z = true) (ws : List Jvm.Cond) (p1 : Int32) (p2 : Int32) (p3 : Int32) (p4 : Int32) (p5 : Int32) (h0 : Heap) (n0 : Nat) (Z0 : n0 ≤ h0.size) (hn : (p1 &&& (3 : Int32)) = (3 : Int32)) (hc39 : ¬ ((3 : Int32) < (1 : Int32))) (hc51 : ¬ ((3 : Int32) < (2 : Int32))) (hc63 : ¬ ((3 : Int32) < (3 : Int32))) (hc82 : ¬ ((3 : Int32) < (1 : Int32))) (hc89 : ¬ ((p5 &&& (31 : Int32)) = (p2 &&& (31 : Int32)))) (hc95 : ¬ ((3 : Int32) < (2 : Int32))) (hc102 : ¬ ((p5 &&& (31 : Int32)) = (p3 &&& (31 : Int32)))) (hc108 : ¬ ((3 : Int32) < (3 : Int32))) (hc115 : ¬ ((p5 &&& (31 : Int32)) = (p4 &&& (31 : Int32)))) (hc132 : ((((own_u3 (p2 &&& (31 : Int32)) (p3 &&& (31 : Int32)) (p4 &&& (31 : Int32))).toUInt32 >>> ((p5 &&& (31 : Int32)) &&& 31).toUInt32).toInt32) &&& (1 : Int32)) = (0 : Int32)) :
    MetFree l x (head1 (Jvm.Cond.code x code maxLocals ret :: ws) room_1) (fun a U => a = #[(.int p1), (.int p2), (.int p3), (.int p4), (.int p5)] ∧ Z.Warmed39 U.vm ∧ U.heap = h0) (fun _ _ _ _ _ => True) (fun _ U o U' => ∃ v L, o = .returned v ∧ own_Q0 h0 n0 v U'.heap L ∧ FrameEnd U o U' L room_1.cells room_1.slots) := by
  refine MetFree.of_bodySF (plainFor_of_name pn_0) hisR ?_
  intro p e s m args below meth c s₁ Bd hml0 hP hK
  obtain ⟨rfl, hZ, hh⟩ := hP
  have hx := Bd.exec
  have hby := Bd.bytes
  have hml : c.maxLocals = 14 := hml0
  have hown : s.vm.findClass "com/example/sundew/sundew/text/BreakPropertiesBitsPinLaw" = some m.cls := findClass_of_methodNamed Bd.named
  have hnm := (name_of_methodNamed Bd.named Bd.method).1
  have X0 : Stand p l e room_1 s m #[(.int p1), (.int p2), (.int p3), (.int p4), (.int p5)] below meth c s₁ [] 0 0 := Stand.of_body Bd
  have e0 : s₁.heap = h0 := by rw [← hh, Bd.state]; rfl
  have N0 := Fr.nil n0
  have pre0 : ∀ t, Steps p.tables e below (s₁.setTop (mkF m 0 #[.val (.int p1), .val (.int p2), .val (.int p3), .val (.int p4), .val (.int p5), .unset, .unset, .unset, .unset, .unset, .unset, .unset, .unset, .unset] [])) t → Steps p.tables e below (s₁.setTop (entryFrame m #[(.int p1), (.int p2), (.int p3), (.int p4), (.int p5)] maxLocals)) t := fun t k => castTop (ef_0 m p1 p2 p3 p4 p5) k
  obtain ⟨T6, h6, k6, X6, e6, E6, A6, st6⟩ := newP X0 hx hZ (hw _ (List.mem_of_getElem? (i := 0) rfl)) e0 (g := (mkF m 32 #[.val (.int p1), .val (.int p2), .val (.int p3), .val (.int p4), .val (.int p5), .val (.int (3 : Int32)), .val (.int (p2 &&& (31 : Int32))), .val (.int (p3 &&& (31 : Int32))), .val (.int (p4 &&& (31 : Int32))), .val (.int (p5 &&& (31 : Int32))), .unset, .unset, .unset, .unset] [(.int (3 : Int32))])) rfl (hb hby at_32) rfl (by decide) (cap := 3) (by decide) (by decide) (by decide) (by decide)
  obtain ⟨b6, g6⟩ : ∃ z, z = h0.size := ⟨_, rfl⟩
  rw [← g6] at A6 st6
  have V_b6 : Arv Z h6 b6 k6 .int (3 : Int32) [(.int (0 : Int32)), (.int (0 : Int32)), (.int (0 : Int32))] (.int (0 : Int32)) := (Arv.new A6 (by decide)).pad (pad_rep [] (.int (0 : Int32)) 3)
  have g_b6 : n0 ≤ b6 := Nat.le_trans Z0 (Nat.le_of_eq g6.symm)
  have sz_b6 : h0.size ≤ b6 := (Nat.le_trans (Keep.refl h0 []).1 (Nat.le_of_eq g6.symm))
  have K6 : Keep h0 h6 [] := (Keep.refl h0 []).ext E6
  obtain ⟨cl_b6_47, Ar_b6, q_b6, S_b6, N_b6, H_b6, G_b6⟩ := V_b6
  have hin47 : ¬ ((0 : Int32) < 0 ∨ cl_b6_47.slots.size ≤ ((0 : Int32)).toNatClampNeg) := inb_of S_b6 ⟨by decide, by decide⟩
  obtain ⟨T7, h7, X7, e7, W7, st7⟩ := stI X6 hx hZ e6 Ar_b6 (j := (0 : Int32)) hin47 (g := (mkF m 47 #[.val (.int p1), .val (.int p2), .val (.int p3), .val (.int p4), .val (.int p5), .val (.int (3 : Int32)), .val (.int (p2 &&& (31 : Int32))), .val (.int (p3 &&& (31 : Int32))), .val (.int (p4 &&& (31 : Int32))), .val (.int (p5 &&& (31 : Int32))), .val (.ref b6), .unset, .unset, .unset] [(.int (p2 &&& (31 : Int32))), (.int (0 : Int32)), (.ref b6)])) rfl rfl (hb hby at_47)
  have V_b6_7 := Arv.set Ar_b6 q_b6 S_b6 N_b6 H_b6 G_b6 rfl W7 0 rfl (Nat.le_of_ble_eq_true rfl)
  have K7 : Keep h0 h7 [] := K6.wr W7 (Or.inr sz_b6)
  have N7 := Fr.snoc X7 N0 g_b6
  obtain ⟨cl_b6_59, Ar_b6, q_b6, S_b6, N_b6, H_b6, G_b6⟩ := V_b6_7
  have hin59 : ¬ ((1 : Int32) < 0 ∨ cl_b6_59.slots.size ≤ ((1 : Int32)).toNatClampNeg) := inb_of S_b6 ⟨by decide, by decide⟩
  obtain ⟨T8, h8, X8, e8, W8, st8⟩ := stI X7 hx hZ e7 Ar_b6 (j := (1 : Int32)) hin59 (g := (mkF m 59 #[.val (.int p1), .val (.int p2), .val (.int p3), .val (.int p4), .val (.int p5), .val (.int (3 : Int32)), .val (.int (p2 &&& (31 : Int32))), .val (.int (p3 &&& (31 : Int32))), .val (.int (p4 &&& (31 : Int32))), .val (.int (p5 &&& (31 : Int32))), .val (.ref b6), .unset, .unset, .unset] [(.int (p3 &&& (31 : Int32))), (.int (1 : Int32)), (.ref b6)])) rfl rfl (hb hby at_59)
  have V_b6_8 := Arv.set Ar_b6 q_b6 S_b6 N_b6 H_b6 G_b6 rfl W8 1 rfl (Nat.le_of_ble_eq_true rfl)
  have K8 : Keep h0 h8 [] := K7.wr W8 (Or.inr sz_b6)
  have N8 := Fr.snoc X8 N7 g_b6
  obtain ⟨cl_b6_71, Ar_b6, q_b6, S_b6, N_b6, H_b6, G_b6⟩ := V_b6_8
  have hin71 : ¬ ((2 : Int32) < 0 ∨ cl_b6_71.slots.size ≤ ((2 : Int32)).toNatClampNeg) := inb_of S_b6 ⟨by decide, by decide⟩
  obtain ⟨T9, h9, X9, e9, W9, st9⟩ := stI X8 hx hZ e8 Ar_b6 (j := (2 : Int32)) hin71 (g := (mkF m 71 #[.val (.int p1), .val (.int p2), .val (.int p3), .val (.int p4), .val (.int p5), .val (.int (3 : Int32)), .val (.int (p2 &&& (31 : Int32))), .val (.int (p3 &&& (31 : Int32))), .val (.int (p4 &&& (31 : Int32))), .val (.int (p5 &&& (31 : Int32))), .val (.ref b6), .unset, .unset, .unset] [(.int (p4 &&& (31 : Int32))), (.int (2 : Int32)), (.ref b6)])) rfl rfl (hb hby at_71)
  have V_b6_9 := Arv.set Ar_b6 q_b6 S_b6 N_b6 H_b6 G_b6 rfl W9 2 rfl (Nat.le_of_ble_eq_true rfl)
  have K9 : Keep h0 h9 [] := K8.wr W9 (Or.inr sz_b6)
  have N9 := Fr.snoc X9 N8 g_b6
  obtain ⟨_, _, ⟨T10, L10, k10, n10⟩, -, X10, ⟨Lc10, hQ10, l10, y10, z10⟩, st10⟩ := Jvm.LawKit.callS X9 hx (y := (⟨"com/example/sundew/sundew/text/BreakProperties", "bits", "([I)I"⟩ : MethodName)) hown (mvT hZ (hw _ (List.mem_of_getElem? (i := 1) rfl))) (mvT hZ (hw _ (List.mem_of_getElem? (i := 2) rfl))) (mvT hZ (hw _ (List.mem_of_getElem? (i := 3) rfl))) (mvT hZ (hw _ (List.mem_of_getElem? (i := 4) rfl))) (by decide) (backOf (W := 0) (own_rm1_3 l Z a0 hw [] b6 _ (p2 &&& (31 : Int32)) (p3 &&& (31 : Int32)) (p4 &&& (31 : Int32)) h9 n0 (Nat.le_trans (Nat.le_trans (Nat.le_trans (Nat.le_trans Z0 E6.1) (Keep.of_wr W7).1) (Keep.of_wr W8).1) (Keep.of_wr W9).1) V_b6_9) hZ (hw _ (List.mem_of_getElem? (i := 4) rfl)) (hw _ (List.mem_of_getElem? (i := 3) rfl)) (by decide) (by decide)) (g := (mkF m 74 #[.val (.int p1), .val (.int p2), .val (.int p3), .val (.int p4), .val (.int p5), .val (.int (3 : Int32)), .val (.int (p2 &&& (31 : Int32))), .val (.int (p3 &&& (31 : Int32))), .val (.int (p4 &&& (31 : Int32))), .val (.int (p5 &&& (31 : Int32))), .val (.ref b6), .unset, .unset, .unset] [(.ref b6)])) rfl (by rw [hml]; rfl) (argsL := [(.ref b6)]) (rest := []) (lenOf pd_0_0 rfl) rfl (by show 2 * 0 + _ ≤ _; exact Nat.le_of_eq rfl) (hb hby at_74) (fun _ _ => ⟨rfl, e9, (by decide : 1 + 0 ≤ _), (by decide : 3 + 0 ≤ _)⟩)
  dsimp only [Pt.U, Pt.locs, Pt.cells, Pt.slots] at X10 l10 y10 z10 st10 hQ10
  subst l10 y10 z10
  obtain ⟨rfl, N10q, e10⟩ := hQ10
  have N10 := Fr.app N9 N10q
  obtain ⟨fs, hr, hrun, hended, hW, hsame⟩ := X10.leave (v := some (.int (1 : Int32))) (fun h => by rw [Bd.returns] at h; cases h)
  refine ⟨_, _, pre0 _ ?_, hrun, hended, _, _, rfl, ?_, ⟨_, rfl⟩, hW, hsame.mono (by decide) (by decide)⟩
  · show Steps p.tables e below (s₁.setTop (mkF m 0 #[.val (.int p1), .val (.int p2), .val (.int p3), .val (.int p4), .val (.int p5), .unset, .unset, .unset, .unset, .unset, .unset, .unset, .unset, .unset] [])) _
    refine XS.iloadN X0.here hx rfl (hb hby at_0) rfl ?_
    show Steps p.tables e below (s₁.setTop (mkF m 1 #[.val (.int p1), .val (.int p2), .val (.int p3), .val (.int p4), .val (.int p5), .unset, .unset, .unset, .unset, .unset, .unset, .unset, .unset, .unset] [(.int p1)])) _
    refine XS.iconst X0.here hx rfl (hb hby at_1) ?_
    show Steps p.tables e below (s₁.setTop (mkF m 2 #[.val (.int p1), .val (.int p2), .val (.int p3), .val (.int p4), .val (.int p5), .unset, .unset, .unset, .unset, .unset, .unset, .unset, .unset, .unset] [(.int (3 : Int32)), (.int p1)])) _
    refine XS.iand X0.here hx rfl (hb hby at_2) rfl ?_
    show Steps p.tables e below (s₁.setTop (mkF m 3 #[.val (.int p1), .val (.int p2), .val (.int p3), .val (.int p4), .val (.int p5), .unset, .unset, .unset, .unset, .unset, .unset, .unset, .unset, .unset] [(.int (p1 &&& (3 : Int32)))])) _
    rw [hn]
    show Steps p.tables e below (s₁.setTop (mkF m 3 #[.val (.int p1), .val (.int p2), .val (.int p3), .val (.int p4), .val (.int p5), .unset, .unset, .unset, .unset, .unset, .unset, .unset, .unset, .unset] [(.int (3 : Int32))])) _
    refine XS.istore X0.here hx rfl (hb hby at_3) rfl (l' := #[.val (.int p1), .val (.int p2), .val (.int p3), .val (.int p4), .val (.int p5), .val (.int (3 : Int32)), .unset, .unset, .unset, .unset, .unset, .unset, .unset, .unset]) rfl ?_
    show Steps p.tables e below (s₁.setTop (mkF m 5 #[.val (.int p1), .val (.int p2), .val (.int p3), .val (.int p4), .val (.int p5), .val (.int (3 : Int32)), .unset, .unset, .unset, .unset, .unset, .unset, .unset, .unset] [])) _
    refine XS.iloadN X0.here hx rfl (hb hby at_5) rfl ?_
    show Steps p.tables e below (s₁.setTop (mkF m 6 #[.val (.int p1), .val (.int p2), .val (.int p3), .val (.int p4), .val (.int p5), .val (.int (3 : Int32)), .unset, .unset, .unset, .unset, .unset, .unset, .unset, .unset] [(.int p2)])) _
    refine XS.bipush X0.here hx rfl (hb hby at_6) ?_
    show Steps p.tables e below (s₁.setTop (mkF m 8 #[.val (.int p1), .val (.int p2), .val (.int p3), .val (.int p4), .val (.int p5), .val (.int (3 : Int32)), .unset, .unset, .unset, .unset, .unset, .unset, .unset, .unset] [(.int (31 : Int32)), (.int p2)])) _
    refine XS.iand X0.here hx rfl (hb hby at_8) rfl ?_
    show Steps p.tables e below (s₁.setTop (mkF m 9 #[.val (.int p1), .val (.int p2), .val (.int p3), .val (.int p4), .val (.int p5), .val (.int (3 : Int32)), .unset, .unset, .unset, .unset, .unset, .unset, .unset, .unset] [(.int (p2 &&& (31 : Int32)))])) _
    refine XS.istore X0.here hx rfl (hb hby at_9) rfl (l' := #[.val (.int p1), .val (.int p2), .val (.int p3), .val (.int p4), .val (.int p5), .val (.int (3 : Int32)), .val (.int (p2 &&& (31 : Int32))), .unset, .unset, .unset, .unset, .unset, .unset, .unset]) rfl ?_
    show Steps p.tables e below (s₁.setTop (mkF m 11 #[.val (.int p1), .val (.int p2), .val (.int p3), .val (.int p4), .val (.int p5), .val (.int (3 : Int32)), .val (.int (p2 &&& (31 : Int32))), .unset, .unset, .unset, .unset, .unset, .unset, .unset] [])) _
    refine XS.iloadN X0.here hx rfl (hb hby at_11) rfl ?_
    show Steps p.tables e below (s₁.setTop (mkF m 12 #[.val (.int p1), .val (.int p2), .val (.int p3), .val (.int p4), .val (.int p5), .val (.int (3 : Int32)), .val (.int (p2 &&& (31 : Int32))), .unset, .unset, .unset, .unset, .unset, .unset, .unset] [(.int p3)])) _
    refine XS.bipush X0.here hx rfl (hb hby at_12) ?_
    show Steps p.tables e below (s₁.setTop (mkF m 14 #[.val (.int p1), .val (.int p2), .val (.int p3), .val (.int p4), .val (.int p5), .val (.int (3 : Int32)), .val (.int (p2 &&& (31 : Int32))), .unset, .unset, .unset, .unset, .unset, .unset, .unset] [(.int (31 : Int32)), (.int p3)])) _
    refine XS.iand X0.here hx rfl (hb hby at_14) rfl ?_
    show Steps p.tables e below (s₁.setTop (mkF m 15 #[.val (.int p1), .val (.int p2), .val (.int p3), .val (.int p4), .val (.int p5), .val (.int (3 : Int32)), .val (.int (p2 &&& (31 : Int32))), .unset, .unset, .unset, .unset, .unset, .unset, .unset] [(.int (p3 &&& (31 : Int32)))])) _
    refine XS.istore X0.here hx rfl (hb hby at_15) rfl (l' := #[.val (.int p1), .val (.int p2), .val (.int p3), .val (.int p4), .val (.int p5), .val (.int (3 : Int32)), .val (.int (p2 &&& (31 : Int32))), .val (.int (p3 &&& (31 : Int32))), .unset, .unset, .unset, .unset, .unset, .unset]) rfl ?_
    show Steps p.tables e below (s₁.setTop (mkF m 17 #[.val (.int p1), .val (.int p2), .val (.int p3), .val (.int p4), .val (.int p5), .val (.int (3 : Int32)), .val (.int (p2 &&& (31 : Int32))), .val (.int (p3 &&& (31 : Int32))), .unset, .unset, .unset, .unset, .unset, .unset] [])) _
    refine XS.iloadN X0.here hx rfl (hb hby at_17) rfl ?_
    show Steps p.tables e below (s₁.setTop (mkF m 18 #[.val (.int p1), .val (.int p2), .val (.int p3), .val (.int p4), .val (.int p5), .val (.int (3 : Int32)), .val (.int (p2 &&& (31 : Int32))), .val (.int (p3 &&& (31 : Int32))), .unset, .unset, .unset, .unset, .unset, .unset] [(.int p4)])) _
    refine XS.bipush X0.here hx rfl (hb hby at_18) ?_
    show Steps p.tables e below (s₁.setTop (mkF m 20 #[.val (.int p1), .val (.int p2), .val (.int p3), .val (.int p4), .val (.int p5), .val (.int (3 : Int32)), .val (.int (p2 &&& (31 : Int32))), .val (.int (p3 &&& (31 : Int32))), .unset, .unset, .unset, .unset, .unset, .unset] [(.int (31 : Int32)), (.int p4)])) _
    refine XS.iand X0.here hx rfl (hb hby at_20) rfl ?_
    show Steps p.tables e below (s₁.setTop (mkF m 21 #[.val (.int p1), .val (.int p2), .val (.int p3), .val (.int p4), .val (.int p5), .val (.int (3 : Int32)), .val (.int (p2 &&& (31 : Int32))), .val (.int (p3 &&& (31 : Int32))), .unset, .unset, .unset, .unset, .unset, .unset] [(.int (p4 &&& (31 : Int32)))])) _
    refine XS.istore X0.here hx rfl (hb hby at_21) rfl (l' := #[.val (.int p1), .val (.int p2), .val (.int p3), .val (.int p4), .val (.int p5), .val (.int (3 : Int32)), .val (.int (p2 &&& (31 : Int32))), .val (.int (p3 &&& (31 : Int32))), .val (.int (p4 &&& (31 : Int32))), .unset, .unset, .unset, .unset, .unset]) rfl ?_
    show Steps p.tables e below (s₁.setTop (mkF m 23 #[.val (.int p1), .val (.int p2), .val (.int p3), .val (.int p4), .val (.int p5), .val (.int (3 : Int32)), .val (.int (p2 &&& (31 : Int32))), .val (.int (p3 &&& (31 : Int32))), .val (.int (p4 &&& (31 : Int32))), .unset, .unset, .unset, .unset, .unset] [])) _
    refine XS.iload X0.here hx rfl (hb hby at_23) rfl ?_
    show Steps p.tables e below (s₁.setTop (mkF m 25 #[.val (.int p1), .val (.int p2), .val (.int p3), .val (.int p4), .val (.int p5), .val (.int (3 : Int32)), .val (.int (p2 &&& (31 : Int32))), .val (.int (p3 &&& (31 : Int32))), .val (.int (p4 &&& (31 : Int32))), .unset, .unset, .unset, .unset, .unset] [(.int p5)])) _
    refine XS.bipush X0.here hx rfl (hb hby at_25) ?_
    show Steps p.tables e below (s₁.setTop (mkF m 27 #[.val (.int p1), .val (.int p2), .val (.int p3), .val (.int p4), .val (.int p5), .val (.int (3 : Int32)), .val (.int (p2 &&& (31 : Int32))), .val (.int (p3 &&& (31 : Int32))), .val (.int (p4 &&& (31 : Int32))), .unset, .unset, .unset, .unset, .unset] [(.int (31 : Int32)), (.int p5)])) _
    refine XS.iand X0.here hx rfl (hb hby at_27) rfl ?_
    show Steps p.tables e below (s₁.setTop (mkF m 28 #[.val (.int p1), .val (.int p2), .val (.int p3), .val (.int p4), .val (.int p5), .val (.int (3 : Int32)), .val (.int (p2 &&& (31 : Int32))), .val (.int (p3 &&& (31 : Int32))), .val (.int (p4 &&& (31 : Int32))), .unset, .unset, .unset, .unset, .unset] [(.int (p5 &&& (31 : Int32)))])) _
    refine XS.istore X0.here hx rfl (hb hby at_28) rfl (l' := #[.val (.int p1), .val (.int p2), .val (.int p3), .val (.int p4), .val (.int p5), .val (.int (3 : Int32)), .val (.int (p2 &&& (31 : Int32))), .val (.int (p3 &&& (31 : Int32))), .val (.int (p4 &&& (31 : Int32))), .val (.int (p5 &&& (31 : Int32))), .unset, .unset, .unset, .unset]) rfl ?_
    show Steps p.tables e below (s₁.setTop (mkF m 30 #[.val (.int p1), .val (.int p2), .val (.int p3), .val (.int p4), .val (.int p5), .val (.int (3 : Int32)), .val (.int (p2 &&& (31 : Int32))), .val (.int (p3 &&& (31 : Int32))), .val (.int (p4 &&& (31 : Int32))), .val (.int (p5 &&& (31 : Int32))), .unset, .unset, .unset, .unset] [])) _
    refine XS.iload X0.here hx rfl (hb hby at_30) rfl ?_
    show Steps p.tables e below (s₁.setTop (mkF m 32 #[.val (.int p1), .val (.int p2), .val (.int p3), .val (.int p4), .val (.int p5), .val (.int (3 : Int32)), .val (.int (p2 &&& (31 : Int32))), .val (.int (p3 &&& (31 : Int32))), .val (.int (p4 &&& (31 : Int32))), .val (.int (p5 &&& (31 : Int32))), .unset, .unset, .unset, .unset] [(.int (3 : Int32))])) _
    refine st6 _ ?_
    show Steps p.tables e below (T6.setTop (mkF m 34 #[.val (.int p1), .val (.int p2), .val (.int p3), .val (.int p4), .val (.int p5), .val (.int (3 : Int32)), .val (.int (p2 &&& (31 : Int32))), .val (.int (p3 &&& (31 : Int32))), .val (.int (p4 &&& (31 : Int32))), .val (.int (p5 &&& (31 : Int32))), .unset, .unset, .unset, .unset] [(.ref b6)])) _
    refine XS.astore X6.here hx rfl (hb hby at_34) rfl rfl (l' := #[.val (.int p1), .val (.int p2), .val (.int p3), .val (.int p4), .val (.int p5), .val (.int (3 : Int32)), .val (.int (p2 &&& (31 : Int32))), .val (.int (p3 &&& (31 : Int32))), .val (.int (p4 &&& (31 : Int32))), .val (.int (p5 &&& (31 : Int32))), .val (.ref b6), .unset, .unset, .unset]) rfl ?_
    show Steps p.tables e below (T6.setTop (mkF m 36 #[.val (.int p1), .val (.int p2), .val (.int p3), .val (.int p4), .val (.int p5), .val (.int (3 : Int32)), .val (.int (p2 &&& (31 : Int32))), .val (.int (p3 &&& (31 : Int32))), .val (.int (p4 &&& (31 : Int32))), .val (.int (p5 &&& (31 : Int32))), .val (.ref b6), .unset, .unset, .unset] [])) _
    refine XS.iload X6.here hx rfl (hb hby at_36) rfl ?_
    show Steps p.tables e below (T6.setTop (mkF m 38 #[.val (.int p1), .val (.int p2), .val (.int p3), .val (.int p4), .val (.int p5), .val (.int (3 : Int32)), .val (.int (p2 &&& (31 : Int32))), .val (.int (p3 &&& (31 : Int32))), .val (.int (p4 &&& (31 : Int32))), .val (.int (p5 &&& (31 : Int32))), .val (.ref b6), .unset, .unset, .unset] [(.int (3 : Int32))])) _
    refine XS.iconst X6.here hx rfl (hb hby at_38) ?_
    show Steps p.tables e below (T6.setTop (mkF m 39 #[.val (.int p1), .val (.int p2), .val (.int p3), .val (.int p4), .val (.int p5), .val (.int (3 : Int32)), .val (.int (p2 &&& (31 : Int32))), .val (.int (p3 &&& (31 : Int32))), .val (.int (p4 &&& (31 : Int32))), .val (.int (p5 &&& (31 : Int32))), .val (.ref b6), .unset, .unset, .unset] [(.int (1 : Int32)), (.int (3 : Int32))])) _
    refine XS.icmpNo X6.here hx rfl (hb hby at_39) rfl (flt hc39).1 ?_
    show Steps p.tables e below (T6.setTop (mkF m 42 #[.val (.int p1), .val (.int p2), .val (.int p3), .val (.int p4), .val (.int p5), .val (.int (3 : Int32)), .val (.int (p2 &&& (31 : Int32))), .val (.int (p3 &&& (31 : Int32))), .val (.int (p4 &&& (31 : Int32))), .val (.int (p5 &&& (31 : Int32))), .val (.ref b6), .unset, .unset, .unset] [])) _
    refine XS.aload X6.here hx rfl (hb hby at_42) rfl rfl ?_
    show Steps p.tables e below (T6.setTop (mkF m 44 #[.val (.int p1), .val (.int p2), .val (.int p3), .val (.int p4), .val (.int p5), .val (.int (3 : Int32)), .val (.int (p2 &&& (31 : Int32))), .val (.int (p3 &&& (31 : Int32))), .val (.int (p4 &&& (31 : Int32))), .val (.int (p5 &&& (31 : Int32))), .val (.ref b6), .unset, .unset, .unset] [(.ref b6)])) _
    refine XS.iconst X6.here hx rfl (hb hby at_44) ?_
    show Steps p.tables e below (T6.setTop (mkF m 45 #[.val (.int p1), .val (.int p2), .val (.int p3), .val (.int p4), .val (.int p5), .val (.int (3 : Int32)), .val (.int (p2 &&& (31 : Int32))), .val (.int (p3 &&& (31 : Int32))), .val (.int (p4 &&& (31 : Int32))), .val (.int (p5 &&& (31 : Int32))), .val (.ref b6), .unset, .unset, .unset] [(.int (0 : Int32)), (.ref b6)])) _
    refine XS.iload X6.here hx rfl (hb hby at_45) rfl ?_
    show Steps p.tables e below (T6.setTop (mkF m 47 #[.val (.int p1), .val (.int p2), .val (.int p3), .val (.int p4), .val (.int p5), .val (.int (3 : Int32)), .val (.int (p2 &&& (31 : Int32))), .val (.int (p3 &&& (31 : Int32))), .val (.int (p4 &&& (31 : Int32))), .val (.int (p5 &&& (31 : Int32))), .val (.ref b6), .unset, .unset, .unset] [(.int (p2 &&& (31 : Int32))), (.int (0 : Int32)), (.ref b6)])) _
    refine st7 _ ?_
    show Steps p.tables e below (T7.setTop (mkF m 48 #[.val (.int p1), .val (.int p2), .val (.int p3), .val (.int p4), .val (.int p5), .val (.int (3 : Int32)), .val (.int (p2 &&& (31 : Int32))), .val (.int (p3 &&& (31 : Int32))), .val (.int (p4 &&& (31 : Int32))), .val (.int (p5 &&& (31 : Int32))), .val (.ref b6), .unset, .unset, .unset] [])) _
    refine XS.iload X7.here hx rfl (hb hby at_48) rfl ?_
    show Steps p.tables e below (T7.setTop (mkF m 50 #[.val (.int p1), .val (.int p2), .val (.int p3), .val (.int p4), .val (.int p5), .val (.int (3 : Int32)), .val (.int (p2 &&& (31 : Int32))), .val (.int (p3 &&& (31 : Int32))), .val (.int (p4 &&& (31 : Int32))), .val (.int (p5 &&& (31 : Int32))), .val (.ref b6), .unset, .unset, .unset] [(.int (3 : Int32))])) _
    refine XS.iconst X7.here hx rfl (hb hby at_50) ?_
    show Steps p.tables e below (T7.setTop (mkF m 51 #[.val (.int p1), .val (.int p2), .val (.int p3), .val (.int p4), .val (.int p5), .val (.int (3 : Int32)), .val (.int (p2 &&& (31 : Int32))), .val (.int (p3 &&& (31 : Int32))), .val (.int (p4 &&& (31 : Int32))), .val (.int (p5 &&& (31 : Int32))), .val (.ref b6), .unset, .unset, .unset] [(.int (2 : Int32)), (.int (3 : Int32))])) _
    refine XS.icmpNo X7.here hx rfl (hb hby at_51) rfl (flt hc51).1 ?_
    show Steps p.tables e below (T7.setTop (mkF m 54 #[.val (.int p1), .val (.int p2), .val (.int p3), .val (.int p4), .val (.int p5), .val (.int (3 : Int32)), .val (.int (p2 &&& (31 : Int32))), .val (.int (p3 &&& (31 : Int32))), .val (.int (p4 &&& (31 : Int32))), .val (.int (p5 &&& (31 : Int32))), .val (.ref b6), .unset, .unset, .unset] [])) _
    refine XS.aload X7.here hx rfl (hb hby at_54) rfl rfl ?_
    show Steps p.tables e below (T7.setTop (mkF m 56 #[.val (.int p1), .val (.int p2), .val (.int p3), .val (.int p4), .val (.int p5), .val (.int (3 : Int32)), .val (.int (p2 &&& (31 : Int32))), .val (.int (p3 &&& (31 : Int32))), .val (.int (p4 &&& (31 : Int32))), .val (.int (p5 &&& (31 : Int32))), .val (.ref b6), .unset, .unset, .unset] [(.ref b6)])) _
    refine XS.iconst X7.here hx rfl (hb hby at_56) ?_
    show Steps p.tables e below (T7.setTop (mkF m 57 #[.val (.int p1), .val (.int p2), .val (.int p3), .val (.int p4), .val (.int p5), .val (.int (3 : Int32)), .val (.int (p2 &&& (31 : Int32))), .val (.int (p3 &&& (31 : Int32))), .val (.int (p4 &&& (31 : Int32))), .val (.int (p5 &&& (31 : Int32))), .val (.ref b6), .unset, .unset, .unset] [(.int (1 : Int32)), (.ref b6)])) _
    refine XS.iload X7.here hx rfl (hb hby at_57) rfl ?_
    show Steps p.tables e below (T7.setTop (mkF m 59 #[.val (.int p1), .val (.int p2), .val (.int p3), .val (.int p4), .val (.int p5), .val (.int (3 : Int32)), .val (.int (p2 &&& (31 : Int32))), .val (.int (p3 &&& (31 : Int32))), .val (.int (p4 &&& (31 : Int32))), .val (.int (p5 &&& (31 : Int32))), .val (.ref b6), .unset, .unset, .unset] [(.int (p3 &&& (31 : Int32))), (.int (1 : Int32)), (.ref b6)])) _
    refine st8 _ ?_
    show Steps p.tables e below (T8.setTop (mkF m 60 #[.val (.int p1), .val (.int p2), .val (.int p3), .val (.int p4), .val (.int p5), .val (.int (3 : Int32)), .val (.int (p2 &&& (31 : Int32))), .val (.int (p3 &&& (31 : Int32))), .val (.int (p4 &&& (31 : Int32))), .val (.int (p5 &&& (31 : Int32))), .val (.ref b6), .unset, .unset, .unset] [])) _
    refine XS.iload X8.here hx rfl (hb hby at_60) rfl ?_
    show Steps p.tables e below (T8.setTop (mkF m 62 #[.val (.int p1), .val (.int p2), .val (.int p3), .val (.int p4), .val (.int p5), .val (.int (3 : Int32)), .val (.int (p2 &&& (31 : Int32))), .val (.int (p3 &&& (31 : Int32))), .val (.int (p4 &&& (31 : Int32))), .val (.int (p5 &&& (31 : Int32))), .val (.ref b6), .unset, .unset, .unset] [(.int (3 : Int32))])) _
    refine XS.iconst X8.here hx rfl (hb hby at_62) ?_
    show Steps p.tables e below (T8.setTop (mkF m 63 #[.val (.int p1), .val (.int p2), .val (.int p3), .val (.int p4), .val (.int p5), .val (.int (3 : Int32)), .val (.int (p2 &&& (31 : Int32))), .val (.int (p3 &&& (31 : Int32))), .val (.int (p4 &&& (31 : Int32))), .val (.int (p5 &&& (31 : Int32))), .val (.ref b6), .unset, .unset, .unset] [(.int (3 : Int32)), (.int (3 : Int32))])) _
    refine XS.icmpNo X8.here hx rfl (hb hby at_63) rfl (flt hc63).1 ?_
    show Steps p.tables e below (T8.setTop (mkF m 66 #[.val (.int p1), .val (.int p2), .val (.int p3), .val (.int p4), .val (.int p5), .val (.int (3 : Int32)), .val (.int (p2 &&& (31 : Int32))), .val (.int (p3 &&& (31 : Int32))), .val (.int (p4 &&& (31 : Int32))), .val (.int (p5 &&& (31 : Int32))), .val (.ref b6), .unset, .unset, .unset] [])) _
    refine XS.aload X8.here hx rfl (hb hby at_66) rfl rfl ?_
    show Steps p.tables e below (T8.setTop (mkF m 68 #[.val (.int p1), .val (.int p2), .val (.int p3), .val (.int p4), .val (.int p5), .val (.int (3 : Int32)), .val (.int (p2 &&& (31 : Int32))), .val (.int (p3 &&& (31 : Int32))), .val (.int (p4 &&& (31 : Int32))), .val (.int (p5 &&& (31 : Int32))), .val (.ref b6), .unset, .unset, .unset] [(.ref b6)])) _
    refine XS.iconst X8.here hx rfl (hb hby at_68) ?_
    show Steps p.tables e below (T8.setTop (mkF m 69 #[.val (.int p1), .val (.int p2), .val (.int p3), .val (.int p4), .val (.int p5), .val (.int (3 : Int32)), .val (.int (p2 &&& (31 : Int32))), .val (.int (p3 &&& (31 : Int32))), .val (.int (p4 &&& (31 : Int32))), .val (.int (p5 &&& (31 : Int32))), .val (.ref b6), .unset, .unset, .unset] [(.int (2 : Int32)), (.ref b6)])) _
    refine XS.iload X8.here hx rfl (hb hby at_69) rfl ?_
    show Steps p.tables e below (T8.setTop (mkF m 71 #[.val (.int p1), .val (.int p2), .val (.int p3), .val (.int p4), .val (.int p5), .val (.int (3 : Int32)), .val (.int (p2 &&& (31 : Int32))), .val (.int (p3 &&& (31 : Int32))), .val (.int (p4 &&& (31 : Int32))), .val (.int (p5 &&& (31 : Int32))), .val (.ref b6), .unset, .unset, .unset] [(.int (p4 &&& (31 : Int32))), (.int (2 : Int32)), (.ref b6)])) _
    refine st9 _ ?_
    show Steps p.tables e below (T9.setTop (mkF m 72 #[.val (.int p1), .val (.int p2), .val (.int p3), .val (.int p4), .val (.int p5), .val (.int (3 : Int32)), .val (.int (p2 &&& (31 : Int32))), .val (.int (p3 &&& (31 : Int32))), .val (.int (p4 &&& (31 : Int32))), .val (.int (p5 &&& (31 : Int32))), .val (.ref b6), .unset, .unset, .unset] [])) _
    refine XS.aload X9.here hx rfl (hb hby at_72) rfl rfl ?_
    show Steps p.tables e below (T9.setTop (mkF m 74 #[.val (.int p1), .val (.int p2), .val (.int p3), .val (.int p4), .val (.int p5), .val (.int (3 : Int32)), .val (.int (p2 &&& (31 : Int32))), .val (.int (p3 &&& (31 : Int32))), .val (.int (p4 &&& (31 : Int32))), .val (.int (p5 &&& (31 : Int32))), .val (.ref b6), .unset, .unset, .unset] [(.ref b6)])) _
    refine st10 _ ?_
    show Steps p.tables e below (T10.setTop (mkF m 77 #[.val (.int p1), .val (.int p2), .val (.int p3), .val (.int p4), .val (.int p5), .val (.int (3 : Int32)), .val (.int (p2 &&& (31 : Int32))), .val (.int (p3 &&& (31 : Int32))), .val (.int (p4 &&& (31 : Int32))), .val (.int (p5 &&& (31 : Int32))), .val (.ref b6), .unset, .unset, .unset] [(.int (own_u3 (p2 &&& (31 : Int32)) (p3 &&& (31 : Int32)) (p4 &&& (31 : Int32))))])) _
    refine XS.istore X10.here hx rfl (hb hby at_77) rfl (l' := #[.val (.int p1), .val (.int p2), .val (.int p3), .val (.int p4), .val (.int p5), .val (.int (3 : Int32)), .val (.int (p2 &&& (31 : Int32))), .val (.int (p3 &&& (31 : Int32))), .val (.int (p4 &&& (31 : Int32))), .val (.int (p5 &&& (31 : Int32))), .val (.ref b6), .val (.int (own_u3 (p2 &&& (31 : Int32)) (p3 &&& (31 : Int32)) (p4 &&& (31 : Int32)))), .unset, .unset]) rfl ?_
    show Steps p.tables e below (T10.setTop (mkF m 79 #[.val (.int p1), .val (.int p2), .val (.int p3), .val (.int p4), .val (.int p5), .val (.int (3 : Int32)), .val (.int (p2 &&& (31 : Int32))), .val (.int (p3 &&& (31 : Int32))), .val (.int (p4 &&& (31 : Int32))), .val (.int (p5 &&& (31 : Int32))), .val (.ref b6), .val (.int (own_u3 (p2 &&& (31 : Int32)) (p3 &&& (31 : Int32)) (p4 &&& (31 : Int32)))), .unset, .unset] [])) _
    refine XS.iload X10.here hx rfl (hb hby at_79) rfl ?_
    show Steps p.tables e below (T10.setTop (mkF m 81 #[.val (.int p1), .val (.int p2), .val (.int p3), .val (.int p4), .val (.int p5), .val (.int (3 : Int32)), .val (.int (p2 &&& (31 : Int32))), .val (.int (p3 &&& (31 : Int32))), .val (.int (p4 &&& (31 : Int32))), .val (.int (p5 &&& (31 : Int32))), .val (.ref b6), .val (.int (own_u3 (p2 &&& (31 : Int32)) (p3 &&& (31 : Int32)) (p4 &&& (31 : Int32)))), .unset, .unset] [(.int (3 : Int32))])) _
    refine XS.iconst X10.here hx rfl (hb hby at_81) ?_
    show Steps p.tables e below (T10.setTop (mkF m 82 #[.val (.int p1), .val (.int p2), .val (.int p3), .val (.int p4), .val (.int p5), .val (.int (3 : Int32)), .val (.int (p2 &&& (31 : Int32))), .val (.int (p3 &&& (31 : Int32))), .val (.int (p4 &&& (31 : Int32))), .val (.int (p5 &&& (31 : Int32))), .val (.ref b6), .val (.int (own_u3 (p2 &&& (31 : Int32)) (p3 &&& (31 : Int32)) (p4 &&& (31 : Int32)))), .unset, .unset] [(.int (1 : Int32)), (.int (3 : Int32))])) _
    refine XS.icmpNo X10.here hx rfl (hb hby at_82) rfl (flt hc82).1 ?_
    show Steps p.tables e below (T10.setTop (mkF m 85 #[.val (.int p1), .val (.int p2), .val (.int p3), .val (.int p4), .val (.int p5), .val (.int (3 : Int32)), .val (.int (p2 &&& (31 : Int32))), .val (.int (p3 &&& (31 : Int32))), .val (.int (p4 &&& (31 : Int32))), .val (.int (p5 &&& (31 : Int32))), .val (.ref b6), .val (.int (own_u3 (p2 &&& (31 : Int32)) (p3 &&& (31 : Int32)) (p4 &&& (31 : Int32)))), .unset, .unset] [])) _
    refine XS.iload X10.here hx rfl (hb hby at_85) rfl ?_
    show Steps p.tables e below (T10.setTop (mkF m 87 #[.val (.int p1), .val (.int p2), .val (.int p3), .val (.int p4), .val (.int p5), .val (.int (3 : Int32)), .val (.int (p2 &&& (31 : Int32))), .val (.int (p3 &&& (31 : Int32))), .val (.int (p4 &&& (31 : Int32))), .val (.int (p5 &&& (31 : Int32))), .val (.ref b6), .val (.int (own_u3 (p2 &&& (31 : Int32)) (p3 &&& (31 : Int32)) (p4 &&& (31 : Int32)))), .unset, .unset] [(.int (p5 &&& (31 : Int32)))])) _
    refine XS.iload X10.here hx rfl (hb hby at_87) rfl ?_
    show Steps p.tables e below (T10.setTop (mkF m 89 #[.val (.int p1), .val (.int p2), .val (.int p3), .val (.int p4), .val (.int p5), .val (.int (3 : Int32)), .val (.int (p2 &&& (31 : Int32))), .val (.int (p3 &&& (31 : Int32))), .val (.int (p4 &&& (31 : Int32))), .val (.int (p5 &&& (31 : Int32))), .val (.ref b6), .val (.int (own_u3 (p2 &&& (31 : Int32)) (p3 &&& (31 : Int32)) (p4 &&& (31 : Int32)))), .unset, .unset] [(.int (p2 &&& (31 : Int32))), (.int (p5 &&& (31 : Int32)))])) _
    refine XS.icmpNo X10.here hx rfl (hb hby at_89) rfl (feq hc89).1 ?_
    show Steps p.tables e below (T10.setTop (mkF m 92 #[.val (.int p1), .val (.int p2), .val (.int p3), .val (.int p4), .val (.int p5), .val (.int (3 : Int32)), .val (.int (p2 &&& (31 : Int32))), .val (.int (p3 &&& (31 : Int32))), .val (.int (p4 &&& (31 : Int32))), .val (.int (p5 &&& (31 : Int32))), .val (.ref b6), .val (.int (own_u3 (p2 &&& (31 : Int32)) (p3 &&& (31 : Int32)) (p4 &&& (31 : Int32)))), .unset, .unset] [])) _
    refine XS.iload X10.here hx rfl (hb hby at_92) rfl ?_
    show Steps p.tables e below (T10.setTop (mkF m 94 #[.val (.int p1), .val (.int p2), .val (.int p3), .val (.int p4), .val (.int p5), .val (.int (3 : Int32)), .val (.int (p2 &&& (31 : Int32))), .val (.int (p3 &&& (31 : Int32))), .val (.int (p4 &&& (31 : Int32))), .val (.int (p5 &&& (31 : Int32))), .val (.ref b6), .val (.int (own_u3 (p2 &&& (31 : Int32)) (p3 &&& (31 : Int32)) (p4 &&& (31 : Int32)))), .unset, .unset] [(.int (3 : Int32))])) _
    refine XS.iconst X10.here hx rfl (hb hby at_94) ?_
    show Steps p.tables e below (T10.setTop (mkF m 95 #[.val (.int p1), .val (.int p2), .val (.int p3), .val (.int p4), .val (.int p5), .val (.int (3 : Int32)), .val (.int (p2 &&& (31 : Int32))), .val (.int (p3 &&& (31 : Int32))), .val (.int (p4 &&& (31 : Int32))), .val (.int (p5 &&& (31 : Int32))), .val (.ref b6), .val (.int (own_u3 (p2 &&& (31 : Int32)) (p3 &&& (31 : Int32)) (p4 &&& (31 : Int32)))), .unset, .unset] [(.int (2 : Int32)), (.int (3 : Int32))])) _
    refine XS.icmpNo X10.here hx rfl (hb hby at_95) rfl (flt hc95).1 ?_
    show Steps p.tables e below (T10.setTop (mkF m 98 #[.val (.int p1), .val (.int p2), .val (.int p3), .val (.int p4), .val (.int p5), .val (.int (3 : Int32)), .val (.int (p2 &&& (31 : Int32))), .val (.int (p3 &&& (31 : Int32))), .val (.int (p4 &&& (31 : Int32))), .val (.int (p5 &&& (31 : Int32))), .val (.ref b6), .val (.int (own_u3 (p2 &&& (31 : Int32)) (p3 &&& (31 : Int32)) (p4 &&& (31 : Int32)))), .unset, .unset] [])) _
    refine XS.iload X10.here hx rfl (hb hby at_98) rfl ?_
    show Steps p.tables e below (T10.setTop (mkF m 100 #[.val (.int p1), .val (.int p2), .val (.int p3), .val (.int p4), .val (.int p5), .val (.int (3 : Int32)), .val (.int (p2 &&& (31 : Int32))), .val (.int (p3 &&& (31 : Int32))), .val (.int (p4 &&& (31 : Int32))), .val (.int (p5 &&& (31 : Int32))), .val (.ref b6), .val (.int (own_u3 (p2 &&& (31 : Int32)) (p3 &&& (31 : Int32)) (p4 &&& (31 : Int32)))), .unset, .unset] [(.int (p5 &&& (31 : Int32)))])) _
    refine XS.iload X10.here hx rfl (hb hby at_100) rfl ?_
    show Steps p.tables e below (T10.setTop (mkF m 102 #[.val (.int p1), .val (.int p2), .val (.int p3), .val (.int p4), .val (.int p5), .val (.int (3 : Int32)), .val (.int (p2 &&& (31 : Int32))), .val (.int (p3 &&& (31 : Int32))), .val (.int (p4 &&& (31 : Int32))), .val (.int (p5 &&& (31 : Int32))), .val (.ref b6), .val (.int (own_u3 (p2 &&& (31 : Int32)) (p3 &&& (31 : Int32)) (p4 &&& (31 : Int32)))), .unset, .unset] [(.int (p3 &&& (31 : Int32))), (.int (p5 &&& (31 : Int32)))])) _
    refine XS.icmpNo X10.here hx rfl (hb hby at_102) rfl (feq hc102).1 ?_
    show Steps p.tables e below (T10.setTop (mkF m 105 #[.val (.int p1), .val (.int p2), .val (.int p3), .val (.int p4), .val (.int p5), .val (.int (3 : Int32)), .val (.int (p2 &&& (31 : Int32))), .val (.int (p3 &&& (31 : Int32))), .val (.int (p4 &&& (31 : Int32))), .val (.int (p5 &&& (31 : Int32))), .val (.ref b6), .val (.int (own_u3 (p2 &&& (31 : Int32)) (p3 &&& (31 : Int32)) (p4 &&& (31 : Int32)))), .unset, .unset] [])) _
    refine XS.iload X10.here hx rfl (hb hby at_105) rfl ?_
    show Steps p.tables e below (T10.setTop (mkF m 107 #[.val (.int p1), .val (.int p2), .val (.int p3), .val (.int p4), .val (.int p5), .val (.int (3 : Int32)), .val (.int (p2 &&& (31 : Int32))), .val (.int (p3 &&& (31 : Int32))), .val (.int (p4 &&& (31 : Int32))), .val (.int (p5 &&& (31 : Int32))), .val (.ref b6), .val (.int (own_u3 (p2 &&& (31 : Int32)) (p3 &&& (31 : Int32)) (p4 &&& (31 : Int32)))), .unset, .unset] [(.int (3 : Int32))])) _
    refine XS.iconst X10.here hx rfl (hb hby at_107) ?_
    show Steps p.tables e below (T10.setTop (mkF m 108 #[.val (.int p1), .val (.int p2), .val (.int p3), .val (.int p4), .val (.int p5), .val (.int (3 : Int32)), .val (.int (p2 &&& (31 : Int32))), .val (.int (p3 &&& (31 : Int32))), .val (.int (p4 &&& (31 : Int32))), .val (.int (p5 &&& (31 : Int32))), .val (.ref b6), .val (.int (own_u3 (p2 &&& (31 : Int32)) (p3 &&& (31 : Int32)) (p4 &&& (31 : Int32)))), .unset, .unset] [(.int (3 : Int32)), (.int (3 : Int32))])) _
    refine XS.icmpNo X10.here hx rfl (hb hby at_108) rfl (flt hc108).1 ?_
    show Steps p.tables e below (T10.setTop (mkF m 111 #[.val (.int p1), .val (.int p2), .val (.int p3), .val (.int p4), .val (.int p5), .val (.int (3 : Int32)), .val (.int (p2 &&& (31 : Int32))), .val (.int (p3 &&& (31 : Int32))), .val (.int (p4 &&& (31 : Int32))), .val (.int (p5 &&& (31 : Int32))), .val (.ref b6), .val (.int (own_u3 (p2 &&& (31 : Int32)) (p3 &&& (31 : Int32)) (p4 &&& (31 : Int32)))), .unset, .unset] [])) _
    refine XS.iload X10.here hx rfl (hb hby at_111) rfl ?_
    show Steps p.tables e below (T10.setTop (mkF m 113 #[.val (.int p1), .val (.int p2), .val (.int p3), .val (.int p4), .val (.int p5), .val (.int (3 : Int32)), .val (.int (p2 &&& (31 : Int32))), .val (.int (p3 &&& (31 : Int32))), .val (.int (p4 &&& (31 : Int32))), .val (.int (p5 &&& (31 : Int32))), .val (.ref b6), .val (.int (own_u3 (p2 &&& (31 : Int32)) (p3 &&& (31 : Int32)) (p4 &&& (31 : Int32)))), .unset, .unset] [(.int (p5 &&& (31 : Int32)))])) _
    refine XS.iload X10.here hx rfl (hb hby at_113) rfl ?_
    show Steps p.tables e below (T10.setTop (mkF m 115 #[.val (.int p1), .val (.int p2), .val (.int p3), .val (.int p4), .val (.int p5), .val (.int (3 : Int32)), .val (.int (p2 &&& (31 : Int32))), .val (.int (p3 &&& (31 : Int32))), .val (.int (p4 &&& (31 : Int32))), .val (.int (p5 &&& (31 : Int32))), .val (.ref b6), .val (.int (own_u3 (p2 &&& (31 : Int32)) (p3 &&& (31 : Int32)) (p4 &&& (31 : Int32)))), .unset, .unset] [(.int (p4 &&& (31 : Int32))), (.int (p5 &&& (31 : Int32)))])) _
    refine XS.icmpYes X10.here hx rfl (pc0 := 115) (pc' := 122) rfl (hb hby at_115) rfl (feq hc115).2 (by decide) (by decide) ?_
    show Steps p.tables e below (T10.setTop (mkF m 122 #[.val (.int p1), .val (.int p2), .val (.int p3), .val (.int p4), .val (.int p5), .val (.int (3 : Int32)), .val (.int (p2 &&& (31 : Int32))), .val (.int (p3 &&& (31 : Int32))), .val (.int (p4 &&& (31 : Int32))), .val (.int (p5 &&& (31 : Int32))), .val (.ref b6), .val (.int (own_u3 (p2 &&& (31 : Int32)) (p3 &&& (31 : Int32)) (p4 &&& (31 : Int32)))), .unset, .unset] [])) _
    refine XS.iconst X10.here hx rfl (hb hby at_122) ?_
    show Steps p.tables e below (T10.setTop (mkF m 123 #[.val (.int p1), .val (.int p2), .val (.int p3), .val (.int p4), .val (.int p5), .val (.int (3 : Int32)), .val (.int (p2 &&& (31 : Int32))), .val (.int (p3 &&& (31 : Int32))), .val (.int (p4 &&& (31 : Int32))), .val (.int (p5 &&& (31 : Int32))), .val (.ref b6), .val (.int (own_u3 (p2 &&& (31 : Int32)) (p3 &&& (31 : Int32)) (p4 &&& (31 : Int32)))), .unset, .unset] [(.int (0 : Int32))])) _
    refine XS.istore X10.here hx rfl (hb hby at_123) rfl (l' := #[.val (.int p1), .val (.int p2), .val (.int p3), .val (.int p4), .val (.int p5), .val (.int (3 : Int32)), .val (.int (p2 &&& (31 : Int32))), .val (.int (p3 &&& (31 : Int32))), .val (.int (p4 &&& (31 : Int32))), .val (.int (p5 &&& (31 : Int32))), .val (.ref b6), .val (.int (own_u3 (p2 &&& (31 : Int32)) (p3 &&& (31 : Int32)) (p4 &&& (31 : Int32)))), .val (.int (0 : Int32)), .unset]) rfl ?_
    show Steps p.tables e below (T10.setTop (mkF m 125 #[.val (.int p1), .val (.int p2), .val (.int p3), .val (.int p4), .val (.int p5), .val (.int (3 : Int32)), .val (.int (p2 &&& (31 : Int32))), .val (.int (p3 &&& (31 : Int32))), .val (.int (p4 &&& (31 : Int32))), .val (.int (p5 &&& (31 : Int32))), .val (.ref b6), .val (.int (own_u3 (p2 &&& (31 : Int32)) (p3 &&& (31 : Int32)) (p4 &&& (31 : Int32)))), .val (.int (0 : Int32)), .unset] [])) _
    refine XS.iload X10.here hx rfl (hb hby at_125) rfl ?_
    show Steps p.tables e below (T10.setTop (mkF m 127 #[.val (.int p1), .val (.int p2), .val (.int p3), .val (.int p4), .val (.int p5), .val (.int (3 : Int32)), .val (.int (p2 &&& (31 : Int32))), .val (.int (p3 &&& (31 : Int32))), .val (.int (p4 &&& (31 : Int32))), .val (.int (p5 &&& (31 : Int32))), .val (.ref b6), .val (.int (own_u3 (p2 &&& (31 : Int32)) (p3 &&& (31 : Int32)) (p4 &&& (31 : Int32)))), .val (.int (0 : Int32)), .unset] [(.int (own_u3 (p2 &&& (31 : Int32)) (p3 &&& (31 : Int32)) (p4 &&& (31 : Int32))))])) _
    refine XS.iload X10.here hx rfl (hb hby at_127) rfl ?_
    show Steps p.tables e below (T10.setTop (mkF m 129 #[.val (.int p1), .val (.int p2), .val (.int p3), .val (.int p4), .val (.int p5), .val (.int (3 : Int32)), .val (.int (p2 &&& (31 : Int32))), .val (.int (p3 &&& (31 : Int32))), .val (.int (p4 &&& (31 : Int32))), .val (.int (p5 &&& (31 : Int32))), .val (.ref b6), .val (.int (own_u3 (p2 &&& (31 : Int32)) (p3 &&& (31 : Int32)) (p4 &&& (31 : Int32)))), .val (.int (0 : Int32)), .unset] [(.int (p5 &&& (31 : Int32))), (.int (own_u3 (p2 &&& (31 : Int32)) (p3 &&& (31 : Int32)) (p4 &&& (31 : Int32))))])) _
    refine XS.iushr X10.here hx rfl (hb hby at_129) rfl ?_
    show Steps p.tables e below (T10.setTop (mkF m 130 #[.val (.int p1), .val (.int p2), .val (.int p3), .val (.int p4), .val (.int p5), .val (.int (3 : Int32)), .val (.int (p2 &&& (31 : Int32))), .val (.int (p3 &&& (31 : Int32))), .val (.int (p4 &&& (31 : Int32))), .val (.int (p5 &&& (31 : Int32))), .val (.ref b6), .val (.int (own_u3 (p2 &&& (31 : Int32)) (p3 &&& (31 : Int32)) (p4 &&& (31 : Int32)))), .val (.int (0 : Int32)), .unset] [(.int (((own_u3 (p2 &&& (31 : Int32)) (p3 &&& (31 : Int32)) (p4 &&& (31 : Int32))).toUInt32 >>> ((p5 &&& (31 : Int32)) &&& 31).toUInt32).toInt32))])) _
    refine XS.iconst X10.here hx rfl (hb hby at_130) ?_
    show Steps p.tables e below (T10.setTop (mkF m 131 #[.val (.int p1), .val (.int p2), .val (.int p3), .val (.int p4), .val (.int p5), .val (.int (3 : Int32)), .val (.int (p2 &&& (31 : Int32))), .val (.int (p3 &&& (31 : Int32))), .val (.int (p4 &&& (31 : Int32))), .val (.int (p5 &&& (31 : Int32))), .val (.ref b6), .val (.int (own_u3 (p2 &&& (31 : Int32)) (p3 &&& (31 : Int32)) (p4 &&& (31 : Int32)))), .val (.int (0 : Int32)), .unset] [(.int (1 : Int32)), (.int (((own_u3 (p2 &&& (31 : Int32)) (p3 &&& (31 : Int32)) (p4 &&& (31 : Int32))).toUInt32 >>> ((p5 &&& (31 : Int32)) &&& 31).toUInt32).toInt32))])) _
    refine XS.iand X10.here hx rfl (hb hby at_131) rfl ?_
    show Steps p.tables e below (T10.setTop (mkF m 132 #[.val (.int p1), .val (.int p2), .val (.int p3), .val (.int p4), .val (.int p5), .val (.int (3 : Int32)), .val (.int (p2 &&& (31 : Int32))), .val (.int (p3 &&& (31 : Int32))), .val (.int (p4 &&& (31 : Int32))), .val (.int (p5 &&& (31 : Int32))), .val (.ref b6), .val (.int (own_u3 (p2 &&& (31 : Int32)) (p3 &&& (31 : Int32)) (p4 &&& (31 : Int32)))), .val (.int (0 : Int32)), .unset] [(.int ((((own_u3 (p2 &&& (31 : Int32)) (p3 &&& (31 : Int32)) (p4 &&& (31 : Int32))).toUInt32 >>> ((p5 &&& (31 : Int32)) &&& 31).toUInt32).toInt32) &&& (1 : Int32)))])) _
    refine XS.ifYes X10.here hx rfl (pc0 := 132) (pc' := 139) rfl (hb hby at_132) rfl ((if0 _ _).trans (teq hc132).1) (by decide) (by decide) ?_
    show Steps p.tables e below (T10.setTop (mkF m 139 #[.val (.int p1), .val (.int p2), .val (.int p3), .val (.int p4), .val (.int p5), .val (.int (3 : Int32)), .val (.int (p2 &&& (31 : Int32))), .val (.int (p3 &&& (31 : Int32))), .val (.int (p4 &&& (31 : Int32))), .val (.int (p5 &&& (31 : Int32))), .val (.ref b6), .val (.int (own_u3 (p2 &&& (31 : Int32)) (p3 &&& (31 : Int32)) (p4 &&& (31 : Int32)))), .val (.int (0 : Int32)), .unset] [])) _
    refine XS.iconst X10.here hx rfl (hb hby at_139) ?_
    show Steps p.tables e below (T10.setTop (mkF m 140 #[.val (.int p1), .val (.int p2), .val (.int p3), .val (.int p4), .val (.int p5), .val (.int (3 : Int32)), .val (.int (p2 &&& (31 : Int32))), .val (.int (p3 &&& (31 : Int32))), .val (.int (p4 &&& (31 : Int32))), .val (.int (p5 &&& (31 : Int32))), .val (.ref b6), .val (.int (own_u3 (p2 &&& (31 : Int32)) (p3 &&& (31 : Int32)) (p4 &&& (31 : Int32)))), .val (.int (0 : Int32)), .unset] [(.int (0 : Int32))])) _
    refine XS.istore X10.here hx rfl (hb hby at_140) rfl (l' := #[.val (.int p1), .val (.int p2), .val (.int p3), .val (.int p4), .val (.int p5), .val (.int (3 : Int32)), .val (.int (p2 &&& (31 : Int32))), .val (.int (p3 &&& (31 : Int32))), .val (.int (p4 &&& (31 : Int32))), .val (.int (p5 &&& (31 : Int32))), .val (.ref b6), .val (.int (own_u3 (p2 &&& (31 : Int32)) (p3 &&& (31 : Int32)) (p4 &&& (31 : Int32)))), .val (.int (0 : Int32)), .val (.int (0 : Int32))]) rfl ?_
    show Steps p.tables e below (T10.setTop (mkF m 142 #[.val (.int p1), .val (.int p2), .val (.int p3), .val (.int p4), .val (.int p5), .val (.int (3 : Int32)), .val (.int (p2 &&& (31 : Int32))), .val (.int (p3 &&& (31 : Int32))), .val (.int (p4 &&& (31 : Int32))), .val (.int (p5 &&& (31 : Int32))), .val (.ref b6), .val (.int (own_u3 (p2 &&& (31 : Int32)) (p3 &&& (31 : Int32)) (p4 &&& (31 : Int32)))), .val (.int (0 : Int32)), .val (.int (0 : Int32))] [])) _
    refine XS.iload X10.here hx rfl (hb hby at_142) rfl ?_
    show Steps p.tables e below (T10.setTop (mkF m 144 #[.val (.int p1), .val (.int p2), .val (.int p3), .val (.int p4), .val (.int p5), .val (.int (3 : Int32)), .val (.int (p2 &&& (31 : Int32))), .val (.int (p3 &&& (31 : Int32))), .val (.int (p4 &&& (31 : Int32))), .val (.int (p5 &&& (31 : Int32))), .val (.ref b6), .val (.int (own_u3 (p2 &&& (31 : Int32)) (p3 &&& (31 : Int32)) (p4 &&& (31 : Int32)))), .val (.int (0 : Int32)), .val (.int (0 : Int32))] [(.int (0 : Int32))])) _
    refine XS.iload X10.here hx rfl (hb hby at_144) rfl ?_
    show Steps p.tables e below (T10.setTop (mkF m 146 #[.val (.int p1), .val (.int p2), .val (.int p3), .val (.int p4), .val (.int p5), .val (.int (3 : Int32)), .val (.int (p2 &&& (31 : Int32))), .val (.int (p3 &&& (31 : Int32))), .val (.int (p4 &&& (31 : Int32))), .val (.int (p5 &&& (31 : Int32))), .val (.ref b6), .val (.int (own_u3 (p2 &&& (31 : Int32)) (p3 &&& (31 : Int32)) (p4 &&& (31 : Int32)))), .val (.int (0 : Int32)), .val (.int (0 : Int32))] [(.int (0 : Int32)), (.int (0 : Int32))])) _
    refine XS.icmpNo X10.here hx rfl (hb hby at_146) rfl (teq (rfl : (0 : Int32) = (0 : Int32))).2 ?_
    show Steps p.tables e below (T10.setTop (mkF m 149 #[.val (.int p1), .val (.int p2), .val (.int p3), .val (.int p4), .val (.int p5), .val (.int (3 : Int32)), .val (.int (p2 &&& (31 : Int32))), .val (.int (p3 &&& (31 : Int32))), .val (.int (p4 &&& (31 : Int32))), .val (.int (p5 &&& (31 : Int32))), .val (.ref b6), .val (.int (own_u3 (p2 &&& (31 : Int32)) (p3 &&& (31 : Int32)) (p4 &&& (31 : Int32)))), .val (.int (0 : Int32)), .val (.int (0 : Int32))] [])) _
    refine XS.iconst X10.here hx rfl (hb hby at_149) ?_
    show Steps p.tables e below (T10.setTop (mkF m 150 #[.val (.int p1), .val (.int p2), .val (.int p3), .val (.int p4), .val (.int p5), .val (.int (3 : Int32)), .val (.int (p2 &&& (31 : Int32))), .val (.int (p3 &&& (31 : Int32))), .val (.int (p4 &&& (31 : Int32))), .val (.int (p5 &&& (31 : Int32))), .val (.ref b6), .val (.int (own_u3 (p2 &&& (31 : Int32)) (p3 &&& (31 : Int32)) (p4 &&& (31 : Int32)))), .val (.int (0 : Int32)), .val (.int (0 : Int32))] [(.int (1 : Int32))])) _
    refine XS.goto X10.here hx rfl (pc0 := 150) (pc' := 154) rfl (hb hby at_150) (by decide) (by decide) ?_
    show Steps p.tables e below (T10.setTop (mkF m 154 #[.val (.int p1), .val (.int p2), .val (.int p3), .val (.int p4), .val (.int p5), .val (.int (3 : Int32)), .val (.int (p2 &&& (31 : Int32))), .val (.int (p3 &&& (31 : Int32))), .val (.int (p4 &&& (31 : Int32))), .val (.int (p5 &&& (31 : Int32))), .val (.ref b6), .val (.int (own_u3 (p2 &&& (31 : Int32)) (p3 &&& (31 : Int32)) (p4 &&& (31 : Int32)))), .val (.int (0 : Int32)), .val (.int (0 : Int32))] [(.int (1 : Int32))])) _
    exact retN X10 hx (t := .boolean) Bd.returns (by simp) (hb hby at_154) hr
  · show own_Q0 h0 n0 _ T10.heap _
    rw [e10]
    exact ⟨rfl, N10⟩
theorem rm0 (l : Launch) (Z : State) (a0 : Array Value) (hw : ∀ d ∈ tables_1, d.before a0 Z = true) (ws : List Jvm.Cond) (p1 : Int32) (p2 : Int32) (p3 : Int32) (p4 : Int32) (p5 : Int32) (h0 : Heap) (n0 : Nat) (Z0 : n0 ≤ h0.size) :
    MetFree l x (head1 (Jvm.Cond.code x code maxLocals ret :: ws) room_1) (fun a U => a = #[(.int p1), (.int p2), (.int p3), (.int p4), (.int p5)] ∧ Z.Warmed39 U.vm ∧ U.heap = h0) (fun _ _ _ _ _ => True) (fun _ U o U' => ∃ v L, o = .returned v ∧ own_Q0 h0 n0 v U'.heap L ∧ FrameEnd U o U' L room_1.cells room_1.slots) := by
  have ha := own_lt32 p2
  have hb := own_lt32 p3
  have hc := own_lt32 p4
  have hq := own_lt32 p5
  rcases own_four p1 with hn | hn | hn | hn
  · have hh := (own_tst (0 : Int32) _ hq).mpr (own_zero _)
    exact own_rm0_0_0 l Z a0 hw ws p1 p2 p3 p4 p5 h0 n0 Z0 hn (by decide) (by decide) (by decide) (by decide) (by decide) (by decide) hh
  · by_cases q1 : (p5 &&& (31 : Int32)) = (p2 &&& (31 : Int32))
    · have hh := mt (own_tst (own_u1 (p2 &&& (31 : Int32))) _ hq).mp (by rw [own_bits1 _ _ ha hq]; simp [q1])
      exact own_rm0_1_0 l Z a0 hw ws p1 p2 p3 p4 p5 h0 n0 Z0 hn (by decide) (by decide) (by decide) (by decide) q1 hh
    · have hh := (own_tst (own_u1 (p2 &&& (31 : Int32))) _ hq).mpr (by rw [own_bits1 _ _ ha hq]; simp [q1])
      exact own_rm0_1_1 l Z a0 hw ws p1 p2 p3 p4 p5 h0 n0 Z0 hn (by decide) (by decide) (by decide) (by decide) q1 (by decide) (by decide) hh
  · by_cases q1 : (p5 &&& (31 : Int32)) = (p2 &&& (31 : Int32))
    · have hh := mt (own_tst (own_u2 (p2 &&& (31 : Int32)) (p3 &&& (31 : Int32))) _ hq).mp (by rw [own_bits2 _ _ _ ha hb hq]; simp [q1])
      exact own_rm0_2_0 l Z a0 hw ws p1 p2 p3 p4 p5 h0 n0 Z0 hn (by decide) (by decide) (by decide) (by decide) q1 hh
    by_cases q2 : (p5 &&& (31 : Int32)) = (p3 &&& (31 : Int32))
    · have hh := mt (own_tst (own_u2 (p2 &&& (31 : Int32)) (p3 &&& (31 : Int32))) _ hq).mp (by rw [own_bits2 _ _ _ ha hb hq]; simp [q1, q2])
      exact own_rm0_2_1 l Z a0 hw ws p1 p2 p3 p4 p5 h0 n0 Z0 hn (by decide) (by decide) (by decide) (by decide) q1 (by decide) q2 hh
    · have hh := (own_tst (own_u2 (p2 &&& (31 : Int32)) (p3 &&& (31 : Int32))) _ hq).mpr (by rw [own_bits2 _ _ _ ha hb hq]; simp [q1, q2])
      exact own_rm0_2_2 l Z a0 hw ws p1 p2 p3 p4 p5 h0 n0 Z0 hn (by decide) (by decide) (by decide) (by decide) q1 (by decide) q2 (by decide) hh
  · by_cases q1 : (p5 &&& (31 : Int32)) = (p2 &&& (31 : Int32))
    · have hh := mt (own_tst (own_u3 (p2 &&& (31 : Int32)) (p3 &&& (31 : Int32)) (p4 &&& (31 : Int32))) _ hq).mp (by rw [own_bits3 _ _ _ _ ha hb hc hq]; simp [q1])
      exact own_rm0_3_0 l Z a0 hw ws p1 p2 p3 p4 p5 h0 n0 Z0 hn (by decide) (by decide) (by decide) (by decide) q1 hh
    by_cases q2 : (p5 &&& (31 : Int32)) = (p3 &&& (31 : Int32))
    · have hh := mt (own_tst (own_u3 (p2 &&& (31 : Int32)) (p3 &&& (31 : Int32)) (p4 &&& (31 : Int32))) _ hq).mp (by rw [own_bits3 _ _ _ _ ha hb hc hq]; simp [q1, q2])
      exact own_rm0_3_1 l Z a0 hw ws p1 p2 p3 p4 p5 h0 n0 Z0 hn (by decide) (by decide) (by decide) (by decide) q1 (by decide) q2 hh
    by_cases q3 : (p5 &&& (31 : Int32)) = (p4 &&& (31 : Int32))
    · have hh := mt (own_tst (own_u3 (p2 &&& (31 : Int32)) (p3 &&& (31 : Int32)) (p4 &&& (31 : Int32))) _ hq).mp (by rw [own_bits3 _ _ _ _ ha hb hc hq]; simp [q1, q2, q3])
      exact own_rm0_3_2 l Z a0 hw ws p1 p2 p3 p4 p5 h0 n0 Z0 hn (by decide) (by decide) (by decide) (by decide) q1 (by decide) q2 (by decide) q3 hh
    · have hh := (own_tst (own_u3 (p2 &&& (31 : Int32)) (p3 &&& (31 : Int32)) (p4 &&& (31 : Int32))) _ hq).mpr (by rw [own_bits3 _ _ _ _ ha hb hc hq]; simp [q1, q2, q3])
      exact own_rm0_3_3 l Z a0 hw ws p1 p2 p3 p4 p5 h0 n0 Z0 hn (by decide) (by decide) (by decide) (by decide) q1 (by decide) q2 (by decide) q3 hh
set_option maxRecDepth 65536 in
set_option maxHeartbeats 40000000 in
theorem comes_1 {Post : Tables → Env → Array Value → State → Outcome → State → Prop} (hpost : ∀ tb e args s v u, (limb_1_1.after args s (.returned v) u = true ∧ limb_1_2.after args s (.returned v) u = true ∧ True) → FrameEnd s (.returned v) u (Jvm.fieldLocs frame_1_writes args s ++ Jvm.arrayLocs frame_1_arrays args s ++ Jvm.staticLocs frame_1_statics s) 16 128 → Post tb e args s (.returned v) u) :
    ArmFor flags0 classFile x code maxLocals ret World_1 tables_1 room_1 Calls_1 rest_1 Pre_1 Post := by
  intro l hfl _ _ p e ha hc hk s m args below hf hA hF happ hP
  obtain ⟨hcalls, hrest, hpre⟩ := hP
  obtain ⟨-, -, -, hnamed, -, -, -, hat⟩ := (Spec.applies_iff hf).mp happ
  obtain ⟨hg, hn⟩ := and_e (Cond.before_iff.mp (show (Jvm.Cond.and given_1 narrow_1).before args s = true from hpre))
  obtain ⟨g8, g9⟩ := and_e hg
  obtain ⟨g10, g11⟩ := and_e g9
  obtain ⟨g12, g13⟩ := and_e g11
  obtain ⟨g14, g15⟩ := and_e g13
  obtain ⟨g16, g17⟩ := and_e g15
  obtain ⟨w0, w1, w2, w3, w4, rfl⟩ : ∃ w0 w1 w2 w3 w4 : Value, args = #[w0, w1, w2, w3, w4] := by
    have hs : args.size = 5 := by simpa [Cond.value, given_1] using g8
    obtain ⟨L⟩ := args
    match L, hs with
    | [w0, w1, w2, w3, w4], _ => exact ⟨w0, w1, w2, w3, w4, rfl⟩
  have hw := fun d (hd : d ∈ tables_1) => atoms_spec (ws := Jvm.Cond.code x code maxLocals ret :: tables_1) hat d (List.mem_cons_of_mem _ hd)
  have hfit : Fit s := fun {y c} hc i hi => by
    obtain ⟨ha, rfl⟩ := Array.getElem?_eq_some_iff.mp hc
    have q := List.all_eq_true.mp ((Array.all_eq_true_iff_forall_mem.mp hF) _ (Array.getElem_mem ha)) i (List.mem_range.mpr hi)
    simpa [Array.getElem?_eq_getElem hi] using q
  obtain ⟨i0, ei0⟩ := is_v g10
  obtain rfl : w0 = (.int i0) := Option.some.inj ei0
  obtain ⟨i1, ei1⟩ := is_v g12
  obtain rfl : w1 = (.int i1) := Option.some.inj ei1
  obtain ⟨i2, ei2⟩ := is_v g14
  obtain rfl : w2 = (.int i2) := Option.some.inj ei2
  obtain ⟨i3, ei3⟩ := is_v g16
  obtain rfl : w3 = (.int i3) := Option.some.inj ei3
  obtain ⟨i4, ei4⟩ := is_v g17
  obtain rfl : w4 = (.int i4) := Option.some.inj ei4
  obtain ⟨n, o, h1, h2, h3, _, L, rfl, ⟨rfl, N⟩, hq⟩ := rm0 l s _ hw tables_1 i0 i1 i2 i3 i4 s.heap s.heap.size (Nat.le_refl _) p e ha hc hk s m _ below hf ((Spec.applies_iff_loose hf).mp happ).1 ⟨rfl, State.Warmed39.refl s, rfl⟩ trivial
  refine ⟨n, _, h1, h2, h3, hpost _ _ _ _ _ _ ⟨Cond.after_iff.mpr rfl, Cond.after_iff.mpr (eq_i res_at (Term.int_eval (1)) rfl), trivial⟩ ⟨hq.1, hq.2.1, (hq.2.2.sift fun y hy => Or.inr (N y hy)).mono (by decide) (by decide)⟩⟩
theorem main_1_1 : Claimed_1_1 := comes_1 fun _ _ _ _ _ _ h hF => ⟨h.1, hF⟩
theorem main_1_2 : Claimed_1_2 := comes_1 fun _ _ _ _ _ _ h hF => ⟨h.2.1, hF⟩
end Jvm.Pilot.@@N@@
namespace Jvm.Pilot.@@N@@
open Jvm Jvm.ClassFile Sem Op Lib Jvm.Free Jvm.Stand Jvm.Pilot.@@N@@.Jvm.D
/-! MADE BY PROGRAM (witnessworld.py) out of the Statement's table words and the real class files: 9 classes; the members and pool entries that the words name. The judged class is class 1, her method 1. -/
namespace start1
open Jvm.ClassFile
def u (s : String) : CpInfo := .utf8 (stringToUtf16 s)
/-- a pool by its gaps: so many unusable entries, then the entry; so many at the end -/
def gap : Nat → List CpInfo → List CpInfo
  | 0, r => r
  | n + 1, r => .unusable :: gap n r
def poolList (es : List (Nat × CpInfo)) (last : Nat) : List CpInfo := es.foldr (fun e r => gap e.1 (e.2 :: r)) (gap last [])
def pool (es : List (Nat × CpInfo)) (last : Nat) : Array CpInfo := ⟨poolList es last⟩
def fileOf (pool : Array CpInfo) (this : Nat) (attrs : Array Attribute := #[]) (ms : Array MethodInfo := #[]) (fl : Nat := 33) (sup : Nat := 0) (ifs : Array Nat := #[]) (fds : Array FieldInfo := #[]) : ClassFile where
  minorVersion := 0
  majorVersion := 65
  constantPool := pool
  accessFlags := fl
  thisClass := this
  superClass := sup
  interfaces := ifs
  fields := fds
  methods := ms
  attributes := attrs
def plain (name : String) (sup : Option ClassId) : Class where
  name := name
  kind := .ordinary
  loader := none
  accessFlags := 33
  super := sup
  interfaces := #[]
  cf := none
  fields := #[]
  methods := #[]
  instanceTypes := #[]
  staticTypes := #[]
  resolved := #[]
  callSites := []
  init := .initialized
  statics := none
  mirror := none

def pool0 : Array CpInfo := pool [(5, u "<init>"), (0, u "()V"), (1, .class_ 10), (1, u "java/lang/Object")] 113

def k0m0 : Method := { name := "<init>", desc := "()V", sig := { parameters := [], returnType := none }, accessFlags := 1, code := none }
/-- java/lang/Object -/
def k0 : Class := { plain "java/lang/Object" none with
  accessFlags := 33
  interfaces := #[]
  cf := some (fileOf pool0 8 #[] #[{ accessFlags := 1, nameIndex := 5, descriptorIndex := 6, attributes := #[] }] 33 0 #[] #[])
  fields := #[]
  methods := #[k0m0]
  instanceTypes := #[]
  staticTypes := #[]
  resolved := Array.replicate 124 none
  statics := none }

def pool1 : Array CpInfo := pool [(2, .class_ 4), (1, u "java/lang/Object"), (0, u "<init>"), (0, u "()V"), (0, .methodref 8 9), (0, .class_ 10), (0, .nameAndType 11 12), (0, u "com/example/sundew/sundew/text/BreakProperties"), (0, u "bits"), (0, u "([I)I"), (0, .class_ 14), (0, u "com/example/sundew/sundew/text/BreakPropertiesBitsPinLaw"), (2, u "law"), (0, u "(IIIII)Z")] 5

def k1m0 : Method := { name := "<init>", desc := "()V", sig := { parameters := [], returnType := none }, accessFlags := 2, code := none }
def k1c1 : Code := { maxStack := 3, maxLocals := 14, code := code, exceptionTable := #[], attributes := #[] }
def k1m1 : Method := { name := "law", desc := "(IIIII)Z", sig := { parameters := [.int, .int, .int, .int, .int], returnType := some .boolean }, accessFlags := 9, code := some k1c1 }
/-- com/example/sundew/sundew/text/BreakPropertiesBitsPinLaw -/
def k1 : Class := { plain "com/example/sundew/sundew/text/BreakPropertiesBitsPinLaw" (some 0) with
  accessFlags := 49
  interfaces := #[]
  cf := some (fileOf pool1 13 #[] #[{ accessFlags := 2, nameIndex := 5, descriptorIndex := 6, attributes := #[] }, { accessFlags := 9, nameIndex := 17, descriptorIndex := 18, attributes := #[] }] 49 2 #[] #[])
  fields := #[]
  methods := #[k1m0, k1m1]
  instanceTypes := #[]
  staticTypes := #[]
  resolved := Array.replicate 24 none
  statics := none }

def pool2 : Array CpInfo := pool [(1, .class_ 2), (0, u "com/example/sundew/sundew/text/BreakProperties"), (1, .class_ 6), (1, u "java/lang/Object"), (0, u "<init>"), (0, u "()V"), (1, .class_ 12), (1, u "com/example/sundew/sundew/text/BreakProperties$Table"), (10, u "WHITE_SPACE"), (0, u "I"), (67, u "WORD_BREAK_NAMES"), (0, u "Ljava/util/List;"), (20, u "SENTENCE_BREAK_NAMES"), (2, u "bits"), (0, u "([I)I"), (0, u "TABLE"), (0, u "Ljava/lang/String;"), (3, u "WB_OTHER"), (1, u "WB_CR"), (1, u "WB_LF"), (1, u "WB_NEWLINE"), (1, u "WB_EXTEND"), (1, u "WB_ZWJ"), (1, u "WB_REGIONAL_INDICATOR"), (1, u "WB_FORMAT"), (1, u "WB_KATAKANA"), (1, u "WB_HEBREW_LETTER"), (1, u "WB_ALETTER"), (1, u "WB_SINGLE_QUOTE"), (1, u "WB_DOUBLE_QUOTE"), (1, u "WB_MID_NUM_LET"), (1, u "WB_MID_LETTER"), (1, u "WB_MID_NUM"), (1, u "WB_NUMERIC"), (1, u "WB_EXTEND_NUM_LET"), (1, u "WB_WSEG_SPACE"), (3, u "SB_OTHER"), (0, u "SB_CR"), (0, u "SB_LF"), (0, u "SB_SEP"), (0, u "SB_EXTEND"), (0, u "SB_FORMAT"), (0, u "SB_SP"), (0, u "SB_LOWER"), (0, u "SB_UPPER"), (0, u "SB_OLETTER"), (0, u "SB_NUMERIC"), (0, u "SB_ATERM"), (0, u "SB_STERM"), (0, u "SB_SCONTINUE"), (0, u "SB_CLOSE"), (0, u "EXTENDED_PICTOGRAPHIC"), (2, u "WORD_CHARACTER"), (2, u "SENTENCE_BREAK_SHIFT"), (0, u "WORD_BREAK_MASK"), (1, u "SENTENCE_BREAK_MASK"), (0, u "EXTENDED_PICTOGRAPHIC_BIT"), (1, u "WORD_CHARACTER_BIT")] 20

def k2m0 : Method := { name := "<init>", desc := "()V", sig := { parameters := [], returnType := none }, accessFlags := 2, code := none }
def k2c1 : Code := { maxStack := 3, maxLocals := 6, code := prog_52_method_10_code, exceptionTable := #[], attributes := #[] }
def k2m1 : Method := { name := "bits", desc := "([I)I", sig := { parameters := [(.array .int)], returnType := some .int }, accessFlags := 136, code := some k2c1 }
/-- com/example/sundew/sundew/text/BreakProperties -/
def k2 : Class := { plain "com/example/sundew/sundew/text/BreakProperties" (some 0) with
  accessFlags := 49
  interfaces := #[]
  cf := some (fileOf pool2 1 #[.nestMembers #[10]] #[{ accessFlags := 2, nameIndex := 7, descriptorIndex := 8, attributes := #[] }, { accessFlags := 136, nameIndex := 117, descriptorIndex := 118, attributes := #[] }] 49 4 #[] #[{ accessFlags := 24, nameIndex := 119, descriptorIndex := 120, attributes := #[] }, { accessFlags := 24, nameIndex := 124, descriptorIndex := 24, attributes := #[] }, { accessFlags := 24, nameIndex := 126, descriptorIndex := 24, attributes := #[] }, { accessFlags := 24, nameIndex := 128, descriptorIndex := 24, attributes := #[] }, { accessFlags := 24, nameIndex := 130, descriptorIndex := 24, attributes := #[] }, { accessFlags := 24, nameIndex := 132, descriptorIndex := 24, attributes := #[] }, { accessFlags := 24, nameIndex := 134, descriptorIndex := 24, attributes := #[] }, { accessFlags := 24, nameIndex := 136, descriptorIndex := 24, attributes := #[] }, { accessFlags := 24, nameIndex := 138, descriptorIndex := 24, attributes := #[] }, { accessFlags := 24, nameIndex := 140, descriptorIndex := 24, attributes := #[] }, { accessFlags := 24, nameIndex := 142, descriptorIndex := 24, attributes := #[] }, { accessFlags := 24, nameIndex := 144, descriptorIndex := 24, attributes := #[] }, { accessFlags := 24, nameIndex := 146, descriptorIndex := 24, attributes := #[] }, { accessFlags := 24, nameIndex := 148, descriptorIndex := 24, attributes := #[] }, { accessFlags := 24, nameIndex := 150, descriptorIndex := 24, attributes := #[] }, { accessFlags := 24, nameIndex := 152, descriptorIndex := 24, attributes := #[] }, { accessFlags := 24, nameIndex := 154, descriptorIndex := 24, attributes := #[] }, { accessFlags := 24, nameIndex := 156, descriptorIndex := 24, attributes := #[] }, { accessFlags := 24, nameIndex := 158, descriptorIndex := 24, attributes := #[] }, { accessFlags := 24, nameIndex := 160, descriptorIndex := 24, attributes := #[] }, { accessFlags := 24, nameIndex := 92, descriptorIndex := 93, attributes := #[] }, { accessFlags := 24, nameIndex := 164, descriptorIndex := 24, attributes := #[] }, { accessFlags := 24, nameIndex := 165, descriptorIndex := 24, attributes := #[] }, { accessFlags := 24, nameIndex := 166, descriptorIndex := 24, attributes := #[] }, { accessFlags := 24, nameIndex := 167, descriptorIndex := 24, attributes := #[] }, { accessFlags := 24, nameIndex := 168, descriptorIndex := 24, attributes := #[] }, { accessFlags := 24, nameIndex := 169, descriptorIndex := 24, attributes := #[] }, { accessFlags := 24, nameIndex := 170, descriptorIndex := 24, attributes := #[] }, { accessFlags := 24, nameIndex := 171, descriptorIndex := 24, attributes := #[] }, { accessFlags := 24, nameIndex := 172, descriptorIndex := 24, attributes := #[] }, { accessFlags := 24, nameIndex := 173, descriptorIndex := 24, attributes := #[] }, { accessFlags := 24, nameIndex := 174, descriptorIndex := 24, attributes := #[] }, { accessFlags := 24, nameIndex := 175, descriptorIndex := 24, attributes := #[] }, { accessFlags := 24, nameIndex := 176, descriptorIndex := 24, attributes := #[] }, { accessFlags := 24, nameIndex := 177, descriptorIndex := 24, attributes := #[] }, { accessFlags := 24, nameIndex := 178, descriptorIndex := 24, attributes := #[] }, { accessFlags := 24, nameIndex := 114, descriptorIndex := 93, attributes := #[] }, { accessFlags := 24, nameIndex := 179, descriptorIndex := 120, attributes := #[] }, { accessFlags := 24, nameIndex := 182, descriptorIndex := 120, attributes := #[] }, { accessFlags := 26, nameIndex := 23, descriptorIndex := 24, attributes := #[] }, { accessFlags := 26, nameIndex := 185, descriptorIndex := 24, attributes := #[] }, { accessFlags := 26, nameIndex := 186, descriptorIndex := 24, attributes := #[] }, { accessFlags := 26, nameIndex := 188, descriptorIndex := 24, attributes := #[] }, { accessFlags := 26, nameIndex := 189, descriptorIndex := 24, attributes := #[] }, { accessFlags := 26, nameIndex := 191, descriptorIndex := 24, attributes := #[] }])
  fields := #[{ name := "TABLE", type := (.object "java/lang/String"), accessFlags := 24, slot := 0, constantValue := 0 }, { name := "WB_OTHER", type := .int, accessFlags := 24, slot := 1, constantValue := 0 }, { name := "WB_CR", type := .int, accessFlags := 24, slot := 2, constantValue := 0 }, { name := "WB_LF", type := .int, accessFlags := 24, slot := 3, constantValue := 0 }, { name := "WB_NEWLINE", type := .int, accessFlags := 24, slot := 4, constantValue := 0 }, { name := "WB_EXTEND", type := .int, accessFlags := 24, slot := 5, constantValue := 0 }, { name := "WB_ZWJ", type := .int, accessFlags := 24, slot := 6, constantValue := 0 }, { name := "WB_REGIONAL_INDICATOR", type := .int, accessFlags := 24, slot := 7, constantValue := 0 }, { name := "WB_FORMAT", type := .int, accessFlags := 24, slot := 8, constantValue := 0 }, { name := "WB_KATAKANA", type := .int, accessFlags := 24, slot := 9, constantValue := 0 }, { name := "WB_HEBREW_LETTER", type := .int, accessFlags := 24, slot := 10, constantValue := 0 }, { name := "WB_ALETTER", type := .int, accessFlags := 24, slot := 11, constantValue := 0 }, { name := "WB_SINGLE_QUOTE", type := .int, accessFlags := 24, slot := 12, constantValue := 0 }, { name := "WB_DOUBLE_QUOTE", type := .int, accessFlags := 24, slot := 13, constantValue := 0 }, { name := "WB_MID_NUM_LET", type := .int, accessFlags := 24, slot := 14, constantValue := 0 }, { name := "WB_MID_LETTER", type := .int, accessFlags := 24, slot := 15, constantValue := 0 }, { name := "WB_MID_NUM", type := .int, accessFlags := 24, slot := 16, constantValue := 0 }, { name := "WB_NUMERIC", type := .int, accessFlags := 24, slot := 17, constantValue := 0 }, { name := "WB_EXTEND_NUM_LET", type := .int, accessFlags := 24, slot := 18, constantValue := 0 }, { name := "WB_WSEG_SPACE", type := .int, accessFlags := 24, slot := 19, constantValue := 0 }, { name := "WORD_BREAK_NAMES", type := (.object "java/util/List"), accessFlags := 24, slot := 20, constantValue := 0 }, { name := "SB_OTHER", type := .int, accessFlags := 24, slot := 21, constantValue := 0 }, { name := "SB_CR", type := .int, accessFlags := 24, slot := 22, constantValue := 0 }, { name := "SB_LF", type := .int, accessFlags := 24, slot := 23, constantValue := 0 }, { name := "SB_SEP", type := .int, accessFlags := 24, slot := 24, constantValue := 0 }, { name := "SB_EXTEND", type := .int, accessFlags := 24, slot := 25, constantValue := 0 }, { name := "SB_FORMAT", type := .int, accessFlags := 24, slot := 26, constantValue := 0 }, { name := "SB_SP", type := .int, accessFlags := 24, slot := 27, constantValue := 0 }, { name := "SB_LOWER", type := .int, accessFlags := 24, slot := 28, constantValue := 0 }, { name := "SB_UPPER", type := .int, accessFlags := 24, slot := 29, constantValue := 0 }, { name := "SB_OLETTER", type := .int, accessFlags := 24, slot := 30, constantValue := 0 }, { name := "SB_NUMERIC", type := .int, accessFlags := 24, slot := 31, constantValue := 0 }, { name := "SB_ATERM", type := .int, accessFlags := 24, slot := 32, constantValue := 0 }, { name := "SB_STERM", type := .int, accessFlags := 24, slot := 33, constantValue := 0 }, { name := "SB_SCONTINUE", type := .int, accessFlags := 24, slot := 34, constantValue := 0 }, { name := "SB_CLOSE", type := .int, accessFlags := 24, slot := 35, constantValue := 0 }, { name := "SENTENCE_BREAK_NAMES", type := (.object "java/util/List"), accessFlags := 24, slot := 36, constantValue := 0 }, { name := "EXTENDED_PICTOGRAPHIC", type := (.object "java/lang/String"), accessFlags := 24, slot := 37, constantValue := 0 }, { name := "WORD_CHARACTER", type := (.object "java/lang/String"), accessFlags := 24, slot := 38, constantValue := 0 }, { name := "WHITE_SPACE", type := .int, accessFlags := 26, slot := 39, constantValue := 0 }, { name := "SENTENCE_BREAK_SHIFT", type := .int, accessFlags := 26, slot := 40, constantValue := 0 }, { name := "WORD_BREAK_MASK", type := .int, accessFlags := 26, slot := 41, constantValue := 0 }, { name := "SENTENCE_BREAK_MASK", type := .int, accessFlags := 26, slot := 42, constantValue := 0 }, { name := "EXTENDED_PICTOGRAPHIC_BIT", type := .int, accessFlags := 26, slot := 43, constantValue := 0 }, { name := "WORD_CHARACTER_BIT", type := .int, accessFlags := 26, slot := 44, constantValue := 0 }]
  methods := #[k2m0, k2m1]
  instanceTypes := #[]
  staticTypes := #[(.object "java/lang/String"), .int, .int, .int, .int, .int, .int, .int, .int, .int, .int, .int, .int, .int, .int, .int, .int, .int, .int, .int, (.object "java/util/List"), .int, .int, .int, .int, .int, .int, .int, .int, .int, .int, .int, .int, .int, .int, .int, (.object "java/util/List"), (.object "java/lang/String"), (.object "java/lang/String"), .int, .int, .int, .int, .int, .int]
  resolved := Array.replicate 212 none
  statics := none }

def pool3 : Array CpInfo := pool [(1, u "java/lang/Cloneable"), (0, .class_ 1), (0, u "java/lang/Object"), (0, .class_ 3)] 3

/-- java/lang/Cloneable -/
def k3 : Class := { plain "java/lang/Cloneable" (some 0) with
  accessFlags := 1537
  interfaces := #[]
  cf := some (fileOf pool3 2 #[] #[] 1537 4 #[] #[])
  fields := #[]
  methods := #[]
  instanceTypes := #[]
  staticTypes := #[]
  resolved := Array.replicate 8 none
  statics := none }

def pool4 : Array CpInfo := pool [(1, u "java/io/Serializable"), (0, .class_ 1), (0, u "java/lang/Object"), (0, .class_ 3)] 3

/-- java/io/Serializable -/
def k4 : Class := { plain "java/io/Serializable" (some 0) with
  accessFlags := 1537
  interfaces := #[]
  cf := some (fileOf pool4 2 #[] #[] 1537 4 #[] #[])
  fields := #[]
  methods := #[]
  instanceTypes := #[]
  staticTypes := #[]
  resolved := Array.replicate 8 none
  statics := none }

/-- the primitive byte -/
def k5 : Class := { plain "byte" none with kind := .primitive 'B', accessFlags := 0x411 }
/-- [B -/
def k6 : Class := { plain "[B" (some 0) with kind := .array 5 .byte, interfaces := #[3, 4], accessFlags := 1041 }

/-- the primitive int -/
def k7 : Class := { plain "int" none with kind := .primitive 'I', accessFlags := 0x411 }
/-- [I -/
def k8 : Class := { plain "[I" (some 0) with kind := .array 7 .int, interfaces := #[3, 4], accessFlags := 1041 }

def heap : Heap := #[]
def classes : Array Class := #[k0, k1, k2, k3, k4, k5, k6, k7, k8]
def interned : List (Array UInt16 × Addr) := []
def slotsUsed : Nat := 0
def theMethod : MethodId := ⟨1, 1⟩
def args0 : Array Value := #[.int 2, .int 3, .int 4, .int 5, .int 4]
def aboutOver (below : List Frame) : State where
  vm := { classes := classes, interned := interned.toArray }
  heap := heap
  slotsUsed := slotsUsed
  threads := #[{ frames := .invoking theMethod args0 :: below }]
def below0 : List Frame := [.native { method := ⟨0, 0⟩, args := #[] }]
def about1 : State := aboutOver below0
def p0 : Program := .bare "" "" ""
def e0 : Env := launch0.env 0 0 0
theorem w_frames : about1.frames = Frame.invoking theMethod args0 :: below0 := rfl
set_option maxRecDepth 65536 in
theorem w_args : argsFit about1.vm theMethod args0 = true := by decide +kernel
set_option maxRecDepth 65536 in
theorem w_heap : heapFits about1 = true := by decide +kernel
set_option maxRecDepth 65536 in
theorem w_runnable : about1.curStatus? = some .runnable := by decide +kernel
set_option maxRecDepth 65536 in
theorem w_alone : about1.alone = true := by decide +kernel
set_option maxRecDepth 65536 in
theorem w_named : about1.methodNamed? x = some theMethod := by decide +kernel
set_option maxRecDepth 65536 in
theorem w_hears : about1.hears theMethod below0 = true := by decide +kernel
set_option maxRecDepth 65536 in
theorem w_ripe : about1.ripe theMethod args0 below0 = true := by decide +kernel
theorem w_running : about1.status = .running := rfl
set_option maxRecDepth 65536 in
theorem w_room : about1.hasRoom e0.platform room_1 = true :=
  launch0.hasRoom_least _ room_1 (by decide +kernel) (by decide +kernel) (by decide +kernel) (by decide +kernel) (by decide +kernel) (by decide +kernel)
theorem allAtoms_all (ts : List Jvm.Cond) (a : Array Jvm.Value) (st : Jvm.State) : (allAtoms ts).before a st = ts.all (fun c => c.before a st) := by
  induction ts with
  | nil => rfl
  | cons c t ih =>
    show (Jvm.Cond.and c (allAtoms t)).before a st = _
    rw [Jvm.Cond.before_and, ih, List.all_cons]
def words1 : List Jvm.Cond := Jvm.Cond.code x code maxLocals ret :: tables_1
/-- a 'code' word, met by the world's own term for the bytes: nothing is compared byte by byte -/
theorem code_word {y : MethodName} {bytes : ByteArray} {mx : Nat} {rt : Option FieldType} {a : Array Value} {s : State} {m : MethodId} {meth : Method} {c : Code} (h1 : s.methodNamed? y = some m) (h2 : s.vm.method? m = some meth) (h3 : meth.code = some c) (h4 : c.code = bytes)
    (h5 : (c.maxLocals == mx && c.exceptionTable.isEmpty && decide (c.maxStack ≤ mostOperands) && decide (meth.sig.returnType = rt) && !meth.locks && decide (parseMethodDescriptor y.desc = some meth.sig)) = true) : (Jvm.Cond.code y bytes mx rt).before a s = true := by
  simp only [Bool.and_eq_true, beq_iff_eq, Bool.not_eq_true', decide_eq_true_eq] at h5
  obtain ⟨⟨⟨⟨⟨g1, g2⟩, g3⟩, g4⟩, g5⟩, g6⟩ := h5
  simp [Cond.before, Cond.holds, Cond.value, h1, h2, h3, h4, g1, g2, g3, g4, g5, g6]
def isCode : Jvm.Cond → Bool
  | .code _ _ _ _ => true
  | _ => false
theorem all_split {L : List Jvm.Cond} {P : Jvm.Cond → Bool} (h1 : L.all (fun c => isCode c || P c) = true) (h2 : ∀ c ∈ L.filter isCode, P c = true) : L.all P = true := by
  refine List.all_eq_true.mpr fun c hc => ?_
  have h := List.all_eq_true.mp h1 c hc
  rcases Bool.eq_false_or_eq_true (isCode c) with hi | hi
  · exact h2 c (List.mem_filter.mpr ⟨hc, hi⟩)
  · simpa [hi] using h
set_option maxRecDepth 65536 in
theorem w_c0 : (Jvm.Cond.code x code maxLocals ret).before args0 about1 = true := code_word (m := ⟨1, 1⟩) (meth := k1m1) (c := k1c1) (by decide +kernel) rfl rfl rfl (by decide +kernel)
set_option maxRecDepth 65536 in
theorem w_c1 : (Jvm.Cond.code ({ cls := "com/example/sundew/sundew/text/BreakProperties", name := "bits", desc := "([I)I" } : Jvm.MethodName) prog_52_method_10_code (6 : Nat) (Option.some Jvm.ClassFile.FieldType.int)).before args0 about1 = true := code_word (m := ⟨2, 1⟩) (meth := k2m1) (c := k2c1) (by decide +kernel) rfl rfl rfl (by decide +kernel)
def codes1 : List Jvm.Cond := [Jvm.Cond.code x code maxLocals ret, Jvm.Cond.code ({ cls := "com/example/sundew/sundew/text/BreakProperties", name := "bits", desc := "([I)I" } : Jvm.MethodName) prog_52_method_10_code (6 : Nat) (Option.some Jvm.ClassFile.FieldType.int)]
set_option maxRecDepth 65536 in
theorem codes_eq : words1.filter isCode = codes1 := rfl
theorem w_codes : ∀ c ∈ words1.filter isCode, c.before args0 about1 = true := by
  rw [codes_eq]
  intro c hc
  simp only [codes1, List.mem_cons, List.not_mem_nil, or_false] at hc
  rcases hc with rfl | rfl
  · exact w_c0
  · exact w_c1
set_option maxRecDepth 65536 in
theorem w_t1 : words1.all (fun c => isCode c || c.before args0 about1) = true := by decide +kernel
theorem w_tables : (allAtoms (Jvm.Cond.code x code maxLocals ret :: tables_1)).before args0 about1 = true := by
  rw [allAtoms_all]
  show words1.all (fun c => c.before args0 about1) = true
  refine all_split ?_ w_codes
  rw [w_t1]
set_option maxRecDepth 65536 in
theorem w_case : (Jvm.Cond.and given_1 narrow_1).before args0 about1 = true := by decide +kernel
theorem w_applies : (headSpec (Jvm.Cond.code x code maxLocals ret :: tables_1) room_1).applies x e0.platform about1 = true :=
  (Spec.applies_iff w_frames).mpr ⟨w_running, w_runnable, w_alone, w_named, w_hears, w_ripe, w_room, w_tables⟩
theorem atStart : AtStart classFile x code maxLocals ret World_1 tables_1 room_1 Calls_1 rest_1 Pre_1 launch0 p0 e0 about1 theMethod args0 below0 :=
  ⟨lists_1, trivial, launch0.admits_env _ _ _, launch0.least_env, fairChoices_fair.cas, fairChoices_fair.clock, w_frames, w_args, w_heap, w_applies, trivial, trivial, w_case⟩
end start1
theorem witness_1 : WitnessClaimed_1 := ⟨start1.p0, start1.e0, start1.about1, start1.theMethod, start1.args0, start1.below0, start1.atStart⟩
end Jvm.Pilot.@@N@@
