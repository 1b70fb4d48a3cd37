import JvmDerived
import JvmDerived.Pilot.@@N@@Statement
import JvmDerived.Pilot.@@N@@Code
set_option linter.unusedVariables false
set_option linter.unusedSimpArgs false
namespace Jvm.RoadKit
open Sem ClassFile Op Lib Jvm.Stand Jvm.Free Jvm.LawKit
section New
variable {p : Program} {l : Launch} {e : Env} {R : Room} {s : State} {m : MethodId} {args : Array Value} {below : List Frame} {meth : Method} {c : Code} {T : State} {locs : List Loc} {cells slots : Nat}
theorem retI (X : Stand p l e R s m args below meth c T locs cells slots) (hx : p.tables.exec = Jvm.exec) {pc : Nat} {Ls : Array Slot} {z : Int32} {rest : List Value} (hret : meth.sig.returnType = some .int) (hd : decode c.code pc = .ok (.ireturn, 1)) {fs : List Frame}
    (hl : ∀ (f : JFrame) (acts : List Action), f.method = m → f.locked = none → f.entered = [] → (doReturn e (T.setTop f) acts (some (.int z))).1 = T.setFrames fs) : Steps p.tables e below (T.setTop (mkF m pc Ls (.int z :: rest))) (T.setFrames fs) := by
  have hm' : T.vm.method? m = some meth := X.method'
  have hn : narrow .int (.int z) = .int z := rfl
  show Steps p.tables e below (T.setTop { method := m, pc := pc, locals := Ls, stack := _ :: rest, locked := none }) _
  jvm_step X.here [X.here.top, hx, hd, hm', hret, hn]
  first | (intro acts; rw [hl _ acts rfl rfl rfl]) | rw [hl _ _ rfl rfl rfl]
  exact Steps.refl _
end New
end Jvm.RoadKit
namespace Jvm.Pilot.@@N@@
open Jvm Jvm.ClassFile Sem Op Lib Jvm.Free Jvm.Stand Jvm.LawKit Jvm.RoadKit Bundle Jvm.Pilot.@@N@@.Jvm.D
theorem d2_0 : decode jdk_30_method_1_code 0 = .ok (.aload_n 0, 1) := by decide +kernel
theorem d2_1 : decode jdk_30_method_1_code 1 = .ok (.invokespecial 1, 3) := by decide +kernel
theorem d2_4 : decode jdk_30_method_1_code 4 = .ok (.return_, 1) := by decide +kernel
theorem ef_2 (m : MethodId) (x0 : Addr) : entryFrame m #[(.ref x0)] 1 = mkF m 0 #[.val (.ref x0)] [] := by first | (simp [entryFrame, mkF, argsToLocals, Value.category]; done) | rfl
theorem pn_2 : plainName "java/lang/Record" = true := by first | (simp [plainName, overriddenIn]; done) | decide +kernel
def Q2 (Z : State) (a1 : Addr) (h0 : Heap) (n0 : Nat) (v : Option Value) (h : Heap) (L : List Loc) : Prop := v = none ∧ Fr n0 L ∧ h = h0
set_option maxRecDepth 65536 in
set_option maxHeartbeats 40000000 in
theorem rm2 (l : Launch) (Z : State) (a0 : Array Value) (hw : ∀ d ∈ tables_1, d.before a0 Z = true) (ws : List Jvm.Cond) (a1 : Addr) (h0 : Heap) (n0 : Nat) (Z0 : n0 ≤ h0.size) :
    MetFree l (⟨"java/lang/Record", "<init>", "()V"⟩ : MethodName) (head1 (Jvm.Cond.code (⟨"java/lang/Record", "<init>", "()V"⟩ : MethodName) jdk_30_method_1_code 1 none :: ws) ({ frames := 1, cells := 0, slots := 0, locals := 12 } : Room)) (fun a U => a = #[(.ref a1)] ∧ Z.Warmed39 U.vm ∧ U.heap = h0) (fun _ _ _ _ _ => True) (fun _ U o U' => ∃ v L, o = .returned v ∧ Q2 Z a1 h0 n0 v U'.heap L ∧ FrameEnd U o U' L ({ frames := 1, cells := 0, slots := 0, locals := 12 } : Room).cells ({ frames := 1, cells := 0, slots := 0, locals := 12 } : Room).slots) := by
  refine MetFree.of_bodySF (plainFor_of_name pn_2) hisR ?_
  intro p e s m args below meth c s₁ Bd hml0 hP hK
  obtain ⟨rfl, hZ, hh⟩ := hP
  have hx := Bd.exec
  have hby := Bd.bytes
  have hml : c.maxLocals = 1 := hml0
  have hown : s.vm.findClass "java/lang/Record" = some m.cls := findClass_of_methodNamed Bd.named
  have hnm := (name_of_methodNamed Bd.named Bd.method).1
  have X0 : Stand p l e ({ frames := 1, cells := 0, slots := 0, locals := 12 } : Room) s m #[(.ref a1)] below meth c s₁ [] 0 0 := Stand.of_body Bd
  have e0 : s₁.heap = h0 := by rw [← hh, Bd.state]; rfl
  have N0 := Fr.nil n0
  have pre0 : ∀ t, Steps p.tables e below (s₁.setTop (mkF m 0 #[.val (.ref a1)] [])) t → Steps p.tables e below (s₁.setTop (entryFrame m #[(.ref a1)] 1)) t := fun t k => castTop (ef_2 m a1) k
  obtain ⟨T2, X2, e2, st2⟩ := initO X0 hx hZ hown (hw _ (List.mem_of_getElem? (i := 11) rfl)) (hw _ (List.mem_of_getElem? (i := 12) rfl)) (hw _ (List.mem_of_getElem? (i := 13) rfl)) e0 (g := (mkF m 1 #[.val (.ref a1)] [(.ref a1)])) rfl (by rw [hml]; rfl) rfl (hb hby d2_1) (by decide) (W := 0) (by show 2 * 0 + _ ≤ _; exact Nat.le_of_eq rfl) (by decide)
  obtain ⟨fs, hr, hrun, hended, hW, hsame⟩ := X2.leave (v := none) (fun _ => rfl)
  refine ⟨_, _, pre0 _ ?_, hrun, hended, _, _, rfl, ?_, ⟨_, rfl⟩, hW, hsame.mono (by decide) (by decide)⟩
  · show Steps p.tables e below (s₁.setTop (mkF m 0 #[.val (.ref a1)] [])) _
    refine XS.aloadN X0.here hx rfl (hb hby d2_0) rfl rfl ?_
    show Steps p.tables e below (s₁.setTop (mkF m 1 #[.val (.ref a1)] [(.ref a1)])) _
    refine st2 _ ?_
    show Steps p.tables e below (T2.setTop (mkF m 4 #[.val (.ref a1)] [])) _
    exact X2.returnOut hx Bd.returns (hb hby d2_4) hr
  · show Q2 Z a1 h0 n0 _ T2.heap _
    rw [e2]
    exact ⟨rfl, N0, rfl⟩
theorem d1_0 : decode prog_53_method_1_code 0 = .ok (.aload_n 0, 1) := by decide +kernel
theorem d1_1 : decode prog_53_method_1_code 1 = .ok (.invokespecial 1, 3) := by decide +kernel
theorem d1_4 : decode prog_53_method_1_code 4 = .ok (.aload_n 0, 1) := by decide +kernel
theorem d1_5 : decode prog_53_method_1_code 5 = .ok (.iload_n 1, 1) := by decide +kernel
theorem d1_6 : decode prog_53_method_1_code 6 = .ok (.putfield 7, 3) := by decide +kernel
theorem d1_9 : decode prog_53_method_1_code 9 = .ok (.aload_n 0, 1) := by decide +kernel
theorem d1_10 : decode prog_53_method_1_code 10 = .ok (.iload_n 2, 1) := by decide +kernel
theorem d1_11 : decode prog_53_method_1_code 11 = .ok (.putfield 13, 3) := by decide +kernel
theorem d1_14 : decode prog_53_method_1_code 14 = .ok (.aload_n 0, 1) := by decide +kernel
theorem d1_15 : decode prog_53_method_1_code 15 = .ok (.lload_n 3, 1) := by decide +kernel
theorem d1_16 : decode prog_53_method_1_code 16 = .ok (.putfield 16, 3) := by decide +kernel
theorem d1_19 : decode prog_53_method_1_code 19 = .ok (.aload_n 0, 1) := by decide +kernel
theorem d1_20 : decode prog_53_method_1_code 20 = .ok (.lload 5, 2) := by decide +kernel
theorem d1_22 : decode prog_53_method_1_code 22 = .ok (.putfield 20, 3) := by decide +kernel
theorem d1_25 : decode prog_53_method_1_code 25 = .ok (.return_, 1) := by decide +kernel
theorem ef_1 (m : MethodId) (x0 : Addr) (x1 : Int32) (x2 : Int32) (x3 : Int64) (x4 : Int64) : entryFrame m #[(.ref x0), (.int x1), (.int x2), (.long x3), (.long x4)] 7 = mkF m 0 #[.val (.ref x0), .val (.int x1), .val (.int x2), .val (.long x3), .second, .val (.long x4), .second] [] := by first | (simp [entryFrame, mkF, argsToLocals, Value.category]; done) | rfl
theorem pd_1_1 : parseMethodDescriptor "()V" = some ⟨[], none⟩ := by decide +kernel
theorem pn_1 : plainName "com/example/halyard/halyard/node/RecordHeader" = true := by first | (simp [plainName, overriddenIn]; done) | decide +kernel
def Q1 (Z : State) (a1 : Addr) (p2 : Int32) (p3 : Int32) (q4 : Int64) (q5 : Int64) (u_length_a1 : Value) (u_checksum_a1 : Value) (u_epoch_a1 : Value) (u_counter_a1 : Value) (h0 : Heap) (n0 : Nat) (v : Option Value) (h : Heap) (L : List Loc) : Prop := v = none ∧ Fr n0 L ∧ Keep h0 h [a1] ∧ Exa Z h a1 "com/example/halyard/halyard/node/RecordHeader" ∧ Fld Z h a1 "com/example/halyard/halyard/node/RecordHeader" "length" "I" (.int p2)
set_option maxRecDepth 65536 in
set_option maxHeartbeats 40000000 in
theorem rm1 (l : Launch) (Z : State) (a0 : Array Value) (hw : ∀ d ∈ tables_1, d.before a0 Z = true) (ws : List Jvm.Cond) (a1 : Addr) (p2 : Int32) (p3 : Int32) (q4 : Int64) (q5 : Int64) (u_length_a1 : Value) (u_checksum_a1 : Value) (u_epoch_a1 : Value) (u_counter_a1 : Value) (h0 : Heap) (n0 : Nat) (Z0 : n0 ≤ h0.size) (E_a1 : Exa Z h0 a1 "com/example/halyard/halyard/node/RecordHeader") (F_length_a1 : Fld Z h0 a1 "com/example/halyard/halyard/node/RecordHeader" "length" "I" u_length_a1) (g_a1 : n0 ≤ a1) (F_checksum_a1 : Fld Z h0 a1 "com/example/halyard/halyard/node/RecordHeader" "checksum" "I" u_checksum_a1) (F_epoch_a1 : Fld Z h0 a1 "com/example/halyard/halyard/node/RecordHeader" "epoch" "J" u_epoch_a1) (F_counter_a1 : Fld Z h0 a1 "com/example/halyard/halyard/node/RecordHeader" "counter" "J" u_counter_a1) :
    MetFree l (⟨"com/example/halyard/halyard/node/RecordHeader", "<init>", "(IIJJ)V"⟩ : MethodName) (head1 (Jvm.Cond.code (⟨"com/example/halyard/halyard/node/RecordHeader", "<init>", "(IIJJ)V"⟩ : MethodName) prog_53_method_1_code 7 none :: ws) ({ frames := 2, cells := 0, slots := 0, locals := 24 } : Room)) (fun a U => a = #[(.ref a1), (.int p2), (.int p3), (.long q4), (.long q5)] ∧ Z.Warmed39 U.vm ∧ U.heap = h0) (fun _ _ _ _ _ => True) (fun _ U o U' => ∃ v L, o = .returned v ∧ Q1 Z a1 p2 p3 q4 q5 u_length_a1 u_checksum_a1 u_epoch_a1 u_counter_a1 h0 n0 v U'.heap L ∧ FrameEnd U o U' L ({ frames := 2, cells := 0, slots := 0, locals := 24 } : Room).cells ({ frames := 2, cells := 0, slots := 0, locals := 24 } : Room).slots) := by
  refine MetFree.of_bodySF (plainFor_of_name pn_1) hisR ?_
  intro p e s m args below meth c s₁ Bd hml0 hP hK
  obtain ⟨rfl, hZ, hh⟩ := hP
  have hx := Bd.exec
  have hby := Bd.bytes
  have hml : c.maxLocals = 7 := hml0
  have hown : s.vm.findClass "com/example/halyard/halyard/node/RecordHeader" = some m.cls := findClass_of_methodNamed Bd.named
  have hnm := (name_of_methodNamed Bd.named Bd.method).1
  have X0 : Stand p l e ({ frames := 2, cells := 0, slots := 0, locals := 24 } : Room) s m #[(.ref a1), (.int p2), (.int p3), (.long q4), (.long q5)] below meth c s₁ [] 0 0 := Stand.of_body Bd
  have e0 : s₁.heap = h0 := by rw [← hh, Bd.state]; rfl
  have N0 := Fr.nil n0
  have pre0 : ∀ t, Steps p.tables e below (s₁.setTop (mkF m 0 #[.val (.ref a1), .val (.int p2), .val (.int p3), .val (.long q4), .second, .val (.long q5), .second] [])) t → Steps p.tables e below (s₁.setTop (entryFrame m #[(.ref a1), (.int p2), (.int p3), (.long q4), (.long q5)] 7)) t := fun t k => castTop (ef_1 m a1 p2 p3 q4 q5) k
  obtain ⟨_, _, ⟨T6, L6, k6, n6⟩, -, X6, ⟨Lc6, hQ6, l6, y6, z6⟩, st6⟩ := X0.specialBack hx (y := (⟨"java/lang/Record", "<init>", "()V"⟩ : MethodName)) rfl hown (mvT hZ (hw _ (List.mem_of_getElem? (i := 6) rfl))) (mvT hZ (hw _ (List.mem_of_getElem? (i := 7) rfl))) (mvT hZ (hw _ (List.mem_of_getElem? (i := 10) rfl))) (by decide) (backOf (W := 0) (rm2 l Z a0 hw [] a1 h0 n0 Z0) hZ (hw _ (List.mem_of_getElem? (i := 10) rfl)) (hw _ (List.mem_of_getElem? (i := 9) rfl)) (by decide) (by decide)) (g := (mkF m 1 #[.val (.ref a1), .val (.int p2), .val (.int p3), .val (.long q4), .second, .val (.long q5), .second] [(.ref a1)])) rfl (by rw [hml]; rfl) (Steps.refl _) (a := a1) (argsL := []) (rest := []) (lenOf pd_1_1 rfl) rfl (by show 2 * 0 + _ ≤ _; exact Nat.le_of_eq rfl) (hb hby d1_1) (fun _ _ => ⟨rfl, e0, (by decide : 0 + 0 ≤ _), (by decide : 0 + 0 ≤ _)⟩)
  dsimp only [Pt.U, Pt.locs, Pt.cells, Pt.slots] at X6 l6 y6 z6 st6 hQ6
  subst l6 y6 z6
  obtain ⟨rfl, N6q, e6⟩ := hQ6
  have N6 := Fr.app N0 N6q
  obtain ⟨T7, h7, X7, e7, W7, st7⟩ := putF X6 hx hZ hown (host := "") (Or.inl (hw _ (List.mem_of_getElem? (i := 14) rfl))) Via.refl e6 F_length_a1 E_a1 (Or.inr ⟨(hw _ (List.mem_of_getElem? (i := 15) rfl)), rfl, hnm⟩) (hw _ (List.mem_of_getElem? (i := 1) rfl)) (ty := .int) (by decide) rfl rfl (g := (mkF m 6 #[.val (.ref a1), .val (.int p2), .val (.int p3), .val (.long q4), .second, .val (.long q5), .second] [(.int p2), (.ref a1)])) rfl rfl (hb hby d1_6)
  have Fw7 := F_length_a1.same W7
  have K7 : Keep h0 h7 [a1] := (Keep.refl h0 [a1]).wr W7 (Or.inl (List.mem_of_getElem? (i := 0) rfl))
  have N7 := Fr.snoc X7 N6 g_a1
  obtain ⟨T8, h8, X8, e8, W8, st8⟩ := putF X7 hx hZ hown (host := "") (Or.inl (hw _ (List.mem_of_getElem? (i := 16) rfl))) Via.refl e7 (F_checksum_a1.other W7 (Or.inr (slot_ne (Or.inr (hw _ (List.mem_of_getElem? (i := 17) rfl))) (Or.inr (hw _ (List.mem_of_getElem? (i := 15) rfl))) (by decide) (t := .int) (t' := .int) (by decide) (by decide)))) (E_a1.wr W7) (Or.inr ⟨(hw _ (List.mem_of_getElem? (i := 17) rfl)), rfl, hnm⟩) (hw _ (List.mem_of_getElem? (i := 1) rfl)) (ty := .int) (by decide) rfl rfl (g := (mkF m 11 #[.val (.ref a1), .val (.int p2), .val (.int p3), .val (.long q4), .second, .val (.long q5), .second] [(.int p3), (.ref a1)])) rfl rfl (hb hby d1_11)
  have Fw8 := (F_checksum_a1.other W7 (Or.inr (slot_ne (Or.inr (hw _ (List.mem_of_getElem? (i := 17) rfl))) (Or.inr (hw _ (List.mem_of_getElem? (i := 15) rfl))) (by decide) (t := .int) (t' := .int) (by decide) (by decide)))).same W8
  have K8 : Keep h0 h8 [a1] := K7.wr W8 (Or.inl (List.mem_of_getElem? (i := 0) rfl))
  have N8 := Fr.snoc X8 N7 g_a1
  obtain ⟨T9, h9, X9, e9, W9, st9⟩ := putF X8 hx hZ hown (host := "") (Or.inl (hw _ (List.mem_of_getElem? (i := 18) rfl))) Via.refl e8 ((F_epoch_a1.other W7 (Or.inr (slot_ne (Or.inr (hw _ (List.mem_of_getElem? (i := 19) rfl))) (Or.inr (hw _ (List.mem_of_getElem? (i := 15) rfl))) (by decide) (t := .long) (t' := .int) (by decide) (by decide)))).other W8 (Or.inr (slot_ne (Or.inr (hw _ (List.mem_of_getElem? (i := 19) rfl))) (Or.inr (hw _ (List.mem_of_getElem? (i := 17) rfl))) (by decide) (t := .long) (t' := .int) (by decide) (by decide)))) ((E_a1.wr W7).wr W8) (Or.inr ⟨(hw _ (List.mem_of_getElem? (i := 19) rfl)), rfl, hnm⟩) (hw _ (List.mem_of_getElem? (i := 1) rfl)) (ty := .long) (by decide) rfl rfl (g := (mkF m 16 #[.val (.ref a1), .val (.int p2), .val (.int p3), .val (.long q4), .second, .val (.long q5), .second] [(.long q4), (.ref a1)])) rfl rfl (hb hby d1_16)
  have Fw9 := ((F_epoch_a1.other W7 (Or.inr (slot_ne (Or.inr (hw _ (List.mem_of_getElem? (i := 19) rfl))) (Or.inr (hw _ (List.mem_of_getElem? (i := 15) rfl))) (by decide) (t := .long) (t' := .int) (by decide) (by decide)))).other W8 (Or.inr (slot_ne (Or.inr (hw _ (List.mem_of_getElem? (i := 19) rfl))) (Or.inr (hw _ (List.mem_of_getElem? (i := 17) rfl))) (by decide) (t := .long) (t' := .int) (by decide) (by decide)))).same W9
  have K9 : Keep h0 h9 [a1] := K8.wr W9 (Or.inl (List.mem_of_getElem? (i := 0) rfl))
  have N9 := Fr.snoc X9 N8 g_a1
  obtain ⟨T10, h10, X10, e10, W10, st10⟩ := putF X9 hx hZ hown (host := "") (Or.inl (hw _ (List.mem_of_getElem? (i := 20) rfl))) Via.refl e9 (((F_counter_a1.other W7 (Or.inr (slot_ne (Or.inr (hw _ (List.mem_of_getElem? (i := 21) rfl))) (Or.inr (hw _ (List.mem_of_getElem? (i := 15) rfl))) (by decide) (t := .long) (t' := .int) (by decide) (by decide)))).other W8 (Or.inr (slot_ne (Or.inr (hw _ (List.mem_of_getElem? (i := 21) rfl))) (Or.inr (hw _ (List.mem_of_getElem? (i := 17) rfl))) (by decide) (t := .long) (t' := .int) (by decide) (by decide)))).other W9 (Or.inr (slot_ne (Or.inr (hw _ (List.mem_of_getElem? (i := 21) rfl))) (Or.inr (hw _ (List.mem_of_getElem? (i := 19) rfl))) (by decide) (t := .long) (t' := .long) (by decide) (by decide)))) (((E_a1.wr W7).wr W8).wr W9) (Or.inr ⟨(hw _ (List.mem_of_getElem? (i := 21) rfl)), rfl, hnm⟩) (hw _ (List.mem_of_getElem? (i := 1) rfl)) (ty := .long) (by decide) rfl rfl (g := (mkF m 22 #[.val (.ref a1), .val (.int p2), .val (.int p3), .val (.long q4), .second, .val (.long q5), .second] [(.long q5), (.ref a1)])) rfl rfl (hb hby d1_22)
  have Fw10 := (((F_counter_a1.other W7 (Or.inr (slot_ne (Or.inr (hw _ (List.mem_of_getElem? (i := 21) rfl))) (Or.inr (hw _ (List.mem_of_getElem? (i := 15) rfl))) (by decide) (t := .long) (t' := .int) (by decide) (by decide)))).other W8 (Or.inr (slot_ne (Or.inr (hw _ (List.mem_of_getElem? (i := 21) rfl))) (Or.inr (hw _ (List.mem_of_getElem? (i := 17) rfl))) (by decide) (t := .long) (t' := .int) (by decide) (by decide)))).other W9 (Or.inr (slot_ne (Or.inr (hw _ (List.mem_of_getElem? (i := 21) rfl))) (Or.inr (hw _ (List.mem_of_getElem? (i := 19) rfl))) (by decide) (t := .long) (t' := .long) (by decide) (by decide)))).same W10
  have K10 : Keep h0 h10 [a1] := K9.wr W10 (Or.inl (List.mem_of_getElem? (i := 0) rfl))
  have N10 := Fr.snoc X10 N9 g_a1
  obtain ⟨fs, hr, hrun, hended, hW, hsame⟩ := X10.leave (v := none) (fun _ => rfl)
  refine ⟨_, _, pre0 _ ?_, hrun, hended, _, _, rfl, ?_, ⟨_, rfl⟩, hW, hsame.mono (by decide) (by decide)⟩
  · show Steps p.tables e below (s₁.setTop (mkF m 0 #[.val (.ref a1), .val (.int p2), .val (.int p3), .val (.long q4), .second, .val (.long q5), .second] [])) _
    refine XS.aloadN X0.here hx rfl (hb hby d1_0) rfl rfl ?_
    show Steps p.tables e below (s₁.setTop (mkF m 1 #[.val (.ref a1), .val (.int p2), .val (.int p3), .val (.long q4), .second, .val (.long q5), .second] [(.ref a1)])) _
    refine st6.trans ?_
    show Steps p.tables e below (T6.setTop (mkF m 4 #[.val (.ref a1), .val (.int p2), .val (.int p3), .val (.long q4), .second, .val (.long q5), .second] [])) _
    refine XS.aloadN X6.here hx rfl (hb hby d1_4) rfl rfl ?_
    show Steps p.tables e below (T6.setTop (mkF m 5 #[.val (.ref a1), .val (.int p2), .val (.int p3), .val (.long q4), .second, .val (.long q5), .second] [(.ref a1)])) _
    refine XS.iloadN X6.here hx rfl (hb hby d1_5) rfl ?_
    show Steps p.tables e below (T6.setTop (mkF m 6 #[.val (.ref a1), .val (.int p2), .val (.int p3), .val (.long q4), .second, .val (.long q5), .second] [(.int p2), (.ref a1)])) _
    refine st7 _ ?_
    show Steps p.tables e below (T7.setTop (mkF m 9 #[.val (.ref a1), .val (.int p2), .val (.int p3), .val (.long q4), .second, .val (.long q5), .second] [])) _
    refine XS.aloadN X7.here hx rfl (hb hby d1_9) rfl rfl ?_
    show Steps p.tables e below (T7.setTop (mkF m 10 #[.val (.ref a1), .val (.int p2), .val (.int p3), .val (.long q4), .second, .val (.long q5), .second] [(.ref a1)])) _
    refine XS.iloadN X7.here hx rfl (hb hby d1_10) rfl ?_
    show Steps p.tables e below (T7.setTop (mkF m 11 #[.val (.ref a1), .val (.int p2), .val (.int p3), .val (.long q4), .second, .val (.long q5), .second] [(.int p3), (.ref a1)])) _
    refine st8 _ ?_
    show Steps p.tables e below (T8.setTop (mkF m 14 #[.val (.ref a1), .val (.int p2), .val (.int p3), .val (.long q4), .second, .val (.long q5), .second] [])) _
    refine XS.aloadN X8.here hx rfl (hb hby d1_14) rfl rfl ?_
    show Steps p.tables e below (T8.setTop (mkF m 15 #[.val (.ref a1), .val (.int p2), .val (.int p3), .val (.long q4), .second, .val (.long q5), .second] [(.ref a1)])) _
    refine XS.lloadN X8.here hx rfl (hb hby d1_15) rfl ?_
    show Steps p.tables e below (T8.setTop (mkF m 16 #[.val (.ref a1), .val (.int p2), .val (.int p3), .val (.long q4), .second, .val (.long q5), .second] [(.long q4), (.ref a1)])) _
    refine st9 _ ?_
    show Steps p.tables e below (T9.setTop (mkF m 19 #[.val (.ref a1), .val (.int p2), .val (.int p3), .val (.long q4), .second, .val (.long q5), .second] [])) _
    refine XS.aloadN X9.here hx rfl (hb hby d1_19) rfl rfl ?_
    show Steps p.tables e below (T9.setTop (mkF m 20 #[.val (.ref a1), .val (.int p2), .val (.int p3), .val (.long q4), .second, .val (.long q5), .second] [(.ref a1)])) _
    refine XS.lload X9.here hx rfl (hb hby d1_20) rfl ?_
    show Steps p.tables e below (T9.setTop (mkF m 22 #[.val (.ref a1), .val (.int p2), .val (.int p3), .val (.long q4), .second, .val (.long q5), .second] [(.long q5), (.ref a1)])) _
    refine st10 _ ?_
    show Steps p.tables e below (T10.setTop (mkF m 25 #[.val (.ref a1), .val (.int p2), .val (.int p3), .val (.long q4), .second, .val (.long q5), .second] [])) _
    exact X10.returnOut hx Bd.returns (hb hby d1_25) hr
  · show Q1 Z a1 p2 p3 q4 q5 u_length_a1 u_checksum_a1 u_epoch_a1 u_counter_a1 h0 n0 _ T10.heap _
    rw [e10]
    exact ⟨rfl, N10, K10, (((E_a1.wr W7).wr W8).wr W9).wr W10, (((Fw7.other W8 (Or.inr (slot_ne (Or.inr (hw _ (List.mem_of_getElem? (i := 15) rfl))) (Or.inr (hw _ (List.mem_of_getElem? (i := 17) rfl))) (by decide) (t := .int) (t' := .int) (by decide) (by decide)))).other W9 (Or.inr (slot_ne (Or.inr (hw _ (List.mem_of_getElem? (i := 15) rfl))) (Or.inr (hw _ (List.mem_of_getElem? (i := 19) rfl))) (by decide) (t := .int) (t' := .long) (by decide) (by decide)))).other W10 (Or.inr (slot_ne (Or.inr (hw _ (List.mem_of_getElem? (i := 15) rfl))) (Or.inr (hw _ (List.mem_of_getElem? (i := 21) rfl))) (by decide) (t := .int) (t' := .long) (by decide) (by decide))))⟩
theorem d4_0 : decode prog_53_method_6_code 0 = .ok (.lload_n 1, 1) := by decide +kernel
theorem d4_1 : decode prog_53_method_6_code 1 = .ok (.ldc2_w 69, 3) := by decide +kernel
theorem d4_4 : decode prog_53_method_6_code 4 = .ok (.ladd, 1) := by decide +kernel
theorem d4_5 : decode prog_53_method_6_code 5 = .ok (.aload_n 0, 1) := by decide +kernel
theorem d4_6 : decode prog_53_method_6_code 6 = .ok (.getfield 7, 3) := by decide +kernel
theorem d4_9 : decode prog_53_method_6_code 9 = .ok (.i2l, 1) := by decide +kernel
theorem d4_10 : decode prog_53_method_6_code 10 = .ok (.ladd, 1) := by decide +kernel
theorem d4_11 : decode prog_53_method_6_code 11 = .ok (.lreturn, 1) := by decide +kernel
theorem ef_4 (m : MethodId) (x0 : Addr) (x1 : Int64) : entryFrame m #[(.ref x0), (.long x1)] 3 = mkF m 0 #[.val (.ref x0), .val (.long x1), .second] [] := by first | (simp [entryFrame, mkF, argsToLocals, Value.category]; done) | rfl
theorem pn_4 : plainName "com/example/halyard/halyard/node/RecordHeader" = true := by first | (simp [plainName, overriddenIn]; done) | decide +kernel
def Q4 (Z : State) (a1 : Addr) (q2 : Int64) (w3 : Int32) (h0 : Heap) (n0 : Nat) (v : Option Value) (h : Heap) (L : List Loc) : Prop := v = some (.long ((q2 + (24 : Int64)) + (w3.toInt64))) ∧ Fr n0 L ∧ h = h0
set_option maxRecDepth 65536 in
set_option maxHeartbeats 40000000 in
theorem rm4 (l : Launch) (Z : State) (a0 : Array Value) (hw : ∀ d ∈ tables_1, d.before a0 Z = true) (ws : List Jvm.Cond) (a1 : Addr) (q2 : Int64) (w3 : Int32) (h0 : Heap) (n0 : Nat) (Z0 : n0 ≤ h0.size) (F_length_a1 : Fld Z h0 a1 "com/example/halyard/halyard/node/RecordHeader" "length" "I" (.int w3)) :
    MetFree l (⟨"com/example/halyard/halyard/node/RecordHeader", "recordEnd", "(J)J"⟩ : MethodName) (head1 (Jvm.Cond.code (⟨"com/example/halyard/halyard/node/RecordHeader", "recordEnd", "(J)J"⟩ : MethodName) prog_53_method_6_code 3 (some .long) :: ws) ({ frames := 0, cells := 0, slots := 0, locals := 0 } : Room)) (fun a U => a = #[(.ref a1), (.long q2)] ∧ Z.Warmed39 U.vm ∧ U.heap = h0) (fun _ _ _ _ _ => True) (fun _ U o U' => ∃ v L, o = .returned v ∧ Q4 Z a1 q2 w3 h0 n0 v U'.heap L ∧ FrameEnd U o U' L ({ frames := 0, cells := 0, slots := 0, locals := 0 } : Room).cells ({ frames := 0, cells := 0, slots := 0, locals := 0 } : Room).slots) := by
  refine MetFree.of_bodySF (plainFor_of_name pn_4) hisR ?_
  intro p e s m args below meth c s₁ Bd hml0 hP hK
  obtain ⟨rfl, hZ, hh⟩ := hP
  have hx := Bd.exec
  have hby := Bd.bytes
  have hml : c.maxLocals = 3 := hml0
  have hown : s.vm.findClass "com/example/halyard/halyard/node/RecordHeader" = some m.cls := findClass_of_methodNamed Bd.named
  have hnm := (name_of_methodNamed Bd.named Bd.method).1
  have X0 : Stand p l e ({ frames := 0, cells := 0, slots := 0, locals := 0 } : Room) s m #[(.ref a1), (.long q2)] below meth c s₁ [] 0 0 := Stand.of_body Bd
  have e0 : s₁.heap = h0 := by rw [← hh, Bd.state]; rfl
  have N0 := Fr.nil n0
  have pre0 : ∀ t, Steps p.tables e below (s₁.setTop (mkF m 0 #[.val (.ref a1), .val (.long q2), .second] [])) t → Steps p.tables e below (s₁.setTop (entryFrame m #[(.ref a1), (.long q2)] 3)) t := fun t k => castTop (ef_4 m a1 q2) k
  obtain ⟨T4, X4, e4, st4⟩ := getF X0 hx hZ hown (host := "") (Or.inl (hw _ (List.mem_of_getElem? (i := 14) rfl))) Via.refl e0 F_length_a1 (g := (mkF m 6 #[.val (.ref a1), .val (.long q2), .second] [(.ref a1), (.long (q2 + (24 : Int64)))])) rfl rfl (hb hby d4_6)
  obtain ⟨fs, hr, hrun, hended, hW, hsame⟩ := X4.leave (v := some (.long ((q2 + (24 : Int64)) + (w3.toInt64)))) (fun h => by rw [Bd.returns] at h; cases h)
  refine ⟨_, _, pre0 _ ?_, hrun, hended, _, _, rfl, ?_, ⟨_, rfl⟩, hW, hsame.mono (by decide) (by decide)⟩
  · show Steps p.tables e below (s₁.setTop (mkF m 0 #[.val (.ref a1), .val (.long q2), .second] [])) _
    refine XS.lloadN X0.here hx rfl (hb hby d4_0) rfl ?_
    show Steps p.tables e below (s₁.setTop (mkF m 1 #[.val (.ref a1), .val (.long q2), .second] [(.long q2)])) _
    refine X0.ldc2Long hx hown (mvT hZ (hw _ (List.mem_of_getElem? (i := 27) rfl))) (g := (mkF m 1 #[.val (.ref a1), .val (.long q2), .second] [(.long q2)])) rfl (hb hby d4_1) _ ?_
    show Steps p.tables e below (s₁.setTop (mkF m 4 #[.val (.ref a1), .val (.long q2), .second] [(.long (24 : Int64)), (.long q2)])) _
    refine XS.ladd X0.here hx rfl (hb hby d4_4) rfl ?_
    show Steps p.tables e below (s₁.setTop (mkF m 5 #[.val (.ref a1), .val (.long q2), .second] [(.long (q2 + (24 : Int64)))])) _
    refine XS.aloadN X0.here hx rfl (hb hby d4_5) rfl rfl ?_
    show Steps p.tables e below (s₁.setTop (mkF m 6 #[.val (.ref a1), .val (.long q2), .second] [(.ref a1), (.long (q2 + (24 : Int64)))])) _
    refine st4 _ ?_
    show Steps p.tables e below (T4.setTop (mkF m 9 #[.val (.ref a1), .val (.long q2), .second] [(.int w3), (.long (q2 + (24 : Int64)))])) _
    refine XS.i2l X4.here hx rfl (hb hby d4_9) rfl ?_
    show Steps p.tables e below (T4.setTop (mkF m 10 #[.val (.ref a1), .val (.long q2), .second] [(.long (w3.toInt64)), (.long (q2 + (24 : Int64)))])) _
    refine XS.ladd X4.here hx rfl (hb hby d4_10) rfl ?_
    show Steps p.tables e below (T4.setTop (mkF m 11 #[.val (.ref a1), .val (.long q2), .second] [(.long ((q2 + (24 : Int64)) + (w3.toInt64)))])) _
    jvm_step X4.here [X4.here.top, hx, (hb hby d4_11), X4.method', Bd.returns, narrow]
    first | (intro acts; rw [hr _ acts rfl rfl rfl]) | rw [hr _ _ rfl rfl rfl]
    exact Steps.refl _
  · show Q4 Z a1 q2 w3 h0 n0 _ T4.heap _
    rw [e4]
    exact ⟨rfl, N0, rfl⟩
theorem ef_0 (m : MethodId) (x0 : Int32) (x1 : Int32) (x2 : Int64) (x3 : Int64) (x4 : Int64) (x5 : Int64) : entryFrame m #[(.int x0), (.int x1), (.long x2), (.long x3), (.long x4), (.long x5)] maxLocals = mkF m 0 #[.val (.int x0), .val (.int x1), .val (.long x2), .second, .val (.long x3), .second, .val (.long x4), .second, .val (.long x5), .second, .unset, .unset, .unset, .unset, .unset, .unset, .unset, .unset, .unset] [] := by first | (simp [entryFrame, mkF, argsToLocals, Value.category, maxLocals]; done) | rfl
theorem pd_0_0 : parseMethodDescriptor "(IIJJ)V" = some ⟨[.int, .int, .long, .long], none⟩ := by decide +kernel
theorem pd_0_2 : parseMethodDescriptor "(J)J" = some ⟨[.long], some .long⟩ := by decide +kernel
theorem pn_0 : plainName "com/example/halyard/halyard/node/RecordHeaderRecordEndPinLaw" = true := by first | (simp [plainName, overriddenIn]; done) | decide +kernel
def Q0 (Z : State) (p1 : Int32) (p2 : Int32) (q3 : Int64) (q4 : Int64) (q5 : Int64) (q6 : Int64) (h0 : Heap) (n0 : Nat) (v : Option Value) (h : Heap) (L : List Loc) : Prop := v = some (.int (1 : Int32)) ∧ Fr n0 L
theorem own_i1 (w : Int64) : ((0 : Int64) + 24) + w = 24 + w := by rw [Int64.zero_add]
theorem own_i2 (x w : Int64) : ((x + 24) + w) - x = 24 + w := by rw [Int64.add_assoc, Int64.add_comm x, Int64.add_sub_cancel]
theorem own_i3 (x y w : Int64) : ((x + 24) + w) - ((y + 24) + w) = x - y := by
  have e (a b c : Int64) : (a + c) - (b + c) = a - b := by
    rw [Int64.sub_eq_add_neg, Int64.neg_add, Int64.sub_eq_add_neg, Int64.sub_eq_add_neg, Int64.add_assoc, Int64.add_comm (-b), ← Int64.add_assoc c, Int64.add_right_neg, Int64.zero_add]
  rw [e, e]
theorem own_z1 (w : Int64) : lcmpW (((0 : Int64) + 24) + w) (24 + w) = 0 := (lw_eq _ _).mpr (own_i1 w)
theorem own_z2 (x w : Int64) : lcmpW (((x + 24) + w) - x) (24 + w) = 0 := (lw_eq _ _).mpr (own_i2 x w)
theorem own_z3 (x w : Int64) : lcmpW (((x + 24) + w) - x) (24 + w) = 0 := own_z2 x w
theorem own_z4 (x y w : Int64) : lcmpW (((x + 24) + w) - ((y + 24) + w)) (x - y) = 0 := (lw_eq _ _).mpr (own_i3 x y w)
set_option maxRecDepth 65536 in
set_option maxHeartbeats 40000000 in
theorem rm0 (l : Launch) (Z : State) (a0 : Array Value) (hw : ∀ d ∈ tables_1, d.before a0 Z = true) (ws : List Jvm.Cond) (p1 : Int32) (p2 : Int32) (q3 : Int64) (q4 : Int64) (q5 : Int64) (q6 : Int64) (h0 : Heap) (n0 : Nat) (Z0 : n0 ≤ h0.size) :
    MetFree l x (head1 (Jvm.Cond.code x code maxLocals ret :: ws) room_1) (fun a U => a = #[(.int p1), (.int p2), (.long q3), (.long q4), (.long q5), (.long q6)] ∧ Z.Warmed39 U.vm ∧ U.heap = h0) (fun _ _ _ _ _ => True) (fun _ U o U' => ∃ v L, o = .returned v ∧ Q0 Z p1 p2 q3 q4 q5 q6 h0 n0 v U'.heap L ∧ FrameEnd U o U' L room_1.cells room_1.slots) := by
  refine MetFree.of_bodySF (plainFor_of_name pn_0) hisR ?_
  intro p e s m args below meth c s₁ Bd hml0 hP hK
  obtain ⟨rfl, hZ, hh⟩ := hP
  have hx := Bd.exec
  have hby := Bd.bytes
  have hml : c.maxLocals = 19 := hml0
  have hown : s.vm.findClass "com/example/halyard/halyard/node/RecordHeaderRecordEndPinLaw" = some m.cls := findClass_of_methodNamed Bd.named
  have hnm := (name_of_methodNamed Bd.named Bd.method).1
  have X0 : Stand p l e room_1 s m #[(.int p1), (.int p2), (.long q3), (.long q4), (.long q5), (.long q6)] below meth c s₁ [] 0 0 := Stand.of_body Bd
  have e0 : s₁.heap = h0 := by rw [← hh, Bd.state]; rfl
  have N0 := Fr.nil n0
  have pre0 : ∀ t, Steps p.tables e below (s₁.setTop (mkF m 0 #[.val (.int p1), .val (.int p2), .val (.long q3), .second, .val (.long q4), .second, .val (.long q5), .second, .val (.long q6), .second, .unset, .unset, .unset, .unset, .unset, .unset, .unset, .unset, .unset] [])) t → Steps p.tables e below (s₁.setTop (entryFrame m #[(.int p1), (.int p2), (.long q3), (.long q4), (.long q5), (.long q6)] maxLocals)) t := fun t k => castTop (ef_0 m p1 p2 q3 q4 q5 q6) k
  obtain ⟨T7, h7, X7, e7, E7, A7, D7, -, st7⟩ := newO X0 hx hZ hown (hw _ (List.mem_of_getElem? (i := 0) rfl)) (hw _ (List.mem_of_getElem? (i := 1) rfl)) (hw _ (List.mem_of_getElem? (i := 2) rfl)) e0 (g := (mkF m 0 #[.val (.int p1), .val (.int p2), .val (.long q3), .second, .val (.long q4), .second, .val (.long q5), .second, .val (.long q6), .second, .unset, .unset, .unset, .unset, .unset, .unset, .unset, .unset, .unset] [])) rfl (hb hby at_0) (by decide) (by decide)
  obtain ⟨b7, g7⟩ : ∃ z, z = h0.size := ⟨_, rfl⟩
  rw [← g7] at A7 D7 st7
  have F_length_b7 : Fld Z h7 b7 "com/example/halyard/halyard/node/RecordHeader" "length" "I" (.int (0 : Int32)) := D7 (Or.inr (hw _ (List.mem_of_getElem? (i := 15) rfl))) (ty := .int) (by decide)
  have F_checksum_b7 : Fld Z h7 b7 "com/example/halyard/halyard/node/RecordHeader" "checksum" "I" (.int (0 : Int32)) := D7 (Or.inr (hw _ (List.mem_of_getElem? (i := 17) rfl))) (ty := .int) (by decide)
  have F_epoch_b7 : Fld Z h7 b7 "com/example/halyard/halyard/node/RecordHeader" "epoch" "J" (.long (0 : Int64)) := D7 (Or.inr (hw _ (List.mem_of_getElem? (i := 19) rfl))) (ty := .long) (by decide)
  have F_counter_b7 : Fld Z h7 b7 "com/example/halyard/halyard/node/RecordHeader" "counter" "J" (.long (0 : Int64)) := D7 (Or.inr (hw _ (List.mem_of_getElem? (i := 21) rfl))) (ty := .long) (by decide)
  have E_b7 := A7
  have g_b7 : n0 ≤ b7 := Nat.le_trans Z0 (Nat.le_of_eq g7.symm)
  have sz_b7 : h0.size ≤ b7 := (Nat.le_trans (Keep.refl h0 []).1 (Nat.le_of_eq g7.symm))
  have K7 : Keep h0 h7 [] := (Keep.refl h0 []).ext E7
  obtain ⟨_, _, ⟨T8, L8, k8, n8⟩, -, X8, ⟨Lc8, hQ8, l8, y8, z8⟩, st8⟩ := X7.specialBack hx (y := (⟨"com/example/halyard/halyard/node/RecordHeader", "<init>", "(IIJJ)V"⟩ : MethodName)) rfl hown (mvT hZ (hw _ (List.mem_of_getElem? (i := 3) rfl))) (mvT hZ (hw _ (List.mem_of_getElem? (i := 4) rfl))) (mvT hZ (hw _ (List.mem_of_getElem? (i := 5) rfl))) (by decide) (backOf (W := 1) (rm1 l Z a0 hw [] b7 p1 p2 q3 q4 _ _ _ _ h7 n0 (Nat.le_trans Z0 E7.1) E_b7 F_length_b7 g_b7 F_checksum_b7 F_epoch_b7 F_counter_b7) hZ (hw _ (List.mem_of_getElem? (i := 5) rfl)) (hw _ (List.mem_of_getElem? (i := 2) rfl)) (by decide) (by decide)) (g := (mkF m 9 #[.val (.int p1), .val (.int p2), .val (.long q3), .second, .val (.long q4), .second, .val (.long q5), .second, .val (.long q6), .second, .unset, .unset, .unset, .unset, .unset, .unset, .unset, .unset, .unset] [(.long q4), (.long q3), (.int p2), (.int p1), (.ref b7), (.ref b7)])) rfl (by rw [hml]; rfl) (Steps.refl _) (a := b7) (argsL := [(.int p1), (.int p2), (.long q3), (.long q4)]) (rest := [(.ref b7)]) (lenOf pd_0_0 rfl) rfl (by show 2 * 0 + _ ≤ _; exact Nat.le_of_eq rfl) (hb hby at_9) (fun _ _ => ⟨rfl, e7, (by decide : 1 + 0 ≤ _), (by decide : 4 + 0 ≤ _)⟩)
  dsimp only [Pt.U, Pt.locs, Pt.cells, Pt.slots] at X8 l8 y8 z8 st8 hQ8
  subst l8 y8 z8
  obtain ⟨rfl, N8q, K8, Ex8, Fl8⟩ := hQ8
  have N8 := Fr.app N0 N8q
  obtain ⟨cq9, kq9, q9a, q9b, q9c⟩ := isOf hZ rfl Ex8
  obtain ⟨_, _, ⟨T9, L9, k9, n9⟩, -, X9, ⟨Lc9, hQ9, l9, y9, z9⟩, st9⟩ := X8.virtualBack hx (y := (⟨"com/example/halyard/halyard/node/RecordHeader", "recordEnd", "(J)J"⟩ : MethodName)) (z := (⟨"com/example/halyard/halyard/node/RecordHeader", "recordEnd", "(J)J"⟩ : MethodName)) hown (mvT hZ (hw _ (List.mem_of_getElem? (i := 22) rfl))) (mvT hZ (hw _ (List.mem_of_getElem? (i := 23) rfl))) (notFace_of_selects (args := #[]) (mvT hZ (hw _ (List.mem_of_getElem? (i := 25) rfl)))) (mvT hZ (hw _ (List.mem_of_getElem? (i := 25) rfl))) (mvT hZ (hw _ (List.mem_of_getElem? (i := 24) rfl))) (by decide) (backOf (W := 0) (rm4 l Z a0 hw [] b7 (0 : Int64) p1 T8.heap n0 (Nat.le_trans (Nat.le_trans Z0 E7.1) K8.1) Fl8) hZ (hw _ (List.mem_of_getElem? (i := 26) rfl)) (hw _ (List.mem_of_getElem? (i := 2) rfl)) (by decide) (by decide)) q9a q9c (g := (mkF m 17 #[.val (.int p1), .val (.int p2), .val (.long q3), .second, .val (.long q4), .second, .val (.long q5), .second, .val (.long q6), .second, .val (.ref b7), .unset, .unset, .unset, .unset, .unset, .unset, .unset, .unset] [(.long (0 : Int64)), (.ref b7)])) rfl (by rw [hml]; rfl) (Steps.refl _) (argsL := [(.long (0 : Int64))]) (rest := []) (lenOf pd_0_2 rfl) rfl (by show 2 * 0 + _ ≤ _; exact Nat.le_of_eq rfl) (hb hby at_17) (fun _ _ => ⟨rfl, rfl, (by decide : 1 + 0 ≤ _), (by decide : 4 + 0 ≤ _)⟩)
  dsimp only [Pt.U, Pt.locs, Pt.cells, Pt.slots] at X9 l9 y9 z9 st9 hQ9
  subst l9 y9 z9
  obtain ⟨rfl, N9q, e9⟩ := hQ9
  have N9 := Fr.app N8 N9q
  obtain ⟨cq10, kq10, q10a, q10b, q10c⟩ := isOf hZ e9 Ex8
  obtain ⟨_, _, ⟨T10, L10, k10, n10⟩, -, X10, ⟨Lc10, hQ10, l10, y10, z10⟩, st10⟩ := X9.virtualBack hx (y := (⟨"com/example/halyard/halyard/node/RecordHeader", "recordEnd", "(J)J"⟩ : MethodName)) (z := (⟨"com/example/halyard/halyard/node/RecordHeader", "recordEnd", "(J)J"⟩ : MethodName)) hown (mvT hZ (hw _ (List.mem_of_getElem? (i := 22) rfl))) (mvT hZ (hw _ (List.mem_of_getElem? (i := 23) rfl))) (notFace_of_selects (args := #[]) (mvT hZ (hw _ (List.mem_of_getElem? (i := 25) rfl)))) (mvT hZ (hw _ (List.mem_of_getElem? (i := 25) rfl))) (mvT hZ (hw _ (List.mem_of_getElem? (i := 24) rfl))) (by decide) (backOf (W := 0) (rm4 l Z a0 hw [] b7 q5 p1 T8.heap n0 (Nat.le_trans (Nat.le_trans Z0 E7.1) K8.1) Fl8) hZ (hw _ (List.mem_of_getElem? (i := 26) rfl)) (hw _ (List.mem_of_getElem? (i := 2) rfl)) (by decide) (by decide)) q10a q10c (g := (mkF m 26 #[.val (.int p1), .val (.int p2), .val (.long q3), .second, .val (.long q4), .second, .val (.long q5), .second, .val (.long q6), .second, .val (.ref b7), .val (.long (((0 : Int64) + (24 : Int64)) + (p1.toInt64))), .second, .unset, .unset, .unset, .unset, .unset, .unset] [(.long q5), (.ref b7)])) rfl (by rw [hml]; rfl) (Steps.refl _) (argsL := [(.long q5)]) (rest := []) (lenOf pd_0_2 rfl) rfl (by show 2 * 0 + _ ≤ _; exact Nat.le_of_eq rfl) (hb hby at_26) (fun _ _ => ⟨rfl, e9, (by decide : 1 + 0 ≤ _), (by decide : 4 + 0 ≤ _)⟩)
  dsimp only [Pt.U, Pt.locs, Pt.cells, Pt.slots] at X10 l10 y10 z10 st10 hQ10
  subst l10 y10 z10
  obtain ⟨rfl, N10q, e10⟩ := hQ10
  have N10 := Fr.app N9 N10q
  obtain ⟨cq11, kq11, q11a, q11b, q11c⟩ := isOf hZ (e10.trans rfl) Ex8
  obtain ⟨_, _, ⟨T11, L11, k11, n11⟩, -, X11, ⟨Lc11, hQ11, l11, y11, z11⟩, st11⟩ := X10.virtualBack hx (y := (⟨"com/example/halyard/halyard/node/RecordHeader", "recordEnd", "(J)J"⟩ : MethodName)) (z := (⟨"com/example/halyard/halyard/node/RecordHeader", "recordEnd", "(J)J"⟩ : MethodName)) hown (mvT hZ (hw _ (List.mem_of_getElem? (i := 22) rfl))) (mvT hZ (hw _ (List.mem_of_getElem? (i := 23) rfl))) (notFace_of_selects (args := #[]) (mvT hZ (hw _ (List.mem_of_getElem? (i := 25) rfl)))) (mvT hZ (hw _ (List.mem_of_getElem? (i := 25) rfl))) (mvT hZ (hw _ (List.mem_of_getElem? (i := 24) rfl))) (by decide) (backOf (W := 0) (rm4 l Z a0 hw [] b7 q6 p1 T8.heap n0 (Nat.le_trans (Nat.le_trans Z0 E7.1) K8.1) Fl8) hZ (hw _ (List.mem_of_getElem? (i := 26) rfl)) (hw _ (List.mem_of_getElem? (i := 2) rfl)) (by decide) (by decide)) q11a q11c (g := (mkF m 35 #[.val (.int p1), .val (.int p2), .val (.long q3), .second, .val (.long q4), .second, .val (.long q5), .second, .val (.long q6), .second, .val (.ref b7), .val (.long (((0 : Int64) + (24 : Int64)) + (p1.toInt64))), .second, .val (.long ((q5 + (24 : Int64)) + (p1.toInt64))), .second, .unset, .unset, .unset, .unset] [(.long q6), (.ref b7)])) rfl (by rw [hml]; rfl) (Steps.refl _) (argsL := [(.long q6)]) (rest := []) (lenOf pd_0_2 rfl) rfl (by show 2 * 0 + _ ≤ _; exact Nat.le_of_eq rfl) (hb hby at_35) (fun _ _ => ⟨rfl, e10, (by decide : 1 + 0 ≤ _), (by decide : 4 + 0 ≤ _)⟩)
  dsimp only [Pt.U, Pt.locs, Pt.cells, Pt.slots] at X11 l11 y11 z11 st11 hQ11
  subst l11 y11 z11
  obtain ⟨rfl, N11q, e11⟩ := hQ11
  have N11 := Fr.app N10 N11q
  obtain ⟨fs, hr, hrun, hended, hW, hsame⟩ := X11.leave (v := some (.int (1 : Int32))) (fun h => by rw [Bd.returns] at h; cases h)
  refine ⟨_, _, pre0 _ ?_, hrun, hended, _, _, rfl, ?_, ⟨_, rfl⟩, hW, hsame.mono (by decide) (by decide)⟩
  · show Steps p.tables e below (s₁.setTop (mkF m 0 #[.val (.int p1), .val (.int p2), .val (.long q3), .second, .val (.long q4), .second, .val (.long q5), .second, .val (.long q6), .second, .unset, .unset, .unset, .unset, .unset, .unset, .unset, .unset, .unset] [])) _
    refine st7 _ ?_
    show Steps p.tables e below (T7.setTop (mkF m 3 #[.val (.int p1), .val (.int p2), .val (.long q3), .second, .val (.long q4), .second, .val (.long q5), .second, .val (.long q6), .second, .unset, .unset, .unset, .unset, .unset, .unset, .unset, .unset, .unset] [(.ref b7)])) _
    refine XS.dup X7.here hx rfl (hb hby at_3) rfl rfl ?_
    show Steps p.tables e below (T7.setTop (mkF m 4 #[.val (.int p1), .val (.int p2), .val (.long q3), .second, .val (.long q4), .second, .val (.long q5), .second, .val (.long q6), .second, .unset, .unset, .unset, .unset, .unset, .unset, .unset, .unset, .unset] [(.ref b7), (.ref b7)])) _
    refine XS.iloadN X7.here hx rfl (hb hby at_4) rfl ?_
    show Steps p.tables e below (T7.setTop (mkF m 5 #[.val (.int p1), .val (.int p2), .val (.long q3), .second, .val (.long q4), .second, .val (.long q5), .second, .val (.long q6), .second, .unset, .unset, .unset, .unset, .unset, .unset, .unset, .unset, .unset] [(.int p1), (.ref b7), (.ref b7)])) _
    refine XS.iloadN X7.here hx rfl (hb hby at_5) rfl ?_
    show Steps p.tables e below (T7.setTop (mkF m 6 #[.val (.int p1), .val (.int p2), .val (.long q3), .second, .val (.long q4), .second, .val (.long q5), .second, .val (.long q6), .second, .unset, .unset, .unset, .unset, .unset, .unset, .unset, .unset, .unset] [(.int p2), (.int p1), (.ref b7), (.ref b7)])) _
    refine XS.lloadN X7.here hx rfl (hb hby at_6) rfl ?_
    show Steps p.tables e below (T7.setTop (mkF m 7 #[.val (.int p1), .val (.int p2), .val (.long q3), .second, .val (.long q4), .second, .val (.long q5), .second, .val (.long q6), .second, .unset, .unset, .unset, .unset, .unset, .unset, .unset, .unset, .unset] [(.long q3), (.int p2), (.int p1), (.ref b7), (.ref b7)])) _
    refine XS.lload X7.here hx rfl (hb hby at_7) rfl ?_
    show Steps p.tables e below (T7.setTop (mkF m 9 #[.val (.int p1), .val (.int p2), .val (.long q3), .second, .val (.long q4), .second, .val (.long q5), .second, .val (.long q6), .second, .unset, .unset, .unset, .unset, .unset, .unset, .unset, .unset, .unset] [(.long q4), (.long q3), (.int p2), (.int p1), (.ref b7), (.ref b7)])) _
    refine st8.trans ?_
    show Steps p.tables e below (T8.setTop (mkF m 12 #[.val (.int p1), .val (.int p2), .val (.long q3), .second, .val (.long q4), .second, .val (.long q5), .second, .val (.long q6), .second, .unset, .unset, .unset, .unset, .unset, .unset, .unset, .unset, .unset] [(.ref b7)])) _
    refine XS.astore X8.here hx rfl (hb hby at_12) rfl rfl (l' := #[.val (.int p1), .val (.int p2), .val (.long q3), .second, .val (.long q4), .second, .val (.long q5), .second, .val (.long q6), .second, .val (.ref b7), .unset, .unset, .unset, .unset, .unset, .unset, .unset, .unset]) rfl ?_
    show Steps p.tables e below (T8.setTop (mkF m 14 #[.val (.int p1), .val (.int p2), .val (.long q3), .second, .val (.long q4), .second, .val (.long q5), .second, .val (.long q6), .second, .val (.ref b7), .unset, .unset, .unset, .unset, .unset, .unset, .unset, .unset] [])) _
    refine XS.aload X8.here hx rfl (hb hby at_14) rfl rfl ?_
    show Steps p.tables e below (T8.setTop (mkF m 16 #[.val (.int p1), .val (.int p2), .val (.long q3), .second, .val (.long q4), .second, .val (.long q5), .second, .val (.long q6), .second, .val (.ref b7), .unset, .unset, .unset, .unset, .unset, .unset, .unset, .unset] [(.ref b7)])) _
    refine XS.lconst X8.here hx rfl (hb hby at_16) ?_
    show Steps p.tables e below (T8.setTop (mkF m 17 #[.val (.int p1), .val (.int p2), .val (.long q3), .second, .val (.long q4), .second, .val (.long q5), .second, .val (.long q6), .second, .val (.ref b7), .unset, .unset, .unset, .unset, .unset, .unset, .unset, .unset] [(.long (0 : Int64)), (.ref b7)])) _
    refine st9.trans ?_
    show Steps p.tables e below (T9.setTop (mkF m 20 #[.val (.int p1), .val (.int p2), .val (.long q3), .second, .val (.long q4), .second, .val (.long q5), .second, .val (.long q6), .second, .val (.ref b7), .unset, .unset, .unset, .unset, .unset, .unset, .unset, .unset] [(.long (((0 : Int64) + (24 : Int64)) + (p1.toInt64)))])) _
    refine XS.lstore X9.here hx rfl (hb hby at_20) rfl (l' := #[.val (.int p1), .val (.int p2), .val (.long q3), .second, .val (.long q4), .second, .val (.long q5), .second, .val (.long q6), .second, .val (.ref b7), .val (.long (((0 : Int64) + (24 : Int64)) + (p1.toInt64))), .second, .unset, .unset, .unset, .unset, .unset, .unset]) rfl ?_
    show Steps p.tables e below (T9.setTop (mkF m 22 #[.val (.int p1), .val (.int p2), .val (.long q3), .second, .val (.long q4), .second, .val (.long q5), .second, .val (.long q6), .second, .val (.ref b7), .val (.long (((0 : Int64) + (24 : Int64)) + (p1.toInt64))), .second, .unset, .unset, .unset, .unset, .unset, .unset] [])) _
    refine XS.aload X9.here hx rfl (hb hby at_22) rfl rfl ?_
    show Steps p.tables e below (T9.setTop (mkF m 24 #[.val (.int p1), .val (.int p2), .val (.long q3), .second, .val (.long q4), .second, .val (.long q5), .second, .val (.long q6), .second, .val (.ref b7), .val (.long (((0 : Int64) + (24 : Int64)) + (p1.toInt64))), .second, .unset, .unset, .unset, .unset, .unset, .unset] [(.ref b7)])) _
    refine XS.lload X9.here hx rfl (hb hby at_24) rfl ?_
    show Steps p.tables e below (T9.setTop (mkF m 26 #[.val (.int p1), .val (.int p2), .val (.long q3), .second, .val (.long q4), .second, .val (.long q5), .second, .val (.long q6), .second, .val (.ref b7), .val (.long (((0 : Int64) + (24 : Int64)) + (p1.toInt64))), .second, .unset, .unset, .unset, .unset, .unset, .unset] [(.long q5), (.ref b7)])) _
    refine st10.trans ?_
    show Steps p.tables e below (T10.setTop (mkF m 29 #[.val (.int p1), .val (.int p2), .val (.long q3), .second, .val (.long q4), .second, .val (.long q5), .second, .val (.long q6), .second, .val (.ref b7), .val (.long (((0 : Int64) + (24 : Int64)) + (p1.toInt64))), .second, .unset, .unset, .unset, .unset, .unset, .unset] [(.long ((q5 + (24 : Int64)) + (p1.toInt64)))])) _
    refine XS.lstore X10.here hx rfl (hb hby at_29) rfl (l' := #[.val (.int p1), .val (.int p2), .val (.long q3), .second, .val (.long q4), .second, .val (.long q5), .second, .val (.long q6), .second, .val (.ref b7), .val (.long (((0 : Int64) + (24 : Int64)) + (p1.toInt64))), .second, .val (.long ((q5 + (24 : Int64)) + (p1.toInt64))), .second, .unset, .unset, .unset, .unset]) rfl ?_
    show Steps p.tables e below (T10.setTop (mkF m 31 #[.val (.int p1), .val (.int p2), .val (.long q3), .second, .val (.long q4), .second, .val (.long q5), .second, .val (.long q6), .second, .val (.ref b7), .val (.long (((0 : Int64) + (24 : Int64)) + (p1.toInt64))), .second, .val (.long ((q5 + (24 : Int64)) + (p1.toInt64))), .second, .unset, .unset, .unset, .unset] [])) _
    refine XS.aload X10.here hx rfl (hb hby at_31) rfl rfl ?_
    show Steps p.tables e below (T10.setTop (mkF m 33 #[.val (.int p1), .val (.int p2), .val (.long q3), .second, .val (.long q4), .second, .val (.long q5), .second, .val (.long q6), .second, .val (.ref b7), .val (.long (((0 : Int64) + (24 : Int64)) + (p1.toInt64))), .second, .val (.long ((q5 + (24 : Int64)) + (p1.toInt64))), .second, .unset, .unset, .unset, .unset] [(.ref b7)])) _
    refine XS.lload X10.here hx rfl (hb hby at_33) rfl ?_
    show Steps p.tables e below (T10.setTop (mkF m 35 #[.val (.int p1), .val (.int p2), .val (.long q3), .second, .val (.long q4), .second, .val (.long q5), .second, .val (.long q6), .second, .val (.ref b7), .val (.long (((0 : Int64) + (24 : Int64)) + (p1.toInt64))), .second, .val (.long ((q5 + (24 : Int64)) + (p1.toInt64))), .second, .unset, .unset, .unset, .unset] [(.long q6), (.ref b7)])) _
    refine st11.trans ?_
    show Steps p.tables e below (T11.setTop (mkF m 38 #[.val (.int p1), .val (.int p2), .val (.long q3), .second, .val (.long q4), .second, .val (.long q5), .second, .val (.long q6), .second, .val (.ref b7), .val (.long (((0 : Int64) + (24 : Int64)) + (p1.toInt64))), .second, .val (.long ((q5 + (24 : Int64)) + (p1.toInt64))), .second, .unset, .unset, .unset, .unset] [(.long ((q6 + (24 : Int64)) + (p1.toInt64)))])) _
    refine XS.lstore X11.here hx rfl (hb hby at_38) rfl (l' := #[.val (.int p1), .val (.int p2), .val (.long q3), .second, .val (.long q4), .second, .val (.long q5), .second, .val (.long q6), .second, .val (.ref b7), .val (.long (((0 : Int64) + (24 : Int64)) + (p1.toInt64))), .second, .val (.long ((q5 + (24 : Int64)) + (p1.toInt64))), .second, .val (.long ((q6 + (24 : Int64)) + (p1.toInt64))), .second, .unset, .unset]) rfl ?_
    show Steps p.tables e below (T11.setTop (mkF m 40 #[.val (.int p1), .val (.int p2), .val (.long q3), .second, .val (.long q4), .second, .val (.long q5), .second, .val (.long q6), .second, .val (.ref b7), .val (.long (((0 : Int64) + (24 : Int64)) + (p1.toInt64))), .second, .val (.long ((q5 + (24 : Int64)) + (p1.toInt64))), .second, .val (.long ((q6 + (24 : Int64)) + (p1.toInt64))), .second, .unset, .unset] [])) _
    refine X11.ldc2Long hx hown (mvT hZ (hw _ (List.mem_of_getElem? (i := 28) rfl))) (g := (mkF m 40 #[.val (.int p1), .val (.int p2), .val (.long q3), .second, .val (.long q4), .second, .val (.long q5), .second, .val (.long q6), .second, .val (.ref b7), .val (.long (((0 : Int64) + (24 : Int64)) + (p1.toInt64))), .second, .val (.long ((q5 + (24 : Int64)) + (p1.toInt64))), .second, .val (.long ((q6 + (24 : Int64)) + (p1.toInt64))), .second, .unset, .unset] [])) rfl (hb hby at_40) _ ?_
    show Steps p.tables e below (T11.setTop (mkF m 43 #[.val (.int p1), .val (.int p2), .val (.long q3), .second, .val (.long q4), .second, .val (.long q5), .second, .val (.long q6), .second, .val (.ref b7), .val (.long (((0 : Int64) + (24 : Int64)) + (p1.toInt64))), .second, .val (.long ((q5 + (24 : Int64)) + (p1.toInt64))), .second, .val (.long ((q6 + (24 : Int64)) + (p1.toInt64))), .second, .unset, .unset] [(.long (24 : Int64))])) _
    refine XS.iloadN X11.here hx rfl (hb hby at_43) rfl ?_
    show Steps p.tables e below (T11.setTop (mkF m 44 #[.val (.int p1), .val (.int p2), .val (.long q3), .second, .val (.long q4), .second, .val (.long q5), .second, .val (.long q6), .second, .val (.ref b7), .val (.long (((0 : Int64) + (24 : Int64)) + (p1.toInt64))), .second, .val (.long ((q5 + (24 : Int64)) + (p1.toInt64))), .second, .val (.long ((q6 + (24 : Int64)) + (p1.toInt64))), .second, .unset, .unset] [(.int p1), (.long (24 : Int64))])) _
    refine XS.i2l X11.here hx rfl (hb hby at_44) rfl ?_
    show Steps p.tables e below (T11.setTop (mkF m 45 #[.val (.int p1), .val (.int p2), .val (.long q3), .second, .val (.long q4), .second, .val (.long q5), .second, .val (.long q6), .second, .val (.ref b7), .val (.long (((0 : Int64) + (24 : Int64)) + (p1.toInt64))), .second, .val (.long ((q5 + (24 : Int64)) + (p1.toInt64))), .second, .val (.long ((q6 + (24 : Int64)) + (p1.toInt64))), .second, .unset, .unset] [(.long (p1.toInt64)), (.long (24 : Int64))])) _
    refine XS.ladd X11.here hx rfl (hb hby at_45) rfl ?_
    show Steps p.tables e below (T11.setTop (mkF m 46 #[.val (.int p1), .val (.int p2), .val (.long q3), .second, .val (.long q4), .second, .val (.long q5), .second, .val (.long q6), .second, .val (.ref b7), .val (.long (((0 : Int64) + (24 : Int64)) + (p1.toInt64))), .second, .val (.long ((q5 + (24 : Int64)) + (p1.toInt64))), .second, .val (.long ((q6 + (24 : Int64)) + (p1.toInt64))), .second, .unset, .unset] [(.long ((24 : Int64) + (p1.toInt64)))])) _
    refine XS.lstore X11.here hx rfl (hb hby at_46) rfl (l' := #[.val (.int p1), .val (.int p2), .val (.long q3), .second, .val (.long q4), .second, .val (.long q5), .second, .val (.long q6), .second, .val (.ref b7), .val (.long (((0 : Int64) + (24 : Int64)) + (p1.toInt64))), .second, .val (.long ((q5 + (24 : Int64)) + (p1.toInt64))), .second, .val (.long ((q6 + (24 : Int64)) + (p1.toInt64))), .second, .val (.long ((24 : Int64) + (p1.toInt64))), .second]) rfl ?_
    show Steps p.tables e below (T11.setTop (mkF m 48 #[.val (.int p1), .val (.int p2), .val (.long q3), .second, .val (.long q4), .second, .val (.long q5), .second, .val (.long q6), .second, .val (.ref b7), .val (.long (((0 : Int64) + (24 : Int64)) + (p1.toInt64))), .second, .val (.long ((q5 + (24 : Int64)) + (p1.toInt64))), .second, .val (.long ((q6 + (24 : Int64)) + (p1.toInt64))), .second, .val (.long ((24 : Int64) + (p1.toInt64))), .second] [])) _
    refine XS.lload X11.here hx rfl (hb hby at_48) rfl ?_
    show Steps p.tables e below (T11.setTop (mkF m 50 #[.val (.int p1), .val (.int p2), .val (.long q3), .second, .val (.long q4), .second, .val (.long q5), .second, .val (.long q6), .second, .val (.ref b7), .val (.long (((0 : Int64) + (24 : Int64)) + (p1.toInt64))), .second, .val (.long ((q5 + (24 : Int64)) + (p1.toInt64))), .second, .val (.long ((q6 + (24 : Int64)) + (p1.toInt64))), .second, .val (.long ((24 : Int64) + (p1.toInt64))), .second] [(.long (((0 : Int64) + (24 : Int64)) + (p1.toInt64)))])) _
    refine XS.lload X11.here hx rfl (hb hby at_50) rfl ?_
    show Steps p.tables e below (T11.setTop (mkF m 52 #[.val (.int p1), .val (.int p2), .val (.long q3), .second, .val (.long q4), .second, .val (.long q5), .second, .val (.long q6), .second, .val (.ref b7), .val (.long (((0 : Int64) + (24 : Int64)) + (p1.toInt64))), .second, .val (.long ((q5 + (24 : Int64)) + (p1.toInt64))), .second, .val (.long ((q6 + (24 : Int64)) + (p1.toInt64))), .second, .val (.long ((24 : Int64) + (p1.toInt64))), .second] [(.long ((24 : Int64) + (p1.toInt64))), (.long (((0 : Int64) + (24 : Int64)) + (p1.toInt64)))])) _
    refine XS.lcmp X11.here hx rfl (hb hby at_52) rfl ?_
    show Steps p.tables e below (T11.setTop (mkF m 53 #[.val (.int p1), .val (.int p2), .val (.long q3), .second, .val (.long q4), .second, .val (.long q5), .second, .val (.long q6), .second, .val (.ref b7), .val (.long (((0 : Int64) + (24 : Int64)) + (p1.toInt64))), .second, .val (.long ((q5 + (24 : Int64)) + (p1.toInt64))), .second, .val (.long ((q6 + (24 : Int64)) + (p1.toInt64))), .second, .val (.long ((24 : Int64) + (p1.toInt64))), .second] [(.int (lcmpW (((0 : Int64) + (24 : Int64)) + (p1.toInt64)) ((24 : Int64) + (p1.toInt64))))])) _
    refine XS.ifNo X11.here hx rfl (hb hby at_53) rfl ((if0 _ _).trans (teq (own_z1 p1.toInt64 : (lcmpW (((0 : Int64) + (24 : Int64)) + (p1.toInt64)) ((24 : Int64) + (p1.toInt64))) = (0 : Int32))).2) ?_
    show Steps p.tables e below (T11.setTop (mkF m 56 #[.val (.int p1), .val (.int p2), .val (.long q3), .second, .val (.long q4), .second, .val (.long q5), .second, .val (.long q6), .second, .val (.ref b7), .val (.long (((0 : Int64) + (24 : Int64)) + (p1.toInt64))), .second, .val (.long ((q5 + (24 : Int64)) + (p1.toInt64))), .second, .val (.long ((q6 + (24 : Int64)) + (p1.toInt64))), .second, .val (.long ((24 : Int64) + (p1.toInt64))), .second] [])) _
    refine XS.lload X11.here hx rfl (hb hby at_56) rfl ?_
    show Steps p.tables e below (T11.setTop (mkF m 58 #[.val (.int p1), .val (.int p2), .val (.long q3), .second, .val (.long q4), .second, .val (.long q5), .second, .val (.long q6), .second, .val (.ref b7), .val (.long (((0 : Int64) + (24 : Int64)) + (p1.toInt64))), .second, .val (.long ((q5 + (24 : Int64)) + (p1.toInt64))), .second, .val (.long ((q6 + (24 : Int64)) + (p1.toInt64))), .second, .val (.long ((24 : Int64) + (p1.toInt64))), .second] [(.long ((q5 + (24 : Int64)) + (p1.toInt64)))])) _
    refine XS.lload X11.here hx rfl (hb hby at_58) rfl ?_
    show Steps p.tables e below (T11.setTop (mkF m 60 #[.val (.int p1), .val (.int p2), .val (.long q3), .second, .val (.long q4), .second, .val (.long q5), .second, .val (.long q6), .second, .val (.ref b7), .val (.long (((0 : Int64) + (24 : Int64)) + (p1.toInt64))), .second, .val (.long ((q5 + (24 : Int64)) + (p1.toInt64))), .second, .val (.long ((q6 + (24 : Int64)) + (p1.toInt64))), .second, .val (.long ((24 : Int64) + (p1.toInt64))), .second] [(.long q5), (.long ((q5 + (24 : Int64)) + (p1.toInt64)))])) _
    refine XS.lsub X11.here hx rfl (hb hby at_60) rfl ?_
    show Steps p.tables e below (T11.setTop (mkF m 61 #[.val (.int p1), .val (.int p2), .val (.long q3), .second, .val (.long q4), .second, .val (.long q5), .second, .val (.long q6), .second, .val (.ref b7), .val (.long (((0 : Int64) + (24 : Int64)) + (p1.toInt64))), .second, .val (.long ((q5 + (24 : Int64)) + (p1.toInt64))), .second, .val (.long ((q6 + (24 : Int64)) + (p1.toInt64))), .second, .val (.long ((24 : Int64) + (p1.toInt64))), .second] [(.long (((q5 + (24 : Int64)) + (p1.toInt64)) - q5))])) _
    refine XS.lload X11.here hx rfl (hb hby at_61) rfl ?_
    show Steps p.tables e below (T11.setTop (mkF m 63 #[.val (.int p1), .val (.int p2), .val (.long q3), .second, .val (.long q4), .second, .val (.long q5), .second, .val (.long q6), .second, .val (.ref b7), .val (.long (((0 : Int64) + (24 : Int64)) + (p1.toInt64))), .second, .val (.long ((q5 + (24 : Int64)) + (p1.toInt64))), .second, .val (.long ((q6 + (24 : Int64)) + (p1.toInt64))), .second, .val (.long ((24 : Int64) + (p1.toInt64))), .second] [(.long ((24 : Int64) + (p1.toInt64))), (.long (((q5 + (24 : Int64)) + (p1.toInt64)) - q5))])) _
    refine XS.lcmp X11.here hx rfl (hb hby at_63) rfl ?_
    show Steps p.tables e below (T11.setTop (mkF m 64 #[.val (.int p1), .val (.int p2), .val (.long q3), .second, .val (.long q4), .second, .val (.long q5), .second, .val (.long q6), .second, .val (.ref b7), .val (.long (((0 : Int64) + (24 : Int64)) + (p1.toInt64))), .second, .val (.long ((q5 + (24 : Int64)) + (p1.toInt64))), .second, .val (.long ((q6 + (24 : Int64)) + (p1.toInt64))), .second, .val (.long ((24 : Int64) + (p1.toInt64))), .second] [(.int (lcmpW (((q5 + (24 : Int64)) + (p1.toInt64)) - q5) ((24 : Int64) + (p1.toInt64))))])) _
    refine XS.ifNo X11.here hx rfl (hb hby at_64) rfl ((if0 _ _).trans (teq (own_z2 q5 p1.toInt64 : (lcmpW (((q5 + (24 : Int64)) + (p1.toInt64)) - q5) ((24 : Int64) + (p1.toInt64))) = (0 : Int32))).2) ?_
    show Steps p.tables e below (T11.setTop (mkF m 67 #[.val (.int p1), .val (.int p2), .val (.long q3), .second, .val (.long q4), .second, .val (.long q5), .second, .val (.long q6), .second, .val (.ref b7), .val (.long (((0 : Int64) + (24 : Int64)) + (p1.toInt64))), .second, .val (.long ((q5 + (24 : Int64)) + (p1.toInt64))), .second, .val (.long ((q6 + (24 : Int64)) + (p1.toInt64))), .second, .val (.long ((24 : Int64) + (p1.toInt64))), .second] [])) _
    refine XS.lload X11.here hx rfl (hb hby at_67) rfl ?_
    show Steps p.tables e below (T11.setTop (mkF m 69 #[.val (.int p1), .val (.int p2), .val (.long q3), .second, .val (.long q4), .second, .val (.long q5), .second, .val (.long q6), .second, .val (.ref b7), .val (.long (((0 : Int64) + (24 : Int64)) + (p1.toInt64))), .second, .val (.long ((q5 + (24 : Int64)) + (p1.toInt64))), .second, .val (.long ((q6 + (24 : Int64)) + (p1.toInt64))), .second, .val (.long ((24 : Int64) + (p1.toInt64))), .second] [(.long ((q6 + (24 : Int64)) + (p1.toInt64)))])) _
    refine XS.lload X11.here hx rfl (hb hby at_69) rfl ?_
    show Steps p.tables e below (T11.setTop (mkF m 71 #[.val (.int p1), .val (.int p2), .val (.long q3), .second, .val (.long q4), .second, .val (.long q5), .second, .val (.long q6), .second, .val (.ref b7), .val (.long (((0 : Int64) + (24 : Int64)) + (p1.toInt64))), .second, .val (.long ((q5 + (24 : Int64)) + (p1.toInt64))), .second, .val (.long ((q6 + (24 : Int64)) + (p1.toInt64))), .second, .val (.long ((24 : Int64) + (p1.toInt64))), .second] [(.long q6), (.long ((q6 + (24 : Int64)) + (p1.toInt64)))])) _
    refine XS.lsub X11.here hx rfl (hb hby at_71) rfl ?_
    show Steps p.tables e below (T11.setTop (mkF m 72 #[.val (.int p1), .val (.int p2), .val (.long q3), .second, .val (.long q4), .second, .val (.long q5), .second, .val (.long q6), .second, .val (.ref b7), .val (.long (((0 : Int64) + (24 : Int64)) + (p1.toInt64))), .second, .val (.long ((q5 + (24 : Int64)) + (p1.toInt64))), .second, .val (.long ((q6 + (24 : Int64)) + (p1.toInt64))), .second, .val (.long ((24 : Int64) + (p1.toInt64))), .second] [(.long (((q6 + (24 : Int64)) + (p1.toInt64)) - q6))])) _
    refine XS.lload X11.here hx rfl (hb hby at_72) rfl ?_
    show Steps p.tables e below (T11.setTop (mkF m 74 #[.val (.int p1), .val (.int p2), .val (.long q3), .second, .val (.long q4), .second, .val (.long q5), .second, .val (.long q6), .second, .val (.ref b7), .val (.long (((0 : Int64) + (24 : Int64)) + (p1.toInt64))), .second, .val (.long ((q5 + (24 : Int64)) + (p1.toInt64))), .second, .val (.long ((q6 + (24 : Int64)) + (p1.toInt64))), .second, .val (.long ((24 : Int64) + (p1.toInt64))), .second] [(.long ((24 : Int64) + (p1.toInt64))), (.long (((q6 + (24 : Int64)) + (p1.toInt64)) - q6))])) _
    refine XS.lcmp X11.here hx rfl (hb hby at_74) rfl ?_
    show Steps p.tables e below (T11.setTop (mkF m 75 #[.val (.int p1), .val (.int p2), .val (.long q3), .second, .val (.long q4), .second, .val (.long q5), .second, .val (.long q6), .second, .val (.ref b7), .val (.long (((0 : Int64) + (24 : Int64)) + (p1.toInt64))), .second, .val (.long ((q5 + (24 : Int64)) + (p1.toInt64))), .second, .val (.long ((q6 + (24 : Int64)) + (p1.toInt64))), .second, .val (.long ((24 : Int64) + (p1.toInt64))), .second] [(.int (lcmpW (((q6 + (24 : Int64)) + (p1.toInt64)) - q6) ((24 : Int64) + (p1.toInt64))))])) _
    refine XS.ifNo X11.here hx rfl (hb hby at_75) rfl ((if0 _ _).trans (teq (own_z3 q6 p1.toInt64 : (lcmpW (((q6 + (24 : Int64)) + (p1.toInt64)) - q6) ((24 : Int64) + (p1.toInt64))) = (0 : Int32))).2) ?_
    show Steps p.tables e below (T11.setTop (mkF m 78 #[.val (.int p1), .val (.int p2), .val (.long q3), .second, .val (.long q4), .second, .val (.long q5), .second, .val (.long q6), .second, .val (.ref b7), .val (.long (((0 : Int64) + (24 : Int64)) + (p1.toInt64))), .second, .val (.long ((q5 + (24 : Int64)) + (p1.toInt64))), .second, .val (.long ((q6 + (24 : Int64)) + (p1.toInt64))), .second, .val (.long ((24 : Int64) + (p1.toInt64))), .second] [])) _
    refine XS.lload X11.here hx rfl (hb hby at_78) rfl ?_
    show Steps p.tables e below (T11.setTop (mkF m 80 #[.val (.int p1), .val (.int p2), .val (.long q3), .second, .val (.long q4), .second, .val (.long q5), .second, .val (.long q6), .second, .val (.ref b7), .val (.long (((0 : Int64) + (24 : Int64)) + (p1.toInt64))), .second, .val (.long ((q5 + (24 : Int64)) + (p1.toInt64))), .second, .val (.long ((q6 + (24 : Int64)) + (p1.toInt64))), .second, .val (.long ((24 : Int64) + (p1.toInt64))), .second] [(.long ((q5 + (24 : Int64)) + (p1.toInt64)))])) _
    refine XS.lload X11.here hx rfl (hb hby at_80) rfl ?_
    show Steps p.tables e below (T11.setTop (mkF m 82 #[.val (.int p1), .val (.int p2), .val (.long q3), .second, .val (.long q4), .second, .val (.long q5), .second, .val (.long q6), .second, .val (.ref b7), .val (.long (((0 : Int64) + (24 : Int64)) + (p1.toInt64))), .second, .val (.long ((q5 + (24 : Int64)) + (p1.toInt64))), .second, .val (.long ((q6 + (24 : Int64)) + (p1.toInt64))), .second, .val (.long ((24 : Int64) + (p1.toInt64))), .second] [(.long ((q6 + (24 : Int64)) + (p1.toInt64))), (.long ((q5 + (24 : Int64)) + (p1.toInt64)))])) _
    refine XS.lsub X11.here hx rfl (hb hby at_82) rfl ?_
    show Steps p.tables e below (T11.setTop (mkF m 83 #[.val (.int p1), .val (.int p2), .val (.long q3), .second, .val (.long q4), .second, .val (.long q5), .second, .val (.long q6), .second, .val (.ref b7), .val (.long (((0 : Int64) + (24 : Int64)) + (p1.toInt64))), .second, .val (.long ((q5 + (24 : Int64)) + (p1.toInt64))), .second, .val (.long ((q6 + (24 : Int64)) + (p1.toInt64))), .second, .val (.long ((24 : Int64) + (p1.toInt64))), .second] [(.long (((q5 + (24 : Int64)) + (p1.toInt64)) - ((q6 + (24 : Int64)) + (p1.toInt64))))])) _
    refine XS.lload X11.here hx rfl (hb hby at_83) rfl ?_
    show Steps p.tables e below (T11.setTop (mkF m 85 #[.val (.int p1), .val (.int p2), .val (.long q3), .second, .val (.long q4), .second, .val (.long q5), .second, .val (.long q6), .second, .val (.ref b7), .val (.long (((0 : Int64) + (24 : Int64)) + (p1.toInt64))), .second, .val (.long ((q5 + (24 : Int64)) + (p1.toInt64))), .second, .val (.long ((q6 + (24 : Int64)) + (p1.toInt64))), .second, .val (.long ((24 : Int64) + (p1.toInt64))), .second] [(.long q5), (.long (((q5 + (24 : Int64)) + (p1.toInt64)) - ((q6 + (24 : Int64)) + (p1.toInt64))))])) _
    refine XS.lload X11.here hx rfl (hb hby at_85) rfl ?_
    show Steps p.tables e below (T11.setTop (mkF m 87 #[.val (.int p1), .val (.int p2), .val (.long q3), .second, .val (.long q4), .second, .val (.long q5), .second, .val (.long q6), .second, .val (.ref b7), .val (.long (((0 : Int64) + (24 : Int64)) + (p1.toInt64))), .second, .val (.long ((q5 + (24 : Int64)) + (p1.toInt64))), .second, .val (.long ((q6 + (24 : Int64)) + (p1.toInt64))), .second, .val (.long ((24 : Int64) + (p1.toInt64))), .second] [(.long q6), (.long q5), (.long (((q5 + (24 : Int64)) + (p1.toInt64)) - ((q6 + (24 : Int64)) + (p1.toInt64))))])) _
    refine XS.lsub X11.here hx rfl (hb hby at_87) rfl ?_
    show Steps p.tables e below (T11.setTop (mkF m 88 #[.val (.int p1), .val (.int p2), .val (.long q3), .second, .val (.long q4), .second, .val (.long q5), .second, .val (.long q6), .second, .val (.ref b7), .val (.long (((0 : Int64) + (24 : Int64)) + (p1.toInt64))), .second, .val (.long ((q5 + (24 : Int64)) + (p1.toInt64))), .second, .val (.long ((q6 + (24 : Int64)) + (p1.toInt64))), .second, .val (.long ((24 : Int64) + (p1.toInt64))), .second] [(.long (q5 - q6)), (.long (((q5 + (24 : Int64)) + (p1.toInt64)) - ((q6 + (24 : Int64)) + (p1.toInt64))))])) _
    refine XS.lcmp X11.here hx rfl (hb hby at_88) rfl ?_
    show Steps p.tables e below (T11.setTop (mkF m 89 #[.val (.int p1), .val (.int p2), .val (.long q3), .second, .val (.long q4), .second, .val (.long q5), .second, .val (.long q6), .second, .val (.ref b7), .val (.long (((0 : Int64) + (24 : Int64)) + (p1.toInt64))), .second, .val (.long ((q5 + (24 : Int64)) + (p1.toInt64))), .second, .val (.long ((q6 + (24 : Int64)) + (p1.toInt64))), .second, .val (.long ((24 : Int64) + (p1.toInt64))), .second] [(.int (lcmpW (((q5 + (24 : Int64)) + (p1.toInt64)) - ((q6 + (24 : Int64)) + (p1.toInt64))) (q5 - q6)))])) _
    refine XS.ifNo X11.here hx rfl (hb hby at_89) rfl ((if0 _ _).trans (teq (own_z4 q5 q6 p1.toInt64 : (lcmpW (((q5 + (24 : Int64)) + (p1.toInt64)) - ((q6 + (24 : Int64)) + (p1.toInt64))) (q5 - q6)) = (0 : Int32))).2) ?_
    show Steps p.tables e below (T11.setTop (mkF m 92 #[.val (.int p1), .val (.int p2), .val (.long q3), .second, .val (.long q4), .second, .val (.long q5), .second, .val (.long q6), .second, .val (.ref b7), .val (.long (((0 : Int64) + (24 : Int64)) + (p1.toInt64))), .second, .val (.long ((q5 + (24 : Int64)) + (p1.toInt64))), .second, .val (.long ((q6 + (24 : Int64)) + (p1.toInt64))), .second, .val (.long ((24 : Int64) + (p1.toInt64))), .second] [])) _
    refine XS.iconst X11.here hx rfl (hb hby at_92) ?_
    show Steps p.tables e below (T11.setTop (mkF m 93 #[.val (.int p1), .val (.int p2), .val (.long q3), .second, .val (.long q4), .second, .val (.long q5), .second, .val (.long q6), .second, .val (.ref b7), .val (.long (((0 : Int64) + (24 : Int64)) + (p1.toInt64))), .second, .val (.long ((q5 + (24 : Int64)) + (p1.toInt64))), .second, .val (.long ((q6 + (24 : Int64)) + (p1.toInt64))), .second, .val (.long ((24 : Int64) + (p1.toInt64))), .second] [(.int (1 : Int32))])) _
    refine XS.goto X11.here hx rfl (pc0 := 93) (pc' := 97) rfl (hb hby at_93) (by decide) (by decide) ?_
    show Steps p.tables e below (T11.setTop (mkF m 97 #[.val (.int p1), .val (.int p2), .val (.long q3), .second, .val (.long q4), .second, .val (.long q5), .second, .val (.long q6), .second, .val (.ref b7), .val (.long (((0 : Int64) + (24 : Int64)) + (p1.toInt64))), .second, .val (.long ((q5 + (24 : Int64)) + (p1.toInt64))), .second, .val (.long ((q6 + (24 : Int64)) + (p1.toInt64))), .second, .val (.long ((24 : Int64) + (p1.toInt64))), .second] [(.int (1 : Int32))])) _
    exact retN X11 hx (t := .boolean) Bd.returns (by simp) (hb hby at_97) hr
  · show Q0 Z p1 p2 q3 q4 q5 q6 h0 n0 _ T11.heap _
    exact ⟨rfl, N11⟩
set_option maxRecDepth 65536 in
set_option maxHeartbeats 40000000 in
theorem comes_1 {Post : Tables → Env → Array Value → State → Outcome → State → Prop} (hpost : ∀ tb e args s v u, (limb_1_1.after args s (.returned v) u = true ∧ limb_1_2.after args s (.returned v) u = true ∧ True) → FrameEnd s (.returned v) u (Jvm.fieldLocs frame_1_writes args s ++ Jvm.arrayLocs frame_1_arrays args s ++ Jvm.staticLocs frame_1_statics s) 16 128 → Post tb e args s (.returned v) u) :
    ArmFor flags0 classFile x code maxLocals ret World_1 tables_1 room_1 Calls_1 rest_1 Pre_1 Post := by
  intro l hfl _ _ p e ha hc hk s m args below hf hA hF happ hP
  obtain ⟨hcalls, hrest, hpre⟩ := hP
  obtain ⟨-, -, -, hnamed, -, -, -, hat⟩ := (Spec.applies_iff hf).mp happ
  obtain ⟨hg, hn⟩ := and_e (Cond.before_iff.mp (show (Jvm.Cond.and given_1 narrow_1).before args s = true from hpre))
  obtain ⟨g12, g13⟩ := and_e hg
  obtain ⟨g14, g15⟩ := and_e g13
  obtain ⟨g16, g17⟩ := and_e g15
  obtain ⟨g18, g19⟩ := and_e g17
  obtain ⟨g20, g21⟩ := and_e g19
  obtain ⟨g22, g23⟩ := and_e g21
  obtain ⟨w0, w1, w2, w3, w4, w5, rfl⟩ : ∃ w0 w1 w2 w3 w4 w5 : Value, args = #[w0, w1, w2, w3, w4, w5] := by
    have hs : args.size = 6 := by simpa [Cond.value, given_1] using g12
    obtain ⟨L⟩ := args
    match L, hs with
    | [w0, w1, w2, w3, w4, w5], _ => exact ⟨w0, w1, w2, w3, w4, w5, rfl⟩
  have hw := fun d (hd : d ∈ tables_1) => atoms_spec (ws := Jvm.Cond.code x code maxLocals ret :: tables_1) hat d (List.mem_cons_of_mem _ hd)
  have hfit : Fit s := fun {y c} hc i hi => by
    obtain ⟨ha, rfl⟩ := Array.getElem?_eq_some_iff.mp hc
    have q := List.all_eq_true.mp ((Array.all_eq_true_iff_forall_mem.mp hF) _ (Array.getElem_mem ha)) i (List.mem_range.mpr hi)
    simpa [Array.getElem?_eq_getElem hi] using q
  obtain ⟨i0, ei0⟩ := is_v g14
  obtain rfl : w0 = (.int i0) := Option.some.inj ei0
  obtain ⟨i1, ei1⟩ := is_v g16
  obtain rfl : w1 = (.int i1) := Option.some.inj ei1
  obtain ⟨i2, ei2⟩ := isL_v g18
  obtain rfl : w2 = (.long i2) := Option.some.inj ei2
  obtain ⟨i3, ei3⟩ := isL_v g20
  obtain rfl : w3 = (.long i3) := Option.some.inj ei3
  obtain ⟨i4, ei4⟩ := isL_v g22
  obtain rfl : w4 = (.long i4) := Option.some.inj ei4
  obtain ⟨i5, ei5⟩ := isL_v g23
  obtain rfl : w5 = (.long i5) := Option.some.inj ei5
  obtain ⟨n, o, h1, h2, h3, _, L, rfl, ⟨rfl, N⟩, hq⟩ := rm0 l s _ hw tables_1 i0 i1 i2 i3 i4 i5 s.heap s.heap.size (Nat.le_refl _) p e ha hc hk s m _ below hf ((Spec.applies_iff_loose hf).mp happ).1 ⟨rfl, State.Warmed39.refl s, rfl⟩ trivial
  refine ⟨n, _, h1, h2, h3, hpost _ _ _ _ _ _ ⟨Cond.after_iff.mpr rfl, Cond.after_iff.mpr (eq_i res_at (Term.int_eval (1)) rfl), trivial⟩ ⟨hq.1, hq.2.1, (hq.2.2.sift fun y hy => Or.inr (N y hy)).mono (by decide) (by decide)⟩⟩
theorem main_1_1 : Claimed_1_1 := comes_1 fun _ _ _ _ _ _ h hF => ⟨h.1, hF⟩
theorem main_1_2 : Claimed_1_2 := comes_1 fun _ _ _ _ _ _ h hF => ⟨h.2.1, hF⟩
end Jvm.Pilot.@@N@@
namespace Jvm.Pilot.@@N@@
open Jvm Jvm.ClassFile Sem Op Lib Jvm.Free Jvm.Stand Jvm.Pilot.@@N@@.Jvm.D
/-! MADE BY PROGRAM (witnessworld.py) out of the Statement's table words and the real class files: 10 classes; the members and pool entries that the words name. The judged class is class 1, her method 1. -/
namespace start1
open Jvm.ClassFile
def u (s : String) : CpInfo := .utf8 (stringToUtf16 s)
/-- a pool by its gaps: so many unusable entries, then the entry; so many at the end -/
def gap : Nat → List CpInfo → List CpInfo
  | 0, r => r
  | n + 1, r => .unusable :: gap n r
def poolList (es : List (Nat × CpInfo)) (last : Nat) : List CpInfo := es.foldr (fun e r => gap e.1 (e.2 :: r)) (gap last [])
def pool (es : List (Nat × CpInfo)) (last : Nat) : Array CpInfo := ⟨poolList es last⟩
def fileOf (pool : Array CpInfo) (this : Nat) (attrs : Array Attribute := #[]) (ms : Array MethodInfo := #[]) (fl : Nat := 33) (sup : Nat := 0) (ifs : Array Nat := #[]) (fds : Array FieldInfo := #[]) : ClassFile where
  minorVersion := 0
  majorVersion := 65
  constantPool := pool
  accessFlags := fl
  thisClass := this
  superClass := sup
  interfaces := ifs
  fields := fds
  methods := ms
  attributes := attrs
def plain (name : String) (sup : Option ClassId) : Class where
  name := name
  kind := .ordinary
  loader := none
  accessFlags := 33
  super := sup
  interfaces := #[]
  cf := none
  fields := #[]
  methods := #[]
  instanceTypes := #[]
  staticTypes := #[]
  resolved := #[]
  callSites := []
  init := .initialized
  statics := none
  mirror := none

def pool0 : Array CpInfo := pool [(5, u "<init>"), (0, u "()V"), (1, .class_ 10), (1, u "java/lang/Object")] 113

def k0c0 : Code := { maxStack := 0, maxLocals := 1, code := object_method_1_code, exceptionTable := #[], attributes := #[] }
def k0m0 : Method := { name := "<init>", desc := "()V", sig := { parameters := [], returnType := none }, accessFlags := 1, code := some k0c0 }
/-- java/lang/Object -/
def k0 : Class := { plain "java/lang/Object" none with
  accessFlags := 33
  interfaces := #[]
  cf := some (fileOf pool0 8 #[] #[{ accessFlags := 1, nameIndex := 5, descriptorIndex := 6, attributes := #[] }] 33 0 #[] #[])
  fields := #[]
  methods := #[k0m0]
  instanceTypes := #[]
  staticTypes := #[]
  resolved := Array.replicate 124 none
  statics := none }

def pool1 : Array CpInfo := pool [(2, .class_ 4), (1, u "java/lang/Object"), (0, u "<init>"), (0, u "()V"), (0, .class_ 8), (0, u "com/example/halyard/halyard/node/RecordHeader"), (0, .methodref 7 10), (0, .nameAndType 5 11), (0, u "(IIJJ)V"), (0, .methodref 7 13), (0, .nameAndType 14 15), (0, u "recordEnd"), (0, u "(J)J"), (0, .long 24), (1, .class_ 19), (0, u "com/example/halyard/halyard/node/RecordHeaderRecordEndPinLaw"), (2, u "law"), (0, u "(IIJJJJ)Z")] 3

def k1m0 : Method := { name := "<init>", desc := "()V", sig := { parameters := [], returnType := none }, accessFlags := 1, code := none }
def k1c1 : Code := { maxStack := 8, maxLocals := 19, code := code, exceptionTable := #[], attributes := #[] }
def k1m1 : Method := { name := "law", desc := "(IIJJJJ)Z", sig := { parameters := [.int, .int, .long, .long, .long, .long], returnType := some .boolean }, accessFlags := 9, code := some k1c1 }
/-- com/example/halyard/halyard/node/RecordHeaderRecordEndPinLaw -/
def k1 : Class := { plain "com/example/halyard/halyard/node/RecordHeaderRecordEndPinLaw" (some 0) with
  accessFlags := 49
  interfaces := #[]
  cf := some (fileOf pool1 18 #[] #[{ accessFlags := 1, nameIndex := 5, descriptorIndex := 6, attributes := #[] }, { accessFlags := 9, nameIndex := 22, descriptorIndex := 23, attributes := #[] }] 49 2 #[] #[])
  fields := #[]
  methods := #[k1m0, k1m1]
  instanceTypes := #[]
  staticTypes := #[]
  resolved := Array.replicate 27 none
  statics := none }

def pool2 : Array CpInfo := pool [(1, .methodref 2 3), (0, .class_ 4), (0, .nameAndType 5 6), (0, u "java/lang/Object"), (0, u "<init>"), (0, u "()V"), (0, .class_ 8), (0, u "java/lang/Record")] 13

def k2c0 : Code := { maxStack := 1, maxLocals := 1, code := jdk_30_method_1_code, exceptionTable := #[], attributes := #[] }
def k2m0 : Method := { name := "<init>", desc := "()V", sig := { parameters := [], returnType := none }, accessFlags := 4, code := some k2c0 }
/-- java/lang/Record -/
def k2 : Class := { plain "java/lang/Record" (some 0) with
  accessFlags := 1057
  interfaces := #[]
  cf := some (fileOf pool2 7 #[] #[{ accessFlags := 4, nameIndex := 5, descriptorIndex := 6, attributes := #[] }] 1057 2 #[] #[])
  fields := #[]
  methods := #[k2m0]
  instanceTypes := #[]
  staticTypes := #[]
  resolved := Array.replicate 22 none
  statics := none }

def pool3 : Array CpInfo := pool [(1, .methodref 2 3), (0, .class_ 4), (0, .nameAndType 5 6), (0, u "java/lang/Record"), (0, u "<init>"), (0, u "()V"), (0, .fieldref 8 9), (0, .class_ 10), (0, .nameAndType 11 12), (0, u "com/example/halyard/halyard/node/RecordHeader"), (0, u "length"), (0, u "I"), (0, .fieldref 8 14), (0, .nameAndType 15 12), (0, u "checksum"), (0, .fieldref 8 17), (0, .nameAndType 18 19), (0, u "epoch"), (0, u "J"), (0, .fieldref 8 21), (0, .nameAndType 22 19), (0, u "counter"), (26, u "(IIJJ)V"), (19, .long 24), (37, u "SIZE"), (13, u "recordEnd"), (0, u "(J)J")] 27

def k3c0 : Code := { maxStack := 3, maxLocals := 7, code := prog_53_method_1_code, exceptionTable := #[], attributes := #[] }
def k3m0 : Method := { name := "<init>", desc := "(IIJJ)V", sig := { parameters := [.int, .int, .long, .long], returnType := none }, accessFlags := 0, code := some k3c0 }
def k3c1 : Code := { maxStack := 4, maxLocals := 3, code := prog_53_method_6_code, exceptionTable := #[], attributes := #[] }
def k3m1 : Method := { name := "recordEnd", desc := "(J)J", sig := { parameters := [.long], returnType := some .long }, accessFlags := 0, code := some k3c1 }
/-- com/example/halyard/halyard/node/RecordHeader -/
def k3 : Class := { plain "com/example/halyard/halyard/node/RecordHeader" (some 2) with
  accessFlags := 48
  interfaces := #[]
  cf := some (fileOf pool3 8 #[] #[{ accessFlags := 0, nameIndex := 5, descriptorIndex := 49, attributes := #[] }, { accessFlags := 0, nameIndex := 121, descriptorIndex := 122, attributes := #[] }] 48 2 #[] #[{ accessFlags := 18, nameIndex := 11, descriptorIndex := 12, attributes := #[] }, { accessFlags := 18, nameIndex := 15, descriptorIndex := 12, attributes := #[] }, { accessFlags := 18, nameIndex := 18, descriptorIndex := 19, attributes := #[] }, { accessFlags := 18, nameIndex := 22, descriptorIndex := 19, attributes := #[] }, { accessFlags := 24, nameIndex := 107, descriptorIndex := 12, attributes := #[] }])
  fields := #[{ name := "length", type := .int, accessFlags := 18, slot := 0, constantValue := 0 }, { name := "checksum", type := .int, accessFlags := 18, slot := 1, constantValue := 0 }, { name := "epoch", type := .long, accessFlags := 18, slot := 2, constantValue := 0 }, { name := "counter", type := .long, accessFlags := 18, slot := 3, constantValue := 0 }, { name := "SIZE", type := .int, accessFlags := 24, slot := 0, constantValue := 0 }]
  methods := #[k3m0, k3m1]
  instanceTypes := #[.int, .int, .long, .long]
  staticTypes := #[.int]
  resolved := Array.replicate 150 none
  statics := none }

def pool4 : Array CpInfo := pool [(1, u "java/lang/Cloneable"), (0, .class_ 1), (0, u "java/lang/Object"), (0, .class_ 3)] 3

/-- java/lang/Cloneable -/
def k4 : Class := { plain "java/lang/Cloneable" (some 0) with
  accessFlags := 1537
  interfaces := #[]
  cf := some (fileOf pool4 2 #[] #[] 1537 4 #[] #[])
  fields := #[]
  methods := #[]
  instanceTypes := #[]
  staticTypes := #[]
  resolved := Array.replicate 8 none
  statics := none }

def pool5 : Array CpInfo := pool [(1, u "java/io/Serializable"), (0, .class_ 1), (0, u "java/lang/Object"), (0, .class_ 3)] 3

/-- java/io/Serializable -/
def k5 : Class := { plain "java/io/Serializable" (some 0) with
  accessFlags := 1537
  interfaces := #[]
  cf := some (fileOf pool5 2 #[] #[] 1537 4 #[] #[])
  fields := #[]
  methods := #[]
  instanceTypes := #[]
  staticTypes := #[]
  resolved := Array.replicate 8 none
  statics := none }

/-- the primitive byte -/
def k6 : Class := { plain "byte" none with kind := .primitive 'B', accessFlags := 0x411 }
/-- [B -/
def k7 : Class := { plain "[B" (some 0) with kind := .array 6 .byte, interfaces := #[4, 5], accessFlags := 1041 }

/-- the primitive int -/
def k8 : Class := { plain "int" none with kind := .primitive 'I', accessFlags := 0x411 }
/-- [I -/
def k9 : Class := { plain "[I" (some 0) with kind := .array 8 .int, interfaces := #[4, 5], accessFlags := 1041 }

def heap : Heap := #[]
def classes : Array Class := #[k0, k1, k2, k3, k4, k5, k6, k7, k8, k9]
def interned : List (Array UInt16 × Addr) := []
def slotsUsed : Nat := 0
def theMethod : MethodId := ⟨1, 1⟩
def args0 : Array Value := #[.int 5, .int 6, .long 1, .long 2, .long 3, .long 4]
def aboutOver (below : List Frame) : State where
  vm := { classes := classes, interned := interned.toArray }
  heap := heap
  slotsUsed := slotsUsed
  threads := #[{ frames := .invoking theMethod args0 :: below }]
def below0 : List Frame := [.native { method := ⟨0, 0⟩, args := #[] }]
def about1 : State := aboutOver below0
def p0 : Program := .bare "" "" ""
def e0 : Env := launch0.env 0 0 0
theorem w_frames : about1.frames = Frame.invoking theMethod args0 :: below0 := rfl
set_option maxRecDepth 65536 in
theorem w_args : argsFit about1.vm theMethod args0 = true := by decide +kernel
set_option maxRecDepth 65536 in
theorem w_heap : heapFits about1 = true := by decide +kernel
set_option maxRecDepth 65536 in
theorem w_runnable : about1.curStatus? = some .runnable := by decide +kernel
set_option maxRecDepth 65536 in
theorem w_alone : about1.alone = true := by decide +kernel
set_option maxRecDepth 65536 in
theorem w_named : about1.methodNamed? x = some theMethod := by decide +kernel
set_option maxRecDepth 65536 in
theorem w_hears : about1.hears theMethod below0 = true := by decide +kernel
set_option maxRecDepth 65536 in
theorem w_ripe : about1.ripe theMethod args0 below0 = true := by decide +kernel
theorem w_running : about1.status = .running := rfl
set_option maxRecDepth 65536 in
theorem w_room : about1.hasRoom e0.platform room_1 = true :=
  launch0.hasRoom_least _ room_1 (by decide +kernel) (by decide +kernel) (by decide +kernel) (by decide +kernel) (by decide +kernel) (by decide +kernel)
theorem allAtoms_all (ts : List Jvm.Cond) (a : Array Jvm.Value) (st : Jvm.State) : (allAtoms ts).before a st = ts.all (fun c => c.before a st) := by
  induction ts with
  | nil => rfl
  | cons c t ih =>
    show (Jvm.Cond.and c (allAtoms t)).before a st = _
    rw [Jvm.Cond.before_and, ih, List.all_cons]
def words1 : List Jvm.Cond := Jvm.Cond.code x code maxLocals ret :: tables_1
/-- a 'code' word, met by the world's own term for the bytes: nothing is compared byte by byte -/
theorem code_word {y : MethodName} {bytes : ByteArray} {mx : Nat} {rt : Option FieldType} {a : Array Value} {s : State} {m : MethodId} {meth : Method} {c : Code} (h1 : s.methodNamed? y = some m) (h2 : s.vm.method? m = some meth) (h3 : meth.code = some c) (h4 : c.code = bytes)
    (h5 : (c.maxLocals == mx && c.exceptionTable.isEmpty && decide (c.maxStack ≤ mostOperands) && decide (meth.sig.returnType = rt) && !meth.locks && decide (parseMethodDescriptor y.desc = some meth.sig)) = true) : (Jvm.Cond.code y bytes mx rt).before a s = true := by
  simp only [Bool.and_eq_true, beq_iff_eq, Bool.not_eq_true', decide_eq_true_eq] at h5
  obtain ⟨⟨⟨⟨⟨g1, g2⟩, g3⟩, g4⟩, g5⟩, g6⟩ := h5
  simp [Cond.before, Cond.holds, Cond.value, h1, h2, h3, h4, g1, g2, g3, g4, g5, g6]
def isCode : Jvm.Cond → Bool
  | .code _ _ _ _ => true
  | _ => false
theorem all_split {L : List Jvm.Cond} {P : Jvm.Cond → Bool} (h1 : L.all (fun c => isCode c || P c) = true) (h2 : ∀ c ∈ L.filter isCode, P c = true) : L.all P = true := by
  refine List.all_eq_true.mpr fun c hc => ?_
  have h := List.all_eq_true.mp h1 c hc
  rcases Bool.eq_false_or_eq_true (isCode c) with hi | hi
  · exact h2 c (List.mem_filter.mpr ⟨hc, hi⟩)
  · simpa [hi] using h
set_option maxRecDepth 65536 in
theorem w_c0 : (Jvm.Cond.code x code maxLocals ret).before args0 about1 = true := code_word (m := ⟨1, 1⟩) (meth := k1m1) (c := k1c1) (by decide +kernel) rfl rfl rfl (by decide +kernel)
set_option maxRecDepth 65536 in
theorem w_c1 : (Jvm.Cond.code ({ cls := "com/example/halyard/halyard/node/RecordHeader", name := "<init>", desc := "(IIJJ)V" } : Jvm.MethodName) prog_53_method_1_code (7 : Nat) (Option.none : Option Jvm.ClassFile.FieldType)).before args0 about1 = true := code_word (m := ⟨3, 0⟩) (meth := k3m0) (c := k3c0) (by decide +kernel) rfl rfl rfl (by decide +kernel)
set_option maxRecDepth 65536 in
theorem w_c2 : (Jvm.Cond.code ({ cls := "java/lang/Record", name := "<init>", desc := "()V" } : Jvm.MethodName) jdk_30_method_1_code (1 : Nat) (Option.none : Option Jvm.ClassFile.FieldType)).before args0 about1 = true := code_word (m := ⟨2, 0⟩) (meth := k2m0) (c := k2c0) (by decide +kernel) rfl rfl rfl (by decide +kernel)
set_option maxRecDepth 65536 in
theorem w_c3 : (Jvm.Cond.code ({ cls := "java/lang/Object", name := "<init>", desc := "()V" } : Jvm.MethodName) object_method_1_code (1 : Nat) (Option.none : Option Jvm.ClassFile.FieldType)).before args0 about1 = true := code_word (m := ⟨0, 0⟩) (meth := k0m0) (c := k0c0) (by decide +kernel) rfl rfl rfl (by decide +kernel)
set_option maxRecDepth 65536 in
theorem w_c4 : (Jvm.Cond.code ({ cls := "com/example/halyard/halyard/node/RecordHeader", name := "recordEnd", desc := "(J)J" } : Jvm.MethodName) prog_53_method_6_code (3 : Nat) (Option.some Jvm.ClassFile.FieldType.long)).before args0 about1 = true := code_word (m := ⟨3, 1⟩) (meth := k3m1) (c := k3c1) (by decide +kernel) rfl rfl rfl (by decide +kernel)
def codes1 : List Jvm.Cond := [Jvm.Cond.code x code maxLocals ret, Jvm.Cond.code ({ cls := "com/example/halyard/halyard/node/RecordHeader", name := "<init>", desc := "(IIJJ)V" } : Jvm.MethodName) prog_53_method_1_code (7 : Nat) (Option.none : Option Jvm.ClassFile.FieldType), Jvm.Cond.code ({ cls := "java/lang/Record", name := "<init>", desc := "()V" } : Jvm.MethodName) jdk_30_method_1_code (1 : Nat) (Option.none : Option Jvm.ClassFile.FieldType), Jvm.Cond.code ({ cls := "java/lang/Object", name := "<init>", desc := "()V" } : Jvm.MethodName) object_method_1_code (1 : Nat) (Option.none : Option Jvm.ClassFile.FieldType), Jvm.Cond.code ({ cls := "com/example/halyard/halyard/node/RecordHeader", name := "recordEnd", desc := "(J)J" } : Jvm.MethodName) prog_53_method_6_code (3 : Nat) (Option.some Jvm.ClassFile.FieldType.long)]
set_option maxRecDepth 65536 in
theorem codes_eq : words1.filter isCode = codes1 := rfl
theorem w_codes : ∀ c ∈ words1.filter isCode, c.before args0 about1 = true := by
  rw [codes_eq]
  intro c hc
  simp only [codes1, List.mem_cons, List.not_mem_nil, or_false] at hc
  rcases hc with rfl | rfl | rfl | rfl | rfl
  · exact w_c0
  · exact w_c1
  · exact w_c2
  · exact w_c3
  · exact w_c4
set_option maxRecDepth 65536 in
theorem w_t1 : (words1.take 24).all (fun c => isCode c || c.before args0 about1) = true := by decide +kernel
set_option maxRecDepth 65536 in
theorem w_t2 : (words1.drop 24).all (fun c => isCode c || c.before args0 about1) = true := by decide +kernel
theorem w_tables : (allAtoms (Jvm.Cond.code x code maxLocals ret :: tables_1)).before args0 about1 = true := by
  rw [allAtoms_all]
  show words1.all (fun c => c.before args0 about1) = true
  refine all_split ?_ w_codes
  rw [← List.take_append_drop 24 words1, List.all_append, w_t1, w_t2]
  rfl
set_option maxRecDepth 65536 in
theorem w_case : (Jvm.Cond.and given_1 narrow_1).before args0 about1 = true := by decide +kernel
theorem w_applies : (headSpec (Jvm.Cond.code x code maxLocals ret :: tables_1) room_1).applies x e0.platform about1 = true :=
  (Spec.applies_iff w_frames).mpr ⟨w_running, w_runnable, w_alone, w_named, w_hears, w_ripe, w_room, w_tables⟩
theorem atStart : AtStart classFile x code maxLocals ret World_1 tables_1 room_1 Calls_1 rest_1 Pre_1 launch0 p0 e0 about1 theMethod args0 below0 :=
  ⟨lists_1, trivial, launch0.admits_env _ _ _, launch0.least_env, fairChoices_fair.cas, fairChoices_fair.clock, w_frames, w_args, w_heap, w_applies, trivial, trivial, w_case⟩
end start1
theorem witness_1 : WitnessClaimed_1 := ⟨start1.p0, start1.e0, start1.about1, start1.theMethod, start1.args0, start1.below0, start1.atStart⟩
end Jvm.Pilot.@@N@@
